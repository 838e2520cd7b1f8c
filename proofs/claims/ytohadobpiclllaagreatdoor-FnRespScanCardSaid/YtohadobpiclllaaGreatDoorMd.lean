/- The long decimals of ParseFloat, in plain words: the shift to the left keeps a decimal in order. The long decimals of ParseFloat, in plain words: the shift to the right keeps a decimal in order. -/
import Derived.Test.YtohadobpiclllaaGreatDoorMc
namespace Go.Proofs.YtohadobpiclllaaGreatDoor
section
open Go.RowKit
set_option linter.unusedVariables false
set_option linter.unusedSimpArgs false

/-- A decimal in order: digits, and no nought ahead. -/
def Good (S : Dec) : Prop := DigOK S ∧ 1 ≤ S.nd ∧ 49 ≤ S.d 0

theorem topv_eq {d e : Nat → Int} : ∀ r, (∀ i, i < r → d i = e i) → topv d r = topv e r
  | 0, _ => rfl
  | r + 1, h => by rw [topv, topv, topv_eq r (fun i hi => h i (by omega)), h r (by omega)]
theorem topv_lo (d : Nat → Int) (i : Nat) : ∀ j, topv d i * 10 ^ j ≤ topv d (i + j)
  | 0 => by simp
  | j + 1 => by
    have := topv_lo d i j
    rw [show i + (j + 1) = (i + j) + 1 by omega, topv, Nat.pow_succ, ← Nat.mul_assoc]
    omega
theorem topv_hi {d : Nat → Int} (i : Nat) : ∀ j, (∀ x, i ≤ x → x < i + j → 48 ≤ d x ∧ d x ≤ 57) → topv d (i + j) < (topv d i + 1) * 10 ^ j
  | 0, _ => by simp
  | j + 1, h => by
    have h1 := topv_hi i j (fun x hx hx2 => h x hx (by omega))
    have h2 := h (i + j) (by omega) (by omega)
    rw [show i + (j + 1) = (i + j) + 1 by omega, topv, Nat.pow_succ, ← Nat.mul_assoc]
    omega

/-- What the comparison with the cheat sheet says. -/
theorem preL_spec {d : Nat → Int} {nd : Nat} {c : ByteArray} (hd : ∀ i, i < nd → 48 ≤ d i ∧ d i ≤ 57) (hc : ∀ i, i < c.size → 48 ≤ cb c i ∧ cb c i ≤ 57) (hl : 49 ≤ cb c (c.size - 1)) :
    ∀ f i : Nat, f + i = c.size → i ≤ nd → topv d i = topv (cb c) i →
      (preL d nd c f i = true → topv d nd * 10 ^ c.size < topv (cb c) c.size * 10 ^ nd) ∧ (preL d nd c f i = false → topv (cb c) c.size * 10 ^ nd ≤ topv d nd * 10 ^ c.size)
  | 0, i, hf, hi, he => by
    refine ⟨fun h => (by cases h), fun _ => ?_⟩
    have hic : i = c.size := by omega
    subst hic
    have h1 := topv_lo d c.size (nd - c.size)
    rw [show c.size + (nd - c.size) = nd by omega, he] at h1
    calc topv (cb c) c.size * 10 ^ nd = topv (cb c) c.size * 10 ^ (nd - c.size) * 10 ^ c.size := by rw [Nat.mul_assoc, ← Nat.pow_add]; congr 2; omega
      _ ≤ _ := Nat.mul_le_mul_right _ h1
  | f + 1, i, hf, hi, he => by
    rw [preL]
    have hic : i < c.size := by omega
    by_cases hn : nd ≤ i
    · rw [if_pos hn]
      refine ⟨fun _ => ?_, fun h => (by cases h)⟩
      have hin : i = nd := by omega
      subst hin
      have h1 := topv_lo (cb c) i (c.size - 1 - i)
      have h2 : topv (cb c) c.size = topv (cb c) (c.size - 1) * 10 + (cb c (c.size - 1) - 48).toNat := by
        conv => lhs; rw [show c.size = (c.size - 1) + 1 by omega, topv]
      rw [show i + (c.size - 1 - i) = c.size - 1 by omega, ← he] at h1
      have h3 : topv d i * 10 ^ (c.size - i) < topv (cb c) c.size := by
        rw [h2, show c.size - i = (c.size - 1 - i) + 1 by omega, Nat.pow_succ, ← Nat.mul_assoc]
        omega
      calc topv d i * 10 ^ c.size = topv d i * 10 ^ (c.size - i) * 10 ^ i := by rw [Nat.mul_assoc, ← Nat.pow_add]; congr 2; omega
        _ < _ := Nat.mul_lt_mul_of_pos_right h3 (Nat.pow_pos (by decide))
    · rw [if_neg hn]
      by_cases hq : d i = cb c i
      · rw [if_pos hq]
        exact preL_spec hd hc hl f (i + 1) (by omega) (by omega) (by rw [topv, topv, he, hq])
      · rw [if_neg hq]
        have hdi := hd i (by omega)
        have hci := hc i hic
        have e1 : nd = (i + 1) + (nd - (i + 1)) := by omega
        have e2 : c.size = (i + 1) + (c.size - (i + 1)) := by omega
        have ex : 10 ^ (nd - (i + 1)) * 10 ^ c.size = 10 ^ (c.size - (i + 1)) * 10 ^ nd := by rw [← Nat.pow_add, ← Nat.pow_add]; congr 1; omega
        refine ⟨fun h => ?_, fun h => ?_⟩
        · have hlt : d i < cb c i := of_decide_eq_true h
          have h1 := topv_hi (d := d) (i + 1) (nd - (i + 1)) (fun x _ hx => hd x (by omega))
          have h2 := topv_lo (cb c) (i + 1) (c.size - (i + 1))
          rw [← e1] at h1
          rw [← e2] at h2
          have h3 : topv d (i + 1) + 1 ≤ topv (cb c) (i + 1) := by rw [topv, topv, he]; omega
          calc topv d nd * 10 ^ c.size < (topv d (i + 1) + 1) * 10 ^ (nd - (i + 1)) * 10 ^ c.size := Nat.mul_lt_mul_of_pos_right h1 (Nat.pow_pos (by decide))
            _ = (topv d (i + 1) + 1) * (10 ^ (c.size - (i + 1)) * 10 ^ nd) := by rw [Nat.mul_assoc, ex]
            _ ≤ topv (cb c) (i + 1) * (10 ^ (c.size - (i + 1)) * 10 ^ nd) := Nat.mul_le_mul_right _ h3
            _ = topv (cb c) (i + 1) * 10 ^ (c.size - (i + 1)) * 10 ^ nd := by rw [Nat.mul_assoc]
            _ ≤ _ := Nat.mul_le_mul_right _ h2
        · have hlt : ¬ d i < cb c i := of_decide_eq_false h
          have h1 := topv_hi (d := cb c) (i + 1) (c.size - (i + 1)) (fun x _ hx => hc x (by omega))
          have h2 := topv_lo d (i + 1) (nd - (i + 1))
          rw [← e2] at h1
          rw [← e1] at h2
          have h3 : topv (cb c) (i + 1) + 1 ≤ topv d (i + 1) := by rw [topv, topv, he]; omega
          calc topv (cb c) c.size * 10 ^ nd ≤ (topv (cb c) (i + 1) + 1) * 10 ^ (c.size - (i + 1)) * 10 ^ nd := Nat.mul_le_mul_right _ (Nat.le_of_lt h1)
            _ = (topv (cb c) (i + 1) + 1) * (10 ^ (nd - (i + 1)) * 10 ^ c.size) := by rw [Nat.mul_assoc, ← ex]
            _ ≤ topv d (i + 1) * (10 ^ (nd - (i + 1)) * 10 ^ c.size) := Nat.mul_le_mul_right _ h3
            _ = topv d (i + 1) * 10 ^ (nd - (i + 1)) * 10 ^ c.size := by rw [Nat.mul_assoc]
            _ ≤ _ := Nat.mul_le_mul_right _ h2

/-- A row of the cheat sheet, checked. -/
def rowOK (k : Nat) : Bool := decide (1 ≤ cheatD k) && decide (cheatD k ≤ 30) && decide ((cheatC k).size ≤ 100) && decide (1 ≤ (cheatC k).size) && decide ((cheatC k).size + cheatD k = k + 1) && decide (topv (cb (cheatC k)) (cheatC k).size = 5 ^ k) &&
  (List.range (cheatC k).size).all (fun i => decide (48 ≤ cb (cheatC k) i) && decide (cb (cheatC k) i ≤ 57)) && decide (49 ≤ cb (cheatC k) ((cheatC k).size - 1)) && decide (2 ^ k ≤ 10 ^ cheatD k) && decide (10 ^ (cheatD k - 1) ≤ 2 ^ k)
theorem rows_ok : (List.range 60).all (fun k => rowOK (k + 1)) = true := by kernel_rfl
theorem row_ok (k : Nat) (h1 : 1 ≤ k) (h2 : k ≤ 60) : rowOK k = true := by
  have := List.all_eq_true.1 rows_ok (k - 1) (by simp; omega)
  rwa [show k - 1 + 1 = k by omega] at this

theorem upd_same (d : Nat → Int) (i : Nat) (x : Int) : upd d i x i = x := by unfold upd; rw [if_pos rfl]
theorem upd_ne {d : Nat → Int} {i j : Nat} {x : Int} (h : j ≠ i) : upd d i x j = d j := by unfold upd; rw [if_neg h]

theorem ls1_spec {k dl : Nat} : ∀ (r : Nat) (d : Nat → Int) (n : Nat) (t : Bool), (∀ i, i < r → 48 ≤ d i ∧ d i ≤ 57) → topv d r * 2 ^ k + n < 10 ^ (r + dl) → (1 ≤ r + dl → 10 ^ (r + dl - 1) ≤ topv d r * 2 ^ k + n) →
    (ls1 k dl r d n t).2.1 < 10 ^ dl ∧ (1 ≤ dl → 10 ^ (dl - 1) ≤ (ls1 k dl r d n t).2.1) ∧ (∀ i, dl ≤ i → i < r + dl → i < 800 → 48 ≤ (ls1 k dl r d n t).1 i ∧ (ls1 k dl r d n t).1 i ≤ 57) ∧
    (∀ i, i < dl ∨ r + dl ≤ i → (ls1 k dl r d n t).1 i = d i) ∧ (dl = 0 → 1 ≤ r → 48 + (d 0 - 48) * (2 ^ k : Nat) ≤ (ls1 k dl r d n t).1 0)
  | 0, d, n, t, _, h1, h2 => by
    rw [ls1]
    rw [topv, Nat.zero_mul, Nat.zero_add, Nat.zero_add] at h1
    refine ⟨h1, fun h => ?_, fun i h3 h4 => by omega, fun _ _ => rfl, fun _ h => by omega⟩
    have := h2 (by omega)
    rw [topv, Nat.zero_mul, Nat.zero_add, Nat.zero_add] at this
    exact this
  | r + 1, d, n, t, hd, h1, h2 => by
    obtain ⟨g, hg⟩ : ∃ g, g = (d r - 48).toNat := ⟨_, rfl⟩
    have hdr := hd r (by omega)
    have hg9 : g ≤ 9 := by omega
    obtain ⟨N, hN⟩ : ∃ N, N = n + g * 2 ^ k := ⟨_, rfl⟩
    have e : topv d (r + 1) * 2 ^ k + n = topv d r * 2 ^ k * 10 + N := by
      rw [topv, ← hg, hN, Nat.add_mul, Nat.mul_right_comm]; omega
    have e2 : 10 ^ (r + 1 + dl) = 10 ^ (r + dl) * 10 := by rw [show r + 1 + dl = r + dl + 1 by omega, Nat.pow_succ]
    rw [e] at h1 h2
    rw [e2] at h1
    have b1 : topv d r * 2 ^ k + N / 10 < 10 ^ (r + dl) := by omega
    have b2 : 1 ≤ r + dl → 10 ^ (r + dl - 1) ≤ topv d r * 2 ^ k + N / 10 := fun h => by
      have h3 := h2 (by omega)
      rw [show r + 1 + dl - 1 = (r + dl - 1) + 1 by omega, Nat.pow_succ] at h3
      omega
    have hN0 : r = 0 → dl = 0 → N < 10 := fun h h' => by
      subst h h'
      rw [topv, Nat.zero_mul, Nat.zero_mul, Nat.zero_add] at h1
      simpa using h1
    rw [ls1, ← hg, ← hN]
    by_cases hw : r + dl < 800
    · rw [if_pos hw]
      have et : topv (upd d (r + dl) (48 + ((N % 10 : Nat) : Int))) r = topv d r := topv_eq r (fun i hi => upd_ne (by omega))
      obtain ⟨i1, i2, i3, i4, i5⟩ := ls1_spec r (upd d (r + dl) (48 + ((N % 10 : Nat) : Int))) (N / 10) t (fun i hi => by rw [upd_ne (by omega)]; exact hd i (by omega)) (by rw [et]; exact b1) (fun h => by rw [et]; exact b2 h)
      refine ⟨i1, i2, fun i h3 h4 h5 => ?_, fun i hi => ?_, fun h0 _ => ?_⟩
      · by_cases hir : i = r + dl
        · subst hir
          rw [i4 _ (.inr (Nat.le_refl _)), upd_same]
          omega
        · exact i3 i h3 (by omega) h5
      · rw [i4 i (by omega), upd_ne (by omega)]
      · rcases Nat.eq_zero_or_pos r with hr | hr
        · subst hr
          have := hN0 rfl h0
          have hz0 : (0 : Nat) + dl = 0 := by omega
          rw [i4 0 (.inr (by omega)), hz0, upd_same]
          have hgz : d 0 - 48 = (g : Int) := by omega
          rw [hgz]
          have hm : ((g * 2 ^ k : Nat) : Int) = (g : Int) * ((2 ^ k : Nat) : Int) := by push_cast; rfl
          rw [← hm]
          omega
        · have := i5 h0 hr
          rw [upd_ne (by omega)] at this
          exact this
    · rw [if_neg hw]
      obtain ⟨i1, i2, i3, i4, i5⟩ := ls1_spec r d (N / 10) (t || decide (N % 10 ≠ 0)) (fun i hi => hd i (by omega)) b1 b2
      refine ⟨i1, i2, fun i h3 h4 h5 => i3 i h3 (by omega) h5, fun i hi => i4 i (by omega), fun h0 _ => i5 h0 (by omega)⟩

theorem ls2_spec : ∀ (w : Nat) (d : Nat → Int) (n : Nat) (t : Bool), w ≤ 800 → n < 10 ^ w → (1 ≤ w → 10 ^ (w - 1) ≤ n) →
    (∀ i, i < w → 48 ≤ (ls2 w d n t).1 i ∧ (ls2 w d n t).1 i ≤ 57) ∧ (1 ≤ w → 49 ≤ (ls2 w d n t).1 0) ∧ (∀ i, w ≤ i → (ls2 w d n t).1 i = d i)
  | 0, d, n, t, _, _, _ => by
    rw [ls2]
    exact ⟨fun i hi => by omega, fun h => by omega, fun _ _ => rfl⟩
  | w + 1, d, n, t, hw, h1, h2 => by
    have h3 := h2 (by omega)
    rw [Nat.add_sub_cancel] at h3
    have hp : 0 < 10 ^ w := Nat.pow_pos (by decide)
    rw [ls2, if_neg (by omega), if_pos (by omega)]
    rw [Nat.pow_succ] at h1
    obtain ⟨i1, i2, i3⟩ := ls2_spec w (upd d w (48 + ((n % 10 : Nat) : Int))) (n / 10) t (by omega) (by omega) (fun h => by
      rw [show w = (w - 1) + 1 by omega, Nat.pow_succ] at h3
      omega)
    refine ⟨fun i hi => ?_, fun _ => ?_, fun i hi => ?_⟩
    · by_cases hiw : i = w
      · subst hiw
        rw [i3 _ (Nat.le_refl _), upd_same]
        omega
      · exact i1 i (by omega)
    · rcases Nat.eq_zero_or_pos w with h0 | h0
      · subst h0
        rw [i3 0 (Nat.le_refl _), upd_same]
        have : n < 10 := by simpa using h1
        have : 1 ≤ n := by simpa using h3
        omega
      · exact i2 h0
    · rw [i3 i (by omega), upd_ne (by omega)]

theorem trimN_pos {d : Nat → Int} (h : d 0 ≠ 48) : ∀ n, 1 ≤ n → 1 ≤ trimN d n
  | 0, hn => by omega
  | n + 1, _ => by
    rw [trimN]
    split
    · rename_i he
      rcases Nat.eq_zero_or_pos n with h0 | h0
      · subst h0; exact absurd he h
      · exact trimN_pos h n h0
    · omega

theorem Dec.trim_good {S : Dec} (h8 : S.nd ≤ 800) (hd : ∀ i, i < S.nd → 48 ≤ S.d i ∧ S.d i ≤ 57) (h1 : 1 ≤ S.nd) (h0 : 49 ≤ S.d 0) : Good S.trim ∧ S.trim.dp = S.dp ∧ S.trim.d = S.d := by
  have hp := trimN_pos (d := S.d) (by omega) S.nd h1
  have hl := trimN_le S.d S.nd
  refine ⟨⟨⟨by show trimN _ _ ≤ 800; omega, fun i hi => hd i (by have : i < trimN S.d S.nd := hi; omega)⟩, hp, h0⟩, ?_, rfl⟩
  show (if trimN S.d S.nd = 0 then (0 : Int) else S.dp) = S.dp
  rw [if_neg (by omega)]

/-- What the shift to the left does. -/
theorem lshift_spec {S : Dec} {k : Nat} (hG : Good S) (hk1 : 1 ≤ k) (hk : k ≤ 60) :
    topv S.d S.nd * 2 ^ k < 10 ^ (S.nd + dlt k S) ∧ Good (lshift k S) ∧ (lshift k S).dp = S.dp + dlt k S ∧ (dlt k S = cheatD k ∨ dlt k S = cheatD k - 1) ∧ (dlt k S = 0 → 48 + (S.d 0 - 48) * (2 ^ k : Nat) ≤ (lshift k S).d 0) := by
  obtain ⟨⟨hn8, hd⟩, hn1, h0⟩ := hG
  have hrow := row_ok k hk1 hk
  simp only [rowOK, Bool.and_eq_true, decide_eq_true_eq, List.all_eq_true, List.mem_range] at hrow
  obtain ⟨⟨⟨⟨⟨⟨⟨⟨⟨r1, r2⟩, r3⟩, r4⟩, r5⟩, r6⟩, r7⟩, r8⟩, r9⟩, r10⟩ := hrow
  have hpre := preL_spec hd r7 r8 (cheatC k).size 0 (by omega) (by omega) rfl
  have hMhi := topv_hi (d := S.d) 0 S.nd (fun x _ hx => hd x (by omega))
  rw [Nat.zero_add, topv, Nat.zero_add, Nat.one_mul] at hMhi
  have hMlo : 10 ^ (S.nd - 1) ≤ topv S.d S.nd := by
    have h1 := topv_lo S.d 1 (S.nd - 1)
    rw [show 1 + (S.nd - 1) = S.nd by omega, topv, topv] at h1
    have h2 : 1 ≤ 0 * 10 + (S.d 0 - 48).toNat := by omega
    exact Nat.le_trans (by have := Nat.mul_le_mul_right (10 ^ (S.nd - 1)) h2; omega) h1
  have e10 : (10 : Nat) ^ k = 2 ^ k * 5 ^ k := by rw [← Nat.mul_pow]
  have hdl : dlt k S = cheatD k ∨ dlt k S = cheatD k - 1 := by
    unfold dlt
    split
    · exact .inr rfl
    · exact .inl rfl
  have hlt : topv S.d S.nd * 2 ^ k < 10 ^ (S.nd + dlt k S) ∧ 10 ^ (S.nd + dlt k S - 1) ≤ topv S.d S.nd * 2 ^ k := by
    rw [r6] at hpre
    unfold dlt
    cases hb : preL S.d S.nd (cheatC k) (cheatC k).size 0
    · rw [if_neg (by decide)]
      have h1 := hpre.2 hb
      refine ⟨?_, ?_⟩
      · calc topv S.d S.nd * 2 ^ k < 10 ^ S.nd * 2 ^ k := Nat.mul_lt_mul_of_pos_right hMhi (Nat.two_pow_pos k)
          _ ≤ 10 ^ S.nd * 10 ^ cheatD k := Nat.mul_le_mul_left _ r9
          _ = _ := by rw [← Nat.pow_add]
      · have h2 : 10 ^ (S.nd + cheatD k - 1) * 10 ^ (cheatC k).size ≤ topv S.d S.nd * 2 ^ k * 10 ^ (cheatC k).size := by
          calc 10 ^ (S.nd + cheatD k - 1) * 10 ^ (cheatC k).size = 10 ^ k * 10 ^ S.nd := by rw [← Nat.pow_add, ← Nat.pow_add]; congr 1; omega
            _ = 2 ^ k * (5 ^ k * 10 ^ S.nd) := by rw [e10, Nat.mul_assoc]
            _ ≤ 2 ^ k * (topv S.d S.nd * 10 ^ (cheatC k).size) := Nat.mul_le_mul_left _ h1
            _ = _ := by rw [← Nat.mul_assoc, Nat.mul_comm (2 ^ k)]
        exact Nat.le_of_mul_le_mul_right h2 (Nat.pow_pos (by decide))
    · rw [if_pos rfl]
      have h1 := hpre.1 hb
      refine ⟨?_, ?_⟩
      · have h2 : topv S.d S.nd * 2 ^ k * 10 ^ (cheatC k).size < 10 ^ (S.nd + (cheatD k - 1)) * 10 ^ (cheatC k).size := by
          calc topv S.d S.nd * 2 ^ k * 10 ^ (cheatC k).size = 2 ^ k * (topv S.d S.nd * 10 ^ (cheatC k).size) := by rw [← Nat.mul_assoc, Nat.mul_comm (2 ^ k)]
            _ < 2 ^ k * (5 ^ k * 10 ^ S.nd) := Nat.mul_lt_mul_of_pos_left h1 (Nat.two_pow_pos k)
            _ = 10 ^ k * 10 ^ S.nd := by rw [e10, Nat.mul_assoc]
            _ = _ := by rw [← Nat.pow_add, ← Nat.pow_add]; congr 1; omega
        exact Nat.lt_of_mul_lt_mul_right h2
      · calc 10 ^ (S.nd + (cheatD k - 1) - 1) = 10 ^ (S.nd - 1) * 10 ^ (cheatD k - 1) := by rw [← Nat.pow_add]; congr 1; omega
          _ ≤ 10 ^ (S.nd - 1) * 2 ^ k := Nat.mul_le_mul_left _ r10
          _ ≤ _ := Nat.mul_le_mul_right _ hMlo
  obtain ⟨i1, i2, i3, i4, i5⟩ := ls1_spec (k := k) (dl := dlt k S) S.nd S.d 0 S.tr hd (by simpa using hlt.1) (fun _ => by simpa using hlt.2)
  have hdl30 : dlt k S ≤ 30 := by omega
  obtain ⟨j1, j2, j3⟩ := ls2_spec (dlt k S) (ls1 k (dlt k S) S.nd S.d 0 S.tr).1 (ls1 k (dlt k S) S.nd S.d 0 S.tr).2.1 (ls1 k (dlt k S) S.nd S.d 0 S.tr).2.2 (by omega) i1 i2
  obtain ⟨D, hD⟩ : ∃ D, D = (ls2 (dlt k S) (ls1 k (dlt k S) S.nd S.d 0 S.tr).1 (ls1 k (dlt k S) S.nd S.d 0 S.tr).2.1 (ls1 k (dlt k S) S.nd S.d 0 S.tr).2.2).1 := ⟨_, rfl⟩
  have hD0 : 49 ≤ D 0 := by
    rw [hD]
    rcases Nat.eq_zero_or_pos (dlt k S) with hz | hz
    · rw [j3 0 (by omega)]
      have h5 := i5 hz hn1
      have h6 : (1 : Int) ≤ (S.d 0 - 48) * ((2 ^ k : Nat) : Int) := by
        have ha : (1 : Int) ≤ S.d 0 - 48 := by omega
        have hb : (1 : Int) ≤ ((2 ^ k : Nat) : Int) := by have := Nat.two_pow_pos k; omega
        calc (1 : Int) = 1 * 1 := by decide
          _ ≤ _ := Int.mul_le_mul ha hb (by decide) (by omega)
      omega
    · exact j2 hz
  have hDd : ∀ i, i < min (S.nd + dlt k S) 800 → 48 ≤ D i ∧ D i ≤ 57 := fun i hi => by
    rw [hD]
    by_cases hid : i < dlt k S
    · exact j1 i hid
    · rw [j3 i (by omega)]
      exact i3 i (by omega) (by omega) (by omega)
  have hT := Dec.trim_good (S := { d := D, nd := min (S.nd + dlt k S) 800, dp := S.dp + dlt k S, tr := (ls2 (dlt k S) (ls1 k (dlt k S) S.nd S.d 0 S.tr).1 (ls1 k (dlt k S) S.nd S.d 0 S.tr).2.1 (ls1 k (dlt k S) S.nd S.d 0 S.tr).2.2).2 }) (by show min _ _ ≤ _; omega) hDd (by show 1 ≤ min _ _; omega) hD0
  have eL : lshift k S = Dec.trim { d := D, nd := min (S.nd + dlt k S) 800, dp := S.dp + dlt k S, tr := (ls2 (dlt k S) (ls1 k (dlt k S) S.nd S.d 0 S.tr).1 (ls1 k (dlt k S) S.nd S.d 0 S.tr).2.1 (ls1 k (dlt k S) S.nd S.d 0 S.tr).2.2).2 } := by
    unfold lshift; rw [hD]
  rw [eL]
  refine ⟨hlt.1, hT.1, hT.2.1, hdl, fun hz => ?_⟩
  rw [hT.2.2]
  show _ ≤ D 0
  rw [hD, j3 0 (by omega)]
  exact i5 hz hn1
end

section
open Go.RowKit
set_option linter.unusedVariables false
set_option linter.unusedSimpArgs false

theorem div9 {n k : Nat} (h : n < 10 * 2 ^ k) : n / 2 ^ k ≤ 9 := by
  have := Nat.div_lt_of_lt_mul (show n < 2 ^ k * 10 by omega)
  omega
theorem mod_next {n k : Nat} : n % 2 ^ k * 10 + 9 < 10 * 2 ^ k := by
  have := Nat.mod_lt n (Nat.two_pow_pos k)
  omega

theorem rs2_spec {k : Nat} : ∀ (c r : Nat) (d : Nat → Int) (w n : Nat), (∀ i, r ≤ i → i < r + c → 48 ≤ d i ∧ d i ≤ 57) → w ≤ r → n < 10 * 2 ^ k →
    (rs2 k c r d w n).2.1 = w + c ∧ (rs2 k c r d w n).2.2 < 10 * 2 ^ k ∧ (∀ i, i < w → (rs2 k c r d w n).1 i = d i) ∧ (∀ i, w ≤ i → i < w + c → 48 ≤ (rs2 k c r d w n).1 i ∧ (rs2 k c r d w n).1 i ≤ 57) ∧
    (1 ≤ c → (rs2 k c r d w n).1 w = ((n / 2 ^ k : Nat) : Int) + 48) ∧ (c = 0 → (rs2 k c r d w n).2.2 = n)
  | 0, r, d, w, n, _, _, hn => by
    rw [rs2]
    exact ⟨rfl, hn, fun _ _ => rfl, fun i h1 h2 => by omega, fun h => by omega, fun _ => rfl⟩
  | c + 1, r, d, w, n, hd, hw, hn => by
    have hdr := hd r (by omega) (by omega)
    have h9 := div9 hn
    have hm := mod_next (n := n) (k := k)
    rw [rs2]
    obtain ⟨i1, i2, i3, i4, i5, i6⟩ := rs2_spec (k := k) c (r + 1) (upd d w (((n / 2 ^ k : Nat) : Int) + 48)) (w + 1) (n % 2 ^ k * 10 + (d r - 48).toNat) (fun i h1 h2 => by rw [upd_ne (by omega)]; exact hd i (by omega) (by omega)) (by omega) (by omega)
    refine ⟨by rw [i1]; omega, i2, fun i hi => by rw [i3 i (by omega), upd_ne (by omega)], fun i h1 h2 => ?_, fun _ => by rw [i3 w (by omega), upd_same], fun h => by omega⟩
    by_cases hiw : i = w
    · subst hiw
      rw [i3 _ (by omega), upd_same]
      generalize n / 2 ^ k = q at h9 ⊢
      omega
    · exact i4 i (by omega) (by omega)

theorem rs3_spec {k : Nat} : ∀ (f : Nat) (d : Nat → Int) (w n : Nat) (t : Bool), w ≤ 800 → n < 10 * 2 ^ k →
    w ≤ (rs3 k f d w n t).2.1 ∧ (rs3 k f d w n t).2.1 ≤ 800 ∧ (∀ i, i < w → (rs3 k f d w n t).1 i = d i) ∧ (∀ i, w ≤ i → i < (rs3 k f d w n t).2.1 → 48 ≤ (rs3 k f d w n t).1 i ∧ (rs3 k f d w n t).1 i ≤ 57) ∧
    (n ≠ 0 → 1 ≤ f → w < 800 → w + 1 ≤ (rs3 k f d w n t).2.1 ∧ (rs3 k f d w n t).1 w = ((n / 2 ^ k : Nat) : Int) + 48)
  | 0, d, w, n, t, hw, _ => by
    rw [rs3]
    exact ⟨Nat.le_refl _, hw, fun _ _ => rfl, fun i h1 h2 => absurd h2 (by show ¬ i < w; omega), fun _ h => by omega⟩
  | f + 1, d, w, n, t, hw, hn => by
    have h9 := div9 hn
    have hm := mod_next (n := n) (k := k)
    rw [rs3]
    by_cases hz : n = 0
    · rw [if_pos hz]
      exact ⟨Nat.le_refl _, hw, fun _ _ => rfl, fun i h1 h2 => absurd h2 (by show ¬ i < w; omega), fun h => absurd hz h⟩
    · rw [if_neg hz]
      by_cases h8 : w < 800
      · rw [if_pos h8]
        obtain ⟨i1, i2, i3, i4, i5⟩ := rs3_spec (k := k) f (upd d w (((n / 2 ^ k : Nat) : Int) + 48)) (w + 1) (n % 2 ^ k * 10) t (by omega) (by omega)
        refine ⟨by omega, i2, fun i hi => by rw [i3 i (by omega), upd_ne (by omega)], fun i h1 h2 => ?_, fun _ _ _ => ⟨i1, by rw [i3 w (by omega), upd_same]⟩⟩
        by_cases hiw : i = w
        · subst hiw
          rw [i3 _ (by omega), upd_same]
          generalize n / 2 ^ k = q at h9 ⊢
          omega
        · exact i4 i (by omega) h2
      · rw [if_neg h8]
        obtain ⟨i1, i2, i3, i4, i5⟩ := rs3_spec (k := k) f d w (n % 2 ^ k * 10) (t || decide (n / 2 ^ k > 0)) hw (by omega)
        exact ⟨i1, i2, i3, i4, fun _ _ h => absurd h h8⟩

theorem good_nv1 {S : Dec} (hG : Good S) : 1 ≤ nv S 1 ∧ nv S 1 = (S.d 0 - 48).toNat := by
  obtain ⟨⟨_, hd⟩, h1, h0⟩ := hG
  have : nv S 1 = (S.d 0 - 48).toNat := by rw [nv, nv, if_pos (by omega)]; omega
  exact ⟨by omega, this⟩

/-- What the shift to the right does. -/
theorem rshift_spec {S : Dec} {k R : Nat} (hG : Good S) (hk1 : 1 ≤ k) (hR : Needs k R S) :
    Good (rshift k R S) ∧ (rshift k R S).dp = S.dp - ((R : Int) - 1) ∧ (rshift k R S).d 0 = ((nv S R / 2 ^ k : Nat) : Int) + 48 := by
  obtain ⟨⟨hn8, hd⟩, hn1, h0⟩ := hG
  have hR1 := needs_pos hR
  have hR64 := nv_lt ⟨hn8, hd⟩ hR hR1
  have h9 := div9 hR64
  have hq : 1 ≤ nv S R / 2 ^ k := (Nat.one_le_div_iff (Nat.two_pow_pos k)).2 hR.1
  have hnz : nv S R ≠ 0 := by have := Nat.two_pow_pos k; have := hR.1; omega
  obtain ⟨i1, i2, i3, i4, i5, i6⟩ := rs2_spec (k := k) (S.nd - R) R S.d 0 (nv S R) (fun i h1 h2 => hd i (by omega)) (by omega) hR64
  rw [Nat.zero_add] at i1 i4
  obtain ⟨X, hX⟩ : ∃ X, X = rs2 k (S.nd - R) R S.d 0 (nv S R) := ⟨_, rfl⟩
  rw [← hX] at i1 i2 i3 i4 i5 i6
  obtain ⟨j1, j2, j3, j4, j5⟩ := rs3_spec (k := k) (k + 1) X.1 X.2.1 X.2.2 S.tr (by omega) i2
  obtain ⟨Y, hY⟩ : ∃ Y, Y = rs3 k (k + 1) X.1 X.2.1 X.2.2 S.tr := ⟨_, rfl⟩
  rw [← hY] at j1 j2 j3 j4 j5
  have hY0 : Y.1 0 = ((nv S R / 2 ^ k : Nat) : Int) + 48 ∧ 1 ≤ Y.2.1 := by
    rcases Nat.eq_zero_or_pos (S.nd - R) with hz | hz
    · have h6 := i6 hz
      have h7 := j5 (by rw [h6]; exact hnz) (by omega) (by omega)
      rw [i1, hz] at h7
      rw [h6] at h7
      exact ⟨h7.2, h7.1⟩
    · exact ⟨by rw [j3 0 (by omega)]; exact i5 hz, by omega⟩
  have hYd : ∀ i, i < Y.2.1 → 48 ≤ Y.1 i ∧ Y.1 i ≤ 57 := fun i hi => by
    by_cases h : i < X.2.1
    · rw [j3 i h]; exact i4 i (by omega) (by omega)
    · exact j4 i (by omega) hi
  have hT := Dec.trim_good (S := { d := Y.1, nd := Y.2.1, dp := S.dp - ((R : Int) - 1), tr := Y.2.2 }) j2 hYd hY0.2 (by show 49 ≤ Y.1 0; rw [hY0.1]; omega)
  have eL : rshift k R S = Dec.trim { d := Y.1, nd := Y.2.1, dp := S.dp - ((R : Int) - 1), tr := Y.2.2 } := by
    unfold rshift; rw [← hX, ← hY]
  rw [eL]
  exact ⟨hT.1, hT.2.1, by rw [hT.2.2]; exact hY0.1⟩

theorem nv_grow {S : Dec} (h : 1 ≤ nv S 1) : ∀ r, 10 ^ r ≤ nv S (r + 1)
  | 0 => by simpa using h
  | r + 1 => by
    have := nv_grow h r
    rw [nv, Nat.pow_succ]
    omega

theorem needs_exists {S : Dec} {k : Nat} (hG : Good S) (hk : k ≤ 60) : ∃ R, Needs k R S ∧ R ≤ 20 := by
  have h20 : 2 ^ k ≤ nv S 20 := by
    have h1 := nv_grow (good_nv1 hG).1 19
    have h2 : 2 ^ k ≤ 2 ^ 60 := Nat.pow_le_pow_right (by omega) hk
    have h3 : (2 : Nat) ^ 60 ≤ 10 ^ 19 := by decide
    exact Nat.le_trans (Nat.le_trans h2 h3) h1
  have : ∀ m : Nat, m ≤ 20 → (∀ j, j < m → nv S j < 2 ^ k) → ∃ R, Needs k R S ∧ R ≤ 20 := by
    intro m hm hj
    obtain ⟨e, he⟩ : ∃ e, e = 20 - m := ⟨_, rfl⟩
    induction e generalizing m with
    | zero =>
      have : m = 20 := by omega
      subst this
      exact ⟨20, ⟨h20, hj⟩, Nat.le_refl _⟩
    | succ e ih =>
      by_cases h : 2 ^ k ≤ nv S m
      · exact ⟨m, ⟨h, hj⟩, hm⟩
      · exact ih (m + 1) (by omega) (fun j hj' => by
          by_cases hjm : j = m
          · subst hjm; omega
          · exact hj j (by omega)) (by omega)
  exact this 0 (by omega) (fun j hj => by omega)

open Classical in
/-- How many digits a shift to the right needs first. -/
noncomputable def need (k : Nat) (S : Dec) : Nat := if h : ∃ R, Needs k R S ∧ R ≤ 20 then Classical.choose h else 0
theorem need_spec {S : Dec} {k : Nat} (hG : Good S) (hk : k ≤ 60) : Needs k (need k S) S ∧ need k S ≤ 20 := by
  have h := needs_exists hG hk
  unfold need
  rw [dif_pos h]
  exact Classical.choose_spec h
/-- The shift to the right, by at most sixty. -/
noncomputable def rsh (k : Nat) (S : Dec) : Dec := rshift k (need k S) S
theorem rsh_good {S : Dec} {k : Nat} (hG : Good S) (hk1 : 1 ≤ k) (hk : k ≤ 60) : Good (rsh k S) ∧ S.dp - 19 ≤ (rsh k S).dp ∧ (rsh k S).dp ≤ S.dp ∧ (4 ≤ k → (rsh k S).dp ≤ S.dp - 1) ∧ (k = 3 → (rsh k S).dp ≤ S.dp - 1 ∨ ((rsh k S).dp = S.dp ∧ (rsh k S).d 0 = 49 ∧ 56 ≤ S.d 0)) := by
  obtain ⟨hN, h20⟩ := need_spec hG hk
  obtain ⟨h1, h2, h3⟩ := rshift_spec hG hk1 hN
  have hp := needs_pos hN
  have hd0 := hG.1.2 0 (by have := hG.2.1; omega)
  refine ⟨h1, by unfold rsh; rw [h2]; omega, by unfold rsh; rw [h2]; omega, fun h4 => ?_, fun h4 => ?_⟩
  · have : 2 ≤ need k S := by
      rcases Nat.lt_or_ge (need k S) 2 with hlt | hge
      · have e1 : need k S = 1 := by omega
        have h5 := hN.1
        rw [e1, (good_nv1 hG).2] at h5
        have h6 : 2 ^ 4 ≤ 2 ^ k := Nat.pow_le_pow_right (by omega) h4
        have h7 : (2 : Nat) ^ 4 = 16 := by decide
        omega
      · exact hge
    unfold rsh; rw [h2]; omega
  · subst h4
    rcases Nat.lt_or_ge (need 3 S) 2 with hlt | hge
    · have e1 : need 3 S = 1 := by omega
      have h5 := hN.1
      rw [e1, (good_nv1 hG).2] at h5
      have h7 : (2 : Nat) ^ 3 = 8 := by decide
      rw [h7] at h5
      right
      unfold rsh
      rw [h2, h3, e1, (good_nv1 hG).2, h7]
      refine ⟨by omega, ?_, by omega⟩
      have : (S.d 0 - 48).toNat / 8 = 1 := by omega
      rw [this]; rfl
    · left; unfold rsh; rw [h2]; omega
end
end Go.Proofs.YtohadobpiclllaaGreatDoor
