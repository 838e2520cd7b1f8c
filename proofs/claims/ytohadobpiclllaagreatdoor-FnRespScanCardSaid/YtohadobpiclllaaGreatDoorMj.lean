/- The reading of a float's text, in plain words. Floats in plain words: which operations answer, and that a float32 comes back from float64 as it was. -/
import Derived.Test.YtohadobpiclllaaGreatDoorMa
import Derived.Laws.FloatArith
namespace Go.Proofs.YtohadobpiclllaaGreatDoor
section
open Go.RowKit Go.Proofs.YtohadobpiclllaaGreatDoorW.PrintWords Go.Proofs.YtohadobpiclllaaGreatDoorW.PrintMore Go.Proofs.YtohadobpiclllaaGreatDoorW.PrintLast Go.Proofs.YtohadobpiclllaaGreatDoor.PFnRespScan
attribute [local go_sem] max2_int min2_int max_two min_two max_three min_three max_four min_four
set_option linter.unusedVariables false
set_option linter.unusedSimpArgs false

theorem cb_bound (c : ByteArray) (i : Nat) : 0 ≤ cb c i ∧ cb c i ≤ 255 := by
  unfold cb
  split
  · rename_i h
    have := c[i].toNat_lt
    omega
  · omega

/-- No low line, and no x behind a nought. -/
def PlainText (c : ByteArray) : Prop := c.size ≤ 1000 ∧ ∀ i, i < c.size → cb c i ≠ 95 ∧ bits .or .u8 (cb c i) 32 ≠ 120

theorem lower_calls (x : Int) (w : World) : Calls Tryz.prog 72 #[.int .u8 x] w fun e w' => e = .returned (.int .u8 (bits .or .u8 x 32)) ∧ w' = w := by
  go_enter Tryz.func72, Tryz.ntmps72
  go_wp2
  go_ret
  exact ⟨rfl, rfl⟩

/-- What the mantissa's loop has gathered. -/
structure RF where
  i : Nat
  m : Nat
  tr : Bool
  dot : Bool
  dig : Bool
  nd : Nat
  nm : Nat
  dp : Int

def RF.isDig (x : Int) : Bool := decide (48 ≤ x) && decide (x ≤ 57)

/-- The mantissa's loop. -/
def rfGo (c : ByteArray) : Nat → RF → RF
  | 0, R => R
  | f + 1, R =>
    if R.i < c.size then
      if cb c R.i = 46 then
        if R.dot then R else rfGo c f { R with i := R.i + 1, dot := true, dp := R.nd }
      else if 48 ≤ cb c R.i ∧ cb c R.i ≤ 57 then
        if cb c R.i = 48 ∧ R.nd = 0 then rfGo c f { R with i := R.i + 1, dig := true, dp := R.dp - 1 }
        else if R.nm < 19 then rfGo c f { R with i := R.i + 1, dig := true, nd := R.nd + 1, m := R.m * 10 + (cb c R.i - 48).toNat, nm := R.nm + 1 }
        else rfGo c f { R with i := R.i + 1, dig := true, nd := R.nd + 1, tr := if cb c R.i = 48 then R.tr else true }
      else R
    else R

/-- What holds of it. -/
def RFOK (c : ByteArray) (R : RF) : Prop := R.i ≤ c.size ∧ R.nd ≤ R.i ∧ R.nm ≤ R.nd ∧ R.nm ≤ 19 ∧ R.m < 10 ^ R.nm ∧ -(R.i : Int) ≤ R.dp ∧ R.dp ≤ R.i
theorem RFOK.small {c : ByteArray} {R : RF} (h : RFOK c R) : R.m < 10000000000000000000 :=
  Nat.lt_of_lt_of_le h.2.2.2.2.1 (by have := Nat.pow_le_pow_right (n := 10) (by decide) h.2.2.2.1; exact this)
theorem RFOK.less {c : ByteArray} {R : RF} (h : RFOK c R) (h18 : R.nm < 19) : R.m < 1000000000000000000 :=
  Nat.lt_of_lt_of_le h.2.2.2.2.1 (by have := Nat.pow_le_pow_right (n := 10) (by decide) (show R.nm ≤ 18 by omega); exact this)
theorem rfGo_ok (c : ByteArray) : ∀ (f : Nat) (R : RF), RFOK c R → RFOK c (rfGo c f R)
  | 0, R, h => h
  | f + 1, R, h => by
    obtain ⟨h1, h2, h3, h4, h5, h6, h7⟩ := h
    have hR : RFOK c R := ⟨h1, h2, h3, h4, h5, h6, h7⟩
    rw [rfGo]
    split
    · split
      · split
        · exact hR
        · exact rfGo_ok c f _ ⟨by show R.i + 1 ≤ c.size; omega, by show R.nd ≤ R.i + 1; omega, h3, h4, h5, by show -((R.i + 1 : Nat) : Int) ≤ ((R.nd : Nat) : Int); omega, by show ((R.nd : Nat) : Int) ≤ ((R.i + 1 : Nat) : Int); omega⟩
      · split
        · split
          · exact rfGo_ok c f _ ⟨by show R.i + 1 ≤ c.size; omega, by show R.nd ≤ R.i + 1; omega, h3, h4, h5, by show -((R.i + 1 : Nat) : Int) ≤ R.dp - 1; omega, by show R.dp - 1 ≤ ((R.i + 1 : Nat) : Int); omega⟩
          · split
            · refine rfGo_ok c f _ ⟨by show R.i + 1 ≤ c.size; omega, by show R.nd + 1 ≤ R.i + 1; omega, by show R.nm + 1 ≤ R.nd + 1; omega, by show R.nm + 1 ≤ 19; omega, ?_, by show -((R.i + 1 : Nat) : Int) ≤ R.dp; omega, by show R.dp ≤ ((R.i + 1 : Nat) : Int); omega⟩
              show R.m * 10 + (cb c R.i - 48).toNat < 10 ^ (R.nm + 1)
              rw [Nat.pow_succ]
              omega
            · exact rfGo_ok c f _ ⟨by show R.i + 1 ≤ c.size; omega, by show R.nd + 1 ≤ R.i + 1; omega, by show R.nm ≤ R.nd + 1; omega, h4, h5, by show -((R.i + 1 : Nat) : Int) ≤ R.dp; omega, by show R.dp ≤ ((R.i + 1 : Nat) : Int); omega⟩
        · exact hR
    · exact hR

/-- The exponent's digits. -/
def exGo (c : ByteArray) : Nat → Nat → Int → Nat × Int
  | 0, i, e => (i, e)
  | f + 1, i, e =>
    if i < c.size then
      if 48 ≤ cb c i ∧ cb c i ≤ 57 then exGo c f (i + 1) (if e < 10000 then e * 10 + (cb c i - 48) else e) else (i, e)
    else (i, e)
theorem exGo_ok (c : ByteArray) : ∀ (f i : Nat) (e : Int), i ≤ c.size → 0 ≤ e → e ≤ 100000 → (exGo c f i e).1 ≤ c.size ∧ 0 ≤ (exGo c f i e).2 ∧ (exGo c f i e).2 ≤ 100000
  | 0, i, e, h1, h2, h3 => ⟨h1, h2, h3⟩
  | f + 1, i, e, h1, h2, h3 => by
    rw [exGo]
    split
    · split
      · refine exGo_ok c f _ _ (by omega) ?_ ?_
        · split <;> omega
        · split <;> omega
      · exact ⟨h1, h2, h3⟩
    · exact ⟨h1, h2, h3⟩

/-- Where the exponent's digits begin, and its sign. -/
def exAt (c : ByteArray) (k : Nat) : Nat := if cb c k = 43 then k + 1 else if cb c k = 45 then k + 1 else k
def exSg (c : ByteArray) (k : Nat) : Int := if cb c k = 45 then -1 else 1
/-- The exponent: is it in order, how far it goes, what it is. -/
def exPart (c : ByteArray) (i : Nat) : Bool × Nat × Int :=
  if i < c.size ∧ bits .or .u8 (cb c i) 32 = 101 then
    if c.size ≤ i + 1 then (false, i + 1, 0)
    else if c.size ≤ exAt c (i + 1) then (false, exAt c (i + 1), 0)
    else if cb c (exAt c (i + 1)) < 48 ∨ 57 < cb c (exAt c (i + 1)) then (false, exAt c (i + 1), 0)
    else (true, (exGo c c.size (exAt c (i + 1)) 0).1, (exGo c c.size (exAt c (i + 1)) 0).2 * exSg c (i + 1))
  else (true, i, 0)
theorem exPart_ok (c : ByteArray) (i : Nat) (h : i ≤ c.size) : (exPart c i).2.1 ≤ c.size ∧ -100000 ≤ (exPart c i).2.2 ∧ (exPart c i).2.2 ≤ 100000 := by
  unfold exPart
  split
  · rename_i h1
    have hA : ¬ c.size ≤ i + 1 → exAt c (i + 1) ≤ c.size := by
      intro h2
      unfold exAt
      split
      · omega
      · split <;> omega
    split
    · exact ⟨by show i + 1 ≤ c.size; omega, by show (-100000 : Int) ≤ 0; decide, by show (0 : Int) ≤ 100000; decide⟩
    · rename_i h2
      have hA := hA h2
      split
      · exact ⟨hA, by show (-100000 : Int) ≤ 0; decide, by show (0 : Int) ≤ 100000; decide⟩
      · split
        · exact ⟨hA, by show (-100000 : Int) ≤ 0; decide, by show (0 : Int) ≤ 100000; decide⟩
        · obtain ⟨e1, e2, e3⟩ := exGo_ok c c.size (exAt c (i + 1)) 0 hA (by decide) (by decide)
          refine ⟨e1, ?_, ?_⟩
          · show (-100000 : Int) ≤ _ * exSg c (i + 1)
            unfold exSg
            split <;> omega
          · show _ * exSg c (i + 1) ≤ (100000 : Int)
            unfold exSg
            split <;> omega
  · exact ⟨h, by show (-100000 : Int) ≤ 0; decide, by show (0 : Int) ≤ 100000; decide⟩

/-- A text's sign. -/
def sgI (c : ByteArray) : Nat := if cb c 0 = 43 then 1 else if cb c 0 = 45 then 1 else 0
def sgN (c : ByteArray) : Bool := decide (cb c 0 = 45)
theorem sgI_le (c : ByteArray) (h : 0 < c.size) : sgI c ≤ c.size := by
  unfold sgI
  split
  · omega
  · split <;> omega
/-- The mantissa, all read. -/
def rfAll (c : ByteArray) : RF := rfGo c c.size ⟨sgI c, 0, false, false, false, 0, 0, 0⟩
theorem rfAll_ok (c : ByteArray) (h : 0 < c.size) : RFOK c { rfAll c with dp := (rfAll c).dp } := 
  rfGo_ok c _ _ ⟨sgI_le c h, Nat.zero_le _, Nat.le_refl _, by show 0 ≤ 19; omega, by show 0 < 10 ^ 0; decide, by show -((sgI c : Nat) : Int) ≤ 0; omega, by show (0 : Int) ≤ ((sgI c : Nat) : Int); omega⟩
end

section
open Go Ieee
set_option linter.unusedVariables false
set_option linter.unusedSimpArgs false

/-- A word that is a number or an infinity. -/
def Num (f : Format) (x : Nat) : Prop := x % f.signWeight ≤ f.infRung
/-- A word of a number that is not nought. -/
def Some0 (f : Format) (x : Nat) : Prop := ∃ s m e, f.read x = .number s m e ∧ m ≠ 0

theorem word_mod (f : Format) (neg : Bool) {rung : Nat} (h : rung ≤ f.infRung) : f.word neg rung % f.signWeight = rung := by
  have := f.infRung_lt
  unfold Format.word
  split
  · rw [Nat.add_mod_left, Nat.mod_eq_of_lt (by omega)]
  · rw [Nat.mod_eq_of_lt (by omega)]
theorem num_word (f : Format) (neg : Bool) {rung : Nat} (h : rung ≤ f.infRung) : Num f (f.word neg rung) := by
  unfold Num
  rw [word_mod f neg h]
  exact h
theorem num_write (f : Format) {d : Datum} (h : d.isNaN = false) : Num f (f.write d) := by
  cases d with
  | number neg mag place =>
    show Num f (f.nearest neg mag place)
    unfold Format.nearest
    dsimp only
    split
    · exact num_word f _ (Nat.zero_le _)
    · exact num_word f _ (Nat.min_le_right ..)
  | infinity neg => exact num_word f _ (Nat.le_refl _)
  | nan neg fraction => cases h
theorem num_read {f : Format} {x : Nat} (h : Num f x) : (f.read x).isNaN = false := by
  unfold Num at h
  unfold Format.read
  dsimp only
  split
  · rfl
  · split
    · rfl
    · split
      · rfl
      · rename_i h1 h2 h3
        exact absurd (show x % f.signWeight = f.infRung by omega) h3
theorem num_mul {f : Format} {x y : Nat} (hx : Num f x) (hy : Some0 f y) : ∃ r, f.mul x y = some r ∧ Num f r := by
  obtain ⟨s, m, e, h, h0⟩ := hy
  have h1 := num_read hx
  unfold Format.mul
  rw [h]
  cases hd : f.read x with
  | number t n j => exact ⟨_, rfl, num_write f rfl⟩
  | infinity t =>
    rw [Datum.product, if_neg h0]
    exact ⟨_, rfl, num_write f rfl⟩
  | nan t u => rw [hd] at h1; cases h1
theorem num_div {f : Format} {x y : Nat} (hx : Num f x) (hy : Some0 f y) : ∃ r, f.div x y = some r ∧ Num f r := by
  obtain ⟨s, m, e, h, h0⟩ := hy
  have h1 := num_read hx
  unfold Format.div
  rw [h]
  cases hd : f.read x with
  | number t n j =>
    rw [Datum.quotient, if_neg h0]
    exact ⟨_, rfl, num_write f rfl⟩
  | infinity t => exact ⟨_, rfl, num_write f rfl⟩
  | nan t u => rw [hd] at h1; cases h1
theorem num_ofInt (k : FloatKind) (n : Int) : Num k.format (floatOfInt k n) := num_write k.format (d := .number (n < 0) n.natAbs 0) rfl
theorem num_neg {k : FloatKind} {x : Nat} (h : Num k.format x) : Num k.format (Op.negFloat k x) := by
  have key : Op.negFloat k x % 2 ^ (k.format.exponentBits + k.format.fractionBits) = x % 2 ^ (k.format.exponentBits + k.format.fractionBits) := by
    unfold Op.negFloat
    generalize k.format.exponentBits + k.format.fractionBits = n
    rw [Nat.xor_mod_two_pow, Nat.mod_self, Nat.xor_zero]
  unfold Num at h ⊢
  unfold Format.signWeight at h ⊢
  rw [key]
  exact h

theorem cut_none (neg : Bool) (n : Nat) : Toward.even.cut neg n 0 = n := by
  simp [Toward.cut, Nat.mod_one]
theorem cut_even (neg : Bool) (m k : Nat) (h : 1 ≤ m) : Toward.even.cut neg (m * 2 ^ k) k = m := by
  have h1 : k ≤ (m * 2 ^ k).log2 := by
    rw [Nat.le_log2 (by have := Nat.two_pow_pos k; have := Nat.mul_le_mul h this; omega)]
    exact Nat.le_mul_of_pos_left _ h
  have hg : 1 <<< min k ((m * 2 ^ k).log2 + 2) = 2 ^ k := by
    rw [Nat.min_eq_left (by omega), Nat.shiftLeft_eq, Nat.one_mul]
  have h2 : m * 2 ^ k / 2 ^ k = m := Nat.mul_div_cancel _ (Nat.two_pow_pos k)
  have h3 : m * 2 ^ k % 2 ^ k = 0 := Nat.mul_mod_left _ _
  have h4 := Nat.two_pow_pos k
  unfold Toward.cut
  dsimp only
  rw [hg, h2, h3]
  have h5 : decide (2 ^ k < 2 * 0) = false := decide_eq_false (by omega)
  have h6 : (2 ^ k == 2 * 0) = false := beq_eq_false_iff_ne.mpr (by omega)
  rw [h5, h6]
  rfl

theorem log2_bounds {m : Nat} (h : 1 ≤ m) : 2 ^ m.log2 ≤ m ∧ m < 2 ^ (m.log2 + 1) :=
  ⟨Nat.log2_self_le (by omega), Nat.lt_log2_self⟩

/-- A float32's number as a float64: its words. -/
theorem wide_read (neg : Bool) (m : Nat) (e : Int) (hm : 1 ≤ m) (hm2 : m < 2 ^ 24) (he0 : -149 ≤ e) (he1 : e ≤ 104) :
    m.log2 ≤ 23 ∧ double.read (double.write (.number neg m e)) = .number neg (m * 2 ^ (52 - m.log2)) (e + m.log2 - 52) := by
  obtain ⟨l1, l2⟩ := log2_bounds hm
  have hL : m.log2 ≤ 23 := by
    have : m.log2 < 24 := (Nat.log2_lt (by omega)).mpr hm2
    omega
  refine ⟨hL, ?_⟩
  generalize hLL : m.log2 = L at *
  have hk : m * 2 ^ (52 - L) < 2 ^ 53 := by
    have h1 : m * 2 ^ (52 - L) < 2 ^ (L + 1) * 2 ^ (52 - L) := Nat.mul_lt_mul_of_pos_right l2 (Nat.two_pow_pos _)
    rw [← Nat.pow_add, show L + 1 + (52 - L) = 53 by omega] at h1
    exact h1
  have hk2 : 2 ^ 52 ≤ m * 2 ^ (52 - L) := by
    have h1 : 2 ^ L * 2 ^ (52 - L) ≤ m * 2 ^ (52 - L) := Nat.mul_le_mul_right _ l1
    rw [← Nat.pow_add, show L + (52 - L) = 52 by omega] at h1
    exact h1
  have hlp : double.leastPlace = -1074 := by decide
  have hb : double.binade = 4503599627370496 := by decide
  have hi : double.infRung = 9218868437227405312 := by decide
  have hs : double.signWeight = 9223372036854775808 := by decide
  have hfb : (double.fractionBits : Int) = 52 := by decide
  have hlast : max (e + (L : Int) - double.fractionBits) double.leastPlace = e + L - 52 := by rw [hlp, hfb]; omega
  have hpl : (e - (e + (L : Int) - 52)).toNat = 52 - L := by omega
  have hpl2 : ((e + (L : Int) - 52) - e).toNat = 0 := by omega
  have hn : double.write (.number neg m e) = double.word neg ((e + L - 52 + 1074).toNat * 4503599627370496 + m * 2 ^ (52 - L)) := by
    show double.nearest neg m e = _
    unfold Format.nearest
    rw [if_neg (by omega)]
    dsimp only
    rw [hLL, hlast, hpl, hpl2, Nat.shiftLeft_eq, cut_none, hlp, hb, hi]
    congr 1
    rw [Nat.min_eq_left]
    · congr 2
    · generalize m * 2 ^ (52 - L) = K at *
      omega
  rw [hn]
  generalize m * 2 ^ (52 - L) = K at *
  generalize hr : (e + L - 52 + 1074).toNat * 4503599627370496 + K = r
  have hr1 : r < 9218868437227405312 := by omega
  have hmod : double.word neg r % double.signWeight = r := word_mod double neg (by rw [hi]; omega)
  have hneg : (double.word neg r / double.signWeight % 2 == 1) = neg := by
    rw [hs]
    unfold Format.word
    rw [hs]
    cases neg
    · rw [if_neg (by decide), Nat.div_eq_of_lt (by omega)]; rfl
    · rw [if_pos rfl]
      have : (9223372036854775808 + r) / 9223372036854775808 = 1 := by omega
      rw [this]
      rfl
  unfold Format.read
  dsimp only
  rw [hmod, hneg, hb, hi, if_neg (by omega), if_pos hr1, hlp]
  have e1 : 4503599627370496 + r % 4503599627370496 = K := by omega
  have e2 : (-1074 : Int) + ((r / 4503599627370496 - 1 : Nat) : Int) = e + L - 52 := by omega
  rw [e1, e2]

/-- Back again. -/
theorem wide_back (neg : Bool) (m : Nat) (e : Int) (hm : 1 ≤ m) (hm2 : m < 2 ^ 24) (he0 : -149 ≤ e) (he1 : e ≤ 104) (hn : e = -149 ∨ 2 ^ 23 ≤ m) (hi : ((e + 149).toNat * 8388608 + m) < 2139095040) :
    single.write (.number neg (m * 2 ^ (52 - m.log2)) (e + m.log2 - 52)) = single.word neg ((e + 149).toNat * 8388608 + m) := by
  obtain ⟨l1, l2⟩ := log2_bounds hm
  have hL : m.log2 ≤ 23 := by
    have : m.log2 < 24 := (Nat.log2_lt (by omega)).mpr hm2
    omega
  have hL23 : 2 ^ 23 ≤ m → m.log2 = 23 := by
    intro h
    have : 23 ≤ m.log2 := (Nat.le_log2 (by omega)).mpr h
    omega
  have hlp : single.leastPlace = -149 := by decide
  have hb : single.binade = 8388608 := by decide
  have hir : single.infRung = 2139095040 := by decide
  have hfb : (single.fractionBits : Int) = 23 := by decide
  have hK0 : m * 2 ^ (52 - m.log2) ≠ 0 := by
    have := Nat.mul_le_mul hm (Nat.two_pow_pos (52 - m.log2))
    omega
  have hlog : (m * 2 ^ (52 - m.log2)).log2 = 52 := by
    rw [(Nat.log2_eq_iff hK0).mpr]
    constructor
    · have h1 : 2 ^ m.log2 * 2 ^ (52 - m.log2) ≤ m * 2 ^ (52 - m.log2) := Nat.mul_le_mul_right _ l1
      rw [← Nat.pow_add, show m.log2 + (52 - m.log2) = 52 by omega] at h1
      exact h1
    · have h1 : m * 2 ^ (52 - m.log2) < 2 ^ (m.log2 + 1) * 2 ^ (52 - m.log2) := Nat.mul_lt_mul_of_pos_right l2 (Nat.two_pow_pos _)
      rw [← Nat.pow_add, show m.log2 + 1 + (52 - m.log2) = 53 by omega] at h1
      exact h1
  generalize m.log2 = L at *
  have hlast : max (e + (L : Int) - 52 + ((52 : Nat) : Int) - single.fractionBits) single.leastPlace = e := by
    rw [hlp, hfb]
    rcases hn with h | h
    · omega
    · have := hL23 h; omega
  show single.nearest neg _ _ = _
  unfold Format.nearest
  rw [if_neg hK0]
  dsimp only
  rw [hlog, hlast, show (e + (L : Int) - 52 - e).toNat = 0 by omega, show (e - (e + (L : Int) - 52)).toNat = 52 - L by omega, Nat.shiftLeft_eq, Nat.pow_zero, Nat.mul_one, cut_even neg m _ hm, hlp, hb, hir]
  congr 1
  rw [Nat.min_eq_left]
  · congr 2
  · have : (e - -149).toNat = (e + 149).toNat := by omega
    rw [this]
    omega

/-- A float32 as a float64, and back. -/
theorem wide_round (B : Nat) (hB : B < 4294967296) (h : Num single B) : ∃ X, floatToFloatBits .f32 B .f64 = some X ∧ floatToFloatBits .f64 X .f32 = some B := by
  have hs : single.signWeight = 2147483648 := by decide
  have hb : single.binade = 8388608 := by decide
  have hi : single.infRung = 2139095040 := by decide
  have hlp : single.leastPlace = -149 := by decide
  have hw : ∀ r neg, r = B % 2147483648 → neg = (B / 2147483648 % 2 == 1) → single.word neg r = B := by
    intro r neg hr hn
    unfold Format.word
    rw [hs, hn, hr]
    rcases Nat.lt_or_ge B 2147483648 with h1 | h1
    · have : B / 2147483648 = 0 := Nat.div_eq_of_lt h1
      rw [this, if_neg (by decide)]
      omega
    · have : B / 2147483648 = 1 := by omega
      rw [this, if_pos (by decide)]
      omega
  unfold Num at h
  rw [hs, hi] at h
  have key : ∀ d : Datum, single.read B = d → d.isInfinity = false → d.isNaN = false → ((double.read (double.write d)).isInfinity = false ∧ (double.read (double.write d)).isNaN = false ∧ single.write (double.read (double.write d)) = B) → ∃ X, floatToFloatBits .f32 B .f64 = some X ∧ floatToFloatBits .f64 X .f32 = some B := by
    intro d hd hd1 hd2 ⟨h1, h2, h3⟩
    cases d with
    | infinity s => cases hd1
    | nan s t => cases hd2
    | number s m e =>
      refine ⟨double.write (.number s m e), ?_, ?_⟩
      · unfold floatToFloatBits
        rw [if_neg (by decide)]
        show (match single.read B with | .nan _ _ => none | .infinity s => some (double.write (.infinity s)) | .number s m e => if (double.read (double.write (.number s m e))).isInfinity then none else some (double.write (.number s m e))) = _
        rw [hd]
        dsimp only
        rw [h1, if_neg (by decide)]
      · unfold floatToFloatBits
        rw [if_neg (by decide)]
        show (match double.read (double.write (.number s m e)) with | .nan _ _ => none | .infinity s => some (single.write (.infinity s)) | .number s m e => if (single.read (single.write (.number s m e))).isInfinity then none else some (single.write (.number s m e))) = _
        cases hx : double.read (double.write (.number s m e)) with
        | infinity s => rw [hx] at h1; cases h1
        | nan s t => rw [hx] at h2; cases h2
        | number s2 m2 e2 =>
          rw [hx] at h3
          dsimp only
          rw [h3, hd]
          rfl
  have hzero : ∀ neg e, double.read (double.write (.number neg 0 e)) = .number neg 0 (-1074) := by
    intro neg e
    show double.read (double.nearest neg 0 e) = _
    unfold Format.nearest
    rw [if_pos rfl]
    cases neg <;> decide
  have hd : single.read B = single.read B := rfl
  conv at hd => rhs; unfold Format.read
  dsimp only at hd
  rw [hs, hb, hi, hlp] at hd
  split at hd
  · rename_i h1
    refine key _ hd rfl rfl ?_
    rcases Nat.eq_zero_or_pos (B % 2147483648) with h0 | h0
    · rw [h0, hzero]
      refine ⟨rfl, rfl, ?_⟩
      show single.nearest _ 0 _ = B
      unfold Format.nearest
      rw [if_pos rfl]
      exact hw _ _ h0.symm rfl
    · obtain ⟨_, hr⟩ := wide_read (B / 2147483648 % 2 == 1) (B % 2147483648) (-149) h0 (by omega) (by omega) (by omega)
      rw [hr]
      refine ⟨rfl, rfl, ?_⟩
      rw [wide_back _ _ _ h0 (by omega) (by omega) (by omega) (.inl rfl) (by omega)]
      exact hw _ _ (by omega) rfl
  · rename_i h1
    split at hd
    · rename_i h2
      refine key _ hd rfl rfl ?_
      generalize hM : 8388608 + B % 2147483648 % 8388608 = M at *
      generalize hE : (-149 : Int) + ((B % 2147483648 / 8388608 - 1 : Nat) : Int) = E at *
      obtain ⟨_, hr⟩ := wide_read (B / 2147483648 % 2 == 1) M E (by omega) (by omega) (by omega) (by omega)
      rw [hr]
      refine ⟨rfl, rfl, ?_⟩
      rw [wide_back _ _ _ (by omega) (by omega) (by omega) (by omega) (.inr (by omega)) (by omega)]
      exact hw _ _ (by omega) rfl
    · rename_i h2
      have h3 : B % 2147483648 = 2139095040 := by omega
      rw [if_pos h3] at hd
      refine ⟨double.write (.infinity (B / 2147483648 % 2 == 1)), ?_, ?_⟩
      · unfold floatToFloatBits
        rw [if_neg (by decide)]
        show (match single.read B with | .nan _ _ => none | .infinity s => some (double.write (.infinity s)) | .number s m e => if (double.read (double.write (.number s m e))).isInfinity then none else some (double.write (.number s m e))) = _
        rw [hd]
      · unfold floatToFloatBits
        rw [if_neg (by decide)]
        have hri : ∀ s, double.read (double.write (.infinity s)) = .infinity s := by intro s; cases s <;> decide
        show (match double.read (double.write (.infinity (B / 2147483648 % 2 == 1))) with | .nan _ _ => none | .infinity s => some (single.write (.infinity s)) | .number s m e => if (single.read (single.write (.number s m e))).isInfinity then none else some (single.write (.number s m e))) = _
        rw [hri]
        dsimp only
        refine congrArg some ?_
        show single.word _ single.infRung = B
        rw [hi]
        exact hw _ _ h3.symm rfl
end
end Go.Proofs.YtohadobpiclllaaGreatDoor
