/- FormatFloat: the arithmetic of the unrounded scaling. FormatFloat: the digits. FormatFloat: fmtEFG. FormatFloat: fmtEFG, the plain form. -/
import Derived.Test.YtmdlmjjggjemdaaGreatDoorMd
import Derived.Test.YtmdlmjjggjemdaaGreatDoorShelf
import Derived.Deep.DeepCutAuto
import Derived.Lib.ItoaLen
namespace Go.Proofs.YtmdlmjjggjemdaaGreatDoor
section
open Go.RowKit Go.Proofs.YtmdlmjjggjemdaaGreatDoorW.PrintWords Go.Proofs.YtmdlmjjggjemdaaGreatDoorW.PrintMore Go.Proofs.YtmdlmjjggjemdaaGreatDoorW.PrintLast Go.Proofs.YtmdlmjjggjemdaaGreatDoor.PFnRespRaw
attribute [local go_sem] max2_int min2_int max_two min_two max_three min_three max_four min_four
set_option linter.unusedVariables false
set_option linter.unusedSimpArgs false

theorem wrap_u64 (x : Int) : IntKind.u64.wrap x = x % 18446744073709551616 := by simp [IntKind.wrap, IntKind.bits, IntKind.signed]

theorem i64_and63 (n : Int) : bits .and .i64 n 63 = n % 64 := by
  have h63 : (BitVec.ofInt 64 63).toNat = 2 ^ 6 - 1 := by decide
  have key : (BitVec.ofInt 64 n &&& BitVec.ofInt 64 63).toNat = (n % ((2 ^ 64 : Nat) : Int)).toNat % 2 ^ 6 := by
    rw [BitVec.toNat_and, BitVec.toNat_ofInt, h63, Nat.and_two_pow_sub_one_eq_mod]
  show IntKind.i64.wrap ((BitVec.ofInt 64 n &&& BitVec.ofInt 64 63).toNat : Nat) = n % 64
  rw [key, IntKind.wrap_i64]
  omega

theorem i64_and1 (n : Int) : bits .and .i64 n 1 = n % 2 := by
  have h1 : (BitVec.ofInt 64 1).toNat = 2 ^ 1 - 1 := by decide
  have key : (BitVec.ofInt 64 n &&& BitVec.ofInt 64 1).toNat = (n % ((2 ^ 64 : Nat) : Int)).toNat % 2 ^ 1 := by
    rw [BitVec.toNat_and, BitVec.toNat_ofInt, h1, Nat.and_two_pow_sub_one_eq_mod]
  show IntKind.i64.wrap ((BitVec.ofInt 64 n &&& BitVec.ofInt 64 1).toNat : Nat) = n % 2
  rw [key, IntKind.wrap_i64]
  omega

theorem l10_calls (x : Int) (h0 : -100000 ≤ x) (h1 : x ≤ 100000) (w : World) :
    Calls Tryz.prog 83 #[.int .i64 x] w fun e w' => e = .returned (.int .i64 (x * 78913 / 262144)) ∧ w' = w := by
  go_enter Tryz.func83, Tryz.ntmps83
  go_wp2
  go_ret
  exact ⟨rfl, rfl⟩

theorem skewed_calls (x : Int) (h0 : -100000 ≤ x) (h1 : x ≤ 100000) (w : World) :
    Calls Tryz.prog 115 #[.int .i64 x] w fun e w' => e = .returned (.int .i64 ((x * 631305 - 261663) / 2097152)) ∧ w' = w := by
  go_enter Tryz.func115, Tryz.ntmps115
  go_wp2
  go_ret
  exact ⟨rfl, rfl⟩

theorem l2_calls (x : Int) (h0 : -100000 ≤ x) (h1 : x ≤ 100000) (w : World) :
    Calls Tryz.prog 117 #[.int .i64 x] w fun e w' => e = .returned (.int .i64 (x * 108853 / 32768)) ∧ w' = w := by
  go_enter Tryz.func117, Tryz.ntmps117
  go_wp2
  go_ret
  exact ⟨rfl, rfl⟩

theorem floor_calls (x : Nat) (h1 : x < 18446744073709551616) (w : World) :
    Calls Tryz.prog 121 #[.int .u64 x] w fun e w' => e = .returned (.int .u64 ((x / 4 : Nat) : Int)) ∧ w' = w := by
  go_enter Tryz.func121, Tryz.ntmps121
  go_wp2
  go_ret
  exact ⟨rfl, rfl⟩

theorem ceil_calls (x : Nat) (h1 : x < 18446744073709551616) (w : World) :
    Calls Tryz.prog 120 #[.int .u64 x] w fun e w' => e = .returned (.int .u64 (((x + 3) % 18446744073709551616 / 4 : Nat) : Int)) ∧ w' = w := by
  go_enter Tryz.func120, Tryz.ntmps120
  go_wp2
  go_ret
  have e1 : IntKind.u64.wrap ((x : Int) + 3) / 4 = (((x + 3) % 18446744073709551616 / 4 : Nat) : Int) := by rw [wrap_u64]; omega
  exact ⟨congrArg (fun z => Ending.returned (Value.int .u64 z)) e1, rfl⟩

theorem round_calls (x : Nat) (h1 : x < 18446744073709551616) (w : World) :
    Calls Tryz.prog 122 #[.int .u64 x] w fun e w' => e = .returned (.int .u64 (((x + 1 + x / 4 % 2) % 18446744073709551616 / 4 : Nat) : Int)) ∧ w' = w := by
  go_enter Tryz.func122, Tryz.ntmps122
  go_wp2
  go_ret
  have e0 : bits .and .u64 ((x : Int) / 4) 1 = ((x / 4 % 2 : Nat) : Int) := by
    have := bits_and_u64_nat (x / 4) 1 (by omega) (by omega)
    rw [Nat.and_one_is_mod] at this
    simpa using this
  have e1 : IntKind.u64.wrap (IntKind.u64.wrap ((x : Int) + 1) + bits .and .u64 ((x : Int) / 4) 1) / 4 = (((x + 1 + x / 4 % 2) % 18446744073709551616 / 4 : Nat) : Int) := by rw [e0, wrap_u64, wrap_u64]; omega
  exact ⟨congrArg (fun z => Ending.returned (Value.int .u64 z)) e1, rfl⟩

theorem nudge_calls (x : Nat) (y : Int) (h1 : x < 18446744073709551616) (hy : -1 ≤ y ∧ y ≤ 1) (w : World) :
    Calls Tryz.prog 119 #[.int .u64 x, .int .i64 y] w fun e w' => e = .returned (.int .u64 (((x + y) % 18446744073709551616).toNat : Int)) ∧ w' = w := by
  go_enter Tryz.func119, Tryz.ntmps119
  go_wp2
  go_ret
  have e1 : IntKind.u64.wrap ((x : Int) + IntKind.u64.wrap y) = (((x + y) % 18446744073709551616).toNat : Int) := by rw [wrap_u64, wrap_u64]; omega
  exact ⟨congrArg (fun z => Ending.returned (Value.int .u64 z)) e1, rfl⟩

theorem bool2_calls (b : Bool) (w : World) :
    Calls Tryz.prog 134 #[.bool b] w fun e w' => ∃ k : Nat, k ≤ 1 ∧ e = .returned (.int .u64 k) ∧ w' = w := by
  cases b
  · go_enter Tryz.func134, Tryz.ntmps134
    go_wp2
    go_ret
    exact ⟨0, by omega, rfl, rfl⟩
  · go_enter Tryz.func134, Tryz.ntmps134
    go_wp2
    go_ret
    exact ⟨1, by omega, rfl, rfl⟩

theorem bool2_if (b : Bool) (w : World) :
    Calls Tryz.prog 134 #[.bool b] w fun e w' => e = .returned (.int .u64 (if b then 1 else 0)) ∧ w' = w := by
  cases b <;>
  (go_enter Tryz.func134, Tryz.ntmps134
   go_wp2
   go_ret
   exact ⟨rfl, rfl⟩)

/-- The table of the powers of ten lies in block 8. -/
def TabAt (w : World) : Prop := ∃ (T : Nat → Nat), (∀ i, T i < 18446744073709551616) ∧ ∀ i < 1392, w.cell? ⟨8, i, none⟩ = some (.int .u64 (T i))

/-- The scaler in block q. -/
def Pre (w : World) (q : Nat) (hi lo : Nat) (s : Int) : Prop := ∃ t, w.heap[q]? = some (.cells #[.int .u64 hi, .int .u64 lo, .int .i64 s] t (0, 0))

set_option maxHeartbeats 1000000 in
theorem prescale_calls (w : World) (q t : Nat) (v0 v1 v2 : Value) (e p lp : Int) (T : Nat → Nat) (hT : ∀ i < 1392, w.cell? ⟨8, i, none⟩ = some (.int .u64 (T i))) (hq : w.heap[q]? = some (.cells #[v0, v1, v2] t (0, 0)))
    (hp0 : -348 ≤ p) (hp1 : p ≤ 347) (he0 : -100000 ≤ e) (he1 : e ≤ 100000) (hl0 : -100000 ≤ lp) (hl1 : lp ≤ 100000) (hq8 : q ≠ 8) :
    Calls Tryz.prog 116 #[.pointer (some ⟨q, 0, none⟩), .int .i64 e, .int .i64 p, .int .i64 lp] w fun x w' => x = .returned (.tuple #[]) ∧
      Pre w' q (T ((p + 348).toNat * 2)) (T ((p + 348).toNat * 2 + 1)) (-(e + lp + 3)) ∧ Mods (· = q) w w' := by
  obtain ⟨i, rfl⟩ : ∃ i : Nat, p = (i : Int) - 348 := ⟨(p + 348).toNat, by omega⟩
  have hc0 := hT (i * 2) (by omega)
  have hc1 := hT (i * 2 + 1) (by omega)
  have hfz := blk_frozen hq 0
  have hfz1 := blk_frozen hq 1
  have hfz2 := blk_frozen hq 2
  have hcz : w.cell? ⟨q, 0, none⟩ = some v0 := (blk_cell hq 0).trans rfl
  have hcz1 : w.cell? ⟨q, 1, none⟩ = some v1 := (blk_cell hq 1).trans rfl
  have hcz2 : w.cell? ⟨q, 2, none⟩ = some v2 := (blk_cell hq 2).trans rfl
  have HQ := Aside0.mk hq
  clear hq hT
  go_enter Tryz.func116, Tryz.ntmps116
  go_wp2
  go_end0
  refine ⟨rfl, ?_⟩
  rw [show ((i : Int) - 348 + 348).toNat = i by omega]
  refine ⟨⟨t, ?_⟩, ?_⟩
  · exact blk_set (blk_set (blk_set HQ.out 0 _) 1 _) 2 _
  · exact (((Mods.refl (· = q) w).setCell (p := ⟨q, 0, none⟩) (.inl rfl) _).setCell (p := ⟨q, 1, none⟩) (.inl rfl) _).setCell (p := ⟨q, 2, none⟩) (.inl rfl) _

set_option maxHeartbeats 2000000 in
theorem uscale_calls (w : World) (x q hi lo : Nat) (s : Int) (hx : x < 18446744073709551616) (hhi : hi < 18446744073709551616) (hlo : lo < 18446744073709551616) (hs0 : -1000000 ≤ s) (hs1 : s ≤ 1000000) (hP : Pre w q hi lo s) :
    Calls Tryz.prog 118 #[.int .u64 x, .pointer (some ⟨q, 0, none⟩)] w fun e w' => ∃ r : Nat, r < 18446744073709551616 ∧ e = .returned (.int .u64 r) ∧ ∃ n, w' = w.drewN n := by
  obtain ⟨t, hq⟩ := hP
  have hcz : w.cell? ⟨q, 0, none⟩ = some (.int .u64 hi) := (blk_cell hq 0).trans rfl
  have hcz1 : w.cell? ⟨q, 1, none⟩ = some (.int .u64 lo) := (blk_cell hq 1).trans rfl
  have hcz2 : w.cell? ⟨q, 2, none⟩ = some (.int .i64 s) := (blk_cell hq 2).trans rfl
  clear hq
  go_enter Tryz.func118, Tryz.ntmps118
  go_wp2_with fail
  refine (Tryz.bits_Mul64 x hi hx hhi w).mono ?_
  rintro e w' ⟨rfl, rfl⟩
  obtain ⟨h1, hh1⟩ : ∃ h1, h1 = x * hi / 18446744073709551616 := ⟨_, rfl⟩
  obtain ⟨l1, hl1⟩ : ∃ l1, l1 = x * hi % 18446744073709551616 := ⟨_, rfl⟩
  rw [← hh1, ← hl1]
  have g1 : h1 < 18446744073709551616 := by rw [hh1]; exact Nat.div_lt_of_lt_mul (Nat.mul_lt_mul'' hx hhi)
  have g2 : l1 < 18446744073709551616 := by rw [hl1]; omega
  clear hh1 hl1
  obtain ⟨k, hk, hb⟩ : ∃ k : Nat, k ≤ 63 ∧ bits .and .i64 s 63 = (k : Int) := ⟨(s % 64).toNat, by omega, by rw [i64_and63]; omega⟩
  obtain ⟨h2, g3, hs2⟩ : ∃ h2 : Nat, h2 < 18446744073709551616 ∧ (h1 : Int) / 2 ^ k = (h2 : Int) := ⟨h1 / 2 ^ k, Nat.lt_of_le_of_lt (Nat.div_le_self _ _) g1, by push_cast; rfl⟩
  go_wp2_with fail
  · go_ret
    refine ⟨h2 ||| 1, Nat.or_lt_two_pow (n := 64) g3 (by omega), ?_, 0, rfl⟩
    exact congrArg (fun z => Ending.returned (Value.int .u64 z)) (bits_or_u64_nat h2 1 g3 (by omega))
  · refine (Tryz.bits_Mul64 x lo hx hlo w').mono ?_
    rintro e w2 ⟨rfl, rfl⟩
    obtain ⟨h3, hh1⟩ : ∃ h1, h1 = x * lo / 18446744073709551616 := ⟨_, rfl⟩
    obtain ⟨l3, hl1⟩ : ∃ l1, l1 = x * lo % 18446744073709551616 := ⟨_, rfl⟩
    rw [← hh1, ← hl1]
    have g5 : h3 < 18446744073709551616 := by rw [hh1]; exact Nat.div_lt_of_lt_mul (Nat.mul_lt_mul'' hx hlo)
    have g6 : l3 < 18446744073709551616 := by rw [hl1]; omega
    clear hh1 hl1
    go_wp2_with fail
    refine (bool2_calls _ w2).mono ?_
    rintro e w3 ⟨b, hb1, rfl, rfl⟩
    obtain ⟨h5, g7, hh5⟩ : ∃ h5 : Nat, h5 < 18446744073709551616 ∧ IntKind.u64.wrap ((h1 : Int) - (b : Int)) = (h5 : Int) := ⟨(IntKind.u64.wrap ((h1 : Int) - (b : Int))).toNat, by rw [wrap_u64]; omega, by rw [wrap_u64]; omega⟩
    obtain ⟨h6, g8, hh6⟩ : ∃ h6 : Nat, h6 < 18446744073709551616 ∧ (h5 : Int) / 2 ^ k = (h6 : Int) := ⟨h5 / 2 ^ k, Nat.lt_of_le_of_lt (Nat.div_le_self _ _) g7, by push_cast; rfl⟩
    go_wp2_with fail
    go_quiet ((go_at_call 134; refine Calls.quiet_of_same (bool2_if _ _)))
    go_wp2
    all_goals
      go_ret
      first
        | exact ⟨h6 ||| 0, Nat.or_lt_two_pow (n := 64) g8 (by omega), congrArg (fun z => Ending.returned (Value.int .u64 z)) (bits_or_u64_nat h6 0 g8 (by omega)), _, rfl⟩
        | exact ⟨h6 ||| 1, Nat.or_lt_two_pow (n := 64) g8 (by omega), congrArg (fun z => Ending.returned (Value.int .u64 z)) (bits_or_u64_nat h6 1 g8 (by omega)), _, rfl⟩

theorem below_drewN {b : Nat} {w w' : World} (h : Below b w w') (n : Nat) : Below b w (w'.drewN n) := ⟨h.os, h.tape, h.output, h.size, h.block⟩

/-- The pow10 table is there. -/
def Tab10 (w : World) : Prop := ∃ T : Nat → Nat, (∀ i, T i < 18446744073709551616) ∧ ∀ i < 1392, w.cell? ⟨8, i, none⟩ = some (.int .u64 (T i))

theorem Pre.mods {S : Nat → Prop} {w w' : World} {q hi lo : Nat} {s : Int} (h : Pre w q hi lo s) (hM : Mods S w w') (hn : ¬ S q) : Pre w' q hi lo s := by
  obtain ⟨t, hq⟩ := h
  exact ⟨t, hM.blk hq hn⟩

set_option maxHeartbeats 4000000 in
set_option maxRecDepth 100000 in
theorem shortFloat_calls (w : World) (m : Nat) (e : Int) (hm : m < 18446744073709551616) (he0 : -1137 ≤ e) (he1 : e ≤ 960) (hT : Tab10 w) (h8 : 8 < w.heap.size) :
    Calls Tryz.prog 106 #[.int .u64 m, .int .i64 e] w fun x w' => ∃ (d : Nat) (p : Int), d < 18446744073709551616 ∧ -400 ≤ p ∧ p ≤ 400 ∧ x = .returned (.tuple #[.int .u64 d, .int .i64 p]) ∧ Below w.heap.size w w' := by
  obtain ⟨T, hT0, hT⟩ := hT
  have HT := Aside0.mk hT
  have HT0 := Aside0.mk hT0
  clear hT hT0
  obtain ⟨c63, hc63⟩ : ∃ c : Bool, ((m : Int) == 9223372036854775808) = c := ⟨_, rfl⟩
  go_enter Tryz.func106, Tryz.ntmps106
  go_upto_region 12 with fail
  go_cut [28] (fun s28 wx => ∃ c : Bool, s28 = .bool c ∧ w = wx)
  case first =>
    go_wp2
    all_goals
      go_meet
      exact ⟨_, rfl, rfl⟩
  case rest =>
  obtain ⟨c, rfl, rfl⟩ := hcut
  go_upto_if 28 with fail
  go_cut [5, 8, 9, 10, 11] (fun s5 s8 s9 s10 s11 wx => ∃ (p o z : Int) (mn mx : Int), s5 = .int .i64 p ∧ s8 = .int .u64 mn ∧ s9 = .int .u64 mx ∧ s10 = .int .i64 o ∧ s11 = .int .i64 z ∧ w = wx ∧ -300 ≤ p ∧ p ≤ 345 ∧ 0 ≤ o ∧ o ≤ 1 ∧ 0 ≤ mn ∧ mn < 18446744073709551616 ∧ 0 ≤ mx ∧ mx < 18446744073709551616)
  case first =>
    go_wp2_with fail
    all_goals first
      | (refine (l10_calls _ (by omega) (by omega) _).mono ?_; rintro e w1 ⟨rfl, rfl⟩; go_wp2)
      | (refine (skewed_calls _ (by omega) (by omega) _).mono ?_; rintro e w1 ⟨rfl, rfl⟩; go_wp2)
    all_goals
      go_meet
      refine ⟨_, _, _, _, _, rfl, rfl, rfl, rfl, rfl, rfl, ?_⟩
      simp only [i64_and1, wrap_u64]
      omega
  case rest =>
    obtain ⟨p, o, z, mn, mx, rfl, rfl, rfl, rfl, rfl, rfl, hp0, hp1, ho0, ho1, hmn0, hmn, hmx0, hmx⟩ := hcut
    obtain ⟨mn, rfl⟩ := Int.eq_ofNat_of_zero_le hmn0
    obtain ⟨mx, rfl⟩ := Int.eq_ofNat_of_zero_le hmx0
    have hmn' : mn < 18446744073709551616 := by omega
    have hmx' : mx < 18446744073709551616 := by omega
    clear hmn0 hmx0 hmn hmx
    go_wp2_with fail
    refine (l2_calls _ (by omega) (by omega) _).mono ?_
    rintro e w1 ⟨rfl, rfl⟩
    obtain ⟨lp, hlp, hlp0, hlp1⟩ : ∃ lp : Int, lp = p * 108853 / 32768 ∧ -1000 ≤ lp ∧ lp ≤ 1200 := ⟨_, rfl, by omega, by omega⟩
    rw [← hlp]
    clear hlp
    go_wp2_with fail
    refine (prescale_calls _ w.heap.size 163 _ _ _ e p lp T ?_ (heap_alloc_new w _) (by omega) (by omega) (by omega) (by omega) (by omega) (by omega) (by omega)).mono ?_
    · intro i hi
      exact ((Mods.refl (fun _ => False) w).alloc _).cell (HT.out i hi) id
    rintro e1 w2 ⟨rfl, hP, hM⟩
    have hM2 : Mods (fun _ => False) w w2 := ((Mods.refl (fun _ => False) w).alloc _).trans hM (fun i hi e => by omega)
    have HP := Aside0.mk hP
    have HM := Aside0.mk hM2.below
    clear hP hM hM2
    obtain ⟨a1, b1, ha1, hb1⟩ : ∃ a b : Nat, a = T ((p + 348).toNat * 2) ∧ b = T ((p + 348).toNat * 2 + 1) := ⟨_, _, rfl, rfl⟩
    have ga : a1 < 18446744073709551616 := by rw [ha1]; exact HT0.out _
    have gb : b1 < 18446744073709551616 := by rw [hb1]; exact HT0.out _
    rw [← ha1, ← hb1] at HP
    clear ha1 hb1
    go_wp2_with fail
    refine (uscale_calls w2 mn w.heap.size a1 b1 _ (by omega) ga gb (by omega) (by omega) HP.out).mono ?_
    rintro e1 w3 ⟨r, hr, rfl, n1, rfl⟩
    go_wp2_with fail
    refine (nudge_calls r o hr ⟨by omega, by omega⟩ _).mono ?_
    rintro e1 w3 ⟨rfl, rfl⟩
    obtain ⟨r2, hr2, hr2'⟩ : ∃ r2 : Nat, r2 < 18446744073709551616 ∧ (((r : Int) + o) % 18446744073709551616).toNat = r2 := ⟨_, by omega, rfl⟩
    rw [hr2']
    clear hr2'
    go_wp2_with fail
    refine (ceil_calls r2 hr2 _).mono ?_
    rintro e1 w3 ⟨rfl, rfl⟩
    obtain ⟨dmin, hdmin, hd'⟩ : ∃ r : Nat, r < 18446744073709551616 ∧ (r2 + 3) % 18446744073709551616 / 4 = r := ⟨_, by omega, rfl⟩
    rw [hd']
    clear hd'
    go_wp2_with fail
    refine (uscale_calls (w2.drewN n1) mx w.heap.size a1 b1 _ (by omega) ga gb (by omega) (by omega) HP.out).mono ?_
    rintro e1 w3 ⟨s, hs, rfl, n2, rfl⟩
    go_wp2_with fail
    refine (nudge_calls s (-o) hs ⟨by omega, by omega⟩ _).mono ?_
    rintro e1 w3 ⟨rfl, rfl⟩
    obtain ⟨s2, hs2, hr2'⟩ : ∃ r2 : Nat, r2 < 18446744073709551616 ∧ (((s : Int) + -o) % 18446744073709551616).toNat = r2 := ⟨_, by omega, rfl⟩
    rw [hr2']
    clear hr2'
    go_wp2_with fail
    refine (floor_calls s2 hs2 _).mono ?_
    rintro e1 w3 ⟨rfl, rfl⟩
    obtain ⟨dmax, hdmax, hd'⟩ : ∃ r : Nat, r < 4611686018427387904 ∧ s2 / 4 = r := ⟨_, by omega, rfl⟩
    rw [hd']
    clear hd'
    obtain ⟨d10, hd10, hd10e⟩ : ∃ d : Nat, d < 18446744073709551616 ∧ (dmax : Int) / 10 = (d : Int) := ⟨dmax / 10, by omega, by omega⟩
    have hdm : dmax < 18446744073709551616 := by omega
    clear hdmax
    go_wp2_with fail
    · go_ret2
      exact ⟨d10, _, hd10, by omega, by omega, rfl, below_drewN HM.out _⟩
    · refine (uscale_calls (w2.drewN _) m w.heap.size a1 b1 _ hm ga gb (by omega) (by omega) HP.out).mono ?_
      rintro e1 w3 ⟨t, ht, rfl, n3, rfl⟩
      go_wp2_with fail
      refine (round_calls t ht _).mono ?_
      rintro e1 w3 ⟨rfl, rfl⟩
      obtain ⟨dr, hdr, hd'⟩ : ∃ r : Nat, r < 18446744073709551616 ∧ (t + 1 + t / 4 % 2) % 18446744073709551616 / 4 = r := ⟨_, by omega, rfl⟩
      rw [hd']
      clear hd'
      go_wp2
      go_ret2
      exact ⟨dr, _, hdr, by omega, by omega, rfl, below_drewN HM.out _⟩
    · go_ret2
      exact ⟨dmin, _, hdmin, by omega, by omega, rfl, below_drewN HM.out _⟩
end

section
open Go.RowKit Go.Proofs.YtmdlmjjggjemdaaGreatDoorW.PrintWords Go.Proofs.YtmdlmjjggjemdaaGreatDoorW.PrintMore Go.Proofs.YtmdlmjjggjemdaaGreatDoorW.PrintLast Go.Proofs.YtmdlmjjggjemdaaGreatDoor.PFnRespRaw
attribute [local go_sem] max2_int min2_int max_two min_two max_three min_three max_four min_four
set_option linter.unusedVariables false
set_option linter.unusedSimpArgs false

abbrev TabU (w : World) : Prop := Lib.TabIs Tryz.prog w "internal/strconv.uint64pow10" .u64 Lib.pow10Tab

theorem glob1 : Tryz.prog.globalNamed "internal/strconv.uint64pow10" = some 1 := by kernel_rfl

theorem numDigits_zero (w : World) (hT : TabU w) :
    Calls Tryz.prog 76 #[.int .u64 0] w fun e w' => e = .returned (.int .i64 0) ∧ w' = w := by
  have hc := hT.cell glob1 0 (by decide)
  rw [Lib.pow10Tab_at 0 (by omega)] at hc
  have hc0 : w.cell? ⟨1, 0, none⟩ = some (.int .u64 1) := by simpa using hc
  clear hc hT
  go_enter Tryz.func76, Tryz.ntmps76
  go_wp2_with fail
  refine (Tryz.bits_Len64 0 w (by omega) (by omega)).mono ?_
  rintro e w1 ⟨rfl, rfl⟩
  have hb : (Lib.bitLen (0 : Int).toNat : Int) = 0 := by decide
  go_wp2_with fail
  refine (l10_calls 0 (by omega) (by omega) _).mono ?_
  rintro e w2 ⟨rfl, rfl⟩
  go_wp2_with fail
  refine (Tryz.internal_strconv_bool2_int false _).mono ?_
  rintro e w3 ⟨rfl, rfl⟩
  go_wp2
  go_ret
  exact ⟨rfl, rfl⟩

/-- The digits of a number: as many as are wanted. -/
theorem numDigits_any (u : Nat) (h2 : u < 18446744073709551616) (w : World) (hT : TabU w) :
    Calls Tryz.prog 76 #[.int .u64 u] w fun e w' => ∃ n : Nat, n ≤ 20 ∧ u < 10 ^ n ∧ e = .returned (.int .i64 n) ∧ w' = w := by
  rcases Nat.eq_zero_or_pos u with rfl | h
  · exact (numDigits_zero w hT).mono (fun e w' ⟨a, b⟩ => ⟨0, by omega, by decide, a, b⟩)
  · exact (Tryz.internal_strconv_numDigits u h h2 w hT).mono (fun e w' ⟨a, b⟩ => ⟨Lib.nDigits u, Lib.nDigits_le20 u h2, Lib.lt_pow_nDigits u, a, b⟩)

abbrev encU : UInt8 → Value := fun b => .int .u8 (b.toNat : Int)

theorem mods_putRow (w : World) (g off : Nat) (d : Array UInt8) : Mods (· = g) w (Go.Sort.putRow encU w g off d) :=
  ⟨rfl, rfl, rfl, by simp, fun k hk hn => by
    have hn' : ¬ g = k := fun e => hn e.symm
    simp [Go.Sort.putRow, Go.Sort.mapBlock, Array.getElem?_modify, hn']⟩

theorem dg_range (u j : Nat) : 48 ≤ (Lib.dg u j).toNat ∧ (Lib.dg u j).toNat ≤ 57 := by
  have : u / 10 ^ j % 10 < 10 := Nat.mod_lt _ (by decide)
  unfold Lib.dg
  rw [UInt8.toNat_ofNat']
  omega

/-- A byte that may stand in a line. -/
abbrev Fine1 (c : Int) : Prop := 0 ≤ c ∧ c ≤ 255 ∧ c ≠ 10
def Fine (xs : List Int) : Prop := ∀ x ∈ xs, Fine1 x
theorem fine_nil : Fine [] ↔ True := by simp [Fine]
theorem fine_cons {x : Int} {xs : List Int} : Fine (x :: xs) ↔ Fine1 x ∧ Fine xs := by simp [Fine]
theorem fine_append {xs ys : List Int} (h : Fine xs) (k : Fine ys) : Fine (xs ++ ys) := fun x hx => (List.mem_append.1 hx).elim (h x) (k x)
instance (xs : List Int) : Decidable (Fine xs) := inferInstanceAs (Decidable (∀ x ∈ xs, Fine1 x))

/-- Where the digits stand: 32 bytes that may stand in a line. -/
def Digs (w : World) (g : Nat) : Prop := ∃ ds : List Int, ReadsInt w .u8 (some ⟨g, 0, none⟩) 32 ds ∧ Fine ds

set_option maxHeartbeats 4000000 in
set_option maxRecDepth 100000 in
theorem setDigits_calls (w : World) (g t u nd : Nat) (p : Int) (hg : w.heap[g]? = some (.cells (Array.replicate 32 (.int .u8 0)) t (0, 0))) (hnd : nd ≤ 20) (hu : u < 10 ^ nd) (hu64 : u < 18446744073709551616) (hp0 : -400 ≤ p) (hp1 : p ≤ 400) :
    Calls Tryz.prog 101 #[.slice (some ⟨g, 0, none⟩) 32 32, .int .u64 u, .int .i64 p, .int .i64 nd] w fun e w' => ∃ n2 : Nat, n2 ≤ 20 ∧ e = .returned (.tuple #[.int .i64 (nd + p), .int .i64 n2]) ∧ Digs w' g ∧ Mods (· = g) w w' := by
  have hH : Go.Sort.Holds encU w g 0 (Array.replicate nd (0 : UInt8)) := by
    intro j hj
    have hj' : j < nd := by simpa using hj
    refine ⟨?_, blk_frozen hg _⟩
    rw [Nat.zero_add]
    refine (blk_cell hg j).trans ?_
    rw [getElem!_pos _ j hj]
    simp [show j < 32 by omega]
  have HH := Aside0.mk hH
  have HG := Aside0.mk hg
  have HU := Aside0.mk hu
  clear hH hg hu
  go_enter Tryz.func101, Tryz.ntmps101
  go_wp2_with fail
  have hf := Tryz.internal_strconv_formatBase10 g 0 32 u (Array.replicate nd 0) w HH.out (by simpa using HU.out) hu64 (by simp; omega)
  rw [Array.size_replicate] at hf
  refine hf.mono ?_
  rintro e w1 ⟨rfl, n, v', dk, rfl, hfi⟩
  have hdk : dk.size = nd := by have := hfi.size; simpa using this
  have hd : ∀ t, t < nd → 48 ≤ dk[t]!.toNat ∧ dk[t]!.toNat ≤ 57 := fun t ht => by
    rw [hfi.done t (Nat.zero_le _) (by simpa using ht)]; exact dg_range _ _
  have hr : Digs ((Go.Sort.putRow encU w g 0 dk).drewN n) g ∧ ∀ j : Nat, j < 32 → ∃ z : Int, ((Go.Sort.putRow encU w g 0 dk).drewN n).cell? ⟨g, j, none⟩ = some (.int .u8 z) := by
    have hc : ∀ j : Nat, j < 32 → ((Go.Sort.putRow encU w g 0 dk).drewN n).cell? ⟨g, j, none⟩ = some (.int .u8 (if j < nd then (dk[j]!.toNat : Int) else 0)) := fun j hj => by
      show (Go.Sort.putRow encU w g 0 dk).cell? ⟨g, j, none⟩ = _
      by_cases h : j < nd
      · have := Go.Sort.cell?_putRow encU w g 0 (Array.replicate nd 0) dk HH.out (by simp [hdk]) j (by omega)
        rw [Nat.zero_add] at this
        rw [this, if_pos h]
      · rw [Go.Sort.cell?_putRow_other encU w g 0 dk ⟨g, j, none⟩ (.inr (.inr (by simp only []; omega))), if_neg h, blk_cell HG.out j]
        simp [hj]
    refine ⟨⟨(List.range 32).map fun j => if j < nd then (dk[j]!.toNat : Int) else 0, ⟨by simp, by omega, fun _ => ⟨_, rfl, fun j hj => ?_⟩⟩, ?_⟩, fun j hj => ⟨_, hc j hj⟩⟩
    · rw [add_plain, hc j hj]
      simp [hj]
    · intro x h
      obtain ⟨j, hj, e⟩ := List.mem_map.1 h
      subst e
      split
      · have := hd j (by assumption); simp only [Fine1]; omega
      · simp only [Fine1]; omega
  have hM : Mods (· = g) w ((Go.Sort.putRow encU w g 0 dk).drewN n) := (mods_putRow w g 0 dk).drewN n
  have HD := Aside0.mk hr.1
  have HC := Aside0.mk hr.2
  have HM := Aside0.mk hM
  clear hr hM hd hdk hfi hf
  change _
  generalize (Go.Sort.putRow encU w g 0 dk).drewN n = W1 at HD HC HM ⊢
  go_wp2_with fail
  go_loop [3] (fun s3 => ∃ k : Nat, s3 = .int .i64 k ∧ k ≤ 20) (fun s3 => (intOf s3).toNat)
  case atStart => exact ⟨nd, rfl, hnd⟩
  case round =>
    obtain ⟨k, rfl, hk⟩ := hrel
    rcases k with _ | k
    · go_wp2
      go_ret2
      exact ⟨0, by omega, rfl, HD.out, HM.out⟩
    · obtain ⟨z, hz⟩ := HC.out k (by omega)
      have h1 : ((k + 1 : Nat) : Int) - 1 = (k : Int) := by omega
      have h0 : (0 : Int) < ((k + 1 : Nat) : Int) := by omega
      have hk32 : (k : Int) < 32 := by omega
      by_cases hz48 : z = 48
      · subst hz48
        go_wp2
        go_round
        case rel => exact ⟨k, by go_num, by omega⟩
        case measure => simp [intOf]
      · have hzb : (z == 48) = false := beq_eq_false_iff_ne.mpr hz48
        go_wp2
        go_ret2
        exact ⟨k + 1, hk, rfl, HD.out, HM.out⟩
end

section
open Go.RowKit Go.Proofs.YtmdlmjjggjemdaaGreatDoorW.PrintWords Go.Proofs.YtmdlmjjggjemdaaGreatDoorW.PrintMore Go.Proofs.YtmdlmjjggjemdaaGreatDoorW.PrintLast Go.Proofs.YtmdlmjjggjemdaaGreatDoor.PFnRespRaw
attribute [local go_sem] max2_int min2_int max_two min_two max_three min_three max_four min_four
set_option linter.unusedVariables false
set_option linter.unusedSimpArgs false

/-- What is written so far: a row of the call's own of at most L bytes, none of them 10; the digits lie in another block. -/
structure Acc (W0 : World) (B : Nat) (A : Option Addr) (m : Nat) (ds : List Int) (L : Nat) (w : World) (v : Value) : Prop where
  row : ∃ xs : List Int, Own w B v xs ∧ xs.length ≤ L ∧ Fine xs
  reads : ReadsInt w .u8 A m ds
  there : ∀ ad, A = some ad → ad.block < w.heap.size
  apart : ∀ k, v.ownBlock = some k → ∀ ad, A = some ad → ad.block ≠ k
  below : Below B W0 w
  size : B ≤ w.heap.size

theorem bytes_reads (w : World) (bs : List Int) (vs : Array Value) (hvs : vs = (nums .u8 bs).toArray) (n : Nat) (hn : bs.length = n) (hl : n ≤ 1000) : ReadsInt (w.alloc (.cells vs 5)) .u8 (some ⟨w.heap.size, 0, none⟩) n bs := by
  subst hvs
  refine ⟨hn, by omega, fun _ => ⟨_, rfl, fun j hj => ?_⟩⟩
  rw [add_plain, cell_of_row _ _ j _ 5 (0, 0) (heap_alloc_new w _)]
  simp [nums, List.getD, show j < bs.length by omega]

theorem Acc.grow {W0 w w1 : World} {B m L n : Nat} {A : Option Addr} {ds bs xs : List Int} {v v1 : Value} (h : Acc W0 B A m ds L w v) (hl : xs.length ≤ L) (hO : Own w B v xs) (hx : Fine xs) (hb : Fine bs) (hn : bs.length = n)
    (hO1 : Own w1 B v1 (xs ++ bs)) (hB : Below B w w1) (hg : w.grownBy w1 v.ownBlock) (hat : v1.ownBlock = v.ownBlock ∨ ∃ b, v1.ownBlock = some b ∧ w.heap.size ≤ b) : Acc W0 B A m ds (L + n) w1 v1 :=
  ⟨⟨xs ++ bs, hO1, by rw [List.length_append]; omega, fine_append hx hb⟩,
    ((Mods.refl (fun k => v.ownBlock = some k) w).grown hg (fun k e => .inl e)).reads h.reads (fun ad e hk => h.apart _ hk ad e rfl),
    fun ad e => Nat.lt_of_lt_of_le (h.there ad e) hg.size,
    fun k e ad ea => by
      rcases hat with ha | ⟨b, hb, hbl⟩
      · exact h.apart k (ha ▸ e) ad ea
      · have := h.there ad ea
        rw [hb] at e
        injection e with e
        omega,
    h.below.trans hB, Nat.le_trans h.size hg.size⟩

theorem Acc.alloc {W0 w : World} {B m L : Nat} {A : Option Addr} {ds : List Int} {v : Value} (h : Acc W0 B A m ds L w v) (o : Obj) : Acc W0 B A m ds L (w.alloc o) v := by
  obtain ⟨xs, hO, hl, hx⟩ := h.row
  exact ⟨⟨xs, pw_own_below hO (below_alloc (Below.refl _ _) _), hl, hx⟩, ((Mods.refl (fun _ => False) w).alloc o).reads h.reads (fun _ _ => id),
    fun ad e => Nat.lt_of_lt_of_le (h.there ad e) (by simp), h.apart, h.below.trans ((Below.refl _ _).alloc h.size o), by have := h.size; simp; omega⟩

/-- The append of bytes written out. -/
theorem acc_append {ops : Array Oper} {rest : List Oper} {o : Oper} {a : Act} {Q : Exit → Act → World → Prop} {W0 w : World} {B m L : Nat} {A : Option Addr} {ds : List Int} {v : Value} (bs : List Int) (vs : Array Value) (n : Nat) (hgd : o.guard = none) (s x : Operand)
    (ho : o.op = .call { callee := .builtin .append, args := #[s, x], argTypes := #[41, 41] }) (HA : Acc W0 B A m ds L w v) (hvs : vs = (nums .u8 bs).toArray) (hn : bs.length = n) (h10 : Fine bs) (hL : L + n ≤ 1000) (hs : a.eval s = v) (hx : a.eval x = .slice (some ⟨w.heap.size, 0, none⟩) n n)
    (h : ∀ v1 w1, Acc W0 B A m ds (L + n) w1 v1 → wpList Tryz.prog ops Q rest (a.put o.dst v1) w1) : wpList Tryz.prog ops Q (o :: rest) a (w.alloc (.cells vs 5)) := by
  have HA1 := HA.alloc (.cells vs 5)
  obtain ⟨xs, hO, hl, hx10⟩ := HA1.row
  exact print_append_row (w0 := w.alloc (.cells vs 5)) B hgd s x 41 5 .u8 1 ho Tryz.underlying41 info5 (by decide) v xs bs (some ⟨w.heap.size, 0, none⟩) n n hs hx hO (bytes_reads w bs vs hvs n hn (by omega)) (Below.refl _ _) HA1.size (by omega)
    (fun v1 w1 hO1 hB hg hat => h v1 w1 (HA1.grow hl hO hx10 h10 hn hO1 hB hg hat))

/-- What fmtEFG gives. -/
def FmtPost (W0 : World) (B L : Nat) (e : Ending) (w' : World) : Prop := ∃ (v : Value) (xs : List Int), e = .returned v ∧ Own w' B v xs ∧ xs.length ≤ L ∧ Fine xs ∧ Below B W0 w'

theorem Acc.mono {W0 w : World} {B m L L' : Nat} {A : Option Addr} {ds : List Int} {v : Value} (h : Acc W0 B A m ds L w v) (hl : L ≤ L') : Acc W0 B A m ds L' w v := by
  obtain ⟨xs, hO, hx, h10⟩ := h.row
  exact ⟨⟨xs, hO, by omega, h10⟩, h.reads, h.there, h.apart, h.below, h.size⟩

theorem Acc.digit {W0 w : World} {B L g : Nat} {ds : List Int} {v : Value} (h : Acc W0 B (some ⟨g, 0, none⟩) 32 ds L w v) (hd : Fine ds) (j : Nat) (hj : j < 32) : ∃ c : Int, Fine1 c ∧ w.cell? ⟨g, j, none⟩ = some (.int .u8 c) := by
  obtain ⟨ad, e, hc⟩ := h.reads.2.2 (by omega)
  injection e with e
  subst e
  have := hc j hj
  rw [add_plain] at this
  have hl := h.reads.1
  refine ⟨ds.getD j 0, hd _ ?_, this⟩
  simp [List.getD, show j < ds.length by omega]

/-- A part of the digits is appended. -/
theorem acc_part {ops : Array Oper} {rest : List Oper} {o : Oper} {a : Act} {Q : Exit → Act → World → Prop} {W0 w : World} {B L g : Nat} {ds : List Int} {v : Value} (j n c : Nat) (hgd : o.guard = none) (s x : Operand)
    (ho : o.op = .call { callee := .builtin .append, args := #[s, x], argTypes := #[41, 41] }) (HA : Acc W0 B (some ⟨g, 0, none⟩) 32 ds L w v) (hd : Fine ds) (hj : j + n ≤ 32) (hL : L + n ≤ 1000) (hs : a.eval s = v) (hx : a.eval x = .slice (some ⟨g, j, none⟩) n c)
    (h : ∀ v1 w1, Acc W0 B (some ⟨g, 0, none⟩) 32 ds (L + n) w1 v1 → wpList Tryz.prog ops Q rest (a.put o.dst v1) w1) : wpList Tryz.prog ops Q (o :: rest) a w := by
  obtain ⟨xs, hO, hl, hx10⟩ := HA.row
  have hdl := HA.reads.1
  obtain ⟨ad, e, hc⟩ := HA.reads.2.2 (by omega)
  injection e with e
  subst e
  have hR : ReadsInt w .u8 (some ⟨g, j, none⟩) n ((ds.drop j).take n) := by
    refine ⟨by simp; omega, by omega, fun _ => ⟨_, rfl, fun i hi => ?_⟩⟩
    have := hc (j + i) (by omega)
    rw [add_plain] at this
    have e2 : (⟨g, j, none⟩ : Addr).add i = ⟨g, j + i, none⟩ := by simp [Addr.add]
    rw [e2, this]
    simp [List.getD, List.getElem?_take, hi, List.getElem?_drop]
  exact print_append_row (w0 := w) B hgd s x 41 5 .u8 1 ho Tryz.underlying41 info5 (by decide) v xs ((ds.drop j).take n) (some ⟨g, j, none⟩) n c hs hx hO hR (Below.refl _ _) HA.size (by omega)
    (fun v1 w1 hO1 hB hg hat => h v1 w1 (HA.grow hl hO hx10 (fun x h => hd x (List.mem_of_mem_drop (List.mem_of_mem_take h))) hR.1 hO1 hB hg hat))

set_option maxHeartbeats 8000000 in
set_option maxRecDepth 100000 in
theorem fmtE_calls (w W0 : World) (B g : Nat) (ds : List Int) (v : Value) (neg : Bool) (dp : Int) (nd : Nat) (HA : Aside0 (Acc W0 B (some ⟨g, 0, none⟩) 32 ds 0 w v)) (hds : Aside0 (Fine ds)) (hnd : nd ≤ 20)
    (hdp0 : -420 ≤ dp) (hdp1 : dp ≤ 420) (hE : Aside0 (dp ≤ -4 ∨ 7 ≤ dp)) :
    Calls Tryz.prog 99 #[v, .bool neg, .slice (some ⟨g, 0, none⟩) 32 32, .int .i64 dp, .int .i64 nd, .int .i64 nd, .int .u8 103, .bool true] w (FmtPost W0 B 1000) := by
  go_enter Tryz.func99, Tryz.ntmps99
  go_upto_region 8 with fail
  go_cut [56] from 50 to 55 (fun s56 wx => s56 = .bool true ∧ w = wx)
  case first =>
    rcases hE.out with h | h
    · have h1 : dp - 1 < -4 := by omega
      go_wp2
      go_meet
      exact ⟨rfl, rfl⟩
    · have h1 : ¬ dp - 1 < -4 := by omega
      have h2 : dp - 1 ≥ 6 := by omega
      go_wp2
      go_meet
      exact ⟨rfl, rfl⟩
  case rest =>
  obtain ⟨rfl, rfl⟩ := hcut
  go_upto_if 78 with fail
  go_cut [0] from 79 to 81 (fun s0 wx => Aside0 (Acc W0 B (some ⟨g, 0, none⟩) 32 ds 1 wx s0))
  case first =>
    cases neg
    · go_wp2
      go_meet
      exact ⟨HA.out.mono (by omega)⟩
    · go_wp2_with (with_reducible refine acc_append [45] #[.int .u8 45] 1 rfl (.tmp 79) (.tmp 80) rfl HA.out rfl rfl (by decide) (by omega) rfl rfl ?_)
      intro v1 w1 h
      have H := Aside0.mk h
      clear h
      go_wp2_with fail
      go_meet
      exact H
  case rest =>
  have HA1 := hcut
  clear hcut
  go_upto_if 83 with fail
  go_cut [19] from 84 to 86 (fun s19 wx => ∃ c : Int, s19 = .int .u8 c ∧ Fine1 c ∧ wc = wx)
  case first =>
    obtain ⟨c, hc, hcc⟩ := HA1.out.digit hds.out 0 (by omega)
    go_wp2
    all_goals
      go_meet
      first
        | exact ⟨48, rfl, by omega, rfl⟩
        | exact ⟨c, rfl, hc, rfl⟩
  case rest =>
  obtain ⟨c, rfl, hc, rfl⟩ := hcut
  go_upto_if 92 with (with_reducible refine acc_append [c] #[.int .u8 c] 1 rfl (.tmp 87) (.tmp 89) rfl HA1.out rfl rfl (by simp only [fine_cons, fine_nil, Fine1, and_true]; omega) (by omega) rfl rfl ?_)
  intro v1 w1 h
  have HA2 := Aside0.mk h
  clear h HA1 HA
  go_upto_if 92 with fail
  obtain ⟨q, hq, hq0, hq1⟩ : ∃ q : Int, q = (nd : Int) - 1 ∧ -1 ≤ q ∧ q ≤ 19 := ⟨_, rfl, by omega, by omega⟩
  rw [← hq]
  have HQ := Aside0.mk hq
  clear hq
  go_cut [0, 20, 21] from 91 to 119 (fun s0 s20 s21 wx => Aside0 (Acc W0 B (some ⟨g, 0, none⟩) 32 ds 30 wx s0))
  case first =>
    by_cases h0 : (1 : Int) < (nd : Int)
    · go_wp2_with (with_reducible refine acc_append [46] #[.int .u8 46] 1 rfl (.tmp 93) (.tmp 94) rfl HA2.out rfl rfl (by decide) (by omega) rfl rfl ?_)
      intro v2 w2 h
      have HA3 := Aside0.mk h
      clear h
      have hq2 : 0 < q := by have := HQ.out; omega
      have hqn : (q + 1).toNat - 1 ≤ 20 := by omega
      go_wp2_with (refine acc_part _ _ _ rfl (.tmp 103) (.tmp 107) rfl HA3.out hds.out ?_ ?_ rfl rfl ?_)
      all_goals try omega
      all_goals
        intro v3 w3 h
        have HA4 := Aside0.mk (h.mono (L' := 30) (by omega))
        clear h
        have hz : decide ((0 : Int) < q + 1 - (nd : Int)) = false := decide_eq_false (by have := HQ.out; omega)
        have hz2 : decide ((0 : Int) < q + 1 - (q + 1)) = false := decide_eq_false (by omega)
        have hz3 : decide ((nd : Int) < q + 1) = false := decide_eq_false (by have := HQ.out; omega)
        go_wp2_with fail
        go_loop [0, 114] (fun v0 s => v0 = v3 ∧ s = .int .i64 0) (fun _ _ => 0)
        case atStart => exact ⟨rfl, rfl⟩
        case round =>
          obtain ⟨rfl, rfl⟩ := hrel
          go_wp2
          go_meet
          exact HA4
    · have h0' : decide ((1 : Int) < (nd : Int)) = false := decide_eq_false h0
      go_wp2
      go_meet
      exact ⟨HA2.out.mono (by omega)⟩
  case rest =>
  have HA3 := hcut
  clear hcut HA2
  go_upto_if 127 with (with_reducible refine acc_append [101] #[.int .u8 101] 1 rfl (.tmp 120) (.tmp 122) rfl HA3.out rfl rfl (by decide) (by omega) rfl rfl ?_)
  intro v2 w2 h
  have HA4 := Aside0.mk h
  clear h HA3
  go_upto_if 127 with fail
  go_cut [22] from 128 to 128 (fun s22 wx => ∃ x : Int, s22 = .int .i64 x ∧ -421 ≤ x ∧ x ≤ 421 ∧ w2 = wx)
  case first =>
    go_wp2
    all_goals
      go_meet
      exact ⟨_, rfl, by omega, by omega, rfl⟩
  case rest =>
  obtain ⟨x, rfl, hx0, hx1, rfl⟩ := hcut
  go_upto_if 129 with fail
  go_cut [19, 22] from 130 to 131 (fun s19 s22 wx => ∃ (c : Int) (y : Int), s19 = .int .u8 c ∧ Fine1 c ∧ s22 = .int .i64 y ∧ 0 ≤ y ∧ y ≤ 421 ∧ w2 = wx)
  case first =>
    go_wp2
    all_goals
      go_meet
      exact ⟨_, _, rfl, by omega, rfl, by omega, by omega, rfl⟩
  case rest =>
  obtain ⟨c2, y, rfl, hc2, rfl, hy0, hy1, rfl⟩ := hcut
  go_wp2_with (with_reducible refine acc_append [c2] #[.int .u8 c2] 1 rfl (.tmp 132) (.tmp 134) rfl HA4.out rfl rfl (by simp only [fine_cons, fine_nil, Fine1, and_true]; omega) (by omega) rfl rfl ?_)
  intro v3 w3 h
  have HA5 := Aside0.mk h
  clear h HA4
  rcases Int.lt_or_le y 10 with h10 | h10
  · go_wp2_with (with_reducible refine acc_append [48, y + 48] #[.int .u8 48, .int .u8 (y + 48)] 2 rfl (.tmp 155) (.tmp 159) rfl HA5.out rfl rfl (by simp only [fine_cons, fine_nil, Fine1, and_true]; omega) (by omega) rfl rfl ?_)
    intro v4 w4 h
    have HA6 := Aside0.mk h
    clear h HA5
    go_wp2
    go_ret
    obtain ⟨xs, hO, hl, hx⟩ := HA6.out.row
    exact ⟨_, xs, rfl, hO, by omega, hx, HA6.out.below⟩
  · have hd10 : decide (y < 10) = false := decide_eq_false (by omega)
    rcases Int.lt_or_le y 100 with h100 | h100
    · go_wp2_with (with_reducible refine acc_append [y / 10 + 48, y % 10 + 48] #[.int .u8 (y / 10 + 48), .int .u8 (y % 10 + 48)] 2 rfl (.tmp 164) (.tmp 173) rfl HA5.out rfl rfl (by simp only [fine_cons, fine_nil, Fine1, and_true]; omega) (by omega) rfl rfl ?_)
      intro v4 w4 h
      have HA6 := Aside0.mk h
      clear h HA5
      go_wp2
      go_ret
      obtain ⟨xs, hO, hl, hx⟩ := HA6.out.row
      exact ⟨_, xs, rfl, hO, by omega, hx, HA6.out.below⟩
    · have hd100 : decide (y < 100) = false := decide_eq_false (by omega)
      go_wp2_with (with_reducible refine acc_append [y / 100 + 48, y / 10 % 10 + 48, y % 10 + 48] #[.int .u8 (y / 100 + 48), .int .u8 (y / 10 % 10 + 48), .int .u8 (y % 10 + 48)] 3 rfl (.tmp 136) (.tmp 150) rfl HA5.out rfl rfl (by simp only [fine_cons, fine_nil, Fine1, and_true]; omega) (by omega) rfl rfl ?_)
      intro v4 w4 h
      have HA6 := Aside0.mk h
      clear h HA5
      go_wp2
      go_ret
      obtain ⟨xs, hO, hl, hx⟩ := HA6.out.row
      exact ⟨_, xs, rfl, hO, by omega, hx, HA6.out.below⟩
end

section
open Go.RowKit Go.Proofs.YtmdlmjjggjemdaaGreatDoorW.PrintWords Go.Proofs.YtmdlmjjggjemdaaGreatDoorW.PrintMore Go.Proofs.YtmdlmjjggjemdaaGreatDoorW.PrintLast Go.Proofs.YtmdlmjjggjemdaaGreatDoor.PFnRespRaw
attribute [local go_sem] max2_int min2_int max_two min_two max_three min_three max_four min_four
set_option linter.unusedVariables false
set_option linter.unusedSimpArgs false

set_option maxHeartbeats 8000000 in
set_option maxRecDepth 100000 in
theorem fmtF_calls (w W0 : World) (B g : Nat) (ds : List Int) (v : Value) (neg : Bool) (dp : Int) (nd : Nat) (HA : Aside0 (Acc W0 B (some ⟨g, 0, none⟩) 32 ds 0 w v)) (hds : Aside0 (Fine ds)) (hnd : nd ≤ 20)
    (hdp0 : -4 < dp) (hdp1 : dp < 7) :
    Calls Tryz.prog 99 #[v, .bool neg, .slice (some ⟨g, 0, none⟩) 32 32, .int .i64 dp, .int .i64 nd, .int .i64 nd, .int .u8 103, .bool true] w (FmtPost W0 B 1000) := by
  have hg1 : decide (dp - 1 < -4) = false := decide_eq_false (by omega)
  have hg2 : decide (6 ≤ dp - 1) = false := decide_eq_false (by omega)
  go_enter Tryz.func99, Tryz.ntmps99
  go_upto_if 68 with fail
  go_cut [5] from 66 to 69 (fun s5 wx => s5 = .int .i64 nd ∧ w = wx)
  case first =>
    go_wp2
    all_goals
      go_meet
      exact ⟨rfl, rfl⟩
  case rest =>
  obtain ⟨rfl, rfl⟩ := hcut
  go_upto_region 15 with fail
  go_cut [5] from 70 to 73 (fun s5 wx => ∃ q : Int, s5 = .int .i64 q ∧ 0 ≤ q ∧ q ≤ 24 ∧ (dp ≤ 0 → q = nd - dp) ∧ w = wx)
  case first =>
    go_wp2
    all_goals
      go_meet
      exact ⟨_, rfl, by omega, by omega, fun _ => by omega, rfl⟩
  case rest =>
  obtain ⟨q, rfl, hq0, hq1, hq2, rfl⟩ := hcut
  have HQ2 := Aside0.mk hq2
  clear hq2
  go_upto_if 178 with fail
  go_cut [0] from 179 to 181 (fun s0 wx => Aside0 (Acc W0 B (some ⟨g, 0, none⟩) 32 ds 1 wx s0))
  case first =>
    cases neg
    · go_wp2
      go_meet
      exact ⟨HA.out.mono (by omega)⟩
    · go_wp2_with (with_reducible refine acc_append [45] #[.int .u8 45] 1 rfl (.tmp 179) (.tmp 180) rfl HA.out rfl rfl (by decide) (by omega) rfl rfl ?_)
      intro v1 w1 h
      have H := Aside0.mk h
      clear h
      go_wp2_with fail
      go_meet
      exact H
  case rest =>
  have HA1 := hcut
  clear hcut HA
  go_upto_if 183 with fail
  go_cut [0, 23, 25] from 182 to 211 (fun s0 s23 s25 wx => Aside0 (Acc W0 B (some ⟨g, 0, none⟩) 32 ds 40 wx s0))
  case first =>
    by_cases hp : (0 : Int) < dp
    · obtain ⟨D, rfl⟩ := Int.eq_ofNat_of_zero_le (show 0 ≤ dp by omega)
      go_upto_region 56 with fail
      go_cut [23] from 182 to 186 (fun s23 wx => ∃ m : Nat, s23 = .int .i64 m ∧ m ≤ nd ∧ m ≤ D ∧ wc = wx)
      case first =>
        go_wp2
        all_goals
          go_meet
          first
            | exact ⟨nd, rfl, by omega, by omega, rfl⟩
            | exact ⟨D, rfl, by omega, by omega, rfl⟩
      case rest =>
      obtain ⟨m, rfl, hm0, hm1, rfl⟩ := hcut
      go_wp2_with fail
      go_loopw [0, 25, 191] (fun v0 v25 v191 wr => ∃ k : Nat, v191 = .int .i64 k ∧ k ≤ m ∧ Aside0 (Acc W0 B (some ⟨g, 0, none⟩) 32 ds (1 + k) wr v0)) (fun _ _ v191 _ => m - (intOf v191).toNat)
      case atStart => exact ⟨0, rfl, by omega, HA1⟩
      case round =>
        obtain ⟨k, rfl, hk, HAk⟩ := hrel
        by_cases hkm : k < m
        · obtain ⟨c, hc, hcc⟩ := HAk.out.digit hds.out k (by omega)
          go_wp2_with (with_reducible refine acc_append [c] #[.int .u8 c] 1 rfl (.tmp 195) (.tmp 197) rfl HAk.out rfl rfl (by simp only [fine_cons, fine_nil, Fine1, and_true]; omega) (by omega) rfl rfl ?_)
          intro v1 w1 h
          have H := Aside0.mk h
          clear h
          go_wp2_with fail
          go_roundw
          case measure => simp [intOf]; omega
          case rel => exact ⟨k + 1, by go_num, by omega, H⟩
        · go_wp2_with fail
          go_loopw [0, 203] (fun v0 v203 wr => ∃ j : Nat, v203 = .int .i64 j ∧ j ≤ D - m ∧ Aside0 (Acc W0 B (some ⟨g, 0, none⟩) 32 ds (1 + k + j) wr v0)) (fun _ v203 _ => (D - m) - (intOf v203).toNat)
          case atStart => exact ⟨0, rfl, by omega, HAk⟩
          case round =>
            obtain ⟨j, rfl, hj, HAj⟩ := hrel
            by_cases hjm : j < D - m
            · have hjm' : (j : Int) < (D : Int) - (m : Int) := by omega
              go_wp2_with (with_reducible refine acc_append [48] #[.int .u8 48] 1 rfl (.tmp 205) (.tmp 206) rfl HAj.out rfl rfl (by decide) (by omega) rfl rfl ?_)
              intro v1 w1 h
              have H := Aside0.mk h
              clear h
              go_wp2_with fail
              go_roundw
              case measure => simp [intOf]; omega
              case rel => exact ⟨j + 1, by go_num, by omega, H⟩
            · have hjm' : decide ((j : Int) < (D : Int) - (m : Int)) = false := decide_eq_false (by omega)
              go_wp2
              go_meet
              exact ⟨HAj.out.mono (by omega)⟩
    · have hp' : decide ((0 : Int) < dp) = false := decide_eq_false hp
      go_wp2_with (with_reducible refine acc_append [48] #[.int .u8 48] 1 rfl (.tmp 209) (.tmp 210) rfl HA1.out rfl rfl (by decide) (by omega) rfl rfl ?_)
      intro v1 w1 h
      have H := Aside0.mk (h.mono (L' := 40) (by omega))
      clear h
      go_wp2_with fail
      go_meet
      exact H
  case rest =>
  have HA2 := hcut
  clear hcut HA1
  by_cases hq : (0 : Int) < q
  · go_upto_region 69 with (with_reducible refine acc_append [46] #[.int .u8 46] 1 rfl (.tmp 214) (.tmp 215) rfl HA2.out rfl rfl (by decide) (by omega) rfl rfl ?_)
    intro v1 w1 h
    have HA3 := Aside0.mk h
    clear h HA2
    go_upto_region 69 with fail
    have hqq := HQ2.out
    go_cut [26] from 217 to 221 (fun s26 wx => ∃ lz : Int, s26 = .int .i64 lz ∧ 0 ≤ lz ∧ lz ≤ 24 ∧ lz ≤ q ∧ 0 ≤ dp + lz ∧ w1 = wx)
    case first =>
      go_wp2
      all_goals
        go_meet
        exact ⟨_, rfl, by omega, by omega, by omega, by omega, rfl⟩
    case rest =>
    obtain ⟨lz, rfl, hlz0, hlz1, hlz2, hlz3, rfl⟩ := hcut
    clear hqq
    go_upto_region 71 with fail
    obtain ⟨off, hoff, hof0, hof1⟩ : ∃ off : Nat, dp + lz = (off : Int) ∧ (off : Int) ≤ 40 ∧ 0 ≤ (off : Int) := ⟨(dp + lz).toNat, by omega, by omega, by omega⟩
    rw [hoff]
    go_cut [28] from 222 to 232 (fun s28 wx => ∃ m : Int, s28 = .int .i64 m ∧ 0 ≤ m ∧ m ≤ 24 ∧ (m = 0 ∨ off + m ≤ 20) ∧ w1 = wx)
    case first =>
      go_wp2
      all_goals
        go_meet
        exact ⟨_, rfl, by omega, by omega, by omega, rfl⟩
    case rest =>
    obtain ⟨m, rfl, hm0, hm1, hm2, rfl⟩ := hcut
    go_upto_region 72 with fail
    go_cut [29] from 233 to 238 (fun s29 wx => ∃ tz : Int, s29 = .int .i64 tz ∧ 0 ≤ tz ∧ tz ≤ 24 ∧ w1 = wx)
    case first =>
      go_wp2
      all_goals
        go_meet
        exact ⟨_, rfl, by omega, by omega, rfl⟩
    case rest =>
    obtain ⟨tz, rfl, htz0, htz1, rfl⟩ := hcut
    obtain ⟨lz, rfl⟩ := Int.eq_ofNat_of_zero_le hlz0
    obtain ⟨m, rfl⟩ := Int.eq_ofNat_of_zero_le hm0
    obtain ⟨tz, rfl⟩ := Int.eq_ofNat_of_zero_le htz0
    have HM := Aside0.mk hm2
    clear hm2 hoff
    go_wp2_with fail
    go_loopw [0, 240] (fun v0 v240 wr => ∃ j : Nat, v240 = .int .i64 j ∧ j ≤ lz ∧ Aside0 (Acc W0 B (some ⟨g, 0, none⟩) 32 ds (41 + j) wr v0)) (fun _ v240 _ => lz - (intOf v240).toNat)
    case atStart => exact ⟨0, rfl, by omega, HA3⟩
    case round =>
      obtain ⟨j, rfl, hj, HAj⟩ := hrel
      by_cases hjm : j < lz
      · go_wp2_with (with_reducible refine acc_append [48] #[.int .u8 48] 1 rfl (.tmp 242) (.tmp 243) rfl HAj.out rfl rfl (by decide) (by omega) rfl rfl ?_)
        intro v2 w2 h
        have H := Aside0.mk h
        clear h
        go_wp2_with fail
        go_roundw
        case measure => simp [intOf]; omega
        case rel => exact ⟨j + 1, by go_num, by omega, H⟩
      · go_wp2_with fail
        go_loopw [0, 30, 247] (fun v0 v30 v247 wr => ∃ k : Nat, v247 = .int .i64 k ∧ k ≤ m ∧ Aside0 (Acc W0 B (some ⟨g, 0, none⟩) 32 ds (41 + j + k) wr v0)) (fun _ _ v247 _ => m - (intOf v247).toNat)
        case atStart => exact ⟨0, rfl, by omega, HAj⟩
        case round =>
          obtain ⟨k, rfl, hk, HAk⟩ := hrel
          by_cases hkm : k < m
          · have hof : off + k < 32 := by have := HM.out; omega
            obtain ⟨c, hc, hcc⟩ := HAk.out.digit hds.out (off + k) hof
            go_wp2_with (with_reducible refine acc_append [c] #[.int .u8 c] 1 rfl (.tmp 250) (.tmp 257) rfl HAk.out rfl rfl (by simp only [fine_cons, fine_nil, Fine1, and_true]; omega) (by omega) rfl rfl ?_)
            intro v2 w2 h
            have H := Aside0.mk h
            clear h
            go_wp2_with fail
            go_roundw
            case measure => simp [intOf]; omega
            case rel => exact ⟨k + 1, by go_num, by omega, H⟩
          · go_wp2_with fail
            go_loopw [0, 261] (fun v0 v261 wr => ∃ i : Nat, v261 = .int .i64 i ∧ i ≤ tz ∧ Aside0 (Acc W0 B (some ⟨g, 0, none⟩) 32 ds (41 + j + k + i) wr v0)) (fun _ v261 _ => tz - (intOf v261).toNat)
            case atStart => exact ⟨0, rfl, by omega, HAk⟩
            case round =>
              obtain ⟨i, rfl, hi, HAi⟩ := hrel
              by_cases him : i < tz
              · go_wp2_with (with_reducible refine acc_append [48] #[.int .u8 48] 1 rfl (.tmp 263) (.tmp 264) rfl HAi.out rfl rfl (by decide) (by omega) rfl rfl ?_)
                intro v2 w2 h
                have H := Aside0.mk h
                clear h
                go_wp2_with fail
                go_roundw
                case measure => simp [intOf]; omega
                case rel => exact ⟨i + 1, by go_num, by omega, H⟩
              · go_wp2
                go_ret
                obtain ⟨xs, hO, hl, hx⟩ := HAi.out.row
                exact ⟨_, xs, rfl, hO, by omega, hx, HAi.out.below⟩
  · have hq' : decide ((0 : Int) < q) = false := decide_eq_false hq
    go_wp2
    go_ret
    obtain ⟨xs, hO, hl, hx⟩ := HA2.out.row
    exact ⟨_, xs, rfl, hO, by omega, hx, HA2.out.below⟩

set_option maxHeartbeats 8000000 in
set_option maxRecDepth 100000 in
theorem fmtZ_calls (w W0 : World) (B : Nat) (v : Value) (neg : Bool) (HA : Aside0 (Acc W0 B none 0 [] 0 w v)) :
    Calls Tryz.prog 99 #[v, .bool neg, .slice none 0 0, .int .i64 0, .int .i64 0, .int .i64 (-1), .int .u8 103, .bool true] w (FmtPost W0 B 1000) := by
  go_enter Tryz.func99, Tryz.ntmps99
  go_upto_if 178 with fail
  go_cut [0] from 179 to 181 (fun s0 wx => Aside0 (Acc W0 B none 0 [] 1 wx s0))
  case first =>
    cases neg
    · go_wp2
      go_meet
      exact ⟨HA.out.mono (by omega)⟩
    · go_wp2_with (with_reducible refine acc_append [45] #[.int .u8 45] 1 rfl (.tmp 179) (.tmp 180) rfl HA.out rfl rfl (by decide) (by omega) rfl rfl ?_)
      intro v1 w1 h
      have H := Aside0.mk h
      clear h
      go_wp2_with fail
      go_meet
      exact H
  case rest =>
  have HA1 := hcut
  clear hcut HA
  go_wp2_with (with_reducible refine acc_append [48] #[.int .u8 48] 1 rfl (.tmp 209) (.tmp 210) rfl HA1.out rfl rfl (by decide) (by omega) rfl rfl ?_)
  intro v1 w1 h
  have H := Aside0.mk h
  clear h
  go_wp2
  go_ret
  obtain ⟨xs, hO, hl, hx⟩ := H.out.row
  exact ⟨_, xs, rfl, hO, by omega, hx, H.out.below⟩

/-- fmtEFG in the shortest 'g' form. -/
theorem fmtG_calls (w W0 : World) (B g : Nat) (ds : List Int) (v : Value) (neg : Bool) (dp : Int) (nd : Nat) (HA : Aside0 (Acc W0 B (some ⟨g, 0, none⟩) 32 ds 0 w v)) (hds : Aside0 (Fine ds)) (hnd : nd ≤ 20)
    (hdp0 : -420 ≤ dp) (hdp1 : dp ≤ 420) :
    Calls Tryz.prog 99 #[v, .bool neg, .slice (some ⟨g, 0, none⟩) 32 32, .int .i64 dp, .int .i64 nd, .int .i64 nd, .int .u8 103, .bool true] w (FmtPost W0 B 1000) := by
  by_cases h : dp ≤ -4 ∨ 7 ≤ dp
  · exact fmtE_calls w W0 B g ds v neg dp nd HA hds hnd hdp0 hdp1 ⟨h⟩
  · exact fmtF_calls w W0 B g ds v neg dp nd HA hds hnd (by omega) (by omega)
end
end Go.Proofs.YtmdlmjjggjemdaaGreatDoor
