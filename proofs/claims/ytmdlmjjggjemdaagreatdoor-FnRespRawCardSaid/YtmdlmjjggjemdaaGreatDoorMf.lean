/- FormatFloat: ftoa64 and what stands above it. FormatFloat and floatText. What the reference writes: texts that stand in a line. What the reference writes: numerals. The law's test of a reply's size. -/
import Derived.Test.YtmdlmjjggjemdaaGreatDoorMe
import Derived.Lib.AppendIntMem
import Derived.Laws.Cover2
import Derived.Test.YtmdlmjjggjemdaaGreatDoorPFnRespRawx1
import Derived.Test.YtmdlmjjggjemdaaGreatDoorPFnRespRawx6
import Derived.Test.YtmdlmjjggjemdaaGreatDoorPFnRespRawx7
import Derived.Test.YtmdlmjjggjemdaaGreatDoorPFnRespRawx8
namespace Go.Proofs.YtmdlmjjggjemdaaGreatDoor
section
open Go.RowKit Go.Proofs.YtmdlmjjggjemdaaGreatDoorW.PrintWords Go.Proofs.YtmdlmjjggjemdaaGreatDoorW.PrintMore Go.Proofs.YtmdlmjjggjemdaaGreatDoorW.PrintLast Go.Proofs.YtmdlmjjggjemdaaGreatDoor.PFnRespRaw
attribute [local go_sem] max2_int min2_int max_two min_two max_three min_three max_four min_four
set_option linter.unusedVariables false
set_option linter.unusedSimpArgs false

/-- The float's bits as a number: it draws nothing and writes nothing. -/
theorem float64bits_run (b : Nat) (w : World) : (callFunc 96 #[.float .f64 b]).run Tryz.prog w = .ok (.value (.int .u64 b)) w := by kernel_rfl

attribute [local go_sem] float64bits_run

theorem Acc.drewN {W0 w : World} {B m L : Nat} {A : Option Addr} {ds : List Int} {v : Value} (h : Acc W0 B A m ds L w v) (n : Nat) : Acc W0 B A m ds L (w.drewN n) v := ⟨h.row, h.reads, h.there, h.apart, below_drewN h.below n, h.size⟩

theorem bits_and_2047 (n : Int) : ∃ k : Nat, k ≤ 2047 ∧ bits .and .i64 n 2047 = (k : Int) := by
  have h1 : (BitVec.ofInt 64 2047).toNat = 2 ^ 11 - 1 := by decide
  have key : (BitVec.ofInt 64 n &&& BitVec.ofInt 64 2047).toNat = (n % ((2 ^ 64 : Nat) : Int)).toNat % 2 ^ 11 := by
    rw [BitVec.toNat_and, BitVec.toNat_ofInt, h1, Nat.and_two_pow_sub_one_eq_mod]
  refine ⟨(n % ((2 ^ 64 : Nat) : Int)).toNat % 2 ^ 11, by omega, ?_⟩
  show IntKind.i64.wrap ((BitVec.ofInt 64 n &&& BitVec.ofInt 64 2047).toNat : Nat) = _
  rw [key, IntKind.wrap_i64]
  omega

theorem bits_mant (b : Nat) (hb : b < 18446744073709551616) : ∃ k : Nat, k < 4503599627370496 ∧ bits .and .u64 (b : Int) 4503599627370495 = (k : Int) := by
  have := bits_and_u64_nat b 4503599627370495 hb (by omega)
  refine ⟨b &&& 4503599627370495, ?_, by simpa using this⟩
  exact Nat.and_lt_two_pow (n := 52) _ (by omega)

theorem bits_or52 (b : Nat) (hb : b < 4503599627370496) : ∃ k : Nat, k < 9007199254740992 ∧ bits .or .u64 (b : Int) 4503599627370496 = (k : Int) := by
  have := bits_or_u64_nat b 4503599627370496 (by omega) (by omega)
  exact ⟨b ||| 4503599627370496, Nat.or_lt_two_pow (n := 53) (by omega) (by omega), by simpa using this⟩

/-- Behind the making of the digits. -/
theorem Acc.digs {W0 w w' : World} {B g : Nat} {ds : List Int} {v : Value} (h : Acc W0 B none 0 [] 0 w v) (hB : Below w.heap.size w w') (hg : w.heap.size ≤ g) (hg' : g < w'.heap.size) (hr : ReadsInt w' .u8 (some ⟨g, 0, none⟩) 32 ds) : Acc W0 B (some ⟨g, 0, none⟩) 32 ds 0 w' v := by
  obtain ⟨xs, hO, hl, hx⟩ := h.row
  refine ⟨⟨xs, pw_own_below hO hB, hl, hx⟩, hr, fun ad e => by cases e; exact hg', fun k e ad ea => ?_, h.below.trans ⟨hB.os, hB.tape, hB.output, hB.size, fun i hi => hB.block i (Nat.lt_of_lt_of_le hi h.size)⟩, Nat.le_trans h.size hB.size⟩
  cases ea
  have : k < w.heap.size := by
    rcases hO.2 with ⟨rfl, _⟩ | ⟨q, cap, cur, rfl, _, hh, _⟩
    · simp [Value.ownBlock] at e
    · have hq : q = k := by simpa [Value.ownBlock] using e
      subst hq
      exact blk_lt hh
  simp only []
  omega

/-- The append of a constant text, at the end. -/
theorem acc_str {ops : Array Oper} {rest : List Oper} {o : Oper} {a : Act} {Q : Exit → Act → World → Prop} {W0 w : World} {B : Nat} {v : Value} (y : ByteArray) (hgd : o.guard = none) (s x : Operand)
    (ho : o.op = .call { callee := .builtin .append, args := #[s, x], argTypes := #[41, 9] }) (HA : Acc W0 B none 0 [] 0 w v) (h10 : Fine (bytesOf y)) (hy : y.size ≤ 100) (hs : a.eval s = v) (hx : a.eval x = .string y)
    (h : ∀ v1 w1, FmtPost W0 B 1000 (.returned v1) w1 → wpList Tryz.prog ops Q rest (a.put o.dst v1) w1) : wpList Tryz.prog ops Q (o :: rest) a w := by
  obtain ⟨xs, hO, hl, hx10⟩ := HA.row
  refine print_append_str (w0 := w) B hgd s x 41 9 5 ho Tryz.underlying41 Tryz.underlying9 info5 v xs y hs hx hO (Below.refl _ _) HA.size (by omega) (fun v1 w1 hO1 hB hg => h v1 w1 ⟨v1, xs ++ bytesOf y, rfl, hO1, ?_, fine_append hx10 h10, HA.below.trans hB⟩)
  have : (bytesOf y).length = y.size := by simp [bytesOf]
  rw [List.length_append]; omega

theorem Tab10.stays {w w' : World} (h : Tab10 w) (hb : Below w.heap.size w w') : Tab10 w' := by
  obtain ⟨T, h1, h2⟩ := h
  exact ⟨T, h1, fun i hi => (Mods.of_below hb).cell (h2 i hi) id⟩
theorem TabU.stays {w w' : World} (h : TabU w) (hb : Below w.heap.size w w') : TabU w' := Lib.tabBelow_of_tabIs h w' hb

theorem bitLenAux_le : ∀ (f x : Nat), Lib.bitLenAux f x ≤ f
  | 0, _ => Nat.le_refl _
  | f + 1, x => by
    unfold Lib.bitLenAux
    have := bitLenAux_le f (x / 2)
    split <;> omega

theorem bitLen_53 (x : Nat) (h0 : 0 < x) (h : x < 9007199254740992) : 1 ≤ Lib.bitLen x ∧ Lib.bitLen x ≤ 53 := by
  constructor
  · unfold Lib.bitLen Lib.bitLenAux
    rw [if_neg (by omega)]
    omega
  · unfold Lib.bitLen
    rw [Lib.bitLenAux_fuel 53 x h 64 (by omega)]
    exact bitLenAux_le 53 x

set_option maxHeartbeats 8000000 in
set_option maxRecDepth 100000 in
theorem ftoa64_calls (w W0 : World) (B b : Nat) (v : Value) (hb : b < 18446744073709551616) (HA : Aside0 (Acc W0 B none 0 [] 0 w v)) (hT : Aside0 (Tab10 w)) (hU : Aside0 (TabU w)) (h8 : 8 < w.heap.size) :
    Calls Tryz.prog 89 #[v, .float .f64 b, .int .u8 103, .int .i64 (-1)] w (FmtPost W0 B 1000) := by
  obtain ⟨c, hc⟩ : ∃ c : Bool, ((b : Int) / 9223372036854775808 != 0) = c := ⟨_, rfl⟩
  obtain ⟨ex, hex, hexe⟩ := bits_and_2047 ((b : Int) / 4503599627370496)
  obtain ⟨mt, hmt, hmte⟩ := bits_mant b hb
  go_enter Tryz.func89, Tryz.ntmps89
  go_upto_region 16 with fail
  go_quiet (fail)
  have HA1 := Aside0.mk (HA.out.drewN nq)
  have HB1 := Aside0.mk (below_drewN (Below.refl w.heap.size w) nq)
  obtain ⟨W1, hW1⟩ : ∃ W1, W1 = w.drewN nq := ⟨_, rfl⟩
  rw [← hW1] at HA1 HB1 ⊢
  have hT1 : Aside0 (Tab10 W1) := ⟨by rw [hW1]; exact hT.out⟩
  have hU1 : Aside0 (TabU W1) := ⟨by rw [hW1]; exact hU.out⟩
  have h81 : 8 < W1.heap.size := by rw [hW1]; exact h8
  clear hW1 hT hU HA
  by_cases h47 : ex = 2047
  · subst h47
    by_cases hm0 : mt = 0
    · subst hm0
      cases c
      · go_wp2_with (with_reducible refine acc_str ⟨#[43, 73, 110, 102]⟩ rfl (.tmp 75) (.const (.string ⟨#[43, 73, 110, 102]⟩)) rfl HA1.out (by decide) (by decide) rfl rfl ?_)
        intro v1 w1 h
        have H := Aside0.mk h
        clear h
        go_wp2
        go_ret
        obtain ⟨v2, xs, e, r⟩ := H.out
        cases e
        exact ⟨_, xs, rfl, r⟩
      · go_wp2_with (with_reducible refine acc_str ⟨#[45, 73, 110, 102]⟩ rfl (.tmp 73) (.const (.string ⟨#[45, 73, 110, 102]⟩)) rfl HA1.out (by decide) (by decide) rfl rfl ?_)
        intro v1 w1 h
        have H := Aside0.mk h
        clear h
        go_wp2
        go_ret
        obtain ⟨v2, xs, e, r⟩ := H.out
        cases e
        exact ⟨_, xs, rfl, r⟩
    · have hm0' : ((mt : Int) != 0) = true := bne_iff_ne.mpr (by omega)
      · go_wp2_with (with_reducible refine acc_str ⟨#[78, 97, 78]⟩ rfl (.tmp 70) (.const (.string ⟨#[78, 97, 78]⟩)) rfl HA1.out (by decide) (by decide) rfl rfl ?_)
        intro v1 w1 h
        have H := Aside0.mk h
        clear h
        go_wp2
        go_ret
        obtain ⟨v2, xs, e, r⟩ := H.out
        cases e
        exact ⟨_, xs, rfl, r⟩
  · have h47' : ((ex : Int) == 2047) = false := beq_eq_false_iff_ne.mpr (by omega)
    go_upto_if 78 with fail
    obtain ⟨mo, hmo, hmoe⟩ := bits_or52 mt hmt
    go_cut [14, 15] from 77 to 84 (fun s14 s15 wx => ∃ (E : Int) (M : Nat), s14 = .int .i64 E ∧ s15 = .int .u64 M ∧ 1 ≤ E ∧ E ≤ 2046 ∧ M < 9007199254740992 ∧ W1 = wx)
    case first =>
      by_cases he0 : ex = 0
      · subst he0
        go_wp2
        go_meet
        exact ⟨1, mt, rfl, rfl, by omega, by omega, by omega, rfl⟩
      · have he0' : ((ex : Int) == 0) = false := beq_eq_false_iff_ne.mpr (by omega)
        go_wp2
        go_meet
        exact ⟨ex, mo, rfl, rfl, by omega, by omega, hmo, rfl⟩
    case rest =>
    obtain ⟨E, M, rfl, rfl, hE0, hE1, hM, rfl⟩ := hcut
    clear hmoe hmo hmte hmt hexe hex h47 h47' mo
    rcases Nat.eq_zero_or_pos M with rfl | hM0
    · have hf := fmtZ_calls W1 W0 B v c HA1
      go_wp2_with fail
      refine hf.mono ?_
      rintro e w2 ⟨v2, xs, rfl, r⟩
      have HR := Aside0.mk r
      clear r
      go_wp2
      go_ret
      exact ⟨_, xs, rfl, HR.out⟩
    · have hM0' : ((M : Int) == 0) = false := beq_eq_false_iff_ne.mpr (by omega)
      go_wp2_with fail
      refine (Tryz.bits_Len64 M _ (by omega) (by omega)).mono ?_
      rintro e w2 ⟨rfl, rfl⟩
      have hbl := bitLen_53 M hM0 hM
      obtain ⟨bl, hble⟩ : ∃ bl, Lib.bitLen (M : Int).toNat = bl := ⟨_, rfl⟩
      rw [Int.toNat_natCast] at hble
      rw [hble] at hbl
      rw [Int.toNat_natCast, hble]
      clear hble
      obtain ⟨sh, hsh⟩ : ∃ sh : Nat, (64 : Int) - (bl : Int) = (sh : Int) := ⟨64 - bl, by omega⟩
      obtain ⟨m2, hm2, hm2e⟩ : ∃ m2 : Nat, m2 < 18446744073709551616 ∧ IntKind.u64.wrap ((M : Int) * 2 ^ sh) = (m2 : Int) := ⟨(IntKind.u64.wrap ((M : Int) * 2 ^ sh)).toNat, by rw [wrap_u64]; omega, by rw [wrap_u64]; omega⟩
      have hsh64 : sh ≤ 63 := by omega
      obtain ⟨hbl0, hbl1⟩ := hbl
      have HS := Aside0.mk hsh
      go_wp2_with fail
      obtain ⟨g, hg⟩ : ∃ g, g = W1.heap.size := ⟨_, rfl⟩
      have HB2 : Below W1.heap.size W1 (W1.alloc (.cells (Array.replicate 32 (.int .u8 0)) 143)) := below_alloc (Below.refl _ _) _
      have hT2 := hT1.out.stays HB2
      have hU2 := hU1.out.stays HB2
      refine (shortFloat_calls (W1.alloc (.cells (Array.replicate 32 (.int .u8 0)) 143)) m2 (E + -1023 - sh - 52) hm2 (by have := HS.out; omega) (by have := HS.out; omega) hT2 (by have := HB2.size; omega)).mono ?_
      rintro e w3 ⟨d, p, hd, hp0, hp1, rfl, HB3⟩
      have hblk : w3.heap[g]? = some (.cells (Array.replicate 32 (.int .u8 0)) 143 (0, 0)) := by
        rw [HB3.block g (by rw [hg]; simp), hg]; exact heap_alloc_new _ _
      have HK := Aside0.mk hblk
      have hU3 := Aside0.mk (hU2.stays HB3)
      have HBB := Aside0.mk (show Below W1.heap.size W1 w3 from HB2.trans ⟨HB3.os, HB3.tape, HB3.output, HB3.size, fun i hi => HB3.block i (Nat.lt_of_lt_of_le hi HB2.size)⟩)
      rw [← hg]
      have HG := Aside0.mk hg
      clear hblk hU2 hT2 HB2 HB3 hg
      go_upto_region 38 with fail
      go_cut [22, 23] from 139 to 147 (fun s22 s23 wx => ∃ (dp : Int) (n2 : Nat), s22 = .int .i64 dp ∧ s23 = .int .i64 n2 ∧ -420 ≤ dp ∧ dp ≤ 420 ∧ n2 ≤ 20 ∧ Aside0 (Digs wx g) ∧ Aside0 (Below W1.heap.size W1 wx) ∧ g < wx.heap.size)
      case first =>
        have hn := numDigits_any d hd w3.drew hU3.out
        have HN := Aside0.mk hn
        clear hn
        go_region_with (first
          | (go_at_call 76; refine HN.out.mono ?_; rintro e w4 ⟨n, hn20, hlt, rfl, rfl⟩; have HL := Aside0.mk hlt; clear hlt)
          | (go_at_call 101; refine (setDigits_calls w3.drew g 143 d _ p (by exact HK.out) hn20 HL.out hd hp0 hp1).mono ?_; rintro e w4 ⟨n2, hn2, rfl, hD, hM⟩; have HD := Aside0.mk hD; have HM := Aside0.mk hM; clear hD hM))
        all_goals
          go_wp2_with fail
          go_meet
          refine ⟨_, _, rfl, rfl, by omega, by omega, hn2, HD, ⟨HBB.out.trans ?_⟩, Nat.lt_of_lt_of_le (blk_lt HK.out) HM.out.size⟩
          exact ⟨HM.out.os, HM.out.tape, HM.out.output, HM.out.size, fun i hi => HM.out.block i (Nat.lt_of_lt_of_le hi HBB.out.size) (by have := HG.out; omega)⟩
      case rest =>
      obtain ⟨dp, n2, rfl, rfl, hdp0, hdp1, hn2, HD, HB4, hg4⟩ := hcut
      obtain ⟨ds, hr, h10⟩ := HD.out
      have hf := fmtG_calls wc W0 B g ds v c dp n2 ⟨HA1.out.digs HB4.out (by have := HG.out; omega) hg4 hr⟩ ⟨h10⟩ hn2 hdp0 hdp1
      have HF := Aside0.mk hf
      clear hf hr h10
      go_wp2_with fail
      refine HF.out.mono ?_
      rintro e w2 ⟨v2, xs, rfl, r⟩
      have HR := Aside0.mk r
      clear r
      go_wp2
      go_ret
      exact ⟨_, xs, rfl, HR.out⟩
end

section
open Go.RowKit Go.Proofs.YtmdlmjjggjemdaaGreatDoorW.PrintWords Go.Proofs.YtmdlmjjggjemdaaGreatDoorW.PrintMore Go.Proofs.YtmdlmjjggjemdaaGreatDoorW.PrintLast Go.Proofs.YtmdlmjjggjemdaaGreatDoor.PFnRespRaw
attribute [local go_sem] max2_int min2_int max_two min_two max_three min_three max_four min_four
set_option linter.unusedVariables false
set_option linter.unusedSimpArgs false

theorem make24 (w : World) : (Instr.makeSlice 41 (.int .i64 0) (.int .i64 24)).run Tryz.prog w = .ok (.slice (some ⟨w.heap.size, 0, none⟩) 0 24) (w.alloc (.cells (Array.replicate 24 (.int .u8 0)) 5)) := by kernel_rfl

attribute [local go_sem] make24

theorem bytes_str {xs : List Int} (h : Fine xs) : bytesOf (strOfNums xs) = xs := by
  unfold bytesOf
  rw [strOfNums_data, List.map_map]
  conv => rhs; rw [← List.map_id xs]
  apply List.map_congr_left
  intro x hx
  obtain ⟨h0, h1, _⟩ := h x hx
  obtain ⟨n, rfl⟩ := Int.eq_ofNat_of_zero_le h0
  simp
  omega

/-- A text that may stand in a line. -/
def Text (L : Nat) (s : ByteArray) : Prop := s.size ≤ L ∧ Fine (bytesOf s)

theorem acc_new (w : World) : Acc w w.heap.size none 0 [] 0 (w.alloc (.cells (Array.replicate 24 (.int .u8 0)) 5)) (.slice (some ⟨w.heap.size, 0, none⟩) 0 24) :=
  { row := ⟨[], ⟨rfl, .inr ⟨w.heap.size, 24, _, rfl, Nat.le_refl _, heap_alloc_new _ _, Nat.zero_le _, by decide, rfl, rfl⟩⟩, Nat.le_refl _, fun x hx => by cases hx⟩
    reads := ⟨rfl, by omega, fun h => by omega⟩
    there := fun ad e => by cases e
    apart := fun k _ ad e => by cases e
    below := below_alloc (Below.refl _ _) _
    size := by simp }

set_option maxHeartbeats 8000000 in
set_option maxRecDepth 100000 in
theorem fmtFloat_calls (w : World) (b : Nat) (hb : b < 18446744073709551616) (hT : Aside0 (Tab10 w)) (hU : Aside0 (TabU w)) (h8 : 8 < w.heap.size) :
    Calls Tryz.prog 79 #[.float .f64 b, .int .u8 103, .int .i64 (-1), .int .i64 64] w fun e w' => ∃ s, Aside0 (Text 1000 s) ∧ e = .returned (.string s) ∧ Aside0 (Below w.heap.size w w') := by
  have hB := below_alloc (Below.refl w.heap.size w) (.cells (Array.replicate 24 (.int .u8 0)) 5)
  have hT1 := hT.out.stays hB
  have hU1 := hU.out.stays hB
  have h81 := hB.size
  go_enter Tryz.func79, Tryz.ntmps79
  go_wp2_with fail
  refine (ftoa64_calls _ w w.heap.size b _ hb ⟨acc_new w⟩ ⟨hT1⟩ ⟨hU1⟩ (by omega)).mono ?_
  rintro e w1 ⟨v, xs, rfl, hO, hl, hx, hB1⟩
  have hs := own_string Tryz.underlying41 Tryz.underlying5 Tryz.underlying9 hO
  go_wp2
  go_ret
  exact ⟨_, ⟨by rw [strOfNums_size]; exact hl, by rw [bytes_str hx]; exact hx⟩, rfl, ⟨hB1⟩⟩

set_option maxHeartbeats 8000000 in
set_option maxRecDepth 100000 in
theorem sFmtFloat_calls (w : World) (b : Nat) (hb : b < 18446744073709551616) (hT : Aside0 (Tab10 w)) (hU : Aside0 (TabU w)) (h8 : 8 < w.heap.size) :
    Calls Tryz.prog 63 #[.float .f64 b, .int .u8 103, .int .i64 (-1), .int .i64 64] w fun e w' => ∃ s, Aside0 (Text 1000 s) ∧ e = .returned (.string s) ∧ Aside0 (Below w.heap.size w w') := by
  go_enter Tryz.func63, Tryz.ntmps63
  go_wp2_with fail
  refine (fmtFloat_calls w b hb hT hU h8).mono ?_
  rintro e w1 ⟨s, hs, rfl, hB⟩
  go_wp2
  go_ret
  exact ⟨_, hs, rfl, hB⟩

theorem frombits_run (b : Nat) (w : World) : (callFunc 52 #[.int .u64 b]).run Tryz.prog w = .ok (.value (.float .f64 b)) w := by kernel_rfl

attribute [local go_sem] frombits_run

set_option maxHeartbeats 8000000 in
set_option maxRecDepth 100000 in
theorem floatText_calls (w : World) (b : Nat) (hb : b < 18446744073709551616) (hT : Aside0 (Tab10 w)) (hU : Aside0 (TabU w)) (h8 : 8 < w.heap.size) :
    Calls Tryz.prog 39 #[.int .u64 b] w fun e w' => ∃ s, Aside0 (Text 1000 s) ∧ e = .returned (.string s) ∧ Aside0 (Below w.heap.size w w') := by
  go_enter Tryz.func39, Tryz.ntmps39
  obtain ⟨c1, hc1⟩ : ∃ c, (FloatKind.f64.format.order b b != some .eq) = c := ⟨_, rfl⟩
  obtain ⟨c2, hc2⟩ : ∃ c, (FloatKind.f64.format.order b 9218868437227405311 == some .gt) = c := ⟨_, rfl⟩
  obtain ⟨c3, hc3⟩ : ∃ c, (FloatKind.f64.format.order b 18442240474082181119 == some .lt) = c := ⟨_, rfl⟩
  go_wp2_with fail
  · go_ret
    exact ⟨_, ⟨by decide, by decide⟩, rfl, ⟨Below.refl _ _⟩⟩
  · go_ret
    exact ⟨_, ⟨by decide, by decide⟩, rfl, ⟨Below.refl _ _⟩⟩
  · go_ret
    exact ⟨_, ⟨by decide, by decide⟩, rfl, ⟨Below.refl _ _⟩⟩
  · refine (sFmtFloat_calls w b hb hT hU h8).mono ?_
    rintro e w1 ⟨s, hs, rfl, hB⟩
    go_wp2
    go_ret
    exact ⟨_, hs, rfl, hB⟩
end

section
open Go.RowKit Go.Proofs.YtmdlmjjggjemdaaGreatDoorW.PrintWords Go.Proofs.YtmdlmjjggjemdaaGreatDoorW.PrintMore Go.Proofs.YtmdlmjjggjemdaaGreatDoorW.PrintLast Go.Proofs.YtmdlmjjggjemdaaGreatDoor.PFnRespRaw
attribute [local go_sem] max2_int min2_int max_two min_two max_three min_three max_four min_four
set_option linter.unusedVariables false
set_option linter.unusedSimpArgs false

/-- What a test of a text gives: where it holds, the text may stand in a line. -/
def LinePost (w : World) (P : Prop) (e : Ending) (w' : World) : Prop := ∃ b : Bool, e = .returned (.bool b) ∧ w' = w ∧ (b = true → P)

set_option maxHeartbeats 4000000 in
set_option maxRecDepth 100000 in
theorem inLine_calls (s : ByteArray) (hs : s.size ≤ 1000000) (w : World) :
    Calls Tryz.prog 36 #[.string s] w (LinePost w (10 ∉ bytesOf s)) := by
  go_enter Tryz.func36, Tryz.ntmps36
  go_wp2_with fail
  go_loop [3, 6] (fun v3 v6 => ∃ k : Nat, v6 = .int .i64 k ∧ k ≤ s.size ∧ Aside0 (∀ j, (h : j < s.size) → j < k → (s[j].toNat : Int) ≠ 10)) (fun _ v6 => s.size - (intOf v6).toNat)
  case atStart => exact ⟨0, rfl, by omega, ⟨fun j _ hj => by omega⟩⟩
  case round =>
    obtain ⟨k, rfl, hk, HK⟩ := hrel
    by_cases hks : k < s.size
    · have hks' : (k : Int) < (s.size : Int) := by omega
      obtain ⟨c13, h13⟩ : ∃ c, (((s[k]'hks).toNat : Int) == 13) = c := ⟨_, rfl⟩
      by_cases h10 : ((s[k]'hks).toNat : Int) = 10
      · have h10' : (((s[k]'hks).toNat : Int) == 10) = true := beq_iff_eq.mpr h10
        clear h10
        cases c13
        · go_wp2
          go_ret
          exact ⟨false, rfl, rfl, fun h => by cases h⟩
        · go_wp2
          go_ret
          exact ⟨false, rfl, rfl, fun h => by cases h⟩
      · have h10' : (((s[k]'hks).toNat : Int) == 10) = false := beq_eq_false_iff_ne.mpr h10
        have H10 := Aside0.mk h10
        clear h10
        cases c13
        · go_wp2
          go_round
          case rel =>
            refine ⟨k + 1, by go_num, by omega, ⟨fun j hj hjk => ?_⟩⟩
            by_cases hjk2 : j = k
            · subst hjk2; exact H10.out
            · exact HK.out j hj (by omega)
          case measure => simp [intOf]; omega
        · go_wp2
          go_ret
          exact ⟨false, rfl, rfl, fun h => by cases h⟩
    · have hks' : decide ((k : Int) < (s.size : Int)) = false := decide_eq_false (by omega)
      go_wp2
      go_ret
      refine ⟨true, rfl, rfl, fun _ h => ?_⟩
      unfold bytesOf at h
      obtain ⟨x, hx, e⟩ := List.mem_map.1 h
      obtain ⟨j, hj, rfl⟩ := List.mem_iff_getElem.1 hx
      have hjs : j < s.size := by simpa using hj
      exact HK.out j hjs (by omega) (by rw [show s[j] = s.data[j] from rfl]; simpa using e)

theorem bt_mem (s : ByteArray) (h : ∀ j : Nat, j < s.size → bt s j ≠ 10) : 10 ∉ bytesOf s := by
  intro hm
  unfold bytesOf at hm
  obtain ⟨x, hx, e⟩ := List.mem_map.1 hm
  obtain ⟨j, hj, rfl⟩ := List.mem_iff_getElem.1 hx
  have hjs : j < s.size := by simpa using hj
  refine h j hjs ?_
  unfold bt
  rw [dif_pos (by simpa using hjs)]
  show ((s.data[(j : Int).toNat]).toNat : Int) = 10
  simpa using e

theorem digits_l0 (x : ByteArray) (hx : x.size ≤ 1000000) : ∀ n i : Nat, i + n = x.size → ∃ r, spec_digits.l0 (n + 1) x x.size i = some r ∧ (r = true → ∀ j : Nat, i ≤ j → j < x.size → 48 ≤ bt x j ∧ bt x j ≤ 57)
  | 0, i, h => by
    unfold spec_digits.l0
    rw [if_neg (by omega)]
    repeat' split
    · exact ⟨_, rfl, fun h => by cases h⟩
    · exact ⟨_, rfl, fun _ j h1 h2 => by omega⟩
    · exact ⟨_, rfl, fun _ j h1 h2 => by omega⟩
    · rename_i h1 h2 h3
      exact absurd (show (0 : Int) < (x.size : Int) by
        rcases Nat.eq_zero_or_pos x.size with h0 | h0
        · exact absurd (by
            have e : x = ⟨#[]⟩ := by
              cases x with | mk d =>
              have : d = #[] := Array.eq_empty_of_size_eq_zero h0
              rw [this]
            rw [e]
            simp [ByteArray.toList, ByteArray.toList.loop, ByteArray.size]) h1
        · omega) h3
  | n + 1, i, h => by
    unfold spec_digits.l0
    rw [if_pos (by omega), if_pos (by omega), if_pos (by omega)]
    split
    · exact ⟨_, rfl, fun h => by cases h⟩
    · split
      · exact ⟨_, rfl, fun h => by cases h⟩
      · obtain ⟨r, e, hr⟩ := digits_l0 x hx n (i + 1) (by omega)
        refine ⟨r, ?_, fun h j h1 h2 => ?_⟩
        · rw [show wrap64 ((i : Int) + 1) = ((i + 1 : Nat) : Int) by simp [wrap64]; omega]
          exact e
        · rcases Nat.lt_or_ge i j with hij | hij
          · exact hr h j hij h2
          · obtain rfl : i = j := by omega
            omega
end

section
open Go.RowKit Go.Proofs.YtmdlmjjggjemdaaGreatDoorW.PrintWords Go.Proofs.YtmdlmjjggjemdaaGreatDoorW.PrintMore Go.Proofs.YtmdlmjjggjemdaaGreatDoorW.PrintLast Go.Proofs.YtmdlmjjggjemdaaGreatDoor.PFnRespRaw
set_option linter.unusedVariables false
set_option linter.unusedSimpArgs false

theorem grow_below (w : World) (k : Nat) (os : Array Obj) : Below w.heap.size w (Go.Sort.grow (w.drewN k) os) := Lib.below_grow w.heap.size w (Nat.le_refl _) k os

theorem itoa_calls (n : Nat) (hn : n ≤ 1000000) (w : World) (hT : TabU w) :
    Calls Tryz.prog 37 #[.int .i64 n] w fun e w' => ∃ s, bytesOf s = decI n ∧ e = .returned (.string s) ∧ Below w.heap.size w w' := by
  refine (Tryz.strconv_Itoa n (by omega) (by omega) w hT).mono ?_
  rintro e w' ⟨rfl, k, os, rfl⟩
  refine ⟨_, ?_, rfl, grow_below w k os⟩
  unfold Lib.itoa decI bytesOf
  rw [if_neg (by omega)]
  simp

theorem dec_len (n : Nat) (h : n < 18446744073709551616) : (Lib.decDigits n).length ≤ 20 := by rw [Lib.decDigits_length]; exact Lib.nDigits_le20 n h

theorem fmtInt_calls (n : Int) (h0 : -9223372036854775808 ≤ n) (h1 : n ≤ 9223372036854775807) (w : World) (hT : TabU w) :
    Calls Tryz.prog 38 #[.int .i64 n, .int .i64 10] w fun e w' => ∃ s, Text 30 s ∧ e = .returned (.string s) ∧ Below w.heap.size w w' := by
  refine (Tryz.strconv_FormatInt_10 n h0 h1 w hT).mono ?_
  rintro e w' ⟨rfl, k, os, rfl⟩
  refine ⟨_, ?_, rfl, grow_below w k os⟩
  have hd : ∀ m : Nat, Fine ((Lib.decDigits m).map fun b => (b.toNat : Int)) := fun m x hx => by
    obtain ⟨b, hb, rfl⟩ := List.mem_map.1 hx
    have := dec_digit m b hb
    simp only [Fine1]; omega
  unfold Lib.itoa
  split
  · have hl := dec_len n.natAbs (by omega)
    refine ⟨by show (List.toArray _).size ≤ 30; simp; omega, ?_⟩
    show Fine (List.map _ (List.toArray _).toList)
    simp only [List.toList_toArray, List.map_cons]
    exact fine_cons.2 ⟨by decide, hd _⟩
  · have hl := dec_len n.toNat (by omega)
    refine ⟨by show (List.toArray _).size ≤ 30; simp; omega, ?_⟩
    show Fine (List.map _ (List.toArray _).toList)
    simp only [List.toList_toArray]
    exact hd _

theorem extract_bt (x : ByteArray) (h : 1 ≤ x.size) (j : Nat) (hj : j + 1 < x.size) : bt (x.extract 1 x.size) j = bt x ((j + 1 : Nat) : Int) := by
  have hs : (x.extract 1 x.size).size = x.size - 1 := by simp
  unfold bt
  rw [dif_pos (by rw [hs]; simp; omega), dif_pos (by simp; omega)]
  congr 2
  simp [ByteArray.getElem_extract, Nat.add_comm]

theorem digits_total (x : ByteArray) (hx : x.size ≤ 1000000) : ∃ k r, spec_digits.f k x = some r ∧ (r = true → 10 ∉ bytesOf x) := by
  have hj1 : ∀ y : ByteArray, y.size ≤ x.size → ∃ r, spec_digits.j1 (y.size + 2) y = some r ∧ (r = true → ∀ j : Nat, j < y.size → 48 ≤ bt y j ∧ bt y j ≤ 57) := fun y hy => by
    obtain ⟨r, e, hr⟩ := digits_l0 y (by omega) y.size 0 (by omega)
    exact ⟨r, by unfold spec_digits.j1; exact e, fun h j hj => hr h j (Nat.zero_le _) hj⟩
  have hup : ∀ (y : ByteArray) (d k : Nat) r, spec_digits.j1 k y = some r → spec_digits.j1 (k + d) y = some r := fun y d => by
    induction d with
    | zero => intro k r h; exact h
    | succ d ih => intro k r h; exact (spec_digits.mono_l (k + d)).2.1 y r (ih k r h)
  have hj0 : ∀ c : Bool, (c = true → 0 < x.size ∧ bt x 0 = 45) → ∃ r, spec_digits.j0 (x.size + 3) x c = some r ∧ (r = true → 10 ∉ bytesOf x) := fun c hc => by
    rw [show x.size + 3 = (x.size + 2) + 1 from rfl, spec_digits.j0]
    cases c
    · rw [if_neg (by decide)]
      obtain ⟨r, e, hr⟩ := hj1 x (Nat.le_refl _)
      exact ⟨r, e, fun h => bt_mem x fun j hj => by have := hr h j hj; omega⟩
    · obtain ⟨h0, h45⟩ := hc rfl
      rw [if_pos rfl, if_pos (by omega)]
      split
      · exact ⟨_, rfl, fun h => by cases h⟩
      · have hs : (x.extract 1 x.size).size = x.size - 1 := by simp
        obtain ⟨r, e, hr⟩ := hj1 (x.extract 1 x.size) (by omega)
        refine ⟨r, ?_, fun h => bt_mem x fun j hj => ?_⟩
        · have := hup _ 1 _ r e
          rw [hs, show x.size - 1 + 2 + 1 = x.size + 2 by omega] at this
          exact this
        · rcases j with _ | j
          · have : bt x ((0 : Nat) : Int) = 45 := h45
            omega
          · have := hr h j (by omega)
            rw [extract_bt x h0 j (by omega)] at this
            omega
  unfold spec_digits.f
  split
  · exact ⟨x.size + 3, hj0 false (fun h => by cases h)⟩
  · rename_i hne
    have h0 : 0 < x.size := by
      rcases Nat.eq_zero_or_pos x.size with h0 | h0
      · have e : x = ⟨#[]⟩ := by
          cases x with | mk d =>
          have : d = #[] := Array.eq_empty_of_size_eq_zero h0
          rw [this]
        exact absurd (by rw [e]; simp [ByteArray.toList, ByteArray.toList.loop, ByteArray.size]) hne
      · exact h0
    refine ⟨x.size + 3, ?_⟩
    rw [if_pos (by omega)]
    exact hj0 _ (fun h => ⟨h0, by simpa using h⟩)

theorem digits_calls (s : ByteArray) (hs : s.size ≤ 1000000) (w : World) :
    Calls Tryz.prog 40 #[.string s] w fun e w' => ∃ b : Bool, e = .returned (.bool b) ∧ (∃ n, w' = w.drewN n) ∧ (b = true → 10 ∉ bytesOf s) := by
  obtain ⟨k, r, h, hr⟩ := digits_total s hs
  refine (spec_digits.calls k s r w h).mono ?_
  rintro e w' ⟨rfl, hd⟩
  exact ⟨r, rfl, hd.out, hr⟩
end

section
open Go.RowKit Go.Proofs.YtmdlmjjggjemdaaGreatDoorW.PrintWords Go.Proofs.YtmdlmjjggjemdaaGreatDoorW.PrintMore Go.Proofs.YtmdlmjjggjemdaaGreatDoorW.PrintLast Go.Proofs.YtmdlmjjggjemdaaGreatDoor.PFnRespRaw
attribute [local go_sem] max2_int min2_int max_two min_two max_three min_three max_four min_four
set_option linter.unusedVariables false
set_option linter.unusedSimpArgs false

/-- A reply with few parts and short texts. -/
inductive Small : S25 → Prop
  | mk (x : S25) (hs : x.f3.size ≤ 200) (hk : x.f4.length ≤ 1000) (h : ∀ y ∈ x.f4, Small y) : Small x

/-- The count that is left, in a block of its own. -/
def Left1 (w : World) (p t : Nat) (n : Int) : Prop := w.heap[p]? = some (.cells #[.int .i64 n] t (0, 0))

/-- What asked gives. -/
def AskPost (w : World) (p t : Nat) (n : Int) (x : S25) (e : Ending) (w' : World) : Prop :=
  ∃ (b : Bool) (n' : Int), e = .returned (.bool b) ∧ Left1 w' p t n' ∧ Mods (· = p) w w' ∧ (b = true → 0 ≤ n' ∧ n' + 1 + x.f4.length ≤ n ∧ Small x)

/-- A tree's values in a world. -/
def TreeAt (w : World) (x : S25) (v : Value) : Prop := ∃ A c, v = .agg #[.int .i64 x.f0, .int .i64 x.f1, .int .u64 x.f2, .string x.f3, .slice A x.f4.length c] ∧ x.f4.length ≤ c ∧ k25.C w A x.f4.length x.f4

set_option maxHeartbeats 8000000 in
set_option maxRecDepth 100000 in
theorem asked_step (x : S25) (ih : ∀ y ∈ x.f4, ∀ (w0 w : World) (v : Value) (p t : Nat) (n : Int), TreeAt w0 y v → Below w0.heap.size w0 w → w0.heap.size ≤ p → Left1 w p t n → -1000 ≤ n → n ≤ 1000 → Calls Tryz.prog 24 #[v, .pointer (some ⟨p, 0, none⟩)] w (AskPost w p t n y))
    (w0 w : World) (v : Value) (p t : Nat) (n : Int) (hx : TreeAt w0 x v) (hB : Below w0.heap.size w0 w) (hp : w0.heap.size ≤ p) (hL : Left1 w p t n) (hn0 : -1000 ≤ n) (hn1 : n ≤ 1000) : Calls Tryz.prog 24 #[v, .pointer (some ⟨p, 0, none⟩)] w (AskPost w p t n x) := by
  obtain ⟨A, c, rfl, hc, hC⟩ := hx
  have HC := Aside0.mk hC
  have HB := Aside0.mk hB
  have HL := Aside0.mk hL
  have HI := Aside0.mk ih
  have hps : p < w.heap.size := blk_lt hL
  clear hC hB hL ih
  go_enter Tryz.func24, Tryz.ntmps24
  go_upto_region 1 with fail
  obtain ⟨o, ho⟩ : ∃ o, o = Obj.cells #[.int .i64 x.f0, .int .i64 x.f1, .int .u64 x.f2, .string x.f3, .slice A x.f4.length c] 25 := ⟨_, rfl⟩
  obtain ⟨W1, hW1⟩ : ∃ W1, W1 = w.alloc o := ⟨_, rfl⟩
  obtain ⟨g, hg⟩ : ∃ g, g = w.heap.size := ⟨_, rfl⟩
  have hM1 : Mods (fun _ => False) w W1 := by rw [hW1]; exact (Mods.refl _ w).alloc _
  have hbk : W1.heap[g]? = some o := by rw [hW1, hg]; exact heap_alloc_new _ _
  rw [← ho, ← hW1, ← hg]
  have hgp : g ≠ p := by omega
  have hL1 : Left1 W1 p t n := hM1.blk HL.out id
  subst ho
  have hcz : W1.cell? ⟨p, 0, none⟩ = some (.int .i64 n) := (blk_cell hL1 0).trans rfl
  have hfz : W1.frozen? ⟨p, 0, none⟩ = false := blk_frozen hL1 0
  have HK := Aside0.mk hbk
  have HM := Aside0.mk hM1
  have HL1 := Aside0.mk hL1
  have HG := Aside0.mk hg
  clear hW1 hg hM1 hbk hL1
  go_upto_region 2 with fail
  obtain ⟨W2, hW2⟩ : ∃ W2, W2 = W1.setCell ⟨p, 0, none⟩ (.int .i64 (n - 1)) := ⟨_, rfl⟩
  have hL2 : Left1 W2 p t (n - 1) := by rw [hW2]; exact blk_set HL1.out 0 _
  have hM2 : Mods (· = p) w W2 := by rw [hW2]; exact (HM.out.mono (S' := (· = p)) (fun _ _ h => h.elim)).setCell (p := ⟨p, 0, none⟩) (.inl rfl) _
  have hbk2 : W2.heap[g]? = some (.cells #[.int .i64 x.f0, .int .i64 x.f1, .int .u64 x.f2, .string x.f3, .slice A x.f4.length c] 25 (0, 0)) := by
    rw [hW2]; exact ((Mods.refl (· = p) W1).setCell (p := ⟨p, 0, none⟩) (.inl rfl) _).blk HK.out hgp
  rw [← hW2]
  have hcz2 : W2.cell? ⟨p, 0, none⟩ = some (.int .i64 (n - 1)) := (blk_cell hL2 0).trans rfl
  have hfz2 : W2.frozen? ⟨p, 0, none⟩ = false := blk_frozen hL2 0
  have hd3 : W2.cell? ⟨g, 3, none⟩ = some (.string x.f3) := (blk_cell hbk2 3).trans rfl
  have hd4 : W2.cell? ⟨g, 4, none⟩ = some (.slice A x.f4.length c) := (blk_cell hbk2 4).trans rfl
  have HL2 := Aside0.mk hL2
  have HM2 := Aside0.mk hM2
  have HK2 := Aside0.mk hbk2
  clear hL2 hM2 hbk2 hW2 hcz hfz HK HL1
  by_cases hneg : n - 1 < 0
  · go_wp2
    go_ret
    exact ⟨false, _, rfl, HL2.out, HM2.out, fun h => by cases h⟩
  · have hneg' : decide (n - 1 < 0) = false := decide_eq_false hneg
    by_cases hbig : (200 : Int) < (x.f3.size : Int)
    · go_wp2
      go_ret
      exact ⟨false, _, rfl, HL2.out, HM2.out, fun h => by cases h⟩
    · have hbig' : decide ((200 : Int) < (x.f3.size : Int)) = false := decide_eq_false hbig
      have HBig := Aside0.mk hbig
      have HNeg := Aside0.mk hneg
      clear hbig hneg
      go_wp2_with fail
      go_loopw [4, 6, 25] (fun v4 v6 v25 wr => ∃ (k : Nat) (nk : Int), v4 = .bool false ∧ v25 = .int .i64 k ∧ k ≤ x.f4.length ∧ 0 ≤ nk ∧ nk + 1 + k ≤ n ∧ Aside0 (Left1 wr p t nk) ∧ Aside0 (Mods (· = p) w wr) ∧ Aside0 (∀ y ∈ x.f4.take k, Small y)) (fun _ _ v25 _ => x.f4.length - (intOf v25).toNat)
      case atStart => exact ⟨0, n - 1, rfl, rfl, Nat.zero_le _, by have := HNeg.out; omega, by omega, HL2, HM2, ⟨fun y hy => by simp at hy⟩⟩
      case round =>
        obtain ⟨k, nk, rfl, rfl, hk, hnk0, hnk1, HLk, HMk, HSk⟩ := hrel
        by_cases hkl : k < x.f4.length
        · have q0 : (0 : Int) ≤ (k : Int) := by omega
          have q1 : (k : Int) < (x.f4.length : Int) := by omega
          obtain ⟨ad, A4, c4, e, h0, h1, h2, h3, h4, hl4, hi4⟩ := at_T25 HC.out k q0 q1
          cases e
          rw [Int.toNat_natCast] at h0 h1 h2 h3 h4
          have hty : ∀ (q : Addr) (u : Value), w0.cell? q = some u → wr.cell? q = some u := fun q u hq => by
            have hlt := World.block_lt_of_cell? w0 q hq
            exact HMk.out.cell ((Mods.of_below HB.out).cell hq id) (by omega)
          replace h0 := hty _ _ h0
          replace h1 := hty _ _ h1
          replace h2 := hty _ _ h2
          replace h3 := hty _ _ h3
          replace h4 := hty _ _ h4
          have hyt : TreeAt w0 (rd_T25 x.f4 k) (.agg #[.int .i64 (rd_T25 x.f4 k).f0, .int .i64 (rd_T25 x.f4 k).f1, .int .u64 (rd_T25 x.f4 k).f2, .string (rd_T25 x.f4 k).f3, .slice A4 (rd_T25 x.f4 k).f4.length c4]) := ⟨A4, c4, rfl, hl4, hi4⟩
          have HY := Aside0.mk hyt
          clear hyt hl4 hi4 hty
          obtain ⟨y, hy⟩ : ∃ y, y = rd_T25 x.f4 k := ⟨_, rfl⟩
          rw [← hy] at h0 h1 h2 h3 h4 HY
          have HYE := Aside0.mk hy
          clear hy
          obtain ⟨oy, hoy⟩ : ∃ oy, oy = Obj.cells #[.int .i64 y.f0, .int .i64 y.f1, .int .u64 y.f2, .string y.f3, .slice A4 y.f4.length c4] 25 := ⟨_, rfl⟩
          have hwr : w0.heap.size ≤ wr.heap.size := Nat.le_trans HB.out.size HMk.out.size
          have hbel : Below w0.heap.size w0 (wr.alloc oy) := by
            have h1 : Mods (· = p) w0 wr := ((Mods.of_below HB.out).mono (S' := (· = p)) (fun _ _ h => h.elim)).trans HMk.out (fun _ _ h => h)
            have h2 := h1.alloc oy
            exact ⟨h2.os, h2.tape, h2.output, h2.size, fun q hq => h2.block q hq (by omega)⟩
          have hlk : Left1 (wr.alloc oy) p t nk := ((Mods.refl (fun _ => False) wr).alloc oy).blk HLk.out id
          have hcl := HI.out y (by rw [HYE.out]; show x.f4.getD k z25 ∈ _; simp [List.getD, hkl]) w0 (wr.alloc oy) _ p t nk HY.out hbel hp hlk (by omega) (by omega)
          rw [hoy] at hcl
          have HCL := Aside0.mk hcl
          clear hcl hlk hbel hoy oy
          go_wp2_with fail
          refine HCL.out.mono ?_
          rintro e w5 ⟨b, n', rfl, hl5, hm5, hb5⟩
          have HL5 := Aside0.mk hl5
          have HM5 := Aside0.mk ((HMk.out.alloc _).trans hm5 (fun _ _ h => h))
          have HB5 := Aside0.mk hb5
          clear hl5 hm5 hb5
          cases b
          · go_wp2
            go_ret
            exact ⟨false, _, rfl, HL5.out, HM5.out, fun h => by cases h⟩
          · obtain ⟨hn0', hn1', hsm⟩ := HB5.out rfl
            have HSM := Aside0.mk hsm
            clear hsm
            go_wp2_with fail
            go_roundw
            case measure => simp [intOf]; omega
            case rel =>
              refine ⟨k + 1, n', rfl, by go_num, by omega, hn0', by omega, HL5, HM5, ⟨fun z hz => ?_⟩⟩
              rw [List.take_add_one, List.getElem?_eq_getElem hkl] at hz
              rcases List.mem_append.1 hz with hz | hz
              · exact HSk.out z hz
              · have e1 : z = y := by
                  rw [HYE.out]
                  have : rd_T25 x.f4 k = x.f4[k] := by show x.f4.getD k z25 = _; simp [List.getD, hkl]
                  rw [this]; simpa using hz
                rw [e1]; exact HSM.out
        · have hkl' : decide ((k : Int) < (x.f4.length : Int)) = false := decide_eq_false (by omega)
          have hke : k = x.f4.length := by omega
          have HKE := Aside0.mk hke
          clear hke
          go_wp2
          go_ret
          refine ⟨true, _, rfl, HLk.out, HMk.out, fun _ => ⟨hnk0, ?_, Small.mk x ?_ ?_ ?_⟩⟩
          · rw [← HKE.out]; omega
          · have := HBig.out; omega
          · rw [← HKE.out]; omega
          · have := HSk.out; rw [HKE.out, List.take_length] at this; exact this

theorem s25_lt (x y : S25) (h : y ∈ x.f4) : SizeOf.sizeOf y < SizeOf.sizeOf x := by
  have h1 := List.sizeOf_lt_of_mem h
  cases x
  simp only [S25.mk.sizeOf_spec] at *
  omega

theorem s25_ind {P : S25 → Prop} (h : ∀ x, (∀ y ∈ x.f4, P y) → P x) (x : S25) : P x :=
  h x (fun y hy => s25_ind h y)
termination_by SizeOf.sizeOf x
decreasing_by exact s25_lt x y hy

theorem asked_calls (x : S25) : ∀ (w0 w : World) (v : Value) (p t : Nat) (n : Int), TreeAt w0 x v → Below w0.heap.size w0 w → w0.heap.size ≤ p → Left1 w p t n → -1000 ≤ n → n ≤ 1000 → Calls Tryz.prog 24 #[v, .pointer (some ⟨p, 0, none⟩)] w (AskPost w p t n x) :=
  s25_ind (P := fun x => ∀ (w0 w : World) (v : Value) (p t : Nat) (n : Int), TreeAt w0 x v → Below w0.heap.size w0 w → w0.heap.size ≤ p → Left1 w p t n → -1000 ≤ n → n ≤ 1000 → Calls Tryz.prog 24 #[v, .pointer (some ⟨p, 0, none⟩)] w (AskPost w p t n x)) (fun x ih => asked_step x ih) x

/-- What few gives. -/
def FewPost (w : World) (x : S25) (e : Ending) (w' : World) : Prop := ∃ b : Bool, e = .returned (.bool b) ∧ Below w.heap.size w w' ∧ (b = true → Small x)

set_option maxHeartbeats 8000000 in
set_option maxRecDepth 100000 in
theorem few_calls (w : World) (x : S25) (A : Option Addr) (c : Nat) (hc : x.f4.length ≤ c) (hC : k25.C w A x.f4.length x.f4) :
    Calls Tryz.prog 12 #[.agg #[.int .i64 x.f0, .int .i64 x.f1, .int .u64 x.f2, .string x.f3, .slice A x.f4.length c]] w (FewPost w x) := by
  have HT := Aside0.mk (show TreeAt w x _ from ⟨A, c, rfl, hc, hC⟩)
  clear hC
  go_enter Tryz.func12, Tryz.ntmps12
  go_wp2_with fail
  obtain ⟨o, ho⟩ : ∃ o, o = Obj.cells #[.int .i64 x.f0, .int .i64 x.f1, .int .u64 x.f2, .string x.f3, .slice A x.f4.length c] 25 := ⟨_, rfl⟩
  have hB : Below w.heap.size w ((w.alloc o).alloc (.cells #[.int .i64 60] 3)) := below_alloc (below_alloc (Below.refl _ _) _) _
  have hl : Left1 ((w.alloc o).alloc (.cells #[.int .i64 60] 3)) (w.heap.size + 1) 3 60 := by
    have := heap_alloc_new (w.alloc o) (.cells #[.int .i64 60] 3)
    rw [show (w.alloc o).heap.size = w.heap.size + 1 by simp] at this
    exact this
  rw [← ho]
  refine (asked_calls x w _ _ (w.heap.size + 1) 3 60 HT.out hB (by omega) hl (by omega) (by omega)).mono ?_
  rintro e w1 ⟨b, n', rfl, h1, hm, hb⟩
  have HB := Aside0.mk hb
  have hM : Mods (fun _ => False) w w1 := ((((Mods.refl (fun _ => False) w).alloc o).alloc _).trans hm (fun i hi e => by omega))
  have HM := Aside0.mk hM
  clear hb hM hm h1
  go_wp2
  go_ret
  exact ⟨b, rfl, HM.out.below, fun h => (HB.out h).2.2⟩
end
end Go.Proofs.YtmdlmjjggjemdaaGreatDoor
