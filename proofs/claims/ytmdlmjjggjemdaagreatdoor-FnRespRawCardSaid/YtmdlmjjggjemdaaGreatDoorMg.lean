/- What the reference writes: bare. What the reference writes: words. -/
import Derived.Test.YtmdlmjjggjemdaaGreatDoorMf
namespace Go.Proofs.YtmdlmjjggjemdaaGreatDoor
section
open Go.RowKit Go.Proofs.YtmdlmjjggjemdaaGreatDoorW.PrintWords Go.Proofs.YtmdlmjjggjemdaaGreatDoorW.PrintMore Go.Proofs.YtmdlmjjggjemdaaGreatDoorW.PrintLast Go.Proofs.YtmdlmjjggjemdaaGreatDoor.PFnRespRaw
attribute [local go_sem] max2_int min2_int max_two min_two max_three min_three max_four min_four
set_option linter.unusedVariables false
set_option linter.unusedSimpArgs false

/-- A test that writes nothing of what was there. -/
def BoolPost (w : World) (e : Ending) (w' : World) : Prop := ∃ b : Bool, e = .returned (.bool b) ∧ Below w.heap.size w w'

/-- The box of a reply, whatever it holds. -/
def BareInv (w : World) (g : Nat) (wx : World) : Prop := (∃ (k i f : Int) (s : ByteArray) (A : Option Addr) (n c : Nat), wx.heap[g]? = some (.cells #[.int .i64 k, .int .i64 i, .int .u64 f, .string s, .slice A n c] 25 (0, 0))) ∧ Below w.heap.size w wx

theorem BareInv.below {w wx : World} {g : Nat} (h : BareInv w g wx) : Below w.heap.size w wx := h.2
theorem bare_set0 {w wx : World} {g : Nat} (hg : g = w.heap.size) (h : BareInv w g wx) (x : Int) : BareInv w g (wx.setCell ⟨g, 0, none⟩ (.int .i64 x)) := by
  obtain ⟨⟨k, i, f, s, A, n, c, hb⟩, hB⟩ := h
  exact ⟨⟨x, i, f, s, A, n, c, blk_set hb 0 _⟩, ((Mods.of_below hB).setCell (p := ⟨g, 0, none⟩) (.inr (by simp [hg])) _).below⟩
theorem bare_set1 {w wx : World} {g : Nat} (hg : g = w.heap.size) (h : BareInv w g wx) (x : Int) : BareInv w g (wx.setCell ⟨g, 1, none⟩ (.int .i64 x)) := by
  obtain ⟨⟨k, i, f, s, A, n, c, hb⟩, hB⟩ := h
  exact ⟨⟨k, x, f, s, A, n, c, blk_set hb 1 _⟩, ((Mods.of_below hB).setCell (p := ⟨g, 1, none⟩) (.inr (by simp [hg])) _).below⟩
theorem bare_set2 {w wx : World} {g : Nat} (hg : g = w.heap.size) (h : BareInv w g wx) (x : Int) : BareInv w g (wx.setCell ⟨g, 2, none⟩ (.int .u64 x)) := by
  obtain ⟨⟨k, i, f, s, A, n, c, hb⟩, hB⟩ := h
  exact ⟨⟨k, i, x, s, A, n, c, blk_set hb 2 _⟩, ((Mods.of_below hB).setCell (p := ⟨g, 2, none⟩) (.inr (by simp [hg])) _).below⟩
theorem bare_set3 {w wx : World} {g : Nat} (hg : g = w.heap.size) (h : BareInv w g wx) (x : ByteArray) : BareInv w g (wx.setCell ⟨g, 3, none⟩ (.string x)) := by
  obtain ⟨⟨k, i, f, s, A, n, c, hb⟩, hB⟩ := h
  exact ⟨⟨k, i, f, x, A, n, c, blk_set hb 3 _⟩, ((Mods.of_below hB).setCell (p := ⟨g, 3, none⟩) (.inr (by simp [hg])) _).below⟩
theorem bare_set4 {w wx : World} {g : Nat} (hg : g = w.heap.size) (h : BareInv w g wx) : BareInv w g (wx.setCell ⟨g, 4, none⟩ (.slice none 0 0)) := by
  obtain ⟨⟨k, i, f, s, A, n, c, hb⟩, hB⟩ := h
  exact ⟨⟨k, i, f, s, none, 0, 0, blk_set hb 4 _⟩, ((Mods.of_below hB).setCell (p := ⟨g, 4, none⟩) (.inr (by simp [hg])) _).below⟩

set_option maxHeartbeats 8000000 in
set_option maxRecDepth 100000 in
theorem bare_calls (w : World) (k i f : Int) (s : ByteArray) (A : Option Addr) (n c : Nat) :
    Calls Tryz.prog 35 #[.agg #[.int .i64 k, .int .i64 i, .int .u64 f, .string s, .slice A n c]] w (BoolPost w) := by
  go_enter Tryz.func35, Tryz.ntmps35
  go_upto_region 1 with fail
  have BK := Aside0.mk (heap_alloc_new w (.cells #[.int .i64 k, .int .i64 i, .int .u64 f, .string s, .slice A n c] 25))
  have HB := Aside0.mk (below_alloc (Below.refl w.heap.size w) (.cells #[.int .i64 k, .int .i64 i, .int .u64 f, .string s, .slice A n c] 25))
  obtain ⟨W1, hW1⟩ : ∃ W1, W1 = w.alloc (.cells #[.int .i64 k, .int .i64 i, .int .u64 f, .string s, .slice A n c] 25) := ⟨_, rfl⟩
  obtain ⟨g, hg⟩ : ∃ g, g = w.heap.size := ⟨_, rfl⟩
  rw [← hW1] at BK HB ⊢
  rw [← hg] at BK ⊢
  have HG := Aside0.mk hg
  clear hW1 hg
  have hcz0 : W1.cell? ⟨g, 0, none⟩ = some (.int .i64 k) := (blk_cell BK.out 0).trans rfl
  have hcz1 : W1.cell? ⟨g, 1, none⟩ = some (.int .i64 i) := (blk_cell BK.out 1).trans rfl
  have hcz2 : W1.cell? ⟨g, 2, none⟩ = some (.int .u64 f) := (blk_cell BK.out 2).trans rfl
  have hcz3 : W1.cell? ⟨g, 3, none⟩ = some (.string s) := (blk_cell BK.out 3).trans rfl
  have hcz4 : W1.cell? ⟨g, 4, none⟩ = some (.slice A n c) := (blk_cell BK.out 4).trans rfl
  have hfz : ∀ j, W1.frozen? ⟨g, j, none⟩ = false := fun j => blk_frozen BK.out j
  have HI : Aside0 (BareInv w g W1) := ⟨⟨⟨_, _, _, _, _, _, _, BK.out⟩, HB.out⟩⟩
  go_upto_block 0 with fail
  go_cut [0] from 5 to 55 (fun s0 wx => Aside0 (BareInv w g wx))
  case first =>
    go_wp2_with fail
    all_goals first
      | (go_meet; exact ⟨by first | exact HI.out | (repeat first | exact HI.out | apply bare_set0 HG.out | apply bare_set1 HG.out | apply bare_set2 HG.out | apply bare_set3 HG.out | apply bare_set4 HG.out)⟩)
      | (go_ret; exact ⟨_, rfl, HI.out.below⟩)
  case rest =>
  obtain ⟨⟨k2, i2, f2, s2, A2, n2, c2, hb⟩, hB⟩ := hcut.out
  have hdz1 : wc.cell? ⟨g, 1, none⟩ = some (.int .i64 i2) := (blk_cell hb 1).trans rfl
  have hdz2 : wc.cell? ⟨g, 2, none⟩ = some (.int .u64 f2) := (blk_cell hb 2).trans rfl
  have hdz3 : wc.cell? ⟨g, 3, none⟩ = some (.string s2) := (blk_cell hb 3).trans rfl
  have hdz4 : wc.cell? ⟨g, 4, none⟩ = some (.slice A2 n2 c2) := (blk_cell hb 4).trans rfl
  have HB2 := Aside0.mk hB
  clear hb hB hcut
  go_wp2_with fail
  all_goals
    go_ret
    exact ⟨_, rfl, HB2.out⟩
end

section
open Go.RowKit Go.Proofs.YtmdlmjjggjemdaaGreatDoorW.PrintWords Go.Proofs.YtmdlmjjggjemdaaGreatDoorW.PrintMore Go.Proofs.YtmdlmjjggjemdaaGreatDoorW.PrintLast Go.Proofs.YtmdlmjjggjemdaaGreatDoor.PFnRespRaw
set_option linter.unusedVariables false
set_option linter.unusedSimpArgs false

/-- Every number of a reply fits its type. -/
inductive Fit : S25 → Prop
  | mk (x : S25) (h0 : -9223372036854775808 ≤ x.f1) (h1 : x.f1 ≤ 9223372036854775807) (h2 : 0 ≤ x.f2) (h3 : x.f2 < 18446744073709551616) (h : ∀ y ∈ x.f4, Fit y) : Fit x

/-- No attribute anywhere. -/
inductive NoBar : S25 → Prop
  | mk (x : S25) (h0 : x.f0 ≠ 124) (h : ∀ y ∈ x.f4, NoBar y) : NoBar x

/-- What write gives. -/
def WritePost (w : World) (p t : Nat) (x : S25) (e : Ending) (w' : World) : Prop :=
  ∃ (s : ByteArray) (b : Bool) (n' : Int), e = .returned (.tuple #[.string s, .bool b]) ∧ Left1 w' p t n' ∧ Mods (· = p) w w' ∧ (b = true → 0 ≤ n' ∧ ∃ n : Int, Left1 w p t n ∧ n' < n ∧ (s.size : Int) ≤ 2000 * (n - n') ∧ (NoBar x → Rep (bytesOf s)))

/-- write at a reply. -/
def WriteOK (x : S25) : Prop := ∀ (w0 w : World) (v : Value) (p t : Nat) (n deep : Int), TreeAt w0 x v → Below w0.heap.size w0 w → 8 < w0.heap.size → w0.heap.size ≤ p → Left1 w p t n → -10 ≤ n → n ≤ 2000 → 0 ≤ deep → deep ≤ 30 →
  Small x → Fit x → TabU w0 → Tab10 w0 → Calls Tryz.prog 25 #[v, .int .i64 deep, .pointer (some ⟨p, 0, none⟩)] w (WritePost w p t x)

theorem left1_inj {w : World} {p t : Nat} {a b : Int} (ha : Left1 w p t a) (hb : Left1 w p t b) : a = b := by
  have h := ha.symm.trans hb
  simpa using h

theorem bytes_app (a b : ByteArray) : bytesOf (a ++ b) = bytesOf a ++ bytesOf b := by
  unfold bytesOf
  rw [← List.map_append]
  congr 1

theorem small_here {k i f : Int} {S : ByteArray} {kids : List S25} (h : Small ⟨k, i, f, S, kids⟩) : S.size ≤ 200 ∧ kids.length ≤ 1000 ∧ ∀ y ∈ kids, Small y := by
  cases h with | mk _ hs hk h => exact ⟨hs, hk, h⟩
theorem fit_here {k i f : Int} {S : ByteArray} {kids : List S25} (h : Fit ⟨k, i, f, S, kids⟩) : -9223372036854775808 ≤ i ∧ i ≤ 9223372036854775807 ∧ 0 ≤ f ∧ f < 18446744073709551616 ∧ ∀ y ∈ kids, Fit y := by
  cases h with | mk _ h0 h1 h2 h3 h => exact ⟨h0, h1, h2, h3, h⟩
theorem nobar_here {k i f : Int} {S : ByteArray} {kids : List S25} (h : NoBar ⟨k, i, f, S, kids⟩) : k ≠ 124 ∧ ∀ y ∈ kids, NoBar y := by
  cases h with | mk _ h0 h => exact ⟨h0, h⟩

/-- A line's bytes. -/
theorem rep_line (k : Int) (hk : k ∈ [43, 45, 58, 95, 44, 35, 40]) (body : List Int) (hl : body.length ≤ 29000) (h10 : 10 ∉ body) : Rep ([k] ++ body ++ [13, 10]) := by
  have := Rep.line k body hk ⟨by simp, by simp; omega, fun x hx => by
    rcases List.mem_cons.1 hx with rfl | hx
    · simp at hk; omega
    · intro e; subst e; exact h10 hx⟩
  simpa using this
end
end Go.Proofs.YtmdlmjjggjemdaaGreatDoor
