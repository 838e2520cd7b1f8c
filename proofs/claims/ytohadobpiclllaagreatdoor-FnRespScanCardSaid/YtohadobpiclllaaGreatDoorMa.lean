/- Words for the walks of FnRespScan: a world in which only some blocks have turned. The long decimals of ParseFloat: where they lie; trim. The long decimals of ParseFloat: the cheat sheet's comparison. -/
import Derived.Test.YtohadobpiclllaaGreatDoorPFnRespScanx0
import Derived.Outline
namespace Go.Proofs.YtohadobpiclllaaGreatDoor
section
open Go.RowKit Go.Proofs.YtohadobpiclllaaGreatDoorW.PrintWords

/-- Of the blocks that were there only those of S may have turned. -/
structure Mods (S : Nat → Prop) (w w' : World) : Prop where
  os : w'.os = w.os
  tape : w'.tape = w.tape
  output : w'.output = w.output
  size : w.heap.size ≤ w'.heap.size
  block : ∀ k, k < w.heap.size → ¬ S k → w'.heap[k]? = w.heap[k]?

theorem Mods.refl (S : Nat → Prop) (w : World) : Mods S w w := ⟨rfl, rfl, rfl, Nat.le_refl _, fun _ _ _ => rfl⟩
theorem Mods.trans {S S' : Nat → Prop} {a b c : World} (h : Mods S a b) (k : Mods S' b c) (hs : ∀ i, i < a.heap.size → S' i → S i) : Mods S a c :=
  ⟨k.os.trans h.os, k.tape.trans h.tape, k.output.trans h.output, Nat.le_trans h.size k.size,
    fun i hi hn => (k.block i (Nat.lt_of_lt_of_le hi h.size) (fun hS => hn (hs i hi hS))).trans (h.block i hi hn)⟩
theorem Mods.mono {S S' : Nat → Prop} {a b : World} (h : Mods S a b) (hs : ∀ i, i < a.heap.size → S i → S' i) : Mods S' a b :=
  ⟨h.os, h.tape, h.output, h.size, fun i hi hn => h.block i hi (fun hS => hn (hs i hi hS))⟩
theorem Mods.drew {S : Nat → Prop} {a w : World} (h : Mods S a w) : Mods S a w.drew := ⟨h.os, h.tape, h.output, h.size, h.block⟩
theorem Mods.drewN {S : Nat → Prop} {a w : World} (h : Mods S a w) (n : Nat) : Mods S a (w.drewN n) := ⟨h.os, h.tape, h.output, h.size, h.block⟩
theorem Mods.alloc {S : Nat → Prop} {a w : World} (h : Mods S a w) (o : Obj) : Mods S a (w.alloc o) :=
  h.trans (S' := fun _ => False) ⟨rfl, rfl, rfl, by simp, fun k hk _ => Below.heap_alloc _ _ _ hk⟩ (fun _ _ h => h.elim)
theorem Mods.setCell {S : Nat → Prop} {a w : World} (h : Mods S a w) {p : Addr} (hp : S p.block ∨ a.heap.size ≤ p.block) (u : Value) : Mods S a (w.setCell p u) :=
  h.trans (S' := fun k => k = p.block) ⟨rfl, rfl, rfl, by simp [World.setCell], fun k _ hk => Below.heap_setCell _ _ _ _ hk⟩
    (fun i hi e => by subst e; exact hp.elim id (fun h => absurd hi (by omega)))
theorem Mods.of_below {a w : World} (h : Below a.heap.size a w) : Mods (fun _ => False) a w := ⟨h.os, h.tape, h.output, h.size, fun k hk _ => h.block k hk⟩
theorem Mods.below {a w : World} (h : Mods (fun _ => False) a w) : Below a.heap.size a w := ⟨h.os, h.tape, h.output, h.size, fun k hk => h.block k hk (fun h => h)⟩
theorem Mods.then_below {S : Nat → Prop} {a w w' : World} (h : Mods S a w) (hb : Below w.heap.size w w') : Mods S a w' :=
  h.trans (Mods.of_below hb) (fun _ _ h => h.elim)
theorem Mods.grown {S : Nat → Prop} {a w w' : World} {row : Option Nat} (h : Mods S a w) (hg : w.grownBy w' row) (hr : ∀ k, row = some k → S k ∨ a.heap.size ≤ k) : Mods S a w' :=
  h.trans (S' := fun k => row = some k) ⟨hg.os, hg.tape, hg.output, hg.size, fun k hk hn => hg.block k hk (fun e => hn e.symm)⟩
    (fun i hi e => (hr i e).elim id (fun h => absurd hi (by omega)))
theorem Mods.blk {S : Nat → Prop} {a w : World} (h : Mods S a w) {g : Nat} {o : Obj} (hb : a.heap[g]? = some o) (hn : ¬ S g) : w.heap[g]? = some o := (h.block g (blk_lt hb) hn).trans hb
theorem Mods.cell {S : Nat → Prop} {a w : World} (h : Mods S a w) {p : Addr} {v : Value} (hc : a.cell? p = some v) (hn : ¬ S p.block) : w.cell? p = some v :=
  (World.cell?_of_block (h.block p.block (World.block_lt_of_cell? a p hc) hn)).trans hc
/-- A slice that is read is read as before, where none of its cells has turned. -/
theorem Mods.reads {S : Nat → Prop} {a w : World} (h : Mods S a w) {k : IntKind} {A : Option Addr} {n : Nat} {xs : List Int} (hr : ReadsInt a k A n xs) (hn : ∀ ad, A = some ad → ¬ S ad.block) : ReadsInt w k A n xs :=
  ⟨hr.1, hr.2.1, fun hp => by
    obtain ⟨ad, e, hc⟩ := hr.2.2 hp
    refine ⟨ad, e, fun j hj => h.cell (hc j hj) ?_⟩
    have : (ad.add j).block = ad.block := by unfold Addr.add; split <;> rfl
    rw [this]; exact hn ad e⟩
end

section
open Go.RowKit Go.Proofs.YtohadobpiclllaaGreatDoorW.PrintWords Go.Proofs.YtohadobpiclllaaGreatDoorW.PrintMore Go.Proofs.YtohadobpiclllaaGreatDoorW.PrintLast Go.Proofs.YtohadobpiclllaaGreatDoor.PFnRespScan
attribute [local go_sem] max2_int min2_int max_two min_two max_three min_three max_four min_four
set_option linter.unusedVariables false
set_option linter.unusedSimpArgs false

/-- A decimal in a block of its own. -/
structure Dec where
  d : Nat → Int
  nd : Nat
  dp : Int
  tr : Bool

/-- A decimal (and its sign) lies in block p. -/
def DecAt (w : World) (p : Nat) (neg : Bool) (S : Dec) : Prop :=
  ∃ cs t, w.heap[p]? = some (.cells cs t (0, 0)) ∧ cs.size = 804 ∧ (∀ i, i < 800 → cs[i]? = some (.int .u8 (S.d i))) ∧ cs[800]? = some (.int .i64 S.nd) ∧ cs[801]? = some (.int .i64 S.dp) ∧ cs[802]? = some (.bool neg) ∧ cs[803]? = some (.bool S.tr)

theorem DecAt.blk {w w' : World} {p : Nat} {neg : Bool} {S : Dec} (h : DecAt w p neg S) (hb : w'.heap[p]? = w.heap[p]?) : DecAt w' p neg S := by
  obtain ⟨cs, t, h1, h2⟩ := h
  exact ⟨cs, t, hb.trans h1, h2⟩
theorem DecAt.drew {w : World} {p : Nat} {neg : Bool} {S : Dec} (h : DecAt w p neg S) : DecAt w.drew p neg S := h.blk rfl
theorem DecAt.drewN {w : World} {p : Nat} {neg : Bool} {S : Dec} (h : DecAt w p neg S) (n : Nat) : DecAt (w.drewN n) p neg S := h.blk rfl
theorem DecAt.lt {w : World} {p : Nat} {neg : Bool} {S : Dec} (h : DecAt w p neg S) : p < w.heap.size := by
  obtain ⟨cs, t, h1, h2⟩ := h
  exact blk_lt h1
theorem DecAt.dig {w : World} {p : Nat} {neg : Bool} {S : Dec} (h : DecAt w p neg S) (i : Nat) (hi : i < 800) : w.cell? ⟨p, i, none⟩ = some (.int .u8 (S.d i)) := by
  obtain ⟨cs, t, h1, h2, h3, _⟩ := h
  exact (blk_cell h1 i).trans (h3 i hi)
theorem DecAt.nds {w : World} {p : Nat} {neg : Bool} {S : Dec} (h : DecAt w p neg S) : w.cell? ⟨p, 800, none⟩ = some (.int .i64 S.nd) := by
  obtain ⟨cs, t, h1, h2, h3, h4, _⟩ := h
  exact (blk_cell h1 800).trans h4
theorem DecAt.dps {w : World} {p : Nat} {neg : Bool} {S : Dec} (h : DecAt w p neg S) : w.cell? ⟨p, 801, none⟩ = some (.int .i64 S.dp) := by
  obtain ⟨cs, t, h1, h2, h3, h4, h5, _⟩ := h
  exact (blk_cell h1 801).trans h5
theorem DecAt.negs {w : World} {p : Nat} {neg : Bool} {S : Dec} (h : DecAt w p neg S) : w.cell? ⟨p, 802, none⟩ = some (.bool neg) := by
  obtain ⟨cs, t, h1, h2, h3, h4, h5, h6, _⟩ := h
  exact (blk_cell h1 802).trans h6
theorem DecAt.trs {w : World} {p : Nat} {neg : Bool} {S : Dec} (h : DecAt w p neg S) : w.cell? ⟨p, 803, none⟩ = some (.bool S.tr) := by
  obtain ⟨cs, t, h1, h2, h3, h4, h5, h6, h7⟩ := h
  exact (blk_cell h1 803).trans h7
theorem DecAt.free {w : World} {p : Nat} {neg : Bool} {S : Dec} (h : DecAt w p neg S) (i : Nat) : w.frozen? ⟨p, i, none⟩ = false := by
  obtain ⟨cs, t, h1, _⟩ := h
  exact blk_frozen h1 i

/-- One digit is written. -/
def upd (d : Nat → Int) (i : Nat) (x : Int) : Nat → Int := fun j => if j = i then x else d j

theorem get_set {cs : Array Value} {n i : Nat} {u : Value} (h : cs.size = n) (hi : i < n) (j : Nat) : (cs.setIfInBounds i u)[j]? = if j = i then some u else cs[j]? := by
  by_cases e : j = i
  · subst e
    rw [if_pos rfl, Array.getElem?_setIfInBounds_self_of_lt (by omega)]
  · rw [if_neg e, Array.getElem?_setIfInBounds_ne (fun h => e h.symm)]

theorem DecAt.setDig {w : World} {p : Nat} {neg : Bool} {S : Dec} (h : DecAt w p neg S) (i : Nat) (hi : i < 800) (x : Int) : DecAt (w.setCell ⟨p, i, none⟩ (.int .u8 x)) p neg { S with d := upd S.d i x } := by
  obtain ⟨cs, t, h1, h2, h3, h4, h5, h6, h7⟩ := h
  refine ⟨_, t, blk_set h1 i _, by rw [Array.size_setIfInBounds]; exact h2, fun j hj => ?_, ?_, ?_, ?_, ?_⟩
  · rw [get_set h2 (by omega)]
    show _ = some (Value.int IntKind.u8 (upd S.d i x j))
    unfold upd
    by_cases e : j = i
    · rw [if_pos e, if_pos e]
    · rw [if_neg e, if_neg e]; exact h3 j hj
  · rw [get_set h2 (by omega), if_neg (by omega)]; exact h4
  · rw [get_set h2 (by omega), if_neg (by omega)]; exact h5
  · rw [get_set h2 (by omega), if_neg (by omega)]; exact h6
  · rw [get_set h2 (by omega), if_neg (by omega)]; exact h7
theorem DecAt.setNd {w : World} {p : Nat} {neg : Bool} {S : Dec} (h : DecAt w p neg S) (n : Nat) : DecAt (w.setCell ⟨p, 800, none⟩ (.int .i64 n)) p neg { S with nd := n } := by
  obtain ⟨cs, t, h1, h2, h3, h4, h5, h6, h7⟩ := h
  refine ⟨_, t, blk_set h1 800 _, by rw [Array.size_setIfInBounds]; exact h2, fun j hj => ?_, ?_, ?_, ?_, ?_⟩
  · rw [get_set h2 (by omega), if_neg (by omega)]; exact h3 j hj
  · rw [get_set h2 (by omega), if_pos rfl]
  · rw [get_set h2 (by omega), if_neg (by omega)]; exact h5
  · rw [get_set h2 (by omega), if_neg (by omega)]; exact h6
  · rw [get_set h2 (by omega), if_neg (by omega)]; exact h7
theorem DecAt.setDp {w : World} {p : Nat} {neg : Bool} {S : Dec} (h : DecAt w p neg S) (n : Int) : DecAt (w.setCell ⟨p, 801, none⟩ (.int .i64 n)) p neg { S with dp := n } := by
  obtain ⟨cs, t, h1, h2, h3, h4, h5, h6, h7⟩ := h
  refine ⟨_, t, blk_set h1 801 _, by rw [Array.size_setIfInBounds]; exact h2, fun j hj => ?_, ?_, ?_, ?_, ?_⟩
  · rw [get_set h2 (by omega), if_neg (by omega)]; exact h3 j hj
  · rw [get_set h2 (by omega), if_neg (by omega)]; exact h4
  · rw [get_set h2 (by omega), if_pos rfl]
  · rw [get_set h2 (by omega), if_neg (by omega)]; exact h6
  · rw [get_set h2 (by omega), if_neg (by omega)]; exact h7
theorem DecAt.setTr {w : World} {p : Nat} {neg : Bool} {S : Dec} (h : DecAt w p neg S) (b : Bool) : DecAt (w.setCell ⟨p, 803, none⟩ (.bool b)) p neg { S with tr := b } := by
  obtain ⟨cs, t, h1, h2, h3, h4, h5, h6, h7⟩ := h
  refine ⟨_, t, blk_set h1 803 _, by rw [Array.size_setIfInBounds]; exact h2, fun j hj => ?_, ?_, ?_, ?_, ?_⟩
  · rw [get_set h2 (by omega), if_neg (by omega)]; exact h3 j hj
  · rw [get_set h2 (by omega), if_neg (by omega)]; exact h4
  · rw [get_set h2 (by omega), if_neg (by omega)]; exact h5
  · rw [get_set h2 (by omega), if_neg (by omega)]; exact h6
  · rw [get_set h2 (by omega), if_pos rfl]

/-- How many digits are left when the noughts at the end are gone. -/
def trimN (d : Nat → Int) : Nat → Nat
  | 0 => 0
  | n + 1 => if d n = 48 then trimN d n else n + 1
theorem trimN_le (d : Nat → Int) : ∀ n, trimN d n ≤ n
  | 0 => Nat.le_refl _
  | n + 1 => by
    unfold trimN
    split
    · have := trimN_le d n; omega
    · omega
/-- A decimal without noughts at its end. -/
def Dec.trim (S : Dec) : Dec := { S with nd := trimN S.d S.nd, dp := if trimN S.d S.nd = 0 then 0 else S.dp }

/-- What a method that returns nothing leaves of a decimal. -/
def DecPost (w : World) (p : Nat) (neg : Bool) (S : Dec) (e : Ending) (w' : World) : Prop :=
  e = .returned (.tuple #[]) ∧ DecAt w' p neg S ∧ Mods (· = p) w w'

set_option maxHeartbeats 4000000 in
set_option maxRecDepth 100000 in
theorem trim_calls (w : World) (p : Nat) (neg : Bool) (S : Dec) (hS : DecAt w p neg S) (hn : S.nd ≤ 800) :
    Calls Tryz.prog 154 #[.pointer (some ⟨p, 0, none⟩)] w (DecPost w p neg S.trim) := by
  have HS := Aside0.mk hS
  clear hS
  go_enter Tryz.func154, Tryz.ntmps154
  go_wp2_with fail
  go_loopw [19] (fun _ wr => ∃ n : Nat, n ≤ 800 ∧ Aside0 (DecAt wr p neg { S with nd := n }) ∧ Aside0 (trimN S.d n = trimN S.d S.nd) ∧ Aside0 (Mods (· = p) w wr)) (fun _ wr => match wr.cell? ⟨p, 800, none⟩ with | some (.int _ n) => n.toNat | _ => 0)
  case atStart => exact ⟨S.nd, hn, HS, ⟨rfl⟩, ⟨Mods.refl _ _⟩⟩
  case round =>
    obtain ⟨n, hn8, HD, HT, HM⟩ := hrel
    have hcn : wr.cell? ⟨p, 800, none⟩ = some (.int .i64 n) := HD.out.nds
    have hfn := HD.out.free 800
    rcases Nat.eq_zero_or_pos n with h0 | h0
    · subst h0
      have hcd : wr.cell? ⟨p, 801, none⟩ = some (.int .i64 S.dp) := HD.out.dps
      have hfd := HD.out.free 801
      go_upto_region 1 with fail
      go_quiet (fail)
      go_wp2
      go_end0
      refine ⟨rfl, ?_, (HM.out.drewN _).setCell (p := ⟨p, 801, none⟩) (.inl rfl) _⟩
      have h1 : trimN S.d S.nd = 0 := HT.out.symm
      have h2 := (HD.out.drewN nq).setDp 0
      unfold Dec.trim
      rw [h1, if_pos rfl]
      exact h2
    · obtain ⟨m, rfl⟩ : ∃ m, n = m + 1 := ⟨n - 1, by omega⟩
      have hcd : wr.cell? ⟨p, m, none⟩ = some (.int .u8 (S.d m)) := HD.out.dig m (by omega)
      have hgt : decide (((m + 1 : Nat) : Int) > 0) = true := decide_eq_true (by omega)
      by_cases h48 : S.d m = 48
      · have h48' : (S.d m == 48) = true := beq_iff_eq.mpr h48
        have H48 := Aside0.mk h48
        clear h48
        go_upto_region 1 with fail
        go_quiet (fail)
        go_wp2
        go_roundw
        case measure =>
          rw [((HD.out.drewN nq).setNd m).nds, HD.out.nds]
          show (m : Int).toNat < ((m + 1 : Nat) : Int).toNat
          omega
        case rel =>
          refine ⟨m, by omega, ⟨(HD.out.drewN nq).setNd m⟩, ⟨?_⟩, ⟨(HM.out.drewN _).setCell (p := ⟨p, 800, none⟩) (.inl rfl) _⟩⟩
          rw [← HT.out, trimN, if_pos H48.out]
      · have h48' : (S.d m == 48) = false := beq_eq_false_iff_ne.mpr h48
        have H48 := Aside0.mk h48
        clear h48
        go_upto_region 1 with fail
        go_quiet (fail)
        go_wp2
        go_end0
        refine ⟨rfl, ?_, HM.out.drewN _⟩
        have h1 : trimN S.d S.nd = m + 1 := by rw [← HT.out, trimN, if_neg H48.out]
        have h2 := HD.out.drewN nq
        unfold Dec.trim
        rw [h1, if_neg (by omega)]
        exact h2
end

section
open Go.RowKit Go.Proofs.YtohadobpiclllaaGreatDoorW.PrintWords Go.Proofs.YtohadobpiclllaaGreatDoorW.PrintMore Go.Proofs.YtohadobpiclllaaGreatDoorW.PrintLast Go.Proofs.YtohadobpiclllaaGreatDoor.PFnRespScan
attribute [local go_sem] max2_int min2_int max_two min_two max_three min_three max_four min_four
set_option linter.unusedVariables false
set_option linter.unusedSimpArgs false

/-- A byte of a text. -/
def cb (c : ByteArray) (i : Nat) : Int := if h : i < c.size then (c[i].toNat : Int) else 0
theorem cb_at (c : ByteArray) (i : Nat) (h : i < c.size) : cb c i = (c[i].toNat : Int) := by unfold cb; rw [dif_pos h]

/-- Are the first digits less than a text? -/
def preL (d : Nat → Int) (nd : Nat) (c : ByteArray) : Nat → Nat → Bool
  | 0, _ => false
  | f + 1, i => if nd ≤ i then true else if d i = cb c i then preL d nd c f (i + 1) else decide (d i < cb c i)

set_option maxHeartbeats 4000000 in
set_option maxRecDepth 100000 in
theorem prefix_calls (w : World) (p : Nat) (neg : Bool) (S : Dec) (c : ByteArray) (cp : Nat) (hS : DecAt w p neg S) (hn : S.nd ≤ 800) (hc : c.size ≤ 100) :
    Calls Tryz.prog 153 #[.slice (some ⟨p, 0, none⟩) S.nd cp, .string c] w fun e w' => e = .returned (.bool (preL S.d S.nd c c.size 0)) ∧ ∃ n, w' = w.drewN n := by
  have HS := Aside0.mk hS
  clear hS
  go_enter Tryz.func153, Tryz.ntmps153
  go_wp2_with fail
  go_loopw [4, 5] (fun v4 v5 wr => ∃ i : Nat, v4 = .bool false ∧ v5 = .int .i64 i ∧ i ≤ c.size ∧ Aside0 (preL S.d S.nd c (c.size - i) i = preL S.d S.nd c c.size 0) ∧ (∃ n, wr = w.drewN n)) (fun _ v5 _ => c.size - (intOf v5).toNat)
  case atStart => exact ⟨0, rfl, rfl, Nat.zero_le _, ⟨rfl⟩, 0, rfl⟩
  case round =>
    obtain ⟨i, rfl, rfl, hi, HF, n, rfl⟩ := hrel
    by_cases hic : i < c.size
    · have hic' : (i : Int) < (c.size : Int) := by omega
      have HC := Aside0.mk (cb_at c i hic)
      by_cases hid : S.nd ≤ i
      · have HR := Aside0.mk (show preL S.d S.nd c c.size 0 = true by
          rw [← HF.out, show c.size - i = (c.size - i - 1) + 1 by omega, preL, if_pos (by omega)])
        go_wp2
        go_ret
        exact ⟨by rw [HR.out]; rfl, _, rfl⟩
      · have hid' : decide (S.nd ≤ i) = false := decide_eq_false hid
        have hcd : w.cell? ⟨p, i, none⟩ = some (.int .u8 (S.d i)) := HS.out.dig i (by omega)
        have hi0 : (0 : Int) ≤ (i : Int) := by omega
        have hi1 : (i : Int) < (S.nd : Int) := by omega
        by_cases he : S.d i = (c[i].toNat : Int)
        · have he' : (S.d i != (c[i].toNat : Int)) = false := bne_eq_false_iff_eq.mpr he
          have HE := Aside0.mk he
          clear he hid
          go_wp2_with fail
          go_quiet (fail)
          go_wp2
          go_roundw
          case measure => simp [intOf]; omega
          case rel =>
            refine ⟨i + 1, rfl, by go_num, by omega, ⟨?_⟩, _, rfl⟩
            rw [← HF.out, show c.size - i = (c.size - (i + 1)) + 1 by omega, preL, if_neg (by omega), if_pos (by rw [HC.out]; exact HE.out)]
        · have he' : (S.d i != (c[i].toNat : Int)) = true := bne_iff_ne.mpr he
          have HE := Aside0.mk he
          clear he hid
          go_wp2_with fail
          go_quiet (fail)
          go_wp2_with fail
          go_quiet (fail)
          go_wp2
          go_ret
          refine ⟨?_, _, (congrArg (fun z => World.drewN z _) (World.drewN_drewN w n _)).trans (World.drewN_drewN w _ _)⟩
          rw [← HF.out, show c.size - i = (c.size - (i + 1)) + 1 by omega, preL, if_neg (by omega), if_neg (by rw [HC.out]; exact HE.out), HC.out]
          rfl
    · have hic' : decide ((i : Int) < (c.size : Int)) = false := decide_eq_false (by omega)
      have HR := Aside0.mk (show preL S.d S.nd c c.size 0 = false by
        rw [← HF.out, show c.size - i = 0 by omega, preL])
      go_wp2
      go_ret
      exact ⟨by rw [HR.out]; rfl, _, rfl⟩
end
end Go.Proofs.YtohadobpiclllaaGreatDoor
