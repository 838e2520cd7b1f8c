/- Words for the walks of FnRespRaw: a world in which only some blocks have turned. The reader over bytes: fill, take. The reader over bytes: ReadSlice up to a line feed that lies in the buffer's size. The reader of replies: readLine at a line that ends with a carriage return and a line feed. The bytes of replies, in plain words: numerals, lines, replies. The reader of replies: BytesToString, Atoi, replyLen at a head that tells a length, or nil. The reader over bytes: ReadFull, Discard, CopyN where all is there. The reader over bytes: Discard where all is there; Buffer.Write. -/
import Derived.Test.YtmdlmjjggjemdaaGreatDoorPFnRespRawx0
import Derived.Lib.AtoiAll
import Derived.Lib.ItoaMem
import Derived.Laws.BytesArg
import Derived.Test.YtmdlmjjggjemdaaGreatDoorShelf
import Derived.Outline
import Derived.Laws.CopyOwn
namespace Go.Proofs.YtmdlmjjggjemdaaGreatDoor
section
open Go.RowKit Go.Proofs.YtmdlmjjggjemdaaGreatDoorW.PrintWords

/-- Of the blocks that were there only those of S may have turned. -/
structure Mods (S : Nat → Prop) (w w' : World) : Prop where
  os : w'.os = w.os
  tape : w'.tape = w.tape
  output : w'.output = w.output
  size : w.heap.size ≤ w'.heap.size
  block : ∀ k, k < w.heap.size → ¬ S k → w'.heap[k]? = w.heap[k]?

theorem Mods.refl (S : Nat → Prop) (w : World) : Mods S w w := ⟨rfl, rfl, rfl, Nat.le_refl _, fun _ _ _ => rfl⟩
theorem Mods.trans {S S' : Nat → Prop} {a b c : World} (h : Mods S a b) (k : Mods S' b c) (hs : ∀ i, i < a.heap.size → S' i → S i) : Mods S a c :=
  ⟨k.os.trans h.os, k.tape.trans h.tape, k.output.trans h.output, Nat.le_trans h.size k.size,
    fun i hi hn => (k.block i (Nat.lt_of_lt_of_le hi h.size) (fun hS => hn (hs i hi hS))).trans (h.block i hi hn)⟩
theorem Mods.mono {S S' : Nat → Prop} {a b : World} (h : Mods S a b) (hs : ∀ i, i < a.heap.size → S i → S' i) : Mods S' a b :=
  ⟨h.os, h.tape, h.output, h.size, fun i hi hn => h.block i hi (fun hS => hn (hs i hi hS))⟩
theorem Mods.drew {S : Nat → Prop} {a w : World} (h : Mods S a w) : Mods S a w.drew := ⟨h.os, h.tape, h.output, h.size, h.block⟩
theorem Mods.drewN {S : Nat → Prop} {a w : World} (h : Mods S a w) (n : Nat) : Mods S a (w.drewN n) := ⟨h.os, h.tape, h.output, h.size, h.block⟩
theorem Mods.alloc {S : Nat → Prop} {a w : World} (h : Mods S a w) (o : Obj) : Mods S a (w.alloc o) :=
  h.trans (S' := fun _ => False) ⟨rfl, rfl, rfl, by simp, fun k hk _ => Below.heap_alloc _ _ _ hk⟩ (fun _ _ h => h.elim)
theorem Mods.setCell {S : Nat → Prop} {a w : World} (h : Mods S a w) {p : Addr} (hp : S p.block ∨ a.heap.size ≤ p.block) (u : Value) : Mods S a (w.setCell p u) :=
  h.trans (S' := fun k => k = p.block) ⟨rfl, rfl, rfl, by simp [World.setCell], fun k _ hk => Below.heap_setCell _ _ _ _ hk⟩
    (fun i hi e => by subst e; exact hp.elim id (fun h => absurd hi (by omega)))
theorem Mods.of_below {a w : World} (h : Below a.heap.size a w) : Mods (fun _ => False) a w := ⟨h.os, h.tape, h.output, h.size, fun k hk _ => h.block k hk⟩
theorem Mods.below {a w : World} (h : Mods (fun _ => False) a w) : Below a.heap.size a w := ⟨h.os, h.tape, h.output, h.size, fun k hk => h.block k hk (fun h => h)⟩
theorem Mods.then_below {S : Nat → Prop} {a w w' : World} (h : Mods S a w) (hb : Below w.heap.size w w') : Mods S a w' :=
  h.trans (Mods.of_below hb) (fun _ _ h => h.elim)
theorem Mods.grown {S : Nat → Prop} {a w w' : World} {row : Option Nat} (h : Mods S a w) (hg : w.grownBy w' row) (hr : ∀ k, row = some k → S k ∨ a.heap.size ≤ k) : Mods S a w' :=
  h.trans (S' := fun k => row = some k) ⟨hg.os, hg.tape, hg.output, hg.size, fun k hk hn => hg.block k hk (fun e => hn e.symm)⟩
    (fun i hi e => (hr i e).elim id (fun h => absurd hi (by omega)))
theorem Mods.blk {S : Nat → Prop} {a w : World} (h : Mods S a w) {g : Nat} {o : Obj} (hb : a.heap[g]? = some o) (hn : ¬ S g) : w.heap[g]? = some o := (h.block g (blk_lt hb) hn).trans hb
theorem Mods.cell {S : Nat → Prop} {a w : World} (h : Mods S a w) {p : Addr} {v : Value} (hc : a.cell? p = some v) (hn : ¬ S p.block) : w.cell? p = some v :=
  (World.cell?_of_block (h.block p.block (World.block_lt_of_cell? a p hc) hn)).trans hc
/-- A slice that is read is read as before, where none of its cells has turned. -/
theorem Mods.reads {S : Nat → Prop} {a w : World} (h : Mods S a w) {k : IntKind} {A : Option Addr} {n : Nat} {xs : List Int} (hr : ReadsInt a k A n xs) (hn : ∀ ad, A = some ad → ¬ S ad.block) : ReadsInt w k A n xs :=
  ⟨hr.1, hr.2.1, fun hp => by
    obtain ⟨ad, e, hc⟩ := hr.2.2 hp
    refine ⟨ad, e, fun j hj => h.cell (hc j hj) ?_⟩
    have : (ad.add j).block = ad.block := by unfold Addr.add; split <;> rfl
    rw [this]; exact hn ad e⟩
end

section
open Go.RowKit Go.Proofs.YtmdlmjjggjemdaaGreatDoorW.PrintWords Go.Proofs.YtmdlmjjggjemdaaGreatDoorW.PrintMore Go.Proofs.YtmdlmjjggjemdaaGreatDoorW.PrintLast Go.Proofs.YtmdlmjjggjemdaaGreatDoor.PFnRespRaw
attribute [local go_sem] max2_int min2_int max_two min_two max_three min_three max_four min_four
set_option linter.unusedVariables false
set_option linter.unusedSimpArgs false

/-- The address A' lies in A's block. -/
def SameBlk (A A' : Option Addr) : Prop := ∀ ad, A' = some ad → ∃ ad0, A = some ad0 ∧ ad.block = ad0.block
theorem SameBlk.refl (A : Option Addr) : SameBlk A A := fun ad h => ⟨ad, h, rfl⟩
theorem SameBlk.trans {A B C : Option Addr} (h : SameBlk A B) (k : SameBlk B C) : SameBlk A C := fun ad e => by
  obtain ⟨b, e1, h1⟩ := k ad e
  obtain ⟨a, e2, h2⟩ := h b e1
  exact ⟨a, e2, h1.trans h2⟩
theorem add_block (a : Addr) (n : Nat) : (a.add n).block = a.block := by unfold Addr.add; split <;> rfl

/-- 'xs[m:]' of bytes without a case on the capacity. -/
theorem cut_at (A : Option Addr) (n c m : Nat) (hm : m ≤ n) :
    ∃ A' : Option Addr, (∀ W : World, (Instr.slice 41 (.slice A n c) (some (.int .i64 (m : Int))) none none).run Tryz.prog W = .ok (.slice A' (n - m) (c - m)) W) ∧
      (∀ (w : World) (k : IntKind) (xs : List Int), n ≤ c → ReadsInt w k A n xs → ReadsInt w k A' (n - m) (xs.drop m)) ∧ SameBlk A A' := by
  obtain ⟨i0, hi, hzz⟩ := Option.map_eq_some_iff.1 info5
  simp only [Prod.mk.injEq] at hzz
  refine ⟨if c = m then A else A.map (·.add m), fun W => ?_, fun w k xs hc h => h.drop_ m hm hc, fun ad e => ?_⟩
  · have hel : Tryz.prog.elem 41 = 5 := by simp [Program.elem, Tryz.underlying41]
    have hu : Tryz.prog.underlying 41 = some (.slice (Tryz.prog.elem 41)) := by rw [hel]; exact Tryz.underlying41
    rw [run_slice_l W 41 A n c hu .i64 (m : Int) (Int.natCast_nonneg _) (by omega), hel]
    simp [sizeOf, typeInfo, hi, hzz.2.1, sliced, Result.andThen]
  · split at e
    · exact ⟨ad, e, rfl⟩
    · obtain ⟨a0, e0, e1⟩ := Option.map_eq_some_iff.1 e
      exact ⟨a0, e0, by rw [← e1]; exact add_block _ _⟩

/-- The cells of the reader at block g. -/
def Rd (w : World) (g : Nat) (A : Option Addr) (n c : Nat) (bf sz : Int) : Prop :=
  w.heap[g]? = some (.cells #[.slice A n c, .int .i64 bf, .int .i64 sz] 68 (0, 0))

/-- What 'take' leaves. -/
def TakePost (w : World) (g : Nat) (A : Option Addr) (n c : Nat) (bf sz : Int) (m : Nat) (e : Ending) (w' : World) : Prop :=
  e = .returned (.slice A m c) ∧ ∃ A', (∀ (w : World) (k : IntKind) (xs : List Int), ReadsInt w k A n xs → ReadsInt w k A' (n - m) (xs.drop m)) ∧ SameBlk A A' ∧
    Rd w' g A' (n - m) (c - m) (max 0 (bf - m)) sz ∧ Mods (· = g) w w'

theorem take_calls (w : World) (g : Nat) (A : Option Addr) (n c : Nat) (bf sz : Int) (m : Int) (hS : Rd w g A n c bf sz) (h0 : 0 ≤ m) (hm : m ≤ n) (hc : n ≤ c) (hb0 : 0 ≤ bf) (hb1 : bf ≤ 9223372036854775807) (hn : n ≤ 9223372036854775807) :
    Calls Tryz.prog 66 #[.pointer (some ⟨g, 0, none⟩), .int .i64 m] w (TakePost w g A n c bf sz m.toNat) := by
  obtain ⟨m, rfl⟩ := Int.eq_ofNat_of_zero_le h0
  have hcz0 : w.cell? ⟨g, 0, none⟩ = some (.slice A n c) := (blk_cell hS 0).trans rfl
  have hcz1 : w.cell? ⟨g, 1, none⟩ = some (.int .i64 bf) := (blk_cell hS 1).trans rfl
  have hcz2 : w.cell? ⟨g, 2, none⟩ = some (.int .i64 sz) := (blk_cell hS 2).trans rfl
  have hfz0 := blk_frozen hS 0
  have hfz1 := blk_frozen hS 1
  have HS := Aside0.mk hS
  clear hS
  obtain ⟨A1, hcut, hA1, hA2⟩ := cut_at A n c m (by omega)
  have HA1 := Aside0.mk hA1
  have HA2 := Aside0.mk hA2
  clear hA1 hA2
  go_enter Tryz.func66, Tryz.ntmps66
  go_wp2
  all_goals
    go_ret
    refine ⟨rfl, A1, fun W k xs => HA1.out W k xs hc, HA2.out, ?_, by refine ((Mods.refl _ w).setCell ?_ _).setCell ?_ _ <;> exact .inl rfl⟩
    have h1 := blk_set (blk_set HS.out 0 (.slice A1 (n - m) (c - m))) 1
    unfold Rd
    first
    | (have e : max 0 (bf - m) = 0 := by omega
       rw [e]; exact h1 _)
    | (have e : max 0 (bf - m) = bf - m := by omega
       rw [e]; exact h1 _)

/-- 'fill' where there is more than what is in the buffer. -/
theorem fill_more (w : World) (g : Nat) (A : Option Addr) (n c : Nat) (bf sz : Int) (hS : Rd w g A n c bf sz) (hb0 : 0 ≤ bf) (hb1 : bf < n) (hn : n ≤ 9223372036854775807) :
    Calls Tryz.prog 65 #[.pointer (some ⟨g, 0, none⟩)] w fun e w' => e = .returned (.bool true) ∧ Rd w' g A n c (min sz n) sz ∧ Mods (· = g) w w' := by
  have hcz0 : w.cell? ⟨g, 0, none⟩ = some (.slice A n c) := (blk_cell hS 0).trans rfl
  have hcz1 : w.cell? ⟨g, 1, none⟩ = some (.int .i64 bf) := (blk_cell hS 1).trans rfl
  have hcz2 : w.cell? ⟨g, 2, none⟩ = some (.int .i64 sz) := (blk_cell hS 2).trans rfl
  have hfz0 := blk_frozen hS 0
  have hfz1 := blk_frozen hS 1
  have HS := Aside0.mk hS
  have hd : ((n : Int) == bf) = false := beq_eq_false_iff_ne.mpr (by omega)
  clear hS
  go_enter Tryz.func65, Tryz.ntmps65
  go_wp2
  go_quiet (fail)
  go_wp2
  go_region
  all_goals go_wp2
  all_goals
    go_ret
    refine ⟨rfl, ?_, by refine Mods.setCell (Mods.drewN (Mods.refl _ w) _) ?_ _; exact .inl rfl⟩
    have h1 := blk_set HS.out 1
    unfold Rd
    first
    | (have e : min sz n = n := by omega
       rw [e]; exact h1 _)
    | (have e : min sz n = sz := by omega
       rw [e]; exact h1 _)
end

section
open Go.RowKit Go.Proofs.YtmdlmjjggjemdaaGreatDoorW.PrintWords Go.Proofs.YtmdlmjjggjemdaaGreatDoorW.PrintMore Go.Proofs.YtmdlmjjggjemdaaGreatDoorW.PrintLast Go.Proofs.YtmdlmjjggjemdaaGreatDoor.PFnRespRaw
attribute [local go_sem] max2_int min2_int max_two min_two max_three min_three max_four min_four
set_option linter.unusedVariables false
set_option linter.unusedSimpArgs false

/-- The reader at block g is over the bytes xs, which lie in block db. -/
def Src (w : World) (g db : Nat) (xs : List Int) : Prop :=
  ∃ (A : Option Addr) (c : Nat) (bf : Int), Rd w g A xs.length c bf 32768 ∧ xs.length ≤ c ∧ 0 ≤ bf ∧ bf ≤ 32768 ∧ bf ≤ xs.length ∧ ReadsInt w .u8 A xs.length xs ∧ ∀ ad, A = some ad → ad.block = db

/-- What a reading of k bytes leaves: a slice over them, the reader behind them. -/
def TookPost (w : World) (g db : Nat) (pre rest : List Int) (r : Value → Value) (e : Ending) (w' : World) : Prop :=
  ∃ (A : Option Addr) (c : Nat), e = .returned (r (.slice A pre.length c)) ∧ pre.length ≤ c ∧ ReadsInt w' .u8 A pre.length pre ∧ (∀ ad, A = some ad → ad.block = db) ∧ Src w' g db rest ∧ Mods (· = g) w w'

theorem took_of_take {w W : World} {g db : Nat} {A : Option Addr} {c : Nat} {bf : Int} {xs : List Int} {m : Nat} {e : Ending} {w' : World} (hdb : db ≠ g)
    (hm : m ≤ xs.length) (hc : xs.length ≤ c) (hb0 : 0 ≤ bf) (hb1 : bf ≤ 32768) (hb2 : bf ≤ xs.length) (hR : ReadsInt W .u8 A xs.length xs) (hA : ∀ ad, A = some ad → ad.block = db)
    (hW : Mods (· = g) w W) (h : TakePost W g A xs.length c bf 32768 m e w') : TookPost w g db (xs.take m) (xs.drop m) id e w' := by
  obtain ⟨rfl, A', h1, h2, h3, h4⟩ := h
  have hl : (xs.take m).length = m := by rw [List.length_take]; omega
  have hne : ∀ ad, A = some ad → ¬ (ad.block = g) := fun ad e => by rw [hA ad e]; exact hdb
  refine ⟨A, c, by rw [hl]; rfl, by omega, ?_, hA, ⟨A', c - m, max 0 (bf - m), ?_, ?_, ?_, ?_, ?_, ?_, ?_⟩, hW.trans h4 (fun _ _ h => h)⟩
  · rw [hl]; exact h4.reads (hR.take_ m hm) hne
  · rw [List.length_drop]; exact h3
  · rw [List.length_drop]; omega
  · omega
  · omega
  · rw [List.length_drop]; omega
  · rw [List.length_drop]; exact h1 _ _ _ (h4.reads hR hne)
  · intro ad e
    obtain ⟨a0, e0, e1⟩ := h2 ad e
    rw [e1]; exact hA a0 e0

set_option maxHeartbeats 4000000 in
set_option maxRecDepth 100000 in
theorem readSlice_calls (w : World) (g db : Nat) (xs : List Int) (k : Nat) (hdb : db ≠ g) (hS : Src w g db xs) (hk : k < xs.length) (hk2 : k < 32768) (hnl : rd xs k = 10) (hpre : ∀ i : Nat, i < k → rd xs i ≠ 10) :
    Calls Tryz.prog 45 #[.pointer (some ⟨g, 0, none⟩), .int .u8 10] w (TookPost w g db (xs.take (k + 1)) (xs.drop (k + 1)) (fun v => .tuple #[v, .nilIface])) := by
  obtain ⟨A, c, bf, hS, hc, hb0, hb1, hb2, hR, hA⟩ := hS
  have hn : xs.length ≤ 9223372036854775807 := hR.2.1
  obtain ⟨ad, rfl, hcell⟩ := hR.2.2 (by omega)
  have HR := Aside0.mk hR
  have HA := Aside0.mk (hA ad rfl)
  have HC := Aside0.mk hcell
  have HS := Aside0.mk hS
  have HNL := Aside0.mk hnl
  have HP := Aside0.mk hpre
  clear hR hA hcell hS hnl hpre
  go_enter Tryz.func45, Tryz.ntmps45
  go_wp2
  go_loopg [6, 7] 2 (fun kq v6 v7 w' => ∃ (f b : Int) , v6 = .int .i64 f ∧ Aside0 (0 ≤ f ∧ f ≤ k ∧ f ≤ b ∧ b ≤ xs.length ∧ b ≤ 32768) ∧ Aside0 (kq ≤ 1 → k < b) ∧ Aside0 (1 ≤ kq) ∧ Aside0 (Rd w' g (some ad) xs.length c b 32768) ∧ Aside0 (Mods (· = g) w w'))
  case atStart => exact ⟨0, bf, rfl, ⟨by omega, by omega, by omega, by omega, by omega⟩, ⟨fun h => by omega⟩, ⟨by omega⟩, HS, ⟨Mods.refl _ _⟩⟩
  case round =>
    clear HS
    obtain ⟨f, b, rfl, HF, HKQ, HK1, HS, HM⟩ := hrel
    obtain ⟨hf0, hf1, hf2, hb3, hb4⟩ := HF.out
    cases gk with
    | zero => exact absurd HK1.out (by omega)
    | succ k1 =>
    have hcz0 : wr.cell? ⟨g, 0, none⟩ = some (.slice (some ad) xs.length c) := (blk_cell HS.out 0).trans rfl
    have hcz1 : wr.cell? ⟨g, 1, none⟩ = some (.int .i64 b) := (blk_cell HS.out 1).trans rfl
    have hcz2 : wr.cell? ⟨g, 2, none⟩ = some (.int .i64 32768) := (blk_cell HS.out 2).trans rfl
    go_wp2
    go_loop [7] (fun v7 => ∃ i : Int, v7 = .int .i64 i ∧ Aside0 (f ≤ i ∧ i ≤ k ∧ i ≤ b)) (fun v7 => (b - intOf v7).toNat)
    case atStart => exact ⟨f, rfl, ⟨by omega, by omega, by omega⟩⟩
    case round =>
      obtain ⟨i, rfl, HI⟩ := hrel
      obtain ⟨hi0, hi1, hi2⟩ := HI.out
      by_cases hib : i < b
      · have p1 : 0 ≤ i := by omega
        have p2 : i < (xs.length : Int) := by omega
        have hx : wr.cell? (ad.add i.toNat) = some (.int .u8 (rd xs i)) := HM.out.cell (HC.out _ (by omega)) (by rw [add_block, HA.out]; exact hdb)
        by_cases hik : i = k
        · subst hik
          rw [Int.toNat_natCast] at hx
          have h10 : (rd xs k == 10) = true := beq_iff_eq.mpr HNL.out
          go_wp2_with (go_at_call 66; refine (take_calls _ g (some ad) xs.length c b 32768 (k + 1) HS.out (by omega) (by omega) (by omega) (by omega) (by omega) (by omega)).mono ?_; rintro e w' ⟨rfl, ht⟩; have HT := Aside0.mk ht; clear ht)
          go_ret2
          have ht := took_of_take (m := k + 1) hdb (by omega) hc (by omega) (by omega) (by omega) (HM.out.reads HR.out (fun a e => by cases e; rw [HA.out]; exact hdb)) (fun a e => by cases e; exact HA.out) HM.out ⟨rfl, HT.out⟩
          obtain ⟨A2, c2, e2, r2⟩ := ht
          have hl : (xs.take (k + 1)).length = k + 1 := by rw [List.length_take]; omega
          rw [hl] at e2
          injection e2 with e2
          refine ⟨A2, c2, ?_, r2⟩
          rw [hl]
          exact congrArg (fun v => Ending.returned (.tuple #[v, .nilIface])) e2
        · have h10 : (rd xs i == 10) = false := beq_eq_false_iff_ne.mpr (by have := HP.out i.toNat (by omega); rw [show ((i.toNat : Nat) : Int) = i from by omega] at this; exact this)
          go_wp2
          go_round
          case rel => exact ⟨i + 1, by go_num, ⟨by omega, by omega, by omega⟩⟩
          case measure => simp [intOf]; omega
      · have hkb : b ≤ k := by omega
        have hkq : 1 < k1 + 1 := by
          rcases Nat.lt_or_ge 1 (k1 + 1) with h | h
          · exact h
          · have := HKQ.out h; omega
        have hgt : decide ((32768 : Int) ≤ b) = false := decide_eq_false (by omega)
        go_wp2
        go_quiet (fail)
        go_wp2_with fail
        refine (fill_more _ g (some ad) xs.length c b 32768 (by exact HS.out) (by omega) (by omega) (by omega)).mono ?_
        rintro e w' ⟨rfl, hr, hm⟩
        have HS1 := Aside0.mk hr
        have HM1 := Aside0.mk ((HM.out.drewN _).trans hm (fun _ _ h => h))
        clear hr hm
        go_wp2_with fail
        go_roundg k1
        case measure => omega
        case rel => exact ⟨b, min 32768 xs.length, rfl, ⟨by omega, by omega, by omega, by omega, by omega⟩, ⟨fun _ => by omega⟩, ⟨by omega⟩, HS1, HM1⟩
end

section
open Go.RowKit Go.Proofs.YtmdlmjjggjemdaaGreatDoorW.PrintWords Go.Proofs.YtmdlmjjggjemdaaGreatDoorW.PrintMore Go.Proofs.YtmdlmjjggjemdaaGreatDoorW.PrintLast Go.Proofs.YtmdlmjjggjemdaaGreatDoor.PFnRespRaw
attribute [local go_sem] max2_int min2_int max_two min_two max_three min_three max_four min_four
set_option linter.unusedVariables false
set_option linter.unusedSimpArgs false

/-- The reader of replies at block p, over the reader at block g. -/
def PRd (w : World) (p g : Nat) : Prop := w.heap[p]? = some (.cells #[.pointer (some ⟨g, 0, none⟩)] 65 (0, 0))

/-- A line's signs: none is a line feed. -/
def Line (l : List Int) : Prop := 0 < l.length ∧ l.length ≤ 30000 ∧ ∀ x ∈ l, x ≠ 10

theorem rd_app_lt (xs ys : List Int) (i : Nat) (h : i < xs.length) : rd (xs ++ ys) i = rd xs i := by
  unfold rd; rw [Int.toNat_natCast, List.getD_eq_getElem?_getD, List.getElem?_append_left h, ← List.getD_eq_getElem?_getD]
theorem rd_app_ge (xs ys : List Int) (i : Nat) (h : xs.length ≤ i) : rd (xs ++ ys) i = rd ys ((i - xs.length : Nat) : Int) := by
  unfold rd; rw [Int.toNat_natCast, Int.toNat_natCast, List.getD_eq_getElem?_getD, List.getElem?_append_right h, ← List.getD_eq_getElem?_getD]
theorem rd_mem (xs : List Int) (i : Nat) (h : i < xs.length) : rd xs i ∈ xs := by
  unfold rd; rw [Int.toNat_natCast, List.getD_eq_getElem?_getD, List.getElem?_eq_getElem h]; simp

theorem reads_at {w : World} {k : IntKind} {ad : Addr} {n : Nat} {xs : List Int} (h : ReadsInt w k (some ad) n xs) (i : Nat) (h1 : i < n) : w.cell? (ad.add i) = some (.int k (rd xs i)) := by
  obtain ⟨ad', e, hc⟩ := h.2.2 (by omega)
  cases e
  have := hc i h1
  unfold rd; rw [Int.toNat_natCast]; exact this

set_option maxHeartbeats 4000000 in
set_option maxRecDepth 100000 in
theorem readLine_calls (w : World) (p g db : Nat) (l rest : List Int) (hp : PRd w p g) (hpg : p ≠ g) (hdb : db ≠ g) (hS : Src w g db (l ++ [13, 10] ++ rest)) (hl : Line l) :
    Calls Tryz.prog 29 #[.pointer (some ⟨p, 0, none⟩)] w (TookPost w g db l rest (fun v => .tuple #[v, .nilIface])) := by
  obtain ⟨hl0, hl1, hl2⟩ := hl
  have hlen : (l ++ [13, 10] ++ rest).length = l.length + 2 + rest.length := by simp; omega
  have h := readSlice_calls w g db (l ++ [13, 10] ++ rest) (l.length + 1) hdb hS (by omega) (by omega)
    (by rw [rd_app_lt _ _ _ (by simp), rd_app_ge _ _ _ (by omega)]; simp [rd])
    (fun i hi => by
      rcases Nat.lt_or_ge i l.length with h | h
      · rw [rd_app_lt _ _ _ (by simp; omega), rd_app_lt _ _ _ h]; exact hl2 _ (rd_mem _ _ h)
      · obtain rfl : i = l.length := by omega
        rw [rd_app_lt _ _ _ (by simp), rd_app_ge _ _ _ (by omega)]; simp [rd])
  have ht : (l ++ [13, 10] ++ rest).take (l.length + 1 + 1) = l ++ [13, 10] := by
    rw [List.take_append_of_le_length (by simp)]; exact List.take_of_length_le (by simp)
  have hd : (l ++ [13, 10] ++ rest).drop (l.length + 1 + 1) = rest := List.drop_left' (by simp)
  rw [ht, hd] at h
  have H := Aside0.mk h
  have HL2 := Aside0.mk hl2
  clear h ht hd hS hl2 hlen
  have hcz0 : w.cell? ⟨p, 0, none⟩ = some (.pointer (some ⟨g, 0, none⟩)) := (blk_cell hp 0).trans rfl
  have HP := Aside0.mk hp
  clear hp
  go_enter Tryz.func29, Tryz.ntmps29
  go_wp2_with fail
  refine H.out.mono ?_
  rintro e w' ⟨A, c, rfl, hc, hR, hA, hS, hM⟩
  obtain ⟨n, hn⟩ : ∃ n, n = (l ++ [13, 10]).length := ⟨_, rfl⟩
  rw [← hn] at hR hc ⊢
  have hn2 : n = l.length + 2 := by rw [hn]; simp
  have hn3 : 3 ≤ n := by omega
  have hn4 : n ≤ 40000 := by omega
  obtain ⟨ad, rfl, hcell⟩ := hR.2.2 (by omega)
  have hx1 : w'.cell? (ad.add (n - 1)) = some (.int .u8 10) := by
    rw [reads_at hR _ (by omega), rd_app_ge _ _ _ (by omega), hn2]; simp [rd]
  have hx0 : w'.cell? (ad.add (n - 2)) = some (.int .u8 13) := by
    rw [reads_at hR _ (by omega), rd_app_ge _ _ _ (by omega), hn2]; simp [rd]
  have HR := Aside0.mk hR
  have HA := Aside0.mk hA
  have HS := Aside0.mk hS
  have HM := Aside0.mk hM
  have HC := Aside0.mk hc
  have HN := Aside0.mk hn2
  clear hR hA hS hM hcell hn hn2
  have hd : decide ((n : Int) ≤ 2) = false := decide_eq_false (by omega)
  go_wp2
  go_ret2
  refine ⟨some ad, c, ?_, by have := HC.out; have := HN.out; omega, ?_, HA.out, HS.out, HM.out⟩
  · rw [show n - 2 = l.length from by have := HN.out; omega]; rfl
  · have := HR.out.take_ l.length (by have := HN.out; omega)
    rwa [List.take_left'] at this
    rfl
end

section
/-- The bytes of a number's decimal numeral. -/
def decI (n : Nat) : List Int := (Lib.decDigits n).map fun b => (b.toNat : Int)

theorem parse_dec : ∀ (n : Nat), n < 1844674407370955161 → ∀ (c : Nat) (r : List UInt8), c < 10 →
    Lib.parseUint10 0 (Lib.decDigits n ++ r) = Lib.parseUint10 n r := by
  intro n
  induction n using Nat.strongRecOn with
  | _ n ih =>
  intro hn c r hc
  rw [Lib.decDigits]
  have hd : ∀ d : Nat, d < 10 → (UInt8.ofNat (48 + d)).toNat = 48 + d := fun d hd => by
    rw [UInt8.toNat_ofNat']; omega
  split
  · rename_i h
    have e := hd n h
    show Lib.parseUint10 0 (UInt8.ofNat (48 + n) :: r) = _
    rw [Lib.parseUint10, if_pos (by rw [e]; omega), if_neg (by omega), if_neg (by rw [e]; omega), e]
    congr 1; omega
  · rename_i h
    rw [List.append_assoc, ih (n / 10) (by omega) (by omega) 0 _ (by omega)]
    have e := hd (n % 10) (by omega)
    show Lib.parseUint10 (n / 10) (UInt8.ofNat (48 + n % 10) :: r) = _
    rw [Lib.parseUint10, if_pos (by rw [e]; omega), if_neg (by omega), if_neg (by rw [e]; omega), e]
    congr 1; omega

theorem dec_digit : ∀ (n : Nat), ∀ b ∈ Lib.decDigits n, 48 ≤ b.toNat ∧ b.toNat ≤ 57 := by
  intro n
  induction n using Nat.strongRecOn with
  | _ n ih =>
  rw [Lib.decDigits]
  split
  · intro b hb
    rw [List.mem_singleton] at hb
    subst hb
    rw [UInt8.toNat_ofNat']; omega
  · intro b hb
    rcases List.mem_append.1 hb with hb | hb
    · exact ih _ (by omega) b hb
    · rw [List.mem_singleton] at hb
      subst hb
      rw [UInt8.toNat_ofNat']; omega
theorem dec_ne_nil (n : Nat) : Lib.decDigits n ≠ [] := by
  rw [Lib.decDigits]; split <;> simp

theorem atoi_dec (n : Nat) (hn : n < 1844674407370955161) : Lib.atoiAll (Lib.decDigits n) = .ok (n : Int) := by
  have hne := dec_ne_nil n
  cases hl : Lib.decDigits n with
  | nil => exact absurd hl hne
  | cons c r =>
    have hc := dec_digit n c (by rw [hl]; exact List.mem_cons_self)
    have hp := parse_dec n hn 0 [] (by omega)
    rw [List.append_nil, hl] at hp
    have hp2 : Lib.parseUint10 n [] = .ok n := rfl
    rw [hp2] at hp
    simp only [Lib.atoiAll]
    rw [if_neg (by omega)]
    unfold Lib.parseMag
    rw [if_neg (by simp), hp]
    simp only []
    rw [if_neg (by omega), if_neg (by omega), if_neg (by omega)]

theorem decI_digit (n : Nat) : ∀ x ∈ decI n, 48 ≤ x ∧ x ≤ 57 := by
  intro x hx
  obtain ⟨b, hb, rfl⟩ := List.mem_map.1 hx
  have := dec_digit n b hb
  omega
theorem decI_pos (n : Nat) : 0 < (decI n).length := by
  unfold decI; rw [List.length_map]
  exact List.length_pos_iff.2 (dec_ne_nil n)
theorem decI_le (n : Nat) (h : n < 10000000) : (decI n).length ≤ 7 := by
  unfold decI; rw [List.length_map, Lib.decDigits_length]
  unfold Lib.nDigits
  repeat (first | omega | (unfold Lib.nDigits; split))
theorem str_decI (n : Nat) : (strOfNums (decI n)).data.toList = Lib.decDigits n := by
  rw [strOfNums_data]; unfold decI
  rw [List.map_map]
  conv => rhs; rw [← List.map_id (Lib.decDigits n)]
  apply List.map_congr_left
  intro b _
  simp
end

section
open Go.RowKit Go.Proofs.YtmdlmjjggjemdaaGreatDoorW.PrintWords Go.Proofs.YtmdlmjjggjemdaaGreatDoorW.PrintMore Go.Proofs.YtmdlmjjggjemdaaGreatDoorW.PrintLast Go.Proofs.YtmdlmjjggjemdaaGreatDoor.PFnRespRaw
attribute [local go_sem] max2_int min2_int max_two min_two max_three min_three max_four min_four
set_option linter.unusedVariables false
set_option linter.unusedSimpArgs false

theorem str_run {w : World} {A : Option Addr} {n c : Nat} {xs : List Int} (h : ReadsInt w .u8 A n xs) : (convert 41 9 (.slice A n c)).run Tryz.prog w = .ok (.string (strOfNums xs)) w := by
  obtain rfl := h.1
  exact Kd.C_string (P := Tryz.prog) (A := A) (c := c) Tryz.underlying41 Tryz.underlying5 Tryz.underlying9 (Kd.C_of_reads (d := (0 : Int)) (h1 := fun _ => rfl) h)

/-- 's[1:]' where there is more than one byte. -/
theorem reads_tail {w : World} {ad : Addr} {n : Nat} {xs : List Int} (h : ReadsInt w .u8 (some ad) n xs) (h1 : 1 < n) : ReadsInt w .u8 (some ⟨ad.block, ad.off + 1, none⟩) (n - 1) (xs.drop 1) := by
  have := h.drop_ 1 (by omega) (Nat.le_refl n)
  rwa [if_neg (by omega)] at this

theorem b2s_calls (w : World) (A : Option Addr) (n c : Nat) (xs : List Int) (hR : ReadsInt w .u8 A n xs) :
    Calls Tryz.prog 81 #[.slice A n c] w fun e w' => e = .returned (.string (strOfNums xs)) ∧ w = w' := by
  have hcv := str_run (c := c) hR
  have HR := Aside0.mk hR
  clear hR
  go_enter Tryz.func81, Tryz.ntmps81
  go_wp2
  go_ret
  exact ⟨rfl, rfl⟩

set_option maxHeartbeats 4000000 in
set_option maxRecDepth 100000 in
theorem uAtoi_calls (w : World) (A : Option Addr) (n c : Nat) (xs : List Int) (v : Int) (hsz : n ≤ 1000000) (hR : ReadsInt w .u8 A n xs) (hv : Lib.atoiAll (strOfNums xs).data.toList = .ok v) :
    Calls Tryz.prog 64 #[.slice A n c] w fun e w' => e = .returned (.tuple #[.int .i64 v, .nilIface]) ∧ Below w.heap.size w w' := by
  have h1 := b2s_calls w A n c xs hR
  have hs : (strOfNums xs).size ≤ 9223372036854775806 := by rw [strOfNums_size, hR.1]; omega
  have h2 := Tryz.strconv_Atoi_ok (strOfNums xs) hs v hv w
  have H1 := Aside0.mk h1
  have H2 := Aside0.mk h2
  clear h1 h2 hR hv hs
  go_enter Tryz.func64, Tryz.ntmps64
  go_wp2_with fail
  refine H1.out.mono ?_
  rintro e w1 ⟨rfl, rfl⟩
  go_wp2_with fail
  refine H2.out.mono ?_
  rintro e w1 ⟨rfl, hw⟩
  have HB : Aside0 (Below w.heap.size w w1) := ⟨by
    rcases hw with rfl | ⟨t, rfl⟩
    · exact Below.refl _ _
    · exact Lib.bytesWorld_below _ _ _⟩
  clear hw
  go_wp2
  go_ret2
  exact ⟨rfl, HB.out⟩

set_option maxHeartbeats 4000000 in
set_option maxRecDepth 100000 in
/-- The length that a head tells. -/
theorem replyLen_calls (w : World) (A : Option Addr) (n c : Nat) (s : Int) (m : Nat) (hs : s ∈ [36, 33, 61, 42, 126, 62, 37]) (hm : m < 10000000) (hc : n ≤ c) (hR : ReadsInt w .u8 A n (s :: decI m)) :
    Calls Tryz.prog 41 #[.slice A n c] w fun e w' => e = .returned (.tuple #[.int .i64 m, .nilIface]) ∧ Below w.heap.size w w' := by
  have hn : n = (decI m).length + 1 := by rw [← hR.1]; rfl
  have hlen := decI_le m hm
  obtain ⟨ad, rfl, hcell⟩ := hR.2.2 (by omega)
  have hx0 : w.cell? ad = some (.int .u8 s) := by have := hcell 0 (by omega); simpa [Addr.add] using this
  have hR1 := reads_tail hR (by have := decI_pos m; omega)
  have h1 := uAtoi_calls w _ (n - 1) (c - 1) _ m (by omega) hR1 (by show Lib.atoiAll (strOfNums (decI m)).data.toList = _; rw [str_decI]; exact atoi_dec m (by omega))
  have H1 := Aside0.mk h1
  have HC := Aside0.mk hcell
  have HN := Aside0.mk hn
  clear h1 hcell hR hR1 hn
  have hn1 : 1 < n := by have := HN.out; have := decI_pos m; omega
  simp only [List.mem_cons, List.not_mem_nil, or_false] at hs
  rcases hs with rfl | rfl | rfl | rfl | rfl | rfl | rfl
  all_goals
    go_enter Tryz.func41, Tryz.ntmps41
    go_wp2_with fail
    with_reducible refine H1.out.mono ?_
    rintro e w1 ⟨rfl, hb⟩
    have HB := Aside0.mk hb
    have hx1 := pw_cell_below hb hx0
    clear hb
    have hm1 : ((m : Int) == -1) = false := beq_eq_false_iff_ne.mpr (by omega)
    go_wp2
    go_ret2
    exact ⟨rfl, HB.out⟩

set_option maxHeartbeats 4000000 in
set_option maxRecDepth 100000 in
/-- The length -1: nil. -/
theorem replyLen_nil (w : World) (A : Option Addr) (n c : Nat) (s : Int) (hs : s = 36 ∨ s = 42) (hc : n ≤ c) (hR : ReadsInt w .u8 A n [s, 45, 49]) :
    Calls Tryz.prog 41 #[.slice A n c] w fun e w' => e = .returned (.tuple #[.int .i64 0, .iface 83 (.string ⟨#[114, 101, 100, 105, 115, 58, 32, 110, 105, 108]⟩)]) ∧ Below w.heap.size w w' := by
  have hn : n = 3 := hR.1.symm
  subst hn
  obtain ⟨ad, rfl, hcell⟩ := hR.2.2 (by omega)
  have hx0 : w.cell? ad = some (.int .u8 s) := by have := hcell 0 (by omega); simpa [Addr.add] using this
  have hR1 := reads_tail hR (by omega)
  have h1 := uAtoi_calls w _ 2 (c - 1) _ (-1) (by omega) hR1 (by show Lib.atoiAll (strOfNums [45, 49]).data.toList = .ok (-1); decide)
  have H1 := Aside0.mk h1
  have HC := Aside0.mk hcell
  clear h1 hcell hR hR1
  rcases hs with rfl | rfl
  all_goals
    go_enter Tryz.func41, Tryz.ntmps41
    go_wp2_with fail
    with_reducible refine H1.out.mono ?_
    rintro e w1 ⟨rfl, hb⟩
    have HB := Aside0.mk hb
    have hx1 := pw_cell_below hb hx0
    clear hb
    go_wp2
    go_ret2
    exact ⟨rfl, HB.out⟩
end

section
open Go.RowKit Go.Proofs.YtmdlmjjggjemdaaGreatDoorW.PrintWords Go.Proofs.YtmdlmjjggjemdaaGreatDoorW.PrintMore Go.Proofs.YtmdlmjjggjemdaaGreatDoorW.PrintLast Go.Proofs.YtmdlmjjggjemdaaGreatDoor.PFnRespRaw
attribute [local go_sem] max2_int min2_int max_two min_two max_three min_three max_four min_four
set_option linter.unusedVariables false
set_option linter.unusedSimpArgs false

theorem Mods.setRow {S : Nat → Prop} {a w : World} (h : Mods S a w) {g : Nat} (hp : S g ∨ a.heap.size ≤ g) (cs : Array Value) : Mods S a (w.setRow g cs) :=
  h.trans (S' := fun k => k = g) ⟨rfl, rfl, rfl, by simp [World.setRow], fun k _ hk => setRow_other w g k cs hk⟩
    (fun i hi e => by subst e; exact hp.elim id (fun h => absurd hi (by omega)))

/-- What is left behind a reading of m bytes into row gb from off on. -/
def FullPost (w : World) (g db gb off m : Nat) (cur : List Value) (xs : List Int) (e : Ending) (w' : World) : Prop :=
  e = .returned (.tuple #[.int .i64 m, .nilIface]) ∧ w'.heap[gb]? = some (.cells (cur.take off ++ (nums .u8 (xs.take m) ++ cur.drop (off + m))).toArray 5 (0, 0)) ∧ Src w' g db (xs.drop m) ∧ Mods (fun k => k = g ∨ k = gb) w w'

theorem nums_get {k : IntKind} {xs : List Int} {j : Nat} {v : Value} (h : (nums k xs)[j]? = some v) : j < xs.length ∧ v = .int k (rd xs j) := by
  unfold nums at h
  rw [List.getElem?_map] at h
  obtain ⟨x, hx, rfl⟩ := Option.map_eq_some_iff.1 h
  obtain ⟨hj, e⟩ := List.getElem?_eq_some_iff.1 hx
  refine ⟨hj, ?_⟩
  unfold rd; rw [Int.toNat_natCast, List.getD_eq_getElem?_getD, hx]; rfl

theorem size5 : (Tryz.prog.info? 5).map (·.size) = some 1 := by
  obtain ⟨i0, hi, hzz⟩ := Option.map_eq_some_iff.1 info5
  simp only [Prod.mk.injEq] at hzz
  rw [hi]; exact congrArg some hzz.2.1
theorem nums_one (k : IntKind) (xs : List Int) : ∀ v ∈ nums k xs, v.oneCell' = true := by
  intro v hv
  obtain ⟨x, _, rfl⟩ := List.mem_map.1 hv
  rfl

/-- The world behind the copy. -/
theorem full_end {w w1 w' : World} {g db gb off m cx : Nat} {bf : Int} {ad : Addr} {cur : List Value} {xs : List Int} {e : Ending} (hdb : db ≠ g) (hgg : gb ≠ g) (hgd : gb ≠ db) (hm : m ≤ xs.length) (hc : xs.length ≤ cx)
    (hb0 : 0 ≤ bf) (hb1 : bf ≤ 32768) (hb2 : bf ≤ xs.length) (hX : ReadsInt w .u8 (some ad) xs.length xs) (hA : ad.block = db) (hM : Mods (· = g) w w1)
    (hcur : w1.heap[gb]? = some (.cells cur.toArray 5 (0, 0)))
    (h : TakePost (w1.setRow gb (cur.take off ++ (nums .u8 (xs.take m) ++ cur.drop (off + m))).toArray) g (some ad) xs.length cx bf 32768 m e w') :
    e = .returned (.slice (some ad) m cx) ∧ w'.heap[gb]? = some (.cells (cur.take off ++ (nums .u8 (xs.take m) ++ cur.drop (off + m))).toArray 5 (0, 0)) ∧ Src w' g db (xs.drop m) ∧ Mods (fun k => k = g ∨ k = gb) w w' := by
  obtain ⟨rfl, A', h1, h2, h3, h4⟩ := h
  have hrow := setRow_heap w1 gb _ (cur.take off ++ (nums .u8 (xs.take m) ++ cur.drop (off + m))).toArray 5 (0, 0) hcur
  have hX1 : ReadsInt (w1.setRow gb (cur.take off ++ (nums .u8 (xs.take m) ++ cur.drop (off + m))).toArray) .u8 (some ad) xs.length xs :=
    (((hM.mono (S' := fun k => k = g ∨ k = gb) (fun _ _ h => .inl h)).setRow (.inr rfl |> .inl) _)).reads hX (fun a e => by cases e; rw [hA]; rintro (h | h); exact hdb h; exact hgd h.symm)
  refine ⟨rfl, h4.blk hrow (fun h => hgg h), ⟨A', cx - m, max 0 (bf - m), ?_, ?_, ?_, ?_, ?_, ?_, ?_⟩, ?_⟩
  · rw [List.length_drop]; exact h3
  · rw [List.length_drop]; omega
  · omega
  · omega
  · rw [List.length_drop]; omega
  · rw [List.length_drop]; exact h1 _ _ _ (h4.reads hX1 (fun a e => by cases e; rw [hA]; exact hdb))
  · intro a e
    obtain ⟨a0, e0, e1⟩ := h2 a e
    cases e0
    rw [e1]; exact hA
  · exact ((hM.mono (S' := fun k => k = g ∨ k = gb) (fun _ _ h => .inl h)).setRow (.inl (.inr rfl)) _).trans h4 (fun _ _ h => .inl h)

set_option maxHeartbeats 4000000 in
set_option maxRecDepth 100000 in
theorem readFull_calls (w : World) (g db gb off m c : Nat) (cur : List Value) (xs : List Int) (hdb : db ≠ g) (hgg : gb ≠ g) (hgd : gb ≠ db) (hS : Src w g db xs) (hm0 : 0 < m) (hm : m ≤ xs.length) (hm2 : m < 32768)
    (hcur : w.heap[gb]? = some (.cells cur.toArray 5 (0, 0))) (hfit : off + m ≤ cur.length) :
    Calls Tryz.prog 42 #[.pointer (some ⟨g, 0, none⟩), .slice (some ⟨gb, off, none⟩) m c] w (FullPost w g db gb off m cur xs) := by
  obtain ⟨A, cx, bf, hR, hc, hb0, hb1, hb2, hX, hA⟩ := hS
  obtain ⟨sz, hsz⟩ : ∃ s : Int, s = 32768 := ⟨_, rfl⟩
  rw [← hsz] at hR hb1
  have hn : xs.length ≤ 9223372036854775807 := hX.2.1
  obtain ⟨ad, rfl, hcell⟩ := hX.2.2 (by omega)
  have hA := hA ad rfl
  have hcz0 : w.cell? ⟨g, 0, none⟩ = some (.slice (some ad) xs.length cx) := (blk_cell hR 0).trans rfl
  have hcz1 : w.cell? ⟨g, 1, none⟩ = some (.int .i64 bf) := (blk_cell hR 1).trans rfl
  have hcz2 : w.cell? ⟨g, 2, none⟩ = some (.int .i64 sz) := (blk_cell hR 2).trans rfl
  have hd2 : 0 < xs.length := by omega
  have hd3 : (m : Int) < sz := (by omega)
  have HSZ := Aside0.mk hsz
  have HR := Aside0.mk hR
  have HX := Aside0.mk hX
  have HC := Aside0.mk hcell
  have HCU := Aside0.mk hcur
  have HA := Aside0.mk hA
  clear hR hX hcell hcur hA hm2 hn hsz
  obtain ⟨D, hD⟩ : ∃ D, D = nums .u8 (xs.take m) := ⟨_, rfl⟩
  have hDl : D.length = m := by rw [hD, nums_length, List.length_take]; omega
  have hcl : D.length = Nat.min xs.length m := by rw [hDl]; exact (Nat.min_eq_right hm).symm
  have hsrc : ∀ (W : World), Mods (· = g) w W → ∀ j v, D[j]? = some v → W.cell? (ad.add j) = some v := fun W hM j v h => by
    rw [hD] at h
    obtain ⟨h1, rfl⟩ := nums_get h
    have hlt : j < m := by rw [List.length_take] at h1; omega
    refine hM.cell ?_ (by rw [add_block, HA.out]; exact hdb)
    rw [HC.out j (by omega)]
    unfold rd; rw [Int.toNat_natCast, List.getD_eq_getElem?_getD, List.getD_eq_getElem?_getD, List.getElem?_take_of_lt hlt]
  have hf : off + D.length ≤ cur.toArray.size := by rw [hDl, List.size_toArray]; omega
  have ho : ∀ v ∈ D, v.oneCell' = true := by rw [hD]; exact nums_one _ _
  have HCL := Aside0.mk hcl
  have HSR := Aside0.mk hsrc
  have HF := Aside0.mk hf
  have HO := Aside0.mk ho
  have HD := Aside0.mk hD
  have HDL := Aside0.mk hDl
  clear hcl hsrc hf ho hD hDl
  have hmm : ((m : Int) == (m : Int)) = true := beq_self_eq_true _
  by_cases hb : bf = 0
  · subst hb
    go_enter Tryz.func42, Tryz.ntmps42
    go_wp2_with fail
    refine (fill_more _ g (some ad) xs.length cx 0 sz HR.out (by omega) (by omega) (by exact HX.out.2.1)).mono ?_
    rintro e w1 ⟨rfl, hr, hm1⟩
    have HR1 := Aside0.mk hr
    have HM1 := Aside0.mk hm1
    have HCU1 := Aside0.mk (hm1.blk HCU.out hgg)
    have hcy0 : w1.cell? ⟨g, 0, none⟩ = some (.slice (some ad) xs.length cx) := (blk_cell hr 0).trans rfl
    clear hr hm1 hcz0 hcz1 hcz2
    go_wp2_with (with_reducible refine wpList_copy_own rfl (.tmp 36) (.tmp 40) 41 41 rfl 5 Tryz.underlying41 size5 gb off m c ad xs.length cx rfl rfl cur.toArray 5 HCU1.out D HCL.out (HSR.out w1 HM1.out) HF.out HO.out ?_)
    rw [HDL.out, HD.out]
    refine (take_calls _ g (some ad) xs.length cx (min sz xs.length) sz m ((setRow_other w1 gb g _ (Ne.symm hgg)).trans HR1.out) (by omega) (by omega) hc (by have := HSZ.out; omega) (by have := HSZ.out; omega) (by exact HX.out.2.1)).mono ?_
    intro e w2 ht
    rw [HSZ.out] at ht
    obtain ⟨rfl, hu⟩ := full_end hdb hgg hgd hm hc (by have := HSZ.out; omega) (by have := HSZ.out; omega) (by have := HSZ.out; omega) HX.out HA.out HM1.out HCU1.out ht
    have HT := Aside0.mk hu
    clear ht hu
    go_wp2
    go_ret2
    exact ⟨rfl, HT.out⟩
  · have hbb : (bf == 0) = false := beq_eq_false_iff_ne.mpr hb
    clear hb
    go_enter Tryz.func42, Tryz.ntmps42
    go_wp2_with (with_reducible refine wpList_copy_own rfl (.tmp 36) (.tmp 40) 41 41 rfl 5 Tryz.underlying41 size5 gb off m c ad xs.length cx rfl rfl cur.toArray 5 HCU.out D HCL.out (HSR.out w (Mods.refl _ _)) HF.out HO.out ?_)
    rw [HDL.out, HD.out]
    refine (take_calls _ g (some ad) xs.length cx bf sz m ((setRow_other w gb g _ (Ne.symm hgg)).trans HR.out) (by omega) (by omega) hc hb0 (by have := HSZ.out; omega) (by exact HX.out.2.1)).mono ?_
    intro e w2 ht
    rw [HSZ.out] at ht
    obtain ⟨rfl, hu⟩ := full_end hdb hgg hgd hm hc hb0 (by have := HSZ.out; omega) hb2 HX.out HA.out (Mods.refl _ _) HCU.out ht
    have HT := Aside0.mk hu
    clear ht hu
    go_wp2
    go_ret2
    exact ⟨rfl, HT.out⟩
end

section
open Go.RowKit Go.Proofs.YtmdlmjjggjemdaaGreatDoorW.PrintWords Go.Proofs.YtmdlmjjggjemdaaGreatDoorW.PrintMore Go.Proofs.YtmdlmjjggjemdaaGreatDoorW.PrintLast Go.Proofs.YtmdlmjjggjemdaaGreatDoor.PFnRespRaw
attribute [local go_sem] max2_int min2_int max_two min_two max_three min_three max_four min_four
set_option linter.unusedVariables false
set_option linter.unusedSimpArgs false

set_option maxHeartbeats 4000000 in
set_option maxRecDepth 100000 in
theorem sDiscard_calls (w : World) (g db : Nat) (m : Int) (xs : List Int) (hdb : db ≠ g) (hS : Src w g db xs) (hm0 : 0 ≤ m) (hm : m ≤ xs.length) :
    Calls Tryz.prog 47 #[.pointer (some ⟨g, 0, none⟩), .int .i64 m] w fun e w' => e = .returned (.tuple #[.int .i64 m, .nilIface]) ∧ Src w' g db (xs.drop m.toNat) ∧ Mods (· = g) w w' := by
  obtain ⟨A, cx, bf, hR, hc, hb0, hb1, hb2, hX, hA⟩ := hS
  have hn : xs.length ≤ 9223372036854775807 := hX.2.1
  have hcz0 : w.cell? ⟨g, 0, none⟩ = some (.slice A xs.length cx) := (blk_cell hR 0).trans rfl
  have HR := Aside0.mk hR
  have HX := Aside0.mk hX
  have HA := Aside0.mk hA
  clear hR hX hA
  have hd : decide ((xs.length : Int) < m) = false := decide_eq_false (by omega)
  go_enter Tryz.func47, Tryz.ntmps47
  go_wp2_with fail
  refine (take_calls _ g A xs.length cx bf 32768 m HR.out hm0 hm hc hb0 (by omega) hn).mono ?_
  intro e w2 ht
  obtain ⟨A2, c2, e2, r2, r3, r4, r5, r6⟩ := took_of_take hdb (by omega) hc hb0 hb1 hb2 HX.out HA.out (Mods.refl _ _) ht
  obtain ⟨rfl, _⟩ := ht
  have HT := Aside0.mk r5
  have HM := Aside0.mk r6
  clear e2 r2 r3 r4 r5 r6
  go_wp2
  go_ret2
  exact ⟨rfl, HT.out, HM.out⟩

/-- A Buffer at block b that holds the bytes xs in a row of the call's own, from block B on. -/
def Buf (w : World) (b B : Nat) (xs : List Int) : Prop := ∃ v, w.heap[b]? = some (.cells #[v] 49 (0, 0)) ∧ w.ownsRow B 5 1 v xs.length (nums .u8 xs)

set_option maxHeartbeats 4000000 in
set_option maxRecDepth 100000 in
theorem write_calls (w : World) (b B : Nat) (xs ys : List Int) (A : Option Addr) (m c : Nat) (hb : b < B) (hB : B ≤ w.heap.size) (hW : Buf w b B xs) (hR : ReadsInt w .u8 A m ys) (hl : xs.length + m ≤ 140737488355328) :
    Calls Tryz.prog 154 #[.pointer (some ⟨b, 0, none⟩), .slice A m c] w fun e w' => e = .returned (.tuple #[.int .i64 m, .nilIface]) ∧ Buf w' b B (xs ++ ys) ∧ Mods (fun k => k = b ∨ B ≤ k) w w' := by
  obtain ⟨v, hv, ho⟩ := hW
  have hcz0 : w.cell? ⟨b, 0, none⟩ = some v := (blk_cell hv 0).trans rfl
  have hfz0 := blk_frozen hv 0
  obtain ⟨A0, c0, rfl⟩ := own_slice ho
  have HV := Aside0.mk hv
  have HO := Aside0.mk ho
  have HR := Aside0.mk hR
  clear hv ho hR
  go_enter Tryz.func154, Tryz.ntmps154
  go_wp2_with (with_reducible refine print_append_row (w0 := w) B rfl (.tmp 10) (.tmp 11) 41 5 .u8 1 rfl Tryz.underlying41 info5 (by decide) (.slice A0 xs.length c0) xs ys A m c rfl rfl HO.out HR.out (Below.refl _ _) hB (by omega) ?_)
  intro v1 w1 hown hB1 hg hat
  obtain ⟨A1, c1, rfl⟩ := own_slice hown
  have hbo : some b ≠ (Value.slice A0 xs.length c0).ownBlock := fun e => by have := own_base HO.out b e.symm; omega
  have hv1 := blk_grown HV.out hg hbo
  have hfz1 := blk_frozen hv1 0
  have hcz1 : w1.cell? ⟨b, 0, none⟩ = some (.slice A0 xs.length c0) := (blk_cell hv1 0).trans rfl
  have HV1 := Aside0.mk hv1
  have HO1 := Aside0.mk hown
  have HG := Aside0.mk hg
  clear hown hB1 hg hat hbo hv1
  go_wp2
  go_ret2
  refine ⟨rfl, ⟨_, blk_set HV1.out 0 _, ?_⟩, ?_⟩
  · rw [List.length_append]; exact own_setCell (p := ⟨b, 0, none⟩) HO1.out (fun e => by have := own_base HO1.out b e.symm; omega) _
  · exact ((Mods.refl (fun k => k = b ∨ B ≤ k) w).grown HG.out (fun k e => .inl (.inr (own_base HO.out k e)))).setCell (.inl (.inl rfl)) _

theorem nilAhead_write (a : Addr) (w : World) : (nilAhead 305 47 (.pointer (some a)) "Write").run Tryz.prog w = .ok (some false) w := by kernel_rfl
theorem method_write (a : Addr) (w : World) : (method 305 47 (.pointer (some a)) "Write").run Tryz.prog w = .ok (154, .pointer (some a)) w := by kernel_rfl

/-- What is behind the taking of m bytes and their writing. -/
theorem wrote {w w2 : World} {g db b B m cx : Nat} {A : Option Addr} {bf : Int} {xs ys : List Int} (hdb : db ≠ g) (hbg : b ≠ g) (hgB : g < B)
    (hm : m ≤ ys.length) (hc : ys.length ≤ cx) (hb0 : 0 ≤ bf) (hb1 : bf ≤ 32768) (hb2 : bf ≤ ys.length) (hX : ReadsInt w .u8 A ys.length ys) (hA : ∀ ad, A = some ad → ad.block = db) (hW : Buf w b B xs)
    (h : ∃ A', (∀ (w : World) (k : IntKind) (xs : List Int), ReadsInt w k A ys.length xs → ReadsInt w k A' (ys.length - m) (xs.drop m)) ∧ SameBlk A A' ∧
      Rd w2 g A' (ys.length - m) (cx - m) (max 0 (bf - m)) 32768 ∧ Mods (· = g) w w2) :
    ReadsInt w2 .u8 A m (ys.take m) ∧ Src w2 g db (ys.drop m) ∧ Buf w2 b B xs ∧ Mods (· = g) w w2 := by
  obtain ⟨A2, c2, e2, r2, r3, r4, r5, r6⟩ := took_of_take hdb hm hc hb0 hb1 hb2 hX hA (Mods.refl _ _) ⟨rfl, h⟩
  injection e2 with e2
  injection e2 with e2 e3 e4
  subst e2
  have hl : (ys.take m).length = m := by rw [List.length_take]; omega
  rw [hl] at r3
  obtain ⟨v, h1, h2⟩ := hW
  exact ⟨r3, r5, ⟨v, r6.blk h1 hbg, own_move h2 (fun k hk => r6.block k (own_lt h2 k hk) (fun e => by have := own_base h2 k hk; omega))⟩, r6⟩

set_option maxHeartbeats 4000000 in
set_option maxRecDepth 100000 in
theorem copyN_calls (w : World) (g db b B : Nat) (m : Int) (xs ys : List Int) (hdb : db ≠ g) (hdb2 : db ≠ b) (hbg : b ≠ g) (hb : b < B) (hgB : g < B) (hdB : db < B) (hB : B ≤ w.heap.size) (hS : Src w g db ys) (hW : Buf w b B xs) (hm0 : 0 ≤ m) (hm : m ≤ ys.length) (hl : xs.length + m.toNat ≤ 140737488355328) :
    Calls Tryz.prog 44 #[.iface 47 (.pointer (some ⟨b, 0, none⟩)), .pointer (some ⟨g, 0, none⟩), .int .i64 m] w fun e w' => e = .returned (.tuple #[.int .i64 m, .nilIface]) ∧ Src w' g db (ys.drop m.toNat) ∧ Buf w' b B (xs ++ ys.take m.toNat) ∧ Mods (fun k => k = g ∨ k = b ∨ B ≤ k) w w' := by
  obtain ⟨A, cx, bf, hR, hc, hb0, hb1, hb2, hX, hA⟩ := hS
  have hn : ys.length ≤ 9223372036854775807 := hX.2.1
  have hcz0 : w.cell? ⟨g, 0, none⟩ = some (.slice A ys.length cx) := (blk_cell hR 0).trans rfl
  have HR := Aside0.mk hR
  have HX := Aside0.mk hX
  have HA := Aside0.mk hA
  have HW := Aside0.mk hW
  clear hR hX hA hW
  have hmf : ∀ (fn : Fn) (first cap : Array Value) (w : World), (Instr.makeFunc fn first cap).run Tryz.prog w = .ok (.func fn first cap) w := fun _ _ _ _ => rfl
  obtain ⟨k, rfl⟩ := Int.eq_ofNat_of_zero_le hm0
  have hmin : min (k : Int) ys.length = k := by omega
  go_enter Tryz.func44, Tryz.ntmps44
  go_wp2_with fail
  have hna := nilAhead_write
  have hme := method_write
  go_region_with (first | (go_at_call 66; refine (take_calls _ g A ys.length cx bf 32768 k (by exact HR.out) hm0 hm hc hb0 (by omega) hn).mono ?_; rintro e w2 ⟨rfl, ht⟩; have HQ := Aside0.mk (wrote (w := w.drew) (w2 := w2) (m := k) hdb hbg hgB (by omega) hc hb0 hb1 hb2 (by exact HX.out) HA.out (by exact HW.out) ht); clear ht) | (go_at_call 154; refine (write_calls _ b B xs (ys.take k) A k cx hb (Nat.le_trans hB HQ.out.2.2.2.size) (by exact HQ.out.2.2.1) (by exact HQ.out.1) (by omega)).mono ?_; rintro e w3 ⟨rfl, hv⟩; have HV := Aside0.mk hv; clear hv))
  all_goals
    go_wp2
    go_ret2
    refine ⟨rfl, ?_, HV.out.1, ?_⟩
    · obtain ⟨A3, c3, b3, s1, s2, s3, s4, s5, s6, s7⟩ := HQ.out.2.1
      exact ⟨A3, c3, b3, HV.out.2.blk s1 (by omega), s2, s3, s4, s5, HV.out.2.reads s6 (fun a e => by rw [s7 a e]; rintro (h | h) <;> omega), s7⟩
    · exact ((Mods.refl (fun k => k = g ∨ k = b ∨ B ≤ k) w).drew.trans HQ.out.2.2.2 (fun _ _ h => .inl h)).trans HV.out.2 (fun _ _ h => .inr h)
end
end Go.Proofs.YtmdlmjjggjemdaaGreatDoor
