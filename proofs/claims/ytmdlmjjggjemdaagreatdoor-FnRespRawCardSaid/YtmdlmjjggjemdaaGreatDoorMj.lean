/- What the reference writes: kinds 33. What the reference writes: kinds 36. What the reference writes: kinds 61. -/
import Derived.Test.YtmdlmjjggjemdaaGreatDoorMg
namespace Go.Proofs.YtmdlmjjggjemdaaGreatDoor
section
open Go.RowKit Go.Proofs.YtmdlmjjggjemdaaGreatDoorW.PrintWords Go.Proofs.YtmdlmjjggjemdaaGreatDoorW.PrintMore Go.Proofs.YtmdlmjjggjemdaaGreatDoorW.PrintLast Go.Proofs.YtmdlmjjggjemdaaGreatDoor.PFnRespRaw
attribute [local go_sem] max2_int min2_int max_two min_two max_three min_three max_four min_four
set_option linter.unusedVariables false
set_option linter.unusedSimpArgs false

set_option maxHeartbeats 8000000 in
set_option maxRecDepth 100000 in
theorem write_33 (i f : Int) (S : ByteArray) (kids : List S25)  : WriteOK ⟨33, i, f, S, kids⟩ := by
  intro w0 w v p t n deep hx hB h8 hp hL hn0 hn1 hd0 hd1 hS hF hU hT
  obtain ⟨A, c, rfl, hc, hC⟩ := hx
  have HC := Aside0.mk hC
  have HB := Aside0.mk hB
  have HL := Aside0.mk hL
  have HS := Aside0.mk hS
  have HF := Aside0.mk hF
  have HU := Aside0.mk hU
  have HT := Aside0.mk hT
  have hps : p < w.heap.size := blk_lt hL
  have HLw := HL
  clear hC hB hL hS hF hU hT
  go_enter Tryz.func25, Tryz.ntmps25
  go_upto_region 1 with fail
  obtain ⟨o, ho⟩ : ∃ o, o = Obj.cells #[.int .i64 33, .int .i64 i, .int .u64 f, .string S, .slice A kids.length c] 25 := ⟨_, rfl⟩
  obtain ⟨W1, hW1⟩ : ∃ W1, W1 = w.alloc o := ⟨_, rfl⟩
  obtain ⟨g, hg⟩ : ∃ g, g = w.heap.size := ⟨_, rfl⟩
  have hM1 : Mods (fun _ => False) w W1 := by rw [hW1]; exact (Mods.refl _ w).alloc _
  have hbk : W1.heap[g]? = some o := by rw [hW1, hg]; exact heap_alloc_new _ _
  rw [← ho, ← hW1, ← hg]
  have hgp : g ≠ p := by omega
  have hL1 : Left1 W1 p t n := hM1.blk HL.out id
  subst ho
  have hcz : W1.cell? ⟨p, 0, none⟩ = some (.int .i64 n) := (blk_cell hL1 0).trans rfl
  have hfz : W1.frozen? ⟨p, 0, none⟩ = false := blk_frozen hL1 0
  have HK := Aside0.mk hbk
  have HM := Aside0.mk hM1
  have HL1 := Aside0.mk hL1
  have HG := Aside0.mk hg
  clear hW1 hg hM1 hbk hL1
  go_upto_region 2 with fail
  obtain ⟨W2, hW2⟩ : ∃ W2, W2 = W1.setCell ⟨p, 0, none⟩ (.int .i64 (n - 1)) := ⟨_, rfl⟩
  have hL2 : Left1 W2 p t (n - 1) := by rw [hW2]; exact blk_set HL1.out 0 _
  have hM2 : Mods (· = p) w W2 := by rw [hW2]; exact (HM.out.mono (S' := (· = p)) (fun _ _ h => h.elim)).setCell (p := ⟨p, 0, none⟩) (.inl rfl) _
  have hbk2 : W2.heap[g]? = some (.cells #[.int .i64 33, .int .i64 i, .int .u64 f, .string S, .slice A kids.length c] 25 (0, 0)) := by
    rw [hW2]; exact ((Mods.refl (· = p) W1).setCell (p := ⟨p, 0, none⟩) (.inl rfl) _).blk HK.out hgp
  rw [← hW2]
  have hcz2 : W2.cell? ⟨p, 0, none⟩ = some (.int .i64 (n - 1)) := (blk_cell hL2 0).trans rfl
  have hk0 : W2.cell? ⟨g, 0, none⟩ = some (.int .i64 33) := (blk_cell hbk2 0).trans rfl
  have hk1 : W2.cell? ⟨g, 1, none⟩ = some (.int .i64 i) := (blk_cell hbk2 1).trans rfl
  have hk2 : W2.cell? ⟨g, 2, none⟩ = some (.int .u64 f) := (blk_cell hbk2 2).trans rfl
  have hk3 : W2.cell? ⟨g, 3, none⟩ = some (.string S) := (blk_cell hbk2 3).trans rfl
  have hk4 : W2.cell? ⟨g, 4, none⟩ = some (.slice A kids.length c) := (blk_cell hbk2 4).trans rfl
  have HL2 := Aside0.mk hL2
  have HM2 := Aside0.mk hM2
  have HK2 := Aside0.mk hbk2
  clear hL2 hM2 hbk2 hW2 hcz hfz HK HL1
  go_cut [33] from 21 to 32 (fun s33 wx => ∃ b : Bool, s33 = .bool b ∧ (b = false → 0 ≤ n - 1 ∧ deep ≤ 20) ∧ Aside0 (Below W2.heap.size W2 wx))
  case first =>
    by_cases hdp : (20 : Int) < deep
    · go_wp2
      go_meet
      exact ⟨true, rfl, fun h => (by cases h), ⟨Below.refl _ _⟩⟩
    · have hdp' : decide ((20 : Int) < deep) = false := decide_eq_false hdp
      by_cases hneg : n - 1 < 0
      · go_wp2
        go_meet
        exact ⟨true, rfl, fun h => (by cases h), ⟨Below.refl _ _⟩⟩
      · have hneg' : decide (n - 1 < 0) = false := decide_eq_false hneg
        go_wp2_with fail
        refine (bare_calls W2 33 i f S A kids.length c).mono ?_
        rintro e w3 ⟨b, rfl, hb⟩
        have HB3 := Aside0.mk hb
        clear hb
        go_wp2
        go_meet
        exact ⟨_, rfl, fun _ => ⟨by omega, by omega⟩, HB3⟩
  case rest =>
  obtain ⟨b, rfl, hb, HB3⟩ := hcut
  by_cases hbt : b = true
  · subst hbt
    go_wp2
    go_ret2
    exact ⟨_, false, n - 1, rfl, (Mods.of_below HB3.out).blk HL2.out id, HM2.out.then_below HB3.out, fun h => by cases h⟩
  obtain rfl : b = false := by simpa using hbt
  clear hbt
  obtain ⟨hnn, hdd⟩ := hb rfl
  clear hb hk0 hk1 hk2 hk3 hk4 hcz2
  have hk0 : wc.cell? ⟨g, 0, none⟩ = some (.int .i64 33) := (blk_cell ((Mods.of_below HB3.out).blk HK2.out id) 0).trans rfl
  have hk1 : wc.cell? ⟨g, 1, none⟩ = some (.int .i64 i) := (blk_cell ((Mods.of_below HB3.out).blk HK2.out id) 1).trans rfl
  have hk2 : wc.cell? ⟨g, 2, none⟩ = some (.int .u64 f) := (blk_cell ((Mods.of_below HB3.out).blk HK2.out id) 2).trans rfl
  have hk3 : wc.cell? ⟨g, 3, none⟩ = some (.string S) := (blk_cell ((Mods.of_below HB3.out).blk HK2.out id) 3).trans rfl
  have hk4 : wc.cell? ⟨g, 4, none⟩ = some (.slice A kids.length c) := (blk_cell ((Mods.of_below HB3.out).blk HK2.out id) 4).trans rfl
  have HL3 := Aside0.mk (show Left1 wc p t (n - 1) from (Mods.of_below HB3.out).blk HL2.out id)
  have HM3 := Aside0.mk (HM2.out.then_below HB3.out)
  have HK3 := Aside0.mk ((Mods.of_below HB3.out).blk HK2.out id)
  clear HL2 HM2 HK2 HL HM HB3
  have hcv := str_run (c := 1) (bytes_reads wc [33] #[.int .u8 33] rfl 1 rfl (by omega))
  go_upto_region 5 with fail
  obtain ⟨W4, hW4⟩ : ∃ W4, W4 = wc.alloc (.cells #[.int .u8 33] 5) := ⟨_, rfl⟩
  have hM4 : Mods (fun _ => False) wc W4 := by rw [hW4]; exact (Mods.refl _ _).alloc _
  obtain ⟨hd, hhd⟩ : ∃ hd, hd = strOfNums [33] := ⟨_, rfl⟩
  rw [← hW4, ← hhd]
  have HHD := Aside0.mk hhd
  have hds : hd.size = 1 := by rw [hhd, strOfNums_size]; rfl
  clear hcv hW4 hhd hk0 hk1 hk2 hk3 hk4
  have HK4 := Aside0.mk (hM4.blk HK3.out id)
  have hk0 : W4.cell? ⟨g, 0, none⟩ = some (.int .i64 33) := (blk_cell HK4.out 0).trans rfl
  have hk1 : W4.cell? ⟨g, 1, none⟩ = some (.int .i64 i) := (blk_cell HK4.out 1).trans rfl
  have hk2 : W4.cell? ⟨g, 2, none⟩ = some (.int .u64 f) := (blk_cell HK4.out 2).trans rfl
  have hk3 : W4.cell? ⟨g, 3, none⟩ = some (.string S) := (blk_cell HK4.out 3).trans rfl
  have hk4 : W4.cell? ⟨g, 4, none⟩ = some (.slice A kids.length c) := (blk_cell HK4.out 4).trans rfl
  have HL4 := Aside0.mk (show Left1 W4 p t (n - 1) from hM4.blk HL3.out id)
  have HM4 := Aside0.mk (HM3.out.then_below hM4.below)
  have hBW : Mods (· = p) w0 W4 := ((Mods.of_below HB.out).mono (S' := (· = p)) (fun _ _ h => h.elim)).trans HM4.out (fun _ _ h => h)
  have hB4 : Below w0.heap.size w0 W4 := ⟨hBW.os, hBW.tape, hBW.output, hBW.size, fun q hq => hBW.block q hq (by omega)⟩
  have HB4 := Aside0.mk hB4
  have HU4 := Aside0.mk (HU.out.stays hB4)
  have HT4 := Aside0.mk (HT.out.stays hB4)
  have h84 : 8 < W4.heap.size := Nat.lt_of_lt_of_le h8 hB4.size
  clear HL3 HM3 HK3 hM4 hBW hB4
  obtain ⟨hS1, hS2, hS3⟩ := small_here HS.out
  obtain ⟨hF0, hF1, hF2, hF3, hF4⟩ := fit_here HF.out
  have HUd := Aside0.mk (show TabU W4.drew from HU4.out)
  go_upto_region 16 with fail
  go_region_with (go_at_call 37; refine (itoa_calls S.size (by omega) _ HUd.out).mono ?_; rintro e w5 ⟨tx, htx, rfl, hb5⟩; have HTX := Aside0.mk htx; have HB5 := Aside0.mk hb5; have hk5 : w5.cell? ⟨g, 3, none⟩ = some (.string S) := (Mods.of_below hb5).cell (show W4.drew.cell? ⟨g, 3, none⟩ = _ from hk3) id; have htxs : tx.size ≤ 1000 := (by have h1 := bytesOf_length tx; rw [htx] at h1; have h2 := decI_le S.size (by omega); omega); clear htx hb5)
  all_goals
    go_wp2
    go_ret2
    refine ⟨_, _, _, rfl, (Mods.of_below HB5.out).blk (show Left1 W4.drew p t (n - 1) from HL4.out) id, HM4.out.drew.then_below HB5.out, fun h => ⟨by omega, n, HLw.out, by omega, by have e2 : (ByteArray.mk #[13, 10]).size = 2 := rfl; simp only [ByteArray.size_append, e2]; omega, fun _ => ?_⟩⟩
    rw [bytes_app, bytes_app, bytes_app, bytes_app, HHD.out, bytes_str (xs := [33]) (by decide), HTX.out, ← bytesOf_length S]
    have ec : bytesOf ⟨#[13, 10]⟩ = [13, 10] := rfl
    rw [ec]
    have := Rep.bulk 33 (bytesOf S) (by decide) (by rw [bytesOf_length]; omega)
    simpa using this
end

section
open Go.RowKit Go.Proofs.YtmdlmjjggjemdaaGreatDoorW.PrintWords Go.Proofs.YtmdlmjjggjemdaaGreatDoorW.PrintMore Go.Proofs.YtmdlmjjggjemdaaGreatDoorW.PrintLast Go.Proofs.YtmdlmjjggjemdaaGreatDoor.PFnRespRaw
attribute [local go_sem] max2_int min2_int max_two min_two max_three min_three max_four min_four
set_option linter.unusedVariables false
set_option linter.unusedSimpArgs false

set_option maxHeartbeats 8000000 in
set_option maxRecDepth 100000 in
theorem write_36 (i f : Int) (S : ByteArray) (kids : List S25)  : WriteOK ⟨36, i, f, S, kids⟩ := by
  intro w0 w v p t n deep hx hB h8 hp hL hn0 hn1 hd0 hd1 hS hF hU hT
  obtain ⟨A, c, rfl, hc, hC⟩ := hx
  have HC := Aside0.mk hC
  have HB := Aside0.mk hB
  have HL := Aside0.mk hL
  have HS := Aside0.mk hS
  have HF := Aside0.mk hF
  have HU := Aside0.mk hU
  have HT := Aside0.mk hT
  have hps : p < w.heap.size := blk_lt hL
  have HLw := HL
  clear hC hB hL hS hF hU hT
  go_enter Tryz.func25, Tryz.ntmps25
  go_upto_region 1 with fail
  obtain ⟨o, ho⟩ : ∃ o, o = Obj.cells #[.int .i64 36, .int .i64 i, .int .u64 f, .string S, .slice A kids.length c] 25 := ⟨_, rfl⟩
  obtain ⟨W1, hW1⟩ : ∃ W1, W1 = w.alloc o := ⟨_, rfl⟩
  obtain ⟨g, hg⟩ : ∃ g, g = w.heap.size := ⟨_, rfl⟩
  have hM1 : Mods (fun _ => False) w W1 := by rw [hW1]; exact (Mods.refl _ w).alloc _
  have hbk : W1.heap[g]? = some o := by rw [hW1, hg]; exact heap_alloc_new _ _
  rw [← ho, ← hW1, ← hg]
  have hgp : g ≠ p := by omega
  have hL1 : Left1 W1 p t n := hM1.blk HL.out id
  subst ho
  have hcz : W1.cell? ⟨p, 0, none⟩ = some (.int .i64 n) := (blk_cell hL1 0).trans rfl
  have hfz : W1.frozen? ⟨p, 0, none⟩ = false := blk_frozen hL1 0
  have HK := Aside0.mk hbk
  have HM := Aside0.mk hM1
  have HL1 := Aside0.mk hL1
  have HG := Aside0.mk hg
  clear hW1 hg hM1 hbk hL1
  go_upto_region 2 with fail
  obtain ⟨W2, hW2⟩ : ∃ W2, W2 = W1.setCell ⟨p, 0, none⟩ (.int .i64 (n - 1)) := ⟨_, rfl⟩
  have hL2 : Left1 W2 p t (n - 1) := by rw [hW2]; exact blk_set HL1.out 0 _
  have hM2 : Mods (· = p) w W2 := by rw [hW2]; exact (HM.out.mono (S' := (· = p)) (fun _ _ h => h.elim)).setCell (p := ⟨p, 0, none⟩) (.inl rfl) _
  have hbk2 : W2.heap[g]? = some (.cells #[.int .i64 36, .int .i64 i, .int .u64 f, .string S, .slice A kids.length c] 25 (0, 0)) := by
    rw [hW2]; exact ((Mods.refl (· = p) W1).setCell (p := ⟨p, 0, none⟩) (.inl rfl) _).blk HK.out hgp
  rw [← hW2]
  have hcz2 : W2.cell? ⟨p, 0, none⟩ = some (.int .i64 (n - 1)) := (blk_cell hL2 0).trans rfl
  have hk0 : W2.cell? ⟨g, 0, none⟩ = some (.int .i64 36) := (blk_cell hbk2 0).trans rfl
  have hk1 : W2.cell? ⟨g, 1, none⟩ = some (.int .i64 i) := (blk_cell hbk2 1).trans rfl
  have hk2 : W2.cell? ⟨g, 2, none⟩ = some (.int .u64 f) := (blk_cell hbk2 2).trans rfl
  have hk3 : W2.cell? ⟨g, 3, none⟩ = some (.string S) := (blk_cell hbk2 3).trans rfl
  have hk4 : W2.cell? ⟨g, 4, none⟩ = some (.slice A kids.length c) := (blk_cell hbk2 4).trans rfl
  have HL2 := Aside0.mk hL2
  have HM2 := Aside0.mk hM2
  have HK2 := Aside0.mk hbk2
  clear hL2 hM2 hbk2 hW2 hcz hfz HK HL1
  go_cut [33] from 21 to 32 (fun s33 wx => ∃ b : Bool, s33 = .bool b ∧ (b = false → 0 ≤ n - 1 ∧ deep ≤ 20) ∧ Aside0 (Below W2.heap.size W2 wx))
  case first =>
    by_cases hdp : (20 : Int) < deep
    · go_wp2
      go_meet
      exact ⟨true, rfl, fun h => (by cases h), ⟨Below.refl _ _⟩⟩
    · have hdp' : decide ((20 : Int) < deep) = false := decide_eq_false hdp
      by_cases hneg : n - 1 < 0
      · go_wp2
        go_meet
        exact ⟨true, rfl, fun h => (by cases h), ⟨Below.refl _ _⟩⟩
      · have hneg' : decide (n - 1 < 0) = false := decide_eq_false hneg
        go_wp2_with fail
        refine (bare_calls W2 36 i f S A kids.length c).mono ?_
        rintro e w3 ⟨b, rfl, hb⟩
        have HB3 := Aside0.mk hb
        clear hb
        go_wp2
        go_meet
        exact ⟨_, rfl, fun _ => ⟨by omega, by omega⟩, HB3⟩
  case rest =>
  obtain ⟨b, rfl, hb, HB3⟩ := hcut
  by_cases hbt : b = true
  · subst hbt
    go_wp2
    go_ret2
    exact ⟨_, false, n - 1, rfl, (Mods.of_below HB3.out).blk HL2.out id, HM2.out.then_below HB3.out, fun h => by cases h⟩
  obtain rfl : b = false := by simpa using hbt
  clear hbt
  obtain ⟨hnn, hdd⟩ := hb rfl
  clear hb hk0 hk1 hk2 hk3 hk4 hcz2
  have hk0 : wc.cell? ⟨g, 0, none⟩ = some (.int .i64 36) := (blk_cell ((Mods.of_below HB3.out).blk HK2.out id) 0).trans rfl
  have hk1 : wc.cell? ⟨g, 1, none⟩ = some (.int .i64 i) := (blk_cell ((Mods.of_below HB3.out).blk HK2.out id) 1).trans rfl
  have hk2 : wc.cell? ⟨g, 2, none⟩ = some (.int .u64 f) := (blk_cell ((Mods.of_below HB3.out).blk HK2.out id) 2).trans rfl
  have hk3 : wc.cell? ⟨g, 3, none⟩ = some (.string S) := (blk_cell ((Mods.of_below HB3.out).blk HK2.out id) 3).trans rfl
  have hk4 : wc.cell? ⟨g, 4, none⟩ = some (.slice A kids.length c) := (blk_cell ((Mods.of_below HB3.out).blk HK2.out id) 4).trans rfl
  have HL3 := Aside0.mk (show Left1 wc p t (n - 1) from (Mods.of_below HB3.out).blk HL2.out id)
  have HM3 := Aside0.mk (HM2.out.then_below HB3.out)
  have HK3 := Aside0.mk ((Mods.of_below HB3.out).blk HK2.out id)
  clear HL2 HM2 HK2 HL HM HB3
  have hcv := str_run (c := 1) (bytes_reads wc [36] #[.int .u8 36] rfl 1 rfl (by omega))
  go_upto_region 5 with fail
  obtain ⟨W4, hW4⟩ : ∃ W4, W4 = wc.alloc (.cells #[.int .u8 36] 5) := ⟨_, rfl⟩
  have hM4 : Mods (fun _ => False) wc W4 := by rw [hW4]; exact (Mods.refl _ _).alloc _
  obtain ⟨hd, hhd⟩ : ∃ hd, hd = strOfNums [36] := ⟨_, rfl⟩
  rw [← hW4, ← hhd]
  have HHD := Aside0.mk hhd
  have hds : hd.size = 1 := by rw [hhd, strOfNums_size]; rfl
  clear hcv hW4 hhd hk0 hk1 hk2 hk3 hk4
  have HK4 := Aside0.mk (hM4.blk HK3.out id)
  have hk0 : W4.cell? ⟨g, 0, none⟩ = some (.int .i64 36) := (blk_cell HK4.out 0).trans rfl
  have hk1 : W4.cell? ⟨g, 1, none⟩ = some (.int .i64 i) := (blk_cell HK4.out 1).trans rfl
  have hk2 : W4.cell? ⟨g, 2, none⟩ = some (.int .u64 f) := (blk_cell HK4.out 2).trans rfl
  have hk3 : W4.cell? ⟨g, 3, none⟩ = some (.string S) := (blk_cell HK4.out 3).trans rfl
  have hk4 : W4.cell? ⟨g, 4, none⟩ = some (.slice A kids.length c) := (blk_cell HK4.out 4).trans rfl
  have HL4 := Aside0.mk (show Left1 W4 p t (n - 1) from hM4.blk HL3.out id)
  have HM4 := Aside0.mk (HM3.out.then_below hM4.below)
  have hBW : Mods (· = p) w0 W4 := ((Mods.of_below HB.out).mono (S' := (· = p)) (fun _ _ h => h.elim)).trans HM4.out (fun _ _ h => h)
  have hB4 : Below w0.heap.size w0 W4 := ⟨hBW.os, hBW.tape, hBW.output, hBW.size, fun q hq => hBW.block q hq (by omega)⟩
  have HB4 := Aside0.mk hB4
  have HU4 := Aside0.mk (HU.out.stays hB4)
  have HT4 := Aside0.mk (HT.out.stays hB4)
  have h84 : 8 < W4.heap.size := Nat.lt_of_lt_of_le h8 hB4.size
  clear HL3 HM3 HK3 hM4 hBW hB4
  obtain ⟨hS1, hS2, hS3⟩ := small_here HS.out
  obtain ⟨hF0, hF1, hF2, hF3, hF4⟩ := fit_here HF.out
  have HUd := Aside0.mk (show TabU W4.drew from HU4.out)
  by_cases hi1 : i = -1
  · subst hi1
    go_wp2
    go_ret2
    exact ⟨_, _, _, rfl, HL4.out, HM4.out, fun h => ⟨by omega, n, HLw.out, by omega, by show ((5 : Nat) : Int) ≤ _; omega, fun _ => Rep.none 36 (.inl rfl)⟩⟩
  have hi1' : (i == -1) = false := beq_eq_false_iff_ne.mpr hi1
  go_upto_region 16 with fail
  go_region_with (go_at_call 37; refine (itoa_calls S.size (by omega) _ HUd.out).mono ?_; rintro e w5 ⟨tx, htx, rfl, hb5⟩; have HTX := Aside0.mk htx; have HB5 := Aside0.mk hb5; have hk5 : w5.cell? ⟨g, 3, none⟩ = some (.string S) := (Mods.of_below hb5).cell (show W4.drew.cell? ⟨g, 3, none⟩ = _ from hk3) id; have htxs : tx.size ≤ 1000 := (by have h1 := bytesOf_length tx; rw [htx] at h1; have h2 := decI_le S.size (by omega); omega); clear htx hb5)
  all_goals
    go_wp2
    go_ret2
    refine ⟨_, _, _, rfl, (Mods.of_below HB5.out).blk (show Left1 W4.drew p t (n - 1) from HL4.out) id, HM4.out.drew.then_below HB5.out, fun h => ⟨by omega, n, HLw.out, by omega, by have e2 : (ByteArray.mk #[13, 10]).size = 2 := rfl; simp only [ByteArray.size_append, e2]; omega, fun _ => ?_⟩⟩
    rw [bytes_app, bytes_app, bytes_app, bytes_app, HHD.out, bytes_str (xs := [36]) (by decide), HTX.out, ← bytesOf_length S]
    have ec : bytesOf ⟨#[13, 10]⟩ = [13, 10] := rfl
    rw [ec]
    have := Rep.bulk 36 (bytesOf S) (by decide) (by rw [bytesOf_length]; omega)
    simpa using this
end

section
open Go.RowKit Go.Proofs.YtmdlmjjggjemdaaGreatDoorW.PrintWords Go.Proofs.YtmdlmjjggjemdaaGreatDoorW.PrintMore Go.Proofs.YtmdlmjjggjemdaaGreatDoorW.PrintLast Go.Proofs.YtmdlmjjggjemdaaGreatDoor.PFnRespRaw
attribute [local go_sem] max2_int min2_int max_two min_two max_three min_three max_four min_four
set_option linter.unusedVariables false
set_option linter.unusedSimpArgs false

set_option maxHeartbeats 8000000 in
set_option maxRecDepth 100000 in
theorem write_61 (i f : Int) (S : ByteArray) (kids : List S25)  : WriteOK ⟨61, i, f, S, kids⟩ := by
  intro w0 w v p t n deep hx hB h8 hp hL hn0 hn1 hd0 hd1 hS hF hU hT
  obtain ⟨A, c, rfl, hc, hC⟩ := hx
  have HC := Aside0.mk hC
  have HB := Aside0.mk hB
  have HL := Aside0.mk hL
  have HS := Aside0.mk hS
  have HF := Aside0.mk hF
  have HU := Aside0.mk hU
  have HT := Aside0.mk hT
  have hps : p < w.heap.size := blk_lt hL
  have HLw := HL
  clear hC hB hL hS hF hU hT
  go_enter Tryz.func25, Tryz.ntmps25
  go_upto_region 1 with fail
  obtain ⟨o, ho⟩ : ∃ o, o = Obj.cells #[.int .i64 61, .int .i64 i, .int .u64 f, .string S, .slice A kids.length c] 25 := ⟨_, rfl⟩
  obtain ⟨W1, hW1⟩ : ∃ W1, W1 = w.alloc o := ⟨_, rfl⟩
  obtain ⟨g, hg⟩ : ∃ g, g = w.heap.size := ⟨_, rfl⟩
  have hM1 : Mods (fun _ => False) w W1 := by rw [hW1]; exact (Mods.refl _ w).alloc _
  have hbk : W1.heap[g]? = some o := by rw [hW1, hg]; exact heap_alloc_new _ _
  rw [← ho, ← hW1, ← hg]
  have hgp : g ≠ p := by omega
  have hL1 : Left1 W1 p t n := hM1.blk HL.out id
  subst ho
  have hcz : W1.cell? ⟨p, 0, none⟩ = some (.int .i64 n) := (blk_cell hL1 0).trans rfl
  have hfz : W1.frozen? ⟨p, 0, none⟩ = false := blk_frozen hL1 0
  have HK := Aside0.mk hbk
  have HM := Aside0.mk hM1
  have HL1 := Aside0.mk hL1
  have HG := Aside0.mk hg
  clear hW1 hg hM1 hbk hL1
  go_upto_region 2 with fail
  obtain ⟨W2, hW2⟩ : ∃ W2, W2 = W1.setCell ⟨p, 0, none⟩ (.int .i64 (n - 1)) := ⟨_, rfl⟩
  have hL2 : Left1 W2 p t (n - 1) := by rw [hW2]; exact blk_set HL1.out 0 _
  have hM2 : Mods (· = p) w W2 := by rw [hW2]; exact (HM.out.mono (S' := (· = p)) (fun _ _ h => h.elim)).setCell (p := ⟨p, 0, none⟩) (.inl rfl) _
  have hbk2 : W2.heap[g]? = some (.cells #[.int .i64 61, .int .i64 i, .int .u64 f, .string S, .slice A kids.length c] 25 (0, 0)) := by
    rw [hW2]; exact ((Mods.refl (· = p) W1).setCell (p := ⟨p, 0, none⟩) (.inl rfl) _).blk HK.out hgp
  rw [← hW2]
  have hcz2 : W2.cell? ⟨p, 0, none⟩ = some (.int .i64 (n - 1)) := (blk_cell hL2 0).trans rfl
  have hk0 : W2.cell? ⟨g, 0, none⟩ = some (.int .i64 61) := (blk_cell hbk2 0).trans rfl
  have hk1 : W2.cell? ⟨g, 1, none⟩ = some (.int .i64 i) := (blk_cell hbk2 1).trans rfl
  have hk2 : W2.cell? ⟨g, 2, none⟩ = some (.int .u64 f) := (blk_cell hbk2 2).trans rfl
  have hk3 : W2.cell? ⟨g, 3, none⟩ = some (.string S) := (blk_cell hbk2 3).trans rfl
  have hk4 : W2.cell? ⟨g, 4, none⟩ = some (.slice A kids.length c) := (blk_cell hbk2 4).trans rfl
  have HL2 := Aside0.mk hL2
  have HM2 := Aside0.mk hM2
  have HK2 := Aside0.mk hbk2
  clear hL2 hM2 hbk2 hW2 hcz hfz HK HL1
  go_cut [33] from 21 to 32 (fun s33 wx => ∃ b : Bool, s33 = .bool b ∧ (b = false → 0 ≤ n - 1 ∧ deep ≤ 20) ∧ Aside0 (Below W2.heap.size W2 wx))
  case first =>
    by_cases hdp : (20 : Int) < deep
    · go_wp2
      go_meet
      exact ⟨true, rfl, fun h => (by cases h), ⟨Below.refl _ _⟩⟩
    · have hdp' : decide ((20 : Int) < deep) = false := decide_eq_false hdp
      by_cases hneg : n - 1 < 0
      · go_wp2
        go_meet
        exact ⟨true, rfl, fun h => (by cases h), ⟨Below.refl _ _⟩⟩
      · have hneg' : decide (n - 1 < 0) = false := decide_eq_false hneg
        go_wp2_with fail
        refine (bare_calls W2 61 i f S A kids.length c).mono ?_
        rintro e w3 ⟨b, rfl, hb⟩
        have HB3 := Aside0.mk hb
        clear hb
        go_wp2
        go_meet
        exact ⟨_, rfl, fun _ => ⟨by omega, by omega⟩, HB3⟩
  case rest =>
  obtain ⟨b, rfl, hb, HB3⟩ := hcut
  by_cases hbt : b = true
  · subst hbt
    go_wp2
    go_ret2
    exact ⟨_, false, n - 1, rfl, (Mods.of_below HB3.out).blk HL2.out id, HM2.out.then_below HB3.out, fun h => by cases h⟩
  obtain rfl : b = false := by simpa using hbt
  clear hbt
  obtain ⟨hnn, hdd⟩ := hb rfl
  clear hb hk0 hk1 hk2 hk3 hk4 hcz2
  have hk0 : wc.cell? ⟨g, 0, none⟩ = some (.int .i64 61) := (blk_cell ((Mods.of_below HB3.out).blk HK2.out id) 0).trans rfl
  have hk1 : wc.cell? ⟨g, 1, none⟩ = some (.int .i64 i) := (blk_cell ((Mods.of_below HB3.out).blk HK2.out id) 1).trans rfl
  have hk2 : wc.cell? ⟨g, 2, none⟩ = some (.int .u64 f) := (blk_cell ((Mods.of_below HB3.out).blk HK2.out id) 2).trans rfl
  have hk3 : wc.cell? ⟨g, 3, none⟩ = some (.string S) := (blk_cell ((Mods.of_below HB3.out).blk HK2.out id) 3).trans rfl
  have hk4 : wc.cell? ⟨g, 4, none⟩ = some (.slice A kids.length c) := (blk_cell ((Mods.of_below HB3.out).blk HK2.out id) 4).trans rfl
  have HL3 := Aside0.mk (show Left1 wc p t (n - 1) from (Mods.of_below HB3.out).blk HL2.out id)
  have HM3 := Aside0.mk (HM2.out.then_below HB3.out)
  have HK3 := Aside0.mk ((Mods.of_below HB3.out).blk HK2.out id)
  clear HL2 HM2 HK2 HL HM HB3
  have hcv := str_run (c := 1) (bytes_reads wc [61] #[.int .u8 61] rfl 1 rfl (by omega))
  go_upto_region 5 with fail
  obtain ⟨W4, hW4⟩ : ∃ W4, W4 = wc.alloc (.cells #[.int .u8 61] 5) := ⟨_, rfl⟩
  have hM4 : Mods (fun _ => False) wc W4 := by rw [hW4]; exact (Mods.refl _ _).alloc _
  obtain ⟨hd, hhd⟩ : ∃ hd, hd = strOfNums [61] := ⟨_, rfl⟩
  rw [← hW4, ← hhd]
  have HHD := Aside0.mk hhd
  have hds : hd.size = 1 := by rw [hhd, strOfNums_size]; rfl
  clear hcv hW4 hhd hk0 hk1 hk2 hk3 hk4
  have HK4 := Aside0.mk (hM4.blk HK3.out id)
  have hk0 : W4.cell? ⟨g, 0, none⟩ = some (.int .i64 61) := (blk_cell HK4.out 0).trans rfl
  have hk1 : W4.cell? ⟨g, 1, none⟩ = some (.int .i64 i) := (blk_cell HK4.out 1).trans rfl
  have hk2 : W4.cell? ⟨g, 2, none⟩ = some (.int .u64 f) := (blk_cell HK4.out 2).trans rfl
  have hk3 : W4.cell? ⟨g, 3, none⟩ = some (.string S) := (blk_cell HK4.out 3).trans rfl
  have hk4 : W4.cell? ⟨g, 4, none⟩ = some (.slice A kids.length c) := (blk_cell HK4.out 4).trans rfl
  have HL4 := Aside0.mk (show Left1 W4 p t (n - 1) from hM4.blk HL3.out id)
  have HM4 := Aside0.mk (HM3.out.then_below hM4.below)
  have hBW : Mods (· = p) w0 W4 := ((Mods.of_below HB.out).mono (S' := (· = p)) (fun _ _ h => h.elim)).trans HM4.out (fun _ _ h => h)
  have hB4 : Below w0.heap.size w0 W4 := ⟨hBW.os, hBW.tape, hBW.output, hBW.size, fun q hq => hBW.block q hq (by omega)⟩
  have HB4 := Aside0.mk hB4
  have HU4 := Aside0.mk (HU.out.stays hB4)
  have HT4 := Aside0.mk (HT.out.stays hB4)
  have h84 : 8 < W4.heap.size := Nat.lt_of_lt_of_le h8 hB4.size
  clear HL3 HM3 HK3 hM4 hBW hB4
  obtain ⟨hS1, hS2, hS3⟩ := small_here HS.out
  obtain ⟨hF0, hF1, hF2, hF3, hF4⟩ := fit_here HF.out
  have HUd := Aside0.mk (show TabU W4.drew from HU4.out)
  by_cases h4 : (4 : Int) ≤ (S.size : Int)
  · obtain ⟨c58, h58⟩ : ∃ c, (((S[3]'(by omega)).toNat : Int) == 58) = c := ⟨_, rfl⟩
    cases c58
    · go_upto_region 16 with fail
      go_region_with (go_at_call 37; refine (itoa_calls S.size (by omega) _ HUd.out).mono ?_; rintro e w5 ⟨tx, htx, rfl, hb5⟩; have HTX := Aside0.mk htx; have HB5 := Aside0.mk hb5; have hk5 : w5.cell? ⟨g, 3, none⟩ = some (.string S) := (Mods.of_below hb5).cell (show W4.drew.cell? ⟨g, 3, none⟩ = _ from hk3) id; have htxs : tx.size ≤ 1000 := (by have h1 := bytesOf_length tx; rw [htx] at h1; have h2 := decI_le S.size (by omega); omega); clear htx hb5)
      all_goals
        go_wp2
        go_ret2
        refine ⟨_, _, _, rfl, (Mods.of_below HB5.out).blk (show Left1 W4.drew p t (n - 1) from HL4.out) id, HM4.out.drew.then_below HB5.out, fun h => ⟨by omega, n, HLw.out, by omega, by have e2 : (ByteArray.mk #[13, 10]).size = 2 := rfl; simp only [ByteArray.size_append, e2]; omega, fun _ => ?_⟩⟩
        rw [bytes_app, bytes_app, bytes_app, bytes_app, HHD.out, bytes_str (xs := [61]) (by decide), HTX.out, ← bytesOf_length S]
        have ec : bytesOf ⟨#[13, 10]⟩ = [13, 10] := rfl
        rw [ec]
        have := Rep.bulk 61 (bytesOf S) (by decide) (by rw [bytesOf_length]; omega)
        simpa using this
    · go_upto_region 16 with (go_at_call 36; refine (inLine_calls _ (by simp <;> omega) _).mono ?_; rintro e w9 ⟨b9, rfl, hw9, hb⟩; obtain rfl := hw9.symm; clear hb)
      go_region_with (go_at_call 37; refine (itoa_calls S.size (by omega) _ HUd.out).mono ?_; rintro e w5 ⟨tx, htx, rfl, hb5⟩; have HTX := Aside0.mk htx; have HB5 := Aside0.mk hb5; have hk5 : w5.cell? ⟨g, 3, none⟩ = some (.string S) := (Mods.of_below hb5).cell (show W4.drew.cell? ⟨g, 3, none⟩ = _ from hk3) id; have htxs : tx.size ≤ 1000 := (by have h1 := bytesOf_length tx; rw [htx] at h1; have h2 := decI_le S.size (by omega); omega); clear htx hb5)
      all_goals
        go_wp2
        go_ret2
        refine ⟨_, _, _, rfl, (Mods.of_below HB5.out).blk (show Left1 W4.drew p t (n - 1) from HL4.out) id, HM4.out.drew.then_below HB5.out, fun h => ⟨by omega, n, HLw.out, by omega, by have e2 : (ByteArray.mk #[13, 10]).size = 2 := rfl; simp only [ByteArray.size_append, e2]; omega, fun _ => ?_⟩⟩
        rw [bytes_app, bytes_app, bytes_app, bytes_app, HHD.out, bytes_str (xs := [61]) (by decide), HTX.out, ← bytesOf_length S]
        have ec : bytesOf ⟨#[13, 10]⟩ = [13, 10] := rfl
        rw [ec]
        have := Rep.bulk 61 (bytesOf S) (by decide) (by rw [bytesOf_length]; omega)
        simpa using this
  · have h4' : decide ((4 : Int) ≤ (S.size : Int)) = false := decide_eq_false h4
    clear h4
    go_upto_region 16 with fail
    go_region_with (go_at_call 37; refine (itoa_calls S.size (by omega) _ HUd.out).mono ?_; rintro e w5 ⟨tx, htx, rfl, hb5⟩; have HTX := Aside0.mk htx; have HB5 := Aside0.mk hb5; have hk5 : w5.cell? ⟨g, 3, none⟩ = some (.string S) := (Mods.of_below hb5).cell (show W4.drew.cell? ⟨g, 3, none⟩ = _ from hk3) id; have htxs : tx.size ≤ 1000 := (by have h1 := bytesOf_length tx; rw [htx] at h1; have h2 := decI_le S.size (by omega); omega); clear htx hb5)
    all_goals
      go_wp2
      go_ret2
      refine ⟨_, _, _, rfl, (Mods.of_below HB5.out).blk (show Left1 W4.drew p t (n - 1) from HL4.out) id, HM4.out.drew.then_below HB5.out, fun h => ⟨by omega, n, HLw.out, by omega, by have e2 : (ByteArray.mk #[13, 10]).size = 2 := rfl; simp only [ByteArray.size_append, e2]; omega, fun _ => ?_⟩⟩
      rw [bytes_app, bytes_app, bytes_app, bytes_app, HHD.out, bytes_str (xs := [61]) (by decide), HTX.out, ← bytesOf_length S]
      have ec : bytesOf ⟨#[13, 10]⟩ = [13, 10] := rfl
      rw [ec]
      have := Rep.bulk 61 (bytesOf S) (by decide) (by rw [bytesOf_length]; omega)
      simpa using this
end
end Go.Proofs.YtmdlmjjggjemdaaGreatDoor
