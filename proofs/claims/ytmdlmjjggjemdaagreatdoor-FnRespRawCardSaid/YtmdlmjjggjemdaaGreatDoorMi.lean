/- What the reference writes: kinds 42 126 62. What the reference writes: kinds 37. What the reference writes: kinds 124. What the reference writes: kinds 0. -/
import Derived.Test.YtmdlmjjggjemdaaGreatDoorMg
namespace Go.Proofs.YtmdlmjjggjemdaaGreatDoor
section
open Go.RowKit Go.Proofs.YtmdlmjjggjemdaaGreatDoorW.PrintWords Go.Proofs.YtmdlmjjggjemdaaGreatDoorW.PrintMore Go.Proofs.YtmdlmjjggjemdaaGreatDoorW.PrintLast Go.Proofs.YtmdlmjjggjemdaaGreatDoor.PFnRespRaw
attribute [local go_sem] max2_int min2_int max_two min_two max_three min_three max_four min_four
set_option linter.unusedVariables false
set_option linter.unusedSimpArgs false

set_option maxHeartbeats 8000000 in
set_option maxRecDepth 100000 in
theorem write_42 (i f : Int) (S : ByteArray) (kids : List S25) (ih : ∀ y ∈ kids, WriteOK y) : WriteOK ⟨42, i, f, S, kids⟩ := by
  have HI := Aside0.mk ih
  clear ih
  intro w0 w v p t n deep hx hB h8 hp hL hn0 hn1 hd0 hd1 hS hF hU hT
  obtain ⟨A, c, rfl, hc, hC⟩ := hx
  have HC := Aside0.mk hC
  have HB := Aside0.mk hB
  have HL := Aside0.mk hL
  have HS := Aside0.mk hS
  have HF := Aside0.mk hF
  have HU := Aside0.mk hU
  have HT := Aside0.mk hT
  have hps : p < w.heap.size := blk_lt hL
  have HLw := HL
  clear hC hB hL hS hF hU hT
  go_enter Tryz.func25, Tryz.ntmps25
  go_upto_region 1 with fail
  obtain ⟨o, ho⟩ : ∃ o, o = Obj.cells #[.int .i64 42, .int .i64 i, .int .u64 f, .string S, .slice A kids.length c] 25 := ⟨_, rfl⟩
  obtain ⟨W1, hW1⟩ : ∃ W1, W1 = w.alloc o := ⟨_, rfl⟩
  obtain ⟨g, hg⟩ : ∃ g, g = w.heap.size := ⟨_, rfl⟩
  have hM1 : Mods (fun _ => False) w W1 := by rw [hW1]; exact (Mods.refl _ w).alloc _
  have hbk : W1.heap[g]? = some o := by rw [hW1, hg]; exact heap_alloc_new _ _
  rw [← ho, ← hW1, ← hg]
  have hgp : g ≠ p := by omega
  have hL1 : Left1 W1 p t n := hM1.blk HL.out id
  subst ho
  have hcz : W1.cell? ⟨p, 0, none⟩ = some (.int .i64 n) := (blk_cell hL1 0).trans rfl
  have hfz : W1.frozen? ⟨p, 0, none⟩ = false := blk_frozen hL1 0
  have HK := Aside0.mk hbk
  have HM := Aside0.mk hM1
  have HL1 := Aside0.mk hL1
  have HG := Aside0.mk hg
  clear hW1 hg hM1 hbk hL1
  go_upto_region 2 with fail
  obtain ⟨W2, hW2⟩ : ∃ W2, W2 = W1.setCell ⟨p, 0, none⟩ (.int .i64 (n - 1)) := ⟨_, rfl⟩
  have hL2 : Left1 W2 p t (n - 1) := by rw [hW2]; exact blk_set HL1.out 0 _
  have hM2 : Mods (· = p) w W2 := by rw [hW2]; exact (HM.out.mono (S' := (· = p)) (fun _ _ h => h.elim)).setCell (p := ⟨p, 0, none⟩) (.inl rfl) _
  have hbk2 : W2.heap[g]? = some (.cells #[.int .i64 42, .int .i64 i, .int .u64 f, .string S, .slice A kids.length c] 25 (0, 0)) := by
    rw [hW2]; exact ((Mods.refl (· = p) W1).setCell (p := ⟨p, 0, none⟩) (.inl rfl) _).blk HK.out hgp
  rw [← hW2]
  have hcz2 : W2.cell? ⟨p, 0, none⟩ = some (.int .i64 (n - 1)) := (blk_cell hL2 0).trans rfl
  have hk0 : W2.cell? ⟨g, 0, none⟩ = some (.int .i64 42) := (blk_cell hbk2 0).trans rfl
  have hk1 : W2.cell? ⟨g, 1, none⟩ = some (.int .i64 i) := (blk_cell hbk2 1).trans rfl
  have hk2 : W2.cell? ⟨g, 2, none⟩ = some (.int .u64 f) := (blk_cell hbk2 2).trans rfl
  have hk3 : W2.cell? ⟨g, 3, none⟩ = some (.string S) := (blk_cell hbk2 3).trans rfl
  have hk4 : W2.cell? ⟨g, 4, none⟩ = some (.slice A kids.length c) := (blk_cell hbk2 4).trans rfl
  have HL2 := Aside0.mk hL2
  have HM2 := Aside0.mk hM2
  have HK2 := Aside0.mk hbk2
  clear hL2 hM2 hbk2 hW2 hcz hfz HK HL1
  go_cut [33] from 21 to 32 (fun s33 wx => ∃ b : Bool, s33 = .bool b ∧ (b = false → 0 ≤ n - 1 ∧ deep ≤ 20) ∧ Aside0 (Below W2.heap.size W2 wx))
  case first =>
    by_cases hdp : (20 : Int) < deep
    · go_wp2
      go_meet
      exact ⟨true, rfl, fun h => (by cases h), ⟨Below.refl _ _⟩⟩
    · have hdp' : decide ((20 : Int) < deep) = false := decide_eq_false hdp
      by_cases hneg : n - 1 < 0
      · go_wp2
        go_meet
        exact ⟨true, rfl, fun h => (by cases h), ⟨Below.refl _ _⟩⟩
      · have hneg' : decide (n - 1 < 0) = false := decide_eq_false hneg
        go_wp2_with fail
        refine (bare_calls W2 42 i f S A kids.length c).mono ?_
        rintro e w3 ⟨b, rfl, hb⟩
        have HB3 := Aside0.mk hb
        clear hb
        go_wp2
        go_meet
        exact ⟨_, rfl, fun _ => ⟨by omega, by omega⟩, HB3⟩
  case rest =>
  obtain ⟨b, rfl, hb, HB3⟩ := hcut
  by_cases hbt : b = true
  · subst hbt
    go_wp2
    go_ret2
    exact ⟨_, false, n - 1, rfl, (Mods.of_below HB3.out).blk HL2.out id, HM2.out.then_below HB3.out, fun h => by cases h⟩
  obtain rfl : b = false := by simpa using hbt
  clear hbt
  obtain ⟨hnn, hdd⟩ := hb rfl
  clear hb hk0 hk1 hk2 hk3 hk4 hcz2
  have hk0 : wc.cell? ⟨g, 0, none⟩ = some (.int .i64 42) := (blk_cell ((Mods.of_below HB3.out).blk HK2.out id) 0).trans rfl
  have hk1 : wc.cell? ⟨g, 1, none⟩ = some (.int .i64 i) := (blk_cell ((Mods.of_below HB3.out).blk HK2.out id) 1).trans rfl
  have hk2 : wc.cell? ⟨g, 2, none⟩ = some (.int .u64 f) := (blk_cell ((Mods.of_below HB3.out).blk HK2.out id) 2).trans rfl
  have hk3 : wc.cell? ⟨g, 3, none⟩ = some (.string S) := (blk_cell ((Mods.of_below HB3.out).blk HK2.out id) 3).trans rfl
  have hk4 : wc.cell? ⟨g, 4, none⟩ = some (.slice A kids.length c) := (blk_cell ((Mods.of_below HB3.out).blk HK2.out id) 4).trans rfl
  have HL3 := Aside0.mk (show Left1 wc p t (n - 1) from (Mods.of_below HB3.out).blk HL2.out id)
  have HM3 := Aside0.mk (HM2.out.then_below HB3.out)
  have HK3 := Aside0.mk ((Mods.of_below HB3.out).blk HK2.out id)
  clear HL2 HM2 HK2 HL HM HB3
  have hcv := str_run (c := 1) (bytes_reads wc [42] #[.int .u8 42] rfl 1 rfl (by omega))
  go_upto_region 5 with fail
  obtain ⟨W4, hW4⟩ : ∃ W4, W4 = wc.alloc (.cells #[.int .u8 42] 5) := ⟨_, rfl⟩
  have hM4 : Mods (fun _ => False) wc W4 := by rw [hW4]; exact (Mods.refl _ _).alloc _
  obtain ⟨hd, hhd⟩ : ∃ hd, hd = strOfNums [42] := ⟨_, rfl⟩
  rw [← hW4, ← hhd]
  have HHD := Aside0.mk hhd
  have hds : hd.size = 1 := by rw [hhd, strOfNums_size]; rfl
  clear hcv hW4 hhd hk0 hk1 hk2 hk3 hk4
  have HK4 := Aside0.mk (hM4.blk HK3.out id)
  have hk0 : W4.cell? ⟨g, 0, none⟩ = some (.int .i64 42) := (blk_cell HK4.out 0).trans rfl
  have hk1 : W4.cell? ⟨g, 1, none⟩ = some (.int .i64 i) := (blk_cell HK4.out 1).trans rfl
  have hk2 : W4.cell? ⟨g, 2, none⟩ = some (.int .u64 f) := (blk_cell HK4.out 2).trans rfl
  have hk3 : W4.cell? ⟨g, 3, none⟩ = some (.string S) := (blk_cell HK4.out 3).trans rfl
  have hk4 : W4.cell? ⟨g, 4, none⟩ = some (.slice A kids.length c) := (blk_cell HK4.out 4).trans rfl
  have HL4 := Aside0.mk (show Left1 W4 p t (n - 1) from hM4.blk HL3.out id)
  have HM4 := Aside0.mk (HM3.out.then_below hM4.below)
  have hBW : Mods (· = p) w0 W4 := ((Mods.of_below HB.out).mono (S' := (· = p)) (fun _ _ h => h.elim)).trans HM4.out (fun _ _ h => h)
  have hB4 : Below w0.heap.size w0 W4 := ⟨hBW.os, hBW.tape, hBW.output, hBW.size, fun q hq => hBW.block q hq (by omega)⟩
  have HB4 := Aside0.mk hB4
  have HU4 := Aside0.mk (HU.out.stays hB4)
  have HT4 := Aside0.mk (HT.out.stays hB4)
  have h84 : 8 < W4.heap.size := Nat.lt_of_lt_of_le h8 hB4.size
  clear HL3 HM3 HK3 hM4 hBW hB4
  obtain ⟨hS1, hS2, hS3⟩ := small_here HS.out
  obtain ⟨hF0, hF1, hF2, hF3, hF4⟩ := fit_here HF.out
  have hkl0 : (kids.length : Int) ≤ 1000 := by omega
  have HS3 := Aside0.mk hS3
  have HF4 := Aside0.mk hF4
  clear hS3 hF4
  by_cases hi1 : i = -1
  · subst hi1
    go_wp2
    go_ret2
    exact ⟨_, _, _, rfl, HL4.out, HM4.out, fun h => ⟨by omega, n, HLw.out, by omega, by show ((5 : Nat) : Int) ≤ _; omega, fun _ => Rep.none 42 (.inr rfl)⟩⟩
  have hi1' : (i == -1) = false := beq_eq_false_iff_ne.mpr hi1
  clear hi1
  go_wp2_with fail
  refine (itoa_calls kids.length (by omega) _ HU4.out).mono ?_
  rintro e w5 ⟨tx, htx, rfl, hb5⟩
  have htxs : tx.size ≤ 7 := by have h1 := bytesOf_length tx; rw [htx] at h1; have h2 := decI_le kids.length (by omega); omega
  have hk4 : w5.cell? ⟨g, 4, none⟩ = some (.slice A kids.length c) := (Mods.of_below hb5).cell hk4 id
  have HL5 := Aside0.mk (show Left1 w5 p t (n - 1) from (Mods.of_below hb5).blk HL4.out id)
  have HM5 := Aside0.mk (HM4.out.then_below hb5)
  have HTX := Aside0.mk htx
  clear htx hb5 hk0 hk1 hk2 hk3 HL4 HM4 HK4 HB4 HU4 HT4
  go_wp2_with fail
  go_loopw [6, 7, 11, 13, 14, 15, 200] (fun v6 v7 v11 _ _ _ v200 wr => ∃ (j : Nat) (nk : Int) (out : ByteArray), v6 = .string ⟨#[]⟩ ∧ v7 = .bool false ∧ v11 = .string out ∧ v200 = .int .i64 j ∧ j ≤ kids.length ∧ 0 ≤ nk ∧ nk + 1 + j ≤ n ∧ (out.size : Int) ≤ 2000 * (n - nk) ∧ Aside0 (Left1 wr p t nk) ∧ Aside0 (Mods (· = p) w wr) ∧ Aside0 (∃ texts : List (List Int), bytesOf out = 42 :: decI kids.length ++ [13, 10] ++ texts.flatten ∧ texts.length = j ∧ ((∀ y ∈ kids, NoBar y) → ∀ t ∈ texts, Rep t))) (fun _ _ _ _ _ _ v200 _ => kids.length - (intOf v200).toNat)
  case atStart =>
    refine ⟨0, n - 1, _, rfl, rfl, rfl, rfl, Nat.zero_le _, by omega, by omega, ?_, HL5, HM5, ⟨[], ?_, rfl, fun _ t ht => by cases ht⟩⟩
    · have e2 : (ByteArray.mk #[13, 10]).size = 2 := rfl
      simp only [ByteArray.size_append, e2]; omega
    · have ec : bytesOf ⟨#[13, 10]⟩ = [13, 10] := rfl
      rw [bytes_app, bytes_app, HHD.out, bytes_str (xs := [42]) (by decide), HTX.out, ec]; simp
  case round =>
    obtain ⟨j, nk, out, rfl, rfl, rfl, rfl, hj, hnk0, hnk1, hsz, HLk, HMk, HSk⟩ := hrel
    have hsz2 : (out.size : Int) ≤ 4000000 := by omega
    by_cases hkl : j < kids.length
    · have q0 : (0 : Int) ≤ (j : Int) := by omega
      have q1 : (j : Int) < (kids.length : Int) := by omega
      obtain ⟨ad, A4, c4, e, h0, h1, h2, h3, h4, hl4, hi4⟩ := at_T25 HC.out j q0 q1
      cases e
      rw [Int.toNat_natCast] at h0 h1 h2 h3 h4
      have hty : ∀ (q : Addr) (u : Value), w0.cell? q = some u → wr.cell? q = some u := fun q u hq => by
        have hlt := World.block_lt_of_cell? w0 q hq
        exact HMk.out.cell ((Mods.of_below HB.out).cell hq id) (by omega)
      replace h0 := hty _ _ h0
      replace h1 := hty _ _ h1
      replace h2 := hty _ _ h2
      replace h3 := hty _ _ h3
      replace h4 := hty _ _ h4
      have hyt : TreeAt w0 (rd_T25 kids j) (.agg #[.int .i64 (rd_T25 kids j).f0, .int .i64 (rd_T25 kids j).f1, .int .u64 (rd_T25 kids j).f2, .string (rd_T25 kids j).f3, .slice A4 (rd_T25 kids j).f4.length c4]) := ⟨A4, c4, rfl, hl4, hi4⟩
      have HY := Aside0.mk hyt
      clear hyt hl4 hi4 hty
      obtain ⟨y, hy⟩ : ∃ y, y = rd_T25 kids j := ⟨_, rfl⟩
      rw [← hy] at h0 h1 h2 h3 h4 HY
      have hym : y ∈ kids := by rw [hy]; show kids.getD j z25 ∈ _; simp [List.getD, hkl]
      have HYM := Aside0.mk hym
      clear hy hym
      obtain ⟨oy, hoy⟩ : ∃ oy, oy = Obj.cells #[.int .i64 y.f0, .int .i64 y.f1, .int .u64 y.f2, .string y.f3, .slice A4 y.f4.length c4] 25 := ⟨_, rfl⟩
      have hbel : Below w0.heap.size w0 (wr.alloc oy) := by
        have h1 : Mods (· = p) w0 wr := ((Mods.of_below HB.out).mono (S' := (· = p)) (fun _ _ h => h.elim)).trans HMk.out (fun _ _ h => h)
        have h2 := h1.alloc oy
        exact ⟨h2.os, h2.tape, h2.output, h2.size, fun q hq => h2.block q hq (by omega)⟩
      have hlk : Left1 (wr.alloc oy) p t nk := ((Mods.refl (fun _ => False) wr).alloc oy).blk HLk.out id
      have hcl := HI.out y HYM.out w0 (wr.alloc oy) _ p t nk (deep + 1) HY.out hbel h8 hp hlk (by omega) (by omega) (by omega) (by omega) (HS3.out y HYM.out) (HF4.out y HYM.out) HU.out HT.out
      rw [hoy] at hcl
      have HCL := Aside0.mk hcl
      have HLK := Aside0.mk hlk
      clear hcl hlk hbel
      go_wp2_with fail
      refine HCL.out.mono ?_
      rintro e w6 ⟨s, b, n', rfl, hl6, hm6, hb6⟩
      have HL6 := Aside0.mk hl6
      have HM6 := Aside0.mk ((HMk.out.alloc _).trans hm6 (fun _ _ h => h))
      have HB6 := Aside0.mk hb6
      clear hl6 hm6 hb6
      cases b
      · go_wp2
        go_ret2
        exact ⟨_, false, _, rfl, HL6.out, HM6.out, fun h => by cases h⟩
      · obtain ⟨hn0', n0, hl0, hlt, hss, hrep⟩ := HB6.out rfl
        have en : n0 = nk := left1_inj hl0 (by rw [← hoy]; exact HLK.out)
        have hlt' : n' < nk := by omega
        have hss' : (s.size : Int) ≤ 2000 * (nk - n') := by omega
        have hss2 : (s.size : Int) ≤ 4000000 := by omega
        have HREP := Aside0.mk hrep
        clear hrep hl0 en hlt hss HCL HB6 hoy
        go_wp2_with fail
        go_roundw
        case measure => simp [intOf]; omega
        case rel =>
          refine ⟨j + 1, n', _, rfl, rfl, rfl, by go_num, by omega, hn0', by omega, ?_, HL6, HM6, ?_⟩
          · simp only [ByteArray.size_append]; omega
          · obtain ⟨texts, h1, h2, h3⟩ := HSk.out
            refine ⟨texts ++ [bytesOf s], ?_, by simp [h2], fun hNB t ht => ?_⟩
            · rw [bytes_app, h1]; simp
            · rcases List.mem_append.1 ht with ht | ht
              · exact h3 hNB t ht
              · rw [List.mem_singleton.1 ht]; exact HREP.out (hNB y HYM.out)
    · have hkl' : decide ((j : Int) < (kids.length : Int)) = false := decide_eq_false (by omega)
      have hke : j = kids.length := by omega
      have HKE := Aside0.mk hke
      clear hke
      go_wp2
      go_ret2
      refine ⟨_, true, _, rfl, HLk.out, HMk.out, fun _ => ⟨hnk0, n, HLw.out, by omega, hsz, fun hNB => ?_⟩⟩
      obtain ⟨hnb0, hnb⟩ := nobar_here hNB
      obtain ⟨texts, h1, h2, h3⟩ := HSk.out
      rw [h1, ← HKE.out, ← h2]
      exact Rep.list 42 texts (by decide) (by omega) (h3 hnb)

set_option maxHeartbeats 8000000 in
set_option maxRecDepth 100000 in
theorem write_126 (i f : Int) (S : ByteArray) (kids : List S25) (ih : ∀ y ∈ kids, WriteOK y) : WriteOK ⟨126, i, f, S, kids⟩ := by
  have HI := Aside0.mk ih
  clear ih
  intro w0 w v p t n deep hx hB h8 hp hL hn0 hn1 hd0 hd1 hS hF hU hT
  obtain ⟨A, c, rfl, hc, hC⟩ := hx
  have HC := Aside0.mk hC
  have HB := Aside0.mk hB
  have HL := Aside0.mk hL
  have HS := Aside0.mk hS
  have HF := Aside0.mk hF
  have HU := Aside0.mk hU
  have HT := Aside0.mk hT
  have hps : p < w.heap.size := blk_lt hL
  have HLw := HL
  clear hC hB hL hS hF hU hT
  go_enter Tryz.func25, Tryz.ntmps25
  go_upto_region 1 with fail
  obtain ⟨o, ho⟩ : ∃ o, o = Obj.cells #[.int .i64 126, .int .i64 i, .int .u64 f, .string S, .slice A kids.length c] 25 := ⟨_, rfl⟩
  obtain ⟨W1, hW1⟩ : ∃ W1, W1 = w.alloc o := ⟨_, rfl⟩
  obtain ⟨g, hg⟩ : ∃ g, g = w.heap.size := ⟨_, rfl⟩
  have hM1 : Mods (fun _ => False) w W1 := by rw [hW1]; exact (Mods.refl _ w).alloc _
  have hbk : W1.heap[g]? = some o := by rw [hW1, hg]; exact heap_alloc_new _ _
  rw [← ho, ← hW1, ← hg]
  have hgp : g ≠ p := by omega
  have hL1 : Left1 W1 p t n := hM1.blk HL.out id
  subst ho
  have hcz : W1.cell? ⟨p, 0, none⟩ = some (.int .i64 n) := (blk_cell hL1 0).trans rfl
  have hfz : W1.frozen? ⟨p, 0, none⟩ = false := blk_frozen hL1 0
  have HK := Aside0.mk hbk
  have HM := Aside0.mk hM1
  have HL1 := Aside0.mk hL1
  have HG := Aside0.mk hg
  clear hW1 hg hM1 hbk hL1
  go_upto_region 2 with fail
  obtain ⟨W2, hW2⟩ : ∃ W2, W2 = W1.setCell ⟨p, 0, none⟩ (.int .i64 (n - 1)) := ⟨_, rfl⟩
  have hL2 : Left1 W2 p t (n - 1) := by rw [hW2]; exact blk_set HL1.out 0 _
  have hM2 : Mods (· = p) w W2 := by rw [hW2]; exact (HM.out.mono (S' := (· = p)) (fun _ _ h => h.elim)).setCell (p := ⟨p, 0, none⟩) (.inl rfl) _
  have hbk2 : W2.heap[g]? = some (.cells #[.int .i64 126, .int .i64 i, .int .u64 f, .string S, .slice A kids.length c] 25 (0, 0)) := by
    rw [hW2]; exact ((Mods.refl (· = p) W1).setCell (p := ⟨p, 0, none⟩) (.inl rfl) _).blk HK.out hgp
  rw [← hW2]
  have hcz2 : W2.cell? ⟨p, 0, none⟩ = some (.int .i64 (n - 1)) := (blk_cell hL2 0).trans rfl
  have hk0 : W2.cell? ⟨g, 0, none⟩ = some (.int .i64 126) := (blk_cell hbk2 0).trans rfl
  have hk1 : W2.cell? ⟨g, 1, none⟩ = some (.int .i64 i) := (blk_cell hbk2 1).trans rfl
  have hk2 : W2.cell? ⟨g, 2, none⟩ = some (.int .u64 f) := (blk_cell hbk2 2).trans rfl
  have hk3 : W2.cell? ⟨g, 3, none⟩ = some (.string S) := (blk_cell hbk2 3).trans rfl
  have hk4 : W2.cell? ⟨g, 4, none⟩ = some (.slice A kids.length c) := (blk_cell hbk2 4).trans rfl
  have HL2 := Aside0.mk hL2
  have HM2 := Aside0.mk hM2
  have HK2 := Aside0.mk hbk2
  clear hL2 hM2 hbk2 hW2 hcz hfz HK HL1
  go_cut [33] from 21 to 32 (fun s33 wx => ∃ b : Bool, s33 = .bool b ∧ (b = false → 0 ≤ n - 1 ∧ deep ≤ 20) ∧ Aside0 (Below W2.heap.size W2 wx))
  case first =>
    by_cases hdp : (20 : Int) < deep
    · go_wp2
      go_meet
      exact ⟨true, rfl, fun h => (by cases h), ⟨Below.refl _ _⟩⟩
    · have hdp' : decide ((20 : Int) < deep) = false := decide_eq_false hdp
      by_cases hneg : n - 1 < 0
      · go_wp2
        go_meet
        exact ⟨true, rfl, fun h => (by cases h), ⟨Below.refl _ _⟩⟩
      · have hneg' : decide (n - 1 < 0) = false := decide_eq_false hneg
        go_wp2_with fail
        refine (bare_calls W2 126 i f S A kids.length c).mono ?_
        rintro e w3 ⟨b, rfl, hb⟩
        have HB3 := Aside0.mk hb
        clear hb
        go_wp2
        go_meet
        exact ⟨_, rfl, fun _ => ⟨by omega, by omega⟩, HB3⟩
  case rest =>
  obtain ⟨b, rfl, hb, HB3⟩ := hcut
  by_cases hbt : b = true
  · subst hbt
    go_wp2
    go_ret2
    exact ⟨_, false, n - 1, rfl, (Mods.of_below HB3.out).blk HL2.out id, HM2.out.then_below HB3.out, fun h => by cases h⟩
  obtain rfl : b = false := by simpa using hbt
  clear hbt
  obtain ⟨hnn, hdd⟩ := hb rfl
  clear hb hk0 hk1 hk2 hk3 hk4 hcz2
  have hk0 : wc.cell? ⟨g, 0, none⟩ = some (.int .i64 126) := (blk_cell ((Mods.of_below HB3.out).blk HK2.out id) 0).trans rfl
  have hk1 : wc.cell? ⟨g, 1, none⟩ = some (.int .i64 i) := (blk_cell ((Mods.of_below HB3.out).blk HK2.out id) 1).trans rfl
  have hk2 : wc.cell? ⟨g, 2, none⟩ = some (.int .u64 f) := (blk_cell ((Mods.of_below HB3.out).blk HK2.out id) 2).trans rfl
  have hk3 : wc.cell? ⟨g, 3, none⟩ = some (.string S) := (blk_cell ((Mods.of_below HB3.out).blk HK2.out id) 3).trans rfl
  have hk4 : wc.cell? ⟨g, 4, none⟩ = some (.slice A kids.length c) := (blk_cell ((Mods.of_below HB3.out).blk HK2.out id) 4).trans rfl
  have HL3 := Aside0.mk (show Left1 wc p t (n - 1) from (Mods.of_below HB3.out).blk HL2.out id)
  have HM3 := Aside0.mk (HM2.out.then_below HB3.out)
  have HK3 := Aside0.mk ((Mods.of_below HB3.out).blk HK2.out id)
  clear HL2 HM2 HK2 HL HM HB3
  have hcv := str_run (c := 1) (bytes_reads wc [126] #[.int .u8 126] rfl 1 rfl (by omega))
  go_upto_region 5 with fail
  obtain ⟨W4, hW4⟩ : ∃ W4, W4 = wc.alloc (.cells #[.int .u8 126] 5) := ⟨_, rfl⟩
  have hM4 : Mods (fun _ => False) wc W4 := by rw [hW4]; exact (Mods.refl _ _).alloc _
  obtain ⟨hd, hhd⟩ : ∃ hd, hd = strOfNums [126] := ⟨_, rfl⟩
  rw [← hW4, ← hhd]
  have HHD := Aside0.mk hhd
  have hds : hd.size = 1 := by rw [hhd, strOfNums_size]; rfl
  clear hcv hW4 hhd hk0 hk1 hk2 hk3 hk4
  have HK4 := Aside0.mk (hM4.blk HK3.out id)
  have hk0 : W4.cell? ⟨g, 0, none⟩ = some (.int .i64 126) := (blk_cell HK4.out 0).trans rfl
  have hk1 : W4.cell? ⟨g, 1, none⟩ = some (.int .i64 i) := (blk_cell HK4.out 1).trans rfl
  have hk2 : W4.cell? ⟨g, 2, none⟩ = some (.int .u64 f) := (blk_cell HK4.out 2).trans rfl
  have hk3 : W4.cell? ⟨g, 3, none⟩ = some (.string S) := (blk_cell HK4.out 3).trans rfl
  have hk4 : W4.cell? ⟨g, 4, none⟩ = some (.slice A kids.length c) := (blk_cell HK4.out 4).trans rfl
  have HL4 := Aside0.mk (show Left1 W4 p t (n - 1) from hM4.blk HL3.out id)
  have HM4 := Aside0.mk (HM3.out.then_below hM4.below)
  have hBW : Mods (· = p) w0 W4 := ((Mods.of_below HB.out).mono (S' := (· = p)) (fun _ _ h => h.elim)).trans HM4.out (fun _ _ h => h)
  have hB4 : Below w0.heap.size w0 W4 := ⟨hBW.os, hBW.tape, hBW.output, hBW.size, fun q hq => hBW.block q hq (by omega)⟩
  have HB4 := Aside0.mk hB4
  have HU4 := Aside0.mk (HU.out.stays hB4)
  have HT4 := Aside0.mk (HT.out.stays hB4)
  have h84 : 8 < W4.heap.size := Nat.lt_of_lt_of_le h8 hB4.size
  clear HL3 HM3 HK3 hM4 hBW hB4
  obtain ⟨hS1, hS2, hS3⟩ := small_here HS.out
  obtain ⟨hF0, hF1, hF2, hF3, hF4⟩ := fit_here HF.out
  have hkl0 : (kids.length : Int) ≤ 1000 := by omega
  have HS3 := Aside0.mk hS3
  have HF4 := Aside0.mk hF4
  clear hS3 hF4
  go_wp2_with fail
  refine (itoa_calls kids.length (by omega) _ HU4.out).mono ?_
  rintro e w5 ⟨tx, htx, rfl, hb5⟩
  have htxs : tx.size ≤ 7 := by have h1 := bytesOf_length tx; rw [htx] at h1; have h2 := decI_le kids.length (by omega); omega
  have hk4 : w5.cell? ⟨g, 4, none⟩ = some (.slice A kids.length c) := (Mods.of_below hb5).cell hk4 id
  have HL5 := Aside0.mk (show Left1 w5 p t (n - 1) from (Mods.of_below hb5).blk HL4.out id)
  have HM5 := Aside0.mk (HM4.out.then_below hb5)
  have HTX := Aside0.mk htx
  clear htx hb5 hk0 hk1 hk2 hk3 HL4 HM4 HK4 HB4 HU4 HT4
  go_wp2_with fail
  go_loopw [6, 7, 11, 13, 14, 15, 200] (fun v6 v7 v11 _ _ _ v200 wr => ∃ (j : Nat) (nk : Int) (out : ByteArray), v6 = .string ⟨#[]⟩ ∧ v7 = .bool false ∧ v11 = .string out ∧ v200 = .int .i64 j ∧ j ≤ kids.length ∧ 0 ≤ nk ∧ nk + 1 + j ≤ n ∧ (out.size : Int) ≤ 2000 * (n - nk) ∧ Aside0 (Left1 wr p t nk) ∧ Aside0 (Mods (· = p) w wr) ∧ Aside0 (∃ texts : List (List Int), bytesOf out = 126 :: decI kids.length ++ [13, 10] ++ texts.flatten ∧ texts.length = j ∧ ((∀ y ∈ kids, NoBar y) → ∀ t ∈ texts, Rep t))) (fun _ _ _ _ _ _ v200 _ => kids.length - (intOf v200).toNat)
  case atStart =>
    refine ⟨0, n - 1, _, rfl, rfl, rfl, rfl, Nat.zero_le _, by omega, by omega, ?_, HL5, HM5, ⟨[], ?_, rfl, fun _ t ht => by cases ht⟩⟩
    · have e2 : (ByteArray.mk #[13, 10]).size = 2 := rfl
      simp only [ByteArray.size_append, e2]; omega
    · have ec : bytesOf ⟨#[13, 10]⟩ = [13, 10] := rfl
      rw [bytes_app, bytes_app, HHD.out, bytes_str (xs := [126]) (by decide), HTX.out, ec]; simp
  case round =>
    obtain ⟨j, nk, out, rfl, rfl, rfl, rfl, hj, hnk0, hnk1, hsz, HLk, HMk, HSk⟩ := hrel
    have hsz2 : (out.size : Int) ≤ 4000000 := by omega
    by_cases hkl : j < kids.length
    · have q0 : (0 : Int) ≤ (j : Int) := by omega
      have q1 : (j : Int) < (kids.length : Int) := by omega
      obtain ⟨ad, A4, c4, e, h0, h1, h2, h3, h4, hl4, hi4⟩ := at_T25 HC.out j q0 q1
      cases e
      rw [Int.toNat_natCast] at h0 h1 h2 h3 h4
      have hty : ∀ (q : Addr) (u : Value), w0.cell? q = some u → wr.cell? q = some u := fun q u hq => by
        have hlt := World.block_lt_of_cell? w0 q hq
        exact HMk.out.cell ((Mods.of_below HB.out).cell hq id) (by omega)
      replace h0 := hty _ _ h0
      replace h1 := hty _ _ h1
      replace h2 := hty _ _ h2
      replace h3 := hty _ _ h3
      replace h4 := hty _ _ h4
      have hyt : TreeAt w0 (rd_T25 kids j) (.agg #[.int .i64 (rd_T25 kids j).f0, .int .i64 (rd_T25 kids j).f1, .int .u64 (rd_T25 kids j).f2, .string (rd_T25 kids j).f3, .slice A4 (rd_T25 kids j).f4.length c4]) := ⟨A4, c4, rfl, hl4, hi4⟩
      have HY := Aside0.mk hyt
      clear hyt hl4 hi4 hty
      obtain ⟨y, hy⟩ : ∃ y, y = rd_T25 kids j := ⟨_, rfl⟩
      rw [← hy] at h0 h1 h2 h3 h4 HY
      have hym : y ∈ kids := by rw [hy]; show kids.getD j z25 ∈ _; simp [List.getD, hkl]
      have HYM := Aside0.mk hym
      clear hy hym
      obtain ⟨oy, hoy⟩ : ∃ oy, oy = Obj.cells #[.int .i64 y.f0, .int .i64 y.f1, .int .u64 y.f2, .string y.f3, .slice A4 y.f4.length c4] 25 := ⟨_, rfl⟩
      have hbel : Below w0.heap.size w0 (wr.alloc oy) := by
        have h1 : Mods (· = p) w0 wr := ((Mods.of_below HB.out).mono (S' := (· = p)) (fun _ _ h => h.elim)).trans HMk.out (fun _ _ h => h)
        have h2 := h1.alloc oy
        exact ⟨h2.os, h2.tape, h2.output, h2.size, fun q hq => h2.block q hq (by omega)⟩
      have hlk : Left1 (wr.alloc oy) p t nk := ((Mods.refl (fun _ => False) wr).alloc oy).blk HLk.out id
      have hcl := HI.out y HYM.out w0 (wr.alloc oy) _ p t nk (deep + 1) HY.out hbel h8 hp hlk (by omega) (by omega) (by omega) (by omega) (HS3.out y HYM.out) (HF4.out y HYM.out) HU.out HT.out
      rw [hoy] at hcl
      have HCL := Aside0.mk hcl
      have HLK := Aside0.mk hlk
      clear hcl hlk hbel
      go_wp2_with fail
      refine HCL.out.mono ?_
      rintro e w6 ⟨s, b, n', rfl, hl6, hm6, hb6⟩
      have HL6 := Aside0.mk hl6
      have HM6 := Aside0.mk ((HMk.out.alloc _).trans hm6 (fun _ _ h => h))
      have HB6 := Aside0.mk hb6
      clear hl6 hm6 hb6
      cases b
      · go_wp2
        go_ret2
        exact ⟨_, false, _, rfl, HL6.out, HM6.out, fun h => by cases h⟩
      · obtain ⟨hn0', n0, hl0, hlt, hss, hrep⟩ := HB6.out rfl
        have en : n0 = nk := left1_inj hl0 (by rw [← hoy]; exact HLK.out)
        have hlt' : n' < nk := by omega
        have hss' : (s.size : Int) ≤ 2000 * (nk - n') := by omega
        have hss2 : (s.size : Int) ≤ 4000000 := by omega
        have HREP := Aside0.mk hrep
        clear hrep hl0 en hlt hss HCL HB6 hoy
        go_wp2_with fail
        go_roundw
        case measure => simp [intOf]; omega
        case rel =>
          refine ⟨j + 1, n', _, rfl, rfl, rfl, by go_num, by omega, hn0', by omega, ?_, HL6, HM6, ?_⟩
          · simp only [ByteArray.size_append]; omega
          · obtain ⟨texts, h1, h2, h3⟩ := HSk.out
            refine ⟨texts ++ [bytesOf s], ?_, by simp [h2], fun hNB t ht => ?_⟩
            · rw [bytes_app, h1]; simp
            · rcases List.mem_append.1 ht with ht | ht
              · exact h3 hNB t ht
              · rw [List.mem_singleton.1 ht]; exact HREP.out (hNB y HYM.out)
    · have hkl' : decide ((j : Int) < (kids.length : Int)) = false := decide_eq_false (by omega)
      have hke : j = kids.length := by omega
      have HKE := Aside0.mk hke
      clear hke
      go_wp2
      go_ret2
      refine ⟨_, true, _, rfl, HLk.out, HMk.out, fun _ => ⟨hnk0, n, HLw.out, by omega, hsz, fun hNB => ?_⟩⟩
      obtain ⟨hnb0, hnb⟩ := nobar_here hNB
      obtain ⟨texts, h1, h2, h3⟩ := HSk.out
      rw [h1, ← HKE.out, ← h2]
      exact Rep.list 126 texts (by decide) (by omega) (h3 hnb)

set_option maxHeartbeats 8000000 in
set_option maxRecDepth 100000 in
theorem write_62 (i f : Int) (S : ByteArray) (kids : List S25) (ih : ∀ y ∈ kids, WriteOK y) : WriteOK ⟨62, i, f, S, kids⟩ := by
  have HI := Aside0.mk ih
  clear ih
  intro w0 w v p t n deep hx hB h8 hp hL hn0 hn1 hd0 hd1 hS hF hU hT
  obtain ⟨A, c, rfl, hc, hC⟩ := hx
  have HC := Aside0.mk hC
  have HB := Aside0.mk hB
  have HL := Aside0.mk hL
  have HS := Aside0.mk hS
  have HF := Aside0.mk hF
  have HU := Aside0.mk hU
  have HT := Aside0.mk hT
  have hps : p < w.heap.size := blk_lt hL
  have HLw := HL
  clear hC hB hL hS hF hU hT
  go_enter Tryz.func25, Tryz.ntmps25
  go_upto_region 1 with fail
  obtain ⟨o, ho⟩ : ∃ o, o = Obj.cells #[.int .i64 62, .int .i64 i, .int .u64 f, .string S, .slice A kids.length c] 25 := ⟨_, rfl⟩
  obtain ⟨W1, hW1⟩ : ∃ W1, W1 = w.alloc o := ⟨_, rfl⟩
  obtain ⟨g, hg⟩ : ∃ g, g = w.heap.size := ⟨_, rfl⟩
  have hM1 : Mods (fun _ => False) w W1 := by rw [hW1]; exact (Mods.refl _ w).alloc _
  have hbk : W1.heap[g]? = some o := by rw [hW1, hg]; exact heap_alloc_new _ _
  rw [← ho, ← hW1, ← hg]
  have hgp : g ≠ p := by omega
  have hL1 : Left1 W1 p t n := hM1.blk HL.out id
  subst ho
  have hcz : W1.cell? ⟨p, 0, none⟩ = some (.int .i64 n) := (blk_cell hL1 0).trans rfl
  have hfz : W1.frozen? ⟨p, 0, none⟩ = false := blk_frozen hL1 0
  have HK := Aside0.mk hbk
  have HM := Aside0.mk hM1
  have HL1 := Aside0.mk hL1
  have HG := Aside0.mk hg
  clear hW1 hg hM1 hbk hL1
  go_upto_region 2 with fail
  obtain ⟨W2, hW2⟩ : ∃ W2, W2 = W1.setCell ⟨p, 0, none⟩ (.int .i64 (n - 1)) := ⟨_, rfl⟩
  have hL2 : Left1 W2 p t (n - 1) := by rw [hW2]; exact blk_set HL1.out 0 _
  have hM2 : Mods (· = p) w W2 := by rw [hW2]; exact (HM.out.mono (S' := (· = p)) (fun _ _ h => h.elim)).setCell (p := ⟨p, 0, none⟩) (.inl rfl) _
  have hbk2 : W2.heap[g]? = some (.cells #[.int .i64 62, .int .i64 i, .int .u64 f, .string S, .slice A kids.length c] 25 (0, 0)) := by
    rw [hW2]; exact ((Mods.refl (· = p) W1).setCell (p := ⟨p, 0, none⟩) (.inl rfl) _).blk HK.out hgp
  rw [← hW2]
  have hcz2 : W2.cell? ⟨p, 0, none⟩ = some (.int .i64 (n - 1)) := (blk_cell hL2 0).trans rfl
  have hk0 : W2.cell? ⟨g, 0, none⟩ = some (.int .i64 62) := (blk_cell hbk2 0).trans rfl
  have hk1 : W2.cell? ⟨g, 1, none⟩ = some (.int .i64 i) := (blk_cell hbk2 1).trans rfl
  have hk2 : W2.cell? ⟨g, 2, none⟩ = some (.int .u64 f) := (blk_cell hbk2 2).trans rfl
  have hk3 : W2.cell? ⟨g, 3, none⟩ = some (.string S) := (blk_cell hbk2 3).trans rfl
  have hk4 : W2.cell? ⟨g, 4, none⟩ = some (.slice A kids.length c) := (blk_cell hbk2 4).trans rfl
  have HL2 := Aside0.mk hL2
  have HM2 := Aside0.mk hM2
  have HK2 := Aside0.mk hbk2
  clear hL2 hM2 hbk2 hW2 hcz hfz HK HL1
  go_cut [33] from 21 to 32 (fun s33 wx => ∃ b : Bool, s33 = .bool b ∧ (b = false → 0 ≤ n - 1 ∧ deep ≤ 20) ∧ Aside0 (Below W2.heap.size W2 wx))
  case first =>
    by_cases hdp : (20 : Int) < deep
    · go_wp2
      go_meet
      exact ⟨true, rfl, fun h => (by cases h), ⟨Below.refl _ _⟩⟩
    · have hdp' : decide ((20 : Int) < deep) = false := decide_eq_false hdp
      by_cases hneg : n - 1 < 0
      · go_wp2
        go_meet
        exact ⟨true, rfl, fun h => (by cases h), ⟨Below.refl _ _⟩⟩
      · have hneg' : decide (n - 1 < 0) = false := decide_eq_false hneg
        go_wp2_with fail
        refine (bare_calls W2 62 i f S A kids.length c).mono ?_
        rintro e w3 ⟨b, rfl, hb⟩
        have HB3 := Aside0.mk hb
        clear hb
        go_wp2
        go_meet
        exact ⟨_, rfl, fun _ => ⟨by omega, by omega⟩, HB3⟩
  case rest =>
  obtain ⟨b, rfl, hb, HB3⟩ := hcut
  by_cases hbt : b = true
  · subst hbt
    go_wp2
    go_ret2
    exact ⟨_, false, n - 1, rfl, (Mods.of_below HB3.out).blk HL2.out id, HM2.out.then_below HB3.out, fun h => by cases h⟩
  obtain rfl : b = false := by simpa using hbt
  clear hbt
  obtain ⟨hnn, hdd⟩ := hb rfl
  clear hb hk0 hk1 hk2 hk3 hk4 hcz2
  have hk0 : wc.cell? ⟨g, 0, none⟩ = some (.int .i64 62) := (blk_cell ((Mods.of_below HB3.out).blk HK2.out id) 0).trans rfl
  have hk1 : wc.cell? ⟨g, 1, none⟩ = some (.int .i64 i) := (blk_cell ((Mods.of_below HB3.out).blk HK2.out id) 1).trans rfl
  have hk2 : wc.cell? ⟨g, 2, none⟩ = some (.int .u64 f) := (blk_cell ((Mods.of_below HB3.out).blk HK2.out id) 2).trans rfl
  have hk3 : wc.cell? ⟨g, 3, none⟩ = some (.string S) := (blk_cell ((Mods.of_below HB3.out).blk HK2.out id) 3).trans rfl
  have hk4 : wc.cell? ⟨g, 4, none⟩ = some (.slice A kids.length c) := (blk_cell ((Mods.of_below HB3.out).blk HK2.out id) 4).trans rfl
  have HL3 := Aside0.mk (show Left1 wc p t (n - 1) from (Mods.of_below HB3.out).blk HL2.out id)
  have HM3 := Aside0.mk (HM2.out.then_below HB3.out)
  have HK3 := Aside0.mk ((Mods.of_below HB3.out).blk HK2.out id)
  clear HL2 HM2 HK2 HL HM HB3
  have hcv := str_run (c := 1) (bytes_reads wc [62] #[.int .u8 62] rfl 1 rfl (by omega))
  go_upto_region 5 with fail
  obtain ⟨W4, hW4⟩ : ∃ W4, W4 = wc.alloc (.cells #[.int .u8 62] 5) := ⟨_, rfl⟩
  have hM4 : Mods (fun _ => False) wc W4 := by rw [hW4]; exact (Mods.refl _ _).alloc _
  obtain ⟨hd, hhd⟩ : ∃ hd, hd = strOfNums [62] := ⟨_, rfl⟩
  rw [← hW4, ← hhd]
  have HHD := Aside0.mk hhd
  have hds : hd.size = 1 := by rw [hhd, strOfNums_size]; rfl
  clear hcv hW4 hhd hk0 hk1 hk2 hk3 hk4
  have HK4 := Aside0.mk (hM4.blk HK3.out id)
  have hk0 : W4.cell? ⟨g, 0, none⟩ = some (.int .i64 62) := (blk_cell HK4.out 0).trans rfl
  have hk1 : W4.cell? ⟨g, 1, none⟩ = some (.int .i64 i) := (blk_cell HK4.out 1).trans rfl
  have hk2 : W4.cell? ⟨g, 2, none⟩ = some (.int .u64 f) := (blk_cell HK4.out 2).trans rfl
  have hk3 : W4.cell? ⟨g, 3, none⟩ = some (.string S) := (blk_cell HK4.out 3).trans rfl
  have hk4 : W4.cell? ⟨g, 4, none⟩ = some (.slice A kids.length c) := (blk_cell HK4.out 4).trans rfl
  have HL4 := Aside0.mk (show Left1 W4 p t (n - 1) from hM4.blk HL3.out id)
  have HM4 := Aside0.mk (HM3.out.then_below hM4.below)
  have hBW : Mods (· = p) w0 W4 := ((Mods.of_below HB.out).mono (S' := (· = p)) (fun _ _ h => h.elim)).trans HM4.out (fun _ _ h => h)
  have hB4 : Below w0.heap.size w0 W4 := ⟨hBW.os, hBW.tape, hBW.output, hBW.size, fun q hq => hBW.block q hq (by omega)⟩
  have HB4 := Aside0.mk hB4
  have HU4 := Aside0.mk (HU.out.stays hB4)
  have HT4 := Aside0.mk (HT.out.stays hB4)
  have h84 : 8 < W4.heap.size := Nat.lt_of_lt_of_le h8 hB4.size
  clear HL3 HM3 HK3 hM4 hBW hB4
  obtain ⟨hS1, hS2, hS3⟩ := small_here HS.out
  obtain ⟨hF0, hF1, hF2, hF3, hF4⟩ := fit_here HF.out
  have hkl0 : (kids.length : Int) ≤ 1000 := by omega
  have HS3 := Aside0.mk hS3
  have HF4 := Aside0.mk hF4
  clear hS3 hF4
  go_wp2_with fail
  refine (itoa_calls kids.length (by omega) _ HU4.out).mono ?_
  rintro e w5 ⟨tx, htx, rfl, hb5⟩
  have htxs : tx.size ≤ 7 := by have h1 := bytesOf_length tx; rw [htx] at h1; have h2 := decI_le kids.length (by omega); omega
  have hk4 : w5.cell? ⟨g, 4, none⟩ = some (.slice A kids.length c) := (Mods.of_below hb5).cell hk4 id
  have HL5 := Aside0.mk (show Left1 w5 p t (n - 1) from (Mods.of_below hb5).blk HL4.out id)
  have HM5 := Aside0.mk (HM4.out.then_below hb5)
  have HTX := Aside0.mk htx
  clear htx hb5 hk0 hk1 hk2 hk3 HL4 HM4 HK4 HB4 HU4 HT4
  go_wp2_with fail
  go_loopw [6, 7, 11, 13, 14, 15, 200] (fun v6 v7 v11 _ _ _ v200 wr => ∃ (j : Nat) (nk : Int) (out : ByteArray), v6 = .string ⟨#[]⟩ ∧ v7 = .bool false ∧ v11 = .string out ∧ v200 = .int .i64 j ∧ j ≤ kids.length ∧ 0 ≤ nk ∧ nk + 1 + j ≤ n ∧ (out.size : Int) ≤ 2000 * (n - nk) ∧ Aside0 (Left1 wr p t nk) ∧ Aside0 (Mods (· = p) w wr) ∧ Aside0 (∃ texts : List (List Int), bytesOf out = 62 :: decI kids.length ++ [13, 10] ++ texts.flatten ∧ texts.length = j ∧ ((∀ y ∈ kids, NoBar y) → ∀ t ∈ texts, Rep t))) (fun _ _ _ _ _ _ v200 _ => kids.length - (intOf v200).toNat)
  case atStart =>
    refine ⟨0, n - 1, _, rfl, rfl, rfl, rfl, Nat.zero_le _, by omega, by omega, ?_, HL5, HM5, ⟨[], ?_, rfl, fun _ t ht => by cases ht⟩⟩
    · have e2 : (ByteArray.mk #[13, 10]).size = 2 := rfl
      simp only [ByteArray.size_append, e2]; omega
    · have ec : bytesOf ⟨#[13, 10]⟩ = [13, 10] := rfl
      rw [bytes_app, bytes_app, HHD.out, bytes_str (xs := [62]) (by decide), HTX.out, ec]; simp
  case round =>
    obtain ⟨j, nk, out, rfl, rfl, rfl, rfl, hj, hnk0, hnk1, hsz, HLk, HMk, HSk⟩ := hrel
    have hsz2 : (out.size : Int) ≤ 4000000 := by omega
    by_cases hkl : j < kids.length
    · have q0 : (0 : Int) ≤ (j : Int) := by omega
      have q1 : (j : Int) < (kids.length : Int) := by omega
      obtain ⟨ad, A4, c4, e, h0, h1, h2, h3, h4, hl4, hi4⟩ := at_T25 HC.out j q0 q1
      cases e
      rw [Int.toNat_natCast] at h0 h1 h2 h3 h4
      have hty : ∀ (q : Addr) (u : Value), w0.cell? q = some u → wr.cell? q = some u := fun q u hq => by
        have hlt := World.block_lt_of_cell? w0 q hq
        exact HMk.out.cell ((Mods.of_below HB.out).cell hq id) (by omega)
      replace h0 := hty _ _ h0
      replace h1 := hty _ _ h1
      replace h2 := hty _ _ h2
      replace h3 := hty _ _ h3
      replace h4 := hty _ _ h4
      have hyt : TreeAt w0 (rd_T25 kids j) (.agg #[.int .i64 (rd_T25 kids j).f0, .int .i64 (rd_T25 kids j).f1, .int .u64 (rd_T25 kids j).f2, .string (rd_T25 kids j).f3, .slice A4 (rd_T25 kids j).f4.length c4]) := ⟨A4, c4, rfl, hl4, hi4⟩
      have HY := Aside0.mk hyt
      clear hyt hl4 hi4 hty
      obtain ⟨y, hy⟩ : ∃ y, y = rd_T25 kids j := ⟨_, rfl⟩
      rw [← hy] at h0 h1 h2 h3 h4 HY
      have hym : y ∈ kids := by rw [hy]; show kids.getD j z25 ∈ _; simp [List.getD, hkl]
      have HYM := Aside0.mk hym
      clear hy hym
      obtain ⟨oy, hoy⟩ : ∃ oy, oy = Obj.cells #[.int .i64 y.f0, .int .i64 y.f1, .int .u64 y.f2, .string y.f3, .slice A4 y.f4.length c4] 25 := ⟨_, rfl⟩
      have hbel : Below w0.heap.size w0 (wr.alloc oy) := by
        have h1 : Mods (· = p) w0 wr := ((Mods.of_below HB.out).mono (S' := (· = p)) (fun _ _ h => h.elim)).trans HMk.out (fun _ _ h => h)
        have h2 := h1.alloc oy
        exact ⟨h2.os, h2.tape, h2.output, h2.size, fun q hq => h2.block q hq (by omega)⟩
      have hlk : Left1 (wr.alloc oy) p t nk := ((Mods.refl (fun _ => False) wr).alloc oy).blk HLk.out id
      have hcl := HI.out y HYM.out w0 (wr.alloc oy) _ p t nk (deep + 1) HY.out hbel h8 hp hlk (by omega) (by omega) (by omega) (by omega) (HS3.out y HYM.out) (HF4.out y HYM.out) HU.out HT.out
      rw [hoy] at hcl
      have HCL := Aside0.mk hcl
      have HLK := Aside0.mk hlk
      clear hcl hlk hbel
      go_wp2_with fail
      refine HCL.out.mono ?_
      rintro e w6 ⟨s, b, n', rfl, hl6, hm6, hb6⟩
      have HL6 := Aside0.mk hl6
      have HM6 := Aside0.mk ((HMk.out.alloc _).trans hm6 (fun _ _ h => h))
      have HB6 := Aside0.mk hb6
      clear hl6 hm6 hb6
      cases b
      · go_wp2
        go_ret2
        exact ⟨_, false, _, rfl, HL6.out, HM6.out, fun h => by cases h⟩
      · obtain ⟨hn0', n0, hl0, hlt, hss, hrep⟩ := HB6.out rfl
        have en : n0 = nk := left1_inj hl0 (by rw [← hoy]; exact HLK.out)
        have hlt' : n' < nk := by omega
        have hss' : (s.size : Int) ≤ 2000 * (nk - n') := by omega
        have hss2 : (s.size : Int) ≤ 4000000 := by omega
        have HREP := Aside0.mk hrep
        clear hrep hl0 en hlt hss HCL HB6 hoy
        go_wp2_with fail
        go_roundw
        case measure => simp [intOf]; omega
        case rel =>
          refine ⟨j + 1, n', _, rfl, rfl, rfl, by go_num, by omega, hn0', by omega, ?_, HL6, HM6, ?_⟩
          · simp only [ByteArray.size_append]; omega
          · obtain ⟨texts, h1, h2, h3⟩ := HSk.out
            refine ⟨texts ++ [bytesOf s], ?_, by simp [h2], fun hNB t ht => ?_⟩
            · rw [bytes_app, h1]; simp
            · rcases List.mem_append.1 ht with ht | ht
              · exact h3 hNB t ht
              · rw [List.mem_singleton.1 ht]; exact HREP.out (hNB y HYM.out)
    · have hkl' : decide ((j : Int) < (kids.length : Int)) = false := decide_eq_false (by omega)
      have hke : j = kids.length := by omega
      have HKE := Aside0.mk hke
      clear hke
      go_wp2
      go_ret2
      refine ⟨_, true, _, rfl, HLk.out, HMk.out, fun _ => ⟨hnk0, n, HLw.out, by omega, hsz, fun hNB => ?_⟩⟩
      obtain ⟨hnb0, hnb⟩ := nobar_here hNB
      obtain ⟨texts, h1, h2, h3⟩ := HSk.out
      rw [h1, ← HKE.out, ← h2]
      exact Rep.list 62 texts (by decide) (by omega) (h3 hnb)
end

section
open Go.RowKit Go.Proofs.YtmdlmjjggjemdaaGreatDoorW.PrintWords Go.Proofs.YtmdlmjjggjemdaaGreatDoorW.PrintMore Go.Proofs.YtmdlmjjggjemdaaGreatDoorW.PrintLast Go.Proofs.YtmdlmjjggjemdaaGreatDoor.PFnRespRaw
attribute [local go_sem] max2_int min2_int max_two min_two max_three min_three max_four min_four
set_option linter.unusedVariables false
set_option linter.unusedSimpArgs false

set_option maxHeartbeats 8000000 in
set_option maxRecDepth 100000 in
theorem write_37 (i f : Int) (S : ByteArray) (kids : List S25) (ih : ∀ y ∈ kids, WriteOK y) : WriteOK ⟨37, i, f, S, kids⟩ := by
  have HI := Aside0.mk ih
  clear ih
  intro w0 w v p t n deep hx hB h8 hp hL hn0 hn1 hd0 hd1 hS hF hU hT
  obtain ⟨A, c, rfl, hc, hC⟩ := hx
  have HC := Aside0.mk hC
  have HB := Aside0.mk hB
  have HL := Aside0.mk hL
  have HS := Aside0.mk hS
  have HF := Aside0.mk hF
  have HU := Aside0.mk hU
  have HT := Aside0.mk hT
  have hps : p < w.heap.size := blk_lt hL
  have HLw := HL
  clear hC hB hL hS hF hU hT
  go_enter Tryz.func25, Tryz.ntmps25
  go_upto_region 1 with fail
  obtain ⟨o, ho⟩ : ∃ o, o = Obj.cells #[.int .i64 37, .int .i64 i, .int .u64 f, .string S, .slice A kids.length c] 25 := ⟨_, rfl⟩
  obtain ⟨W1, hW1⟩ : ∃ W1, W1 = w.alloc o := ⟨_, rfl⟩
  obtain ⟨g, hg⟩ : ∃ g, g = w.heap.size := ⟨_, rfl⟩
  have hM1 : Mods (fun _ => False) w W1 := by rw [hW1]; exact (Mods.refl _ w).alloc _
  have hbk : W1.heap[g]? = some o := by rw [hW1, hg]; exact heap_alloc_new _ _
  rw [← ho, ← hW1, ← hg]
  have hgp : g ≠ p := by omega
  have hL1 : Left1 W1 p t n := hM1.blk HL.out id
  subst ho
  have hcz : W1.cell? ⟨p, 0, none⟩ = some (.int .i64 n) := (blk_cell hL1 0).trans rfl
  have hfz : W1.frozen? ⟨p, 0, none⟩ = false := blk_frozen hL1 0
  have HK := Aside0.mk hbk
  have HM := Aside0.mk hM1
  have HL1 := Aside0.mk hL1
  have HG := Aside0.mk hg
  clear hW1 hg hM1 hbk hL1
  go_upto_region 2 with fail
  obtain ⟨W2, hW2⟩ : ∃ W2, W2 = W1.setCell ⟨p, 0, none⟩ (.int .i64 (n - 1)) := ⟨_, rfl⟩
  have hL2 : Left1 W2 p t (n - 1) := by rw [hW2]; exact blk_set HL1.out 0 _
  have hM2 : Mods (· = p) w W2 := by rw [hW2]; exact (HM.out.mono (S' := (· = p)) (fun _ _ h => h.elim)).setCell (p := ⟨p, 0, none⟩) (.inl rfl) _
  have hbk2 : W2.heap[g]? = some (.cells #[.int .i64 37, .int .i64 i, .int .u64 f, .string S, .slice A kids.length c] 25 (0, 0)) := by
    rw [hW2]; exact ((Mods.refl (· = p) W1).setCell (p := ⟨p, 0, none⟩) (.inl rfl) _).blk HK.out hgp
  rw [← hW2]
  have hcz2 : W2.cell? ⟨p, 0, none⟩ = some (.int .i64 (n - 1)) := (blk_cell hL2 0).trans rfl
  have hk0 : W2.cell? ⟨g, 0, none⟩ = some (.int .i64 37) := (blk_cell hbk2 0).trans rfl
  have hk1 : W2.cell? ⟨g, 1, none⟩ = some (.int .i64 i) := (blk_cell hbk2 1).trans rfl
  have hk2 : W2.cell? ⟨g, 2, none⟩ = some (.int .u64 f) := (blk_cell hbk2 2).trans rfl
  have hk3 : W2.cell? ⟨g, 3, none⟩ = some (.string S) := (blk_cell hbk2 3).trans rfl
  have hk4 : W2.cell? ⟨g, 4, none⟩ = some (.slice A kids.length c) := (blk_cell hbk2 4).trans rfl
  have HL2 := Aside0.mk hL2
  have HM2 := Aside0.mk hM2
  have HK2 := Aside0.mk hbk2
  clear hL2 hM2 hbk2 hW2 hcz hfz HK HL1
  go_cut [33] from 21 to 32 (fun s33 wx => ∃ b : Bool, s33 = .bool b ∧ (b = false → 0 ≤ n - 1 ∧ deep ≤ 20) ∧ Aside0 (Below W2.heap.size W2 wx))
  case first =>
    by_cases hdp : (20 : Int) < deep
    · go_wp2
      go_meet
      exact ⟨true, rfl, fun h => (by cases h), ⟨Below.refl _ _⟩⟩
    · have hdp' : decide ((20 : Int) < deep) = false := decide_eq_false hdp
      by_cases hneg : n - 1 < 0
      · go_wp2
        go_meet
        exact ⟨true, rfl, fun h => (by cases h), ⟨Below.refl _ _⟩⟩
      · have hneg' : decide (n - 1 < 0) = false := decide_eq_false hneg
        go_wp2_with fail
        refine (bare_calls W2 37 i f S A kids.length c).mono ?_
        rintro e w3 ⟨b, rfl, hb⟩
        have HB3 := Aside0.mk hb
        clear hb
        go_wp2
        go_meet
        exact ⟨_, rfl, fun _ => ⟨by omega, by omega⟩, HB3⟩
  case rest =>
  obtain ⟨b, rfl, hb, HB3⟩ := hcut
  by_cases hbt : b = true
  · subst hbt
    go_wp2
    go_ret2
    exact ⟨_, false, n - 1, rfl, (Mods.of_below HB3.out).blk HL2.out id, HM2.out.then_below HB3.out, fun h => by cases h⟩
  obtain rfl : b = false := by simpa using hbt
  clear hbt
  obtain ⟨hnn, hdd⟩ := hb rfl
  clear hb hk0 hk1 hk2 hk3 hk4 hcz2
  have hk0 : wc.cell? ⟨g, 0, none⟩ = some (.int .i64 37) := (blk_cell ((Mods.of_below HB3.out).blk HK2.out id) 0).trans rfl
  have hk1 : wc.cell? ⟨g, 1, none⟩ = some (.int .i64 i) := (blk_cell ((Mods.of_below HB3.out).blk HK2.out id) 1).trans rfl
  have hk2 : wc.cell? ⟨g, 2, none⟩ = some (.int .u64 f) := (blk_cell ((Mods.of_below HB3.out).blk HK2.out id) 2).trans rfl
  have hk3 : wc.cell? ⟨g, 3, none⟩ = some (.string S) := (blk_cell ((Mods.of_below HB3.out).blk HK2.out id) 3).trans rfl
  have hk4 : wc.cell? ⟨g, 4, none⟩ = some (.slice A kids.length c) := (blk_cell ((Mods.of_below HB3.out).blk HK2.out id) 4).trans rfl
  have HL3 := Aside0.mk (show Left1 wc p t (n - 1) from (Mods.of_below HB3.out).blk HL2.out id)
  have HM3 := Aside0.mk (HM2.out.then_below HB3.out)
  have HK3 := Aside0.mk ((Mods.of_below HB3.out).blk HK2.out id)
  clear HL2 HM2 HK2 HL HM HB3
  have hcv := str_run (c := 1) (bytes_reads wc [37] #[.int .u8 37] rfl 1 rfl (by omega))
  go_upto_region 5 with fail
  obtain ⟨W4, hW4⟩ : ∃ W4, W4 = wc.alloc (.cells #[.int .u8 37] 5) := ⟨_, rfl⟩
  have hM4 : Mods (fun _ => False) wc W4 := by rw [hW4]; exact (Mods.refl _ _).alloc _
  obtain ⟨hd, hhd⟩ : ∃ hd, hd = strOfNums [37] := ⟨_, rfl⟩
  rw [← hW4, ← hhd]
  have HHD := Aside0.mk hhd
  have hds : hd.size = 1 := by rw [hhd, strOfNums_size]; rfl
  clear hcv hW4 hhd hk0 hk1 hk2 hk3 hk4
  have HK4 := Aside0.mk (hM4.blk HK3.out id)
  have hk0 : W4.cell? ⟨g, 0, none⟩ = some (.int .i64 37) := (blk_cell HK4.out 0).trans rfl
  have hk1 : W4.cell? ⟨g, 1, none⟩ = some (.int .i64 i) := (blk_cell HK4.out 1).trans rfl
  have hk2 : W4.cell? ⟨g, 2, none⟩ = some (.int .u64 f) := (blk_cell HK4.out 2).trans rfl
  have hk3 : W4.cell? ⟨g, 3, none⟩ = some (.string S) := (blk_cell HK4.out 3).trans rfl
  have hk4 : W4.cell? ⟨g, 4, none⟩ = some (.slice A kids.length c) := (blk_cell HK4.out 4).trans rfl
  have HL4 := Aside0.mk (show Left1 W4 p t (n - 1) from hM4.blk HL3.out id)
  have HM4 := Aside0.mk (HM3.out.then_below hM4.below)
  have hBW : Mods (· = p) w0 W4 := ((Mods.of_below HB.out).mono (S' := (· = p)) (fun _ _ h => h.elim)).trans HM4.out (fun _ _ h => h)
  have hB4 : Below w0.heap.size w0 W4 := ⟨hBW.os, hBW.tape, hBW.output, hBW.size, fun q hq => hBW.block q hq (by omega)⟩
  have HB4 := Aside0.mk hB4
  have HU4 := Aside0.mk (HU.out.stays hB4)
  have HT4 := Aside0.mk (HT.out.stays hB4)
  have h84 : 8 < W4.heap.size := Nat.lt_of_lt_of_le h8 hB4.size
  clear HL3 HM3 HK3 hM4 hBW hB4
  obtain ⟨hS1, hS2, hS3⟩ := small_here HS.out
  obtain ⟨hF0, hF1, hF2, hF3, hF4⟩ := fit_here HF.out
  have hkl0 : (kids.length : Int) ≤ 1000 := by omega
  have HS3 := Aside0.mk hS3
  have HF4 := Aside0.mk hF4
  clear hS3 hF4
  by_cases hod : (kids.length : Int) % 2 = 0
  case neg =>
    have hod' : ((kids.length : Int) % 2 != 0) = true := bne_iff_ne.mpr hod
    clear hod
    go_wp2
    go_ret2
    exact ⟨_, _, _, rfl, HL4.out, HM4.out, fun h => by cases h⟩
  have hod' : ((kids.length : Int) % 2 != 0) = false := bne_eq_false_iff_eq.mpr hod
  have hev : kids.length = 2 * (kids.length / 2) := by omega
  have HEV := Aside0.mk hev
  clear hod hev
  go_wp2_with fail
  rw [show ((kids.length : Int) / 2) = ((kids.length / 2 : Nat) : Int) by omega]
  refine (itoa_calls (kids.length / 2) (by omega) _ HU4.out).mono ?_
  rintro e w5 ⟨tx, htx, rfl, hb5⟩
  have htxs : tx.size ≤ 7 := by have h1 := bytesOf_length tx; rw [htx] at h1; have h2 := decI_le (kids.length / 2) (by omega); omega
  have hk4 : w5.cell? ⟨g, 4, none⟩ = some (.slice A kids.length c) := (Mods.of_below hb5).cell hk4 id
  have HL5 := Aside0.mk (show Left1 w5 p t (n - 1) from (Mods.of_below hb5).blk HL4.out id)
  have HM5 := Aside0.mk (HM4.out.then_below hb5)
  have HTX := Aside0.mk htx
  clear htx hb5 hk0 hk1 hk2 hk3 HL4 HM4 HK4 HB4 HU4 HT4
  go_wp2_with fail
  go_loopw [6, 7, 11, 13, 14, 15, 200] (fun v6 v7 v11 _ _ _ v200 wr => ∃ (j : Nat) (nk : Int) (out : ByteArray), v6 = .string ⟨#[]⟩ ∧ v7 = .bool false ∧ v11 = .string out ∧ v200 = .int .i64 j ∧ j ≤ kids.length ∧ 0 ≤ nk ∧ nk + 1 + j ≤ n ∧ (out.size : Int) ≤ 2000 * (n - nk) ∧ Aside0 (Left1 wr p t nk) ∧ Aside0 (Mods (· = p) w wr) ∧ Aside0 (∃ texts : List (List Int), bytesOf out = 37 :: decI (kids.length / 2) ++ [13, 10] ++ texts.flatten ∧ texts.length = j ∧ ((∀ y ∈ kids, NoBar y) → ∀ t ∈ texts, Rep t))) (fun _ _ _ _ _ _ v200 _ => kids.length - (intOf v200).toNat)
  case atStart =>
    refine ⟨0, n - 1, _, rfl, rfl, rfl, rfl, Nat.zero_le _, by omega, by omega, ?_, HL5, HM5, ⟨[], ?_, rfl, fun _ t ht => by cases ht⟩⟩
    · have e2 : (ByteArray.mk #[13, 10]).size = 2 := rfl
      simp only [ByteArray.size_append, e2]; omega
    · have ec : bytesOf ⟨#[13, 10]⟩ = [13, 10] := rfl
      rw [bytes_app, bytes_app, HHD.out, bytes_str (xs := [37]) (by decide), HTX.out, ec]; simp
  case round =>
    obtain ⟨j, nk, out, rfl, rfl, rfl, rfl, hj, hnk0, hnk1, hsz, HLk, HMk, HSk⟩ := hrel
    have hsz2 : (out.size : Int) ≤ 4000000 := by omega
    by_cases hkl : j < kids.length
    · have q0 : (0 : Int) ≤ (j : Int) := by omega
      have q1 : (j : Int) < (kids.length : Int) := by omega
      obtain ⟨ad, A4, c4, e, h0, h1, h2, h3, h4, hl4, hi4⟩ := at_T25 HC.out j q0 q1
      cases e
      rw [Int.toNat_natCast] at h0 h1 h2 h3 h4
      have hty : ∀ (q : Addr) (u : Value), w0.cell? q = some u → wr.cell? q = some u := fun q u hq => by
        have hlt := World.block_lt_of_cell? w0 q hq
        exact HMk.out.cell ((Mods.of_below HB.out).cell hq id) (by omega)
      replace h0 := hty _ _ h0
      replace h1 := hty _ _ h1
      replace h2 := hty _ _ h2
      replace h3 := hty _ _ h3
      replace h4 := hty _ _ h4
      have hyt : TreeAt w0 (rd_T25 kids j) (.agg #[.int .i64 (rd_T25 kids j).f0, .int .i64 (rd_T25 kids j).f1, .int .u64 (rd_T25 kids j).f2, .string (rd_T25 kids j).f3, .slice A4 (rd_T25 kids j).f4.length c4]) := ⟨A4, c4, rfl, hl4, hi4⟩
      have HY := Aside0.mk hyt
      clear hyt hl4 hi4 hty
      obtain ⟨y, hy⟩ : ∃ y, y = rd_T25 kids j := ⟨_, rfl⟩
      rw [← hy] at h0 h1 h2 h3 h4 HY
      have hym : y ∈ kids := by rw [hy]; show kids.getD j z25 ∈ _; simp [List.getD, hkl]
      have HYM := Aside0.mk hym
      clear hy hym
      obtain ⟨oy, hoy⟩ : ∃ oy, oy = Obj.cells #[.int .i64 y.f0, .int .i64 y.f1, .int .u64 y.f2, .string y.f3, .slice A4 y.f4.length c4] 25 := ⟨_, rfl⟩
      have hbel : Below w0.heap.size w0 (wr.alloc oy) := by
        have h1 : Mods (· = p) w0 wr := ((Mods.of_below HB.out).mono (S' := (· = p)) (fun _ _ h => h.elim)).trans HMk.out (fun _ _ h => h)
        have h2 := h1.alloc oy
        exact ⟨h2.os, h2.tape, h2.output, h2.size, fun q hq => h2.block q hq (by omega)⟩
      have hlk : Left1 (wr.alloc oy) p t nk := ((Mods.refl (fun _ => False) wr).alloc oy).blk HLk.out id
      have hcl := HI.out y HYM.out w0 (wr.alloc oy) _ p t nk (deep + 1) HY.out hbel h8 hp hlk (by omega) (by omega) (by omega) (by omega) (HS3.out y HYM.out) (HF4.out y HYM.out) HU.out HT.out
      rw [hoy] at hcl
      have HCL := Aside0.mk hcl
      have HLK := Aside0.mk hlk
      clear hcl hlk hbel
      go_wp2_with fail
      refine HCL.out.mono ?_
      rintro e w6 ⟨s, b, n', rfl, hl6, hm6, hb6⟩
      have HL6 := Aside0.mk hl6
      have HM6 := Aside0.mk ((HMk.out.alloc _).trans hm6 (fun _ _ h => h))
      have HB6 := Aside0.mk hb6
      clear hl6 hm6 hb6
      cases b
      · go_wp2
        go_ret2
        exact ⟨_, false, _, rfl, HL6.out, HM6.out, fun h => by cases h⟩
      · obtain ⟨hn0', n0, hl0, hlt, hss, hrep⟩ := HB6.out rfl
        have en : n0 = nk := left1_inj hl0 (by rw [← hoy]; exact HLK.out)
        have hlt' : n' < nk := by omega
        have hss' : (s.size : Int) ≤ 2000 * (nk - n') := by omega
        have hss2 : (s.size : Int) ≤ 4000000 := by omega
        have HREP := Aside0.mk hrep
        clear hrep hl0 en hlt hss HCL HB6 hoy
        go_wp2_with fail
        go_roundw
        case measure => simp [intOf]; omega
        case rel =>
          refine ⟨j + 1, n', _, rfl, rfl, rfl, by go_num, by omega, hn0', by omega, ?_, HL6, HM6, ?_⟩
          · simp only [ByteArray.size_append]; omega
          · obtain ⟨texts, h1, h2, h3⟩ := HSk.out
            refine ⟨texts ++ [bytesOf s], ?_, by simp [h2], fun hNB t ht => ?_⟩
            · rw [bytes_app, h1]; simp
            · rcases List.mem_append.1 ht with ht | ht
              · exact h3 hNB t ht
              · rw [List.mem_singleton.1 ht]; exact HREP.out (hNB y HYM.out)
    · have hkl' : decide ((j : Int) < (kids.length : Int)) = false := decide_eq_false (by omega)
      have hke : j = kids.length := by omega
      have HKE := Aside0.mk hke
      clear hke
      go_wp2
      go_ret2
      refine ⟨_, true, _, rfl, HLk.out, HMk.out, fun _ => ⟨hnk0, n, HLw.out, by omega, hsz, fun hNB => ?_⟩⟩
      obtain ⟨hnb0, hnb⟩ := nobar_here hNB
      obtain ⟨texts, h1, h2, h3⟩ := HSk.out
      rw [h1]
      exact Rep.map _ texts (by rw [h2, HKE.out]; exact HEV.out) (by omega) (h3 hnb)
end

section
open Go.RowKit Go.Proofs.YtmdlmjjggjemdaaGreatDoorW.PrintWords Go.Proofs.YtmdlmjjggjemdaaGreatDoorW.PrintMore Go.Proofs.YtmdlmjjggjemdaaGreatDoorW.PrintLast Go.Proofs.YtmdlmjjggjemdaaGreatDoor.PFnRespRaw
attribute [local go_sem] max2_int min2_int max_two min_two max_three min_three max_four min_four
set_option linter.unusedVariables false
set_option linter.unusedSimpArgs false

set_option maxHeartbeats 8000000 in
set_option maxRecDepth 100000 in
theorem write_124 (i f : Int) (S : ByteArray) (kids : List S25) (ih : ∀ y ∈ kids, WriteOK y) : WriteOK ⟨124, i, f, S, kids⟩ := by
  have HI := Aside0.mk ih
  clear ih
  intro w0 w v p t n deep hx hB h8 hp hL hn0 hn1 hd0 hd1 hS hF hU hT
  obtain ⟨A, c, rfl, hc, hC⟩ := hx
  have HC := Aside0.mk hC
  have HB := Aside0.mk hB
  have HL := Aside0.mk hL
  have HS := Aside0.mk hS
  have HF := Aside0.mk hF
  have HU := Aside0.mk hU
  have HT := Aside0.mk hT
  have hps : p < w.heap.size := blk_lt hL
  have HLw := HL
  clear hC hB hL hS hF hU hT
  go_enter Tryz.func25, Tryz.ntmps25
  go_upto_region 1 with fail
  obtain ⟨o, ho⟩ : ∃ o, o = Obj.cells #[.int .i64 124, .int .i64 i, .int .u64 f, .string S, .slice A kids.length c] 25 := ⟨_, rfl⟩
  obtain ⟨W1, hW1⟩ : ∃ W1, W1 = w.alloc o := ⟨_, rfl⟩
  obtain ⟨g, hg⟩ : ∃ g, g = w.heap.size := ⟨_, rfl⟩
  have hM1 : Mods (fun _ => False) w W1 := by rw [hW1]; exact (Mods.refl _ w).alloc _
  have hbk : W1.heap[g]? = some o := by rw [hW1, hg]; exact heap_alloc_new _ _
  rw [← ho, ← hW1, ← hg]
  have hgp : g ≠ p := by omega
  have hL1 : Left1 W1 p t n := hM1.blk HL.out id
  subst ho
  have hcz : W1.cell? ⟨p, 0, none⟩ = some (.int .i64 n) := (blk_cell hL1 0).trans rfl
  have hfz : W1.frozen? ⟨p, 0, none⟩ = false := blk_frozen hL1 0
  have HK := Aside0.mk hbk
  have HM := Aside0.mk hM1
  have HL1 := Aside0.mk hL1
  have HG := Aside0.mk hg
  clear hW1 hg hM1 hbk hL1
  go_upto_region 2 with fail
  obtain ⟨W2, hW2⟩ : ∃ W2, W2 = W1.setCell ⟨p, 0, none⟩ (.int .i64 (n - 1)) := ⟨_, rfl⟩
  have hL2 : Left1 W2 p t (n - 1) := by rw [hW2]; exact blk_set HL1.out 0 _
  have hM2 : Mods (· = p) w W2 := by rw [hW2]; exact (HM.out.mono (S' := (· = p)) (fun _ _ h => h.elim)).setCell (p := ⟨p, 0, none⟩) (.inl rfl) _
  have hbk2 : W2.heap[g]? = some (.cells #[.int .i64 124, .int .i64 i, .int .u64 f, .string S, .slice A kids.length c] 25 (0, 0)) := by
    rw [hW2]; exact ((Mods.refl (· = p) W1).setCell (p := ⟨p, 0, none⟩) (.inl rfl) _).blk HK.out hgp
  rw [← hW2]
  have hcz2 : W2.cell? ⟨p, 0, none⟩ = some (.int .i64 (n - 1)) := (blk_cell hL2 0).trans rfl
  have hk0 : W2.cell? ⟨g, 0, none⟩ = some (.int .i64 124) := (blk_cell hbk2 0).trans rfl
  have hk1 : W2.cell? ⟨g, 1, none⟩ = some (.int .i64 i) := (blk_cell hbk2 1).trans rfl
  have hk2 : W2.cell? ⟨g, 2, none⟩ = some (.int .u64 f) := (blk_cell hbk2 2).trans rfl
  have hk3 : W2.cell? ⟨g, 3, none⟩ = some (.string S) := (blk_cell hbk2 3).trans rfl
  have hk4 : W2.cell? ⟨g, 4, none⟩ = some (.slice A kids.length c) := (blk_cell hbk2 4).trans rfl
  have HL2 := Aside0.mk hL2
  have HM2 := Aside0.mk hM2
  have HK2 := Aside0.mk hbk2
  clear hL2 hM2 hbk2 hW2 hcz hfz HK HL1
  go_cut [33] from 21 to 32 (fun s33 wx => ∃ b : Bool, s33 = .bool b ∧ (b = false → 0 ≤ n - 1 ∧ deep ≤ 20) ∧ Aside0 (Below W2.heap.size W2 wx))
  case first =>
    by_cases hdp : (20 : Int) < deep
    · go_wp2
      go_meet
      exact ⟨true, rfl, fun h => (by cases h), ⟨Below.refl _ _⟩⟩
    · have hdp' : decide ((20 : Int) < deep) = false := decide_eq_false hdp
      by_cases hneg : n - 1 < 0
      · go_wp2
        go_meet
        exact ⟨true, rfl, fun h => (by cases h), ⟨Below.refl _ _⟩⟩
      · have hneg' : decide (n - 1 < 0) = false := decide_eq_false hneg
        go_wp2_with fail
        refine (bare_calls W2 124 i f S A kids.length c).mono ?_
        rintro e w3 ⟨b, rfl, hb⟩
        have HB3 := Aside0.mk hb
        clear hb
        go_wp2
        go_meet
        exact ⟨_, rfl, fun _ => ⟨by omega, by omega⟩, HB3⟩
  case rest =>
  obtain ⟨b, rfl, hb, HB3⟩ := hcut
  by_cases hbt : b = true
  · subst hbt
    go_wp2
    go_ret2
    exact ⟨_, false, n - 1, rfl, (Mods.of_below HB3.out).blk HL2.out id, HM2.out.then_below HB3.out, fun h => by cases h⟩
  obtain rfl : b = false := by simpa using hbt
  clear hbt
  obtain ⟨hnn, hdd⟩ := hb rfl
  clear hb hk0 hk1 hk2 hk3 hk4 hcz2
  have hk0 : wc.cell? ⟨g, 0, none⟩ = some (.int .i64 124) := (blk_cell ((Mods.of_below HB3.out).blk HK2.out id) 0).trans rfl
  have hk1 : wc.cell? ⟨g, 1, none⟩ = some (.int .i64 i) := (blk_cell ((Mods.of_below HB3.out).blk HK2.out id) 1).trans rfl
  have hk2 : wc.cell? ⟨g, 2, none⟩ = some (.int .u64 f) := (blk_cell ((Mods.of_below HB3.out).blk HK2.out id) 2).trans rfl
  have hk3 : wc.cell? ⟨g, 3, none⟩ = some (.string S) := (blk_cell ((Mods.of_below HB3.out).blk HK2.out id) 3).trans rfl
  have hk4 : wc.cell? ⟨g, 4, none⟩ = some (.slice A kids.length c) := (blk_cell ((Mods.of_below HB3.out).blk HK2.out id) 4).trans rfl
  have HL3 := Aside0.mk (show Left1 wc p t (n - 1) from (Mods.of_below HB3.out).blk HL2.out id)
  have HM3 := Aside0.mk (HM2.out.then_below HB3.out)
  have HK3 := Aside0.mk ((Mods.of_below HB3.out).blk HK2.out id)
  clear HL2 HM2 HK2 HL HM HB3
  have hcv := str_run (c := 1) (bytes_reads wc [124] #[.int .u8 124] rfl 1 rfl (by omega))
  go_upto_region 5 with fail
  obtain ⟨W4, hW4⟩ : ∃ W4, W4 = wc.alloc (.cells #[.int .u8 124] 5) := ⟨_, rfl⟩
  have hM4 : Mods (fun _ => False) wc W4 := by rw [hW4]; exact (Mods.refl _ _).alloc _
  obtain ⟨hd, hhd⟩ : ∃ hd, hd = strOfNums [124] := ⟨_, rfl⟩
  rw [← hW4, ← hhd]
  have HHD := Aside0.mk hhd
  have hds : hd.size = 1 := by rw [hhd, strOfNums_size]; rfl
  clear hcv hW4 hhd hk0 hk1 hk2 hk3 hk4
  have HK4 := Aside0.mk (hM4.blk HK3.out id)
  have hk0 : W4.cell? ⟨g, 0, none⟩ = some (.int .i64 124) := (blk_cell HK4.out 0).trans rfl
  have hk1 : W4.cell? ⟨g, 1, none⟩ = some (.int .i64 i) := (blk_cell HK4.out 1).trans rfl
  have hk2 : W4.cell? ⟨g, 2, none⟩ = some (.int .u64 f) := (blk_cell HK4.out 2).trans rfl
  have hk3 : W4.cell? ⟨g, 3, none⟩ = some (.string S) := (blk_cell HK4.out 3).trans rfl
  have hk4 : W4.cell? ⟨g, 4, none⟩ = some (.slice A kids.length c) := (blk_cell HK4.out 4).trans rfl
  have HL4 := Aside0.mk (show Left1 W4 p t (n - 1) from hM4.blk HL3.out id)
  have HM4 := Aside0.mk (HM3.out.then_below hM4.below)
  have hBW : Mods (· = p) w0 W4 := ((Mods.of_below HB.out).mono (S' := (· = p)) (fun _ _ h => h.elim)).trans HM4.out (fun _ _ h => h)
  have hB4 : Below w0.heap.size w0 W4 := ⟨hBW.os, hBW.tape, hBW.output, hBW.size, fun q hq => hBW.block q hq (by omega)⟩
  have HB4 := Aside0.mk hB4
  have HU4 := Aside0.mk (HU.out.stays hB4)
  have HT4 := Aside0.mk (HT.out.stays hB4)
  have h84 : 8 < W4.heap.size := Nat.lt_of_lt_of_le h8 hB4.size
  clear HL3 HM3 HK3 hM4 hBW hB4
  obtain ⟨hS1, hS2, hS3⟩ := small_here HS.out
  obtain ⟨hF0, hF1, hF2, hF3, hF4⟩ := fit_here HF.out
  have hkl0 : (kids.length : Int) ≤ 1000 := by omega
  have HS3 := Aside0.mk hS3
  have HF4 := Aside0.mk hF4
  clear hS3 hF4
  by_cases hod : (kids.length : Int) % 2 = 0
  case pos =>
    have hod' : ((kids.length : Int) % 2 == 0) = true := beq_iff_eq.mpr hod
    clear hod
    go_wp2
    go_ret2
    exact ⟨_, _, _, rfl, HL4.out, HM4.out, fun h => by cases h⟩
  have hod' : ((kids.length : Int) % 2 == 0) = false := beq_eq_false_iff_ne.mpr hod
  clear hod
  go_wp2_with fail
  rw [show ((kids.length : Int) / 2) = ((kids.length / 2 : Nat) : Int) by omega]
  refine (itoa_calls (kids.length / 2) (by omega) _ HU4.out).mono ?_
  rintro e w5 ⟨tx, htx, rfl, hb5⟩
  have htxs : tx.size ≤ 7 := by have h1 := bytesOf_length tx; rw [htx] at h1; have h2 := decI_le (kids.length / 2) (by omega); omega
  have hk4 : w5.cell? ⟨g, 4, none⟩ = some (.slice A kids.length c) := (Mods.of_below hb5).cell hk4 id
  have HL5 := Aside0.mk (show Left1 w5 p t (n - 1) from (Mods.of_below hb5).blk HL4.out id)
  have HM5 := Aside0.mk (HM4.out.then_below hb5)
  have HTX := Aside0.mk htx
  clear htx hb5 hk0 hk1 hk2 hk3 HL4 HM4 HK4 HB4 HU4 HT4
  go_wp2_with fail
  go_loopw [6, 7, 11, 13, 14, 15, 200] (fun v6 v7 v11 _ _ _ v200 wr => ∃ (j : Nat) (nk : Int) (out : ByteArray), v6 = .string ⟨#[]⟩ ∧ v7 = .bool false ∧ v11 = .string out ∧ v200 = .int .i64 j ∧ j ≤ kids.length ∧ 0 ≤ nk ∧ nk + 1 + j ≤ n ∧ (out.size : Int) ≤ 2000 * (n - nk) ∧ Aside0 (Left1 wr p t nk) ∧ Aside0 (Mods (· = p) w wr) ∧ Aside0 (∃ texts : List (List Int), bytesOf out = 124 :: decI (kids.length / 2) ++ [13, 10] ++ texts.flatten ∧ texts.length = j ∧ ((∀ y ∈ kids, NoBar y) → ∀ t ∈ texts, Rep t))) (fun _ _ _ _ _ _ v200 _ => kids.length - (intOf v200).toNat)
  case atStart =>
    refine ⟨0, n - 1, _, rfl, rfl, rfl, rfl, Nat.zero_le _, by omega, by omega, ?_, HL5, HM5, ⟨[], ?_, rfl, fun _ t ht => by cases ht⟩⟩
    · have e2 : (ByteArray.mk #[13, 10]).size = 2 := rfl
      simp only [ByteArray.size_append, e2]; omega
    · have ec : bytesOf ⟨#[13, 10]⟩ = [13, 10] := rfl
      rw [bytes_app, bytes_app, HHD.out, bytes_str (xs := [124]) (by decide), HTX.out, ec]; simp
  case round =>
    obtain ⟨j, nk, out, rfl, rfl, rfl, rfl, hj, hnk0, hnk1, hsz, HLk, HMk, HSk⟩ := hrel
    have hsz2 : (out.size : Int) ≤ 4000000 := by omega
    by_cases hkl : j < kids.length
    · have q0 : (0 : Int) ≤ (j : Int) := by omega
      have q1 : (j : Int) < (kids.length : Int) := by omega
      obtain ⟨ad, A4, c4, e, h0, h1, h2, h3, h4, hl4, hi4⟩ := at_T25 HC.out j q0 q1
      cases e
      rw [Int.toNat_natCast] at h0 h1 h2 h3 h4
      have hty : ∀ (q : Addr) (u : Value), w0.cell? q = some u → wr.cell? q = some u := fun q u hq => by
        have hlt := World.block_lt_of_cell? w0 q hq
        exact HMk.out.cell ((Mods.of_below HB.out).cell hq id) (by omega)
      replace h0 := hty _ _ h0
      replace h1 := hty _ _ h1
      replace h2 := hty _ _ h2
      replace h3 := hty _ _ h3
      replace h4 := hty _ _ h4
      have hyt : TreeAt w0 (rd_T25 kids j) (.agg #[.int .i64 (rd_T25 kids j).f0, .int .i64 (rd_T25 kids j).f1, .int .u64 (rd_T25 kids j).f2, .string (rd_T25 kids j).f3, .slice A4 (rd_T25 kids j).f4.length c4]) := ⟨A4, c4, rfl, hl4, hi4⟩
      have HY := Aside0.mk hyt
      clear hyt hl4 hi4 hty
      obtain ⟨y, hy⟩ : ∃ y, y = rd_T25 kids j := ⟨_, rfl⟩
      rw [← hy] at h0 h1 h2 h3 h4 HY
      have hym : y ∈ kids := by rw [hy]; show kids.getD j z25 ∈ _; simp [List.getD, hkl]
      have HYM := Aside0.mk hym
      clear hy hym
      obtain ⟨oy, hoy⟩ : ∃ oy, oy = Obj.cells #[.int .i64 y.f0, .int .i64 y.f1, .int .u64 y.f2, .string y.f3, .slice A4 y.f4.length c4] 25 := ⟨_, rfl⟩
      have hbel : Below w0.heap.size w0 (wr.alloc oy) := by
        have h1 : Mods (· = p) w0 wr := ((Mods.of_below HB.out).mono (S' := (· = p)) (fun _ _ h => h.elim)).trans HMk.out (fun _ _ h => h)
        have h2 := h1.alloc oy
        exact ⟨h2.os, h2.tape, h2.output, h2.size, fun q hq => h2.block q hq (by omega)⟩
      have hlk : Left1 (wr.alloc oy) p t nk := ((Mods.refl (fun _ => False) wr).alloc oy).blk HLk.out id
      have hcl := HI.out y HYM.out w0 (wr.alloc oy) _ p t nk (deep + 1) HY.out hbel h8 hp hlk (by omega) (by omega) (by omega) (by omega) (HS3.out y HYM.out) (HF4.out y HYM.out) HU.out HT.out
      rw [hoy] at hcl
      have HCL := Aside0.mk hcl
      have HLK := Aside0.mk hlk
      clear hcl hlk hbel
      go_wp2_with fail
      refine HCL.out.mono ?_
      rintro e w6 ⟨s, b, n', rfl, hl6, hm6, hb6⟩
      have HL6 := Aside0.mk hl6
      have HM6 := Aside0.mk ((HMk.out.alloc _).trans hm6 (fun _ _ h => h))
      have HB6 := Aside0.mk hb6
      clear hl6 hm6 hb6
      cases b
      · go_wp2
        go_ret2
        exact ⟨_, false, _, rfl, HL6.out, HM6.out, fun h => by cases h⟩
      · obtain ⟨hn0', n0, hl0, hlt, hss, hrep⟩ := HB6.out rfl
        have en : n0 = nk := left1_inj hl0 (by rw [← hoy]; exact HLK.out)
        have hlt' : n' < nk := by omega
        have hss' : (s.size : Int) ≤ 2000 * (nk - n') := by omega
        have hss2 : (s.size : Int) ≤ 4000000 := by omega
        have HREP := Aside0.mk hrep
        clear hrep hl0 en hlt hss HCL HB6 hoy
        go_wp2_with fail
        go_roundw
        case measure => simp [intOf]; omega
        case rel =>
          refine ⟨j + 1, n', _, rfl, rfl, rfl, by go_num, by omega, hn0', by omega, ?_, HL6, HM6, ?_⟩
          · simp only [ByteArray.size_append]; omega
          · obtain ⟨texts, h1, h2, h3⟩ := HSk.out
            refine ⟨texts ++ [bytesOf s], ?_, by simp [h2], fun hNB t ht => ?_⟩
            · rw [bytes_app, h1]; simp
            · rcases List.mem_append.1 ht with ht | ht
              · exact h3 hNB t ht
              · rw [List.mem_singleton.1 ht]; exact HREP.out (hNB y HYM.out)
    · have hkl' : decide ((j : Int) < (kids.length : Int)) = false := decide_eq_false (by omega)
      have hke : j = kids.length := by omega
      have HKE := Aside0.mk hke
      clear hke
      go_wp2
      go_ret2
      refine ⟨_, true, _, rfl, HLk.out, HMk.out, fun _ => ⟨hnk0, n, HLw.out, by omega, hsz, fun hNB => ?_⟩⟩
      obtain ⟨hnb0, hnb⟩ := nobar_here hNB
      exact absurd rfl hnb0
end

section
open Go.RowKit Go.Proofs.YtmdlmjjggjemdaaGreatDoorW.PrintWords Go.Proofs.YtmdlmjjggjemdaaGreatDoorW.PrintMore Go.Proofs.YtmdlmjjggjemdaaGreatDoorW.PrintLast Go.Proofs.YtmdlmjjggjemdaaGreatDoor.PFnRespRaw
attribute [local go_sem] max2_int min2_int max_two min_two max_three min_three max_four min_four
set_option linter.unusedVariables false
set_option linter.unusedSimpArgs false

set_option maxHeartbeats 8000000 in
set_option maxRecDepth 100000 in
theorem write_other (i f : Int) (S : ByteArray) (kids : List S25) {k : Int} (hk : k ∉ [43,45,36,33,61,58,95,44,35,40,42,37,126,124,62]) : WriteOK ⟨k, i, f, S, kids⟩ := by
  intro w0 w v p t n deep hx hB h8 hp hL hn0 hn1 hd0 hd1 hS hF hU hT
  obtain ⟨A, c, rfl, hc, hC⟩ := hx
  have HC := Aside0.mk hC
  have HB := Aside0.mk hB
  have HL := Aside0.mk hL
  have HS := Aside0.mk hS
  have HF := Aside0.mk hF
  have HU := Aside0.mk hU
  have HT := Aside0.mk hT
  have hps : p < w.heap.size := blk_lt hL
  have HLw := HL
  clear hC hB hL hS hF hU hT
  go_enter Tryz.func25, Tryz.ntmps25
  go_upto_region 1 with fail
  obtain ⟨o, ho⟩ : ∃ o, o = Obj.cells #[.int .i64 k, .int .i64 i, .int .u64 f, .string S, .slice A kids.length c] 25 := ⟨_, rfl⟩
  obtain ⟨W1, hW1⟩ : ∃ W1, W1 = w.alloc o := ⟨_, rfl⟩
  obtain ⟨g, hg⟩ : ∃ g, g = w.heap.size := ⟨_, rfl⟩
  have hM1 : Mods (fun _ => False) w W1 := by rw [hW1]; exact (Mods.refl _ w).alloc _
  have hbk : W1.heap[g]? = some o := by rw [hW1, hg]; exact heap_alloc_new _ _
  rw [← ho, ← hW1, ← hg]
  have hgp : g ≠ p := by omega
  have hL1 : Left1 W1 p t n := hM1.blk HL.out id
  subst ho
  have hcz : W1.cell? ⟨p, 0, none⟩ = some (.int .i64 n) := (blk_cell hL1 0).trans rfl
  have hfz : W1.frozen? ⟨p, 0, none⟩ = false := blk_frozen hL1 0
  have HK := Aside0.mk hbk
  have HM := Aside0.mk hM1
  have HL1 := Aside0.mk hL1
  have HG := Aside0.mk hg
  clear hW1 hg hM1 hbk hL1
  go_upto_region 2 with fail
  obtain ⟨W2, hW2⟩ : ∃ W2, W2 = W1.setCell ⟨p, 0, none⟩ (.int .i64 (n - 1)) := ⟨_, rfl⟩
  have hL2 : Left1 W2 p t (n - 1) := by rw [hW2]; exact blk_set HL1.out 0 _
  have hM2 : Mods (· = p) w W2 := by rw [hW2]; exact (HM.out.mono (S' := (· = p)) (fun _ _ h => h.elim)).setCell (p := ⟨p, 0, none⟩) (.inl rfl) _
  have hbk2 : W2.heap[g]? = some (.cells #[.int .i64 k, .int .i64 i, .int .u64 f, .string S, .slice A kids.length c] 25 (0, 0)) := by
    rw [hW2]; exact ((Mods.refl (· = p) W1).setCell (p := ⟨p, 0, none⟩) (.inl rfl) _).blk HK.out hgp
  rw [← hW2]
  have hcz2 : W2.cell? ⟨p, 0, none⟩ = some (.int .i64 (n - 1)) := (blk_cell hL2 0).trans rfl
  have hk0 : W2.cell? ⟨g, 0, none⟩ = some (.int .i64 k) := (blk_cell hbk2 0).trans rfl
  have hk1 : W2.cell? ⟨g, 1, none⟩ = some (.int .i64 i) := (blk_cell hbk2 1).trans rfl
  have hk2 : W2.cell? ⟨g, 2, none⟩ = some (.int .u64 f) := (blk_cell hbk2 2).trans rfl
  have hk3 : W2.cell? ⟨g, 3, none⟩ = some (.string S) := (blk_cell hbk2 3).trans rfl
  have hk4 : W2.cell? ⟨g, 4, none⟩ = some (.slice A kids.length c) := (blk_cell hbk2 4).trans rfl
  have HL2 := Aside0.mk hL2
  have HM2 := Aside0.mk hM2
  have HK2 := Aside0.mk hbk2
  clear hL2 hM2 hbk2 hW2 hcz hfz HK HL1
  go_cut [33] from 21 to 32 (fun s33 wx => ∃ b : Bool, s33 = .bool b ∧ (b = false → 0 ≤ n - 1 ∧ deep ≤ 20) ∧ Aside0 (Below W2.heap.size W2 wx))
  case first =>
    by_cases hdp : (20 : Int) < deep
    · go_wp2
      go_meet
      exact ⟨true, rfl, fun h => (by cases h), ⟨Below.refl _ _⟩⟩
    · have hdp' : decide ((20 : Int) < deep) = false := decide_eq_false hdp
      by_cases hneg : n - 1 < 0
      · go_wp2
        go_meet
        exact ⟨true, rfl, fun h => (by cases h), ⟨Below.refl _ _⟩⟩
      · have hneg' : decide (n - 1 < 0) = false := decide_eq_false hneg
        go_wp2_with fail
        refine (bare_calls W2 k i f S A kids.length c).mono ?_
        rintro e w3 ⟨b, rfl, hb⟩
        have HB3 := Aside0.mk hb
        clear hb
        go_wp2
        go_meet
        exact ⟨_, rfl, fun _ => ⟨by omega, by omega⟩, HB3⟩
  case rest =>
  obtain ⟨b, rfl, hb, HB3⟩ := hcut
  by_cases hbt : b = true
  · subst hbt
    go_wp2
    go_ret2
    exact ⟨_, false, n - 1, rfl, (Mods.of_below HB3.out).blk HL2.out id, HM2.out.then_below HB3.out, fun h => by cases h⟩
  obtain rfl : b = false := by simpa using hbt
  clear hbt
  obtain ⟨hnn, hdd⟩ := hb rfl
  clear hb hk0 hk1 hk2 hk3 hk4 hcz2
  have hk0 : wc.cell? ⟨g, 0, none⟩ = some (.int .i64 k) := (blk_cell ((Mods.of_below HB3.out).blk HK2.out id) 0).trans rfl
  have hk1 : wc.cell? ⟨g, 1, none⟩ = some (.int .i64 i) := (blk_cell ((Mods.of_below HB3.out).blk HK2.out id) 1).trans rfl
  have hk2 : wc.cell? ⟨g, 2, none⟩ = some (.int .u64 f) := (blk_cell ((Mods.of_below HB3.out).blk HK2.out id) 2).trans rfl
  have hk3 : wc.cell? ⟨g, 3, none⟩ = some (.string S) := (blk_cell ((Mods.of_below HB3.out).blk HK2.out id) 3).trans rfl
  have hk4 : wc.cell? ⟨g, 4, none⟩ = some (.slice A kids.length c) := (blk_cell ((Mods.of_below HB3.out).blk HK2.out id) 4).trans rfl
  have HL3 := Aside0.mk (show Left1 wc p t (n - 1) from (Mods.of_below HB3.out).blk HL2.out id)
  have HM3 := Aside0.mk (HM2.out.then_below HB3.out)
  have HK3 := Aside0.mk ((Mods.of_below HB3.out).blk HK2.out id)
  clear HL2 HM2 HK2 HL HM HB3
  have hcv := str_run (c := 1) (bytes_reads wc [(k % 256)] #[.int .u8 (k % 256)] rfl 1 rfl (by omega))
  go_upto_region 5 with fail
  obtain ⟨W4, hW4⟩ : ∃ W4, W4 = wc.alloc (.cells #[.int .u8 (k % 256)] 5) := ⟨_, rfl⟩
  have hM4 : Mods (fun _ => False) wc W4 := by rw [hW4]; exact (Mods.refl _ _).alloc _
  obtain ⟨hd, hhd⟩ : ∃ hd, hd = strOfNums [(k % 256)] := ⟨_, rfl⟩
  rw [← hW4, ← hhd]
  have HHD := Aside0.mk hhd
  have hds : hd.size = 1 := by rw [hhd, strOfNums_size]; rfl
  clear hcv hW4 hhd hk0 hk1 hk2 hk3 hk4
  have HK4 := Aside0.mk (hM4.blk HK3.out id)
  have hk0 : W4.cell? ⟨g, 0, none⟩ = some (.int .i64 k) := (blk_cell HK4.out 0).trans rfl
  have hk1 : W4.cell? ⟨g, 1, none⟩ = some (.int .i64 i) := (blk_cell HK4.out 1).trans rfl
  have hk2 : W4.cell? ⟨g, 2, none⟩ = some (.int .u64 f) := (blk_cell HK4.out 2).trans rfl
  have hk3 : W4.cell? ⟨g, 3, none⟩ = some (.string S) := (blk_cell HK4.out 3).trans rfl
  have hk4 : W4.cell? ⟨g, 4, none⟩ = some (.slice A kids.length c) := (blk_cell HK4.out 4).trans rfl
  have HL4 := Aside0.mk (show Left1 W4 p t (n - 1) from hM4.blk HL3.out id)
  have HM4 := Aside0.mk (HM3.out.then_below hM4.below)
  have hBW : Mods (· = p) w0 W4 := ((Mods.of_below HB.out).mono (S' := (· = p)) (fun _ _ h => h.elim)).trans HM4.out (fun _ _ h => h)
  have hB4 : Below w0.heap.size w0 W4 := ⟨hBW.os, hBW.tape, hBW.output, hBW.size, fun q hq => hBW.block q hq (by omega)⟩
  have HB4 := Aside0.mk hB4
  have HU4 := Aside0.mk (HU.out.stays hB4)
  have HT4 := Aside0.mk (HT.out.stays hB4)
  have h84 : 8 < W4.heap.size := Nat.lt_of_lt_of_le h8 hB4.size
  clear HL3 HM3 HK3 hM4 hBW hB4
  have b43 : (k == 43) = false := beq_eq_false_iff_ne.mpr (fun h => hk (by rw [h]; decide))
  have b45 : (k == 45) = false := beq_eq_false_iff_ne.mpr (fun h => hk (by rw [h]; decide))
  have b36 : (k == 36) = false := beq_eq_false_iff_ne.mpr (fun h => hk (by rw [h]; decide))
  have b33 : (k == 33) = false := beq_eq_false_iff_ne.mpr (fun h => hk (by rw [h]; decide))
  have b61 : (k == 61) = false := beq_eq_false_iff_ne.mpr (fun h => hk (by rw [h]; decide))
  have b58 : (k == 58) = false := beq_eq_false_iff_ne.mpr (fun h => hk (by rw [h]; decide))
  have b95 : (k == 95) = false := beq_eq_false_iff_ne.mpr (fun h => hk (by rw [h]; decide))
  have b44 : (k == 44) = false := beq_eq_false_iff_ne.mpr (fun h => hk (by rw [h]; decide))
  have b35 : (k == 35) = false := beq_eq_false_iff_ne.mpr (fun h => hk (by rw [h]; decide))
  have b40 : (k == 40) = false := beq_eq_false_iff_ne.mpr (fun h => hk (by rw [h]; decide))
  have b42 : (k == 42) = false := beq_eq_false_iff_ne.mpr (fun h => hk (by rw [h]; decide))
  have b37 : (k == 37) = false := beq_eq_false_iff_ne.mpr (fun h => hk (by rw [h]; decide))
  have b126 : (k == 126) = false := beq_eq_false_iff_ne.mpr (fun h => hk (by rw [h]; decide))
  have b124 : (k == 124) = false := beq_eq_false_iff_ne.mpr (fun h => hk (by rw [h]; decide))
  have b62 : (k == 62) = false := beq_eq_false_iff_ne.mpr (fun h => hk (by rw [h]; decide))
  clear hk
  go_wp2
  go_ret2
  exact ⟨_, _, _, rfl, HL4.out, HM4.out, fun h => by cases h⟩
end
end Go.Proofs.YtmdlmjjggjemdaaGreatDoor
