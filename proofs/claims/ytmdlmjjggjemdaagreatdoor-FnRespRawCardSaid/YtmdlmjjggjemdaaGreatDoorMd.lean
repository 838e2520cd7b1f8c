/- Discard: lines, nil, texts, lists, maps. Replies' bytes as one word; NewReader, ReadRawReply, Left. impl.Raw, at bytes that begin with a reply's. impl.RawTo and impl.Discard, at bytes that begin with a reply's. impl.Discard, at bytes that begin with a reply's. -/
import Derived.Test.YtmdlmjjggjemdaaGreatDoorMc
import Derived.Lib.SlBytesConst
import Derived.Defers
import Derived.Recover
import Derived.Laws.Pointers
import Derived.StillTailTactics
namespace Go.Proofs.YtmdlmjjggjemdaaGreatDoor
section
open Go.RowKit Go.Proofs.YtmdlmjjggjemdaaGreatDoorW.PrintWords Go.Proofs.YtmdlmjjggjemdaaGreatDoorW.PrintMore Go.Proofs.YtmdlmjjggjemdaaGreatDoorW.PrintLast Go.Proofs.YtmdlmjjggjemdaaGreatDoor.PFnRespRaw
attribute [local go_sem] max2_int min2_int max_two min_two max_three min_three max_four min_four
set_option linter.unusedVariables false
set_option linter.unusedSimpArgs false

def DisPost (w : World) (g db : Nat) (rest : List Int) (e : Ending) (w' : World) : Prop :=
  e = .returned .nilIface ∧ Src w' g db rest ∧ Mods (· = g) w w'

/-- The passing over of a reply's bytes t. -/
def DisOK (t : List Int) : Prop := ∀ (w : World) (p g db : Nat) (rest : List Int), PRd w p g → p ≠ g → db ≠ g → Src w g db (t ++ rest) → Calls Tryz.prog 21 #[.pointer (some ⟨p, 0, none⟩)] w (DisPost w g db rest)

/-- The passing over of what is behind a line. -/
def DisBody (L tail : List Int) : Prop := ∀ (w : World) (p g db : Nat) (rest : List Int) (A : Option Addr) (c : Nat), PRd w p g → p ≠ g → db ≠ g → Src w g db (tail ++ rest) → L.length ≤ c → ReadsInt w .u8 A L.length L → (∀ ad, A = some ad → ad.block = db) →
  Calls Tryz.prog 30 #[.pointer (some ⟨p, 0, none⟩), .slice A L.length c] w (DisPost w g db rest)

set_option maxHeartbeats 8000000 in
set_option maxRecDepth 100000 in
theorem dis_next (L tail : List Int) (hl : Line L) (hb : DisBody L tail) : DisOK (L ++ [13, 10] ++ tail) := by
  intro w p g db rest hp hpg hdb hS
  rw [List.append_assoc _ tail] at hS
  have h := readLine_calls w p g db L (tail ++ rest) hp hpg hdb hS hl
  have H := Aside0.mk h
  have HP := Aside0.mk hp
  have HB := Aside0.mk hb
  clear h hp hS hl hb
  go_enter Tryz.func21, Tryz.ntmps21
  go_wp2_with fail
  refine H.out.mono ?_
  rintro e w1 ⟨A, c, rfl, hc, hR, hA, hS, hM⟩
  have hq := HB.out w1 p g db rest A c (hM.blk HP.out hpg) hpg hdb hS hc hR hA
  have HQ := Aside0.mk hq
  have HM := Aside0.mk hM
  clear hq hR hA hS hM
  go_wp2_with fail
  refine HQ.out.mono ?_
  rintro e w2 ⟨rfl, hs, hm⟩
  have HS2 := Aside0.mk hs
  have HM2 := Aside0.mk (HM.out.trans hm (fun _ _ h => h))
  clear hs hm
  go_wp2
  go_ret
  exact ⟨rfl, HS2.out, HM2.out⟩

set_option maxHeartbeats 8000000 in
set_option maxRecDepth 100000 in
theorem dis_line (s : Int) (body : List Int) (hs : s ∈ [43, 45, 58, 95, 44, 35, 40]) : DisBody (s :: body) [] := by
  intro w p g db rest A c hp hpg hdb hS hc hR hA
  obtain ⟨L, hL⟩ : ∃ L, L = s :: body := ⟨_, rfl⟩
  have hl0 : 0 < L.length := by rw [hL]; simp
  rw [← hL] at hc hR ⊢
  obtain ⟨ad, rfl, hcell⟩ := hR.2.2 hl0
  have hx0 : w.cell? ad = some (.int .u8 s) := by have := hcell 0 hl0; rw [hL] at this; simpa [Addr.add] using this
  have hlz : ((L.length : Int) == 0) = false := beq_eq_false_iff_ne.mpr (by omega)
  have hln : L.length ≤ 9223372036854775807 := hR.2.1
  have HP := Aside0.mk hp
  have HS := Aside0.mk hS
  have HR := Aside0.mk hR
  have HL := Aside0.mk hL
  clear hp hS hR hA hL hcell
  simp only [List.mem_cons, List.not_mem_nil, or_false] at hs
  rcases hs with rfl | rfl | rfl | rfl | rfl | rfl | rfl
  all_goals
    go_enter Tryz.func30, Tryz.ntmps30
    go_wp2
    go_ret
    exact ⟨rfl, HS.out, Mods.refl _ _⟩

set_option maxHeartbeats 8000000 in
set_option maxRecDepth 100000 in
theorem dis_nil (s : Int) (hs : s = 36 ∨ s = 42) : DisBody [s, 45, 49] [] := by
  intro w p g db rest A c hp hpg hdb hS hc hR hA
  obtain ⟨L, hL⟩ : ∃ L, L = [s, 45, 49] := ⟨_, rfl⟩
  have hl0 : 0 < L.length := by rw [hL]; simp
  rw [← hL] at hc hR ⊢
  obtain ⟨ad, rfl, hcell⟩ := hR.2.2 hl0
  have hx0 : w.cell? ad = some (.int .u8 s) := by have := hcell 0 hl0; rw [hL] at this; simpa [Addr.add] using this
  have hlz : ((L.length : Int) == 0) = false := beq_eq_false_iff_ne.mpr (by omega)
  have hln : L.length ≤ 9223372036854775807 := hR.2.1
  have HP := Aside0.mk hp
  have HS := Aside0.mk hS
  have HR := Aside0.mk hR
  have HL := Aside0.mk hL
  clear hp hS hR hA hL hcell
  have hr := replyLen_nil w (some ad) L.length c s hs hc (by have := HR.out; rw [HL.out] at this ⊢; exact this)
  have HRL := Aside0.mk hr
  clear hr
  have hne : ∀ w, (binOp .neq 43 (.iface 83 (.string ⟨#[114, 101, 100, 105, 115, 58, 32, 110, 105, 108]⟩)) .nilIface).run Tryz.prog w = .ok (.bool true) w := fun w => by kernel_rfl
  have heq : ∀ w, (binOp .eql 43 (.iface 83 (.string ⟨#[114, 101, 100, 105, 115, 58, 32, 110, 105, 108]⟩)) (.iface 83 (.string ⟨#[114, 101, 100, 105, 115, 58, 32, 110, 105, 108]⟩))).run Tryz.prog w = .ok (.bool true) w := fun w => by kernel_rfl
  rcases hs with rfl | rfl
  all_goals
    go_enter Tryz.func30, Tryz.ntmps30
    go_wp2_with fail
    refine HRL.out.mono ?_
    rintro e w4 ⟨rfl, hb⟩
    have HB4 := Aside0.mk hb
    clear hb
    go_wp2
    go_ret
    exact ⟨rfl, HS.out.mods (Mods.of_below HB4.out) id id, (Mods.refl _ _).then_below HB4.out⟩

set_option maxHeartbeats 8000000 in
set_option maxRecDepth 100000 in
theorem dis_bulk (s : Int) (data : List Int) (hs : s ∈ [36, 33, 61]) (hd : data.length ≤ 30000) : DisBody (s :: decI data.length) (data ++ [13, 10]) := by
  intro w p g db rest A c hp hpg hdb hS hc hR hA
  obtain ⟨L, hL⟩ : ∃ L, L = s :: decI data.length := ⟨_, rfl⟩
  have hl0 : 0 < L.length := by rw [hL]; simp
  rw [← hL] at hc hR ⊢
  obtain ⟨ad, rfl, hcell⟩ := hR.2.2 hl0
  have hx0 : w.cell? ad = some (.int .u8 s) := by have := hcell 0 hl0; rw [hL] at this; simpa [Addr.add] using this
  have hlz : ((L.length : Int) == 0) = false := beq_eq_false_iff_ne.mpr (by omega)
  have hln : L.length ≤ 9223372036854775807 := hR.2.1
  have HP := Aside0.mk hp
  have HS := Aside0.mk hS
  have HR := Aside0.mk hR
  have HL := Aside0.mk hL
  clear hp hS hR hA hL hcell
  have hr := replyLen_calls w (some ad) L.length c s data.length (by simp at hs ⊢; omega) (by omega) hc (by have := HR.out; rw [HL.out] at this ⊢; exact this)
  have HRL := Aside0.mk hr
  have hczp : w.cell? ⟨p, 0, none⟩ = some (.pointer (some ⟨g, 0, none⟩)) := (blk_cell HP.out 0).trans rfl
  clear hr
  simp only [List.mem_cons, List.not_mem_nil, or_false] at hs
  rcases hs with rfl | rfl | rfl
  all_goals
    go_enter Tryz.func30, Tryz.ntmps30
    go_wp2_with fail
    refine HRL.out.mono ?_
    rintro e w4 ⟨rfl, hb⟩
    have hw := sDiscard_calls w4 g db ((data.length : Int) + 2) (data ++ [13, 10] ++ rest) hdb (HS.out.mods (Mods.of_below hb) id id) (by omega) (by simp; omega)
    have HC := Aside0.mk hw
    have hczq := pw_cell_below hb hczp
    have hxq := pw_cell_below hb hx0
    have HB4 := Aside0.mk hb
    clear hb hw
    go_wp2_with fail
    refine HC.out.mono ?_
    rintro e w5 ⟨rfl, q1, q3⟩
    have HQ1 := Aside0.mk q1
    have HQ3 := Aside0.mk q3
    clear q1 q3
    go_wp2
    go_ret
    have q1 := HQ1.out
    rw [show ((data.length : Int) + 2).toNat = data.length + 2 by omega, List.drop_left' (by simp)] at q1
    exact ⟨rfl, q1, ((Mods.refl _ _).then_below HB4.out).trans HQ3.out (fun _ _ h => h)⟩

set_option maxHeartbeats 8000000 in
set_option maxRecDepth 100000 in
theorem dis_list (s : Int) (kids : List (List Int)) (hs : s ∈ [42, 126, 62]) (hd : kids.length ≤ 1000000) (ih : ∀ t ∈ kids, DisOK t) : DisBody (s :: decI kids.length) kids.flatten := by
  intro w p g db rest A c hp hpg hdb hS hc hR hA
  obtain ⟨L, hL⟩ : ∃ L, L = s :: decI kids.length := ⟨_, rfl⟩
  have hl0 : 0 < L.length := by rw [hL]; simp
  rw [← hL] at hc hR ⊢
  obtain ⟨ad, rfl, hcell⟩ := hR.2.2 hl0
  have hx0 : w.cell? ad = some (.int .u8 s) := by have := hcell 0 hl0; rw [hL] at this; simpa [Addr.add] using this
  have hlz : ((L.length : Int) == 0) = false := beq_eq_false_iff_ne.mpr (by omega)
  have hln : L.length ≤ 9223372036854775807 := hR.2.1
  have HP := Aside0.mk hp
  have HS := Aside0.mk hS
  have HR := Aside0.mk hR
  have HL := Aside0.mk hL
  clear hp hS hR hA hL hcell
  have hr := replyLen_calls w (some ad) L.length c s kids.length (by simp at hs ⊢; omega) (by omega) hc (by have := HR.out; rw [HL.out] at this ⊢; exact this)
  have HRL := Aside0.mk hr
  have HIH := Aside0.mk ih
  obtain ⟨n, hn⟩ : ∃ n, n = kids.length := ⟨_, rfl⟩
  rw [← hn] at HRL hd
  have HN := Aside0.mk hn
  clear hr ih hn
  simp only [List.mem_cons, List.not_mem_nil, or_false] at hs
  rcases hs with rfl | rfl | rfl
  all_goals
    go_enter Tryz.func30, Tryz.ntmps30
    go_wp2_with fail
    refine HRL.out.mono ?_
    rintro e w4 ⟨rfl, hb⟩
    have HS4 := Aside0.mk (HS.out.mods (Mods.of_below hb) id id)
    have HM4 := Aside0.mk (((Mods.refl (· = g) w).then_below hb))
    have hxq := pw_cell_below hb hx0
    clear hb
    go_wp2_with fail
    go_loopw [6] (fun v6 wr => ∃ k : Nat, v6 = .int .i64 k ∧ k ≤ n ∧ Aside0 (Src wr g db ((kids.drop k).flatten ++ rest)) ∧ Aside0 (Mods (· = g) w wr)) (fun v6 _ => n - (intOf v6).toNat)
    case atStart => exact ⟨0, rfl, Nat.zero_le _, ⟨by simpa using HS4.out⟩, HM4⟩
    case round =>
      obtain ⟨k, rfl, hk, HSk, HMk⟩ := hrel
      by_cases hlt : k < n
      · have hkl : k < kids.length := by rw [← HN.out]; exact hlt
        have hsk := HSk.out
        rw [flat_at kids k hkl, List.append_assoc] at hsk
        have hc := HIH.out kids[k] (List.getElem_mem hkl) _ p g db ((kids.drop (k + 1)).flatten ++ rest) (HMk.out.blk HP.out hpg) hpg hdb hsk
        have HC := Aside0.mk hc
        clear hc hsk
        go_wp2_with fail
        refine HC.out.mono ?_
        rintro e w5 ⟨rfl, hs, hm⟩
        have HS5 := Aside0.mk hs
        have HM5 := Aside0.mk (HMk.out.trans hm (fun _ _ h => h))
        clear hs hm
        go_wp2_with fail
        go_roundw
        case measure => simp [intOf]; omega
        case rel => exact ⟨k + 1, by go_num, by omega, HS5, HM5⟩
      · have hkn : k = kids.length := by have := HN.out; omega
        have HKN := Aside0.mk hkn
        clear hkn
        go_wp2
        go_ret
        have hs := HSk.out
        rw [HKN.out, List.drop_length] at hs
        exact ⟨rfl, hs, HMk.out⟩

set_option maxHeartbeats 8000000 in
set_option maxRecDepth 100000 in
theorem dis_map (n : Nat) (kids : List (List Int)) (hkn2 : kids.length = 2 * n) (hd : kids.length ≤ 1000000) (ih : ∀ t ∈ kids, DisOK t) : DisBody (37 :: decI n) kids.flatten := by
  intro w p g db rest A c hp hpg hdb hS hc hR hA
  obtain ⟨L, hL⟩ : ∃ L, L = 37 :: decI n := ⟨_, rfl⟩
  have hl0 : 0 < L.length := by rw [hL]; simp
  rw [← hL] at hc hR ⊢
  obtain ⟨ad, rfl, hcell⟩ := hR.2.2 hl0
  have hx0 : w.cell? ad = some (.int .u8 37) := by have := hcell 0 hl0; rw [hL] at this; simpa [Addr.add] using this
  have hlz : ((L.length : Int) == 0) = false := beq_eq_false_iff_ne.mpr (by omega)
  have hln : L.length ≤ 9223372036854775807 := hR.2.1
  have HP := Aside0.mk hp
  have HS := Aside0.mk hS
  have HR := Aside0.mk hR
  have HL := Aside0.mk hL
  clear hp hS hR hA hL hcell
  have hr := replyLen_calls w (some ad) L.length c 37 n (by simp) (by omega) hc (by have := HR.out; rw [HL.out] at this ⊢; exact this)
  have HRL := Aside0.mk hr
  have HIH := Aside0.mk ih
  have HN := Aside0.mk hkn2
  have hnb : n ≤ 1000000 := by omega
  clear hr ih hkn2
  go_enter Tryz.func30, Tryz.ntmps30
  go_wp2_with fail
  refine HRL.out.mono ?_
  rintro e w4 ⟨rfl, hb⟩
  have HS4 := Aside0.mk (HS.out.mods (Mods.of_below hb) id id)
  have HM4 := Aside0.mk (((Mods.refl (· = g) w).then_below hb))
  have hxq := pw_cell_below hb hx0
  clear hb
  go_wp2_with fail
  go_loopw [7] (fun v7 wr => ∃ k : Nat, v7 = .int .i64 k ∧ k ≤ n ∧ Aside0 (Src wr g db ((kids.drop (2 * k)).flatten ++ rest)) ∧ Aside0 (Mods (· = g) w wr)) (fun v7 _ => n - (intOf v7).toNat)
  case atStart => exact ⟨0, rfl, Nat.zero_le _, ⟨by simpa using HS4.out⟩, HM4⟩
  case round =>
    obtain ⟨k, rfl, hk, HSk, HMk⟩ := hrel
    by_cases hlt : k < n
    · have hkl : 2 * k < kids.length := by rw [HN.out]; omega
      have hkl2 : 2 * k + 1 < kids.length := by rw [HN.out]; omega
      have hsk := HSk.out
      rw [flat_at kids (2 * k) hkl, List.append_assoc] at hsk
      have hc := HIH.out kids[2 * k] (List.getElem_mem hkl) _ p g db ((kids.drop (2 * k + 1)).flatten ++ rest) (HMk.out.blk HP.out hpg) hpg hdb hsk
      have HC := Aside0.mk hc
      clear hc hsk
      go_wp2_with fail
      refine HC.out.mono ?_
      rintro e w5 ⟨rfl, hs, hm⟩
      have hm5 := HMk.out.trans hm (fun _ _ h => h)
      have hsk := hs
      rw [flat_at kids (2 * k + 1) hkl2, List.append_assoc] at hsk
      have hc := HIH.out kids[2 * k + 1] (List.getElem_mem hkl2) _ p g db ((kids.drop (2 * k + 1 + 1)).flatten ++ rest) (hm5.blk HP.out hpg) hpg hdb hsk
      have HM5 := Aside0.mk hm5
      have HC2 := Aside0.mk hc
      clear hc hsk hs hm hm5
      go_wp2_with fail
      refine HC2.out.mono ?_
      rintro e w6 ⟨rfl, hs, hm⟩
      have HS6 := Aside0.mk hs
      have HM6 := Aside0.mk (HM5.out.trans hm (fun _ _ h => h))
      clear hs hm
      go_wp2_with fail
      go_roundw
      case measure => simp [intOf]; omega
      case rel => exact ⟨k + 1, by go_num, by omega, ⟨by have := HS6.out; rwa [show 2 * k + 1 + 1 = 2 * (k + 1) from by omega] at this⟩, HM6⟩
    · have hkn : 2 * k = kids.length := by rw [HN.out]; omega
      have HKN := Aside0.mk hkn
      clear hkn
      go_wp2
      go_ret
      have hs := HSk.out
      rw [HKN.out, List.drop_length] at hs
      exact ⟨rfl, hs, HMk.out⟩
end

section
open Go.RowKit Go.Proofs.YtmdlmjjggjemdaaGreatDoorW.PrintWords Go.Proofs.YtmdlmjjggjemdaaGreatDoorW.PrintMore Go.Proofs.YtmdlmjjggjemdaaGreatDoorW.PrintLast Go.Proofs.YtmdlmjjggjemdaaGreatDoor.PFnRespRaw
attribute [local go_sem] max2_int min2_int max_two min_two max_three min_three max_four min_four
set_option linter.unusedVariables false
set_option linter.unusedSimpArgs false

/-- The bytes of a reply without attributes. -/
inductive Rep : List Int → Prop
  | line (s : Int) (body : List Int) : s ∈ [43, 45, 58, 95, 44, 35, 40] → Line (s :: body) → Rep (s :: body ++ [13, 10])
  | none (s : Int) : s = 36 ∨ s = 42 → Rep ([s, 45, 49] ++ [13, 10])
  | bulk (s : Int) (data : List Int) : s ∈ [36, 33, 61] → data.length ≤ 30000 → Rep (s :: decI data.length ++ [13, 10] ++ (data ++ [13, 10]))
  | list (s : Int) (kids : List (List Int)) : s ∈ [42, 126, 62] → kids.length ≤ 1000000 → (∀ t ∈ kids, Rep t) → Rep (s :: decI kids.length ++ [13, 10] ++ kids.flatten)
  | map (n : Nat) (kids : List (List Int)) : kids.length = 2 * n → kids.length ≤ 1000000 → (∀ t ∈ kids, Rep t) → Rep (37 :: decI n ++ [13, 10] ++ kids.flatten)

theorem rep_raw {t : List Int} (h : Rep t) : RawOK t := by
  induction h with
  | line s body hs hl => exact raw_line s body hs hl
  | none s hs => exact raw_nil s hs
  | bulk s data hs hd => exact raw_bulk s data hs hd
  | list s kids hs hd _ ih => exact raw_list s kids hs hd ih
  | map n kids hn hd _ ih => exact raw_map n kids hn hd ih
theorem rep_wr {t : List Int} (h : Rep t) : WrOK t := by
  induction h with
  | line s body hs hl => exact wr_line s body hs hl
  | none s hs => exact wr_nil s hs
  | bulk s data hs hd => exact wr_bulk s data hs hd
  | list s kids hs hd _ ih => exact wr_list s kids hs hd ih
  | map n kids hn hd _ ih => exact wr_map n kids hn hd ih
theorem dec_line (s : Int) (n : Nat) (hs : s ≠ 10) (hn : n < 10000000) : Line (s :: decI n) := by
  have := decI_le n hn
  refine ⟨by simp, by simp; omega, fun x hx => ?_⟩
  rcases List.mem_cons.1 hx with rfl | hx
  · exact hs
  · have := decI_digit _ x hx; omega
theorem rep_dis {t : List Int} (h : Rep t) : DisOK t := by
  induction h with
  | line s body hs hl =>
    have := dis_next (s :: body) [] hl (dis_line s body hs)
    rwa [List.append_nil] at this
  | none s hs =>
    have := dis_next [s, 45, 49] [] ⟨by simp, by simp, by intro x hx; simp at hx; omega⟩ (dis_nil s hs)
    rwa [List.append_nil] at this
  | bulk s data hs hd => exact dis_next _ _ (dec_line s _ (by simp at hs; omega) (by omega)) (dis_bulk s data hs hd)
  | list s kids hs hd _ ih => exact dis_next _ _ (dec_line s _ (by simp at hs; omega) (by omega)) (dis_list s kids hs hd ih)
  | map n kids hn hd _ ih => exact dis_next _ _ (dec_line 37 _ (by omega) (by omega)) (dis_map n kids hn hd ih)

set_option maxHeartbeats 4000000 in
set_option maxRecDepth 100000 in
theorem newSized_calls (w : World) (A : Option Addr) (n c : Nat) :
    Calls Tryz.prog 26 #[.slice A n c, .int .i64 32768] w fun e w' => e = .returned (.pointer (some ⟨w.heap.size, 0, none⟩)) ∧ w.alloc (.cells #[.slice A n c, .int .i64 0, .int .i64 32768] 68) = w' := by
  go_enter Tryz.func26, Tryz.ntmps26
  go_wp2
  go_ret
  exact ⟨rfl, rfl⟩

set_option maxHeartbeats 4000000 in
set_option maxRecDepth 100000 in
theorem newReader_calls (w : World) (A : Option Addr) (n c : Nat) :
    Calls Tryz.prog 15 #[.slice A n c] w fun e w' => e = .returned (.pointer (some ⟨w.heap.size + 1, 0, none⟩)) ∧ (w.alloc (.cells #[.slice A n c, .int .i64 0, .int .i64 32768] 68)).alloc (.cells #[.pointer (some ⟨w.heap.size, 0, none⟩)] 65) = w' := by
  go_enter Tryz.func15, Tryz.ntmps15
  go_wp2_with fail
  refine (newSized_calls _ A n c).mono ?_
  rintro e w1 ⟨rfl, rfl⟩
  go_wp2
  go_ret
  exact ⟨rfl, rfl⟩

set_option maxHeartbeats 4000000 in
set_option maxRecDepth 100000 in
theorem left_calls (w : World) (p g db : Nat) (xs : List Int) (hp : PRd w p g) (hS : Src w g db xs) :
    Calls Tryz.prog 17 #[.pointer (some ⟨p, 0, none⟩)] w fun e w' => e = .returned (.int .i64 (xs.length : Int)) ∧ w = w' := by
  obtain ⟨A, c, bf, hR, hc, hb0, hb1, hb2, hX, hA⟩ := hS
  have hcz0 : w.cell? ⟨g, 0, none⟩ = some (.slice A xs.length c) := (blk_cell hR 0).trans rfl
  have hczp : w.cell? ⟨p, 0, none⟩ = some (.pointer (some ⟨g, 0, none⟩)) := (blk_cell hp 0).trans rfl
  clear hp hR hX hA
  go_enter Tryz.func17, Tryz.ntmps17
  go_wp2
  go_ret
  exact ⟨rfl, rfl⟩

set_option maxHeartbeats 4000000 in
set_option maxRecDepth 100000 in
theorem readRaw_calls (w : World) (p g db : Nat) (t rest : List Int) (ht : Rep t) (hp : PRd w p g) (hpg : p ≠ g) (hdb : db ≠ g) (hpB : p < w.heap.size) (hgB : g < w.heap.size) (hdB : db < w.heap.size) (hS : Src w g db (t ++ rest)) (hl : t.length ≤ 1000000) :
    Calls Tryz.prog 16 #[.pointer (some ⟨p, 0, none⟩)] w (RawPost w g db w.heap.size rest t) := by
  have h := rep_raw ht w p g db w.heap.size rest [] (.slice none 0 0) hp hpg hdb hpB hgB hdB (Nat.le_refl _) hS (World.ownsRow_nil _ _ _ _) (by simpa using hl)
  have H := Aside0.mk h
  clear h hp hS
  go_enter Tryz.func16, Tryz.ntmps16
  go_wp2_with fail
  refine H.out.mono ?_
  rintro e w1 ⟨v, rfl, hO, hS, hM⟩
  obtain ⟨A, c, rfl⟩ := own_slice hO
  have HO := Aside0.mk hO
  have HS := Aside0.mk hS
  have HM := Aside0.mk hM
  clear hO hS hM
  go_wp2
  go_ret2
  exact ⟨_, rfl, HO.out, HS.out, HM.out⟩

set_option maxHeartbeats 4000000 in
set_option maxRecDepth 100000 in
theorem readWr_calls (w : World) (p g db b : Nat) (t rest : List Int) (ht : Rep t) (hp : PRd w p g) (hpg : p ≠ g) (hdb : db ≠ g) (hdb2 : db ≠ b) (hbg : b ≠ g) (hbp : b ≠ p) (hpB : p < w.heap.size) (hgB : g < w.heap.size) (hdB : db < w.heap.size) (hbB : b < w.heap.size) (hS : Src w g db (t ++ rest)) (hW : Buf w b w.heap.size []) (hl : t.length ≤ 1000000) :
    Calls Tryz.prog 19 #[.pointer (some ⟨p, 0, none⟩), .iface 47 (.pointer (some ⟨b, 0, none⟩))] w (WrPost w g db b w.heap.size t.length rest t) := by
  have h := rep_wr ht w p g db b w.heap.size rest [] hp hpg hdb hdb2 hbg hbp hpB hgB hdB hbB (Nat.le_refl _) hS hW (by simpa using hl)
  have H := Aside0.mk h
  clear h hp hS hW
  go_enter Tryz.func19, Tryz.ntmps19
  go_wp2_with fail
  refine H.out.mono ?_
  rintro e w1 ⟨rfl, hO, hS, hM⟩
  have HO := Aside0.mk hO
  have HS := Aside0.mk hS
  have HM := Aside0.mk hM
  clear hO hS hM
  go_wp2
  go_ret2
  exact ⟨rfl, HO.out, HS.out, HM.out⟩
end

section
open Go.RowKit Go.Proofs.YtmdlmjjggjemdaaGreatDoorW.PrintWords Go.Proofs.YtmdlmjjggjemdaaGreatDoorW.PrintMore Go.Proofs.YtmdlmjjggjemdaaGreatDoorW.PrintLast Go.Proofs.YtmdlmjjggjemdaaGreatDoor.PFnRespRaw
attribute [local go_sem] max2_int min2_int max_two min_two max_three min_three max_four min_four
set_option linter.unusedVariables false
set_option linter.unusedSimpArgs false

theorem catch14 (a b c : Value) (w : World) :
    CallsD Tryz.prog 14 #[a, b, c] .returning w fun e u' w' => e = .returned (.tuple #[]) ∧ u' = .returning ∧ w' = w := by
  refine callsD_of_wpS Tryz.func14 rfl fun c₀ cs hu => ?_
  apply wpS_seq
  apply wpS_region
  simp [wpOpsS, go_sem, recoverD, hu, Tryz.ntmps14, Exit.thenS]
  refine wpS_cond (t := false) (by simp [Act.eval, Array.replicate]) ?_
  simp only [Bool.false_eq_true, if_false]
  refine wpS_of_wp (wp_skip ?_)
  cases c₀
  simp_all [bodyPostS, results, Tryz.results14]

/-- The reader that impl makes over a text. -/
theorem made_reader (w0 : World) (S : ByteArray) (hs : S.size ≤ 9223372036854775807) :
    Src (((Lib.bytesWorld w0 5 S).alloc (.cells #[.slice (some ⟨w0.heap.size, 0, none⟩) S.size (grownCap w0 S.size 0 5), .int .i64 0, .int .i64 32768] 68)).alloc (.cells #[.pointer (some ⟨w0.heap.size + 1, 0, none⟩)] 65)) (w0.heap.size + 1) w0.heap.size (bytesOf S) ∧
    PRd (((Lib.bytesWorld w0 5 S).alloc (.cells #[.slice (some ⟨w0.heap.size, 0, none⟩) S.size (grownCap w0 S.size 0 5), .int .i64 0, .int .i64 32768] 68)).alloc (.cells #[.pointer (some ⟨w0.heap.size + 1, 0, none⟩)] 65)) (w0.heap.size + 2) (w0.heap.size + 1) := by
  have hz : (Lib.bytesWorld w0 5 S).heap.size = w0.heap.size + 1 := Lib.bytesWorld_size w0 5 S
  have hR := bytes_reads w0 5 S hs
  have hb1 := below_alloc (Below.refl _ (Lib.bytesWorld w0 5 S)) (.cells #[.slice (some ⟨w0.heap.size, 0, none⟩) S.size (grownCap w0 S.size 0 5), .int .i64 0, .int .i64 32768] 68)
  have hl := bytesOf_length S
  obtain ⟨w1, hw1⟩ : ∃ w1, w1 = (Lib.bytesWorld w0 5 S).alloc (.cells #[.slice (some ⟨w0.heap.size, 0, none⟩) S.size (grownCap w0 S.size 0 5), .int .i64 0, .int .i64 32768] 68) := ⟨_, rfl⟩
  have h1 : w1.heap[w0.heap.size + 1]? = some (.cells #[.slice (some ⟨w0.heap.size, 0, none⟩) S.size (grownCap w0 S.size 0 5), .int .i64 0, .int .i64 32768] 68) := by rw [hw1, ← hz]; exact heap_alloc_new _ _
  have hz1 : w1.heap.size = w0.heap.size + 2 := by rw [hw1]; show ((Lib.bytesWorld w0 5 S).heap.push _).size = _; rw [Array.size_push, hz]
  rw [← hw1] at hb1 ⊢
  have hb2 := below_alloc (Below.refl _ w1) (.cells #[.pointer (some ⟨w0.heap.size + 1, 0, none⟩)] 65)
  refine ⟨⟨some ⟨w0.heap.size, 0, none⟩, grownCap w0 S.size 0 5, 0, ?_, ?_, by omega, by omega, by omega, ?_, ?_⟩, ?_⟩
  · rw [hl]; exact (hb2.block _ (by omega)).trans h1
  · rw [hl]; exact grownCap_ge _ _ _ _
  · rw [hl]; exact (hR.below hb1).below hb2
  · intro ad e; cases e; rfl
  · rw [← hz1]; exact heap_alloc_new _ _

/-- What NewReader leaves over the bytes of a text. -/
def MadePost (w0 : World) (S : ByteArray) (e : Ending) (w' : World) : Prop :=
  ∃ p g db, e = .returned (.pointer (some ⟨p, 0, none⟩)) ∧ p ≠ g ∧ db ≠ g ∧ db ≠ p ∧ w0.heap.size ≤ p ∧ w0.heap.size ≤ g ∧ w0.heap.size ≤ db ∧ p < w'.heap.size ∧ g < w'.heap.size ∧ db < w'.heap.size ∧ PRd w' p g ∧ Src w' g db (bytesOf S) ∧ Below w0.heap.size w0 w'

theorem mkReader_calls (w0 : World) (S : ByteArray) (hs : S.size ≤ 9223372036854775807) :
    Calls Tryz.prog 15 #[.slice (some ⟨w0.heap.size, 0, none⟩) S.size (grownCap w0 S.size 0 5)] (Lib.bytesWorld w0 5 S) (MadePost w0 S) := by
  have hz : (Lib.bytesWorld w0 5 S).heap.size = w0.heap.size + 1 := Lib.bytesWorld_size w0 5 S
  refine (newReader_calls _ _ _ _).mono ?_
  rintro e w' ⟨rfl, rfl⟩
  obtain ⟨h1, h2⟩ := made_reader w0 S hs
  rw [hz]
  refine ⟨w0.heap.size + 2, w0.heap.size + 1, w0.heap.size, rfl, by omega, by omega, by omega, by omega, by omega, by omega, blk_lt h2, ?_, ?_, h2, h1, ?_⟩
  · obtain ⟨A, c, b, s1, _⟩ := h1
    exact blk_lt s1
  · have := blk_lt h2; omega
  · exact ((Lib.bytesWorld_below _ _ _).alloc (by rw [hz]; omega) _).alloc (by show _ ≤ ((Lib.bytesWorld w0 5 S).heap.push _).size; rw [Array.size_push, hz]; omega) _

set_option maxHeartbeats 8000000 in
set_option maxRecDepth 100000 in
theorem raw_calls (w : World) (S : ByteArray) (t rest : List Int) (hS : bytesOf S = t ++ rest) (ht : Rep t) (hl : t.length ≤ 1000000) (hs : S.size ≤ 9223372036854775807) :
    Calls Tryz.prog 8 #[.string S] w fun e w' => e = .returned (.tuple #[.string (strOfNums t), .int .i64 (rest.length : Int), .int .i64 0]) ∧ Below w.heap.size w w' := by
  have hmf : ∀ (fn : Fn) (first cap : Array Value) (w : World), (Instr.makeFunc fn first cap).run Tryz.prog w = .ok (.func fn first cap) w := fun _ _ _ _ => rfl
  have kb := fun W => print_bytes (P := Tryz.prog) 9 41 5 Tryz.underlying9 Tryz.underlying41 Tryz.underlying5 S W
  have HT := Aside0.mk ht
  have HSB := Aside0.mk hS
  clear ht hS
  go_enter_defers Tryz.func8, Tryz.ntmps8
  go_wp2_with fail
  obtain ⟨w0, hw0⟩ : ∃ w0, w0 = ((w.alloc (.cells #[.string ⟨#[]⟩] 9)).alloc (.cells #[.int .i64 0] 3)).alloc (.cells #[.int .i64 0] 3) := ⟨_, rfl⟩
  have hz0 : w0.heap.size = w.heap.size + 1 + 1 + 1 := by rw [hw0]; simp
  have r0 : w0.heap[w.heap.size]? = some (.cells #[.string ⟨#[]⟩] 9 (0, 0)) := by
    rw [hw0, heap_alloc_old _ _ (by simp; omega), heap_alloc_old _ _ (by simp)]; exact heap_alloc_new _ _
  have r1 : w0.heap[w.heap.size + 1]? = some (.cells #[.int .i64 0] 3 (0, 0)) := by
    rw [hw0, heap_alloc_old _ _ (by simp)]; have := heap_alloc_new (w.alloc (.cells #[.string ⟨#[]⟩] 9)) (.cells #[.int .i64 0] 3); simpa using this
  have r2 : w0.heap[w.heap.size + 1 + 1]? = some (.cells #[.int .i64 0] 3 (0, 0)) := by
    rw [hw0]; have := heap_alloc_new ((w.alloc (.cells #[.string ⟨#[]⟩] 9)).alloc (.cells #[.int .i64 0] 3)) (.cells #[.int .i64 0] 3); simpa using this
  have hb0 : Below w.heap.size w w0 := by rw [hw0]; exact ((((Below.refl _ _).alloc (Nat.le_refl _) _).alloc (by simp) _).alloc (by simp; omega) _)
  rw [← hw0, ← hz0]
  have HZ0 := Aside0.mk hz0
  have HB0 := Aside0.mk hb0
  have HR0 := Aside0.mk r0
  have HR1 := Aside0.mk r1
  have HR2 := Aside0.mk r2
  clear hw0 hb0 r0 r1 r2 hz0
  refine (mkReader_calls w0 S hs).mono ?_
  rintro e w1 ⟨p, g, db, rfl, hpg, hdb, hdp, hp0, hg0, hd0, hp1, hg1, hd1, hP, hX, hB⟩
  rw [HSB.out] at hX
  have h := readRaw_calls w1 p g db t rest HT.out hP hpg hdb hp1 hg1 hd1 hX hl
  have H := Aside0.mk h
  have HP := Aside0.mk hP
  have HB := Aside0.mk hB
  clear h hP hX hB
  go_wp2_with fail
  refine H.out.mono ?_
  rintro e w2 ⟨v, rfl, hO, hX, hM⟩
  have hB2 : Below w0.heap.size w0 w2 := ⟨hM.os.trans HB.out.os, hM.tape.trans HB.out.tape, hM.output.trans HB.out.output, Nat.le_trans HB.out.size hM.size, fun k hk => (hM.block k (by have := HB.out.size; omega) (by have := HB.out.size; omega)).trans (HB.out.block k hk)⟩
  have s0 : w2.drew.heap[w.heap.size]? = _ := blk_below HR0.out hB2.drew
  have s1 : w2.drew.heap[w.heap.size + 1]? = _ := blk_below HR1.out hB2.drew
  have s2 : w2.drew.heap[w.heap.size + 1 + 1]? = _ := blk_below HR2.out hB2.drew
  have hcz0 : w2.drew.cell? ⟨w.heap.size, 0, none⟩ = some (.string ⟨#[]⟩) := (blk_cell s0 0).trans rfl
  have hcz1 : w2.drew.cell? ⟨w.heap.size + 1, 0, none⟩ = some (.int .i64 0) := (blk_cell s1 0).trans rfl
  have hcz2 : w2.drew.cell? ⟨w.heap.size + 1 + 1, 0, none⟩ = some (.int .i64 0) := (blk_cell s2 0).trans rfl
  have hfz0 := blk_frozen s0 0
  have hfz1 := blk_frozen s1 0
  have hfz2 := blk_frozen s2 0
  have hcv := own_string (P := Tryz.prog) Tryz.underlying41 Tryz.underlying5 Tryz.underlying9 (show w2.drew.ownsRow _ 5 1 v _ (nums .u8 t) from hO)
  have hq := left_calls w2.drew p g db rest (by have := HZ0.out; exact hM.blk HP.out (by omega)) (by exact hX)
  have HQ := Aside0.mk hq
  have HB2 := Aside0.mk (show Below w0.heap.size w0 w2.drew from hB2.drew)
  clear hO hX hM hB2 s0 s1 s2 hq
  go_wp2_with fail
  go_still_tail 4, (by kernel_rfl)
  still_call (HQ.out.mono (fun e w' h => ⟨h.1, h.2.symm⟩))
  refine wpStill_nil ?_
  change wpList _ _ _ _ _ w2.drew
  generalize w2.drew = w3 at *
  go_wp2
  refine leaves_cons (f := 14) (args := #[.pointer (some ⟨w.heap.size, 0, none⟩), .pointer (some ⟨w.heap.size + 1, 0, none⟩), .pointer (some ⟨w.heap.size + 1 + 1, 0, none⟩)]) (by simp) (by simp [go_sem]) ?_
  refine (catch14 _ _ _ _).mono ?_
  rintro e u' w'' ⟨rfl, rfl, rfl⟩
  simp [Leaves, settle, results, Tryz.results8, go_sem, hcz0, hcz1, hcz2]
  exact ((((HB0.out.trans (HB2.out.mono (by have := HZ0.out; omega))).setCell (by simp) _).setCell (by simp) _).setCell (by simp; omega) _)
end

section
open Go.RowKit Go.Proofs.YtmdlmjjggjemdaaGreatDoorW.PrintWords Go.Proofs.YtmdlmjjggjemdaaGreatDoorW.PrintMore Go.Proofs.YtmdlmjjggjemdaaGreatDoorW.PrintLast Go.Proofs.YtmdlmjjggjemdaaGreatDoor.PFnRespRaw
attribute [local go_sem] max2_int min2_int max_two min_two max_three min_three max_four min_four
set_option linter.unusedVariables false
set_option linter.unusedSimpArgs false

/-- What is asked where the code goes on, and no other end. -/
def OnlyN (Q : Exit → Act → World → Prop) : Exit → Act → World → Prop
  | .normal, a, w => Q .normal a w
  | _, _, _ => False
theorem wp_only {P : Program} {c : Code} {Q : Exit → Act → World → Prop} {a : Act} {w : World} (h : c.wp P (OnlyN Q) a w) : c.wp P Q a w :=
  wp_mono h (fun e a w h => by cases e <;> first | exact h | exact h.elim)

theorem catch18 (a b c : Value) (w : World) :
    CallsD Tryz.prog 18 #[a, b, c] .returning w fun e u' w' => e = .returned (.tuple #[]) ∧ u' = .returning ∧ w' = w := by
  refine callsD_of_wpS Tryz.func18 rfl fun c₀ cs hu => ?_
  apply wpS_seq
  apply wpS_region
  simp [wpOpsS, go_sem, recoverD, hu, Tryz.ntmps18, Exit.thenS]
  refine wpS_cond (t := false) (by simp [Act.eval, Array.replicate]) ?_
  simp only [Bool.false_eq_true, if_false]
  refine wpS_of_wp (wp_skip ?_)
  cases c₀
  simp_all [bodyPostS, results, Tryz.results18]

theorem catch20 (a b : Value) (w : World) :
    CallsD Tryz.prog 20 #[a, b] .returning w fun e u' w' => e = .returned (.tuple #[]) ∧ u' = .returning ∧ w' = w := by
  refine callsD_of_wpS Tryz.func20 rfl fun c₀ cs hu => ?_
  apply wpS_seq
  apply wpS_region
  simp [wpOpsS, go_sem, recoverD, hu, Tryz.ntmps20, Exit.thenS]
  refine wpS_cond (t := false) (by simp [Act.eval, Array.replicate]) ?_
  simp only [Bool.false_eq_true, if_false]
  refine wpS_of_wp (wp_skip ?_)
  cases c₀
  simp_all [bodyPostS, results, Tryz.results20]

set_option maxHeartbeats 8000000 in
set_option maxRecDepth 100000 in
theorem rawTo_calls (w : World) (S : ByteArray) (t rest : List Int) (hS : bytesOf S = t ++ rest) (ht : Rep t) (hl : t.length ≤ 1000000) (hs : S.size ≤ 9223372036854775807) :
    Calls Tryz.prog 9 #[.string S] w fun e w' => e = .returned (.tuple #[.string (strOfNums t), .int .i64 (rest.length : Int), .int .i64 0]) ∧ Below w.heap.size w w' := by
  have hmf : ∀ (fn : Fn) (first cap : Array Value) (w : World), (Instr.makeFunc fn first cap).run Tryz.prog w = .ok (.func fn first cap) w := fun _ _ _ _ => rfl
  have kb := fun W => print_bytes (P := Tryz.prog) 9 41 5 Tryz.underlying9 Tryz.underlying41 Tryz.underlying5 S W
  have HT := Aside0.mk ht
  have HSB := Aside0.mk hS
  clear ht hS
  go_enter_defers Tryz.func9, Tryz.ntmps9
  go_wp2_with fail
  obtain ⟨w0, hw0⟩ : ∃ w0, w0 = ((w.alloc (.cells #[.string ⟨#[]⟩] 9)).alloc (.cells #[.int .i64 0] 3)).alloc (.cells #[.int .i64 0] 3) := ⟨_, rfl⟩
  have hz0 : w0.heap.size = w.heap.size + 1 + 1 + 1 := by rw [hw0]; simp
  have r0 : w0.heap[w.heap.size]? = some (.cells #[.string ⟨#[]⟩] 9 (0, 0)) := by
    rw [hw0, heap_alloc_old _ _ (by simp; omega), heap_alloc_old _ _ (by simp)]; exact heap_alloc_new _ _
  have r1 : w0.heap[w.heap.size + 1]? = some (.cells #[.int .i64 0] 3 (0, 0)) := by
    rw [hw0, heap_alloc_old _ _ (by simp)]; have := heap_alloc_new (w.alloc (.cells #[.string ⟨#[]⟩] 9)) (.cells #[.int .i64 0] 3); simpa using this
  have r2 : w0.heap[w.heap.size + 1 + 1]? = some (.cells #[.int .i64 0] 3 (0, 0)) := by
    rw [hw0]; have := heap_alloc_new ((w.alloc (.cells #[.string ⟨#[]⟩] 9)).alloc (.cells #[.int .i64 0] 3)) (.cells #[.int .i64 0] 3); simpa using this
  have hb0 : Below w.heap.size w w0 := by rw [hw0]; exact ((((Below.refl _ _).alloc (Nat.le_refl _) _).alloc (by simp) _).alloc (by simp; omega) _)
  rw [← hw0, ← hz0]
  have HZ0 := Aside0.mk hz0
  have HB0 := Aside0.mk hb0
  have HR0 := Aside0.mk r0
  have HR1 := Aside0.mk r1
  have HR2 := Aside0.mk r2
  clear hw0 hb0 r0 r1 r2 hz0
  refine (mkReader_calls w0 S hs).mono ?_
  rintro e w1 ⟨p, g, db, rfl, hpg, hdb, hdp, hp0, hg0, hd0, hp1, hg1, hd1, hP, hX, hB⟩
  rw [HSB.out] at hX
  have hz1 : (w1.alloc (.cells #[.slice none 0 0] 49)).heap.size = w1.heap.size + 1 := by simp
  have hma := (Mods.refl (fun _ => False) w1).alloc (.cells #[.slice none 0 0] 49)
  have h := readWr_calls (w1.alloc (.cells #[.slice none 0 0] 49)) p g db w1.heap.size t rest HT.out (hma.blk hP id) hpg hdb (by omega) (by omega) (by omega) (by omega) (by omega) (by omega) (by omega) (hX.mods hma id id) ⟨_, heap_alloc_new _ _, World.ownsRow_nil _ _ _ _⟩ hl
  have H := Aside0.mk h
  have HP := Aside0.mk (hma.blk hP id)
  have HB := Aside0.mk (below_then hB hB.size hma.below)
  have HZ1 := Aside0.mk hz1
  clear h hP hX hB hma hz1
  go_wp2_with fail
  refine H.out.mono ?_
  rintro e w2 ⟨rfl, hW, hX, hM⟩
  have hB2 : Below w0.heap.size w0 w2 := ⟨hM.os.trans HB.out.os, hM.tape.trans HB.out.tape, hM.output.trans HB.out.output, Nat.le_trans HB.out.size hM.size, fun k hk => (hM.block k (by have := HB.out.size; omega) (by have := HZ1.out; have := HB.out.size; omega)).trans (HB.out.block k hk)⟩
  obtain ⟨v, hv, hO⟩ := hW
  obtain ⟨Av, cv, rfl⟩ := own_slice hO
  have s0 := blk_below HR0.out hB2
  have s1 := blk_below HR1.out hB2
  have s2 := blk_below HR2.out hB2
  have hcb : w2.cell? ⟨w1.heap.size, 0, none⟩ = some (.slice Av t.length cv) := (blk_cell hv 0).trans rfl
  have hq := left_calls w2.drew p g db rest (by have := HZ0.out; exact hM.blk HP.out (by have := HZ1.out; omega)) (by exact hX)
  have hcv := own_string (P := Tryz.prog) Tryz.underlying41 Tryz.underlying5 Tryz.underlying9 (show w2.drew.ownsRow _ 5 1 _ _ (nums .u8 t) from hO)
  have hne : ((t.length : Int) != (t.length : Int)) = false := by simp
  have HQ := Aside0.mk hq
  have HB2 := Aside0.mk hB2
  have HS0 := Aside0.mk s0
  have HS1 := Aside0.mk s1
  have HS2 := Aside0.mk s2
  clear hO hX hM hB2 s0 s1 s2 hq hv
  go_wp2_with fail
  have hcz0 : w2.cell? ⟨w.heap.size, 0, none⟩ = some (.string ⟨#[]⟩) := (blk_cell HS0.out 0).trans rfl
  have hcz1 : w2.cell? ⟨w.heap.size + 1, 0, none⟩ = some (.int .i64 0) := (blk_cell HS1.out 0).trans rfl
  have hcz2 : w2.cell? ⟨w.heap.size + 1 + 1, 0, none⟩ = some (.int .i64 0) := (blk_cell HS2.out 0).trans rfl
  have hfz0 : w2.frozen? ⟨w.heap.size, 0, none⟩ = false := blk_frozen HS0.out 0
  have hfz1 : w2.frozen? ⟨w.heap.size + 1, 0, none⟩ = false := blk_frozen HS1.out 0
  have hfz2 : w2.frozen? ⟨w.heap.size + 1 + 1, 0, none⟩ = false := blk_frozen HS2.out 0
  have hcb2 : w2.cell? ⟨w1.heap.size, 0, none⟩ = some (.slice Av t.length cv) := hcb
  clear hcb
  refine wp_only ?_
  go_region_with (go_at_call 17; refine HQ.out.mono ?_; rintro e w3 ⟨rfl, hw3⟩; subst hw3)
  all_goals
    unfold OnlyN
    go_wp2
    refine leaves_cons (f := 18) (args := #[.pointer (some ⟨w.heap.size, 0, none⟩), .pointer (some ⟨w.heap.size + 1, 0, none⟩), .pointer (some ⟨w.heap.size + 1 + 1, 0, none⟩)]) (by simp) (by simp [go_sem]) ?_
    refine (catch18 _ _ _ _).mono ?_
    rintro e u' w'' ⟨rfl, rfl, rfl⟩
    simp [Leaves, settle, results, Tryz.results9, go_sem, hcz0, hcz1, hcz2]
    have hb := HB0.out.trans (HB2.out.mono (by have := HZ0.out; omega))
    repeat first | exact hb | refine below_drew ?_ | refine pw_below_drewN ?_ _ | refine Below.setCell ?_ (by first | (simp; done) | (simp; omega)) _
end

section
open Go.RowKit Go.Proofs.YtmdlmjjggjemdaaGreatDoorW.PrintWords Go.Proofs.YtmdlmjjggjemdaaGreatDoorW.PrintMore Go.Proofs.YtmdlmjjggjemdaaGreatDoorW.PrintLast Go.Proofs.YtmdlmjjggjemdaaGreatDoor.PFnRespRaw
attribute [local go_sem] max2_int min2_int max_two min_two max_three min_three max_four min_four
set_option linter.unusedVariables false
set_option linter.unusedSimpArgs false

set_option maxHeartbeats 8000000 in
set_option maxRecDepth 100000 in
theorem discard_calls (w : World) (S : ByteArray) (t rest : List Int) (hS : bytesOf S = t ++ rest) (ht : Rep t) (hl : t.length ≤ 1000000) (hs : S.size ≤ 9223372036854775807) :
    Calls Tryz.prog 10 #[.string S] w fun e w' => e = .returned (.tuple #[.int .i64 (rest.length : Int), .int .i64 0]) ∧ Below w.heap.size w w' := by
  have hmf : ∀ (fn : Fn) (first cap : Array Value) (w : World), (Instr.makeFunc fn first cap).run Tryz.prog w = .ok (.func fn first cap) w := fun _ _ _ _ => rfl
  have kb := fun W => print_bytes (P := Tryz.prog) 9 41 5 Tryz.underlying9 Tryz.underlying41 Tryz.underlying5 S W
  have HT := Aside0.mk ht
  have HSB := Aside0.mk hS
  clear ht hS
  go_enter_defers Tryz.func10, Tryz.ntmps10
  go_wp2_with fail
  obtain ⟨w0, hw0⟩ : ∃ w0, w0 = (w.alloc (.cells #[.int .i64 0] 3)).alloc (.cells #[.int .i64 0] 3) := ⟨_, rfl⟩
  have hz0 : w0.heap.size = w.heap.size + 1 + 1 := by rw [hw0]; simp
  have r0 : w0.heap[w.heap.size]? = some (.cells #[.int .i64 0] 3 (0, 0)) := by
    rw [hw0, heap_alloc_old _ _ (by simp)]; exact heap_alloc_new _ _
  have r1 : w0.heap[w.heap.size + 1]? = some (.cells #[.int .i64 0] 3 (0, 0)) := by
    rw [hw0]; have := heap_alloc_new (w.alloc (.cells #[.int .i64 0] 3)) (.cells #[.int .i64 0] 3); simpa using this
  have hb0 : Below w.heap.size w w0 := by rw [hw0]; exact (((Below.refl _ _).alloc (Nat.le_refl _) _).alloc (by simp) _)
  rw [← hw0, ← hz0]
  have HZ0 := Aside0.mk hz0
  have HB0 := Aside0.mk hb0
  have HR0 := Aside0.mk r0
  have HR1 := Aside0.mk r1
  clear hw0 hb0 r0 r1 hz0
  refine (mkReader_calls w0 S hs).mono ?_
  rintro e w1 ⟨p, g, db, rfl, hpg, hdb, hdp, hp0, hg0, hd0, hp1, hg1, hd1, hP, hX, hB⟩
  rw [HSB.out] at hX
  have h := rep_dis HT.out w1 p g db rest hP hpg hdb hX
  have H := Aside0.mk h
  have HP := Aside0.mk hP
  have HB := Aside0.mk hB
  clear h hP hX hB
  go_wp2_with fail
  refine H.out.mono ?_
  rintro e w2 ⟨rfl, hX, hM⟩
  have hB2 : Below w0.heap.size w0 w2 := ⟨hM.os.trans HB.out.os, hM.tape.trans HB.out.tape, hM.output.trans HB.out.output, Nat.le_trans HB.out.size hM.size, fun k hk => (hM.block k (by have := HB.out.size; omega) (by have := HB.out.size; omega)).trans (HB.out.block k hk)⟩
  have s0 := blk_below HR0.out hB2
  have s1 := blk_below HR1.out hB2
  have hcz0 : w2.cell? ⟨w.heap.size, 0, none⟩ = some (.int .i64 0) := (blk_cell s0 0).trans rfl
  have hcz1 : w2.cell? ⟨w.heap.size + 1, 0, none⟩ = some (.int .i64 0) := (blk_cell s1 0).trans rfl
  have hfz0 := blk_frozen s0 0
  have hfz1 := blk_frozen s1 0
  have hq := left_calls w2 p g db rest (by have := HZ0.out; exact hM.blk HP.out (by omega)) hX
  have HQ := Aside0.mk hq
  have HB2 := Aside0.mk hB2
  clear hX hM hB2 s0 s1 hq
  go_wp2_with fail
  refine HQ.out.mono ?_
  rintro e w3 ⟨rfl, rfl⟩
  go_wp2
  refine leaves_cons (f := 20) (args := #[.pointer (some ⟨w.heap.size, 0, none⟩), .pointer (some ⟨w.heap.size + 1, 0, none⟩)]) (by simp) (by simp [go_sem]) ?_
  refine (catch20 _ _ _).mono ?_
  rintro e u' w'' ⟨rfl, rfl, rfl⟩
  simp [Leaves, settle, results, Tryz.results10, go_sem, hcz0, hcz1]
  have hb := HB0.out.trans (HB2.out.mono (by have := HZ0.out; omega))
  repeat first | exact hb | refine below_drew ?_ | refine pw_below_drewN ?_ _ | refine Below.setCell ?_ (by first | (simp; done) | (simp; omega)) _
end
end Go.Proofs.YtmdlmjjggjemdaaGreatDoor
