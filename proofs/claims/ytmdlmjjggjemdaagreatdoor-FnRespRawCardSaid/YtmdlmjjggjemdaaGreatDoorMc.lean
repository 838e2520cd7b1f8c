/- readRawReplyWriteTo: words, lines, nil. readRawReplyWriteTo: texts. readRawReplyWriteTo: lists. readRawReplyWriteTo: maps. -/
import Derived.Test.YtmdlmjjggjemdaaGreatDoorMb
import Derived.Lib.SlBytesConst
namespace Go.Proofs.YtmdlmjjggjemdaaGreatDoor
section
open Go.RowKit Go.Proofs.YtmdlmjjggjemdaaGreatDoorW.PrintWords Go.Proofs.YtmdlmjjggjemdaaGreatDoorW.PrintMore Go.Proofs.YtmdlmjjggjemdaaGreatDoorW.PrintLast Go.Proofs.YtmdlmjjggjemdaaGreatDoor.PFnRespRaw
attribute [local go_sem] max2_int min2_int max_two min_two max_three min_three max_four min_four
set_option linter.unusedVariables false
set_option linter.unusedSimpArgs false

theorem crlf_reads2 (w : World) : ReadsInt (w.alloc (.cells #[.int .u8 13, .int .u8 10] 5 (2, 3))) .u8 (some ⟨w.heap.size, 0, none⟩) 2 [13, 10] := by
  refine ⟨rfl, by omega, fun _ => ⟨_, rfl, fun j hj => ?_⟩⟩
  rw [add_plain, cell_of_row _ _ j _ 5 (2, 3) (heap_alloc_new w _)]
  match j, hj with
  | 0, _ => rfl
  | 1, _ => rfl

def WrPost (w : World) (g db b B : Nat) (n : Nat) (rest ys : List Int) (e : Ending) (w' : World) : Prop :=
  e = .returned (.tuple #[.int .i64 (n : Int), .nilIface]) ∧ Buf w' b B ys ∧ Src w' g db rest ∧ Mods (fun k => k = g ∨ k = b ∨ B ≤ k) w w'

/-- The writing of a reply's bytes t into a Buffer. -/
def WrOK (t : List Int) : Prop := ∀ (w : World) (p g db b B : Nat) (rest xs : List Int), PRd w p g → p ≠ g → db ≠ g → db ≠ b → b ≠ g → b ≠ p → p < B → g < B → db < B → b < B → B ≤ w.heap.size →
  Src w g db (t ++ rest) → Buf w b B xs → xs.length + t.length ≤ 1000000 → Calls Tryz.prog 28 #[.pointer (some ⟨p, 0, none⟩), .iface 47 (.pointer (some ⟨b, 0, none⟩))] w (WrPost w g db b B t.length rest (xs ++ t))

theorem buf_mods {S : Nat → Prop} {w w' : World} {b B : Nat} {xs : List Int} (h : Buf w b B xs) (hm : Mods S w w') (h1 : ¬ S b) (h2 : ∀ k, B ≤ k → ¬ S k) : Buf w' b B xs := by
  obtain ⟨v, h3, h4⟩ := h
  exact ⟨v, hm.blk h3 h1, own_mods h4 hm h2⟩

set_option maxHeartbeats 8000000 in
set_option maxRecDepth 100000 in
theorem wr_line (s : Int) (body : List Int) (hs : s ∈ [43, 45, 58, 95, 44, 35, 40]) (hl : Line (s :: body)) : WrOK (s :: body ++ [13, 10]) := by
  intro w p g db b B rest xs hp hpg hdb hdb2 hbg hbp hpB hgB hdB hbB hB hS hW hlen
  obtain ⟨L, hL⟩ : ∃ L, L = s :: body := ⟨_, rfl⟩
  rw [← hL] at hl hS hlen ⊢
  have h := readLine_calls w p g db L rest hp hpg hdb hS hl
  have hl0 : 0 < L.length := hl.1
  have hl1 : xs.length + L.length + 2 ≤ 1000000 := by simp at hlen; omega
  have H := Aside0.mk h
  have HP := Aside0.mk hp
  have HW := Aside0.mk hW
  have HL := Aside0.mk hL
  have hme := method_write
  have kc := fun (w : World) (C : Array Value) (n c : Nat) => Lib.run_convert_bytes_const (P := Tryz.prog) w 41 5 C n c Tryz.underlying41 Tryz.underlying5
  clear h hp hS hW hl hlen hL
  go_enter Tryz.func28, Tryz.ntmps28
  go_wp2_with fail
  refine H.out.mono ?_
  rintro e w1 ⟨A, c, rfl, hc, hR, hA, hS, hM⟩
  obtain ⟨ad, rfl, hcell⟩ := hR.2.2 hl0
  have hx0 : w1.cell? ad = some (.int .u8 s) := by have := hcell 0 hl0; rw [HL.out] at this; simpa [Addr.add] using this
  have hB1 : B ≤ w1.heap.size := Nat.le_trans hB hM.size
  have hW1 := buf_mods HW.out hM hbg (fun k hk e => by omega)
  have hA1 := hA ad rfl
  have hw := write_calls w1 b B xs L (some ad) L.length c hbB hB1 hW1 hR (by omega)
  have HW1 := Aside0.mk hw
  have HR1 := Aside0.mk hR
  have HS1 := Aside0.mk hS
  have HM1 := Aside0.mk hM
  have HA1 := Aside0.mk hA1
  clear hR hA hS hM hcell hW1 hw hA1
  go_wp2_with fail
  refine HW1.out.mono ?_
  rintro e w2 ⟨rfl, hb2, hm2⟩
  obtain ⟨ys, hys⟩ : ∃ ys, ys = xs ++ L := ⟨_, rfl⟩
  rw [← hys] at hb2
  have hx2 := hm2.cell hx0 (by rw [HA1.out]; omega)
  have HS2 := Aside0.mk (HS1.out.mods hm2 (by omega) (by omega))
  have HR2 := Aside0.mk (hm2.reads HR1.out (fun a e => by cases e; rw [HA1.out]; omega))
  have HM2 := Aside0.mk ((HM1.out.mono (S' := fun k => k = g ∨ k = b ∨ B ≤ k) (fun _ _ h => .inl h)).trans hm2 (fun _ _ h => .inr h))
  have hB2 : B ≤ w2.heap.size := Nat.le_trans hB1 hm2.size
  have hyl : ys.length + 2 ≤ 1000000 := by rw [hys, List.length_append]; omega
  have HY := Aside0.mk hys
  have hM2 := (Mods.refl (fun _ => False) w2).alloc (.cells #[.int .u8 13, .int .u8 10] 5 (2, 3))
  have hw := write_calls (w2.alloc (.cells #[.int .u8 13, .int .u8 10] 5 (2, 3))) b B ys [13, 10] (some ⟨w2.heap.size, 0, none⟩) 2 2 hbB (Nat.le_trans hB2 hM2.size) (buf_mods hb2 hM2 id (fun _ _ => id)) (crlf_reads2 w2) (by omega)
  have HW2 := Aside0.mk hw
  clear hb2 hm2 hx0 hys hw hM2
  go_wp2_with fail
  refine HW2.out.mono ?_
  rintro e w3 ⟨rfl, hb3, hm3⟩
  obtain ⟨zs, hzs⟩ : ∃ zs, zs = ys ++ [13, 10] := ⟨_, rfl⟩
  rw [← hzs] at hb3
  have hM2 := (Mods.refl (fun k => k = b ∨ B ≤ k) w2).alloc (.cells #[.int .u8 13, .int .u8 10] 5 (2, 3))
  have hm3 := hM2.trans hm3 (fun _ _ h => h)
  have hx3 := hm3.cell hx2 (by rw [HA1.out]; omega)
  have HW3 := Aside0.mk hb3
  have HS3 := Aside0.mk (HS2.out.mods hm3 (by omega) (by omega))
  have HM3 := Aside0.mk (HM2.out.trans hm3 (fun _ _ h => .inr h))
  have hB3 : B ≤ w3.heap.size := Nat.le_trans hB2 hm3.size
  have HR3 := Aside0.mk (hm3.reads HR2.out (fun a e => by cases e; rw [HA1.out]; omega))
  have hzl : zs.length ≤ 1000000 := by rw [hzs]; simp; omega
  have HZ := Aside0.mk hzs
  clear hb3 hm3 hx2 hzs hM2
  simp only [List.mem_cons, List.not_mem_nil, or_false] at hs
  rcases hs with rfl | rfl | rfl | rfl | rfl | rfl | rfl
  all_goals
    go_wp2
    go_ret2
    refine ⟨?_, ?_, HS3.out, HM3.out⟩
    · simp
    · rw [show xs ++ (L ++ [13, 10]) = zs by rw [HZ.out, HY.out, List.append_assoc]]
      exact HW3.out

set_option maxHeartbeats 8000000 in
set_option maxRecDepth 100000 in
theorem wr_nil (s : Int) (hs : s = 36 ∨ s = 42) : WrOK ([s, 45, 49] ++ [13, 10]) := by
  intro w p g db b B rest xs hp hpg hdb hdb2 hbg hbp hpB hgB hdB hbB hB hS hW hlen
  have hl : Line [s, 45, 49] := ⟨by simp, by simp, by intro x hx; simp at hx; omega⟩
  obtain ⟨L, hL⟩ : ∃ L, L = [s, 45, 49] := ⟨_, rfl⟩
  rw [← hL] at hl hS hlen ⊢
  have h := readLine_calls w p g db L rest hp hpg hdb hS hl
  have hl0 : 0 < L.length := hl.1
  have hl1 : xs.length + L.length + 2 ≤ 1000000 := by simp at hlen; omega
  have H := Aside0.mk h
  have HP := Aside0.mk hp
  have HW := Aside0.mk hW
  have HL := Aside0.mk hL
  have hme := method_write
  have kc := fun (w : World) (C : Array Value) (n c : Nat) => Lib.run_convert_bytes_const (P := Tryz.prog) w 41 5 C n c Tryz.underlying41 Tryz.underlying5
  clear h hp hS hW hl hlen hL
  go_enter Tryz.func28, Tryz.ntmps28
  go_wp2_with fail
  refine H.out.mono ?_
  rintro e w1 ⟨A, c, rfl, hc, hR, hA, hS, hM⟩
  obtain ⟨ad, rfl, hcell⟩ := hR.2.2 hl0
  have hx0 : w1.cell? ad = some (.int .u8 s) := by have := hcell 0 hl0; rw [HL.out] at this; simpa [Addr.add] using this
  have hB1 : B ≤ w1.heap.size := Nat.le_trans hB hM.size
  have hW1 := buf_mods HW.out hM hbg (fun k hk e => by omega)
  have hA1 := hA ad rfl
  have hw := write_calls w1 b B xs L (some ad) L.length c hbB hB1 hW1 hR (by omega)
  have HW1 := Aside0.mk hw
  have HR1 := Aside0.mk hR
  have HS1 := Aside0.mk hS
  have HM1 := Aside0.mk hM
  have HA1 := Aside0.mk hA1
  clear hR hA hS hM hcell hW1 hw hA1
  go_wp2_with fail
  refine HW1.out.mono ?_
  rintro e w2 ⟨rfl, hb2, hm2⟩
  obtain ⟨ys, hys⟩ : ∃ ys, ys = xs ++ L := ⟨_, rfl⟩
  rw [← hys] at hb2
  have hx2 := hm2.cell hx0 (by rw [HA1.out]; omega)
  have HS2 := Aside0.mk (HS1.out.mods hm2 (by omega) (by omega))
  have HR2 := Aside0.mk (hm2.reads HR1.out (fun a e => by cases e; rw [HA1.out]; omega))
  have HM2 := Aside0.mk ((HM1.out.mono (S' := fun k => k = g ∨ k = b ∨ B ≤ k) (fun _ _ h => .inl h)).trans hm2 (fun _ _ h => .inr h))
  have hB2 : B ≤ w2.heap.size := Nat.le_trans hB1 hm2.size
  have hyl : ys.length + 2 ≤ 1000000 := by rw [hys, List.length_append]; omega
  have HY := Aside0.mk hys
  have hM2 := (Mods.refl (fun _ => False) w2).alloc (.cells #[.int .u8 13, .int .u8 10] 5 (2, 3))
  have hw := write_calls (w2.alloc (.cells #[.int .u8 13, .int .u8 10] 5 (2, 3))) b B ys [13, 10] (some ⟨w2.heap.size, 0, none⟩) 2 2 hbB (Nat.le_trans hB2 hM2.size) (buf_mods hb2 hM2 id (fun _ _ => id)) (crlf_reads2 w2) (by omega)
  have HW2 := Aside0.mk hw
  clear hb2 hm2 hx0 hys hw hM2
  go_wp2_with fail
  refine HW2.out.mono ?_
  rintro e w3 ⟨rfl, hb3, hm3⟩
  obtain ⟨zs, hzs⟩ : ∃ zs, zs = ys ++ [13, 10] := ⟨_, rfl⟩
  rw [← hzs] at hb3
  have hM2 := (Mods.refl (fun k => k = b ∨ B ≤ k) w2).alloc (.cells #[.int .u8 13, .int .u8 10] 5 (2, 3))
  have hm3 := hM2.trans hm3 (fun _ _ h => h)
  have hx3 := hm3.cell hx2 (by rw [HA1.out]; omega)
  have HW3 := Aside0.mk hb3
  have HS3 := Aside0.mk (HS2.out.mods hm3 (by omega) (by omega))
  have HM3 := Aside0.mk (HM2.out.trans hm3 (fun _ _ h => .inr h))
  have hB3 : B ≤ w3.heap.size := Nat.le_trans hB2 hm3.size
  have HR3 := Aside0.mk (hm3.reads HR2.out (fun a e => by cases e; rw [HA1.out]; omega))
  have hzl : zs.length ≤ 1000000 := by rw [hzs]; simp; omega
  have HZ := Aside0.mk hzs
  clear hb3 hm3 hx2 hzs hM2
  have hr := replyLen_nil w3 (some ad) L.length c s hs hc (by have := HR3.out; rw [HL.out] at this ⊢; exact this)
  have HRL := Aside0.mk hr
  clear hr
  have hne : ∀ w, (binOp .neq 43 (.iface 83 (.string ⟨#[114, 101, 100, 105, 115, 58, 32, 110, 105, 108]⟩)) .nilIface).run Tryz.prog w = .ok (.bool true) w := fun w => by kernel_rfl
  have heq : ∀ w, (binOp .eql 43 (.iface 83 (.string ⟨#[114, 101, 100, 105, 115, 58, 32, 110, 105, 108]⟩)) (.iface 83 (.string ⟨#[114, 101, 100, 105, 115, 58, 32, 110, 105, 108]⟩))).run Tryz.prog w = .ok (.bool true) w := fun w => by kernel_rfl
  rcases hs with rfl | rfl
  all_goals
    go_wp2_with fail
    refine HRL.out.mono ?_
    rintro e w4 ⟨rfl, hb⟩
    have HB4 := Aside0.mk hb
    clear hb
    go_wp2
    go_ret2
    refine ⟨?_, ?_, HS3.out.mods (Mods.of_below HB4.out) id id, HM3.out.then_below HB4.out⟩
    · simp
    · rw [show xs ++ (L ++ [13, 10]) = zs by rw [HZ.out, HY.out, List.append_assoc]]
      exact buf_mods HW3.out (Mods.of_below HB4.out) id (fun _ _ => id)
end

section
open Go.RowKit Go.Proofs.YtmdlmjjggjemdaaGreatDoorW.PrintWords Go.Proofs.YtmdlmjjggjemdaaGreatDoorW.PrintMore Go.Proofs.YtmdlmjjggjemdaaGreatDoorW.PrintLast Go.Proofs.YtmdlmjjggjemdaaGreatDoor.PFnRespRaw
attribute [local go_sem] max2_int min2_int max_two min_two max_three min_three max_four min_four
set_option linter.unusedVariables false
set_option linter.unusedSimpArgs false

set_option maxHeartbeats 8000000 in
set_option maxRecDepth 100000 in
theorem wr_bulk (s : Int) (data : List Int) (hs : s ∈ [36, 33, 61]) (hd : data.length ≤ 30000) : WrOK (s :: decI data.length ++ [13, 10] ++ (data ++ [13, 10])) := by
  intro w p g db b B rest0 xs hp hpg hdb hdb2 hbg hbp hpB hgB hdB hbB hB hS hW hlen
  have hdl := decI_le data.length (by omega)
  have hl : Line (s :: decI data.length) := ⟨by simp, by simp; omega, by
    intro x hx
    rcases List.mem_cons.1 hx with rfl | hx
    · simp at hs; omega
    · have := decI_digit _ x hx; omega⟩
  obtain ⟨rest, hrest⟩ : ∃ rest, rest = data ++ [13, 10] ++ rest0 := ⟨_, rfl⟩
  rw [List.append_assoc _ (data ++ [13, 10]), ← hrest] at hS
  have HRE := Aside0.mk hrest
  have HLN := Aside0.mk hlen
  clear hrest
  obtain ⟨L, hL⟩ : ∃ L, L = s :: decI data.length := ⟨_, rfl⟩
  rw [← hL] at hl hS hlen ⊢
  have h := readLine_calls w p g db L rest hp hpg hdb hS hl
  have hl0 : 0 < L.length := hl.1
  have hl1 : xs.length + L.length + 2 ≤ 1000000 := by simp at hlen; omega
  have H := Aside0.mk h
  have HP := Aside0.mk hp
  have HW := Aside0.mk hW
  have HL := Aside0.mk hL
  have hme := method_write
  have kc := fun (w : World) (C : Array Value) (n c : Nat) => Lib.run_convert_bytes_const (P := Tryz.prog) w 41 5 C n c Tryz.underlying41 Tryz.underlying5
  clear h hp hS hW hl hlen hL
  go_enter Tryz.func28, Tryz.ntmps28
  go_wp2_with fail
  refine H.out.mono ?_
  rintro e w1 ⟨A, c, rfl, hc, hR, hA, hS, hM⟩
  obtain ⟨ad, rfl, hcell⟩ := hR.2.2 hl0
  have hx0 : w1.cell? ad = some (.int .u8 s) := by have := hcell 0 hl0; rw [HL.out] at this; simpa [Addr.add] using this
  have hB1 : B ≤ w1.heap.size := Nat.le_trans hB hM.size
  have hW1 := buf_mods HW.out hM hbg (fun k hk e => by omega)
  have hA1 := hA ad rfl
  have hw := write_calls w1 b B xs L (some ad) L.length c hbB hB1 hW1 hR (by omega)
  have HW1 := Aside0.mk hw
  have HR1 := Aside0.mk hR
  have HS1 := Aside0.mk hS
  have HM1 := Aside0.mk hM
  have HA1 := Aside0.mk hA1
  clear hR hA hS hM hcell hW1 hw hA1
  go_wp2_with fail
  refine HW1.out.mono ?_
  rintro e w2 ⟨rfl, hb2, hm2⟩
  obtain ⟨ys, hys⟩ : ∃ ys, ys = xs ++ L := ⟨_, rfl⟩
  rw [← hys] at hb2
  have hx2 := hm2.cell hx0 (by rw [HA1.out]; omega)
  have HS2 := Aside0.mk (HS1.out.mods hm2 (by omega) (by omega))
  have HR2 := Aside0.mk (hm2.reads HR1.out (fun a e => by cases e; rw [HA1.out]; omega))
  have HM2 := Aside0.mk ((HM1.out.mono (S' := fun k => k = g ∨ k = b ∨ B ≤ k) (fun _ _ h => .inl h)).trans hm2 (fun _ _ h => .inr h))
  have hB2 : B ≤ w2.heap.size := Nat.le_trans hB1 hm2.size
  have hyl : ys.length + 2 ≤ 1000000 := by rw [hys, List.length_append]; omega
  have HY := Aside0.mk hys
  have hM2 := (Mods.refl (fun _ => False) w2).alloc (.cells #[.int .u8 13, .int .u8 10] 5 (2, 3))
  have hw := write_calls (w2.alloc (.cells #[.int .u8 13, .int .u8 10] 5 (2, 3))) b B ys [13, 10] (some ⟨w2.heap.size, 0, none⟩) 2 2 hbB (Nat.le_trans hB2 hM2.size) (buf_mods hb2 hM2 id (fun _ _ => id)) (crlf_reads2 w2) (by omega)
  have HW2 := Aside0.mk hw
  clear hb2 hm2 hx0 hys hw hM2
  go_wp2_with fail
  refine HW2.out.mono ?_
  rintro e w3 ⟨rfl, hb3, hm3⟩
  obtain ⟨zs, hzs⟩ : ∃ zs, zs = ys ++ [13, 10] := ⟨_, rfl⟩
  rw [← hzs] at hb3
  have hM2 := (Mods.refl (fun k => k = b ∨ B ≤ k) w2).alloc (.cells #[.int .u8 13, .int .u8 10] 5 (2, 3))
  have hm3 := hM2.trans hm3 (fun _ _ h => h)
  have hx3 := hm3.cell hx2 (by rw [HA1.out]; omega)
  have HW3 := Aside0.mk hb3
  have HS3 := Aside0.mk (HS2.out.mods hm3 (by omega) (by omega))
  have HM3 := Aside0.mk (HM2.out.trans hm3 (fun _ _ h => .inr h))
  have hB3 : B ≤ w3.heap.size := Nat.le_trans hB2 hm3.size
  have HR3 := Aside0.mk (hm3.reads HR2.out (fun a e => by cases e; rw [HA1.out]; omega))
  have hzl : zs.length ≤ 1000000 := by rw [hzs]; simp; omega
  have HZ := Aside0.mk hzs
  clear hb3 hm3 hx2 hzs hM2
  have hr := replyLen_calls w3 (some ad) L.length c s data.length (by simp at hs ⊢; omega) (by omega) hc (by have := HR3.out; rw [HL.out] at this ⊢; exact this)
  have HRL := Aside0.mk hr
  clear hr
  have hln : zs.length + (data.length + 2) ≤ 1000000 := by
    have h1 := HLN.out
    rw [← HL.out] at h1
    rw [HZ.out, HY.out]
    simp only [List.length_append, List.length_cons, List.length_nil] at h1 ⊢
    omega
  simp only [List.mem_cons, List.not_mem_nil, or_false] at hs
  have hczp : w3.cell? ⟨p, 0, none⟩ = some (.pointer (some ⟨g, 0, none⟩)) := (blk_cell (HM3.out.blk HP.out (by omega)) 0).trans rfl
  have hrl : rest.length = data.length + 2 + rest0.length := by rw [HRE.out]; simp; omega
  rcases hs with rfl | rfl | rfl
  all_goals
    go_wp2_with fail
    refine HRL.out.mono ?_
    rintro e w4 ⟨rfl, hb⟩
    have hb4 := Mods.of_below hb
    have hw := copyN_calls w4 g db b B ((data.length : Int) + 2) zs rest hdb hdb2 hbg hbB hgB hdB (Nat.le_trans hB3 hb.size) (HS3.out.mods hb4 id id) (buf_mods HW3.out hb4 id (fun _ _ => id)) (by omega) (by omega) (by omega)
    have HC := Aside0.mk hw
    have hczq := pw_cell_below hb hczp
    have HB4 := Aside0.mk hb
    clear hb hb4 hw
    go_wp2_with fail
    refine HC.out.mono ?_
    rintro e w5 ⟨rfl, q1, q2, q3⟩
    have HQ1 := Aside0.mk q1
    have HQ2 := Aside0.mk q2
    have HQ3 := Aside0.mk q3
    clear q1 q2 q3
    go_wp2
    go_ret2
    have hm : ((data.length : Int) + 2).toNat = data.length + 2 := by omega
    have ht : rest.take (data.length + 2) = data ++ [13, 10] := by rw [HRE.out]; exact List.take_left' (by simp)
    have hdr : rest.drop (data.length + 2) = rest0 := by rw [HRE.out]; exact List.drop_left' (by simp)
    have q1 := HQ1.out
    have q2 := HQ2.out
    rw [hm, hdr] at q1
    rw [hm, ht] at q2
    refine ⟨?_, ?_, q1, (HM3.out.then_below HB4.out).trans HQ3.out (fun _ _ h => h)⟩
    · simp; omega
    · rw [show xs ++ (L ++ [13, 10] ++ (data ++ [13, 10])) = zs ++ (data ++ [13, 10]) by rw [HZ.out, HY.out]; simp]
      exact q2
end

section
open Go.RowKit Go.Proofs.YtmdlmjjggjemdaaGreatDoorW.PrintWords Go.Proofs.YtmdlmjjggjemdaaGreatDoorW.PrintMore Go.Proofs.YtmdlmjjggjemdaaGreatDoorW.PrintLast Go.Proofs.YtmdlmjjggjemdaaGreatDoor.PFnRespRaw
attribute [local go_sem] max2_int min2_int max_two min_two max_three min_three max_four min_four
set_option linter.unusedVariables false
set_option linter.unusedSimpArgs false

set_option maxHeartbeats 8000000 in
set_option maxRecDepth 100000 in
theorem wr_list (s : Int) (kids : List (List Int)) (hs : s ∈ [42, 126, 62]) (hd : kids.length ≤ 1000000) (ih : ∀ t ∈ kids, WrOK t) : WrOK (s :: decI kids.length ++ [13, 10] ++ kids.flatten) := by
  intro w p g db b B rest0 xs hp hpg hdb hdb2 hbg hbp hpB hgB hdB hbB hB hS hW hlen
  have hdl := decI_le kids.length (by omega)
  have hl : Line (s :: decI kids.length) := ⟨by simp, by simp; omega, by
    intro x hx
    rcases List.mem_cons.1 hx with rfl | hx
    · simp at hs; omega
    · have := decI_digit _ x hx; omega⟩
  obtain ⟨rest, hrest⟩ : ∃ rest, rest = kids.flatten ++ rest0 := ⟨_, rfl⟩
  rw [List.append_assoc _ kids.flatten, ← hrest] at hS
  have HRE := Aside0.mk hrest
  have HIH := Aside0.mk ih
  have HLN := Aside0.mk hlen
  clear hrest ih
  obtain ⟨L, hL⟩ : ∃ L, L = s :: decI kids.length := ⟨_, rfl⟩
  rw [← hL] at hl hS hlen ⊢
  have h := readLine_calls w p g db L rest hp hpg hdb hS hl
  have hl0 : 0 < L.length := hl.1
  have hl1 : xs.length + L.length + 2 ≤ 1000000 := by simp at hlen; omega
  have H := Aside0.mk h
  have HP := Aside0.mk hp
  have HW := Aside0.mk hW
  have HL := Aside0.mk hL
  have hme := method_write
  have kc := fun (w : World) (C : Array Value) (n c : Nat) => Lib.run_convert_bytes_const (P := Tryz.prog) w 41 5 C n c Tryz.underlying41 Tryz.underlying5
  clear h hp hS hW hl hlen hL
  go_enter Tryz.func28, Tryz.ntmps28
  go_wp2_with fail
  refine H.out.mono ?_
  rintro e w1 ⟨A, c, rfl, hc, hR, hA, hS, hM⟩
  obtain ⟨ad, rfl, hcell⟩ := hR.2.2 hl0
  have hx0 : w1.cell? ad = some (.int .u8 s) := by have := hcell 0 hl0; rw [HL.out] at this; simpa [Addr.add] using this
  have hB1 : B ≤ w1.heap.size := Nat.le_trans hB hM.size
  have hW1 := buf_mods HW.out hM hbg (fun k hk e => by omega)
  have hA1 := hA ad rfl
  have hw := write_calls w1 b B xs L (some ad) L.length c hbB hB1 hW1 hR (by omega)
  have HW1 := Aside0.mk hw
  have HR1 := Aside0.mk hR
  have HS1 := Aside0.mk hS
  have HM1 := Aside0.mk hM
  have HA1 := Aside0.mk hA1
  clear hR hA hS hM hcell hW1 hw hA1
  go_wp2_with fail
  refine HW1.out.mono ?_
  rintro e w2 ⟨rfl, hb2, hm2⟩
  obtain ⟨ys, hys⟩ : ∃ ys, ys = xs ++ L := ⟨_, rfl⟩
  rw [← hys] at hb2
  have hx2 := hm2.cell hx0 (by rw [HA1.out]; omega)
  have HS2 := Aside0.mk (HS1.out.mods hm2 (by omega) (by omega))
  have HR2 := Aside0.mk (hm2.reads HR1.out (fun a e => by cases e; rw [HA1.out]; omega))
  have HM2 := Aside0.mk ((HM1.out.mono (S' := fun k => k = g ∨ k = b ∨ B ≤ k) (fun _ _ h => .inl h)).trans hm2 (fun _ _ h => .inr h))
  have hB2 : B ≤ w2.heap.size := Nat.le_trans hB1 hm2.size
  have hyl : ys.length + 2 ≤ 1000000 := by rw [hys, List.length_append]; omega
  have HY := Aside0.mk hys
  have hM2 := (Mods.refl (fun _ => False) w2).alloc (.cells #[.int .u8 13, .int .u8 10] 5 (2, 3))
  have hw := write_calls (w2.alloc (.cells #[.int .u8 13, .int .u8 10] 5 (2, 3))) b B ys [13, 10] (some ⟨w2.heap.size, 0, none⟩) 2 2 hbB (Nat.le_trans hB2 hM2.size) (buf_mods hb2 hM2 id (fun _ _ => id)) (crlf_reads2 w2) (by omega)
  have HW2 := Aside0.mk hw
  clear hb2 hm2 hx0 hys hw hM2
  go_wp2_with fail
  refine HW2.out.mono ?_
  rintro e w3 ⟨rfl, hb3, hm3⟩
  obtain ⟨zs, hzs⟩ : ∃ zs, zs = ys ++ [13, 10] := ⟨_, rfl⟩
  rw [← hzs] at hb3
  have hM2 := (Mods.refl (fun k => k = b ∨ B ≤ k) w2).alloc (.cells #[.int .u8 13, .int .u8 10] 5 (2, 3))
  have hm3 := hM2.trans hm3 (fun _ _ h => h)
  have hx3 := hm3.cell hx2 (by rw [HA1.out]; omega)
  have HW3 := Aside0.mk hb3
  have HS3 := Aside0.mk (HS2.out.mods hm3 (by omega) (by omega))
  have HM3 := Aside0.mk (HM2.out.trans hm3 (fun _ _ h => .inr h))
  have hB3 : B ≤ w3.heap.size := Nat.le_trans hB2 hm3.size
  have HR3 := Aside0.mk (hm3.reads HR2.out (fun a e => by cases e; rw [HA1.out]; omega))
  have hzl : zs.length ≤ 1000000 := by rw [hzs]; simp; omega
  have HZ := Aside0.mk hzs
  clear hb3 hm3 hx2 hzs hM2
  have hr := replyLen_calls w3 (some ad) L.length c s kids.length (by simp at hs ⊢; omega) (by omega) hc (by have := HR3.out; rw [HL.out] at this ⊢; exact this)
  have HRL := Aside0.mk hr
  clear hr
  simp only [List.mem_cons, List.not_mem_nil, or_false] at hs
  obtain ⟨n, hn⟩ : ∃ n, n = kids.length := ⟨_, rfl⟩
  rw [← hn] at HRL hd
  have HN := Aside0.mk hn
  clear hn hdl
  rcases hs with rfl | rfl | rfl
  all_goals
    go_wp2_with fail
    refine HRL.out.mono ?_
    rintro e w4 ⟨rfl, hb⟩
    have HO4 := Aside0.mk (buf_mods HW3.out (Mods.of_below hb) id (fun _ _ => id))
    have HS4 := Aside0.mk (HS3.out.mods (Mods.of_below hb) id id)
    have HM4 := Aside0.mk (HM3.out.then_below hb)
    clear hb
    go_wp2_with fail
    go_loopw [8, 15] (fun v8 v15 wr => ∃ k : Nat, v15 = .int .i64 k ∧ k ≤ n ∧ v8 = .int .i64 ((L.length + 2 + (kids.take (k)).flatten.length : Nat) : Int) ∧ Aside0 (Buf wr b B (zs ++ (kids.take (k)).flatten)) ∧ Aside0 (Src wr g db ((kids.drop (k)).flatten ++ rest0)) ∧ Aside0 (Mods (fun k => k = g ∨ k = b ∨ B ≤ k) w wr)) (fun _ v15 _ => n - (intOf v15).toNat)
    case atStart => exact ⟨0, rfl, Nat.zero_le _, by simp, ⟨by simpa using HO4.out⟩, ⟨by have := HS4.out; rw [HRE.out] at this; simpa using this⟩, HM4⟩
    case round =>
      obtain ⟨k, rfl, hk, rfl, HOk, HSk, HMk⟩ := hrel
      by_cases hlt : k < n
      · have hkl : k < kids.length := by rw [← HN.out]; exact hlt
        have hln : (zs ++ (kids.take (k)).flatten).length + kids[k].length ≤ 1000000 := by
          have h1 := HLN.out
          rw [← HL.out] at h1
          have h2 := flat_len kids (k)
          rw [flat_at kids (k) hkl] at h2
          rw [HZ.out, HY.out]
          simp only [List.length_append, List.length_cons, List.length_nil] at h1 h2 ⊢
          omega
        have hB4 := Nat.le_trans hB HMk.out.size
        have hsk := HSk.out
        rw [flat_at kids (k) hkl, List.append_assoc] at hsk
        have hc := HIH.out kids[k] (List.getElem_mem hkl) _ p g db b B ((kids.drop (k + 1)).flatten ++ rest0) (zs ++ (kids.take (k)).flatten) (HMk.out.blk HP.out (by omega)) hpg hdb hdb2 hbg hbp hpB hgB hdB hbB hB4 hsk HOk.out hln
        have HC := Aside0.mk hc
        obtain ⟨tl, htl⟩ : ∃ tl, tl = (kids.take (k)).flatten.length := ⟨_, rfl⟩
        have htlb : tl ≤ 1000000 := by rw [htl]; rw [List.length_append] at hln; omega
        obtain ⟨kl, hkll⟩ : ∃ kl, kl = kids[k].length := ⟨_, rfl⟩
        have hklb : kl ≤ 1000000 := by rw [hkll]; omega
        rw [← htl]
        rw [← hkll] at HC
        have HTL := Aside0.mk htl
        have HKL := Aside0.mk hkll
        clear hc hsk hln hB4 htl hkll
        go_wp2_with fail
        refine HC.out.mono ?_
        rintro e w5 ⟨rfl, ho, hs, hm⟩
        have HO5 := Aside0.mk ho
        have HS5 := Aside0.mk hs
        have HM5 := Aside0.mk (HMk.out.trans hm (fun _ _ h => h))
        clear ho hs hm
        have hfin : L.length + 2 + (kids.take (k + 1)).flatten.length = L.length + 2 + tl + kl := by rw [flat_take kids (k) hkl, List.length_append, HTL.out, HKL.out]; omega
        have HFI := Aside0.mk hfin
        clear hfin
        go_wp2_with fail
        go_roundw
        case measure => simp [intOf]; omega
        case rel => exact ⟨k + 1, by go_num, by omega, by rw [HFI.out]; go_num, ⟨by have := HO5.out; rw [List.append_assoc, ← flat_take kids (k) hkl] at this; exact this⟩, HS5, HM5⟩
      · have hkn : k = kids.length := by have := HN.out; omega
        have HKN := Aside0.mk hkn
        clear hkn
        go_wp2
        go_ret2
        have ho := HOk.out
        have hs := HSk.out
        rw [HKN.out, List.take_length] at ho
        rw [HKN.out, List.drop_length] at hs
        refine ⟨?_, ?_, hs, HMk.out⟩
        · rw [HKN.out, List.take_length]; simp; omega
        · rw [show xs ++ (L ++ [13, 10] ++ kids.flatten) = zs ++ kids.flatten by rw [HZ.out, HY.out]; simp]
          exact ho
end

section
open Go.RowKit Go.Proofs.YtmdlmjjggjemdaaGreatDoorW.PrintWords Go.Proofs.YtmdlmjjggjemdaaGreatDoorW.PrintMore Go.Proofs.YtmdlmjjggjemdaaGreatDoorW.PrintLast Go.Proofs.YtmdlmjjggjemdaaGreatDoor.PFnRespRaw
attribute [local go_sem] max2_int min2_int max_two min_two max_three min_three max_four min_four
set_option linter.unusedVariables false
set_option linter.unusedSimpArgs false

set_option maxHeartbeats 8000000 in
set_option maxRecDepth 100000 in
theorem wr_map (n : Nat) (kids : List (List Int)) (hkn2 : kids.length = 2 * n) (hd : kids.length ≤ 1000000) (ih : ∀ t ∈ kids, WrOK t) : WrOK (37 :: decI n ++ [13, 10] ++ kids.flatten) := by
  intro w p g db b B rest0 xs hp hpg hdb hdb2 hbg hbp hpB hgB hdB hbB hB hS hW hlen
  have hdl := decI_le n (by omega)
  have hnb : n ≤ 1000000 := by omega
  have HN := Aside0.mk hkn2
  clear hkn2
  have hl : Line (37 :: decI n) := ⟨by simp, by simp; omega, by
    intro x hx
    rcases List.mem_cons.1 hx with rfl | hx
    · omega
    · have := decI_digit _ x hx; omega⟩
  obtain ⟨rest, hrest⟩ : ∃ rest, rest = kids.flatten ++ rest0 := ⟨_, rfl⟩
  rw [List.append_assoc _ kids.flatten, ← hrest] at hS
  have HRE := Aside0.mk hrest
  have HIH := Aside0.mk ih
  have HLN := Aside0.mk hlen
  clear hrest ih
  obtain ⟨L, hL⟩ : ∃ L, L = 37 :: decI n := ⟨_, rfl⟩
  rw [← hL] at hl hS hlen ⊢
  have h := readLine_calls w p g db L rest hp hpg hdb hS hl
  have hl0 : 0 < L.length := hl.1
  have hl1 : xs.length + L.length + 2 ≤ 1000000 := by simp at hlen; omega
  have H := Aside0.mk h
  have HP := Aside0.mk hp
  have HW := Aside0.mk hW
  have HL := Aside0.mk hL
  have hme := method_write
  have kc := fun (w : World) (C : Array Value) (n c : Nat) => Lib.run_convert_bytes_const (P := Tryz.prog) w 41 5 C n c Tryz.underlying41 Tryz.underlying5
  clear h hp hS hW hl hlen hL
  go_enter Tryz.func28, Tryz.ntmps28
  go_wp2_with fail
  refine H.out.mono ?_
  rintro e w1 ⟨A, c, rfl, hc, hR, hA, hS, hM⟩
  obtain ⟨ad, rfl, hcell⟩ := hR.2.2 hl0
  have hx0 : w1.cell? ad = some (.int .u8 37) := by have := hcell 0 hl0; rw [HL.out] at this; simpa [Addr.add] using this
  have hB1 : B ≤ w1.heap.size := Nat.le_trans hB hM.size
  have hW1 := buf_mods HW.out hM hbg (fun k hk e => by omega)
  have hA1 := hA ad rfl
  have hw := write_calls w1 b B xs L (some ad) L.length c hbB hB1 hW1 hR (by omega)
  have HW1 := Aside0.mk hw
  have HR1 := Aside0.mk hR
  have HS1 := Aside0.mk hS
  have HM1 := Aside0.mk hM
  have HA1 := Aside0.mk hA1
  clear hR hA hS hM hcell hW1 hw hA1
  go_wp2_with fail
  refine HW1.out.mono ?_
  rintro e w2 ⟨rfl, hb2, hm2⟩
  obtain ⟨ys, hys⟩ : ∃ ys, ys = xs ++ L := ⟨_, rfl⟩
  rw [← hys] at hb2
  have hx2 := hm2.cell hx0 (by rw [HA1.out]; omega)
  have HS2 := Aside0.mk (HS1.out.mods hm2 (by omega) (by omega))
  have HR2 := Aside0.mk (hm2.reads HR1.out (fun a e => by cases e; rw [HA1.out]; omega))
  have HM2 := Aside0.mk ((HM1.out.mono (S' := fun k => k = g ∨ k = b ∨ B ≤ k) (fun _ _ h => .inl h)).trans hm2 (fun _ _ h => .inr h))
  have hB2 : B ≤ w2.heap.size := Nat.le_trans hB1 hm2.size
  have hyl : ys.length + 2 ≤ 1000000 := by rw [hys, List.length_append]; omega
  have HY := Aside0.mk hys
  have hM2 := (Mods.refl (fun _ => False) w2).alloc (.cells #[.int .u8 13, .int .u8 10] 5 (2, 3))
  have hw := write_calls (w2.alloc (.cells #[.int .u8 13, .int .u8 10] 5 (2, 3))) b B ys [13, 10] (some ⟨w2.heap.size, 0, none⟩) 2 2 hbB (Nat.le_trans hB2 hM2.size) (buf_mods hb2 hM2 id (fun _ _ => id)) (crlf_reads2 w2) (by omega)
  have HW2 := Aside0.mk hw
  clear hb2 hm2 hx0 hys hw hM2
  go_wp2_with fail
  refine HW2.out.mono ?_
  rintro e w3 ⟨rfl, hb3, hm3⟩
  obtain ⟨zs, hzs⟩ : ∃ zs, zs = ys ++ [13, 10] := ⟨_, rfl⟩
  rw [← hzs] at hb3
  have hM2 := (Mods.refl (fun k => k = b ∨ B ≤ k) w2).alloc (.cells #[.int .u8 13, .int .u8 10] 5 (2, 3))
  have hm3 := hM2.trans hm3 (fun _ _ h => h)
  have hx3 := hm3.cell hx2 (by rw [HA1.out]; omega)
  have HW3 := Aside0.mk hb3
  have HS3 := Aside0.mk (HS2.out.mods hm3 (by omega) (by omega))
  have HM3 := Aside0.mk (HM2.out.trans hm3 (fun _ _ h => .inr h))
  have hB3 : B ≤ w3.heap.size := Nat.le_trans hB2 hm3.size
  have HR3 := Aside0.mk (hm3.reads HR2.out (fun a e => by cases e; rw [HA1.out]; omega))
  have hzl : zs.length ≤ 1000000 := by rw [hzs]; simp; omega
  have HZ := Aside0.mk hzs
  clear hb3 hm3 hx2 hzs hM2
  have hr := replyLen_calls w3 (some ad) L.length c 37 n (by simp) (by omega) hc (by have := HR3.out; rw [HL.out] at this ⊢; exact this)
  have HRL := Aside0.mk hr
  clear hr
  clear hdl
  go_wp2_with fail
  refine HRL.out.mono ?_
  rintro e w4 ⟨rfl, hb⟩
  have HO4 := Aside0.mk (buf_mods HW3.out (Mods.of_below hb) id (fun _ _ => id))
  have HS4 := Aside0.mk (HS3.out.mods (Mods.of_below hb) id id)
  have HM4 := Aside0.mk (HM3.out.then_below hb)
  clear hb
  go_wp2_with fail
  go_loopw [8, 20] (fun v8 v20 wr => ∃ k : Nat, v20 = .int .i64 k ∧ k ≤ n ∧ v8 = .int .i64 ((L.length + 2 + (kids.take (2 * k)).flatten.length : Nat) : Int) ∧ Aside0 (Buf wr b B (zs ++ (kids.take (2 * k)).flatten)) ∧ Aside0 (Src wr g db ((kids.drop (2 * k)).flatten ++ rest0)) ∧ Aside0 (Mods (fun k => k = g ∨ k = b ∨ B ≤ k) w wr)) (fun _ v20 _ => n - (intOf v20).toNat)
  case atStart => exact ⟨0, rfl, Nat.zero_le _, by simp, ⟨by simpa using HO4.out⟩, ⟨by have := HS4.out; rw [HRE.out] at this; simpa using this⟩, HM4⟩
  case round =>
    obtain ⟨k, rfl, hk, rfl, HOk, HSk, HMk⟩ := hrel
    by_cases hlt : k < n
    · go_wp2_with fail
      go_loopw [8, 21] (fun v8 v21 wr => ∃ q : Nat, v21 = .int .i64 q ∧ q ≤ 2 ∧ v8 = .int .i64 ((L.length + 2 + (kids.take (2 * k + q)).flatten.length : Nat) : Int) ∧ Aside0 (Buf wr b B (zs ++ (kids.take (2 * k + q)).flatten)) ∧ Aside0 (Src wr g db ((kids.drop (2 * k + q)).flatten ++ rest0)) ∧ Aside0 (Mods (fun k => k = g ∨ k = b ∨ B ≤ k) w wr)) (fun _ v21 _ => 2 - (intOf v21).toNat)
      case atStart => exact ⟨0, rfl, by omega, by simp, HOk, HSk, HMk⟩
      case round =>
        clear HOk HSk HMk
        obtain ⟨q, rfl, hq, rfl, HOk, HSk, HMk⟩ := hrel
        by_cases hqt : q < 2
        · have hkl : 2 * k + q < kids.length := by rw [HN.out]; omega
          have hln : (zs ++ (kids.take (2 * k + q)).flatten).length + kids[2 * k + q].length ≤ 1000000 := by
            have h1 := HLN.out
            rw [← HL.out] at h1
            have h2 := flat_len kids (2 * k + q)
            rw [flat_at kids (2 * k + q) hkl] at h2
            rw [HZ.out, HY.out]
            simp only [List.length_append, List.length_cons, List.length_nil] at h1 h2 ⊢
            omega
          have hB4 := Nat.le_trans hB HMk.out.size
          have hsk := HSk.out
          rw [flat_at kids (2 * k + q) hkl, List.append_assoc] at hsk
          have hc := HIH.out kids[2 * k + q] (List.getElem_mem hkl) _ p g db b B ((kids.drop (2 * k + q + 1)).flatten ++ rest0) (zs ++ (kids.take (2 * k + q)).flatten) (HMk.out.blk HP.out (by omega)) hpg hdb hdb2 hbg hbp hpB hgB hdB hbB hB4 hsk HOk.out hln
          have HC := Aside0.mk hc
          obtain ⟨tl, htl⟩ : ∃ tl, tl = (kids.take (2 * k + q)).flatten.length := ⟨_, rfl⟩
          have htlb : tl ≤ 1000000 := by rw [htl]; rw [List.length_append] at hln; omega
          obtain ⟨kl, hkll⟩ : ∃ kl, kl = kids[2 * k + q].length := ⟨_, rfl⟩
          have hklb : kl ≤ 1000000 := by rw [hkll]; omega
          rw [← htl]
          rw [← hkll] at HC
          have HTL := Aside0.mk htl
          have HKL := Aside0.mk hkll
          clear hc hsk hln hB4 htl hkll
          go_wp2_with fail
          refine HC.out.mono ?_
          rintro e w5 ⟨rfl, ho, hs, hm⟩
          have HO5 := Aside0.mk ho
          have HS5 := Aside0.mk hs
          have HM5 := Aside0.mk (HMk.out.trans hm (fun _ _ h => h))
          clear ho hs hm
          have hfin : L.length + 2 + (kids.take (2 * k + q + 1)).flatten.length = L.length + 2 + tl + kl := by rw [flat_take kids (2 * k + q) hkl, List.length_append, HTL.out, HKL.out]; omega
          have HFI := Aside0.mk hfin
          clear hfin
          go_wp2_with fail
          go_roundw
          case measure => simp [intOf]; omega
          case rel => exact ⟨q + 1, by go_num, by omega, by rw [← Nat.add_assoc, HFI.out]; go_num, ⟨by have := HO5.out; rw [List.append_assoc, ← flat_take kids (2 * k + q) hkl] at this; exact this⟩, HS5, HM5⟩
        · have hq2 : q = 2 := by omega
          subst hq2
          obtain ⟨tl, htl⟩ : ∃ tl, tl = (kids.take (2 * k + 2)).flatten.length := ⟨_, rfl⟩
          rw [← htl]
          have HTL := Aside0.mk htl
          clear htl
          go_wp2
          go_roundw
          case measure => simp [intOf]; omega
          case rel => exact ⟨k + 1, by go_num, by omega, by rw [show 2 * (k + 1) = 2 * k + 2 from by omega, ← HTL.out], ⟨by have := HOk.out; rwa [show 2 * k + 2 = 2 * (k + 1) from by omega] at this⟩, ⟨by have := HSk.out; rwa [show 2 * k + 2 = 2 * (k + 1) from by omega] at this⟩, HMk⟩
    · have hkn : 2 * k = kids.length := by rw [HN.out]; omega
      have HKN := Aside0.mk hkn
      clear hkn
      go_wp2
      go_ret2
      have ho := HOk.out
      have hs := HSk.out
      rw [HKN.out, List.take_length] at ho
      rw [HKN.out, List.drop_length] at hs
      refine ⟨?_, ?_, hs, HMk.out⟩
      · rw [HKN.out, List.take_length]; simp; omega
      · rw [show xs ++ (L ++ [13, 10] ++ kids.flatten) = zs ++ kids.flatten by rw [HZ.out, HY.out]; simp]
        exact ho
end
end Go.Proofs.YtmdlmjjggjemdaaGreatDoor
