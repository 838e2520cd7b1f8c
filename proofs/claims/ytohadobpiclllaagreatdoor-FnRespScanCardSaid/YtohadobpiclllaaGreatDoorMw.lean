/- impl.Scan. -/
import Derived.Test.YtohadobpiclllaaGreatDoorMv
import Derived.Test.YtohadobpiclllaaGreatDoorMu
namespace Go.Proofs.YtohadobpiclllaaGreatDoor
section
open Go.RowKit Go.Proofs.YtohadobpiclllaaGreatDoorW.PrintWords Go.Proofs.YtohadobpiclllaaGreatDoorW.PrintMore Go.Proofs.YtohadobpiclllaaGreatDoorW.PrintLast Go.Proofs.YtohadobpiclllaaGreatDoor.PFnRespScan
attribute [local go_sem] max2_int min2_int max_two min_two max_three min_three max_four min_four
set_option linter.unusedVariables false
set_option linter.unusedSimpArgs false

theorem to_bytes (c : ByteArray) (w : World) (hs : c.size ≤ 1000) : ∃ W1 q cp, (convert 9 44 (.string c)).run Tryz.prog w = .ok (.slice (some ⟨q, 0, none⟩) c.size cp) W1 ∧ Mods (fun _ => False) w W1 ∧ ReadsInt W1 .u8 (some ⟨q, 0, none⟩) c.size (bytesOf c) ∧ (0 < c.size → W1.cell? ⟨q, 0, none⟩ = some (.int .u8 (cb c 0))) := by
  have hR := bytes_reads w 5 c (by omega)
  refine ⟨_, _, _, print_bytes (P := Tryz.prog) 9 44 5 Tryz.underlying9 Tryz.underlying44 Tryz.underlying5 c w, Mods.of_below (Lib.bytesWorld_below w 5 c), hR, fun h0 => ?_⟩
  obtain ⟨ad, e, hc⟩ := hR.2.2 h0
  cases e
  have h1 := hc 0 h0
  rw [add_plain] at h1
  rw [h1]
  refine congrArg (fun z => some (Value.int IntKind.u8 z)) ?_
  rw [cb_at c 0 h0]
  unfold bytesOf
  rw [List.getD_eq_getElem?_getD, List.getElem?_map]
  have h4 : c.data.toList[0]? = some c[0] := by
    rw [Array.getElem?_toList]
    exact Array.getElem?_eq_getElem _
  rw [h4]
  rfl

theorem got_int_lit (n : Int) (w : World) : Calls Tryz.prog 23 #[.iface 2 (.int .i64 n)] w fun x w' => x = .returned (.tuple #[.agg #[.int .i64 2, .bool false, .int .i64 n, .int .u64 0, .string ⟨#[]⟩, .slice none 0 0], .bool true]) ∧ Below w.heap.size w w' := got_int n w
theorem got_flt_lit (y : Nat) (w : World) : Calls Tryz.prog 23 #[.iface 59 (.float .f64 y)] w fun x w' => x = .returned (.tuple #[.agg #[.int .i64 3, .bool false, .int .i64 0, .int .u64 y, .string ⟨#[]⟩, .slice none 0 0], .bool true]) ∧ Below w.heap.size w w' := got_flt y w
theorem got_str_lit (c : ByteArray) (w : World) : Calls Tryz.prog 23 #[.iface 9 (.string c)] w fun x w' => x = .returned (.tuple #[.agg #[.int .i64 1, .bool false, .int .i64 0, .int .u64 0, .string c, .slice none 0 0], .bool true]) ∧ Below w.heap.size w w' := got_str c w
theorem got_bool_lit (b : Bool) (w : World) : Calls Tryz.prog 23 #[.iface 4 (.bool b)] w fun x w' => x = .returned (.tuple #[.agg #[.int .i64 4, .bool b, .int .i64 0, .int .u64 0, .string ⟨#[]⟩, .slice none 0 0], .bool true]) ∧ Below w.heap.size w w' := got_bool b w

/-- What impl.Scan says. -/
def IsPost (kind : Int) (b : Bool) (i f : Int) (s : ByteArray) (code : Int) (w : World) (x : Ending) (w' : World) : Prop := x = .returned (.tuple #[.agg (gotc kind b i f s), .int .i64 code]) ∧ Below w.heap.size w w'
theorem got30 (w : World) : (w.alloc (Obj.cells #[Value.int IntKind.i64 0, Value.bool false, Value.int IntKind.i64 0, Value.int IntKind.u64 0, Value.string ⟨#[]⟩, Value.slice none 0 0] 30)).heap[w.heap.size]? = some (.cells #[Value.int IntKind.i64 0, Value.bool false, Value.int IntKind.i64 0, Value.int IntKind.u64 0, Value.string ⟨#[]⟩, Value.slice none 0 0] 30 (0, 0)) := heap_alloc_new w _

/-- What impl.Scan says of a number. -/
def INumPost (R : Lib.NumEnd Int) (w : World) (x : Ending) (w' : World) : Prop := (∃ u, R = .ok u ∧ IsPost 2 false (IntKind.i64.wrap u) 0 ⟨#[]⟩ 0 w x w') ∨ ((∀ u, R ≠ .ok u) ∧ IsPost 0 false 0 0 ⟨#[]⟩ 1 w x w')

set_option maxHeartbeats 8000000 in
set_option maxRecDepth 100000 in
theorem impl_2 (c : ByteArray) (hs : c.size ≤ 1000) (w : World) (hE : Errs w) : Calls Tryz.prog 5 #[.int .i64 2, .string c] w (INumPost (Lib.parseIntB 64 c.data.toList) w) := by
  have hM0 := (Mods.refl (fun _ => False) w).alloc (Obj.cells #[Value.int IntKind.i64 0, Value.bool false, Value.int IntKind.i64 0, Value.int IntKind.u64 0, Value.string ⟨#[]⟩, Value.slice none 0 0] 30)
  obtain ⟨W1, q, cp, hcv, hM1, hR1, hc1⟩ := to_bytes c (w.alloc (Obj.cells #[Value.int IntKind.i64 0, Value.bool false, Value.int IntKind.i64 0, Value.int IntKind.u64 0, Value.string ⟨#[]⟩, Value.slice none 0 0] 30)) hs
  have HS := Aside0.mk (scanned_int c (some ⟨q, 0, none⟩) cp hs W1 ((hE.mods hM0).mods hM1) hR1)
  have HM1 := Aside0.mk hM1
  have HM0 := Aside0.mk hM0
  clear hE hR1 hc1 hM1 hM0
  go_enter Tryz.func5, Tryz.ntmps5
  go_wp2_with fail
  refine HS.out.mono ?_
  rintro x w3 ⟨v, ev, rfl, h1, h2, hB⟩
  have HM3 := Aside0.mk (HM1.out.then_below hB)
  have hgb_w3 := (HM3.out).blk (got30 w) id
  have q0_w3 : w3.cell? ⟨w.heap.size, 0, none⟩ = some (.int .i64 0) := (blk_cell hgb_w3 0).trans rfl
  have q1_w3 : w3.cell? ⟨w.heap.size, 1, none⟩ = some (.bool false) := (blk_cell hgb_w3 1).trans rfl
  have q2_w3 : w3.cell? ⟨w.heap.size, 2, none⟩ = some (.int .i64 0) := (blk_cell hgb_w3 2).trans rfl
  have q3_w3 : w3.cell? ⟨w.heap.size, 3, none⟩ = some (.int .u64 0) := (blk_cell hgb_w3 3).trans rfl
  have q4_w3 : w3.cell? ⟨w.heap.size, 4, none⟩ = some (.string ⟨#[]⟩) := (blk_cell hgb_w3 4).trans rfl
  have q5_w3 : w3.cell? ⟨w.heap.size, 5, none⟩ = some (.slice none 0 0) := (blk_cell hgb_w3 5).trans rfl
  have f0_w3 := blk_frozen hgb_w3 0
  have f1_w3 := blk_frozen hgb_w3 1
  have f2_w3 := blk_frozen hgb_w3 2
  have f3_w3 := blk_frozen hgb_w3 3
  have f4_w3 := blk_frozen hgb_w3 4
  have f5_w3 := blk_frozen hgb_w3 5
  have HGB_w3 := Aside0.mk hgb_w3
  clear hgb_w3
  by_cases hR : ∃ u, Lib.parseIntB 64 c.data.toList = .ok u
  · obtain ⟨u, hu⟩ := hR
    obtain ⟨hv, rfl⟩ := h1 u hu
    have HR := Aside0.mk hu
    have HV := Aside0.mk hv
    clear h1 h2 hB hu hv
    go_wp2_with fail
    refine (got_int_lit _ _).mono ?_
    rintro x w4 ⟨rfl, hB4⟩
    have HM4 := Aside0.mk (HM3.out.then_below hB4)
    clear hB4
    have hgb_w4 := (HM4.out).blk (got30 w) id
    have q0_w4 : w4.cell? ⟨w.heap.size, 0, none⟩ = some (.int .i64 0) := (blk_cell hgb_w4 0).trans rfl
    have q1_w4 : w4.cell? ⟨w.heap.size, 1, none⟩ = some (.bool false) := (blk_cell hgb_w4 1).trans rfl
    have q2_w4 : w4.cell? ⟨w.heap.size, 2, none⟩ = some (.int .i64 0) := (blk_cell hgb_w4 2).trans rfl
    have q3_w4 : w4.cell? ⟨w.heap.size, 3, none⟩ = some (.int .u64 0) := (blk_cell hgb_w4 3).trans rfl
    have q4_w4 : w4.cell? ⟨w.heap.size, 4, none⟩ = some (.string ⟨#[]⟩) := (blk_cell hgb_w4 4).trans rfl
    have q5_w4 : w4.cell? ⟨w.heap.size, 5, none⟩ = some (.slice none 0 0) := (blk_cell hgb_w4 5).trans rfl
    have f0_w4 := blk_frozen hgb_w4 0
    have f1_w4 := blk_frozen hgb_w4 1
    have f2_w4 := blk_frozen hgb_w4 2
    have f3_w4 := blk_frozen hgb_w4 3
    have f4_w4 := blk_frozen hgb_w4 4
    have f5_w4 := blk_frozen hgb_w4 5
    have HGB_w4 := Aside0.mk hgb_w4
    clear hgb_w4
    go_wp2_with fail
    refine bodyPost_ret (results_cell2 rfl _ _ w.heap.size 30 (gotc 2 false v 0 ⟨#[]⟩) (0, 0) _ rfl (set6_blk (set6_blk HGB_w4.out _ _ _ _ _ _) _ _ _ _ _ _) Tryz.underlying30 rfl (by kernel_rfl)) rfl ?_
    refine .inl ⟨u, HR.out, ?_⟩
    rw [← HV.out]
    exact ⟨rfl, (set6_mods (set6_mods (HM0.out.trans HM4.out (fun _ _ h => h)) (.inr (Nat.le_refl _)) _ _ _ _ _ _) (.inr (Nat.le_refl _)) _ _ _ _ _ _).below⟩
  · obtain ⟨N, rfl⟩ := h2 (fun u hu => hR ⟨u, hu⟩)
    have HR := Aside0.mk hR
    clear h1 h2 hB hR
    go_wp2_with fail
    refine bodyPost_ret (results_cell2 rfl _ _ w.heap.size 30 (gotc 0 false 0 0 ⟨#[]⟩) (0, 0) _ rfl (set6_blk HGB_w3.out _ _ _ _ _ _) Tryz.underlying30 rfl (by kernel_rfl)) rfl ?_
    exact .inr ⟨fun u hu => HR.out ⟨u, hu⟩, rfl, (set6_mods (HM0.out.trans HM3.out (fun _ _ h => h)) (.inr (Nat.le_refl _)) _ _ _ _ _ _).below⟩

set_option maxHeartbeats 8000000 in
set_option maxRecDepth 100000 in
theorem impl_3 (c : ByteArray) (hs : c.size ≤ 1000) (w : World) (hE : Errs w) : Calls Tryz.prog 5 #[.int .i64 3, .string c] w (INumPost (Lib.parseIntB 8 c.data.toList) w) := by
  have hM0 := (Mods.refl (fun _ => False) w).alloc (Obj.cells #[Value.int IntKind.i64 0, Value.bool false, Value.int IntKind.i64 0, Value.int IntKind.u64 0, Value.string ⟨#[]⟩, Value.slice none 0 0] 30)
  obtain ⟨W1, q, cp, hcv, hM1, hR1, hc1⟩ := to_bytes c (w.alloc (Obj.cells #[Value.int IntKind.i64 0, Value.bool false, Value.int IntKind.i64 0, Value.int IntKind.u64 0, Value.string ⟨#[]⟩, Value.slice none 0 0] 30)) hs
  have HS := Aside0.mk (scanned_i8 c (some ⟨q, 0, none⟩) cp hs W1 ((hE.mods hM0).mods hM1) hR1)
  have HM1 := Aside0.mk hM1
  have HM0 := Aside0.mk hM0
  clear hE hR1 hc1 hM1 hM0
  go_enter Tryz.func5, Tryz.ntmps5
  go_wp2_with fail
  refine HS.out.mono ?_
  rintro x w3 ⟨v, ev, rfl, h1, h2, hB⟩
  have HM3 := Aside0.mk (HM1.out.then_below hB)
  have hgb_w3 := (HM3.out).blk (got30 w) id
  have q0_w3 : w3.cell? ⟨w.heap.size, 0, none⟩ = some (.int .i64 0) := (blk_cell hgb_w3 0).trans rfl
  have q1_w3 : w3.cell? ⟨w.heap.size, 1, none⟩ = some (.bool false) := (blk_cell hgb_w3 1).trans rfl
  have q2_w3 : w3.cell? ⟨w.heap.size, 2, none⟩ = some (.int .i64 0) := (blk_cell hgb_w3 2).trans rfl
  have q3_w3 : w3.cell? ⟨w.heap.size, 3, none⟩ = some (.int .u64 0) := (blk_cell hgb_w3 3).trans rfl
  have q4_w3 : w3.cell? ⟨w.heap.size, 4, none⟩ = some (.string ⟨#[]⟩) := (blk_cell hgb_w3 4).trans rfl
  have q5_w3 : w3.cell? ⟨w.heap.size, 5, none⟩ = some (.slice none 0 0) := (blk_cell hgb_w3 5).trans rfl
  have f0_w3 := blk_frozen hgb_w3 0
  have f1_w3 := blk_frozen hgb_w3 1
  have f2_w3 := blk_frozen hgb_w3 2
  have f3_w3 := blk_frozen hgb_w3 3
  have f4_w3 := blk_frozen hgb_w3 4
  have f5_w3 := blk_frozen hgb_w3 5
  have HGB_w3 := Aside0.mk hgb_w3
  clear hgb_w3
  by_cases hR : ∃ u, Lib.parseIntB 8 c.data.toList = .ok u
  · obtain ⟨u, hu⟩ := hR
    obtain ⟨hv, rfl⟩ := h1 u hu
    have HR := Aside0.mk hu
    have HV := Aside0.mk hv
    clear h1 h2 hB hu hv
    go_wp2_with fail
    refine (got_int_lit _ _).mono ?_
    rintro x w4 ⟨rfl, hB4⟩
    have HM4 := Aside0.mk (HM3.out.then_below hB4)
    clear hB4
    have hgb_w4 := (HM4.out).blk (got30 w) id
    have q0_w4 : w4.cell? ⟨w.heap.size, 0, none⟩ = some (.int .i64 0) := (blk_cell hgb_w4 0).trans rfl
    have q1_w4 : w4.cell? ⟨w.heap.size, 1, none⟩ = some (.bool false) := (blk_cell hgb_w4 1).trans rfl
    have q2_w4 : w4.cell? ⟨w.heap.size, 2, none⟩ = some (.int .i64 0) := (blk_cell hgb_w4 2).trans rfl
    have q3_w4 : w4.cell? ⟨w.heap.size, 3, none⟩ = some (.int .u64 0) := (blk_cell hgb_w4 3).trans rfl
    have q4_w4 : w4.cell? ⟨w.heap.size, 4, none⟩ = some (.string ⟨#[]⟩) := (blk_cell hgb_w4 4).trans rfl
    have q5_w4 : w4.cell? ⟨w.heap.size, 5, none⟩ = some (.slice none 0 0) := (blk_cell hgb_w4 5).trans rfl
    have f0_w4 := blk_frozen hgb_w4 0
    have f1_w4 := blk_frozen hgb_w4 1
    have f2_w4 := blk_frozen hgb_w4 2
    have f3_w4 := blk_frozen hgb_w4 3
    have f4_w4 := blk_frozen hgb_w4 4
    have f5_w4 := blk_frozen hgb_w4 5
    have HGB_w4 := Aside0.mk hgb_w4
    clear hgb_w4
    go_wp2_with fail
    refine bodyPost_ret (results_cell2 rfl _ _ w.heap.size 30 (gotc 2 false v 0 ⟨#[]⟩) (0, 0) _ rfl (set6_blk (set6_blk HGB_w4.out _ _ _ _ _ _) _ _ _ _ _ _) Tryz.underlying30 rfl (by kernel_rfl)) rfl ?_
    refine .inl ⟨u, HR.out, ?_⟩
    rw [← HV.out]
    exact ⟨rfl, (set6_mods (set6_mods (HM0.out.trans HM4.out (fun _ _ h => h)) (.inr (Nat.le_refl _)) _ _ _ _ _ _) (.inr (Nat.le_refl _)) _ _ _ _ _ _).below⟩
  · obtain ⟨N, rfl⟩ := h2 (fun u hu => hR ⟨u, hu⟩)
    have HR := Aside0.mk hR
    clear h1 h2 hB hR
    go_wp2_with fail
    refine bodyPost_ret (results_cell2 rfl _ _ w.heap.size 30 (gotc 0 false 0 0 ⟨#[]⟩) (0, 0) _ rfl (set6_blk HGB_w3.out _ _ _ _ _ _) Tryz.underlying30 rfl (by kernel_rfl)) rfl ?_
    exact .inr ⟨fun u hu => HR.out ⟨u, hu⟩, rfl, (set6_mods (HM0.out.trans HM3.out (fun _ _ h => h)) (.inr (Nat.le_refl _)) _ _ _ _ _ _).below⟩

set_option maxHeartbeats 8000000 in
set_option maxRecDepth 100000 in
theorem impl_4 (c : ByteArray) (hs : c.size ≤ 1000) (w : World) (hE : Errs w) : Calls Tryz.prog 5 #[.int .i64 4, .string c] w (INumPost (Lib.parseIntB 16 c.data.toList) w) := by
  have hM0 := (Mods.refl (fun _ => False) w).alloc (Obj.cells #[Value.int IntKind.i64 0, Value.bool false, Value.int IntKind.i64 0, Value.int IntKind.u64 0, Value.string ⟨#[]⟩, Value.slice none 0 0] 30)
  obtain ⟨W1, q, cp, hcv, hM1, hR1, hc1⟩ := to_bytes c (w.alloc (Obj.cells #[Value.int IntKind.i64 0, Value.bool false, Value.int IntKind.i64 0, Value.int IntKind.u64 0, Value.string ⟨#[]⟩, Value.slice none 0 0] 30)) hs
  have HS := Aside0.mk (scanned_i16 c (some ⟨q, 0, none⟩) cp hs W1 ((hE.mods hM0).mods hM1) hR1)
  have HM1 := Aside0.mk hM1
  have HM0 := Aside0.mk hM0
  clear hE hR1 hc1 hM1 hM0
  go_enter Tryz.func5, Tryz.ntmps5
  go_wp2_with fail
  refine HS.out.mono ?_
  rintro x w3 ⟨v, ev, rfl, h1, h2, hB⟩
  have HM3 := Aside0.mk (HM1.out.then_below hB)
  have hgb_w3 := (HM3.out).blk (got30 w) id
  have q0_w3 : w3.cell? ⟨w.heap.size, 0, none⟩ = some (.int .i64 0) := (blk_cell hgb_w3 0).trans rfl
  have q1_w3 : w3.cell? ⟨w.heap.size, 1, none⟩ = some (.bool false) := (blk_cell hgb_w3 1).trans rfl
  have q2_w3 : w3.cell? ⟨w.heap.size, 2, none⟩ = some (.int .i64 0) := (blk_cell hgb_w3 2).trans rfl
  have q3_w3 : w3.cell? ⟨w.heap.size, 3, none⟩ = some (.int .u64 0) := (blk_cell hgb_w3 3).trans rfl
  have q4_w3 : w3.cell? ⟨w.heap.size, 4, none⟩ = some (.string ⟨#[]⟩) := (blk_cell hgb_w3 4).trans rfl
  have q5_w3 : w3.cell? ⟨w.heap.size, 5, none⟩ = some (.slice none 0 0) := (blk_cell hgb_w3 5).trans rfl
  have f0_w3 := blk_frozen hgb_w3 0
  have f1_w3 := blk_frozen hgb_w3 1
  have f2_w3 := blk_frozen hgb_w3 2
  have f3_w3 := blk_frozen hgb_w3 3
  have f4_w3 := blk_frozen hgb_w3 4
  have f5_w3 := blk_frozen hgb_w3 5
  have HGB_w3 := Aside0.mk hgb_w3
  clear hgb_w3
  by_cases hR : ∃ u, Lib.parseIntB 16 c.data.toList = .ok u
  · obtain ⟨u, hu⟩ := hR
    obtain ⟨hv, rfl⟩ := h1 u hu
    have HR := Aside0.mk hu
    have HV := Aside0.mk hv
    clear h1 h2 hB hu hv
    go_wp2_with fail
    refine (got_int_lit _ _).mono ?_
    rintro x w4 ⟨rfl, hB4⟩
    have HM4 := Aside0.mk (HM3.out.then_below hB4)
    clear hB4
    have hgb_w4 := (HM4.out).blk (got30 w) id
    have q0_w4 : w4.cell? ⟨w.heap.size, 0, none⟩ = some (.int .i64 0) := (blk_cell hgb_w4 0).trans rfl
    have q1_w4 : w4.cell? ⟨w.heap.size, 1, none⟩ = some (.bool false) := (blk_cell hgb_w4 1).trans rfl
    have q2_w4 : w4.cell? ⟨w.heap.size, 2, none⟩ = some (.int .i64 0) := (blk_cell hgb_w4 2).trans rfl
    have q3_w4 : w4.cell? ⟨w.heap.size, 3, none⟩ = some (.int .u64 0) := (blk_cell hgb_w4 3).trans rfl
    have q4_w4 : w4.cell? ⟨w.heap.size, 4, none⟩ = some (.string ⟨#[]⟩) := (blk_cell hgb_w4 4).trans rfl
    have q5_w4 : w4.cell? ⟨w.heap.size, 5, none⟩ = some (.slice none 0 0) := (blk_cell hgb_w4 5).trans rfl
    have f0_w4 := blk_frozen hgb_w4 0
    have f1_w4 := blk_frozen hgb_w4 1
    have f2_w4 := blk_frozen hgb_w4 2
    have f3_w4 := blk_frozen hgb_w4 3
    have f4_w4 := blk_frozen hgb_w4 4
    have f5_w4 := blk_frozen hgb_w4 5
    have HGB_w4 := Aside0.mk hgb_w4
    clear hgb_w4
    go_wp2_with fail
    refine bodyPost_ret (results_cell2 rfl _ _ w.heap.size 30 (gotc 2 false v 0 ⟨#[]⟩) (0, 0) _ rfl (set6_blk (set6_blk HGB_w4.out _ _ _ _ _ _) _ _ _ _ _ _) Tryz.underlying30 rfl (by kernel_rfl)) rfl ?_
    refine .inl ⟨u, HR.out, ?_⟩
    rw [← HV.out]
    exact ⟨rfl, (set6_mods (set6_mods (HM0.out.trans HM4.out (fun _ _ h => h)) (.inr (Nat.le_refl _)) _ _ _ _ _ _) (.inr (Nat.le_refl _)) _ _ _ _ _ _).below⟩
  · obtain ⟨N, rfl⟩ := h2 (fun u hu => hR ⟨u, hu⟩)
    have HR := Aside0.mk hR
    clear h1 h2 hB hR
    go_wp2_with fail
    refine bodyPost_ret (results_cell2 rfl _ _ w.heap.size 30 (gotc 0 false 0 0 ⟨#[]⟩) (0, 0) _ rfl (set6_blk HGB_w3.out _ _ _ _ _ _) Tryz.underlying30 rfl (by kernel_rfl)) rfl ?_
    exact .inr ⟨fun u hu => HR.out ⟨u, hu⟩, rfl, (set6_mods (HM0.out.trans HM3.out (fun _ _ h => h)) (.inr (Nat.le_refl _)) _ _ _ _ _ _).below⟩

set_option maxHeartbeats 8000000 in
set_option maxRecDepth 100000 in
theorem impl_5 (c : ByteArray) (hs : c.size ≤ 1000) (w : World) (hE : Errs w) : Calls Tryz.prog 5 #[.int .i64 5, .string c] w (INumPost (Lib.parseIntB 32 c.data.toList) w) := by
  have hM0 := (Mods.refl (fun _ => False) w).alloc (Obj.cells #[Value.int IntKind.i64 0, Value.bool false, Value.int IntKind.i64 0, Value.int IntKind.u64 0, Value.string ⟨#[]⟩, Value.slice none 0 0] 30)
  obtain ⟨W1, q, cp, hcv, hM1, hR1, hc1⟩ := to_bytes c (w.alloc (Obj.cells #[Value.int IntKind.i64 0, Value.bool false, Value.int IntKind.i64 0, Value.int IntKind.u64 0, Value.string ⟨#[]⟩, Value.slice none 0 0] 30)) hs
  have HS := Aside0.mk (scanned_i32 c (some ⟨q, 0, none⟩) cp hs W1 ((hE.mods hM0).mods hM1) hR1)
  have HM1 := Aside0.mk hM1
  have HM0 := Aside0.mk hM0
  clear hE hR1 hc1 hM1 hM0
  go_enter Tryz.func5, Tryz.ntmps5
  go_wp2_with fail
  refine HS.out.mono ?_
  rintro x w3 ⟨v, ev, rfl, h1, h2, hB⟩
  have HM3 := Aside0.mk (HM1.out.then_below hB)
  have hgb_w3 := (HM3.out).blk (got30 w) id
  have q0_w3 : w3.cell? ⟨w.heap.size, 0, none⟩ = some (.int .i64 0) := (blk_cell hgb_w3 0).trans rfl
  have q1_w3 : w3.cell? ⟨w.heap.size, 1, none⟩ = some (.bool false) := (blk_cell hgb_w3 1).trans rfl
  have q2_w3 : w3.cell? ⟨w.heap.size, 2, none⟩ = some (.int .i64 0) := (blk_cell hgb_w3 2).trans rfl
  have q3_w3 : w3.cell? ⟨w.heap.size, 3, none⟩ = some (.int .u64 0) := (blk_cell hgb_w3 3).trans rfl
  have q4_w3 : w3.cell? ⟨w.heap.size, 4, none⟩ = some (.string ⟨#[]⟩) := (blk_cell hgb_w3 4).trans rfl
  have q5_w3 : w3.cell? ⟨w.heap.size, 5, none⟩ = some (.slice none 0 0) := (blk_cell hgb_w3 5).trans rfl
  have f0_w3 := blk_frozen hgb_w3 0
  have f1_w3 := blk_frozen hgb_w3 1
  have f2_w3 := blk_frozen hgb_w3 2
  have f3_w3 := blk_frozen hgb_w3 3
  have f4_w3 := blk_frozen hgb_w3 4
  have f5_w3 := blk_frozen hgb_w3 5
  have HGB_w3 := Aside0.mk hgb_w3
  clear hgb_w3
  by_cases hR : ∃ u, Lib.parseIntB 32 c.data.toList = .ok u
  · obtain ⟨u, hu⟩ := hR
    obtain ⟨hv, rfl⟩ := h1 u hu
    have HR := Aside0.mk hu
    have HV := Aside0.mk hv
    clear h1 h2 hB hu hv
    go_wp2_with fail
    refine (got_int_lit _ _).mono ?_
    rintro x w4 ⟨rfl, hB4⟩
    have HM4 := Aside0.mk (HM3.out.then_below hB4)
    clear hB4
    have hgb_w4 := (HM4.out).blk (got30 w) id
    have q0_w4 : w4.cell? ⟨w.heap.size, 0, none⟩ = some (.int .i64 0) := (blk_cell hgb_w4 0).trans rfl
    have q1_w4 : w4.cell? ⟨w.heap.size, 1, none⟩ = some (.bool false) := (blk_cell hgb_w4 1).trans rfl
    have q2_w4 : w4.cell? ⟨w.heap.size, 2, none⟩ = some (.int .i64 0) := (blk_cell hgb_w4 2).trans rfl
    have q3_w4 : w4.cell? ⟨w.heap.size, 3, none⟩ = some (.int .u64 0) := (blk_cell hgb_w4 3).trans rfl
    have q4_w4 : w4.cell? ⟨w.heap.size, 4, none⟩ = some (.string ⟨#[]⟩) := (blk_cell hgb_w4 4).trans rfl
    have q5_w4 : w4.cell? ⟨w.heap.size, 5, none⟩ = some (.slice none 0 0) := (blk_cell hgb_w4 5).trans rfl
    have f0_w4 := blk_frozen hgb_w4 0
    have f1_w4 := blk_frozen hgb_w4 1
    have f2_w4 := blk_frozen hgb_w4 2
    have f3_w4 := blk_frozen hgb_w4 3
    have f4_w4 := blk_frozen hgb_w4 4
    have f5_w4 := blk_frozen hgb_w4 5
    have HGB_w4 := Aside0.mk hgb_w4
    clear hgb_w4
    go_wp2_with fail
    refine bodyPost_ret (results_cell2 rfl _ _ w.heap.size 30 (gotc 2 false v 0 ⟨#[]⟩) (0, 0) _ rfl (set6_blk (set6_blk HGB_w4.out _ _ _ _ _ _) _ _ _ _ _ _) Tryz.underlying30 rfl (by kernel_rfl)) rfl ?_
    refine .inl ⟨u, HR.out, ?_⟩
    rw [← HV.out]
    exact ⟨rfl, (set6_mods (set6_mods (HM0.out.trans HM4.out (fun _ _ h => h)) (.inr (Nat.le_refl _)) _ _ _ _ _ _) (.inr (Nat.le_refl _)) _ _ _ _ _ _).below⟩
  · obtain ⟨N, rfl⟩ := h2 (fun u hu => hR ⟨u, hu⟩)
    have HR := Aside0.mk hR
    clear h1 h2 hB hR
    go_wp2_with fail
    refine bodyPost_ret (results_cell2 rfl _ _ w.heap.size 30 (gotc 0 false 0 0 ⟨#[]⟩) (0, 0) _ rfl (set6_blk HGB_w3.out _ _ _ _ _ _) Tryz.underlying30 rfl (by kernel_rfl)) rfl ?_
    exact .inr ⟨fun u hu => HR.out ⟨u, hu⟩, rfl, (set6_mods (HM0.out.trans HM3.out (fun _ _ h => h)) (.inr (Nat.le_refl _)) _ _ _ _ _ _).below⟩

set_option maxHeartbeats 8000000 in
set_option maxRecDepth 100000 in
theorem impl_6 (c : ByteArray) (hs : c.size ≤ 1000) (w : World) (hE : Errs w) : Calls Tryz.prog 5 #[.int .i64 6, .string c] w (INumPost (Lib.parseIntB 64 c.data.toList) w) := by
  have hM0 := (Mods.refl (fun _ => False) w).alloc (Obj.cells #[Value.int IntKind.i64 0, Value.bool false, Value.int IntKind.i64 0, Value.int IntKind.u64 0, Value.string ⟨#[]⟩, Value.slice none 0 0] 30)
  obtain ⟨W1, q, cp, hcv, hM1, hR1, hc1⟩ := to_bytes c (w.alloc (Obj.cells #[Value.int IntKind.i64 0, Value.bool false, Value.int IntKind.i64 0, Value.int IntKind.u64 0, Value.string ⟨#[]⟩, Value.slice none 0 0] 30)) hs
  have HS := Aside0.mk (scanned_i64 c (some ⟨q, 0, none⟩) cp hs W1 ((hE.mods hM0).mods hM1) hR1)
  have HM1 := Aside0.mk hM1
  have HM0 := Aside0.mk hM0
  clear hE hR1 hc1 hM1 hM0
  go_enter Tryz.func5, Tryz.ntmps5
  go_wp2_with fail
  refine HS.out.mono ?_
  rintro x w3 ⟨v, ev, rfl, h1, h2, hB⟩
  have HM3 := Aside0.mk (HM1.out.then_below hB)
  have hgb_w3 := (HM3.out).blk (got30 w) id
  have q0_w3 : w3.cell? ⟨w.heap.size, 0, none⟩ = some (.int .i64 0) := (blk_cell hgb_w3 0).trans rfl
  have q1_w3 : w3.cell? ⟨w.heap.size, 1, none⟩ = some (.bool false) := (blk_cell hgb_w3 1).trans rfl
  have q2_w3 : w3.cell? ⟨w.heap.size, 2, none⟩ = some (.int .i64 0) := (blk_cell hgb_w3 2).trans rfl
  have q3_w3 : w3.cell? ⟨w.heap.size, 3, none⟩ = some (.int .u64 0) := (blk_cell hgb_w3 3).trans rfl
  have q4_w3 : w3.cell? ⟨w.heap.size, 4, none⟩ = some (.string ⟨#[]⟩) := (blk_cell hgb_w3 4).trans rfl
  have q5_w3 : w3.cell? ⟨w.heap.size, 5, none⟩ = some (.slice none 0 0) := (blk_cell hgb_w3 5).trans rfl
  have f0_w3 := blk_frozen hgb_w3 0
  have f1_w3 := blk_frozen hgb_w3 1
  have f2_w3 := blk_frozen hgb_w3 2
  have f3_w3 := blk_frozen hgb_w3 3
  have f4_w3 := blk_frozen hgb_w3 4
  have f5_w3 := blk_frozen hgb_w3 5
  have HGB_w3 := Aside0.mk hgb_w3
  clear hgb_w3
  by_cases hR : ∃ u, Lib.parseIntB 64 c.data.toList = .ok u
  · obtain ⟨u, hu⟩ := hR
    obtain ⟨hv, rfl⟩ := h1 u hu
    have HR := Aside0.mk hu
    have HV := Aside0.mk hv
    clear h1 h2 hB hu hv
    go_wp2_with fail
    refine (got_int_lit _ _).mono ?_
    rintro x w4 ⟨rfl, hB4⟩
    have HM4 := Aside0.mk (HM3.out.then_below hB4)
    clear hB4
    have hgb_w4 := (HM4.out).blk (got30 w) id
    have q0_w4 : w4.cell? ⟨w.heap.size, 0, none⟩ = some (.int .i64 0) := (blk_cell hgb_w4 0).trans rfl
    have q1_w4 : w4.cell? ⟨w.heap.size, 1, none⟩ = some (.bool false) := (blk_cell hgb_w4 1).trans rfl
    have q2_w4 : w4.cell? ⟨w.heap.size, 2, none⟩ = some (.int .i64 0) := (blk_cell hgb_w4 2).trans rfl
    have q3_w4 : w4.cell? ⟨w.heap.size, 3, none⟩ = some (.int .u64 0) := (blk_cell hgb_w4 3).trans rfl
    have q4_w4 : w4.cell? ⟨w.heap.size, 4, none⟩ = some (.string ⟨#[]⟩) := (blk_cell hgb_w4 4).trans rfl
    have q5_w4 : w4.cell? ⟨w.heap.size, 5, none⟩ = some (.slice none 0 0) := (blk_cell hgb_w4 5).trans rfl
    have f0_w4 := blk_frozen hgb_w4 0
    have f1_w4 := blk_frozen hgb_w4 1
    have f2_w4 := blk_frozen hgb_w4 2
    have f3_w4 := blk_frozen hgb_w4 3
    have f4_w4 := blk_frozen hgb_w4 4
    have f5_w4 := blk_frozen hgb_w4 5
    have HGB_w4 := Aside0.mk hgb_w4
    clear hgb_w4
    go_wp2_with fail
    refine bodyPost_ret (results_cell2 rfl _ _ w.heap.size 30 (gotc 2 false v 0 ⟨#[]⟩) (0, 0) _ rfl (set6_blk (set6_blk HGB_w4.out _ _ _ _ _ _) _ _ _ _ _ _) Tryz.underlying30 rfl (by kernel_rfl)) rfl ?_
    refine .inl ⟨u, HR.out, ?_⟩
    rw [← HV.out]
    exact ⟨rfl, (set6_mods (set6_mods (HM0.out.trans HM4.out (fun _ _ h => h)) (.inr (Nat.le_refl _)) _ _ _ _ _ _) (.inr (Nat.le_refl _)) _ _ _ _ _ _).below⟩
  · obtain ⟨N, rfl⟩ := h2 (fun u hu => hR ⟨u, hu⟩)
    have HR := Aside0.mk hR
    clear h1 h2 hB hR
    go_wp2_with fail
    refine bodyPost_ret (results_cell2 rfl _ _ w.heap.size 30 (gotc 0 false 0 0 ⟨#[]⟩) (0, 0) _ rfl (set6_blk HGB_w3.out _ _ _ _ _ _) Tryz.underlying30 rfl (by kernel_rfl)) rfl ?_
    exact .inr ⟨fun u hu => HR.out ⟨u, hu⟩, rfl, (set6_mods (HM0.out.trans HM3.out (fun _ _ h => h)) (.inr (Nat.le_refl _)) _ _ _ _ _ _).below⟩

set_option maxHeartbeats 8000000 in
set_option maxRecDepth 100000 in
theorem impl_7 (c : ByteArray) (hs : c.size ≤ 1000) (w : World) (hE : Errs w) : Calls Tryz.prog 5 #[.int .i64 7, .string c] w (INumPost (natEnd (Lib.parseUintB 64 c.data.toList)) w) := by
  have hM0 := (Mods.refl (fun _ => False) w).alloc (Obj.cells #[Value.int IntKind.i64 0, Value.bool false, Value.int IntKind.i64 0, Value.int IntKind.u64 0, Value.string ⟨#[]⟩, Value.slice none 0 0] 30)
  obtain ⟨W1, q, cp, hcv, hM1, hR1, hc1⟩ := to_bytes c (w.alloc (Obj.cells #[Value.int IntKind.i64 0, Value.bool false, Value.int IntKind.i64 0, Value.int IntKind.u64 0, Value.string ⟨#[]⟩, Value.slice none 0 0] 30)) hs
  have HS := Aside0.mk (scanned_u c (some ⟨q, 0, none⟩) cp hs W1 ((hE.mods hM0).mods hM1) hR1)
  have HM1 := Aside0.mk hM1
  have HM0 := Aside0.mk hM0
  clear hE hR1 hc1 hM1 hM0
  go_enter Tryz.func5, Tryz.ntmps5
  go_wp2_with fail
  refine HS.out.mono ?_
  rintro x w3 ⟨v, ev, rfl, h1, h2, hB⟩
  have HM3 := Aside0.mk (HM1.out.then_below hB)
  have hgb_w3 := (HM3.out).blk (got30 w) id
  have q0_w3 : w3.cell? ⟨w.heap.size, 0, none⟩ = some (.int .i64 0) := (blk_cell hgb_w3 0).trans rfl
  have q1_w3 : w3.cell? ⟨w.heap.size, 1, none⟩ = some (.bool false) := (blk_cell hgb_w3 1).trans rfl
  have q2_w3 : w3.cell? ⟨w.heap.size, 2, none⟩ = some (.int .i64 0) := (blk_cell hgb_w3 2).trans rfl
  have q3_w3 : w3.cell? ⟨w.heap.size, 3, none⟩ = some (.int .u64 0) := (blk_cell hgb_w3 3).trans rfl
  have q4_w3 : w3.cell? ⟨w.heap.size, 4, none⟩ = some (.string ⟨#[]⟩) := (blk_cell hgb_w3 4).trans rfl
  have q5_w3 : w3.cell? ⟨w.heap.size, 5, none⟩ = some (.slice none 0 0) := (blk_cell hgb_w3 5).trans rfl
  have f0_w3 := blk_frozen hgb_w3 0
  have f1_w3 := blk_frozen hgb_w3 1
  have f2_w3 := blk_frozen hgb_w3 2
  have f3_w3 := blk_frozen hgb_w3 3
  have f4_w3 := blk_frozen hgb_w3 4
  have f5_w3 := blk_frozen hgb_w3 5
  have HGB_w3 := Aside0.mk hgb_w3
  clear hgb_w3
  by_cases hR : ∃ u, natEnd (Lib.parseUintB 64 c.data.toList) = .ok u
  · obtain ⟨u, hu⟩ := hR
    obtain ⟨hv, rfl⟩ := h1 u hu
    have HR := Aside0.mk hu
    have HV := Aside0.mk hv
    clear h1 h2 hB hu hv
    go_wp2_with fail
    refine (got_int_lit _ _).mono ?_
    rintro x w4 ⟨rfl, hB4⟩
    have HM4 := Aside0.mk (HM3.out.then_below hB4)
    clear hB4
    have hgb_w4 := (HM4.out).blk (got30 w) id
    have q0_w4 : w4.cell? ⟨w.heap.size, 0, none⟩ = some (.int .i64 0) := (blk_cell hgb_w4 0).trans rfl
    have q1_w4 : w4.cell? ⟨w.heap.size, 1, none⟩ = some (.bool false) := (blk_cell hgb_w4 1).trans rfl
    have q2_w4 : w4.cell? ⟨w.heap.size, 2, none⟩ = some (.int .i64 0) := (blk_cell hgb_w4 2).trans rfl
    have q3_w4 : w4.cell? ⟨w.heap.size, 3, none⟩ = some (.int .u64 0) := (blk_cell hgb_w4 3).trans rfl
    have q4_w4 : w4.cell? ⟨w.heap.size, 4, none⟩ = some (.string ⟨#[]⟩) := (blk_cell hgb_w4 4).trans rfl
    have q5_w4 : w4.cell? ⟨w.heap.size, 5, none⟩ = some (.slice none 0 0) := (blk_cell hgb_w4 5).trans rfl
    have f0_w4 := blk_frozen hgb_w4 0
    have f1_w4 := blk_frozen hgb_w4 1
    have f2_w4 := blk_frozen hgb_w4 2
    have f3_w4 := blk_frozen hgb_w4 3
    have f4_w4 := blk_frozen hgb_w4 4
    have f5_w4 := blk_frozen hgb_w4 5
    have HGB_w4 := Aside0.mk hgb_w4
    clear hgb_w4
    go_wp2_with fail
    refine bodyPost_ret (results_cell2 rfl _ _ w.heap.size 30 (gotc 2 false v 0 ⟨#[]⟩) (0, 0) _ rfl (set6_blk (set6_blk HGB_w4.out _ _ _ _ _ _) _ _ _ _ _ _) Tryz.underlying30 rfl (by kernel_rfl)) rfl ?_
    refine .inl ⟨u, HR.out, ?_⟩
    rw [← HV.out]
    exact ⟨rfl, (set6_mods (set6_mods (HM0.out.trans HM4.out (fun _ _ h => h)) (.inr (Nat.le_refl _)) _ _ _ _ _ _) (.inr (Nat.le_refl _)) _ _ _ _ _ _).below⟩
  · obtain ⟨N, rfl⟩ := h2 (fun u hu => hR ⟨u, hu⟩)
    have HR := Aside0.mk hR
    clear h1 h2 hB hR
    go_wp2_with fail
    refine bodyPost_ret (results_cell2 rfl _ _ w.heap.size 30 (gotc 0 false 0 0 ⟨#[]⟩) (0, 0) _ rfl (set6_blk HGB_w3.out _ _ _ _ _ _) Tryz.underlying30 rfl (by kernel_rfl)) rfl ?_
    exact .inr ⟨fun u hu => HR.out ⟨u, hu⟩, rfl, (set6_mods (HM0.out.trans HM3.out (fun _ _ h => h)) (.inr (Nat.le_refl _)) _ _ _ _ _ _).below⟩

set_option maxHeartbeats 8000000 in
set_option maxRecDepth 100000 in
theorem impl_8 (c : ByteArray) (hs : c.size ≤ 1000) (w : World) (hE : Errs w) : Calls Tryz.prog 5 #[.int .i64 8, .string c] w (INumPost (natEnd (Lib.parseUintB 8 c.data.toList)) w) := by
  have hM0 := (Mods.refl (fun _ => False) w).alloc (Obj.cells #[Value.int IntKind.i64 0, Value.bool false, Value.int IntKind.i64 0, Value.int IntKind.u64 0, Value.string ⟨#[]⟩, Value.slice none 0 0] 30)
  obtain ⟨W1, q, cp, hcv, hM1, hR1, hc1⟩ := to_bytes c (w.alloc (Obj.cells #[Value.int IntKind.i64 0, Value.bool false, Value.int IntKind.i64 0, Value.int IntKind.u64 0, Value.string ⟨#[]⟩, Value.slice none 0 0] 30)) hs
  have HS := Aside0.mk (scanned_u8 c (some ⟨q, 0, none⟩) cp hs W1 ((hE.mods hM0).mods hM1) hR1)
  have HM1 := Aside0.mk hM1
  have HM0 := Aside0.mk hM0
  clear hE hR1 hc1 hM1 hM0
  go_enter Tryz.func5, Tryz.ntmps5
  go_wp2_with fail
  refine HS.out.mono ?_
  rintro x w3 ⟨v, ev, rfl, h1, h2, hB⟩
  have HM3 := Aside0.mk (HM1.out.then_below hB)
  have hgb_w3 := (HM3.out).blk (got30 w) id
  have q0_w3 : w3.cell? ⟨w.heap.size, 0, none⟩ = some (.int .i64 0) := (blk_cell hgb_w3 0).trans rfl
  have q1_w3 : w3.cell? ⟨w.heap.size, 1, none⟩ = some (.bool false) := (blk_cell hgb_w3 1).trans rfl
  have q2_w3 : w3.cell? ⟨w.heap.size, 2, none⟩ = some (.int .i64 0) := (blk_cell hgb_w3 2).trans rfl
  have q3_w3 : w3.cell? ⟨w.heap.size, 3, none⟩ = some (.int .u64 0) := (blk_cell hgb_w3 3).trans rfl
  have q4_w3 : w3.cell? ⟨w.heap.size, 4, none⟩ = some (.string ⟨#[]⟩) := (blk_cell hgb_w3 4).trans rfl
  have q5_w3 : w3.cell? ⟨w.heap.size, 5, none⟩ = some (.slice none 0 0) := (blk_cell hgb_w3 5).trans rfl
  have f0_w3 := blk_frozen hgb_w3 0
  have f1_w3 := blk_frozen hgb_w3 1
  have f2_w3 := blk_frozen hgb_w3 2
  have f3_w3 := blk_frozen hgb_w3 3
  have f4_w3 := blk_frozen hgb_w3 4
  have f5_w3 := blk_frozen hgb_w3 5
  have HGB_w3 := Aside0.mk hgb_w3
  clear hgb_w3
  by_cases hR : ∃ u, natEnd (Lib.parseUintB 8 c.data.toList) = .ok u
  · obtain ⟨u, hu⟩ := hR
    obtain ⟨hv, rfl⟩ := h1 u hu
    have HR := Aside0.mk hu
    have HV := Aside0.mk hv
    clear h1 h2 hB hu hv
    go_wp2_with fail
    refine (got_int_lit _ _).mono ?_
    rintro x w4 ⟨rfl, hB4⟩
    have HM4 := Aside0.mk (HM3.out.then_below hB4)
    clear hB4
    have hgb_w4 := (HM4.out).blk (got30 w) id
    have q0_w4 : w4.cell? ⟨w.heap.size, 0, none⟩ = some (.int .i64 0) := (blk_cell hgb_w4 0).trans rfl
    have q1_w4 : w4.cell? ⟨w.heap.size, 1, none⟩ = some (.bool false) := (blk_cell hgb_w4 1).trans rfl
    have q2_w4 : w4.cell? ⟨w.heap.size, 2, none⟩ = some (.int .i64 0) := (blk_cell hgb_w4 2).trans rfl
    have q3_w4 : w4.cell? ⟨w.heap.size, 3, none⟩ = some (.int .u64 0) := (blk_cell hgb_w4 3).trans rfl
    have q4_w4 : w4.cell? ⟨w.heap.size, 4, none⟩ = some (.string ⟨#[]⟩) := (blk_cell hgb_w4 4).trans rfl
    have q5_w4 : w4.cell? ⟨w.heap.size, 5, none⟩ = some (.slice none 0 0) := (blk_cell hgb_w4 5).trans rfl
    have f0_w4 := blk_frozen hgb_w4 0
    have f1_w4 := blk_frozen hgb_w4 1
    have f2_w4 := blk_frozen hgb_w4 2
    have f3_w4 := blk_frozen hgb_w4 3
    have f4_w4 := blk_frozen hgb_w4 4
    have f5_w4 := blk_frozen hgb_w4 5
    have HGB_w4 := Aside0.mk hgb_w4
    clear hgb_w4
    go_wp2_with fail
    refine bodyPost_ret (results_cell2 rfl _ _ w.heap.size 30 (gotc 2 false v 0 ⟨#[]⟩) (0, 0) _ rfl (set6_blk (set6_blk HGB_w4.out _ _ _ _ _ _) _ _ _ _ _ _) Tryz.underlying30 rfl (by kernel_rfl)) rfl ?_
    refine .inl ⟨u, HR.out, ?_⟩
    rw [← HV.out]
    exact ⟨rfl, (set6_mods (set6_mods (HM0.out.trans HM4.out (fun _ _ h => h)) (.inr (Nat.le_refl _)) _ _ _ _ _ _) (.inr (Nat.le_refl _)) _ _ _ _ _ _).below⟩
  · obtain ⟨N, rfl⟩ := h2 (fun u hu => hR ⟨u, hu⟩)
    have HR := Aside0.mk hR
    clear h1 h2 hB hR
    go_wp2_with fail
    refine bodyPost_ret (results_cell2 rfl _ _ w.heap.size 30 (gotc 0 false 0 0 ⟨#[]⟩) (0, 0) _ rfl (set6_blk HGB_w3.out _ _ _ _ _ _) Tryz.underlying30 rfl (by kernel_rfl)) rfl ?_
    exact .inr ⟨fun u hu => HR.out ⟨u, hu⟩, rfl, (set6_mods (HM0.out.trans HM3.out (fun _ _ h => h)) (.inr (Nat.le_refl _)) _ _ _ _ _ _).below⟩

set_option maxHeartbeats 8000000 in
set_option maxRecDepth 100000 in
theorem impl_9 (c : ByteArray) (hs : c.size ≤ 1000) (w : World) (hE : Errs w) : Calls Tryz.prog 5 #[.int .i64 9, .string c] w (INumPost (natEnd (Lib.parseUintB 16 c.data.toList)) w) := by
  have hM0 := (Mods.refl (fun _ => False) w).alloc (Obj.cells #[Value.int IntKind.i64 0, Value.bool false, Value.int IntKind.i64 0, Value.int IntKind.u64 0, Value.string ⟨#[]⟩, Value.slice none 0 0] 30)
  obtain ⟨W1, q, cp, hcv, hM1, hR1, hc1⟩ := to_bytes c (w.alloc (Obj.cells #[Value.int IntKind.i64 0, Value.bool false, Value.int IntKind.i64 0, Value.int IntKind.u64 0, Value.string ⟨#[]⟩, Value.slice none 0 0] 30)) hs
  have HS := Aside0.mk (scanned_u16 c (some ⟨q, 0, none⟩) cp hs W1 ((hE.mods hM0).mods hM1) hR1)
  have HM1 := Aside0.mk hM1
  have HM0 := Aside0.mk hM0
  clear hE hR1 hc1 hM1 hM0
  go_enter Tryz.func5, Tryz.ntmps5
  go_wp2_with fail
  refine HS.out.mono ?_
  rintro x w3 ⟨v, ev, rfl, h1, h2, hB⟩
  have HM3 := Aside0.mk (HM1.out.then_below hB)
  have hgb_w3 := (HM3.out).blk (got30 w) id
  have q0_w3 : w3.cell? ⟨w.heap.size, 0, none⟩ = some (.int .i64 0) := (blk_cell hgb_w3 0).trans rfl
  have q1_w3 : w3.cell? ⟨w.heap.size, 1, none⟩ = some (.bool false) := (blk_cell hgb_w3 1).trans rfl
  have q2_w3 : w3.cell? ⟨w.heap.size, 2, none⟩ = some (.int .i64 0) := (blk_cell hgb_w3 2).trans rfl
  have q3_w3 : w3.cell? ⟨w.heap.size, 3, none⟩ = some (.int .u64 0) := (blk_cell hgb_w3 3).trans rfl
  have q4_w3 : w3.cell? ⟨w.heap.size, 4, none⟩ = some (.string ⟨#[]⟩) := (blk_cell hgb_w3 4).trans rfl
  have q5_w3 : w3.cell? ⟨w.heap.size, 5, none⟩ = some (.slice none 0 0) := (blk_cell hgb_w3 5).trans rfl
  have f0_w3 := blk_frozen hgb_w3 0
  have f1_w3 := blk_frozen hgb_w3 1
  have f2_w3 := blk_frozen hgb_w3 2
  have f3_w3 := blk_frozen hgb_w3 3
  have f4_w3 := blk_frozen hgb_w3 4
  have f5_w3 := blk_frozen hgb_w3 5
  have HGB_w3 := Aside0.mk hgb_w3
  clear hgb_w3
  by_cases hR : ∃ u, natEnd (Lib.parseUintB 16 c.data.toList) = .ok u
  · obtain ⟨u, hu⟩ := hR
    obtain ⟨hv, rfl⟩ := h1 u hu
    have HR := Aside0.mk hu
    have HV := Aside0.mk hv
    clear h1 h2 hB hu hv
    go_wp2_with fail
    refine (got_int_lit _ _).mono ?_
    rintro x w4 ⟨rfl, hB4⟩
    have HM4 := Aside0.mk (HM3.out.then_below hB4)
    clear hB4
    have hgb_w4 := (HM4.out).blk (got30 w) id
    have q0_w4 : w4.cell? ⟨w.heap.size, 0, none⟩ = some (.int .i64 0) := (blk_cell hgb_w4 0).trans rfl
    have q1_w4 : w4.cell? ⟨w.heap.size, 1, none⟩ = some (.bool false) := (blk_cell hgb_w4 1).trans rfl
    have q2_w4 : w4.cell? ⟨w.heap.size, 2, none⟩ = some (.int .i64 0) := (blk_cell hgb_w4 2).trans rfl
    have q3_w4 : w4.cell? ⟨w.heap.size, 3, none⟩ = some (.int .u64 0) := (blk_cell hgb_w4 3).trans rfl
    have q4_w4 : w4.cell? ⟨w.heap.size, 4, none⟩ = some (.string ⟨#[]⟩) := (blk_cell hgb_w4 4).trans rfl
    have q5_w4 : w4.cell? ⟨w.heap.size, 5, none⟩ = some (.slice none 0 0) := (blk_cell hgb_w4 5).trans rfl
    have f0_w4 := blk_frozen hgb_w4 0
    have f1_w4 := blk_frozen hgb_w4 1
    have f2_w4 := blk_frozen hgb_w4 2
    have f3_w4 := blk_frozen hgb_w4 3
    have f4_w4 := blk_frozen hgb_w4 4
    have f5_w4 := blk_frozen hgb_w4 5
    have HGB_w4 := Aside0.mk hgb_w4
    clear hgb_w4
    go_wp2_with fail
    refine bodyPost_ret (results_cell2 rfl _ _ w.heap.size 30 (gotc 2 false v 0 ⟨#[]⟩) (0, 0) _ rfl (set6_blk (set6_blk HGB_w4.out _ _ _ _ _ _) _ _ _ _ _ _) Tryz.underlying30 rfl (by kernel_rfl)) rfl ?_
    refine .inl ⟨u, HR.out, ?_⟩
    rw [← HV.out]
    exact ⟨rfl, (set6_mods (set6_mods (HM0.out.trans HM4.out (fun _ _ h => h)) (.inr (Nat.le_refl _)) _ _ _ _ _ _) (.inr (Nat.le_refl _)) _ _ _ _ _ _).below⟩
  · obtain ⟨N, rfl⟩ := h2 (fun u hu => hR ⟨u, hu⟩)
    have HR := Aside0.mk hR
    clear h1 h2 hB hR
    go_wp2_with fail
    refine bodyPost_ret (results_cell2 rfl _ _ w.heap.size 30 (gotc 0 false 0 0 ⟨#[]⟩) (0, 0) _ rfl (set6_blk HGB_w3.out _ _ _ _ _ _) Tryz.underlying30 rfl (by kernel_rfl)) rfl ?_
    exact .inr ⟨fun u hu => HR.out ⟨u, hu⟩, rfl, (set6_mods (HM0.out.trans HM3.out (fun _ _ h => h)) (.inr (Nat.le_refl _)) _ _ _ _ _ _).below⟩

set_option maxHeartbeats 8000000 in
set_option maxRecDepth 100000 in
theorem impl_10 (c : ByteArray) (hs : c.size ≤ 1000) (w : World) (hE : Errs w) : Calls Tryz.prog 5 #[.int .i64 10, .string c] w (INumPost (natEnd (Lib.parseUintB 32 c.data.toList)) w) := by
  have hM0 := (Mods.refl (fun _ => False) w).alloc (Obj.cells #[Value.int IntKind.i64 0, Value.bool false, Value.int IntKind.i64 0, Value.int IntKind.u64 0, Value.string ⟨#[]⟩, Value.slice none 0 0] 30)
  obtain ⟨W1, q, cp, hcv, hM1, hR1, hc1⟩ := to_bytes c (w.alloc (Obj.cells #[Value.int IntKind.i64 0, Value.bool false, Value.int IntKind.i64 0, Value.int IntKind.u64 0, Value.string ⟨#[]⟩, Value.slice none 0 0] 30)) hs
  have HS := Aside0.mk (scanned_u32 c (some ⟨q, 0, none⟩) cp hs W1 ((hE.mods hM0).mods hM1) hR1)
  have HM1 := Aside0.mk hM1
  have HM0 := Aside0.mk hM0
  clear hE hR1 hc1 hM1 hM0
  go_enter Tryz.func5, Tryz.ntmps5
  go_wp2_with fail
  refine HS.out.mono ?_
  rintro x w3 ⟨v, ev, rfl, h1, h2, hB⟩
  have HM3 := Aside0.mk (HM1.out.then_below hB)
  have hgb_w3 := (HM3.out).blk (got30 w) id
  have q0_w3 : w3.cell? ⟨w.heap.size, 0, none⟩ = some (.int .i64 0) := (blk_cell hgb_w3 0).trans rfl
  have q1_w3 : w3.cell? ⟨w.heap.size, 1, none⟩ = some (.bool false) := (blk_cell hgb_w3 1).trans rfl
  have q2_w3 : w3.cell? ⟨w.heap.size, 2, none⟩ = some (.int .i64 0) := (blk_cell hgb_w3 2).trans rfl
  have q3_w3 : w3.cell? ⟨w.heap.size, 3, none⟩ = some (.int .u64 0) := (blk_cell hgb_w3 3).trans rfl
  have q4_w3 : w3.cell? ⟨w.heap.size, 4, none⟩ = some (.string ⟨#[]⟩) := (blk_cell hgb_w3 4).trans rfl
  have q5_w3 : w3.cell? ⟨w.heap.size, 5, none⟩ = some (.slice none 0 0) := (blk_cell hgb_w3 5).trans rfl
  have f0_w3 := blk_frozen hgb_w3 0
  have f1_w3 := blk_frozen hgb_w3 1
  have f2_w3 := blk_frozen hgb_w3 2
  have f3_w3 := blk_frozen hgb_w3 3
  have f4_w3 := blk_frozen hgb_w3 4
  have f5_w3 := blk_frozen hgb_w3 5
  have HGB_w3 := Aside0.mk hgb_w3
  clear hgb_w3
  by_cases hR : ∃ u, natEnd (Lib.parseUintB 32 c.data.toList) = .ok u
  · obtain ⟨u, hu⟩ := hR
    obtain ⟨hv, rfl⟩ := h1 u hu
    have HR := Aside0.mk hu
    have HV := Aside0.mk hv
    clear h1 h2 hB hu hv
    go_wp2_with fail
    refine (got_int_lit _ _).mono ?_
    rintro x w4 ⟨rfl, hB4⟩
    have HM4 := Aside0.mk (HM3.out.then_below hB4)
    clear hB4
    have hgb_w4 := (HM4.out).blk (got30 w) id
    have q0_w4 : w4.cell? ⟨w.heap.size, 0, none⟩ = some (.int .i64 0) := (blk_cell hgb_w4 0).trans rfl
    have q1_w4 : w4.cell? ⟨w.heap.size, 1, none⟩ = some (.bool false) := (blk_cell hgb_w4 1).trans rfl
    have q2_w4 : w4.cell? ⟨w.heap.size, 2, none⟩ = some (.int .i64 0) := (blk_cell hgb_w4 2).trans rfl
    have q3_w4 : w4.cell? ⟨w.heap.size, 3, none⟩ = some (.int .u64 0) := (blk_cell hgb_w4 3).trans rfl
    have q4_w4 : w4.cell? ⟨w.heap.size, 4, none⟩ = some (.string ⟨#[]⟩) := (blk_cell hgb_w4 4).trans rfl
    have q5_w4 : w4.cell? ⟨w.heap.size, 5, none⟩ = some (.slice none 0 0) := (blk_cell hgb_w4 5).trans rfl
    have f0_w4 := blk_frozen hgb_w4 0
    have f1_w4 := blk_frozen hgb_w4 1
    have f2_w4 := blk_frozen hgb_w4 2
    have f3_w4 := blk_frozen hgb_w4 3
    have f4_w4 := blk_frozen hgb_w4 4
    have f5_w4 := blk_frozen hgb_w4 5
    have HGB_w4 := Aside0.mk hgb_w4
    clear hgb_w4
    go_wp2_with fail
    refine bodyPost_ret (results_cell2 rfl _ _ w.heap.size 30 (gotc 2 false v 0 ⟨#[]⟩) (0, 0) _ rfl (set6_blk (set6_blk HGB_w4.out _ _ _ _ _ _) _ _ _ _ _ _) Tryz.underlying30 rfl (by kernel_rfl)) rfl ?_
    refine .inl ⟨u, HR.out, ?_⟩
    rw [← HV.out]
    exact ⟨rfl, (set6_mods (set6_mods (HM0.out.trans HM4.out (fun _ _ h => h)) (.inr (Nat.le_refl _)) _ _ _ _ _ _) (.inr (Nat.le_refl _)) _ _ _ _ _ _).below⟩
  · obtain ⟨N, rfl⟩ := h2 (fun u hu => hR ⟨u, hu⟩)
    have HR := Aside0.mk hR
    clear h1 h2 hB hR
    go_wp2_with fail
    refine bodyPost_ret (results_cell2 rfl _ _ w.heap.size 30 (gotc 0 false 0 0 ⟨#[]⟩) (0, 0) _ rfl (set6_blk HGB_w3.out _ _ _ _ _ _) Tryz.underlying30 rfl (by kernel_rfl)) rfl ?_
    exact .inr ⟨fun u hu => HR.out ⟨u, hu⟩, rfl, (set6_mods (HM0.out.trans HM3.out (fun _ _ h => h)) (.inr (Nat.le_refl _)) _ _ _ _ _ _).below⟩

set_option maxHeartbeats 8000000 in
set_option maxRecDepth 100000 in
theorem impl_11 (c : ByteArray) (hs : c.size ≤ 1000) (w : World) (hE : Errs w) : Calls Tryz.prog 5 #[.int .i64 11, .string c] w (INumPost (natEnd (Lib.parseUintB 64 c.data.toList)) w) := by
  have hM0 := (Mods.refl (fun _ => False) w).alloc (Obj.cells #[Value.int IntKind.i64 0, Value.bool false, Value.int IntKind.i64 0, Value.int IntKind.u64 0, Value.string ⟨#[]⟩, Value.slice none 0 0] 30)
  obtain ⟨W1, q, cp, hcv, hM1, hR1, hc1⟩ := to_bytes c (w.alloc (Obj.cells #[Value.int IntKind.i64 0, Value.bool false, Value.int IntKind.i64 0, Value.int IntKind.u64 0, Value.string ⟨#[]⟩, Value.slice none 0 0] 30)) hs
  have HS := Aside0.mk (scanned_u64 c (some ⟨q, 0, none⟩) cp hs W1 ((hE.mods hM0).mods hM1) hR1)
  have HM1 := Aside0.mk hM1
  have HM0 := Aside0.mk hM0
  clear hE hR1 hc1 hM1 hM0
  go_enter Tryz.func5, Tryz.ntmps5
  go_wp2_with fail
  refine HS.out.mono ?_
  rintro x w3 ⟨v, ev, rfl, h1, h2, hB⟩
  have HM3 := Aside0.mk (HM1.out.then_below hB)
  have hgb_w3 := (HM3.out).blk (got30 w) id
  have q0_w3 : w3.cell? ⟨w.heap.size, 0, none⟩ = some (.int .i64 0) := (blk_cell hgb_w3 0).trans rfl
  have q1_w3 : w3.cell? ⟨w.heap.size, 1, none⟩ = some (.bool false) := (blk_cell hgb_w3 1).trans rfl
  have q2_w3 : w3.cell? ⟨w.heap.size, 2, none⟩ = some (.int .i64 0) := (blk_cell hgb_w3 2).trans rfl
  have q3_w3 : w3.cell? ⟨w.heap.size, 3, none⟩ = some (.int .u64 0) := (blk_cell hgb_w3 3).trans rfl
  have q4_w3 : w3.cell? ⟨w.heap.size, 4, none⟩ = some (.string ⟨#[]⟩) := (blk_cell hgb_w3 4).trans rfl
  have q5_w3 : w3.cell? ⟨w.heap.size, 5, none⟩ = some (.slice none 0 0) := (blk_cell hgb_w3 5).trans rfl
  have f0_w3 := blk_frozen hgb_w3 0
  have f1_w3 := blk_frozen hgb_w3 1
  have f2_w3 := blk_frozen hgb_w3 2
  have f3_w3 := blk_frozen hgb_w3 3
  have f4_w3 := blk_frozen hgb_w3 4
  have f5_w3 := blk_frozen hgb_w3 5
  have HGB_w3 := Aside0.mk hgb_w3
  clear hgb_w3
  by_cases hR : ∃ u, natEnd (Lib.parseUintB 64 c.data.toList) = .ok u
  · obtain ⟨u, hu⟩ := hR
    obtain ⟨hv, rfl⟩ := h1 u hu
    have HR := Aside0.mk hu
    have HV := Aside0.mk hv
    clear h1 h2 hB hu hv
    go_wp2_with fail
    refine (got_int_lit _ _).mono ?_
    rintro x w4 ⟨rfl, hB4⟩
    have HM4 := Aside0.mk (HM3.out.then_below hB4)
    clear hB4
    have hgb_w4 := (HM4.out).blk (got30 w) id
    have q0_w4 : w4.cell? ⟨w.heap.size, 0, none⟩ = some (.int .i64 0) := (blk_cell hgb_w4 0).trans rfl
    have q1_w4 : w4.cell? ⟨w.heap.size, 1, none⟩ = some (.bool false) := (blk_cell hgb_w4 1).trans rfl
    have q2_w4 : w4.cell? ⟨w.heap.size, 2, none⟩ = some (.int .i64 0) := (blk_cell hgb_w4 2).trans rfl
    have q3_w4 : w4.cell? ⟨w.heap.size, 3, none⟩ = some (.int .u64 0) := (blk_cell hgb_w4 3).trans rfl
    have q4_w4 : w4.cell? ⟨w.heap.size, 4, none⟩ = some (.string ⟨#[]⟩) := (blk_cell hgb_w4 4).trans rfl
    have q5_w4 : w4.cell? ⟨w.heap.size, 5, none⟩ = some (.slice none 0 0) := (blk_cell hgb_w4 5).trans rfl
    have f0_w4 := blk_frozen hgb_w4 0
    have f1_w4 := blk_frozen hgb_w4 1
    have f2_w4 := blk_frozen hgb_w4 2
    have f3_w4 := blk_frozen hgb_w4 3
    have f4_w4 := blk_frozen hgb_w4 4
    have f5_w4 := blk_frozen hgb_w4 5
    have HGB_w4 := Aside0.mk hgb_w4
    clear hgb_w4
    go_wp2_with fail
    refine bodyPost_ret (results_cell2 rfl _ _ w.heap.size 30 (gotc 2 false v 0 ⟨#[]⟩) (0, 0) _ rfl (set6_blk (set6_blk HGB_w4.out _ _ _ _ _ _) _ _ _ _ _ _) Tryz.underlying30 rfl (by kernel_rfl)) rfl ?_
    refine .inl ⟨u, HR.out, ?_⟩
    rw [← HV.out]
    exact ⟨rfl, (set6_mods (set6_mods (HM0.out.trans HM4.out (fun _ _ h => h)) (.inr (Nat.le_refl _)) _ _ _ _ _ _) (.inr (Nat.le_refl _)) _ _ _ _ _ _).below⟩
  · obtain ⟨N, rfl⟩ := h2 (fun u hu => hR ⟨u, hu⟩)
    have HR := Aside0.mk hR
    clear h1 h2 hB hR
    go_wp2_with fail
    refine bodyPost_ret (results_cell2 rfl _ _ w.heap.size 30 (gotc 0 false 0 0 ⟨#[]⟩) (0, 0) _ rfl (set6_blk HGB_w3.out _ _ _ _ _ _) Tryz.underlying30 rfl (by kernel_rfl)) rfl ?_
    exact .inr ⟨fun u hu => HR.out ⟨u, hu⟩, rfl, (set6_mods (HM0.out.trans HM3.out (fun _ _ h => h)) (.inr (Nat.le_refl _)) _ _ _ _ _ _).below⟩
end
end Go.Proofs.YtohadobpiclllaaGreatDoor
