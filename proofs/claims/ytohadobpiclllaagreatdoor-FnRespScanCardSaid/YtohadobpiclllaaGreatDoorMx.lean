/- impl.Scan: the other ways. The comparison of two readings. -/
import Derived.Test.YtohadobpiclllaaGreatDoorMw
import Derived.Test.YtohadobpiclllaaGreatDoorMu
namespace Go.Proofs.YtohadobpiclllaaGreatDoor
section
open Go.RowKit Go.Proofs.YtohadobpiclllaaGreatDoorW.PrintWords Go.Proofs.YtohadobpiclllaaGreatDoorW.PrintMore Go.Proofs.YtohadobpiclllaaGreatDoorW.PrintLast Go.Proofs.YtohadobpiclllaaGreatDoor.PFnRespScan
attribute [local go_sem] max2_int min2_int max_two min_two max_three min_three max_four min_four
set_option linter.unusedVariables false
set_option linter.unusedSimpArgs false

/-- What impl.Scan says of a float. -/
def IFltPost (R : Nat) (bad : Bool) (w : World) (x : Ending) (w' : World) : Prop := (bad = true ∧ IsPost 0 false 0 0 ⟨#[]⟩ 1 w x w') ∨ (bad = false ∧ ∃ y : Nat, FA R y ∧ IsPost 3 false 0 y ⟨#[]⟩ 0 w x w')


set_option maxHeartbeats 8000000 in
set_option maxRecDepth 100000 in
theorem impl_0 (c : ByteArray) (hs : c.size ≤ 1000) (w : World) : Calls Tryz.prog 5 #[.int .i64 0, .string c] w (IsPost 1 false 0 0 c 0 w) := by
  have hM0 := (Mods.refl (fun _ => False) w).alloc (Obj.cells #[Value.int IntKind.i64 0, Value.bool false, Value.int IntKind.i64 0, Value.int IntKind.u64 0, Value.string ⟨#[]⟩, Value.slice none 0 0] 30)
  obtain ⟨W1, q, cp, hcv, hM1, hR1, hc1⟩ := to_bytes c (w.alloc (Obj.cells #[Value.int IntKind.i64 0, Value.bool false, Value.int IntKind.i64 0, Value.int IntKind.u64 0, Value.string ⟨#[]⟩, Value.slice none 0 0] 30)) hs
  have hA := (Mods.refl (fun _ => False) W1).alloc (Obj.cells #[Value.string ⟨#[]⟩] 9)
  have hR2 := hA.reads hR1 (fun _ _ h => h)
  have HS := Aside0.mk (scan_str c (some ⟨q, 0, none⟩) cp W1.heap.size _ _ hR2 (heap_alloc_new W1 _))
  have HM1 := Aside0.mk hM1
  have HM0 := Aside0.mk hM0
  have HA := Aside0.mk hA
  clear hR1 hc1 hM1 hM0 hA hR2
  go_enter Tryz.func5, Tryz.ntmps5
  go_wp2_with fail
  refine HS.out.mono ?_
  rintro x w3 ⟨rfl, hcz, hM⟩
  have HM3 := Aside0.mk ((HM1.out.trans HA.out (fun _ _ h => h)).trans hM (fun i hi e => absurd e (by have := HM1.out.size; omega)))
  clear hM
  go_wp2_with fail
  refine (got_str_lit c _).mono ?_
  rintro x w4 ⟨rfl, hB4⟩
  have HM4 := Aside0.mk (HM3.out.then_below hB4)
  clear hB4
  have hgb_w4 := (HM4.out).blk (got30 w) id
  have q0_w4 : w4.cell? ⟨w.heap.size, 0, none⟩ = some (.int .i64 0) := (blk_cell hgb_w4 0).trans rfl
  have q1_w4 : w4.cell? ⟨w.heap.size, 1, none⟩ = some (.bool false) := (blk_cell hgb_w4 1).trans rfl
  have q2_w4 : w4.cell? ⟨w.heap.size, 2, none⟩ = some (.int .i64 0) := (blk_cell hgb_w4 2).trans rfl
  have q3_w4 : w4.cell? ⟨w.heap.size, 3, none⟩ = some (.int .u64 0) := (blk_cell hgb_w4 3).trans rfl
  have q4_w4 : w4.cell? ⟨w.heap.size, 4, none⟩ = some (.string ⟨#[]⟩) := (blk_cell hgb_w4 4).trans rfl
  have q5_w4 : w4.cell? ⟨w.heap.size, 5, none⟩ = some (.slice none 0 0) := (blk_cell hgb_w4 5).trans rfl
  have f0_w4 := blk_frozen hgb_w4 0
  have f1_w4 := blk_frozen hgb_w4 1
  have f2_w4 := blk_frozen hgb_w4 2
  have f3_w4 := blk_frozen hgb_w4 3
  have f4_w4 := blk_frozen hgb_w4 4
  have f5_w4 := blk_frozen hgb_w4 5
  have HGB_w4 := Aside0.mk hgb_w4
  clear hgb_w4
  go_wp2_with fail
  refine bodyPost_ret (results_cell2 rfl _ _ w.heap.size 30 (gotc 1 false 0 0 c) (0, 0) _ rfl (set6_blk (set6_blk HGB_w4.out _ _ _ _ _ _) _ _ _ _ _ _) Tryz.underlying30 rfl (by kernel_rfl)) rfl ?_
  exact ⟨rfl, (set6_mods (set6_mods (HM0.out.trans HM4.out (fun _ _ h => h)) (.inr (Nat.le_refl _)) _ _ _ _ _ _) (.inr (Nat.le_refl _)) _ _ _ _ _ _).below⟩

set_option maxHeartbeats 8000000 in
set_option maxRecDepth 100000 in
theorem impl_14 (c : ByteArray) (hs : c.size ≤ 1000) (w : World) : Calls Tryz.prog 5 #[.int .i64 14, .string c] w (IsPost 4 (c.toList == [49]) 0 0 ⟨#[]⟩ 0 w) := by
  have hM0 := (Mods.refl (fun _ => False) w).alloc (Obj.cells #[Value.int IntKind.i64 0, Value.bool false, Value.int IntKind.i64 0, Value.int IntKind.u64 0, Value.string ⟨#[]⟩, Value.slice none 0 0] 30)
  obtain ⟨W1, q, cp, hcv, hM1, hR1, hc1⟩ := to_bytes c (w.alloc (Obj.cells #[Value.int IntKind.i64 0, Value.bool false, Value.int IntKind.i64 0, Value.int IntKind.u64 0, Value.string ⟨#[]⟩, Value.slice none 0 0] 30)) hs
  have hA := (Mods.refl (fun _ => False) W1).alloc (Obj.cells #[Value.bool false] 4)
  have hR2 := hA.reads hR1 (fun _ _ h => h)
  have HS := Aside0.mk (scan_bool c q cp W1.heap.size _ _ (fun h => hA.cell (hc1 h) id) (heap_alloc_new W1 _) hs)
  have HM1 := Aside0.mk hM1
  have HM0 := Aside0.mk hM0
  have HA := Aside0.mk hA
  clear hR1 hc1 hM1 hM0 hA hR2
  go_enter Tryz.func5, Tryz.ntmps5
  go_wp2_with fail
  refine HS.out.mono ?_
  rintro x w3 ⟨rfl, hcz, hM⟩
  have HM3 := Aside0.mk ((HM1.out.trans HA.out (fun _ _ h => h)).trans hM (fun i hi e => absurd e (by have := HM1.out.size; omega)))
  clear hM
  go_wp2_with fail
  refine (got_bool_lit (c.toList == [49]) _).mono ?_
  rintro x w4 ⟨rfl, hB4⟩
  have HM4 := Aside0.mk (HM3.out.then_below hB4)
  clear hB4
  have hgb_w4 := (HM4.out).blk (got30 w) id
  have q0_w4 : w4.cell? ⟨w.heap.size, 0, none⟩ = some (.int .i64 0) := (blk_cell hgb_w4 0).trans rfl
  have q1_w4 : w4.cell? ⟨w.heap.size, 1, none⟩ = some (.bool false) := (blk_cell hgb_w4 1).trans rfl
  have q2_w4 : w4.cell? ⟨w.heap.size, 2, none⟩ = some (.int .i64 0) := (blk_cell hgb_w4 2).trans rfl
  have q3_w4 : w4.cell? ⟨w.heap.size, 3, none⟩ = some (.int .u64 0) := (blk_cell hgb_w4 3).trans rfl
  have q4_w4 : w4.cell? ⟨w.heap.size, 4, none⟩ = some (.string ⟨#[]⟩) := (blk_cell hgb_w4 4).trans rfl
  have q5_w4 : w4.cell? ⟨w.heap.size, 5, none⟩ = some (.slice none 0 0) := (blk_cell hgb_w4 5).trans rfl
  have f0_w4 := blk_frozen hgb_w4 0
  have f1_w4 := blk_frozen hgb_w4 1
  have f2_w4 := blk_frozen hgb_w4 2
  have f3_w4 := blk_frozen hgb_w4 3
  have f4_w4 := blk_frozen hgb_w4 4
  have f5_w4 := blk_frozen hgb_w4 5
  have HGB_w4 := Aside0.mk hgb_w4
  clear hgb_w4
  go_wp2_with fail
  refine bodyPost_ret (results_cell2 rfl _ _ w.heap.size 30 (gotc 4 (c.toList == [49]) 0 0 ⟨#[]⟩) (0, 0) _ rfl (set6_blk (set6_blk HGB_w4.out _ _ _ _ _ _) _ _ _ _ _ _) Tryz.underlying30 rfl (by kernel_rfl)) rfl ?_
  exact ⟨rfl, (set6_mods (set6_mods (HM0.out.trans HM4.out (fun _ _ h => h)) (.inr (Nat.le_refl _)) _ _ _ _ _ _) (.inr (Nat.le_refl _)) _ _ _ _ _ _).below⟩

set_option maxHeartbeats 8000000 in
set_option maxRecDepth 100000 in
theorem impl_1 (c : ByteArray) (hs : c.size ≤ 1000) (w : World) : Calls Tryz.prog 5 #[.int .i64 1, .string c] w (IsPost 1 false 0 0 c 0 w) := by
  have hM0 := (Mods.refl (fun _ => False) w).alloc (Obj.cells #[Value.int IntKind.i64 0, Value.bool false, Value.int IntKind.i64 0, Value.int IntKind.u64 0, Value.string ⟨#[]⟩, Value.slice none 0 0] 30)
  obtain ⟨W1, q, cp, hcv, hM1, hR1, hc1⟩ := to_bytes c (w.alloc (Obj.cells #[Value.int IntKind.i64 0, Value.bool false, Value.int IntKind.i64 0, Value.int IntKind.u64 0, Value.string ⟨#[]⟩, Value.slice none 0 0] 30)) hs
  have hA := (Mods.refl (fun _ => False) W1).alloc (Obj.cells #[Value.slice none 0 0] 44)
  have hR2 := hA.reads hR1 (fun _ _ h => h)
  have HS := Aside0.mk (scan_bytes c q cp W1.heap.size _ _ hs hR2 (heap_alloc_new W1 _))
  have HM1 := Aside0.mk hM1
  have HM0 := Aside0.mk hM0
  have HA := Aside0.mk hA
  clear hR1 hc1 hM1 hM0 hA hR2
  go_enter Tryz.func5, Tryz.ntmps5
  go_wp2_with fail
  refine HS.out.mono ?_
  rintro x w3 ⟨b, cap2, rfl, hcz, hR3, hM⟩
  have HM3 := Aside0.mk ((HM1.out.trans HA.out (fun _ _ h => h)).trans hM (fun i hi e => absurd e (by have := HM1.out.size; omega)))
  clear hM
  have hcs := str_run (cap := cap2) hR3
  clear hR3
  go_wp2_with fail
  refine (got_str_lit c _).mono ?_
  rintro x w4 ⟨rfl, hB4⟩
  have HM4 := Aside0.mk (HM3.out.then_below hB4)
  clear hB4
  have hgb_w4 := (HM4.out).blk (got30 w) id
  have q0_w4 : w4.cell? ⟨w.heap.size, 0, none⟩ = some (.int .i64 0) := (blk_cell hgb_w4 0).trans rfl
  have q1_w4 : w4.cell? ⟨w.heap.size, 1, none⟩ = some (.bool false) := (blk_cell hgb_w4 1).trans rfl
  have q2_w4 : w4.cell? ⟨w.heap.size, 2, none⟩ = some (.int .i64 0) := (blk_cell hgb_w4 2).trans rfl
  have q3_w4 : w4.cell? ⟨w.heap.size, 3, none⟩ = some (.int .u64 0) := (blk_cell hgb_w4 3).trans rfl
  have q4_w4 : w4.cell? ⟨w.heap.size, 4, none⟩ = some (.string ⟨#[]⟩) := (blk_cell hgb_w4 4).trans rfl
  have q5_w4 : w4.cell? ⟨w.heap.size, 5, none⟩ = some (.slice none 0 0) := (blk_cell hgb_w4 5).trans rfl
  have f0_w4 := blk_frozen hgb_w4 0
  have f1_w4 := blk_frozen hgb_w4 1
  have f2_w4 := blk_frozen hgb_w4 2
  have f3_w4 := blk_frozen hgb_w4 3
  have f4_w4 := blk_frozen hgb_w4 4
  have f5_w4 := blk_frozen hgb_w4 5
  have HGB_w4 := Aside0.mk hgb_w4
  clear hgb_w4
  go_wp2_with fail
  refine bodyPost_ret (results_cell2 rfl _ _ w.heap.size 30 (gotc 1 false 0 0 c) (0, 0) _ rfl (set6_blk (set6_blk HGB_w4.out _ _ _ _ _ _) _ _ _ _ _ _) Tryz.underlying30 rfl (by kernel_rfl)) rfl ?_
  exact ⟨rfl, (set6_mods (set6_mods (HM0.out.trans HM4.out (fun _ _ h => h)) (.inr (Nat.le_refl _)) _ _ _ _ _ _) (.inr (Nat.le_refl _)) _ _ _ _ _ _).below⟩

set_option maxHeartbeats 8000000 in
set_option maxRecDepth 100000 in
theorem impl_12 {X : TabX} {R : Nat} {bad : Bool} (c : ByteArray) (hs : c.size ≤ 1000) (hp : PfAt X c 32 R bad) (hbk : Back R) (w : World) (hT : Tabs w X) (hE : Errs w) : Calls Tryz.prog 5 #[.int .i64 12, .string c] w (IFltPost R bad w) := by
  have hM0 := (Mods.refl (fun _ => False) w).alloc (Obj.cells #[Value.int IntKind.i64 0, Value.bool false, Value.int IntKind.i64 0, Value.int IntKind.u64 0, Value.string ⟨#[]⟩, Value.slice none 0 0] 30)
  obtain ⟨W1, q, cp, hcv, hM1, hR1, hc1⟩ := to_bytes c (w.alloc (Obj.cells #[Value.int IntKind.i64 0, Value.bool false, Value.int IntKind.i64 0, Value.int IntKind.u64 0, Value.string ⟨#[]⟩, Value.slice none 0 0] 30)) hs
  have hA := (Mods.refl (fun _ => False) W1).alloc (Obj.cells #[Value.float FloatKind.f32 0] 57)
  have hR2 := hA.reads hR1 (fun _ _ h => h)
  have hM2 := (hM0.trans hM1 (fun _ _ h => h)).trans hA (fun _ _ h => h)
  have HS := Aside0.mk (scan_f32 hp hbk (some ⟨q, 0, none⟩) cp W1.heap.size _ _ (hT.mods hM2) (hE.mods hM2) hR2 (heap_alloc_new W1 _))
  have HM1 := Aside0.mk hM1
  have HM0 := Aside0.mk hM0
  have HA := Aside0.mk hA
  clear hR1 hc1 hM1 hM0 hA hR2 hM2 hT hE hp hbk
  go_enter Tryz.func5, Tryz.ntmps5
  go_wp2_with fail
  refine HS.out.mono ?_
  rintro x w3 ⟨ev, B, rfl, hcz, h1, h2, hM⟩
  have HM3 := Aside0.mk ((HM1.out.trans HA.out (fun _ _ h => h)).trans hM (fun i hi e => absurd e (by have := HM1.out.size; omega)))
  clear hM
  cases bad
  · obtain ⟨rfl, hgv⟩ := h1 rfl
    obtain ⟨y, k, hcv2, hfa⟩ := hgv w3
    have HFA := Aside0.mk hfa
    clear h1 h2 hgv hfa
    go_wp2_with fail
    refine (got_flt_lit _ _).mono ?_
    rintro x w4 ⟨rfl, hB4⟩
    have HM4 := Aside0.mk ((HM3.out.drewN k).then_below hB4)
    clear hB4
    have hgb_w4 := (HM4.out).blk (got30 w) id
    have q0_w4 : w4.cell? ⟨w.heap.size, 0, none⟩ = some (.int .i64 0) := (blk_cell hgb_w4 0).trans rfl
    have q1_w4 : w4.cell? ⟨w.heap.size, 1, none⟩ = some (.bool false) := (blk_cell hgb_w4 1).trans rfl
    have q2_w4 : w4.cell? ⟨w.heap.size, 2, none⟩ = some (.int .i64 0) := (blk_cell hgb_w4 2).trans rfl
    have q3_w4 : w4.cell? ⟨w.heap.size, 3, none⟩ = some (.int .u64 0) := (blk_cell hgb_w4 3).trans rfl
    have q4_w4 : w4.cell? ⟨w.heap.size, 4, none⟩ = some (.string ⟨#[]⟩) := (blk_cell hgb_w4 4).trans rfl
    have q5_w4 : w4.cell? ⟨w.heap.size, 5, none⟩ = some (.slice none 0 0) := (blk_cell hgb_w4 5).trans rfl
    have f0_w4 := blk_frozen hgb_w4 0
    have f1_w4 := blk_frozen hgb_w4 1
    have f2_w4 := blk_frozen hgb_w4 2
    have f3_w4 := blk_frozen hgb_w4 3
    have f4_w4 := blk_frozen hgb_w4 4
    have f5_w4 := blk_frozen hgb_w4 5
    have HGB_w4 := Aside0.mk hgb_w4
    clear hgb_w4
    go_wp2_with fail
    refine bodyPost_ret (results_cell2 rfl _ _ w.heap.size 30 (gotc 3 false 0 (y : Nat) ⟨#[]⟩) (0, 0) _ rfl (set6_blk (set6_blk HGB_w4.out _ _ _ _ _ _) _ _ _ _ _ _) Tryz.underlying30 rfl (by kernel_rfl)) rfl ?_
    exact .inr ⟨rfl, _, HFA.out, rfl, (set6_mods (set6_mods (HM0.out.trans HM4.out (fun _ _ h => h)) (.inr (Nat.le_refl _)) _ _ _ _ _ _) (.inr (Nat.le_refl _)) _ _ _ _ _ _).below⟩
  · obtain ⟨N, rfl⟩ := h2 rfl
    obtain ⟨R2, hg2⟩ := gives_any B
    obtain ⟨y, k, hcv2, hfa⟩ := hg2 w3
    clear h1 h2 hg2 hfa
    have hgb_w3 := (HM3.out).blk (got30 w) id
    have q0_w3 : w3.cell? ⟨w.heap.size, 0, none⟩ = some (.int .i64 0) := (blk_cell hgb_w3 0).trans rfl
    have q1_w3 : w3.cell? ⟨w.heap.size, 1, none⟩ = some (.bool false) := (blk_cell hgb_w3 1).trans rfl
    have q2_w3 : w3.cell? ⟨w.heap.size, 2, none⟩ = some (.int .i64 0) := (blk_cell hgb_w3 2).trans rfl
    have q3_w3 : w3.cell? ⟨w.heap.size, 3, none⟩ = some (.int .u64 0) := (blk_cell hgb_w3 3).trans rfl
    have q4_w3 : w3.cell? ⟨w.heap.size, 4, none⟩ = some (.string ⟨#[]⟩) := (blk_cell hgb_w3 4).trans rfl
    have q5_w3 : w3.cell? ⟨w.heap.size, 5, none⟩ = some (.slice none 0 0) := (blk_cell hgb_w3 5).trans rfl
    have f0_w3 := blk_frozen hgb_w3 0
    have f1_w3 := blk_frozen hgb_w3 1
    have f2_w3 := blk_frozen hgb_w3 2
    have f3_w3 := blk_frozen hgb_w3 3
    have f4_w3 := blk_frozen hgb_w3 4
    have f5_w3 := blk_frozen hgb_w3 5
    have HGB_w3 := Aside0.mk hgb_w3
    clear hgb_w3
    go_wp2_with fail
    refine bodyPost_ret (results_cell2 rfl _ _ w.heap.size 30 (gotc 0 false 0 0 ⟨#[]⟩) (0, 0) _ rfl (set6_blk HGB_w3.out _ _ _ _ _ _) Tryz.underlying30 rfl (by kernel_rfl)) rfl ?_
    exact .inl ⟨rfl, rfl, (set6_mods ((HM0.out.trans HM3.out (fun _ _ h => h)).drewN k) (.inr (Nat.le_refl _)) _ _ _ _ _ _).below⟩

set_option maxHeartbeats 8000000 in
set_option maxRecDepth 100000 in
theorem impl_13 {X : TabX} {R : Nat} {bad : Bool} (c : ByteArray) (hs : c.size ≤ 1000) (hp : PfAt X c 64 R bad) (w : World) (hT : Tabs w X) (hE : Errs w) : Calls Tryz.prog 5 #[.int .i64 13, .string c] w (IFltPost R bad w) := by
  have hM0 := (Mods.refl (fun _ => False) w).alloc (Obj.cells #[Value.int IntKind.i64 0, Value.bool false, Value.int IntKind.i64 0, Value.int IntKind.u64 0, Value.string ⟨#[]⟩, Value.slice none 0 0] 30)
  obtain ⟨W1, q, cp, hcv, hM1, hR1, hc1⟩ := to_bytes c (w.alloc (Obj.cells #[Value.int IntKind.i64 0, Value.bool false, Value.int IntKind.i64 0, Value.int IntKind.u64 0, Value.string ⟨#[]⟩, Value.slice none 0 0] 30)) hs
  have hA := (Mods.refl (fun _ => False) W1).alloc (Obj.cells #[Value.float FloatKind.f64 0] 59)
  have hR2 := hA.reads hR1 (fun _ _ h => h)
  have hM2 := (hM0.trans hM1 (fun _ _ h => h)).trans hA (fun _ _ h => h)
  have HS := Aside0.mk (scan_f64 hp (some ⟨q, 0, none⟩) cp W1.heap.size _ _ (hT.mods hM2) (hE.mods hM2) hR2 (heap_alloc_new W1 _))
  have HM1 := Aside0.mk hM1
  have HM0 := Aside0.mk hM0
  have HA := Aside0.mk hA
  clear hR1 hc1 hM1 hM0 hA hR2 hM2 hT hE hp
  go_enter Tryz.func5, Tryz.ntmps5
  go_wp2_with fail
  refine HS.out.mono ?_
  rintro x w3 ⟨ev, B, rfl, hcz, h1, h2, hM⟩
  have HM3 := Aside0.mk ((HM1.out.trans HA.out (fun _ _ h => h)).trans hM (fun i hi e => absurd e (by have := HM1.out.size; omega)))
  clear hM
  cases bad
  · obtain ⟨rfl, hgv⟩ := h1 rfl
    have hfa := hgv
    have HFA := Aside0.mk hfa
    clear h1 h2 hgv hfa
    go_wp2_with fail
    refine (got_flt_lit _ _).mono ?_
    rintro x w4 ⟨rfl, hB4⟩
    have HM4 := Aside0.mk (HM3.out.then_below hB4)
    clear hB4
    have hgb_w4 := (HM4.out).blk (got30 w) id
    have q0_w4 : w4.cell? ⟨w.heap.size, 0, none⟩ = some (.int .i64 0) := (blk_cell hgb_w4 0).trans rfl
    have q1_w4 : w4.cell? ⟨w.heap.size, 1, none⟩ = some (.bool false) := (blk_cell hgb_w4 1).trans rfl
    have q2_w4 : w4.cell? ⟨w.heap.size, 2, none⟩ = some (.int .i64 0) := (blk_cell hgb_w4 2).trans rfl
    have q3_w4 : w4.cell? ⟨w.heap.size, 3, none⟩ = some (.int .u64 0) := (blk_cell hgb_w4 3).trans rfl
    have q4_w4 : w4.cell? ⟨w.heap.size, 4, none⟩ = some (.string ⟨#[]⟩) := (blk_cell hgb_w4 4).trans rfl
    have q5_w4 : w4.cell? ⟨w.heap.size, 5, none⟩ = some (.slice none 0 0) := (blk_cell hgb_w4 5).trans rfl
    have f0_w4 := blk_frozen hgb_w4 0
    have f1_w4 := blk_frozen hgb_w4 1
    have f2_w4 := blk_frozen hgb_w4 2
    have f3_w4 := blk_frozen hgb_w4 3
    have f4_w4 := blk_frozen hgb_w4 4
    have f5_w4 := blk_frozen hgb_w4 5
    have HGB_w4 := Aside0.mk hgb_w4
    clear hgb_w4
    go_wp2_with fail
    refine bodyPost_ret (results_cell2 rfl _ _ w.heap.size 30 (gotc 3 false 0 (B : Nat) ⟨#[]⟩) (0, 0) _ rfl (set6_blk (set6_blk HGB_w4.out _ _ _ _ _ _) _ _ _ _ _ _) Tryz.underlying30 rfl (by kernel_rfl)) rfl ?_
    exact .inr ⟨rfl, _, HFA.out, rfl, (set6_mods (set6_mods (HM0.out.trans HM4.out (fun _ _ h => h)) (.inr (Nat.le_refl _)) _ _ _ _ _ _) (.inr (Nat.le_refl _)) _ _ _ _ _ _).below⟩
  · obtain ⟨N, rfl⟩ := h2 rfl
    skip
    skip
    clear h1 h2
    have hgb_w3 := (HM3.out).blk (got30 w) id
    have q0_w3 : w3.cell? ⟨w.heap.size, 0, none⟩ = some (.int .i64 0) := (blk_cell hgb_w3 0).trans rfl
    have q1_w3 : w3.cell? ⟨w.heap.size, 1, none⟩ = some (.bool false) := (blk_cell hgb_w3 1).trans rfl
    have q2_w3 : w3.cell? ⟨w.heap.size, 2, none⟩ = some (.int .i64 0) := (blk_cell hgb_w3 2).trans rfl
    have q3_w3 : w3.cell? ⟨w.heap.size, 3, none⟩ = some (.int .u64 0) := (blk_cell hgb_w3 3).trans rfl
    have q4_w3 : w3.cell? ⟨w.heap.size, 4, none⟩ = some (.string ⟨#[]⟩) := (blk_cell hgb_w3 4).trans rfl
    have q5_w3 : w3.cell? ⟨w.heap.size, 5, none⟩ = some (.slice none 0 0) := (blk_cell hgb_w3 5).trans rfl
    have f0_w3 := blk_frozen hgb_w3 0
    have f1_w3 := blk_frozen hgb_w3 1
    have f2_w3 := blk_frozen hgb_w3 2
    have f3_w3 := blk_frozen hgb_w3 3
    have f4_w3 := blk_frozen hgb_w3 4
    have f5_w3 := blk_frozen hgb_w3 5
    have HGB_w3 := Aside0.mk hgb_w3
    clear hgb_w3
    go_wp2_with fail
    refine bodyPost_ret (results_cell2 rfl _ _ w.heap.size 30 (gotc 0 false 0 0 ⟨#[]⟩) (0, 0) _ rfl (set6_blk HGB_w3.out _ _ _ _ _ _) Tryz.underlying30 rfl (by kernel_rfl)) rfl ?_
    exact .inl ⟨rfl, rfl, (set6_mods (HM0.out.trans HM3.out (fun _ _ h => h)) (.inr (Nat.le_refl _)) _ _ _ _ _ _).below⟩
end

section
open Go.RowKit Go.Proofs.YtohadobpiclllaaGreatDoorW.PrintWords Go.Proofs.YtohadobpiclllaaGreatDoorW.PrintMore Go.Proofs.YtohadobpiclllaaGreatDoorW.PrintLast Go.Proofs.YtohadobpiclllaaGreatDoor.PFnRespScan
attribute [local go_sem] max2_int min2_int max_two min_two max_three min_three max_four min_four
set_option linter.unusedVariables false
set_option linter.unusedSimpArgs false

set_option maxHeartbeats 4000000 in
set_option maxRecDepth 100000 in
theorem implGot_calls (k : Int) (b : Bool) (i f : Int) (s : ByteArray) (w : World) : Calls Tryz.prog 7 #[.agg #[.int .i64 k, .bool b, .int .i64 i, .int .u64 f, .string s, .slice none 0 0]] w fun x w' => x = .returned (.agg #[.int .i64 k, .bool b, .int .i64 i, .int .u64 f, .string s, .slice none 0 0]) ∧ Below w.heap.size w w' := by
  go_enter Tryz.func7, Tryz.ntmps7
  go_wp2_with fail
  refine wp_loop_rounds 1 ?_
  rw [rounds_succ]
  go_wp2_with fail
  refine bodyPost_ret (results_cell_row rfl _ _ (w.heap.size + 1) 30 #[.int .i64 k, .bool b, .int .i64 i, .int .u64 f, .string s, .slice none 0 0] (0, 0) _ rfl (by refine blk_alloc ?_ _; exact heap_alloc2_new w _ _) Tryz.underlying30 rfl (by kernel_rfl)) rfl ?_
  exact ⟨rfl, ((((Mods.refl (fun _ => False) w).alloc _).alloc _).alloc _).below⟩

theorem nan_calls (x : Nat) (h : NaN64 x) (w : World) : Calls Tryz.prog 24 #[.int .u64 x] w fun e w' => e = .returned (.bool true) ∧ w = w' := by
  have h1 : bits .and .u64 (x : Int) 9223372036854775807 = ((x % 9223372036854775808 : Nat) : Int) := by
    show IntKind.u64.wrap ((BitVec.ofInt 64 (x : Int) &&& BitVec.ofInt 64 9223372036854775807).toNat : Nat) = _
    have e1 : (BitVec.ofInt 64 (x : Int)).toNat = x % 2 ^ 64 := by rw [BitVec.toNat_ofInt]; omega
    have e2 : (BitVec.ofInt 64 9223372036854775807).toNat = 2 ^ 63 - 1 := by decide
    rw [BitVec.toNat_and, e1, e2, Nat.and_two_pow_sub_one_eq_mod, wrap_u64]
    omega
  have h2 : 9218868437227405312 < x % 9223372036854775808 := h
  obtain ⟨m, hm⟩ : ∃ m, x % 9223372036854775808 = m := ⟨_, rfl⟩
  rw [hm] at h1 h2
  have h3 : decide ((9218868437227405312 : Int) < (m : Int)) = true := decide_eq_true (by omega)
  clear hm h h2
  go_enter Tryz.func24, Tryz.ntmps24
  go_wp2_with fail
  go_ret
  exact ⟨rfl, rfl⟩

set_option maxHeartbeats 8000000 in
set_option maxRecDepth 100000 in
theorem got_same (k : Int) (b : Bool) (i : Int) (f1 f2 : Nat) (s : ByteArray) (hf : f1 = f2) (w : World) : Calls Tryz.prog 6 #[.agg #[.int .i64 k, .bool b, .int .i64 i, .int .u64 f1, .string s, .slice none 0 0], .agg #[.int .i64 k, .bool b, .int .i64 i, .int .u64 f2, .string s, .slice none 0 0]] w fun x w' => x = .returned (.bool true) ∧ Below w.heap.size w w' := by
  subst hf
  go_enter Tryz.func6, Tryz.ntmps6
  go_wp2_with fail
  refine wp_loop_rounds 1 ?_
  rw [rounds_succ]
  go_wp2_with fail
  go_ret
  exact ⟨rfl, (((Mods.refl (fun _ => False) w).alloc _).alloc _).below⟩

set_option maxHeartbeats 8000000 in
set_option maxRecDepth 100000 in
theorem got_nans (k : Int) (b : Bool) (i : Int) (f1 f2 : Nat) (s : ByteArray) (hf : f1 ≠ f2) (h1 : NaN64 f1) (h2 : NaN64 f2) (w : World) : Calls Tryz.prog 6 #[.agg #[.int .i64 k, .bool b, .int .i64 i, .int .u64 f1, .string s, .slice none 0 0], .agg #[.int .i64 k, .bool b, .int .i64 i, .int .u64 f2, .string s, .slice none 0 0]] w fun x w' => x = .returned (.bool true) ∧ Below w.heap.size w w' := by
  have hne : ((f1 : Int) != (f2 : Int)) = true := bne_iff_ne.mpr (by omega)
  have H1 := Aside0.mk (nan_calls f1 h1)
  have H2 := Aside0.mk (nan_calls f2 h2)
  clear hf h1 h2
  go_enter Tryz.func6, Tryz.ntmps6
  go_wp2_with fail
  refine (H1.out _).mono ?_
  rintro x w1 ⟨rfl, hw⟩
  obtain ⟨w2, hw2⟩ : ∃ w2, w2 = w1 := ⟨_, rfl⟩
  subst hw
  go_wp2_with fail
  refine (H2.out _).mono ?_
  rintro x w3 ⟨rfl, hw⟩
  subst hw
  go_wp2_with fail
  refine wp_loop_rounds 1 ?_
  rw [rounds_succ]
  go_wp2_with fail
  go_ret
  exact ⟨rfl, (((Mods.refl (fun _ => False) w).alloc _).alloc _).below⟩

/-- Two readings that tell the same are equal. -/
theorem got_true (k : Int) (b : Bool) (i : Int) (f1 f2 R : Nat) (s : ByteArray) (h1 : FA R f1) (h2 : FA R f2) (w : World) : Calls Tryz.prog 6 #[.agg #[.int .i64 k, .bool b, .int .i64 i, .int .u64 f1, .string s, .slice none 0 0], .agg #[.int .i64 k, .bool b, .int .i64 i, .int .u64 f2, .string s, .slice none 0 0]] w fun x w' => x = .returned (.bool true) ∧ Below w.heap.size w w' := by
  by_cases hf : f1 = f2
  · exact got_same k b i f1 f2 s hf w
  · rcases h1 with rfl | ⟨n1, nR⟩
    · rcases h2 with rfl | ⟨n2, nR⟩
      · exact absurd rfl hf
      · exact got_nans k b i f1 f2 s hf nR n2 w
    · rcases h2 with rfl | ⟨n2, _⟩
      · exact got_nans k b i f1 f2 s hf n1 nR w
      · exact got_nans k b i f1 f2 s hf n1 n2 w
end
end Go.Proofs.YtohadobpiclllaaGreatDoor
