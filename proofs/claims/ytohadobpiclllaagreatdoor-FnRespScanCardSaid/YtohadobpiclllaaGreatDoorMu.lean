/- The reference's Scan: floats and truth values. impl.got of what Scan has read. -/
import Derived.Test.YtohadobpiclllaaGreatDoorMt
namespace Go.Proofs.YtohadobpiclllaaGreatDoor
section
open Go.RowKit Go.Proofs.YtohadobpiclllaaGreatDoorW.PrintWords Go.Proofs.YtohadobpiclllaaGreatDoorW.PrintMore Go.Proofs.YtohadobpiclllaaGreatDoorW.PrintLast Go.Proofs.YtohadobpiclllaaGreatDoor.PFnRespScan
attribute [local go_sem] max2_int min2_int max_two min_two max_three min_three max_four min_four
set_option linter.unusedVariables false
set_option linter.unusedSimpArgs false


def FltPost (R : Nat) (bad : Bool) (w : World) (x : Ending) (w' : World) : Prop := (bad = true ∧ SpPost 0 false 0 0 ⟨#[]⟩ 1 1 w x w') ∨ (bad = false ∧ ∃ y : Nat, FA R y ∧ SpPost 3 false 0 y ⟨#[]⟩ 0 1 w x w')

set_option maxHeartbeats 4000000 in
set_option maxRecDepth 100000 in
theorem spec_12 {X : TabX} {c : ByteArray} {R : Nat} {bad : Bool} (w : World) (hT : Tabs w X) (hE : Errs w) (hF : ∀ w, Tabs w X → Errs w → Calls Tryz.prog 11 #[.string c, .int .i64 32] w (FoPost R bad w)) : Calls Tryz.prog 4 #[.int .i64 12, .string c] w (FltPost R bad w) := by
  have hM := ((Mods.refl (fun _ => False) w).alloc (Obj.cells #[Value.int IntKind.i64 0, Value.bool false, Value.int IntKind.i64 0, Value.int IntKind.u64 0, Value.string ⟨#[]⟩, Value.slice none 0 0] 25)).alloc (Obj.cells #[Value.int IntKind.i64 64, Value.int IntKind.i64 8, Value.int IntKind.i64 16, Value.int IntKind.i64 32, Value.int IntKind.i64 64] 3)
  have HW := Aside0.mk (hF _ (hT.mods hM) (hE.mods hM))
  have HM := Aside0.mk hM
  clear hE hT hM hF
  go_enter Tryz.func4, Tryz.ntmps4
  go_wp2_with fail
  refine HW.out.mono ?_
  rintro x w3 ⟨y, rfl, h1, hB⟩
  have hgb := (Mods.of_below hB).blk (got_block w) id
  have q0 : w3.cell? ⟨w.heap.size, 0, none⟩ = some (.int .i64 0) := (blk_cell hgb 0).trans rfl
  have q1 : w3.cell? ⟨w.heap.size, 1, none⟩ = some (.bool false) := (blk_cell hgb 1).trans rfl
  have q2 : w3.cell? ⟨w.heap.size, 2, none⟩ = some (.int .i64 0) := (blk_cell hgb 2).trans rfl
  have q3 : w3.cell? ⟨w.heap.size, 3, none⟩ = some (.int .u64 0) := (blk_cell hgb 3).trans rfl
  have q4 : w3.cell? ⟨w.heap.size, 4, none⟩ = some (.string ⟨#[]⟩) := (blk_cell hgb 4).trans rfl
  have q5 : w3.cell? ⟨w.heap.size, 5, none⟩ = some (.slice none 0 0) := (blk_cell hgb 5).trans rfl
  have f0 := blk_frozen hgb 0
  have f1 := blk_frozen hgb 1
  have f2 := blk_frozen hgb 2
  have f3 := blk_frozen hgb 3
  have f4 := blk_frozen hgb 4
  have f5 := blk_frozen hgb 5
  have HGB := Aside0.mk hgb
  have HB := Aside0.mk (HM.out.trans (Mods.of_below hB) (fun _ _ h => h))
  have H1 := Aside0.mk h1
  clear h1 hB hgb
  cases bad
  · go_wp2_with fail
    refine bodyPost_ret (results_cell3 rfl _ _ w.heap.size 25 (gotc 3 false 0 y ⟨#[]⟩) (0, 0) _ rfl (set6_blk HGB.out _ _ _ _ _ _) Tryz.underlying25 rfl (by kernel_rfl)) rfl ?_
    exact .inr ⟨rfl, y, H1.out trivial, rfl, (set6_mods HB.out (.inr (Nat.le_refl _)) _ _ _ _ _ _).below⟩
  · go_wp2_with fail
    refine bodyPost_ret (results_cell3 rfl _ _ w.heap.size 25 (gotc 0 false 0 0 ⟨#[]⟩) (0, 0) _ rfl (set6_blk HGB.out _ _ _ _ _ _) Tryz.underlying25 rfl (by kernel_rfl)) rfl ?_
    exact .inl ⟨rfl, rfl, (set6_mods HB.out (.inr (Nat.le_refl _)) _ _ _ _ _ _).below⟩

set_option maxHeartbeats 4000000 in
set_option maxRecDepth 100000 in
theorem spec_12_open {c : ByteArray} (w : World) (hF : ∀ w, Calls Tryz.prog 11 #[.string c, .int .i64 32] w fun x w' => x = .returned (.tuple #[.int .u64 0, .bool false, .int .i64 2]) ∧ w' = w) : Calls Tryz.prog 4 #[.int .i64 12, .string c] w (SpPost 0 false 0 0 ⟨#[]⟩ 0 2 w) := by
  have hM := ((Mods.refl (fun _ => False) w).alloc (Obj.cells #[Value.int IntKind.i64 0, Value.bool false, Value.int IntKind.i64 0, Value.int IntKind.u64 0, Value.string ⟨#[]⟩, Value.slice none 0 0] 25)).alloc (Obj.cells #[Value.int IntKind.i64 64, Value.int IntKind.i64 8, Value.int IntKind.i64 16, Value.int IntKind.i64 32, Value.int IntKind.i64 64] 3)
  have HW := Aside0.mk (hF ((w.alloc (Obj.cells #[Value.int IntKind.i64 0, Value.bool false, Value.int IntKind.i64 0, Value.int IntKind.u64 0, Value.string ⟨#[]⟩, Value.slice none 0 0] 25)).alloc (Obj.cells #[Value.int IntKind.i64 64, Value.int IntKind.i64 8, Value.int IntKind.i64 16, Value.int IntKind.i64 32, Value.int IntKind.i64 64] 3)))
  have HM := Aside0.mk hM
  clear hM hF
  go_enter Tryz.func4, Tryz.ntmps4
  go_wp2_with fail
  refine HW.out.mono ?_
  rintro x w3 ⟨rfl, hw3⟩
  have hB : Below (((w.alloc (Obj.cells #[Value.int IntKind.i64 0, Value.bool false, Value.int IntKind.i64 0, Value.int IntKind.u64 0, Value.string ⟨#[]⟩, Value.slice none 0 0] 25)).alloc (Obj.cells #[Value.int IntKind.i64 64, Value.int IntKind.i64 8, Value.int IntKind.i64 16, Value.int IntKind.i64 32, Value.int IntKind.i64 64] 3))).heap.size (((w.alloc (Obj.cells #[Value.int IntKind.i64 0, Value.bool false, Value.int IntKind.i64 0, Value.int IntKind.u64 0, Value.string ⟨#[]⟩, Value.slice none 0 0] 25)).alloc (Obj.cells #[Value.int IntKind.i64 64, Value.int IntKind.i64 8, Value.int IntKind.i64 16, Value.int IntKind.i64 32, Value.int IntKind.i64 64] 3))) w3 := by rw [hw3]; exact Below.refl _ _
  have hgb := (Mods.of_below hB).blk (got_block w) id
  have q0 : w3.cell? ⟨w.heap.size, 0, none⟩ = some (.int .i64 0) := (blk_cell hgb 0).trans rfl
  have q1 : w3.cell? ⟨w.heap.size, 1, none⟩ = some (.bool false) := (blk_cell hgb 1).trans rfl
  have q2 : w3.cell? ⟨w.heap.size, 2, none⟩ = some (.int .i64 0) := (blk_cell hgb 2).trans rfl
  have q3 : w3.cell? ⟨w.heap.size, 3, none⟩ = some (.int .u64 0) := (blk_cell hgb 3).trans rfl
  have q4 : w3.cell? ⟨w.heap.size, 4, none⟩ = some (.string ⟨#[]⟩) := (blk_cell hgb 4).trans rfl
  have q5 : w3.cell? ⟨w.heap.size, 5, none⟩ = some (.slice none 0 0) := (blk_cell hgb 5).trans rfl
  have f0 := blk_frozen hgb 0
  have f1 := blk_frozen hgb 1
  have f2 := blk_frozen hgb 2
  have f3 := blk_frozen hgb 3
  have f4 := blk_frozen hgb 4
  have f5 := blk_frozen hgb 5
  have HGB := Aside0.mk hgb
  have HB := Aside0.mk (HM.out.trans (Mods.of_below hB) (fun _ _ h => h))
  clear hB hgb hw3
  go_wp2_with fail
  refine bodyPost_ret (results_cell3 rfl _ _ w.heap.size 25 (gotc 0 false 0 0 ⟨#[]⟩) (0, 0) _ rfl (set6_blk HGB.out _ _ _ _ _ _) Tryz.underlying25 rfl (by kernel_rfl)) rfl ?_
  exact ⟨rfl, (set6_mods HB.out (.inr (Nat.le_refl _)) _ _ _ _ _ _).below⟩

set_option maxHeartbeats 4000000 in
set_option maxRecDepth 100000 in
theorem spec_13 {X : TabX} {c : ByteArray} {R : Nat} {bad : Bool} (w : World) (hT : Tabs w X) (hE : Errs w) (hF : ∀ w, Tabs w X → Errs w → Calls Tryz.prog 11 #[.string c, .int .i64 64] w (FoPost R bad w)) : Calls Tryz.prog 4 #[.int .i64 13, .string c] w (FltPost R bad w) := by
  have hM := ((Mods.refl (fun _ => False) w).alloc (Obj.cells #[Value.int IntKind.i64 0, Value.bool false, Value.int IntKind.i64 0, Value.int IntKind.u64 0, Value.string ⟨#[]⟩, Value.slice none 0 0] 25)).alloc (Obj.cells #[Value.int IntKind.i64 64, Value.int IntKind.i64 8, Value.int IntKind.i64 16, Value.int IntKind.i64 32, Value.int IntKind.i64 64] 3)
  have HW := Aside0.mk (hF _ (hT.mods hM) (hE.mods hM))
  have HM := Aside0.mk hM
  clear hE hT hM hF
  go_enter Tryz.func4, Tryz.ntmps4
  go_wp2_with fail
  refine HW.out.mono ?_
  rintro x w3 ⟨y, rfl, h1, hB⟩
  have hgb := (Mods.of_below hB).blk (got_block w) id
  have q0 : w3.cell? ⟨w.heap.size, 0, none⟩ = some (.int .i64 0) := (blk_cell hgb 0).trans rfl
  have q1 : w3.cell? ⟨w.heap.size, 1, none⟩ = some (.bool false) := (blk_cell hgb 1).trans rfl
  have q2 : w3.cell? ⟨w.heap.size, 2, none⟩ = some (.int .i64 0) := (blk_cell hgb 2).trans rfl
  have q3 : w3.cell? ⟨w.heap.size, 3, none⟩ = some (.int .u64 0) := (blk_cell hgb 3).trans rfl
  have q4 : w3.cell? ⟨w.heap.size, 4, none⟩ = some (.string ⟨#[]⟩) := (blk_cell hgb 4).trans rfl
  have q5 : w3.cell? ⟨w.heap.size, 5, none⟩ = some (.slice none 0 0) := (blk_cell hgb 5).trans rfl
  have f0 := blk_frozen hgb 0
  have f1 := blk_frozen hgb 1
  have f2 := blk_frozen hgb 2
  have f3 := blk_frozen hgb 3
  have f4 := blk_frozen hgb 4
  have f5 := blk_frozen hgb 5
  have HGB := Aside0.mk hgb
  have HB := Aside0.mk (HM.out.trans (Mods.of_below hB) (fun _ _ h => h))
  have H1 := Aside0.mk h1
  clear h1 hB hgb
  cases bad
  · go_wp2_with fail
    refine bodyPost_ret (results_cell3 rfl _ _ w.heap.size 25 (gotc 3 false 0 y ⟨#[]⟩) (0, 0) _ rfl (set6_blk HGB.out _ _ _ _ _ _) Tryz.underlying25 rfl (by kernel_rfl)) rfl ?_
    exact .inr ⟨rfl, y, H1.out trivial, rfl, (set6_mods HB.out (.inr (Nat.le_refl _)) _ _ _ _ _ _).below⟩
  · go_wp2_with fail
    refine bodyPost_ret (results_cell3 rfl _ _ w.heap.size 25 (gotc 0 false 0 0 ⟨#[]⟩) (0, 0) _ rfl (set6_blk HGB.out _ _ _ _ _ _) Tryz.underlying25 rfl (by kernel_rfl)) rfl ?_
    exact .inl ⟨rfl, rfl, (set6_mods HB.out (.inr (Nat.le_refl _)) _ _ _ _ _ _).below⟩

set_option maxHeartbeats 4000000 in
set_option maxRecDepth 100000 in
theorem spec_13_open {c : ByteArray} (w : World) (hF : ∀ w, Calls Tryz.prog 11 #[.string c, .int .i64 64] w fun x w' => x = .returned (.tuple #[.int .u64 0, .bool false, .int .i64 2]) ∧ w' = w) : Calls Tryz.prog 4 #[.int .i64 13, .string c] w (SpPost 0 false 0 0 ⟨#[]⟩ 0 2 w) := by
  have hM := ((Mods.refl (fun _ => False) w).alloc (Obj.cells #[Value.int IntKind.i64 0, Value.bool false, Value.int IntKind.i64 0, Value.int IntKind.u64 0, Value.string ⟨#[]⟩, Value.slice none 0 0] 25)).alloc (Obj.cells #[Value.int IntKind.i64 64, Value.int IntKind.i64 8, Value.int IntKind.i64 16, Value.int IntKind.i64 32, Value.int IntKind.i64 64] 3)
  have HW := Aside0.mk (hF ((w.alloc (Obj.cells #[Value.int IntKind.i64 0, Value.bool false, Value.int IntKind.i64 0, Value.int IntKind.u64 0, Value.string ⟨#[]⟩, Value.slice none 0 0] 25)).alloc (Obj.cells #[Value.int IntKind.i64 64, Value.int IntKind.i64 8, Value.int IntKind.i64 16, Value.int IntKind.i64 32, Value.int IntKind.i64 64] 3)))
  have HM := Aside0.mk hM
  clear hM hF
  go_enter Tryz.func4, Tryz.ntmps4
  go_wp2_with fail
  refine HW.out.mono ?_
  rintro x w3 ⟨rfl, hw3⟩
  have hB : Below (((w.alloc (Obj.cells #[Value.int IntKind.i64 0, Value.bool false, Value.int IntKind.i64 0, Value.int IntKind.u64 0, Value.string ⟨#[]⟩, Value.slice none 0 0] 25)).alloc (Obj.cells #[Value.int IntKind.i64 64, Value.int IntKind.i64 8, Value.int IntKind.i64 16, Value.int IntKind.i64 32, Value.int IntKind.i64 64] 3))).heap.size (((w.alloc (Obj.cells #[Value.int IntKind.i64 0, Value.bool false, Value.int IntKind.i64 0, Value.int IntKind.u64 0, Value.string ⟨#[]⟩, Value.slice none 0 0] 25)).alloc (Obj.cells #[Value.int IntKind.i64 64, Value.int IntKind.i64 8, Value.int IntKind.i64 16, Value.int IntKind.i64 32, Value.int IntKind.i64 64] 3))) w3 := by rw [hw3]; exact Below.refl _ _
  have hgb := (Mods.of_below hB).blk (got_block w) id
  have q0 : w3.cell? ⟨w.heap.size, 0, none⟩ = some (.int .i64 0) := (blk_cell hgb 0).trans rfl
  have q1 : w3.cell? ⟨w.heap.size, 1, none⟩ = some (.bool false) := (blk_cell hgb 1).trans rfl
  have q2 : w3.cell? ⟨w.heap.size, 2, none⟩ = some (.int .i64 0) := (blk_cell hgb 2).trans rfl
  have q3 : w3.cell? ⟨w.heap.size, 3, none⟩ = some (.int .u64 0) := (blk_cell hgb 3).trans rfl
  have q4 : w3.cell? ⟨w.heap.size, 4, none⟩ = some (.string ⟨#[]⟩) := (blk_cell hgb 4).trans rfl
  have q5 : w3.cell? ⟨w.heap.size, 5, none⟩ = some (.slice none 0 0) := (blk_cell hgb 5).trans rfl
  have f0 := blk_frozen hgb 0
  have f1 := blk_frozen hgb 1
  have f2 := blk_frozen hgb 2
  have f3 := blk_frozen hgb 3
  have f4 := blk_frozen hgb 4
  have f5 := blk_frozen hgb 5
  have HGB := Aside0.mk hgb
  have HB := Aside0.mk (HM.out.trans (Mods.of_below hB) (fun _ _ h => h))
  clear hB hgb hw3
  go_wp2_with fail
  refine bodyPost_ret (results_cell3 rfl _ _ w.heap.size 25 (gotc 0 false 0 0 ⟨#[]⟩) (0, 0) _ rfl (set6_blk HGB.out _ _ _ _ _ _) Tryz.underlying25 rfl (by kernel_rfl)) rfl ?_
  exact ⟨rfl, (set6_mods HB.out (.inr (Nat.le_refl _)) _ _ _ _ _ _).below⟩

set_option maxHeartbeats 4000000 in
set_option maxRecDepth 100000 in
theorem spec_14 (c : ByteArray) (w : World) : Calls Tryz.prog 4 #[.int .i64 14, .string c] w (SpPost 4 (c.toList == [49]) 0 0 ⟨#[]⟩ 0 1 w) := by
  go_enter Tryz.func4, Tryz.ntmps4
  go_wp2_with fail
  refine bodyPost_ret (results_cell3 rfl _ _ w.heap.size 25 (gotc 4 (c.toList == [49]) 0 0 ⟨#[]⟩) (0, 0) _ rfl (by refine blk_alloc ?_ _; exact heap_alloc_new _ _) Tryz.underlying25 rfl (by kernel_rfl)) rfl ?_
  exact ⟨rfl, (((Mods.refl (fun _ => False) w).alloc _).alloc _).below⟩
end

section
open Go.RowKit Go.Proofs.YtohadobpiclllaaGreatDoorW.PrintWords Go.Proofs.YtohadobpiclllaaGreatDoorW.PrintMore Go.Proofs.YtohadobpiclllaaGreatDoorW.PrintLast Go.Proofs.YtohadobpiclllaaGreatDoor.PFnRespScan
attribute [local go_sem] max2_int min2_int max_two min_two max_three min_three max_four min_four
set_option linter.unusedVariables false
set_option linter.unusedSimpArgs false
attribute [local go_sem] f64bits_run

def GotPost (kind : Int) (b : Bool) (i f : Int) (s : ByteArray) (w : World) (x : Ending) (w' : World) : Prop := x = .returned (.tuple #[.agg (gotc kind b i f s), .bool true]) ∧ Below w.heap.size w w'

set_option maxHeartbeats 4000000 in
set_option maxRecDepth 100000 in
theorem got_str (c : ByteArray) (w : World) : Calls Tryz.prog 23 #[.iface 9 (.string c)] w (GotPost 1 false 0 0 c w) := by
  have ta9 : ∀ w, (Instr.typeAssert (.iface 9 (.string c)) 20 9 true).run Tryz.prog w = .ok (.tuple #[.string c, .bool true]) w := fun w => by kernel_rfl
  go_enter Tryz.func23, Tryz.ntmps23
  go_wp2_with fail
  refine bodyPost_ret (results_cell2 rfl _ _ w.heap.size 30 (gotc 1 false 0 0 c) (0, 0) _ rfl (heap_alloc_new _ _) Tryz.underlying30 rfl (by kernel_rfl)) rfl ?_
  exact ⟨rfl, ((Mods.refl (fun _ => False) w).alloc _).below⟩

set_option maxHeartbeats 4000000 in
set_option maxRecDepth 100000 in
theorem got_int (n : Int) (w : World) : Calls Tryz.prog 23 #[.iface 2 (.int .i64 n)] w (GotPost 2 false n 0 ⟨#[]⟩ w) := by
  have ta9 : ∀ w, (Instr.typeAssert (.iface 2 (.int .i64 n)) 20 9 true).run Tryz.prog w = .ok (.tuple #[.string ⟨#[]⟩, .bool false]) w := fun w => by kernel_rfl
  have ta2 : ∀ w, (Instr.typeAssert (.iface 2 (.int .i64 n)) 20 2 true).run Tryz.prog w = .ok (.tuple #[.int .i64 n, .bool true]) w := fun w => by kernel_rfl
  go_enter Tryz.func23, Tryz.ntmps23
  go_wp2_with fail
  refine bodyPost_ret (results_cell2 rfl _ _ w.heap.size 30 (gotc 2 false n 0 ⟨#[]⟩) (0, 0) _ rfl (heap_alloc_new _ _) Tryz.underlying30 rfl (by kernel_rfl)) rfl ?_
  exact ⟨rfl, ((Mods.refl (fun _ => False) w).alloc _).below⟩

set_option maxHeartbeats 4000000 in
set_option maxRecDepth 100000 in
theorem got_flt (y : Nat) (w : World) : Calls Tryz.prog 23 #[.iface 59 (.float .f64 y)] w (GotPost 3 false 0 y ⟨#[]⟩ w) := by
  have ta9 : ∀ w, (Instr.typeAssert (.iface 59 (.float .f64 y)) 20 9 true).run Tryz.prog w = .ok (.tuple #[.string ⟨#[]⟩, .bool false]) w := fun w => by kernel_rfl
  have ta2 : ∀ w, (Instr.typeAssert (.iface 59 (.float .f64 y)) 20 2 true).run Tryz.prog w = .ok (.tuple #[.int .i64 0, .bool false]) w := fun w => by kernel_rfl
  have ta59 : ∀ w, (Instr.typeAssert (.iface 59 (.float .f64 y)) 20 59 true).run Tryz.prog w = .ok (.tuple #[.float .f64 y, .bool true]) w := fun w => by kernel_rfl
  go_enter Tryz.func23, Tryz.ntmps23
  go_wp2_with fail
  refine bodyPost_ret (results_cell2 rfl _ _ w.heap.size 30 (gotc 3 false 0 y ⟨#[]⟩) (0, 0) _ rfl (heap_alloc_new _ _) Tryz.underlying30 rfl (by kernel_rfl)) rfl ?_
  exact ⟨rfl, ((Mods.refl (fun _ => False) w).alloc _).below⟩

set_option maxHeartbeats 4000000 in
set_option maxRecDepth 100000 in
theorem got_bool (b : Bool) (w : World) : Calls Tryz.prog 23 #[.iface 4 (.bool b)] w (GotPost 4 b 0 0 ⟨#[]⟩ w) := by
  have ta9 : ∀ w, (Instr.typeAssert (.iface 4 (.bool b)) 20 9 true).run Tryz.prog w = .ok (.tuple #[.string ⟨#[]⟩, .bool false]) w := fun w => by kernel_rfl
  have ta2 : ∀ w, (Instr.typeAssert (.iface 4 (.bool b)) 20 2 true).run Tryz.prog w = .ok (.tuple #[.int .i64 0, .bool false]) w := fun w => by kernel_rfl
  have ta59 : ∀ w, (Instr.typeAssert (.iface 4 (.bool b)) 20 59 true).run Tryz.prog w = .ok (.tuple #[.float .f64 0, .bool false]) w := fun w => by kernel_rfl
  have ta4 : ∀ w, (Instr.typeAssert (.iface 4 (.bool b)) 20 4 true).run Tryz.prog w = .ok (.tuple #[.bool b, .bool true]) w := fun w => by kernel_rfl
  go_enter Tryz.func23, Tryz.ntmps23
  go_wp2_with fail
  refine bodyPost_ret (results_cell2 rfl _ _ w.heap.size 30 (gotc 4 b 0 0 ⟨#[]⟩) (0, 0) _ rfl (heap_alloc_new _ _) Tryz.underlying30 rfl (by kernel_rfl)) rfl ?_
  exact ⟨rfl, ((Mods.refl (fun _ => False) w).alloc _).below⟩
end
end Go.Proofs.YtohadobpiclllaaGreatDoor
