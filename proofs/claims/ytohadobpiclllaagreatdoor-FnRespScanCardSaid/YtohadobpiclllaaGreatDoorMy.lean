/- The law's sanity check: one is packed as itself, and foo has the slot that all know. The table of slots, at the three bytes that foo comes to. The law's sanity check is true in every world. -/
import Derived.Test.YtohadobpiclllaaGreatDoorMx
namespace Go.Proofs.YtohadobpiclllaaGreatDoor
section
open Go.RowKit Go.Proofs.YtohadobpiclllaaGreatDoorW.PrintWords Go.Proofs.YtohadobpiclllaaGreatDoorW.PrintMore Go.Proofs.YtohadobpiclllaaGreatDoorW.PrintLast Go.Proofs.YtohadobpiclllaaGreatDoor.PFnRespScan
attribute [local go_sem] max2_int min2_int max_two min_two max_three min_three max_four min_four
set_option linter.unusedVariables false
set_option linter.unusedSimpArgs false

theorem row_reads (w : World) (bs : List Int) (vs : Array Value) (hvs : vs = (nums .u8 bs).toArray) (n : Nat) (hn : bs.length = n) (hl : n ≤ 1000) : ReadsInt (w.alloc (.cells vs 5)) .u8 (some ⟨w.heap.size, 0, none⟩) n bs := by
  subst hvs
  refine ⟨hn, by omega, fun _ => ⟨_, rfl, fun j hj => ?_⟩⟩
  rw [add_plain, cell_of_row _ _ j _ 5 (0, 0) (heap_alloc_new w _)]
  simp [nums, List.getD, show j < bs.length by omega]

theorem info5 : (Tryz.prog.info? 5).map (fun i => (i.zero, i.size, i.bytes)) = some (some (.int .u8 0), 1, 1) := by kernel_rfl

/-- A packer's two cells. -/
def Pk (w : World) (p : Nat) (v : Value) : Prop := w.heap[p]? = some (.cells #[v, .nilIface] 107 (0, 0))

set_option maxHeartbeats 4000000 in
set_option maxRecDepth 100000 in
theorem begin_calls (w : World) (p : Nat) (h : Pk w p (.slice none 0 0)) :
    Calls Tryz.prog 43 #[.pointer (some ⟨p, 0, none⟩), .slice none 0 0] w fun e w' => e = .returned (.tuple #[]) ∧ Aside0 (Pk w' p (.slice none 0 0)) ∧ Aside0 (Mods (· = p) w w') := by
  have hcz0 : w.cell? ⟨p, 0, none⟩ = some (.slice none 0 0) := (blk_cell h 0).trans rfl
  have hcz1 : w.cell? ⟨p, 1, none⟩ = some .nilIface := (blk_cell h 1).trans rfl
  have hfz0 : w.frozen? ⟨p, 0, none⟩ = false := blk_frozen h 0
  have hfz1 : w.frozen? ⟨p, 1, none⟩ = false := blk_frozen h 1
  have H := Aside0.mk h
  clear h
  go_enter Tryz.func43, Tryz.ntmps43
  go_wp2
  go_end0
  exact ⟨rfl, ⟨blk_set (blk_set H.out 0 _) 1 _⟩, ⟨((Mods.refl (· = p) w).setCell (p := ⟨p, 0, none⟩) (.inl rfl) _).setCell (p := ⟨p, 1, none⟩) (.inl rfl) _⟩⟩

/-- What Int64 leaves of a packer. -/
def Int64Post (w : World) (p : Nat) (e : Ending) (w' : World) : Prop :=
  e = .returned (.tuple #[]) ∧ ∃ v, w'.ownsRow w.heap.size 5 1 v 1 (nums .u8 [1]) ∧ Pk w' p v ∧ Mods (· = p) w w'

set_option maxHeartbeats 4000000 in
set_option maxRecDepth 100000 in
theorem int64_calls (w : World) (p : Nat) (h : Pk w p (.slice none 0 0)) :
    Calls Tryz.prog 58 #[.pointer (some ⟨p, 0, none⟩), .int .i64 1] w (Int64Post w p) := by
  have hcz0 : w.cell? ⟨p, 0, none⟩ = some (.slice none 0 0) := (blk_cell h 0).trans rfl
  have hfz0 : w.frozen? ⟨p, 0, none⟩ = false := blk_frozen h 0
  have hps : p < w.heap.size := blk_lt h
  have H := Aside0.mk h
  clear h
  go_enter Tryz.func58, Tryz.ntmps58
  go_wp2_with (with_reducible refine print_append_row (w0 := w) w.heap.size rfl (.tmp 32) (.tmp 35) 44 5 .u8 1 rfl Tryz.underlying44 info5 (by decide) (.slice none 0 0) [] [1] (some ⟨w.heap.size, 0, none⟩) 1 1 rfl rfl (World.ownsRow_nil _ _ _ _) (row_reads w [1] #[.int .u8 1] rfl 1 rfl (by omega)) (below_alloc (Below.refl _ _) _) (by simp) (by simp) ?_)
  intro v1 w1 hown hb hg hat
  obtain ⟨A1, c1, rfl⟩ := own_slice hown
  have hv1 : Pk w1 p (.slice none 0 0) := blk_below H.out hb
  have hfz1 := blk_frozen hv1 0
  have hcz1 : w1.cell? ⟨p, 0, none⟩ = some (.slice none 0 0) := (blk_cell hv1 0).trans rfl
  have HV1 := Aside0.mk hv1
  have HO1 := Aside0.mk hown
  have HB1 := Aside0.mk hb
  clear hown hb hg hat hv1
  go_wp2
  go_end0
  refine ⟨rfl, _, ?_, blk_set HV1.out 0 _, ((Mods.of_below HB1.out).mono (S' := (· = p)) (fun _ _ h => h.elim)).setCell (p := ⟨p, 0, none⟩) (.inl rfl) _⟩
  exact own_setCell (p := ⟨p, 0, none⟩) HO1.out (fun e => by have := own_base HO1.out p e.symm; omega) _

/-- What pack leaves of a packer at the number one. -/
def PackPost (w : World) (p : Nat) (e : Ending) (w' : World) : Prop :=
  e = .returned (.bool true) ∧ ∃ v, w'.ownsRow w.heap.size 5 1 v 1 (nums .u8 [1]) ∧ Pk w' p v ∧ Mods (· = p) w w'

set_option maxHeartbeats 4000000 in
set_option maxRecDepth 100000 in
theorem pack_calls (w : World) (p : Nat) (h : Pk w p (.slice none 0 0)) :
    Calls Tryz.prog 44 #[.pointer (some ⟨p, 0, none⟩), .agg #[.int .i64 2, .bool false, .int .i64 1, .int .u64 0, .string ⟨#[]⟩, .slice none 0 0, .slice none 0 0], .int .i64 0] w (PackPost w p) := by
  have hps : p < w.heap.size := blk_lt h
  have H := Aside0.mk h
  clear h
  go_enter Tryz.func44, Tryz.ntmps44
  go_upto_region 1 with fail
  obtain ⟨o, ho⟩ : ∃ o, o = Obj.cells #[.int .i64 2, .bool false, .int .i64 1, .int .u64 0, .string ⟨#[]⟩, .slice none 0 0, .slice none 0 0] 70 := ⟨_, rfl⟩
  obtain ⟨W1, hW1⟩ : ∃ W1, W1 = w.alloc o := ⟨_, rfl⟩
  obtain ⟨g, hg⟩ : ∃ g, g = w.heap.size := ⟨_, rfl⟩
  have hM1 : Mods (fun _ => False) w W1 := by rw [hW1]; exact (Mods.refl _ w).alloc _
  have hbk : W1.heap[g]? = some o := by rw [hW1, hg]; exact heap_alloc_new _ _
  have hz1 : w.heap.size ≤ W1.heap.size := hM1.size
  rw [← ho, ← hW1, ← hg]
  have hgp : g ≠ p := by omega
  have hP1 : Pk W1 p (.slice none 0 0) := hM1.blk H.out id
  subst ho
  have hcz0 : W1.cell? ⟨g, 0, none⟩ = some (.int .i64 2) := (blk_cell hbk 0).trans rfl
  have hcz2 : W1.cell? ⟨g, 2, none⟩ = some (.int .i64 1) := (blk_cell hbk 2).trans rfl
  have HI := Aside0.mk (int64_calls W1 p hP1)
  have HK := Aside0.mk hbk
  have HM := Aside0.mk hM1
  have HG := Aside0.mk hg
  clear hW1 hg hM1 hbk hP1
  go_wp2_with fail
  refine HI.out.mono ?_
  rintro e w2 ⟨rfl, v, hO, hP, hM⟩
  have hbk2 : w2.heap[g]? = some _ := hM.blk HK.out hgp
  have hd0 : w2.cell? ⟨g, 0, none⟩ = some (.int .i64 2) := (blk_cell hbk2 0).trans rfl
  have hd6 : w2.cell? ⟨g, 6, none⟩ = some (.slice none 0 0) := (blk_cell hbk2 6).trans rfl
  have HO := Aside0.mk hO
  have HP := Aside0.mk hP
  have HM2 := Aside0.mk hM
  clear hO hP hM hbk2
  go_wp2
  go_ret
  exact ⟨rfl, v, own_weaken HO.out hz1, HP.out, (HM.out.mono (S' := (· = p)) (fun _ _ h => h.elim)).trans HM2.out (fun _ _ h => h)⟩

set_option maxHeartbeats 4000000 in
set_option maxRecDepth 100000 in
theorem end_calls (w : World) (p : Nat) (v : Value) (h : Pk w p v) :
    Calls Tryz.prog 65 #[.pointer (some ⟨p, 0, none⟩)] w fun e w' => e = .returned (.tuple #[v, .nilIface]) ∧ ∃ n, w' = w.drewN n := by
  have hcz0 : w.cell? ⟨p, 0, none⟩ = some v := (blk_cell h 0).trans rfl
  have hcz1 : w.cell? ⟨p, 1, none⟩ = some .nilIface := (blk_cell h 1).trans rfl
  clear h
  go_enter Tryz.func65, Tryz.ntmps65
  go_wp2_with fail
  go_quiet (fail)
  go_wp2
  go_ret2
  exact ⟨rfl, _, rfl⟩

set_option maxHeartbeats 4000000 in
set_option maxRecDepth 100000 in
theorem ended_calls (w : World) (p B : Nat) (v : Value) (h : Pk w p v) (hO : w.ownsRow B 5 1 v 1 (nums .u8 [1])) :
    Calls Tryz.prog 45 #[.pointer (some ⟨p, 0, none⟩)] w fun e w' => e = .returned (.tuple #[.string ⟨#[1]⟩, .int .i64 0]) ∧ ∃ n, w' = w.drewN n := by
  have H := Aside0.mk h
  have HO := Aside0.mk hO
  clear h hO
  have hcv : ∀ n, (convert 44 9 v).run Tryz.prog (w.drewN n) = .ok (.string (strOfNums [1])) (w.drewN n) := fun n => own_string (P := Tryz.prog) Tryz.underlying44 Tryz.underlying5 Tryz.underlying9 (show (w.drewN n).ownsRow _ 5 1 v _ (nums .u8 [1]) from HO.out)
  have es : strOfNums [1] = ⟨#[1]⟩ := by decide
  rw [es] at hcv
  clear es
  go_enter Tryz.func45, Tryz.ntmps45
  go_wp2_with fail
  refine (end_calls w p v H.out).mono ?_
  rintro e w1 ⟨rfl, n, rfl⟩
  go_wp2
  go_ret2
  exact ⟨rfl, _, rfl⟩

/-- What Pack answers at the number one. -/
def OnePost (w : World) (e : Ending) (w' : World) : Prop := e = .returned (.tuple #[.string ⟨#[1]⟩, .int .i64 0]) ∧ Below w.heap.size w w'

set_option maxHeartbeats 4000000 in
set_option maxRecDepth 100000 in
theorem one_calls (w : World) :
    Calls Tryz.prog 25 #[.agg #[.int .i64 2, .bool false, .int .i64 1, .int .u64 0, .string ⟨#[]⟩, .slice none 0 0, .slice none 0 0]] w (OnePost w) := by
  go_enter Tryz.func25, Tryz.ntmps25
  go_upto_region 2 with fail
  obtain ⟨o, ho⟩ : ∃ o, o = Obj.cells #[.int .i64 2, .bool false, .int .i64 1, .int .u64 0, .string ⟨#[]⟩, .slice none 0 0, .slice none 0 0] 70 := ⟨_, rfl⟩
  obtain ⟨g, hg⟩ : ∃ g, g = w.heap.size := ⟨_, rfl⟩
  obtain ⟨W1, hW1⟩ : ∃ W1, W1 = (w.alloc o).alloc (.cells #[.slice none 0 0, .nilIface] 107) := ⟨_, rfl⟩
  have hM1 : Mods (fun _ => False) w W1 := by rw [hW1]; exact ((Mods.refl _ w).alloc _).alloc _
  have hbk : W1.heap[g]? = some o := by rw [hW1, hg, heap_alloc_old _ _ (by simp)]; exact heap_alloc_new _ _
  have hP1 : Pk W1 (g + 1) (.slice none 0 0) := by
    rw [hW1, hg]; have := heap_alloc_new (w.alloc o) (.cells #[.slice none 0 0, .nilIface] 107); simpa [Pk] using this
  rw [← ho, ← hW1, ← hg]
  have HO := Aside0.mk ho
  have HK := Aside0.mk hbk
  have HM := Aside0.mk hM1
  have HG := Aside0.mk hg
  have HBG := Aside0.mk (begin_calls W1 (g + 1) hP1)
  clear hW1 hg hM1 hbk hP1
  go_wp2_with fail
  refine HBG.out.mono ?_
  rintro e w2 ⟨rfl, HP2, HM2⟩
  have hbk2 : w2.heap[g]? = some _ := (HM2.out.blk HK.out (by omega)).trans (by rw [HO.out])
  have hd0 : w2.cell? ⟨g, 0, none⟩ = some (.int .i64 2) := (blk_cell hbk2 0).trans rfl
  have hd1 : w2.cell? ⟨g, 1, none⟩ = some (.bool false) := (blk_cell hbk2 1).trans rfl
  have hd2 : w2.cell? ⟨g, 2, none⟩ = some (.int .i64 1) := (blk_cell hbk2 2).trans rfl
  have hd3 : w2.cell? ⟨g, 3, none⟩ = some (.int .u64 0) := (blk_cell hbk2 3).trans rfl
  have hd4 : w2.cell? ⟨g, 4, none⟩ = some (.string ⟨#[]⟩) := (blk_cell hbk2 4).trans rfl
  have hd5 : w2.cell? ⟨g, 5, none⟩ = some (.slice none 0 0) := (blk_cell hbk2 5).trans rfl
  have hd6 : w2.cell? ⟨g, 6, none⟩ = some (.slice none 0 0) := (blk_cell hbk2 6).trans rfl
  have HPC := Aside0.mk (pack_calls w2 (g + 1) HP2.out)
  clear hbk2
  go_wp2_with fail
  refine HPC.out.mono ?_
  rintro e w3 ⟨rfl, v, hO, hP, hM⟩
  have HE := Aside0.mk (ended_calls w3 (g + 1) _ v hP hO)
  have HM3 := Aside0.mk hM
  clear hO hP hM hd0 hd1 hd2 hd3 hd4 hd5 hd6
  go_wp2_with fail
  refine HE.out.mono ?_
  rintro e w4 ⟨rfl, n, rfl⟩
  go_wp2
  go_ret2
  have h1 : Mods (fun k => k = g + 1) w w3 := ((HM.out.mono (S' := fun k => k = g + 1) (fun _ _ h => h.elim)).trans HM2.out (fun _ _ h => h)).trans HM3.out (fun _ _ h => h)
  have h2 : Mods (fun _ => False) w w3 := h1.mono (fun i hi e => by have := HG.out; omega)
  exact ⟨rfl, pw_below_drewN h2.below n⟩
end

section
open Go.RowKit Go.Proofs.YtohadobpiclllaaGreatDoorW.PrintWords Go.Proofs.YtohadobpiclllaaGreatDoorW.PrintMore Go.Proofs.YtohadobpiclllaaGreatDoorW.PrintLast
attribute [local go_sem] max2_int min2_int max_two min_two max_three min_three max_four min_four
set_option linter.unusedVariables false
set_option linter.unusedSimpArgs false

set_option maxHeartbeats 4000000 in
set_option maxRecDepth 100000 in
theorem crc_102 (w : World) :
    Calls Tryz.prog 88 #[.int .u8 102] w fun e w' => e = .returned (.int .u16 3168) ∧ ∃ n, w' = w.drewN n := by
  go_enter Tryz.func88, Tryz.ntmps88
  generalize hT : (ByteArray.mk ((([0, 0, 16, 33, 32, 66, 48, 99, 64, 132, 80, 165, 96, 198, 112, 231, 129, 8, 145, 41, 161, 74, 177, 107, 193, 140, 209, 173, 225, 206, 241, 239, 18, 49, 2, 16, 50, 115, 34, 82, 82, 181, 66, 148, 114, 247, 98, 214, 147, 57, 131, 24, 179, 123, 163, 90, 211, 189, 195, 156, 243, 255, 227, 222].append [36, 98, 52, 67, 4, 32, 20, 1, 100, 230, 116, 199, 68, 164, 84, 133, 165, 106, 181, 75, 133, 40, 149, 9, 229, 238, 245, 207, 197, 172, 213, 141, 54, 83, 38, 114, 22, 17, 6, 48, 118, 215, 102, 246, 86, 149, 70, 180, 183, 91, 167, 122, 151, 25, 135, 56, 247, 223, 231, 254, 215, 157, 199, 188]).append ([72, 196, 88, 229, 104, 134, 120, 167, 8, 64, 24, 97, 40, 2, 56, 35, 201, 204, 217, 237, 233, 142, 249, 175, 137, 72, 153, 105, 169, 10, 185, 43, 90, 245, 74, 212, 122, 183, 106, 150, 26, 113, 10, 80, 58, 51, 42, 18, 219, 253, 203, 220, 251, 191, 235, 158, 155, 121, 139, 88, 187, 59, 171, 26].append [108, 166, 124, 135, 76, 228, 92, 197, 44, 34, 60, 3, 12, 96, 28, 65, 237, 174, 253, 143, 205, 236, 221, 205, 173, 42, 189, 11, 141, 104, 157, 73, 126, 151, 110, 182, 94, 213, 78, 244, 62, 19, 46, 50, 30, 81, 14, 112, 255, 159, 239, 190, 223, 221, 207, 252, 191, 27, 175, 58, 159, 89, 143, 120])).append (([145, 136, 129, 169, 177, 202, 161, 235, 209, 12, 193, 45, 241, 78, 225, 111, 16, 128, 0, 161, 48, 194, 32, 227, 80, 4, 64, 37, 112, 70, 96, 103, 131, 185, 147, 152, 163, 251, 179, 218, 195, 61, 211, 28, 227, 127, 243, 94, 2, 177, 18, 144, 34, 243, 50, 210, 66, 53, 82, 20, 98, 119, 114, 86].append [181, 234, 165, 203, 149, 168, 133, 137, 245, 110, 229, 79, 213, 44, 197, 13, 52, 226, 36, 195, 20, 160, 4, 129, 116, 102, 100, 71, 84, 36, 68, 5, 167, 219, 183, 250, 135, 153, 151, 184, 231, 95, 247, 126, 199, 29, 215, 60, 38, 211, 54, 242, 6, 145, 22, 176, 102, 87, 118, 118, 70, 21, 86, 52]).append ([217, 76, 201, 109, 249, 14, 233, 47, 153, 200, 137, 233, 185, 138, 169, 171, 88, 68, 72, 101, 120, 6, 104, 39, 24, 192, 8, 225, 56, 130, 40, 163, 203, 125, 219, 92, 235, 63, 251, 30, 139, 249, 155, 216, 171, 187, 187, 154, 74, 117, 90, 84, 106, 55, 122, 22, 10, 241, 26, 208, 42, 179, 58, 146].append [253, 46, 237, 15, 221, 108, 205, 77, 189, 170, 173, 139, 157, 232, 141, 201, 124, 38, 108, 7, 92, 100, 76, 69, 60, 162, 44, 131, 28, 224, 12, 193, 239, 31, 255, 62, 207, 93, 223, 124, 175, 155, 191, 186, 143, 217, 159, 248, 110, 23, 126, 54, 78, 85, 94, 116, 46, 147, 62, 178, 14, 209, 30, 240]))).toArray) = T
  have e1 : ∀ w, (Instr.index 9 (.string T) (.int .i64 204)).run Tryz.prog w = .ok (.int .u8 12) w := fun w => by rw [← hT]; kernel_rfl
  have e2 : ∀ w, (Instr.index 9 (.string T) (.int .i64 205)).run Tryz.prog w = .ok (.int .u8 96) w := fun w => by rw [← hT]; kernel_rfl
  clear hT
  go_wp2_with fail
  go_quiet (fail)
  go_wp2
  go_ret
  exact ⟨rfl, _, rfl⟩

set_option maxHeartbeats 4000000 in
set_option maxRecDepth 100000 in
theorem crc_99 (w : World) :
    Calls Tryz.prog 88 #[.int .u8 99] w fun e w' => e = .returned (.int .u16 23749) ∧ ∃ n, w' = w.drewN n := by
  go_enter Tryz.func88, Tryz.ntmps88
  generalize hT : (ByteArray.mk ((([0, 0, 16, 33, 32, 66, 48, 99, 64, 132, 80, 165, 96, 198, 112, 231, 129, 8, 145, 41, 161, 74, 177, 107, 193, 140, 209, 173, 225, 206, 241, 239, 18, 49, 2, 16, 50, 115, 34, 82, 82, 181, 66, 148, 114, 247, 98, 214, 147, 57, 131, 24, 179, 123, 163, 90, 211, 189, 195, 156, 243, 255, 227, 222].append [36, 98, 52, 67, 4, 32, 20, 1, 100, 230, 116, 199, 68, 164, 84, 133, 165, 106, 181, 75, 133, 40, 149, 9, 229, 238, 245, 207, 197, 172, 213, 141, 54, 83, 38, 114, 22, 17, 6, 48, 118, 215, 102, 246, 86, 149, 70, 180, 183, 91, 167, 122, 151, 25, 135, 56, 247, 223, 231, 254, 215, 157, 199, 188]).append ([72, 196, 88, 229, 104, 134, 120, 167, 8, 64, 24, 97, 40, 2, 56, 35, 201, 204, 217, 237, 233, 142, 249, 175, 137, 72, 153, 105, 169, 10, 185, 43, 90, 245, 74, 212, 122, 183, 106, 150, 26, 113, 10, 80, 58, 51, 42, 18, 219, 253, 203, 220, 251, 191, 235, 158, 155, 121, 139, 88, 187, 59, 171, 26].append [108, 166, 124, 135, 76, 228, 92, 197, 44, 34, 60, 3, 12, 96, 28, 65, 237, 174, 253, 143, 205, 236, 221, 205, 173, 42, 189, 11, 141, 104, 157, 73, 126, 151, 110, 182, 94, 213, 78, 244, 62, 19, 46, 50, 30, 81, 14, 112, 255, 159, 239, 190, 223, 221, 207, 252, 191, 27, 175, 58, 159, 89, 143, 120])).append (([145, 136, 129, 169, 177, 202, 161, 235, 209, 12, 193, 45, 241, 78, 225, 111, 16, 128, 0, 161, 48, 194, 32, 227, 80, 4, 64, 37, 112, 70, 96, 103, 131, 185, 147, 152, 163, 251, 179, 218, 195, 61, 211, 28, 227, 127, 243, 94, 2, 177, 18, 144, 34, 243, 50, 210, 66, 53, 82, 20, 98, 119, 114, 86].append [181, 234, 165, 203, 149, 168, 133, 137, 245, 110, 229, 79, 213, 44, 197, 13, 52, 226, 36, 195, 20, 160, 4, 129, 116, 102, 100, 71, 84, 36, 68, 5, 167, 219, 183, 250, 135, 153, 151, 184, 231, 95, 247, 126, 199, 29, 215, 60, 38, 211, 54, 242, 6, 145, 22, 176, 102, 87, 118, 118, 70, 21, 86, 52]).append ([217, 76, 201, 109, 249, 14, 233, 47, 153, 200, 137, 233, 185, 138, 169, 171, 88, 68, 72, 101, 120, 6, 104, 39, 24, 192, 8, 225, 56, 130, 40, 163, 203, 125, 219, 92, 235, 63, 251, 30, 139, 249, 155, 216, 171, 187, 187, 154, 74, 117, 90, 84, 106, 55, 122, 22, 10, 241, 26, 208, 42, 179, 58, 146].append [253, 46, 237, 15, 221, 108, 205, 77, 189, 170, 173, 139, 157, 232, 141, 201, 124, 38, 108, 7, 92, 100, 76, 69, 60, 162, 44, 131, 28, 224, 12, 193, 239, 31, 255, 62, 207, 93, 223, 124, 175, 155, 191, 186, 143, 217, 159, 248, 110, 23, 126, 54, 78, 85, 94, 116, 46, 147, 62, 178, 14, 209, 30, 240]))).toArray) = T
  have e1 : ∀ w, (Instr.index 9 (.string T) (.int .i64 198)).run Tryz.prog w = .ok (.int .u8 92) w := fun w => by rw [← hT]; kernel_rfl
  have e2 : ∀ w, (Instr.index 9 (.string T) (.int .i64 199)).run Tryz.prog w = .ok (.int .u8 197) w := fun w => by rw [← hT]; kernel_rfl
  clear hT
  go_wp2_with fail
  go_quiet (fail)
  go_wp2
  go_ret
  exact ⟨rfl, _, rfl⟩

set_option maxHeartbeats 4000000 in
set_option maxRecDepth 100000 in
theorem crc_83 (w : World) :
    Calls Tryz.prog 88 #[.int .u8 83] w fun e w' => e = .returned (.int .u16 27286) ∧ ∃ n, w' = w.drewN n := by
  go_enter Tryz.func88, Tryz.ntmps88
  generalize hT : (ByteArray.mk ((([0, 0, 16, 33, 32, 66, 48, 99, 64, 132, 80, 165, 96, 198, 112, 231, 129, 8, 145, 41, 161, 74, 177, 107, 193, 140, 209, 173, 225, 206, 241, 239, 18, 49, 2, 16, 50, 115, 34, 82, 82, 181, 66, 148, 114, 247, 98, 214, 147, 57, 131, 24, 179, 123, 163, 90, 211, 189, 195, 156, 243, 255, 227, 222].append [36, 98, 52, 67, 4, 32, 20, 1, 100, 230, 116, 199, 68, 164, 84, 133, 165, 106, 181, 75, 133, 40, 149, 9, 229, 238, 245, 207, 197, 172, 213, 141, 54, 83, 38, 114, 22, 17, 6, 48, 118, 215, 102, 246, 86, 149, 70, 180, 183, 91, 167, 122, 151, 25, 135, 56, 247, 223, 231, 254, 215, 157, 199, 188]).append ([72, 196, 88, 229, 104, 134, 120, 167, 8, 64, 24, 97, 40, 2, 56, 35, 201, 204, 217, 237, 233, 142, 249, 175, 137, 72, 153, 105, 169, 10, 185, 43, 90, 245, 74, 212, 122, 183, 106, 150, 26, 113, 10, 80, 58, 51, 42, 18, 219, 253, 203, 220, 251, 191, 235, 158, 155, 121, 139, 88, 187, 59, 171, 26].append [108, 166, 124, 135, 76, 228, 92, 197, 44, 34, 60, 3, 12, 96, 28, 65, 237, 174, 253, 143, 205, 236, 221, 205, 173, 42, 189, 11, 141, 104, 157, 73, 126, 151, 110, 182, 94, 213, 78, 244, 62, 19, 46, 50, 30, 81, 14, 112, 255, 159, 239, 190, 223, 221, 207, 252, 191, 27, 175, 58, 159, 89, 143, 120])).append (([145, 136, 129, 169, 177, 202, 161, 235, 209, 12, 193, 45, 241, 78, 225, 111, 16, 128, 0, 161, 48, 194, 32, 227, 80, 4, 64, 37, 112, 70, 96, 103, 131, 185, 147, 152, 163, 251, 179, 218, 195, 61, 211, 28, 227, 127, 243, 94, 2, 177, 18, 144, 34, 243, 50, 210, 66, 53, 82, 20, 98, 119, 114, 86].append [181, 234, 165, 203, 149, 168, 133, 137, 245, 110, 229, 79, 213, 44, 197, 13, 52, 226, 36, 195, 20, 160, 4, 129, 116, 102, 100, 71, 84, 36, 68, 5, 167, 219, 183, 250, 135, 153, 151, 184, 231, 95, 247, 126, 199, 29, 215, 60, 38, 211, 54, 242, 6, 145, 22, 176, 102, 87, 118, 118, 70, 21, 86, 52]).append ([217, 76, 201, 109, 249, 14, 233, 47, 153, 200, 137, 233, 185, 138, 169, 171, 88, 68, 72, 101, 120, 6, 104, 39, 24, 192, 8, 225, 56, 130, 40, 163, 203, 125, 219, 92, 235, 63, 251, 30, 139, 249, 155, 216, 171, 187, 187, 154, 74, 117, 90, 84, 106, 55, 122, 22, 10, 241, 26, 208, 42, 179, 58, 146].append [253, 46, 237, 15, 221, 108, 205, 77, 189, 170, 173, 139, 157, 232, 141, 201, 124, 38, 108, 7, 92, 100, 76, 69, 60, 162, 44, 131, 28, 224, 12, 193, 239, 31, 255, 62, 207, 93, 223, 124, 175, 155, 191, 186, 143, 217, 159, 248, 110, 23, 126, 54, 78, 85, 94, 116, 46, 147, 62, 178, 14, 209, 30, 240]))).toArray) = T
  have e1 : ∀ w, (Instr.index 9 (.string T) (.int .i64 166)).run Tryz.prog w = .ok (.int .u8 106) w := fun w => by rw [← hT]; kernel_rfl
  have e2 : ∀ w, (Instr.index 9 (.string T) (.int .i64 167)).run Tryz.prog w = .ok (.int .u8 150) w := fun w => by rw [← hT]; kernel_rfl
  clear hT
  go_wp2_with fail
  go_quiet (fail)
  go_wp2
  go_ret
  exact ⟨rfl, _, rfl⟩
end

section
open Go.RowKit Go.Proofs.YtohadobpiclllaaGreatDoorW.PrintWords Go.Proofs.YtohadobpiclllaaGreatDoorW.PrintMore Go.Proofs.YtohadobpiclllaaGreatDoorW.PrintLast Go.Proofs.YtohadobpiclllaaGreatDoor.PFnRespScan
attribute [local go_sem] max2_int min2_int max_two min_two max_three min_three max_four min_four
set_option linter.unusedVariables false
set_option linter.unusedSimpArgs false

set_option maxHeartbeats 4000000 in
set_option maxRecDepth 100000 in
theorem crcsum_calls (w : World) :
    Calls Tryz.prog 67 #[.string ⟨#[102, 111, 111]⟩] w fun e w' => e = .returned (.int .u16 44950) ∧ ∃ n, w' = w.drewN n := by
  obtain ⟨T, hT⟩ : ∃ T : ByteArray, T = ⟨#[102, 111, 111]⟩ := ⟨_, rfl⟩
  have hs : T.size = 3 := by rw [hT]; rfl
  have e0 : ∀ w, (Instr.index 9 (.string T) (.int .i64 0)).run Tryz.prog w = .ok (.int .u8 102) w := fun w => by rw [hT]; kernel_rfl
  have e1 : ∀ w, (Instr.index 9 (.string T) (.int .i64 1)).run Tryz.prog w = .ok (.int .u8 111) w := fun w => by rw [hT]; kernel_rfl
  have e2 : ∀ w, (Instr.index 9 (.string T) (.int .i64 2)).run Tryz.prog w = .ok (.int .u8 111) w := fun w => by rw [hT]; kernel_rfl
  have b0 : Go.bits .and .u8 (Go.bits .xor .u8 0 102) 255 = 102 := by decide
  rw [← hT]
  clear hT
  go_enter Tryz.func67, Tryz.ntmps67
  go_wp2_with fail
  refine wp_loop_rounds 4 ?_
  rw [rounds_succ]
  go_wp2_with fail
  refine (crc_102 _).mono ?_
  rintro e w1 ⟨rfl, n1, rfl⟩
  go_wp2_with fail
  rw [rounds_succ]
  go_wp2_with fail
  refine (crc_99 _).mono ?_
  rintro e w1 ⟨rfl, n2, rfl⟩
  go_wp2_with fail
  rw [rounds_succ]
  go_wp2_with fail
  refine (crc_83 _).mono ?_
  rintro e w1 ⟨rfl, n3, rfl⟩
  go_wp2_with fail
  rw [rounds_succ]
  go_wp2_with fail
  go_ret
  exact ⟨congrArg (fun z => Ending.returned (.int .u16 z)) (show _ = (44950 : Int) by decide), _, rfl⟩

set_option maxHeartbeats 4000000 in
set_option maxRecDepth 100000 in
theorem key_calls (w : World) :
    Calls Tryz.prog 66 #[.string ⟨#[102, 111, 111]⟩] w fun e w' => e = .returned (.string ⟨#[102, 111, 111]⟩) ∧ w = w' := by
  have hi : Lib.indexByte (ByteArray.mk #[102, 111, 111]).data.toList (123 : Int).toNat.toUInt8 = -1 := by decide
  have H := Tryz.strings_IndexByte ⟨#[102, 111, 111]⟩ 123 w
  rw [hi] at H
  clear hi
  go_enter Tryz.func66, Tryz.ntmps66
  go_wp2_with fail
  refine H.mono ?_
  rintro e w' ⟨rfl, rfl⟩
  go_wp2
  go_ret
  exact ⟨rfl, rfl⟩

set_option maxHeartbeats 4000000 in
set_option maxRecDepth 100000 in
theorem hslot_calls (w : World) :
    Calls Tryz.prog 46 #[.string ⟨#[102, 111, 111]⟩] w fun e w' => e = .returned (.int .i64 12182) ∧ ∃ n, w' = w.drewN n := by
  go_enter Tryz.func46, Tryz.ntmps46
  go_wp2_with fail
  refine (key_calls w).mono ?_
  rintro e w' ⟨rfl, rfl⟩
  go_wp2_with fail
  refine (crcsum_calls w).mono ?_
  rintro e w' ⟨rfl, n, rfl⟩
  go_wp2
  go_ret
  exact ⟨rfl, _, rfl⟩

set_option maxHeartbeats 4000000 in
set_option maxRecDepth 100000 in
theorem slot_calls (w : World) :
    Calls Tryz.prog 26 #[.string ⟨#[102, 111, 111]⟩] w fun e w' => e = .returned (.int .i64 12182) ∧ ∃ n, w' = w.drewN n := by
  go_enter Tryz.func26, Tryz.ntmps26
  go_wp2_with fail
  refine (hslot_calls w).mono ?_
  rintro e w' ⟨rfl, n, rfl⟩
  go_wp2
  go_ret
  exact ⟨rfl, _, rfl⟩

set_option maxHeartbeats 4000000 in
set_option maxRecDepth 100000 in
theorem alive_calls (w : World) :
    Calls Tryz.prog 8 #[] w fun e w' => e = .returned (.bool true) ∧ Below w.heap.size w w' := by
  go_enter Tryz.func8, Tryz.ntmps8
  go_wp2_with fail
  refine (one_calls w).mono ?_
  rintro e w1 ⟨rfl, hb⟩
  have HB := Aside0.mk hb
  clear hb
  go_wp2_with fail
  refine (slot_calls w1).mono ?_
  rintro e w2 ⟨rfl, n, rfl⟩
  go_wp2
  go_ret
  exact ⟨rfl, pw_below_drewN HB.out n⟩
end
end Go.Proofs.YtohadobpiclllaaGreatDoor
