/- impl.scanned: numbers of every kind. The reference's Scan. -/
import Derived.Test.YtohadobpiclllaaGreatDoorMs
namespace Go.Proofs.YtohadobpiclllaaGreatDoor
section
open Go.RowKit Go.Proofs.YtohadobpiclllaaGreatDoorW.PrintWords Go.Proofs.YtohadobpiclllaaGreatDoorW.PrintMore Go.Proofs.YtohadobpiclllaaGreatDoorW.PrintLast Go.Proofs.YtohadobpiclllaaGreatDoor.PFnRespScan
attribute [local go_sem] max2_int min2_int max_two min_two max_three min_three max_four min_four
set_option linter.unusedVariables false
set_option linter.unusedSimpArgs false

theorem wrap64_is (n : Int) : wrap64 n = IntKind.i64.wrap n := by rw [IntKind.wrap_i64]; unfold wrap64; omega

set_option maxHeartbeats 4000000 in
set_option maxRecDepth 100000 in
theorem scanned_int (c : ByteArray) (A : Option Addr) (cap : Nat) (hs : c.size ≤ 1000) (w : World) (hE : Errs w) (hR : ReadsInt w .u8 A c.size (bytesOf c)) :
    Calls Tryz.prog 13 #[.slice A c.size cap] w (CPost (Lib.parseIntB 64 c.data.toList) w) := by
  have hM := (Mods.refl (fun _ => False) w).alloc (Obj.cells #[Value.int IntKind.i64 0] 3)
  have HS := Aside0.mk (scan_int c A cap w.heap.size _ hs _ (hE.mods hM) (hM.reads hR (fun _ _ h => h)) (heap_alloc_new w _))
  clear hE hR hM
  go_enter Tryz.func13, Tryz.ntmps13
  go_wp2_with fail
  refine HS.out.mono ?_
  rintro x w1 ⟨ev, z, rfl, hcz, h1, h2, hM⟩
  have HM := Aside0.mk (((Mods.refl (fun _ => False) w).alloc (Obj.cells #[Value.int IntKind.i64 0] 3)).trans hM (fun i hi e => absurd e (by omega)))
  have H1 := Aside0.mk h1
  have H2 := Aside0.mk h2
  clear h1 h2 hM
  go_wp2_with fail
  go_ret2
  refine ⟨_, _, rfl, fun u hu => ?_, H2.out, HM.out.below⟩
  obtain ⟨e1, e2⟩ := H1.out u hu
  refine ⟨?_, e1⟩
  exact e2

set_option maxHeartbeats 4000000 in
set_option maxRecDepth 100000 in
theorem scanned_i8 (c : ByteArray) (A : Option Addr) (cap : Nat) (hs : c.size ≤ 1000) (w : World) (hE : Errs w) (hR : ReadsInt w .u8 A c.size (bytesOf c)) :
    Calls Tryz.prog 14 #[.slice A c.size cap] w (CPost (Lib.parseIntB 8 c.data.toList) w) := by
  have hM := (Mods.refl (fun _ => False) w).alloc (Obj.cells #[Value.int IntKind.i8 0] 52)
  have HS := Aside0.mk (scan_i8 c A cap w.heap.size _ hs _ (hE.mods hM) (hM.reads hR (fun _ _ h => h)) (heap_alloc_new w _))
  clear hE hR hM
  go_enter Tryz.func14, Tryz.ntmps14
  go_wp2_with fail
  refine HS.out.mono ?_
  rintro x w1 ⟨ev, z, rfl, hcz, h1, h2, hM⟩
  have HM := Aside0.mk (((Mods.refl (fun _ => False) w).alloc (Obj.cells #[Value.int IntKind.i8 0] 52)).trans hM (fun i hi e => absurd e (by omega)))
  have H1 := Aside0.mk h1
  have H2 := Aside0.mk h2
  clear h1 h2 hM
  go_wp2_with fail
  go_ret2
  refine ⟨_, _, rfl, fun u hu => ?_, H2.out, HM.out.below⟩
  obtain ⟨e1, e2⟩ := H1.out u hu
  refine ⟨?_, e1⟩
  · rw [e2]
    have hb := intB_le hu
    have e3 : IntKind.i8.wrap u = u := by first | (rw [IntKind.wrap_i64]; omega) | (simp [IntKind.wrap, IntKind.bits, IntKind.signed]; omega)
    rw [e3]
    exact wrap64_is _

set_option maxHeartbeats 4000000 in
set_option maxRecDepth 100000 in
theorem scanned_i16 (c : ByteArray) (A : Option Addr) (cap : Nat) (hs : c.size ≤ 1000) (w : World) (hE : Errs w) (hR : ReadsInt w .u8 A c.size (bytesOf c)) :
    Calls Tryz.prog 15 #[.slice A c.size cap] w (CPost (Lib.parseIntB 16 c.data.toList) w) := by
  have hM := (Mods.refl (fun _ => False) w).alloc (Obj.cells #[Value.int IntKind.i16 0] 53)
  have HS := Aside0.mk (scan_i16 c A cap w.heap.size _ hs _ (hE.mods hM) (hM.reads hR (fun _ _ h => h)) (heap_alloc_new w _))
  clear hE hR hM
  go_enter Tryz.func15, Tryz.ntmps15
  go_wp2_with fail
  refine HS.out.mono ?_
  rintro x w1 ⟨ev, z, rfl, hcz, h1, h2, hM⟩
  have HM := Aside0.mk (((Mods.refl (fun _ => False) w).alloc (Obj.cells #[Value.int IntKind.i16 0] 53)).trans hM (fun i hi e => absurd e (by omega)))
  have H1 := Aside0.mk h1
  have H2 := Aside0.mk h2
  clear h1 h2 hM
  go_wp2_with fail
  go_ret2
  refine ⟨_, _, rfl, fun u hu => ?_, H2.out, HM.out.below⟩
  obtain ⟨e1, e2⟩ := H1.out u hu
  refine ⟨?_, e1⟩
  · rw [e2]
    have hb := intB_le hu
    have e3 : IntKind.i16.wrap u = u := by first | (rw [IntKind.wrap_i64]; omega) | (simp [IntKind.wrap, IntKind.bits, IntKind.signed]; omega)
    rw [e3]
    exact wrap64_is _

set_option maxHeartbeats 4000000 in
set_option maxRecDepth 100000 in
theorem scanned_i32 (c : ByteArray) (A : Option Addr) (cap : Nat) (hs : c.size ≤ 1000) (w : World) (hE : Errs w) (hR : ReadsInt w .u8 A c.size (bytesOf c)) :
    Calls Tryz.prog 16 #[.slice A c.size cap] w (CPost (Lib.parseIntB 32 c.data.toList) w) := by
  have hM := (Mods.refl (fun _ => False) w).alloc (Obj.cells #[Value.int IntKind.i32 0] 21)
  have HS := Aside0.mk (scan_i32 c A cap w.heap.size _ hs _ (hE.mods hM) (hM.reads hR (fun _ _ h => h)) (heap_alloc_new w _))
  clear hE hR hM
  go_enter Tryz.func16, Tryz.ntmps16
  go_wp2_with fail
  refine HS.out.mono ?_
  rintro x w1 ⟨ev, z, rfl, hcz, h1, h2, hM⟩
  have HM := Aside0.mk (((Mods.refl (fun _ => False) w).alloc (Obj.cells #[Value.int IntKind.i32 0] 21)).trans hM (fun i hi e => absurd e (by omega)))
  have H1 := Aside0.mk h1
  have H2 := Aside0.mk h2
  clear h1 h2 hM
  go_wp2_with fail
  go_ret2
  refine ⟨_, _, rfl, fun u hu => ?_, H2.out, HM.out.below⟩
  obtain ⟨e1, e2⟩ := H1.out u hu
  refine ⟨?_, e1⟩
  · rw [e2]
    have hb := intB_le hu
    have e3 : IntKind.i32.wrap u = u := by first | (rw [IntKind.wrap_i64]; omega) | (simp [IntKind.wrap, IntKind.bits, IntKind.signed]; omega)
    rw [e3]
    exact wrap64_is _

set_option maxHeartbeats 4000000 in
set_option maxRecDepth 100000 in
theorem scanned_i64 (c : ByteArray) (A : Option Addr) (cap : Nat) (hs : c.size ≤ 1000) (w : World) (hE : Errs w) (hR : ReadsInt w .u8 A c.size (bytesOf c)) :
    Calls Tryz.prog 17 #[.slice A c.size cap] w (CPost (Lib.parseIntB 64 c.data.toList) w) := by
  have hM := (Mods.refl (fun _ => False) w).alloc (Obj.cells #[Value.int IntKind.i64 0] 2)
  have HS := Aside0.mk (scan_i64 c A cap w.heap.size _ hs _ (hE.mods hM) (hM.reads hR (fun _ _ h => h)) (heap_alloc_new w _))
  clear hE hR hM
  go_enter Tryz.func17, Tryz.ntmps17
  go_wp2_with fail
  refine HS.out.mono ?_
  rintro x w1 ⟨ev, z, rfl, hcz, h1, h2, hM⟩
  have HM := Aside0.mk (((Mods.refl (fun _ => False) w).alloc (Obj.cells #[Value.int IntKind.i64 0] 2)).trans hM (fun i hi e => absurd e (by omega)))
  have H1 := Aside0.mk h1
  have H2 := Aside0.mk h2
  clear h1 h2 hM
  go_wp2_with fail
  go_ret2
  refine ⟨_, _, rfl, fun u hu => ?_, H2.out, HM.out.below⟩
  obtain ⟨e1, e2⟩ := H1.out u hu
  refine ⟨?_, e1⟩
  exact e2

set_option maxHeartbeats 4000000 in
set_option maxRecDepth 100000 in
theorem scanned_u (c : ByteArray) (A : Option Addr) (cap : Nat) (hs : c.size ≤ 1000) (w : World) (hE : Errs w) (hR : ReadsInt w .u8 A c.size (bytesOf c)) :
    Calls Tryz.prog 18 #[.slice A c.size cap] w (CPost (natEnd (Lib.parseUintB 64 c.data.toList)) w) := by
  have hM := (Mods.refl (fun _ => False) w).alloc (Obj.cells #[Value.int IntKind.u64 0] 54)
  have HS := Aside0.mk (scan_u c A cap w.heap.size _ hs _ (hE.mods hM) (hM.reads hR (fun _ _ h => h)) (heap_alloc_new w _))
  clear hE hR hM
  go_enter Tryz.func18, Tryz.ntmps18
  go_wp2_with fail
  refine HS.out.mono ?_
  rintro x w1 ⟨ev, z, rfl, hcz, h1, h2, hM⟩
  have HM := Aside0.mk (((Mods.refl (fun _ => False) w).alloc (Obj.cells #[Value.int IntKind.u64 0] 54)).trans hM (fun i hi e => absurd e (by omega)))
  have H1 := Aside0.mk h1
  have H2 := Aside0.mk h2
  clear h1 h2 hM
  go_wp2_with fail
  go_ret2
  refine ⟨_, _, rfl, fun u hu => ?_, H2.out, HM.out.below⟩
  obtain ⟨e1, e2⟩ := H1.out u hu
  refine ⟨?_, e1⟩
  · rw [e2]
    obtain ⟨u2, h3, rfl⟩ := natEnd_ok hu
    have hb := uintB_le h3
    have e3 : IntKind.u64.wrap (u2 : Int) = u2 := by first | (rw [wrap_u64]; omega) | (simp [IntKind.wrap, IntKind.bits, IntKind.signed]; omega)
    rw [e3]
    exact wrap64_is _

set_option maxHeartbeats 4000000 in
set_option maxRecDepth 100000 in
theorem scanned_u8 (c : ByteArray) (A : Option Addr) (cap : Nat) (hs : c.size ≤ 1000) (w : World) (hE : Errs w) (hR : ReadsInt w .u8 A c.size (bytesOf c)) :
    Calls Tryz.prog 19 #[.slice A c.size cap] w (CPost (natEnd (Lib.parseUintB 8 c.data.toList)) w) := by
  have hM := (Mods.refl (fun _ => False) w).alloc (Obj.cells #[Value.int IntKind.u8 0] 5)
  have HS := Aside0.mk (scan_u8 c A cap w.heap.size _ hs _ (hE.mods hM) (hM.reads hR (fun _ _ h => h)) (heap_alloc_new w _))
  clear hE hR hM
  go_enter Tryz.func19, Tryz.ntmps19
  go_wp2_with fail
  refine HS.out.mono ?_
  rintro x w1 ⟨ev, z, rfl, hcz, h1, h2, hM⟩
  have HM := Aside0.mk (((Mods.refl (fun _ => False) w).alloc (Obj.cells #[Value.int IntKind.u8 0] 5)).trans hM (fun i hi e => absurd e (by omega)))
  have H1 := Aside0.mk h1
  have H2 := Aside0.mk h2
  clear h1 h2 hM
  go_wp2_with fail
  go_ret2
  refine ⟨_, _, rfl, fun u hu => ?_, H2.out, HM.out.below⟩
  obtain ⟨e1, e2⟩ := H1.out u hu
  refine ⟨?_, e1⟩
  · rw [e2]
    obtain ⟨u2, h3, rfl⟩ := natEnd_ok hu
    have hb := uintB_le h3
    have e3 : IntKind.u8.wrap (u2 : Int) = u2 := by first | (rw [wrap_u64]; omega) | (simp [IntKind.wrap, IntKind.bits, IntKind.signed]; omega)
    rw [e3]
    exact wrap64_is _

set_option maxHeartbeats 4000000 in
set_option maxRecDepth 100000 in
theorem scanned_u16 (c : ByteArray) (A : Option Addr) (cap : Nat) (hs : c.size ≤ 1000) (w : World) (hE : Errs w) (hR : ReadsInt w .u8 A c.size (bytesOf c)) :
    Calls Tryz.prog 20 #[.slice A c.size cap] w (CPost (natEnd (Lib.parseUintB 16 c.data.toList)) w) := by
  have hM := (Mods.refl (fun _ => False) w).alloc (Obj.cells #[Value.int IntKind.u16 0] 55)
  have HS := Aside0.mk (scan_u16 c A cap w.heap.size _ hs _ (hE.mods hM) (hM.reads hR (fun _ _ h => h)) (heap_alloc_new w _))
  clear hE hR hM
  go_enter Tryz.func20, Tryz.ntmps20
  go_wp2_with fail
  refine HS.out.mono ?_
  rintro x w1 ⟨ev, z, rfl, hcz, h1, h2, hM⟩
  have HM := Aside0.mk (((Mods.refl (fun _ => False) w).alloc (Obj.cells #[Value.int IntKind.u16 0] 55)).trans hM (fun i hi e => absurd e (by omega)))
  have H1 := Aside0.mk h1
  have H2 := Aside0.mk h2
  clear h1 h2 hM
  go_wp2_with fail
  go_ret2
  refine ⟨_, _, rfl, fun u hu => ?_, H2.out, HM.out.below⟩
  obtain ⟨e1, e2⟩ := H1.out u hu
  refine ⟨?_, e1⟩
  · rw [e2]
    obtain ⟨u2, h3, rfl⟩ := natEnd_ok hu
    have hb := uintB_le h3
    have e3 : IntKind.u16.wrap (u2 : Int) = u2 := by first | (rw [wrap_u64]; omega) | (simp [IntKind.wrap, IntKind.bits, IntKind.signed]; omega)
    rw [e3]
    exact wrap64_is _

set_option maxHeartbeats 4000000 in
set_option maxRecDepth 100000 in
theorem scanned_u32 (c : ByteArray) (A : Option Addr) (cap : Nat) (hs : c.size ≤ 1000) (w : World) (hE : Errs w) (hR : ReadsInt w .u8 A c.size (bytesOf c)) :
    Calls Tryz.prog 21 #[.slice A c.size cap] w (CPost (natEnd (Lib.parseUintB 32 c.data.toList)) w) := by
  have hM := (Mods.refl (fun _ => False) w).alloc (Obj.cells #[Value.int IntKind.u32 0] 56)
  have HS := Aside0.mk (scan_u32 c A cap w.heap.size _ hs _ (hE.mods hM) (hM.reads hR (fun _ _ h => h)) (heap_alloc_new w _))
  clear hE hR hM
  go_enter Tryz.func21, Tryz.ntmps21
  go_wp2_with fail
  refine HS.out.mono ?_
  rintro x w1 ⟨ev, z, rfl, hcz, h1, h2, hM⟩
  have HM := Aside0.mk (((Mods.refl (fun _ => False) w).alloc (Obj.cells #[Value.int IntKind.u32 0] 56)).trans hM (fun i hi e => absurd e (by omega)))
  have H1 := Aside0.mk h1
  have H2 := Aside0.mk h2
  clear h1 h2 hM
  go_wp2_with fail
  go_ret2
  refine ⟨_, _, rfl, fun u hu => ?_, H2.out, HM.out.below⟩
  obtain ⟨e1, e2⟩ := H1.out u hu
  refine ⟨?_, e1⟩
  · rw [e2]
    obtain ⟨u2, h3, rfl⟩ := natEnd_ok hu
    have hb := uintB_le h3
    have e3 : IntKind.u32.wrap (u2 : Int) = u2 := by first | (rw [wrap_u64]; omega) | (simp [IntKind.wrap, IntKind.bits, IntKind.signed]; omega)
    rw [e3]
    exact wrap64_is _

set_option maxHeartbeats 4000000 in
set_option maxRecDepth 100000 in
theorem scanned_u64 (c : ByteArray) (A : Option Addr) (cap : Nat) (hs : c.size ≤ 1000) (w : World) (hE : Errs w) (hR : ReadsInt w .u8 A c.size (bytesOf c)) :
    Calls Tryz.prog 22 #[.slice A c.size cap] w (CPost (natEnd (Lib.parseUintB 64 c.data.toList)) w) := by
  have hM := (Mods.refl (fun _ => False) w).alloc (Obj.cells #[Value.int IntKind.u64 0] 22)
  have HS := Aside0.mk (scan_u64 c A cap w.heap.size _ hs _ (hE.mods hM) (hM.reads hR (fun _ _ h => h)) (heap_alloc_new w _))
  clear hE hR hM
  go_enter Tryz.func22, Tryz.ntmps22
  go_wp2_with fail
  refine HS.out.mono ?_
  rintro x w1 ⟨ev, z, rfl, hcz, h1, h2, hM⟩
  have HM := Aside0.mk (((Mods.refl (fun _ => False) w).alloc (Obj.cells #[Value.int IntKind.u64 0] 22)).trans hM (fun i hi e => absurd e (by omega)))
  have H1 := Aside0.mk h1
  have H2 := Aside0.mk h2
  clear h1 h2 hM
  go_wp2_with fail
  go_ret2
  refine ⟨_, _, rfl, fun u hu => ?_, H2.out, HM.out.below⟩
  obtain ⟨e1, e2⟩ := H1.out u hu
  refine ⟨?_, e1⟩
  · rw [e2]
    obtain ⟨u2, h3, rfl⟩ := natEnd_ok hu
    have hb := uintB_le h3
    have e3 : IntKind.u64.wrap (u2 : Int) = u2 := by first | (rw [wrap_u64]; omega) | (simp [IntKind.wrap, IntKind.bits, IntKind.signed]; omega)
    rw [e3]
    exact wrap64_is _
end

section
open Go.RowKit Go.Proofs.YtohadobpiclllaaGreatDoorW.PrintWords Go.Proofs.YtohadobpiclllaaGreatDoorW.PrintMore Go.Proofs.YtohadobpiclllaaGreatDoorW.PrintLast Go.Proofs.YtohadobpiclllaaGreatDoor.PFnRespScan
attribute [local go_sem] max2_int min2_int max_two min_two max_three min_three max_four min_four
set_option linter.unusedVariables false
set_option linter.unusedSimpArgs false

/-- A reading's cells. -/
def gotc (kind : Int) (b : Bool) (i f : Int) (s : ByteArray) : Array Value := #[.int .i64 kind, .bool b, .int .i64 i, .int .u64 f, .string s, .slice none 0 0]
/-- What the reference's Scan says. -/
def SpPost (kind : Int) (b : Bool) (i f : Int) (s : ByteArray) (code told : Int) (w : World) (x : Ending) (w' : World) : Prop := x = .returned (.tuple #[.agg (gotc kind b i f s), .int .i64 code, .int .i64 told]) ∧ Below w.heap.size w w'

section
variable {P : Program}
theorem results_cell3 {fn : Func} {p u v : Tmp} {ty : TypeId} (h : fn.results = #[.cell p ty, .tmp u, .tmp v]) (tmps : Array Value) (w : World) (g : Nat) (t : TypeId) (cs : Array Value) (fr : Nat × Nat) (d : TypeDesc)
    (hp : tmps.getD p undef = .pointer (some ⟨g, 0, none⟩)) (hg : w.heap[g]? = some (.cells cs t fr))
    (hu : P.underlying ty = some d) (hd : (match d with | .struct _ | .array _ _ => true | _ => false) = true) (hi : (P.info? ty).map (·.size) = some cs.size) :
    (results fn tmps).run P w = .ok (.tuple #[.agg cs, tmps.getD u undef, tmps.getD v undef]) w := by
  have hp' : tmps[p]?.getD undef = .pointer (some ⟨g, 0, none⟩) := by simpa using hp
  simp [results, h, hp', asAddr, run_loadVar_row w g t ty cs fr d hg hu hd hi]
theorem results_cell2 {fn : Func} {p u : Tmp} {ty : TypeId} (h : fn.results = #[.cell p ty, .tmp u]) (tmps : Array Value) (w : World) (g : Nat) (t : TypeId) (cs : Array Value) (fr : Nat × Nat) (d : TypeDesc)
    (hp : tmps.getD p undef = .pointer (some ⟨g, 0, none⟩)) (hg : w.heap[g]? = some (.cells cs t fr))
    (hu : P.underlying ty = some d) (hd : (match d with | .struct _ | .array _ _ => true | _ => false) = true) (hi : (P.info? ty).map (·.size) = some cs.size) :
    (results fn tmps).run P w = .ok (.tuple #[.agg cs, tmps.getD u undef]) w := by
  have hp' : tmps[p]?.getD undef = .pointer (some ⟨g, 0, none⟩) := by simpa using hp
  simp [results, h, hp', asAddr, run_loadVar_row w g t ty cs fr d hg hu hd hi]
end
theorem got_block (w : World) : ((w.alloc (Obj.cells #[Value.int IntKind.i64 0, Value.bool false, Value.int IntKind.i64 0, Value.int IntKind.u64 0, Value.string ⟨#[]⟩, Value.slice none 0 0] 25)).alloc (Obj.cells #[Value.int IntKind.i64 64, Value.int IntKind.i64 8, Value.int IntKind.i64 16, Value.int IntKind.i64 32, Value.int IntKind.i64 64] 3)).heap[w.heap.size]? = some (.cells #[Value.int IntKind.i64 0, Value.bool false, Value.int IntKind.i64 0, Value.int IntKind.u64 0, Value.string ⟨#[]⟩, Value.slice none 0 0] 25 (0, 0)) := by
  refine blk_alloc ?_ _
  exact heap_alloc_new w _
theorem set6_blk {w : World} {g t : Nat} {x0 x1 x2 x3 x4 x5 : Value} (h : w.heap[g]? = some (.cells #[x0, x1, x2, x3, x4, x5] t (0, 0))) (v0 v1 v2 v3 v4 v5 : Value) :
    ((((((w.setCell ⟨g, 0, none⟩ v0).setCell ⟨g, 1, none⟩ v1).setCell ⟨g, 2, none⟩ v2).setCell ⟨g, 3, none⟩ v3).setCell ⟨g, 4, none⟩ v4).setCell ⟨g, 5, none⟩ v5).heap[g]? = some (.cells #[v0, v1, v2, v3, v4, v5] t (0, 0)) :=
  blk_set (blk_set (blk_set (blk_set (blk_set (blk_set h 0 v0) 1 v1) 2 v2) 3 v3) 4 v4) 5 v5
theorem set6_mods {S : Nat → Prop} {a w : World} {g : Nat} (h : Mods S a w) (hg : S g ∨ a.heap.size ≤ g) (v0 v1 v2 v3 v4 v5 : Value) :
    Mods S a ((((((w.setCell ⟨g, 0, none⟩ v0).setCell ⟨g, 1, none⟩ v1).setCell ⟨g, 2, none⟩ v2).setCell ⟨g, 3, none⟩ v3).setCell ⟨g, 4, none⟩ v4).setCell ⟨g, 5, none⟩ v5) :=
  (((((h.setCell (p := ⟨g, 0, none⟩) hg v0).setCell (p := ⟨g, 1, none⟩) hg v1).setCell (p := ⟨g, 2, none⟩) hg v2).setCell (p := ⟨g, 3, none⟩) hg v3).setCell (p := ⟨g, 4, none⟩) hg v4).setCell (p := ⟨g, 5, none⟩) hg v5
theorem below_al {w : World} (o : Obj) : Below w.heap.size w (w.alloc o) := ((Mods.refl (fun _ => False) w).alloc o).below

set_option maxHeartbeats 4000000 in
set_option maxRecDepth 100000 in
theorem spec_0 (c : ByteArray) (w : World) : Calls Tryz.prog 4 #[.int .i64 0, .string c] w (SpPost 1 false 0 0 c 0 1 w) := by
  go_enter Tryz.func4, Tryz.ntmps4
  go_wp2_with fail
  refine bodyPost_ret (results_cell3 rfl _ _ w.heap.size 25 (gotc 1 false 0 0 c) (0, 0) _ rfl (by refine blk_alloc ?_ _; exact heap_alloc_new _ _) Tryz.underlying25 rfl (by kernel_rfl)) rfl ?_
  exact ⟨rfl, (((Mods.refl (fun _ => False) w).alloc _).alloc _).below⟩

set_option maxHeartbeats 4000000 in
set_option maxRecDepth 100000 in
theorem spec_1 (c : ByteArray) (w : World) : Calls Tryz.prog 4 #[.int .i64 1, .string c] w (SpPost 1 false 0 0 c 0 1 w) := by
  go_enter Tryz.func4, Tryz.ntmps4
  go_wp2_with fail
  refine bodyPost_ret (results_cell3 rfl _ _ w.heap.size 25 (gotc 1 false 0 0 c) (0, 0) _ rfl (by refine blk_alloc ?_ _; exact heap_alloc_new _ _) Tryz.underlying25 rfl (by kernel_rfl)) rfl ?_
  exact ⟨rfl, (((Mods.refl (fun _ => False) w).alloc _).alloc _).below⟩

/-- What Scan says of a number. -/
def NumPost (R : Lib.NumEnd Int) (w : World) (x : Ending) (w' : World) : Prop := (∃ u, R = .ok u ∧ SpPost 2 false (IntKind.i64.wrap u) 0 ⟨#[]⟩ 0 1 w x w') ∨ ((∀ u, R ≠ .ok u) ∧ SpPost 0 false 0 0 ⟨#[]⟩ 1 1 w x w')

set_option maxHeartbeats 4000000 in
set_option maxRecDepth 100000 in
theorem spec_2 (c : ByteArray) (hs : c.size ≤ 1000) (w : World) (hE : Errs w) : Calls Tryz.prog 4 #[.int .i64 2, .string c] w (NumPost (Lib.parseIntB 64 c.data.toList) w) := by
  have hM := ((Mods.refl (fun _ => False) w).alloc (Obj.cells #[Value.int IntKind.i64 0, Value.bool false, Value.int IntKind.i64 0, Value.int IntKind.u64 0, Value.string ⟨#[]⟩, Value.slice none 0 0] 25)).alloc (Obj.cells #[Value.int IntKind.i64 64, Value.int IntKind.i64 8, Value.int IntKind.i64 16, Value.int IntKind.i64 32, Value.int IntKind.i64 64] 3)
  have HW := Aside0.mk (whole64 c hs _ (hE.mods hM))
  have HM := Aside0.mk hM
  clear hE hM
  go_enter Tryz.func4, Tryz.ntmps4
  go_wp2_with fail
  refine HW.out.mono ?_
  rintro x w3 ⟨v, ok, rfl, h1, h2, hB⟩
  have hgb := (Mods.of_below hB).blk (got_block w) id
  have q0 : w3.cell? ⟨w.heap.size, 0, none⟩ = some (.int .i64 0) := (blk_cell hgb 0).trans rfl
  have q1 : w3.cell? ⟨w.heap.size, 1, none⟩ = some (.bool false) := (blk_cell hgb 1).trans rfl
  have q2 : w3.cell? ⟨w.heap.size, 2, none⟩ = some (.int .i64 0) := (blk_cell hgb 2).trans rfl
  have q3 : w3.cell? ⟨w.heap.size, 3, none⟩ = some (.int .u64 0) := (blk_cell hgb 3).trans rfl
  have q4 : w3.cell? ⟨w.heap.size, 4, none⟩ = some (.string ⟨#[]⟩) := (blk_cell hgb 4).trans rfl
  have q5 : w3.cell? ⟨w.heap.size, 5, none⟩ = some (.slice none 0 0) := (blk_cell hgb 5).trans rfl
  have f0 := blk_frozen hgb 0
  have f1 := blk_frozen hgb 1
  have f2 := blk_frozen hgb 2
  have f3 := blk_frozen hgb 3
  have f4 := blk_frozen hgb 4
  have f5 := blk_frozen hgb 5
  have HGB := Aside0.mk hgb
  have HB := Aside0.mk (HM.out.trans (Mods.of_below hB) (fun _ _ h => h))
  by_cases hR : ∃ u, Lib.parseIntB 64 c.data.toList = .ok u
  · obtain ⟨u, hu⟩ := hR
    obtain ⟨rfl, rfl⟩ := h1 u hu
    have HR := Aside0.mk hu
    clear h1 h2 hB hgb hu
    go_wp2_with fail
    refine bodyPost_ret (results_cell3 rfl _ _ w.heap.size 25 (gotc 2 false v 0 ⟨#[]⟩) (0, 0) _ rfl (set6_blk HGB.out _ _ _ _ _ _) Tryz.underlying25 rfl (by kernel_rfl)) rfl ?_
    refine .inl ⟨v, HR.out, ?_⟩
    have hb := intB_le HR.out
    rw [show IntKind.i64.wrap v = v by rw [IntKind.wrap_i64]; omega]
    exact ⟨rfl, (set6_mods HB.out (.inr (Nat.le_refl _)) _ _ _ _ _ _).below⟩
  · obtain rfl := h2 (fun u hu => hR ⟨u, hu⟩)
    have HR := Aside0.mk hR
    clear h1 h2 hB hgb hR
    go_wp2_with fail
    refine bodyPost_ret (results_cell3 rfl _ _ w.heap.size 25 (gotc 0 false 0 0 ⟨#[]⟩) (0, 0) _ rfl (set6_blk HGB.out _ _ _ _ _ _) Tryz.underlying25 rfl (by kernel_rfl)) rfl ?_
    exact .inr ⟨fun u hu => HR.out ⟨u, hu⟩, rfl, (set6_mods HB.out (.inr (Nat.le_refl _)) _ _ _ _ _ _).below⟩

set_option maxHeartbeats 4000000 in
set_option maxRecDepth 100000 in
theorem spec_3 (c : ByteArray) (hs : c.size ≤ 1000) (w : World) (hE : Errs w) : Calls Tryz.prog 4 #[.int .i64 3, .string c] w (NumPost (Lib.parseIntB 8 c.data.toList) w) := by
  have hM := ((Mods.refl (fun _ => False) w).alloc (Obj.cells #[Value.int IntKind.i64 0, Value.bool false, Value.int IntKind.i64 0, Value.int IntKind.u64 0, Value.string ⟨#[]⟩, Value.slice none 0 0] 25)).alloc (Obj.cells #[Value.int IntKind.i64 64, Value.int IntKind.i64 8, Value.int IntKind.i64 16, Value.int IntKind.i64 32, Value.int IntKind.i64 64] 3)
  have HW := Aside0.mk (whole8 c hs _ (hE.mods hM))
  have HM := Aside0.mk hM
  clear hE hM
  go_enter Tryz.func4, Tryz.ntmps4
  go_wp2_with fail
  refine HW.out.mono ?_
  rintro x w3 ⟨v, ok, rfl, h1, h2, hB⟩
  have hgb := (Mods.of_below hB).blk (got_block w) id
  have q0 : w3.cell? ⟨w.heap.size, 0, none⟩ = some (.int .i64 0) := (blk_cell hgb 0).trans rfl
  have q1 : w3.cell? ⟨w.heap.size, 1, none⟩ = some (.bool false) := (blk_cell hgb 1).trans rfl
  have q2 : w3.cell? ⟨w.heap.size, 2, none⟩ = some (.int .i64 0) := (blk_cell hgb 2).trans rfl
  have q3 : w3.cell? ⟨w.heap.size, 3, none⟩ = some (.int .u64 0) := (blk_cell hgb 3).trans rfl
  have q4 : w3.cell? ⟨w.heap.size, 4, none⟩ = some (.string ⟨#[]⟩) := (blk_cell hgb 4).trans rfl
  have q5 : w3.cell? ⟨w.heap.size, 5, none⟩ = some (.slice none 0 0) := (blk_cell hgb 5).trans rfl
  have f0 := blk_frozen hgb 0
  have f1 := blk_frozen hgb 1
  have f2 := blk_frozen hgb 2
  have f3 := blk_frozen hgb 3
  have f4 := blk_frozen hgb 4
  have f5 := blk_frozen hgb 5
  have HGB := Aside0.mk hgb
  have HB := Aside0.mk (HM.out.trans (Mods.of_below hB) (fun _ _ h => h))
  by_cases hR : ∃ u, Lib.parseIntB 8 c.data.toList = .ok u
  · obtain ⟨u, hu⟩ := hR
    obtain ⟨rfl, rfl⟩ := h1 u hu
    have HR := Aside0.mk hu
    clear h1 h2 hB hgb hu
    go_wp2_with fail
    refine bodyPost_ret (results_cell3 rfl _ _ w.heap.size 25 (gotc 2 false v 0 ⟨#[]⟩) (0, 0) _ rfl (set6_blk HGB.out _ _ _ _ _ _) Tryz.underlying25 rfl (by kernel_rfl)) rfl ?_
    refine .inl ⟨v, HR.out, ?_⟩
    have hb := intB_le HR.out
    rw [show IntKind.i64.wrap v = v by rw [IntKind.wrap_i64]; omega]
    exact ⟨rfl, (set6_mods HB.out (.inr (Nat.le_refl _)) _ _ _ _ _ _).below⟩
  · obtain rfl := h2 (fun u hu => hR ⟨u, hu⟩)
    have HR := Aside0.mk hR
    clear h1 h2 hB hgb hR
    go_wp2_with fail
    refine bodyPost_ret (results_cell3 rfl _ _ w.heap.size 25 (gotc 0 false 0 0 ⟨#[]⟩) (0, 0) _ rfl (set6_blk HGB.out _ _ _ _ _ _) Tryz.underlying25 rfl (by kernel_rfl)) rfl ?_
    exact .inr ⟨fun u hu => HR.out ⟨u, hu⟩, rfl, (set6_mods HB.out (.inr (Nat.le_refl _)) _ _ _ _ _ _).below⟩

set_option maxHeartbeats 4000000 in
set_option maxRecDepth 100000 in
theorem spec_4 (c : ByteArray) (hs : c.size ≤ 1000) (w : World) (hE : Errs w) : Calls Tryz.prog 4 #[.int .i64 4, .string c] w (NumPost (Lib.parseIntB 16 c.data.toList) w) := by
  have hM := ((Mods.refl (fun _ => False) w).alloc (Obj.cells #[Value.int IntKind.i64 0, Value.bool false, Value.int IntKind.i64 0, Value.int IntKind.u64 0, Value.string ⟨#[]⟩, Value.slice none 0 0] 25)).alloc (Obj.cells #[Value.int IntKind.i64 64, Value.int IntKind.i64 8, Value.int IntKind.i64 16, Value.int IntKind.i64 32, Value.int IntKind.i64 64] 3)
  have HW := Aside0.mk (whole16 c hs _ (hE.mods hM))
  have HM := Aside0.mk hM
  clear hE hM
  go_enter Tryz.func4, Tryz.ntmps4
  go_wp2_with fail
  refine HW.out.mono ?_
  rintro x w3 ⟨v, ok, rfl, h1, h2, hB⟩
  have hgb := (Mods.of_below hB).blk (got_block w) id
  have q0 : w3.cell? ⟨w.heap.size, 0, none⟩ = some (.int .i64 0) := (blk_cell hgb 0).trans rfl
  have q1 : w3.cell? ⟨w.heap.size, 1, none⟩ = some (.bool false) := (blk_cell hgb 1).trans rfl
  have q2 : w3.cell? ⟨w.heap.size, 2, none⟩ = some (.int .i64 0) := (blk_cell hgb 2).trans rfl
  have q3 : w3.cell? ⟨w.heap.size, 3, none⟩ = some (.int .u64 0) := (blk_cell hgb 3).trans rfl
  have q4 : w3.cell? ⟨w.heap.size, 4, none⟩ = some (.string ⟨#[]⟩) := (blk_cell hgb 4).trans rfl
  have q5 : w3.cell? ⟨w.heap.size, 5, none⟩ = some (.slice none 0 0) := (blk_cell hgb 5).trans rfl
  have f0 := blk_frozen hgb 0
  have f1 := blk_frozen hgb 1
  have f2 := blk_frozen hgb 2
  have f3 := blk_frozen hgb 3
  have f4 := blk_frozen hgb 4
  have f5 := blk_frozen hgb 5
  have HGB := Aside0.mk hgb
  have HB := Aside0.mk (HM.out.trans (Mods.of_below hB) (fun _ _ h => h))
  by_cases hR : ∃ u, Lib.parseIntB 16 c.data.toList = .ok u
  · obtain ⟨u, hu⟩ := hR
    obtain ⟨rfl, rfl⟩ := h1 u hu
    have HR := Aside0.mk hu
    clear h1 h2 hB hgb hu
    go_wp2_with fail
    refine bodyPost_ret (results_cell3 rfl _ _ w.heap.size 25 (gotc 2 false v 0 ⟨#[]⟩) (0, 0) _ rfl (set6_blk HGB.out _ _ _ _ _ _) Tryz.underlying25 rfl (by kernel_rfl)) rfl ?_
    refine .inl ⟨v, HR.out, ?_⟩
    have hb := intB_le HR.out
    rw [show IntKind.i64.wrap v = v by rw [IntKind.wrap_i64]; omega]
    exact ⟨rfl, (set6_mods HB.out (.inr (Nat.le_refl _)) _ _ _ _ _ _).below⟩
  · obtain rfl := h2 (fun u hu => hR ⟨u, hu⟩)
    have HR := Aside0.mk hR
    clear h1 h2 hB hgb hR
    go_wp2_with fail
    refine bodyPost_ret (results_cell3 rfl _ _ w.heap.size 25 (gotc 0 false 0 0 ⟨#[]⟩) (0, 0) _ rfl (set6_blk HGB.out _ _ _ _ _ _) Tryz.underlying25 rfl (by kernel_rfl)) rfl ?_
    exact .inr ⟨fun u hu => HR.out ⟨u, hu⟩, rfl, (set6_mods HB.out (.inr (Nat.le_refl _)) _ _ _ _ _ _).below⟩

set_option maxHeartbeats 4000000 in
set_option maxRecDepth 100000 in
theorem spec_5 (c : ByteArray) (hs : c.size ≤ 1000) (w : World) (hE : Errs w) : Calls Tryz.prog 4 #[.int .i64 5, .string c] w (NumPost (Lib.parseIntB 32 c.data.toList) w) := by
  have hM := ((Mods.refl (fun _ => False) w).alloc (Obj.cells #[Value.int IntKind.i64 0, Value.bool false, Value.int IntKind.i64 0, Value.int IntKind.u64 0, Value.string ⟨#[]⟩, Value.slice none 0 0] 25)).alloc (Obj.cells #[Value.int IntKind.i64 64, Value.int IntKind.i64 8, Value.int IntKind.i64 16, Value.int IntKind.i64 32, Value.int IntKind.i64 64] 3)
  have HW := Aside0.mk (whole32 c hs _ (hE.mods hM))
  have HM := Aside0.mk hM
  clear hE hM
  go_enter Tryz.func4, Tryz.ntmps4
  go_wp2_with fail
  refine HW.out.mono ?_
  rintro x w3 ⟨v, ok, rfl, h1, h2, hB⟩
  have hgb := (Mods.of_below hB).blk (got_block w) id
  have q0 : w3.cell? ⟨w.heap.size, 0, none⟩ = some (.int .i64 0) := (blk_cell hgb 0).trans rfl
  have q1 : w3.cell? ⟨w.heap.size, 1, none⟩ = some (.bool false) := (blk_cell hgb 1).trans rfl
  have q2 : w3.cell? ⟨w.heap.size, 2, none⟩ = some (.int .i64 0) := (blk_cell hgb 2).trans rfl
  have q3 : w3.cell? ⟨w.heap.size, 3, none⟩ = some (.int .u64 0) := (blk_cell hgb 3).trans rfl
  have q4 : w3.cell? ⟨w.heap.size, 4, none⟩ = some (.string ⟨#[]⟩) := (blk_cell hgb 4).trans rfl
  have q5 : w3.cell? ⟨w.heap.size, 5, none⟩ = some (.slice none 0 0) := (blk_cell hgb 5).trans rfl
  have f0 := blk_frozen hgb 0
  have f1 := blk_frozen hgb 1
  have f2 := blk_frozen hgb 2
  have f3 := blk_frozen hgb 3
  have f4 := blk_frozen hgb 4
  have f5 := blk_frozen hgb 5
  have HGB := Aside0.mk hgb
  have HB := Aside0.mk (HM.out.trans (Mods.of_below hB) (fun _ _ h => h))
  by_cases hR : ∃ u, Lib.parseIntB 32 c.data.toList = .ok u
  · obtain ⟨u, hu⟩ := hR
    obtain ⟨rfl, rfl⟩ := h1 u hu
    have HR := Aside0.mk hu
    clear h1 h2 hB hgb hu
    go_wp2_with fail
    refine bodyPost_ret (results_cell3 rfl _ _ w.heap.size 25 (gotc 2 false v 0 ⟨#[]⟩) (0, 0) _ rfl (set6_blk HGB.out _ _ _ _ _ _) Tryz.underlying25 rfl (by kernel_rfl)) rfl ?_
    refine .inl ⟨v, HR.out, ?_⟩
    have hb := intB_le HR.out
    rw [show IntKind.i64.wrap v = v by rw [IntKind.wrap_i64]; omega]
    exact ⟨rfl, (set6_mods HB.out (.inr (Nat.le_refl _)) _ _ _ _ _ _).below⟩
  · obtain rfl := h2 (fun u hu => hR ⟨u, hu⟩)
    have HR := Aside0.mk hR
    clear h1 h2 hB hgb hR
    go_wp2_with fail
    refine bodyPost_ret (results_cell3 rfl _ _ w.heap.size 25 (gotc 0 false 0 0 ⟨#[]⟩) (0, 0) _ rfl (set6_blk HGB.out _ _ _ _ _ _) Tryz.underlying25 rfl (by kernel_rfl)) rfl ?_
    exact .inr ⟨fun u hu => HR.out ⟨u, hu⟩, rfl, (set6_mods HB.out (.inr (Nat.le_refl _)) _ _ _ _ _ _).below⟩

set_option maxHeartbeats 4000000 in
set_option maxRecDepth 100000 in
theorem spec_6 (c : ByteArray) (hs : c.size ≤ 1000) (w : World) (hE : Errs w) : Calls Tryz.prog 4 #[.int .i64 6, .string c] w (NumPost (Lib.parseIntB 64 c.data.toList) w) := by
  have hM := ((Mods.refl (fun _ => False) w).alloc (Obj.cells #[Value.int IntKind.i64 0, Value.bool false, Value.int IntKind.i64 0, Value.int IntKind.u64 0, Value.string ⟨#[]⟩, Value.slice none 0 0] 25)).alloc (Obj.cells #[Value.int IntKind.i64 64, Value.int IntKind.i64 8, Value.int IntKind.i64 16, Value.int IntKind.i64 32, Value.int IntKind.i64 64] 3)
  have HW := Aside0.mk (whole64 c hs _ (hE.mods hM))
  have HM := Aside0.mk hM
  clear hE hM
  go_enter Tryz.func4, Tryz.ntmps4
  go_wp2_with fail
  refine HW.out.mono ?_
  rintro x w3 ⟨v, ok, rfl, h1, h2, hB⟩
  have hgb := (Mods.of_below hB).blk (got_block w) id
  have q0 : w3.cell? ⟨w.heap.size, 0, none⟩ = some (.int .i64 0) := (blk_cell hgb 0).trans rfl
  have q1 : w3.cell? ⟨w.heap.size, 1, none⟩ = some (.bool false) := (blk_cell hgb 1).trans rfl
  have q2 : w3.cell? ⟨w.heap.size, 2, none⟩ = some (.int .i64 0) := (blk_cell hgb 2).trans rfl
  have q3 : w3.cell? ⟨w.heap.size, 3, none⟩ = some (.int .u64 0) := (blk_cell hgb 3).trans rfl
  have q4 : w3.cell? ⟨w.heap.size, 4, none⟩ = some (.string ⟨#[]⟩) := (blk_cell hgb 4).trans rfl
  have q5 : w3.cell? ⟨w.heap.size, 5, none⟩ = some (.slice none 0 0) := (blk_cell hgb 5).trans rfl
  have f0 := blk_frozen hgb 0
  have f1 := blk_frozen hgb 1
  have f2 := blk_frozen hgb 2
  have f3 := blk_frozen hgb 3
  have f4 := blk_frozen hgb 4
  have f5 := blk_frozen hgb 5
  have HGB := Aside0.mk hgb
  have HB := Aside0.mk (HM.out.trans (Mods.of_below hB) (fun _ _ h => h))
  by_cases hR : ∃ u, Lib.parseIntB 64 c.data.toList = .ok u
  · obtain ⟨u, hu⟩ := hR
    obtain ⟨rfl, rfl⟩ := h1 u hu
    have HR := Aside0.mk hu
    clear h1 h2 hB hgb hu
    go_wp2_with fail
    refine bodyPost_ret (results_cell3 rfl _ _ w.heap.size 25 (gotc 2 false v 0 ⟨#[]⟩) (0, 0) _ rfl (set6_blk HGB.out _ _ _ _ _ _) Tryz.underlying25 rfl (by kernel_rfl)) rfl ?_
    refine .inl ⟨v, HR.out, ?_⟩
    have hb := intB_le HR.out
    rw [show IntKind.i64.wrap v = v by rw [IntKind.wrap_i64]; omega]
    exact ⟨rfl, (set6_mods HB.out (.inr (Nat.le_refl _)) _ _ _ _ _ _).below⟩
  · obtain rfl := h2 (fun u hu => hR ⟨u, hu⟩)
    have HR := Aside0.mk hR
    clear h1 h2 hB hgb hR
    go_wp2_with fail
    refine bodyPost_ret (results_cell3 rfl _ _ w.heap.size 25 (gotc 0 false 0 0 ⟨#[]⟩) (0, 0) _ rfl (set6_blk HGB.out _ _ _ _ _ _) Tryz.underlying25 rfl (by kernel_rfl)) rfl ?_
    exact .inr ⟨fun u hu => HR.out ⟨u, hu⟩, rfl, (set6_mods HB.out (.inr (Nat.le_refl _)) _ _ _ _ _ _).below⟩

set_option maxHeartbeats 4000000 in
set_option maxRecDepth 100000 in
theorem spec_7 (c : ByteArray) (hs : c.size ≤ 1000) (w : World) (hE : Errs w) : Calls Tryz.prog 4 #[.int .i64 7, .string c] w (NumPost (natEnd (Lib.parseUintB 64 c.data.toList)) w) := by
  have hM := ((Mods.refl (fun _ => False) w).alloc (Obj.cells #[Value.int IntKind.i64 0, Value.bool false, Value.int IntKind.i64 0, Value.int IntKind.u64 0, Value.string ⟨#[]⟩, Value.slice none 0 0] 25)).alloc (Obj.cells #[Value.int IntKind.i64 64, Value.int IntKind.i64 8, Value.int IntKind.i64 16, Value.int IntKind.i64 32, Value.int IntKind.i64 64] 3)
  have HW := Aside0.mk (natural64 c hs _ (hE.mods hM))
  have HM := Aside0.mk hM
  clear hE hM
  go_enter Tryz.func4, Tryz.ntmps4
  go_wp2_with fail
  refine HW.out.mono ?_
  rintro x w3 ⟨v, ok, rfl, h1, h2, hB⟩
  have hgb := (Mods.of_below hB).blk (got_block w) id
  have q0 : w3.cell? ⟨w.heap.size, 0, none⟩ = some (.int .i64 0) := (blk_cell hgb 0).trans rfl
  have q1 : w3.cell? ⟨w.heap.size, 1, none⟩ = some (.bool false) := (blk_cell hgb 1).trans rfl
  have q2 : w3.cell? ⟨w.heap.size, 2, none⟩ = some (.int .i64 0) := (blk_cell hgb 2).trans rfl
  have q3 : w3.cell? ⟨w.heap.size, 3, none⟩ = some (.int .u64 0) := (blk_cell hgb 3).trans rfl
  have q4 : w3.cell? ⟨w.heap.size, 4, none⟩ = some (.string ⟨#[]⟩) := (blk_cell hgb 4).trans rfl
  have q5 : w3.cell? ⟨w.heap.size, 5, none⟩ = some (.slice none 0 0) := (blk_cell hgb 5).trans rfl
  have f0 := blk_frozen hgb 0
  have f1 := blk_frozen hgb 1
  have f2 := blk_frozen hgb 2
  have f3 := blk_frozen hgb 3
  have f4 := blk_frozen hgb 4
  have f5 := blk_frozen hgb 5
  have HGB := Aside0.mk hgb
  have HB := Aside0.mk (HM.out.trans (Mods.of_below hB) (fun _ _ h => h))
  by_cases hR : ∃ u, natEnd (Lib.parseUintB 64 c.data.toList) = .ok u
  · obtain ⟨u, hu⟩ := hR
    obtain ⟨rfl, rfl⟩ := h1 u hu
    have HR := Aside0.mk hu
    clear h1 h2 hB hgb hu
    go_wp2_with fail
    refine bodyPost_ret (results_cell3 rfl _ _ w.heap.size 25 (gotc 2 false (wrap64 v) 0 ⟨#[]⟩) (0, 0) _ rfl (set6_blk HGB.out _ _ _ _ _ _) Tryz.underlying25 rfl (by kernel_rfl)) rfl ?_
    refine .inl ⟨v, HR.out, ?_⟩
    skip
    rw [show IntKind.i64.wrap v = wrap64 v by exact (wrap64_is v).symm]
    exact ⟨rfl, (set6_mods HB.out (.inr (Nat.le_refl _)) _ _ _ _ _ _).below⟩
  · obtain rfl := h2 (fun u hu => hR ⟨u, hu⟩)
    have HR := Aside0.mk hR
    clear h1 h2 hB hgb hR
    go_wp2_with fail
    refine bodyPost_ret (results_cell3 rfl _ _ w.heap.size 25 (gotc 0 false 0 0 ⟨#[]⟩) (0, 0) _ rfl (set6_blk HGB.out _ _ _ _ _ _) Tryz.underlying25 rfl (by kernel_rfl)) rfl ?_
    exact .inr ⟨fun u hu => HR.out ⟨u, hu⟩, rfl, (set6_mods HB.out (.inr (Nat.le_refl _)) _ _ _ _ _ _).below⟩

set_option maxHeartbeats 4000000 in
set_option maxRecDepth 100000 in
theorem spec_8 (c : ByteArray) (hs : c.size ≤ 1000) (w : World) (hE : Errs w) : Calls Tryz.prog 4 #[.int .i64 8, .string c] w (NumPost (natEnd (Lib.parseUintB 8 c.data.toList)) w) := by
  have hM := ((Mods.refl (fun _ => False) w).alloc (Obj.cells #[Value.int IntKind.i64 0, Value.bool false, Value.int IntKind.i64 0, Value.int IntKind.u64 0, Value.string ⟨#[]⟩, Value.slice none 0 0] 25)).alloc (Obj.cells #[Value.int IntKind.i64 64, Value.int IntKind.i64 8, Value.int IntKind.i64 16, Value.int IntKind.i64 32, Value.int IntKind.i64 64] 3)
  have HW := Aside0.mk (natural8 c hs _ (hE.mods hM))
  have HM := Aside0.mk hM
  clear hE hM
  go_enter Tryz.func4, Tryz.ntmps4
  go_wp2_with fail
  refine HW.out.mono ?_
  rintro x w3 ⟨v, ok, rfl, h1, h2, hB⟩
  have hgb := (Mods.of_below hB).blk (got_block w) id
  have q0 : w3.cell? ⟨w.heap.size, 0, none⟩ = some (.int .i64 0) := (blk_cell hgb 0).trans rfl
  have q1 : w3.cell? ⟨w.heap.size, 1, none⟩ = some (.bool false) := (blk_cell hgb 1).trans rfl
  have q2 : w3.cell? ⟨w.heap.size, 2, none⟩ = some (.int .i64 0) := (blk_cell hgb 2).trans rfl
  have q3 : w3.cell? ⟨w.heap.size, 3, none⟩ = some (.int .u64 0) := (blk_cell hgb 3).trans rfl
  have q4 : w3.cell? ⟨w.heap.size, 4, none⟩ = some (.string ⟨#[]⟩) := (blk_cell hgb 4).trans rfl
  have q5 : w3.cell? ⟨w.heap.size, 5, none⟩ = some (.slice none 0 0) := (blk_cell hgb 5).trans rfl
  have f0 := blk_frozen hgb 0
  have f1 := blk_frozen hgb 1
  have f2 := blk_frozen hgb 2
  have f3 := blk_frozen hgb 3
  have f4 := blk_frozen hgb 4
  have f5 := blk_frozen hgb 5
  have HGB := Aside0.mk hgb
  have HB := Aside0.mk (HM.out.trans (Mods.of_below hB) (fun _ _ h => h))
  by_cases hR : ∃ u, natEnd (Lib.parseUintB 8 c.data.toList) = .ok u
  · obtain ⟨u, hu⟩ := hR
    obtain ⟨rfl, rfl⟩ := h1 u hu
    have HR := Aside0.mk hu
    clear h1 h2 hB hgb hu
    go_wp2_with fail
    refine bodyPost_ret (results_cell3 rfl _ _ w.heap.size 25 (gotc 2 false (wrap64 v) 0 ⟨#[]⟩) (0, 0) _ rfl (set6_blk HGB.out _ _ _ _ _ _) Tryz.underlying25 rfl (by kernel_rfl)) rfl ?_
    refine .inl ⟨v, HR.out, ?_⟩
    skip
    rw [show IntKind.i64.wrap v = wrap64 v by exact (wrap64_is v).symm]
    exact ⟨rfl, (set6_mods HB.out (.inr (Nat.le_refl _)) _ _ _ _ _ _).below⟩
  · obtain rfl := h2 (fun u hu => hR ⟨u, hu⟩)
    have HR := Aside0.mk hR
    clear h1 h2 hB hgb hR
    go_wp2_with fail
    refine bodyPost_ret (results_cell3 rfl _ _ w.heap.size 25 (gotc 0 false 0 0 ⟨#[]⟩) (0, 0) _ rfl (set6_blk HGB.out _ _ _ _ _ _) Tryz.underlying25 rfl (by kernel_rfl)) rfl ?_
    exact .inr ⟨fun u hu => HR.out ⟨u, hu⟩, rfl, (set6_mods HB.out (.inr (Nat.le_refl _)) _ _ _ _ _ _).below⟩

set_option maxHeartbeats 4000000 in
set_option maxRecDepth 100000 in
theorem spec_9 (c : ByteArray) (hs : c.size ≤ 1000) (w : World) (hE : Errs w) : Calls Tryz.prog 4 #[.int .i64 9, .string c] w (NumPost (natEnd (Lib.parseUintB 16 c.data.toList)) w) := by
  have hM := ((Mods.refl (fun _ => False) w).alloc (Obj.cells #[Value.int IntKind.i64 0, Value.bool false, Value.int IntKind.i64 0, Value.int IntKind.u64 0, Value.string ⟨#[]⟩, Value.slice none 0 0] 25)).alloc (Obj.cells #[Value.int IntKind.i64 64, Value.int IntKind.i64 8, Value.int IntKind.i64 16, Value.int IntKind.i64 32, Value.int IntKind.i64 64] 3)
  have HW := Aside0.mk (natural16 c hs _ (hE.mods hM))
  have HM := Aside0.mk hM
  clear hE hM
  go_enter Tryz.func4, Tryz.ntmps4
  go_wp2_with fail
  refine HW.out.mono ?_
  rintro x w3 ⟨v, ok, rfl, h1, h2, hB⟩
  have hgb := (Mods.of_below hB).blk (got_block w) id
  have q0 : w3.cell? ⟨w.heap.size, 0, none⟩ = some (.int .i64 0) := (blk_cell hgb 0).trans rfl
  have q1 : w3.cell? ⟨w.heap.size, 1, none⟩ = some (.bool false) := (blk_cell hgb 1).trans rfl
  have q2 : w3.cell? ⟨w.heap.size, 2, none⟩ = some (.int .i64 0) := (blk_cell hgb 2).trans rfl
  have q3 : w3.cell? ⟨w.heap.size, 3, none⟩ = some (.int .u64 0) := (blk_cell hgb 3).trans rfl
  have q4 : w3.cell? ⟨w.heap.size, 4, none⟩ = some (.string ⟨#[]⟩) := (blk_cell hgb 4).trans rfl
  have q5 : w3.cell? ⟨w.heap.size, 5, none⟩ = some (.slice none 0 0) := (blk_cell hgb 5).trans rfl
  have f0 := blk_frozen hgb 0
  have f1 := blk_frozen hgb 1
  have f2 := blk_frozen hgb 2
  have f3 := blk_frozen hgb 3
  have f4 := blk_frozen hgb 4
  have f5 := blk_frozen hgb 5
  have HGB := Aside0.mk hgb
  have HB := Aside0.mk (HM.out.trans (Mods.of_below hB) (fun _ _ h => h))
  by_cases hR : ∃ u, natEnd (Lib.parseUintB 16 c.data.toList) = .ok u
  · obtain ⟨u, hu⟩ := hR
    obtain ⟨rfl, rfl⟩ := h1 u hu
    have HR := Aside0.mk hu
    clear h1 h2 hB hgb hu
    go_wp2_with fail
    refine bodyPost_ret (results_cell3 rfl _ _ w.heap.size 25 (gotc 2 false (wrap64 v) 0 ⟨#[]⟩) (0, 0) _ rfl (set6_blk HGB.out _ _ _ _ _ _) Tryz.underlying25 rfl (by kernel_rfl)) rfl ?_
    refine .inl ⟨v, HR.out, ?_⟩
    skip
    rw [show IntKind.i64.wrap v = wrap64 v by exact (wrap64_is v).symm]
    exact ⟨rfl, (set6_mods HB.out (.inr (Nat.le_refl _)) _ _ _ _ _ _).below⟩
  · obtain rfl := h2 (fun u hu => hR ⟨u, hu⟩)
    have HR := Aside0.mk hR
    clear h1 h2 hB hgb hR
    go_wp2_with fail
    refine bodyPost_ret (results_cell3 rfl _ _ w.heap.size 25 (gotc 0 false 0 0 ⟨#[]⟩) (0, 0) _ rfl (set6_blk HGB.out _ _ _ _ _ _) Tryz.underlying25 rfl (by kernel_rfl)) rfl ?_
    exact .inr ⟨fun u hu => HR.out ⟨u, hu⟩, rfl, (set6_mods HB.out (.inr (Nat.le_refl _)) _ _ _ _ _ _).below⟩

set_option maxHeartbeats 4000000 in
set_option maxRecDepth 100000 in
theorem spec_10 (c : ByteArray) (hs : c.size ≤ 1000) (w : World) (hE : Errs w) : Calls Tryz.prog 4 #[.int .i64 10, .string c] w (NumPost (natEnd (Lib.parseUintB 32 c.data.toList)) w) := by
  have hM := ((Mods.refl (fun _ => False) w).alloc (Obj.cells #[Value.int IntKind.i64 0, Value.bool false, Value.int IntKind.i64 0, Value.int IntKind.u64 0, Value.string ⟨#[]⟩, Value.slice none 0 0] 25)).alloc (Obj.cells #[Value.int IntKind.i64 64, Value.int IntKind.i64 8, Value.int IntKind.i64 16, Value.int IntKind.i64 32, Value.int IntKind.i64 64] 3)
  have HW := Aside0.mk (natural32 c hs _ (hE.mods hM))
  have HM := Aside0.mk hM
  clear hE hM
  go_enter Tryz.func4, Tryz.ntmps4
  go_wp2_with fail
  refine HW.out.mono ?_
  rintro x w3 ⟨v, ok, rfl, h1, h2, hB⟩
  have hgb := (Mods.of_below hB).blk (got_block w) id
  have q0 : w3.cell? ⟨w.heap.size, 0, none⟩ = some (.int .i64 0) := (blk_cell hgb 0).trans rfl
  have q1 : w3.cell? ⟨w.heap.size, 1, none⟩ = some (.bool false) := (blk_cell hgb 1).trans rfl
  have q2 : w3.cell? ⟨w.heap.size, 2, none⟩ = some (.int .i64 0) := (blk_cell hgb 2).trans rfl
  have q3 : w3.cell? ⟨w.heap.size, 3, none⟩ = some (.int .u64 0) := (blk_cell hgb 3).trans rfl
  have q4 : w3.cell? ⟨w.heap.size, 4, none⟩ = some (.string ⟨#[]⟩) := (blk_cell hgb 4).trans rfl
  have q5 : w3.cell? ⟨w.heap.size, 5, none⟩ = some (.slice none 0 0) := (blk_cell hgb 5).trans rfl
  have f0 := blk_frozen hgb 0
  have f1 := blk_frozen hgb 1
  have f2 := blk_frozen hgb 2
  have f3 := blk_frozen hgb 3
  have f4 := blk_frozen hgb 4
  have f5 := blk_frozen hgb 5
  have HGB := Aside0.mk hgb
  have HB := Aside0.mk (HM.out.trans (Mods.of_below hB) (fun _ _ h => h))
  by_cases hR : ∃ u, natEnd (Lib.parseUintB 32 c.data.toList) = .ok u
  · obtain ⟨u, hu⟩ := hR
    obtain ⟨rfl, rfl⟩ := h1 u hu
    have HR := Aside0.mk hu
    clear h1 h2 hB hgb hu
    go_wp2_with fail
    refine bodyPost_ret (results_cell3 rfl _ _ w.heap.size 25 (gotc 2 false (wrap64 v) 0 ⟨#[]⟩) (0, 0) _ rfl (set6_blk HGB.out _ _ _ _ _ _) Tryz.underlying25 rfl (by kernel_rfl)) rfl ?_
    refine .inl ⟨v, HR.out, ?_⟩
    skip
    rw [show IntKind.i64.wrap v = wrap64 v by exact (wrap64_is v).symm]
    exact ⟨rfl, (set6_mods HB.out (.inr (Nat.le_refl _)) _ _ _ _ _ _).below⟩
  · obtain rfl := h2 (fun u hu => hR ⟨u, hu⟩)
    have HR := Aside0.mk hR
    clear h1 h2 hB hgb hR
    go_wp2_with fail
    refine bodyPost_ret (results_cell3 rfl _ _ w.heap.size 25 (gotc 0 false 0 0 ⟨#[]⟩) (0, 0) _ rfl (set6_blk HGB.out _ _ _ _ _ _) Tryz.underlying25 rfl (by kernel_rfl)) rfl ?_
    exact .inr ⟨fun u hu => HR.out ⟨u, hu⟩, rfl, (set6_mods HB.out (.inr (Nat.le_refl _)) _ _ _ _ _ _).below⟩

set_option maxHeartbeats 4000000 in
set_option maxRecDepth 100000 in
theorem spec_11 (c : ByteArray) (hs : c.size ≤ 1000) (w : World) (hE : Errs w) : Calls Tryz.prog 4 #[.int .i64 11, .string c] w (NumPost (natEnd (Lib.parseUintB 64 c.data.toList)) w) := by
  have hM := ((Mods.refl (fun _ => False) w).alloc (Obj.cells #[Value.int IntKind.i64 0, Value.bool false, Value.int IntKind.i64 0, Value.int IntKind.u64 0, Value.string ⟨#[]⟩, Value.slice none 0 0] 25)).alloc (Obj.cells #[Value.int IntKind.i64 64, Value.int IntKind.i64 8, Value.int IntKind.i64 16, Value.int IntKind.i64 32, Value.int IntKind.i64 64] 3)
  have HW := Aside0.mk (natural64 c hs _ (hE.mods hM))
  have HM := Aside0.mk hM
  clear hE hM
  go_enter Tryz.func4, Tryz.ntmps4
  go_wp2_with fail
  refine HW.out.mono ?_
  rintro x w3 ⟨v, ok, rfl, h1, h2, hB⟩
  have hgb := (Mods.of_below hB).blk (got_block w) id
  have q0 : w3.cell? ⟨w.heap.size, 0, none⟩ = some (.int .i64 0) := (blk_cell hgb 0).trans rfl
  have q1 : w3.cell? ⟨w.heap.size, 1, none⟩ = some (.bool false) := (blk_cell hgb 1).trans rfl
  have q2 : w3.cell? ⟨w.heap.size, 2, none⟩ = some (.int .i64 0) := (blk_cell hgb 2).trans rfl
  have q3 : w3.cell? ⟨w.heap.size, 3, none⟩ = some (.int .u64 0) := (blk_cell hgb 3).trans rfl
  have q4 : w3.cell? ⟨w.heap.size, 4, none⟩ = some (.string ⟨#[]⟩) := (blk_cell hgb 4).trans rfl
  have q5 : w3.cell? ⟨w.heap.size, 5, none⟩ = some (.slice none 0 0) := (blk_cell hgb 5).trans rfl
  have f0 := blk_frozen hgb 0
  have f1 := blk_frozen hgb 1
  have f2 := blk_frozen hgb 2
  have f3 := blk_frozen hgb 3
  have f4 := blk_frozen hgb 4
  have f5 := blk_frozen hgb 5
  have HGB := Aside0.mk hgb
  have HB := Aside0.mk (HM.out.trans (Mods.of_below hB) (fun _ _ h => h))
  by_cases hR : ∃ u, natEnd (Lib.parseUintB 64 c.data.toList) = .ok u
  · obtain ⟨u, hu⟩ := hR
    obtain ⟨rfl, rfl⟩ := h1 u hu
    have HR := Aside0.mk hu
    clear h1 h2 hB hgb hu
    go_wp2_with fail
    refine bodyPost_ret (results_cell3 rfl _ _ w.heap.size 25 (gotc 2 false (wrap64 v) 0 ⟨#[]⟩) (0, 0) _ rfl (set6_blk HGB.out _ _ _ _ _ _) Tryz.underlying25 rfl (by kernel_rfl)) rfl ?_
    refine .inl ⟨v, HR.out, ?_⟩
    skip
    rw [show IntKind.i64.wrap v = wrap64 v by exact (wrap64_is v).symm]
    exact ⟨rfl, (set6_mods HB.out (.inr (Nat.le_refl _)) _ _ _ _ _ _).below⟩
  · obtain rfl := h2 (fun u hu => hR ⟨u, hu⟩)
    have HR := Aside0.mk hR
    clear h1 h2 hB hgb hR
    go_wp2_with fail
    refine bodyPost_ret (results_cell3 rfl _ _ w.heap.size 25 (gotc 0 false 0 0 ⟨#[]⟩) (0, 0) _ rfl (set6_blk HGB.out _ _ _ _ _ _) Tryz.underlying25 rfl (by kernel_rfl)) rfl ?_
    exact .inr ⟨fun u hu => HR.out ⟨u, hu⟩, rfl, (set6_mods HB.out (.inr (Nat.le_refl _)) _ _ _ _ _ _).below⟩
end
end Go.Proofs.YtohadobpiclllaaGreatDoor
