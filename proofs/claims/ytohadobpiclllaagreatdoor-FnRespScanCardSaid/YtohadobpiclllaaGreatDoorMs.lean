/- proto.Scan into numbers. -/
import Derived.Test.YtohadobpiclllaaGreatDoorMr
namespace Go.Proofs.YtohadobpiclllaaGreatDoor
section
open Go.RowKit Go.Proofs.YtohadobpiclllaaGreatDoorW.PrintWords Go.Proofs.YtohadobpiclllaaGreatDoorW.PrintMore Go.Proofs.YtohadobpiclllaaGreatDoorW.PrintLast Go.Proofs.YtohadobpiclllaaGreatDoor.PFnRespScan
attribute [local go_sem] max2_int min2_int max_two min_two max_three min_three max_four min_four
set_option linter.unusedVariables false
set_option linter.unusedSimpArgs false

/-- What Scan leaves, into a number. -/
def SPost (k : IntKind) (g : Nat) (R : Lib.NumEnd Int) (w : World) (x : Ending) (w' : World) : Prop := ∃ ev z, x = .returned ev ∧ w'.cell? ⟨g, 0, none⟩ = some (.int k z) ∧ (∀ u, R = .ok u → ev = .nilIface ∧ z = k.wrap u) ∧ ((∀ u, R ≠ .ok u) → ∃ N, ev = .iface 136 (.pointer (some ⟨N, 0, none⟩))) ∧ Mods (· = g) w w'
/-- What scanned says. -/
def CPost (R : Lib.NumEnd Int) (w : World) (x : Ending) (w' : World) : Prop := ∃ v ev, x = .returned (.tuple #[.iface 2 (.int .i64 v), ev]) ∧ (∀ u, R = .ok u → v = IntKind.i64.wrap u ∧ ev = .nilIface) ∧ ((∀ u, R ≠ .ok u) → ∃ N, ev = .iface 136 (.pointer (some ⟨N, 0, none⟩))) ∧ Below w.heap.size w w'
theorem set_cell {w : World} {g t : Nat} {v u : Value} (h : w.heap[g]? = some (.cells #[v] t (0, 0))) : (w.setCell ⟨g, 0, none⟩ u).cell? ⟨g, 0, none⟩ = some u := (blk_cell (blk_set h 0 u) 0).trans rfl

theorem uintM_le {M : Nat} : ∀ (l : List UInt8) (acc u : Nat), acc ≤ M → Lib.parseUintM M acc l = .ok u → u ≤ M
  | [], acc, u, ha, h => by cases h; exact ha
  | c :: r, acc, u, ha, h => by
    rw [Lib.parseUintM] at h
    split at h
    · split at h
      · cases h
      · split at h
        · cases h
        · exact uintM_le r _ u (by omega) h
    · cases h
theorem uintB_le {B : Nat} {l : List UInt8} {u : Nat} (h : Lib.parseUintB B l = .ok u) : u ≤ 2 ^ B - 1 := by
  unfold Lib.parseUintB at h
  split at h
  · cases h
  · exact uintM_le l 0 u (Nat.zero_le _) h
theorem intB_le {B : Nat} {l : List UInt8} {v : Int} (h : Lib.parseIntB B l = .ok v) : -((2 ^ (B - 1) : Nat) : Int) ≤ v ∧ v < ((2 ^ (B - 1) : Nat) : Int) := by
  have hp := Nat.two_pow_pos (B - 1)
  cases l with
  | nil => cases h
  | cons c r =>
    simp only [Lib.parseIntB] at h
    generalize 2 ^ (B - 1) = P at h hp ⊢
    cases hu : Lib.parseUintB B (if c.toNat = 43 ∨ c.toNat = 45 then r else c :: r) with
    | range => rw [hu] at h; cases h
    | ok u =>
      rw [hu] at h
      dsimp only at h
      split at h
      · cases h
      · split at h
        · cases h
        · rename_i h1 h2
          cases h
          split <;> omega
    | _ => rw [hu] at h; cases h
theorem natEnd_ok {R : Lib.NumEnd Nat} {v : Int} (h : natEnd R = .ok v) : ∃ u, R = .ok u ∧ v = (u : Int) := by
  cases R with
  | ok u => cases h; exact ⟨u, rfl, rfl⟩
  | range => cases h
  | _ => cases h
theorem intB_wrap {l : List UInt8} {v : Int} (h : Lib.parseIntB 64 l = .ok v) : IntKind.i64.wrap v = v := by
  have := intB_le h
  rw [IntKind.wrap_i64]
  omega
theorem uintB_wrap {l : List UInt8} {v : Int} (h : natEnd (Lib.parseUintB 64 l) = .ok v) : IntKind.u64.wrap v = v := by
  obtain ⟨u, h1, rfl⟩ := natEnd_ok h
  have := uintB_le h1
  rw [wrap_u64]
  omega

set_option maxHeartbeats 8000000 in
set_option maxRecDepth 100000 in
theorem scan_i8 (c : ByteArray) (A : Option Addr) (cap g t : Nat) (hs : c.size ≤ 1000) (w : World) (hE : Errs w) (hR : ReadsInt w .u8 A c.size (bytesOf c)) (hg : w.heap[g]? = some (.cells #[.int .i8 0] t (0, 0))) :
    Calls Tryz.prog 12 #[.slice A c.size cap, .iface 87 (.pointer (some ⟨g, 0, none⟩))] w (SPost .i8 g (Lib.parseIntB 8 c.data.toList) w) := by
  have HP := Aside0.mk (upint8 c A cap hs w hE hR)
  have HG := Aside0.mk hg
  clear hE hR hg
  have ta48 : ∀ w, (Instr.typeAssert (.iface 87 (.pointer (some ⟨g, 0, none⟩))) 20 48 true).run Tryz.prog w = .ok (.tuple #[.pointer none, .bool false]) w := fun w => by kernel_rfl
  have ta49 : ∀ w, (Instr.typeAssert (.iface 87 (.pointer (some ⟨g, 0, none⟩))) 20 49 true).run Tryz.prog w = .ok (.tuple #[.pointer none, .bool false]) w := fun w => by kernel_rfl
  have ta84 : ∀ w, (Instr.typeAssert (.iface 87 (.pointer (some ⟨g, 0, none⟩))) 20 84 true).run Tryz.prog w = .ok (.tuple #[.pointer none, .bool false]) w := fun w => by kernel_rfl
  have ta87 : ∀ w, (Instr.typeAssert (.iface 87 (.pointer (some ⟨g, 0, none⟩))) 20 87 true).run Tryz.prog w = .ok (.tuple #[(.pointer (some ⟨g, 0, none⟩)), .bool true]) w := fun w => by kernel_rfl
  cases h : Lib.parseIntB 8 c.data.toList with
  | ok v =>
    have HH := Aside0.mk h
    clear h
    go_enter Tryz.func12, Tryz.ntmps12
    go_wp2_with fail
    refine HP.out.mono ?_
    rintro x w1 ⟨v1, ev, rfl, h1, h2, hB⟩
    obtain ⟨rfl, rfl⟩ := h1 _ HH.out
    have hg1 := (Mods.of_below hB).blk HG.out id
    have hcg : w1.cell? ⟨g, 0, none⟩ = some (.int .i8 0) := (blk_cell hg1 0).trans rfl
    have hfg := blk_frozen hg1 0
    have HG1 := Aside0.mk hg1
    have HB := Aside0.mk hB
    clear h1 h2 hB hg1
    go_wp2_with fail
    go_ret
    refine ⟨_, _, rfl, set_cell HG1.out, fun u hu => (by cases hu; exact ⟨rfl, rfl⟩), fun hn => absurd rfl (hn _), (show Mods (· = g) w w1 from (Mods.of_below HB.out).mono (fun _ _ h => h.elim)).setCell (p := ⟨g, 0, none⟩) (.inl rfl) _⟩
  | range =>
    have HH := Aside0.mk h
    clear h
    go_enter Tryz.func12, Tryz.ntmps12
    go_wp2_with fail
    refine HP.out.mono ?_
    rintro x w1 ⟨v1, ev, rfl, h1, h2, hB⟩
    obtain ⟨N, rfl⟩ := h2 (fun u hu => (by rw [HH.out] at hu; cases hu))
    have HG1 := Aside0.mk ((Mods.of_below hB).blk HG.out id)
    have HB := Aside0.mk hB
    clear h1 h2 hB
    go_wp2_with fail
    go_ret
    exact ⟨_, _, rfl, (blk_cell HG1.out 0).trans rfl, fun u hu => (by cases hu), fun _ => ⟨N, rfl⟩, (Mods.of_below HB.out).mono (fun _ _ h => h.elim)⟩
  | _ =>
    have HH := Aside0.mk h
    clear h
    go_enter Tryz.func12, Tryz.ntmps12
    go_wp2_with fail
    refine HP.out.mono ?_
    rintro x w1 ⟨v1, ev, rfl, h1, h2, hB⟩
    obtain ⟨N, rfl⟩ := h2 (fun u hu => (by rw [HH.out] at hu; cases hu))
    have HG1 := Aside0.mk ((Mods.of_below hB).blk HG.out id)
    have HB := Aside0.mk hB
    clear h1 h2 hB
    go_wp2_with fail
    go_ret
    exact ⟨_, _, rfl, (blk_cell HG1.out 0).trans rfl, fun u hu => (by cases hu), fun _ => ⟨N, rfl⟩, (Mods.of_below HB.out).mono (fun _ _ h => h.elim)⟩

set_option maxHeartbeats 8000000 in
set_option maxRecDepth 100000 in
theorem scan_i16 (c : ByteArray) (A : Option Addr) (cap g t : Nat) (hs : c.size ≤ 1000) (w : World) (hE : Errs w) (hR : ReadsInt w .u8 A c.size (bytesOf c)) (hg : w.heap[g]? = some (.cells #[.int .i16 0] t (0, 0))) :
    Calls Tryz.prog 12 #[.slice A c.size cap, .iface 89 (.pointer (some ⟨g, 0, none⟩))] w (SPost .i16 g (Lib.parseIntB 16 c.data.toList) w) := by
  have HP := Aside0.mk (upint16 c A cap hs w hE hR)
  have HG := Aside0.mk hg
  clear hE hR hg
  have ta48 : ∀ w, (Instr.typeAssert (.iface 89 (.pointer (some ⟨g, 0, none⟩))) 20 48 true).run Tryz.prog w = .ok (.tuple #[.pointer none, .bool false]) w := fun w => by kernel_rfl
  have ta49 : ∀ w, (Instr.typeAssert (.iface 89 (.pointer (some ⟨g, 0, none⟩))) 20 49 true).run Tryz.prog w = .ok (.tuple #[.pointer none, .bool false]) w := fun w => by kernel_rfl
  have ta84 : ∀ w, (Instr.typeAssert (.iface 89 (.pointer (some ⟨g, 0, none⟩))) 20 84 true).run Tryz.prog w = .ok (.tuple #[.pointer none, .bool false]) w := fun w => by kernel_rfl
  have ta87 : ∀ w, (Instr.typeAssert (.iface 89 (.pointer (some ⟨g, 0, none⟩))) 20 87 true).run Tryz.prog w = .ok (.tuple #[.pointer none, .bool false]) w := fun w => by kernel_rfl
  have ta89 : ∀ w, (Instr.typeAssert (.iface 89 (.pointer (some ⟨g, 0, none⟩))) 20 89 true).run Tryz.prog w = .ok (.tuple #[(.pointer (some ⟨g, 0, none⟩)), .bool true]) w := fun w => by kernel_rfl
  cases h : Lib.parseIntB 16 c.data.toList with
  | ok v =>
    have HH := Aside0.mk h
    clear h
    go_enter Tryz.func12, Tryz.ntmps12
    go_wp2_with fail
    refine HP.out.mono ?_
    rintro x w1 ⟨v1, ev, rfl, h1, h2, hB⟩
    obtain ⟨rfl, rfl⟩ := h1 _ HH.out
    have hg1 := (Mods.of_below hB).blk HG.out id
    have hcg : w1.cell? ⟨g, 0, none⟩ = some (.int .i16 0) := (blk_cell hg1 0).trans rfl
    have hfg := blk_frozen hg1 0
    have HG1 := Aside0.mk hg1
    have HB := Aside0.mk hB
    clear h1 h2 hB hg1
    go_wp2_with fail
    go_ret
    refine ⟨_, _, rfl, set_cell HG1.out, fun u hu => (by cases hu; exact ⟨rfl, rfl⟩), fun hn => absurd rfl (hn _), (show Mods (· = g) w w1 from (Mods.of_below HB.out).mono (fun _ _ h => h.elim)).setCell (p := ⟨g, 0, none⟩) (.inl rfl) _⟩
  | range =>
    have HH := Aside0.mk h
    clear h
    go_enter Tryz.func12, Tryz.ntmps12
    go_wp2_with fail
    refine HP.out.mono ?_
    rintro x w1 ⟨v1, ev, rfl, h1, h2, hB⟩
    obtain ⟨N, rfl⟩ := h2 (fun u hu => (by rw [HH.out] at hu; cases hu))
    have HG1 := Aside0.mk ((Mods.of_below hB).blk HG.out id)
    have HB := Aside0.mk hB
    clear h1 h2 hB
    go_wp2_with fail
    go_ret
    exact ⟨_, _, rfl, (blk_cell HG1.out 0).trans rfl, fun u hu => (by cases hu), fun _ => ⟨N, rfl⟩, (Mods.of_below HB.out).mono (fun _ _ h => h.elim)⟩
  | _ =>
    have HH := Aside0.mk h
    clear h
    go_enter Tryz.func12, Tryz.ntmps12
    go_wp2_with fail
    refine HP.out.mono ?_
    rintro x w1 ⟨v1, ev, rfl, h1, h2, hB⟩
    obtain ⟨N, rfl⟩ := h2 (fun u hu => (by rw [HH.out] at hu; cases hu))
    have HG1 := Aside0.mk ((Mods.of_below hB).blk HG.out id)
    have HB := Aside0.mk hB
    clear h1 h2 hB
    go_wp2_with fail
    go_ret
    exact ⟨_, _, rfl, (blk_cell HG1.out 0).trans rfl, fun u hu => (by cases hu), fun _ => ⟨N, rfl⟩, (Mods.of_below HB.out).mono (fun _ _ h => h.elim)⟩

set_option maxHeartbeats 8000000 in
set_option maxRecDepth 100000 in
theorem scan_i32 (c : ByteArray) (A : Option Addr) (cap g t : Nat) (hs : c.size ≤ 1000) (w : World) (hE : Errs w) (hR : ReadsInt w .u8 A c.size (bytesOf c)) (hg : w.heap[g]? = some (.cells #[.int .i32 0] t (0, 0))) :
    Calls Tryz.prog 12 #[.slice A c.size cap, .iface 90 (.pointer (some ⟨g, 0, none⟩))] w (SPost .i32 g (Lib.parseIntB 32 c.data.toList) w) := by
  have HP := Aside0.mk (upint32 c A cap hs w hE hR)
  have HG := Aside0.mk hg
  clear hE hR hg
  have ta48 : ∀ w, (Instr.typeAssert (.iface 90 (.pointer (some ⟨g, 0, none⟩))) 20 48 true).run Tryz.prog w = .ok (.tuple #[.pointer none, .bool false]) w := fun w => by kernel_rfl
  have ta49 : ∀ w, (Instr.typeAssert (.iface 90 (.pointer (some ⟨g, 0, none⟩))) 20 49 true).run Tryz.prog w = .ok (.tuple #[.pointer none, .bool false]) w := fun w => by kernel_rfl
  have ta84 : ∀ w, (Instr.typeAssert (.iface 90 (.pointer (some ⟨g, 0, none⟩))) 20 84 true).run Tryz.prog w = .ok (.tuple #[.pointer none, .bool false]) w := fun w => by kernel_rfl
  have ta87 : ∀ w, (Instr.typeAssert (.iface 90 (.pointer (some ⟨g, 0, none⟩))) 20 87 true).run Tryz.prog w = .ok (.tuple #[.pointer none, .bool false]) w := fun w => by kernel_rfl
  have ta89 : ∀ w, (Instr.typeAssert (.iface 90 (.pointer (some ⟨g, 0, none⟩))) 20 89 true).run Tryz.prog w = .ok (.tuple #[.pointer none, .bool false]) w := fun w => by kernel_rfl
  have ta90 : ∀ w, (Instr.typeAssert (.iface 90 (.pointer (some ⟨g, 0, none⟩))) 20 90 true).run Tryz.prog w = .ok (.tuple #[(.pointer (some ⟨g, 0, none⟩)), .bool true]) w := fun w => by kernel_rfl
  cases h : Lib.parseIntB 32 c.data.toList with
  | ok v =>
    have HH := Aside0.mk h
    clear h
    go_enter Tryz.func12, Tryz.ntmps12
    go_wp2_with fail
    refine HP.out.mono ?_
    rintro x w1 ⟨v1, ev, rfl, h1, h2, hB⟩
    obtain ⟨rfl, rfl⟩ := h1 _ HH.out
    have hg1 := (Mods.of_below hB).blk HG.out id
    have hcg : w1.cell? ⟨g, 0, none⟩ = some (.int .i32 0) := (blk_cell hg1 0).trans rfl
    have hfg := blk_frozen hg1 0
    have HG1 := Aside0.mk hg1
    have HB := Aside0.mk hB
    clear h1 h2 hB hg1
    go_wp2_with fail
    go_ret
    refine ⟨_, _, rfl, set_cell HG1.out, fun u hu => (by cases hu; exact ⟨rfl, (by first | rfl | (simp [RowKit.wrap32, IntKind.wrap, IntKind.bits, IntKind.signed]; done) | (unfold RowKit.wrap32; simp [IntKind.wrap, IntKind.bits, IntKind.signed]; omega))⟩), fun hn => absurd rfl (hn _), (show Mods (· = g) w w1 from (Mods.of_below HB.out).mono (fun _ _ h => h.elim)).setCell (p := ⟨g, 0, none⟩) (.inl rfl) _⟩
  | range =>
    have HH := Aside0.mk h
    clear h
    go_enter Tryz.func12, Tryz.ntmps12
    go_wp2_with fail
    refine HP.out.mono ?_
    rintro x w1 ⟨v1, ev, rfl, h1, h2, hB⟩
    obtain ⟨N, rfl⟩ := h2 (fun u hu => (by rw [HH.out] at hu; cases hu))
    have HG1 := Aside0.mk ((Mods.of_below hB).blk HG.out id)
    have HB := Aside0.mk hB
    clear h1 h2 hB
    go_wp2_with fail
    go_ret
    exact ⟨_, _, rfl, (blk_cell HG1.out 0).trans rfl, fun u hu => (by cases hu), fun _ => ⟨N, rfl⟩, (Mods.of_below HB.out).mono (fun _ _ h => h.elim)⟩
  | _ =>
    have HH := Aside0.mk h
    clear h
    go_enter Tryz.func12, Tryz.ntmps12
    go_wp2_with fail
    refine HP.out.mono ?_
    rintro x w1 ⟨v1, ev, rfl, h1, h2, hB⟩
    obtain ⟨N, rfl⟩ := h2 (fun u hu => (by rw [HH.out] at hu; cases hu))
    have HG1 := Aside0.mk ((Mods.of_below hB).blk HG.out id)
    have HB := Aside0.mk hB
    clear h1 h2 hB
    go_wp2_with fail
    go_ret
    exact ⟨_, _, rfl, (blk_cell HG1.out 0).trans rfl, fun u hu => (by cases hu), fun _ => ⟨N, rfl⟩, (Mods.of_below HB.out).mono (fun _ _ h => h.elim)⟩

set_option maxHeartbeats 8000000 in
set_option maxRecDepth 100000 in
theorem scan_i64 (c : ByteArray) (A : Option Addr) (cap g t : Nat) (hs : c.size ≤ 1000) (w : World) (hE : Errs w) (hR : ReadsInt w .u8 A c.size (bytesOf c)) (hg : w.heap[g]? = some (.cells #[.int .i64 0] t (0, 0))) :
    Calls Tryz.prog 12 #[.slice A c.size cap, .iface 91 (.pointer (some ⟨g, 0, none⟩))] w (SPost .i64 g (Lib.parseIntB 64 c.data.toList) w) := by
  have HP := Aside0.mk (upint64 c A cap hs w hE hR)
  have HG := Aside0.mk hg
  clear hE hR hg
  have ta48 : ∀ w, (Instr.typeAssert (.iface 91 (.pointer (some ⟨g, 0, none⟩))) 20 48 true).run Tryz.prog w = .ok (.tuple #[.pointer none, .bool false]) w := fun w => by kernel_rfl
  have ta49 : ∀ w, (Instr.typeAssert (.iface 91 (.pointer (some ⟨g, 0, none⟩))) 20 49 true).run Tryz.prog w = .ok (.tuple #[.pointer none, .bool false]) w := fun w => by kernel_rfl
  have ta84 : ∀ w, (Instr.typeAssert (.iface 91 (.pointer (some ⟨g, 0, none⟩))) 20 84 true).run Tryz.prog w = .ok (.tuple #[.pointer none, .bool false]) w := fun w => by kernel_rfl
  have ta87 : ∀ w, (Instr.typeAssert (.iface 91 (.pointer (some ⟨g, 0, none⟩))) 20 87 true).run Tryz.prog w = .ok (.tuple #[.pointer none, .bool false]) w := fun w => by kernel_rfl
  have ta89 : ∀ w, (Instr.typeAssert (.iface 91 (.pointer (some ⟨g, 0, none⟩))) 20 89 true).run Tryz.prog w = .ok (.tuple #[.pointer none, .bool false]) w := fun w => by kernel_rfl
  have ta90 : ∀ w, (Instr.typeAssert (.iface 91 (.pointer (some ⟨g, 0, none⟩))) 20 90 true).run Tryz.prog w = .ok (.tuple #[.pointer none, .bool false]) w := fun w => by kernel_rfl
  have ta91 : ∀ w, (Instr.typeAssert (.iface 91 (.pointer (some ⟨g, 0, none⟩))) 20 91 true).run Tryz.prog w = .ok (.tuple #[(.pointer (some ⟨g, 0, none⟩)), .bool true]) w := fun w => by kernel_rfl
  cases h : Lib.parseIntB 64 c.data.toList with
  | ok v =>
    have HH := Aside0.mk h
    clear h
    go_enter Tryz.func12, Tryz.ntmps12
    go_wp2_with fail
    refine HP.out.mono ?_
    rintro x w1 ⟨v1, ev, rfl, h1, h2, hB⟩
    obtain ⟨rfl, rfl⟩ := h1 _ HH.out
    have hg1 := (Mods.of_below hB).blk HG.out id
    have hcg : w1.cell? ⟨g, 0, none⟩ = some (.int .i64 0) := (blk_cell hg1 0).trans rfl
    have hfg := blk_frozen hg1 0
    have HG1 := Aside0.mk hg1
    have HB := Aside0.mk hB
    clear h1 h2 hB hg1
    go_wp2_with fail
    go_ret
    refine ⟨_, _, rfl, set_cell HG1.out, fun u hu => (by cases hu; exact ⟨rfl, (intB_wrap HH.out).symm⟩), fun hn => absurd rfl (hn _), (show Mods (· = g) w w1 from (Mods.of_below HB.out).mono (fun _ _ h => h.elim)).setCell (p := ⟨g, 0, none⟩) (.inl rfl) _⟩
  | range =>
    have HH := Aside0.mk h
    clear h
    go_enter Tryz.func12, Tryz.ntmps12
    go_wp2_with fail
    refine HP.out.mono ?_
    rintro x w1 ⟨v1, ev, rfl, h1, h2, hB⟩
    obtain ⟨N, rfl⟩ := h2 (fun u hu => (by rw [HH.out] at hu; cases hu))
    have HG1 := Aside0.mk ((Mods.of_below hB).blk HG.out id)
    have HB := Aside0.mk hB
    clear h1 h2 hB
    go_wp2_with fail
    go_ret
    exact ⟨_, _, rfl, (blk_cell HG1.out 0).trans rfl, fun u hu => (by cases hu), fun _ => ⟨N, rfl⟩, (Mods.of_below HB.out).mono (fun _ _ h => h.elim)⟩
  | _ =>
    have HH := Aside0.mk h
    clear h
    go_enter Tryz.func12, Tryz.ntmps12
    go_wp2_with fail
    refine HP.out.mono ?_
    rintro x w1 ⟨v1, ev, rfl, h1, h2, hB⟩
    obtain ⟨N, rfl⟩ := h2 (fun u hu => (by rw [HH.out] at hu; cases hu))
    have HG1 := Aside0.mk ((Mods.of_below hB).blk HG.out id)
    have HB := Aside0.mk hB
    clear h1 h2 hB
    go_wp2_with fail
    go_ret
    exact ⟨_, _, rfl, (blk_cell HG1.out 0).trans rfl, fun u hu => (by cases hu), fun _ => ⟨N, rfl⟩, (Mods.of_below HB.out).mono (fun _ _ h => h.elim)⟩

set_option maxHeartbeats 8000000 in
set_option maxRecDepth 100000 in
theorem scan_u (c : ByteArray) (A : Option Addr) (cap g t : Nat) (hs : c.size ≤ 1000) (w : World) (hE : Errs w) (hR : ReadsInt w .u8 A c.size (bytesOf c)) (hg : w.heap[g]? = some (.cells #[.int .u64 0] t (0, 0))) :
    Calls Tryz.prog 12 #[.slice A c.size cap, .iface 92 (.pointer (some ⟨g, 0, none⟩))] w (SPost .u64 g (natEnd (Lib.parseUintB 64 c.data.toList)) w) := by
  have HP := Aside0.mk (upuint64 c A cap hs w hE hR)
  have HG := Aside0.mk hg
  clear hE hR hg
  have ta48 : ∀ w, (Instr.typeAssert (.iface 92 (.pointer (some ⟨g, 0, none⟩))) 20 48 true).run Tryz.prog w = .ok (.tuple #[.pointer none, .bool false]) w := fun w => by kernel_rfl
  have ta49 : ∀ w, (Instr.typeAssert (.iface 92 (.pointer (some ⟨g, 0, none⟩))) 20 49 true).run Tryz.prog w = .ok (.tuple #[.pointer none, .bool false]) w := fun w => by kernel_rfl
  have ta84 : ∀ w, (Instr.typeAssert (.iface 92 (.pointer (some ⟨g, 0, none⟩))) 20 84 true).run Tryz.prog w = .ok (.tuple #[.pointer none, .bool false]) w := fun w => by kernel_rfl
  have ta87 : ∀ w, (Instr.typeAssert (.iface 92 (.pointer (some ⟨g, 0, none⟩))) 20 87 true).run Tryz.prog w = .ok (.tuple #[.pointer none, .bool false]) w := fun w => by kernel_rfl
  have ta89 : ∀ w, (Instr.typeAssert (.iface 92 (.pointer (some ⟨g, 0, none⟩))) 20 89 true).run Tryz.prog w = .ok (.tuple #[.pointer none, .bool false]) w := fun w => by kernel_rfl
  have ta90 : ∀ w, (Instr.typeAssert (.iface 92 (.pointer (some ⟨g, 0, none⟩))) 20 90 true).run Tryz.prog w = .ok (.tuple #[.pointer none, .bool false]) w := fun w => by kernel_rfl
  have ta91 : ∀ w, (Instr.typeAssert (.iface 92 (.pointer (some ⟨g, 0, none⟩))) 20 91 true).run Tryz.prog w = .ok (.tuple #[.pointer none, .bool false]) w := fun w => by kernel_rfl
  have ta92 : ∀ w, (Instr.typeAssert (.iface 92 (.pointer (some ⟨g, 0, none⟩))) 20 92 true).run Tryz.prog w = .ok (.tuple #[(.pointer (some ⟨g, 0, none⟩)), .bool true]) w := fun w => by kernel_rfl
  cases h : natEnd (Lib.parseUintB 64 c.data.toList) with
  | ok v =>
    have HH := Aside0.mk h
    clear h
    go_enter Tryz.func12, Tryz.ntmps12
    go_wp2_with fail
    refine HP.out.mono ?_
    rintro x w1 ⟨v1, ev, rfl, h1, h2, hB⟩
    obtain ⟨rfl, rfl⟩ := h1 _ HH.out
    have hg1 := (Mods.of_below hB).blk HG.out id
    have hcg : w1.cell? ⟨g, 0, none⟩ = some (.int .u64 0) := (blk_cell hg1 0).trans rfl
    have hfg := blk_frozen hg1 0
    have HG1 := Aside0.mk hg1
    have HB := Aside0.mk hB
    clear h1 h2 hB hg1
    go_wp2_with fail
    go_ret
    refine ⟨_, _, rfl, set_cell HG1.out, fun u hu => (by cases hu; exact ⟨rfl, (uintB_wrap HH.out).symm⟩), fun hn => absurd rfl (hn _), (show Mods (· = g) w w1 from (Mods.of_below HB.out).mono (fun _ _ h => h.elim)).setCell (p := ⟨g, 0, none⟩) (.inl rfl) _⟩
  | range =>
    have HH := Aside0.mk h
    clear h
    go_enter Tryz.func12, Tryz.ntmps12
    go_wp2_with fail
    refine HP.out.mono ?_
    rintro x w1 ⟨v1, ev, rfl, h1, h2, hB⟩
    obtain ⟨N, rfl⟩ := h2 (fun u hu => (by rw [HH.out] at hu; cases hu))
    have HG1 := Aside0.mk ((Mods.of_below hB).blk HG.out id)
    have HB := Aside0.mk hB
    clear h1 h2 hB
    go_wp2_with fail
    go_ret
    exact ⟨_, _, rfl, (blk_cell HG1.out 0).trans rfl, fun u hu => (by cases hu), fun _ => ⟨N, rfl⟩, (Mods.of_below HB.out).mono (fun _ _ h => h.elim)⟩
  | _ =>
    have HH := Aside0.mk h
    clear h
    go_enter Tryz.func12, Tryz.ntmps12
    go_wp2_with fail
    refine HP.out.mono ?_
    rintro x w1 ⟨v1, ev, rfl, h1, h2, hB⟩
    obtain ⟨N, rfl⟩ := h2 (fun u hu => (by rw [HH.out] at hu; cases hu))
    have HG1 := Aside0.mk ((Mods.of_below hB).blk HG.out id)
    have HB := Aside0.mk hB
    clear h1 h2 hB
    go_wp2_with fail
    go_ret
    exact ⟨_, _, rfl, (blk_cell HG1.out 0).trans rfl, fun u hu => (by cases hu), fun _ => ⟨N, rfl⟩, (Mods.of_below HB.out).mono (fun _ _ h => h.elim)⟩

set_option maxHeartbeats 8000000 in
set_option maxRecDepth 100000 in
theorem scan_u8 (c : ByteArray) (A : Option Addr) (cap g t : Nat) (hs : c.size ≤ 1000) (w : World) (hE : Errs w) (hR : ReadsInt w .u8 A c.size (bytesOf c)) (hg : w.heap[g]? = some (.cells #[.int .u8 0] t (0, 0))) :
    Calls Tryz.prog 12 #[.slice A c.size cap, .iface 94 (.pointer (some ⟨g, 0, none⟩))] w (SPost .u8 g (natEnd (Lib.parseUintB 8 c.data.toList)) w) := by
  have HP := Aside0.mk (upuint8 c A cap hs w hE hR)
  have HG := Aside0.mk hg
  clear hE hR hg
  have ta48 : ∀ w, (Instr.typeAssert (.iface 94 (.pointer (some ⟨g, 0, none⟩))) 20 48 true).run Tryz.prog w = .ok (.tuple #[.pointer none, .bool false]) w := fun w => by kernel_rfl
  have ta49 : ∀ w, (Instr.typeAssert (.iface 94 (.pointer (some ⟨g, 0, none⟩))) 20 49 true).run Tryz.prog w = .ok (.tuple #[.pointer none, .bool false]) w := fun w => by kernel_rfl
  have ta84 : ∀ w, (Instr.typeAssert (.iface 94 (.pointer (some ⟨g, 0, none⟩))) 20 84 true).run Tryz.prog w = .ok (.tuple #[.pointer none, .bool false]) w := fun w => by kernel_rfl
  have ta87 : ∀ w, (Instr.typeAssert (.iface 94 (.pointer (some ⟨g, 0, none⟩))) 20 87 true).run Tryz.prog w = .ok (.tuple #[.pointer none, .bool false]) w := fun w => by kernel_rfl
  have ta89 : ∀ w, (Instr.typeAssert (.iface 94 (.pointer (some ⟨g, 0, none⟩))) 20 89 true).run Tryz.prog w = .ok (.tuple #[.pointer none, .bool false]) w := fun w => by kernel_rfl
  have ta90 : ∀ w, (Instr.typeAssert (.iface 94 (.pointer (some ⟨g, 0, none⟩))) 20 90 true).run Tryz.prog w = .ok (.tuple #[.pointer none, .bool false]) w := fun w => by kernel_rfl
  have ta91 : ∀ w, (Instr.typeAssert (.iface 94 (.pointer (some ⟨g, 0, none⟩))) 20 91 true).run Tryz.prog w = .ok (.tuple #[.pointer none, .bool false]) w := fun w => by kernel_rfl
  have ta92 : ∀ w, (Instr.typeAssert (.iface 94 (.pointer (some ⟨g, 0, none⟩))) 20 92 true).run Tryz.prog w = .ok (.tuple #[.pointer none, .bool false]) w := fun w => by kernel_rfl
  have ta94 : ∀ w, (Instr.typeAssert (.iface 94 (.pointer (some ⟨g, 0, none⟩))) 20 94 true).run Tryz.prog w = .ok (.tuple #[(.pointer (some ⟨g, 0, none⟩)), .bool true]) w := fun w => by kernel_rfl
  cases h : natEnd (Lib.parseUintB 8 c.data.toList) with
  | ok v =>
    have HH := Aside0.mk h
    clear h
    go_enter Tryz.func12, Tryz.ntmps12
    go_wp2_with fail
    refine HP.out.mono ?_
    rintro x w1 ⟨v1, ev, rfl, h1, h2, hB⟩
    obtain ⟨rfl, rfl⟩ := h1 _ HH.out
    have hg1 := (Mods.of_below hB).blk HG.out id
    have hcg : w1.cell? ⟨g, 0, none⟩ = some (.int .u8 0) := (blk_cell hg1 0).trans rfl
    have hfg := blk_frozen hg1 0
    have HG1 := Aside0.mk hg1
    have HB := Aside0.mk hB
    clear h1 h2 hB hg1
    go_wp2_with fail
    go_ret
    refine ⟨_, _, rfl, set_cell HG1.out, fun u hu => (by cases hu; exact ⟨rfl, rfl⟩), fun hn => absurd rfl (hn _), (show Mods (· = g) w w1 from (Mods.of_below HB.out).mono (fun _ _ h => h.elim)).setCell (p := ⟨g, 0, none⟩) (.inl rfl) _⟩
  | range =>
    have HH := Aside0.mk h
    clear h
    go_enter Tryz.func12, Tryz.ntmps12
    go_wp2_with fail
    refine HP.out.mono ?_
    rintro x w1 ⟨v1, ev, rfl, h1, h2, hB⟩
    obtain ⟨N, rfl⟩ := h2 (fun u hu => (by rw [HH.out] at hu; cases hu))
    have HG1 := Aside0.mk ((Mods.of_below hB).blk HG.out id)
    have HB := Aside0.mk hB
    clear h1 h2 hB
    go_wp2_with fail
    go_ret
    exact ⟨_, _, rfl, (blk_cell HG1.out 0).trans rfl, fun u hu => (by cases hu), fun _ => ⟨N, rfl⟩, (Mods.of_below HB.out).mono (fun _ _ h => h.elim)⟩
  | _ =>
    have HH := Aside0.mk h
    clear h
    go_enter Tryz.func12, Tryz.ntmps12
    go_wp2_with fail
    refine HP.out.mono ?_
    rintro x w1 ⟨v1, ev, rfl, h1, h2, hB⟩
    obtain ⟨N, rfl⟩ := h2 (fun u hu => (by rw [HH.out] at hu; cases hu))
    have HG1 := Aside0.mk ((Mods.of_below hB).blk HG.out id)
    have HB := Aside0.mk hB
    clear h1 h2 hB
    go_wp2_with fail
    go_ret
    exact ⟨_, _, rfl, (blk_cell HG1.out 0).trans rfl, fun u hu => (by cases hu), fun _ => ⟨N, rfl⟩, (Mods.of_below HB.out).mono (fun _ _ h => h.elim)⟩

set_option maxHeartbeats 8000000 in
set_option maxRecDepth 100000 in
theorem scan_u16 (c : ByteArray) (A : Option Addr) (cap g t : Nat) (hs : c.size ≤ 1000) (w : World) (hE : Errs w) (hR : ReadsInt w .u8 A c.size (bytesOf c)) (hg : w.heap[g]? = some (.cells #[.int .u16 0] t (0, 0))) :
    Calls Tryz.prog 12 #[.slice A c.size cap, .iface 95 (.pointer (some ⟨g, 0, none⟩))] w (SPost .u16 g (natEnd (Lib.parseUintB 16 c.data.toList)) w) := by
  have HP := Aside0.mk (upuint16 c A cap hs w hE hR)
  have HG := Aside0.mk hg
  clear hE hR hg
  have ta48 : ∀ w, (Instr.typeAssert (.iface 95 (.pointer (some ⟨g, 0, none⟩))) 20 48 true).run Tryz.prog w = .ok (.tuple #[.pointer none, .bool false]) w := fun w => by kernel_rfl
  have ta49 : ∀ w, (Instr.typeAssert (.iface 95 (.pointer (some ⟨g, 0, none⟩))) 20 49 true).run Tryz.prog w = .ok (.tuple #[.pointer none, .bool false]) w := fun w => by kernel_rfl
  have ta84 : ∀ w, (Instr.typeAssert (.iface 95 (.pointer (some ⟨g, 0, none⟩))) 20 84 true).run Tryz.prog w = .ok (.tuple #[.pointer none, .bool false]) w := fun w => by kernel_rfl
  have ta87 : ∀ w, (Instr.typeAssert (.iface 95 (.pointer (some ⟨g, 0, none⟩))) 20 87 true).run Tryz.prog w = .ok (.tuple #[.pointer none, .bool false]) w := fun w => by kernel_rfl
  have ta89 : ∀ w, (Instr.typeAssert (.iface 95 (.pointer (some ⟨g, 0, none⟩))) 20 89 true).run Tryz.prog w = .ok (.tuple #[.pointer none, .bool false]) w := fun w => by kernel_rfl
  have ta90 : ∀ w, (Instr.typeAssert (.iface 95 (.pointer (some ⟨g, 0, none⟩))) 20 90 true).run Tryz.prog w = .ok (.tuple #[.pointer none, .bool false]) w := fun w => by kernel_rfl
  have ta91 : ∀ w, (Instr.typeAssert (.iface 95 (.pointer (some ⟨g, 0, none⟩))) 20 91 true).run Tryz.prog w = .ok (.tuple #[.pointer none, .bool false]) w := fun w => by kernel_rfl
  have ta92 : ∀ w, (Instr.typeAssert (.iface 95 (.pointer (some ⟨g, 0, none⟩))) 20 92 true).run Tryz.prog w = .ok (.tuple #[.pointer none, .bool false]) w := fun w => by kernel_rfl
  have ta94 : ∀ w, (Instr.typeAssert (.iface 95 (.pointer (some ⟨g, 0, none⟩))) 20 94 true).run Tryz.prog w = .ok (.tuple #[.pointer none, .bool false]) w := fun w => by kernel_rfl
  have ta95 : ∀ w, (Instr.typeAssert (.iface 95 (.pointer (some ⟨g, 0, none⟩))) 20 95 true).run Tryz.prog w = .ok (.tuple #[(.pointer (some ⟨g, 0, none⟩)), .bool true]) w := fun w => by kernel_rfl
  cases h : natEnd (Lib.parseUintB 16 c.data.toList) with
  | ok v =>
    have HH := Aside0.mk h
    clear h
    go_enter Tryz.func12, Tryz.ntmps12
    go_wp2_with fail
    refine HP.out.mono ?_
    rintro x w1 ⟨v1, ev, rfl, h1, h2, hB⟩
    obtain ⟨rfl, rfl⟩ := h1 _ HH.out
    have hg1 := (Mods.of_below hB).blk HG.out id
    have hcg : w1.cell? ⟨g, 0, none⟩ = some (.int .u16 0) := (blk_cell hg1 0).trans rfl
    have hfg := blk_frozen hg1 0
    have HG1 := Aside0.mk hg1
    have HB := Aside0.mk hB
    clear h1 h2 hB hg1
    go_wp2_with fail
    go_ret
    refine ⟨_, _, rfl, set_cell HG1.out, fun u hu => (by cases hu; exact ⟨rfl, rfl⟩), fun hn => absurd rfl (hn _), (show Mods (· = g) w w1 from (Mods.of_below HB.out).mono (fun _ _ h => h.elim)).setCell (p := ⟨g, 0, none⟩) (.inl rfl) _⟩
  | range =>
    have HH := Aside0.mk h
    clear h
    go_enter Tryz.func12, Tryz.ntmps12
    go_wp2_with fail
    refine HP.out.mono ?_
    rintro x w1 ⟨v1, ev, rfl, h1, h2, hB⟩
    obtain ⟨N, rfl⟩ := h2 (fun u hu => (by rw [HH.out] at hu; cases hu))
    have HG1 := Aside0.mk ((Mods.of_below hB).blk HG.out id)
    have HB := Aside0.mk hB
    clear h1 h2 hB
    go_wp2_with fail
    go_ret
    exact ⟨_, _, rfl, (blk_cell HG1.out 0).trans rfl, fun u hu => (by cases hu), fun _ => ⟨N, rfl⟩, (Mods.of_below HB.out).mono (fun _ _ h => h.elim)⟩
  | _ =>
    have HH := Aside0.mk h
    clear h
    go_enter Tryz.func12, Tryz.ntmps12
    go_wp2_with fail
    refine HP.out.mono ?_
    rintro x w1 ⟨v1, ev, rfl, h1, h2, hB⟩
    obtain ⟨N, rfl⟩ := h2 (fun u hu => (by rw [HH.out] at hu; cases hu))
    have HG1 := Aside0.mk ((Mods.of_below hB).blk HG.out id)
    have HB := Aside0.mk hB
    clear h1 h2 hB
    go_wp2_with fail
    go_ret
    exact ⟨_, _, rfl, (blk_cell HG1.out 0).trans rfl, fun u hu => (by cases hu), fun _ => ⟨N, rfl⟩, (Mods.of_below HB.out).mono (fun _ _ h => h.elim)⟩

set_option maxHeartbeats 8000000 in
set_option maxRecDepth 100000 in
theorem scan_u32 (c : ByteArray) (A : Option Addr) (cap g t : Nat) (hs : c.size ≤ 1000) (w : World) (hE : Errs w) (hR : ReadsInt w .u8 A c.size (bytesOf c)) (hg : w.heap[g]? = some (.cells #[.int .u32 0] t (0, 0))) :
    Calls Tryz.prog 12 #[.slice A c.size cap, .iface 96 (.pointer (some ⟨g, 0, none⟩))] w (SPost .u32 g (natEnd (Lib.parseUintB 32 c.data.toList)) w) := by
  have HP := Aside0.mk (upuint32 c A cap hs w hE hR)
  have HG := Aside0.mk hg
  clear hE hR hg
  have ta48 : ∀ w, (Instr.typeAssert (.iface 96 (.pointer (some ⟨g, 0, none⟩))) 20 48 true).run Tryz.prog w = .ok (.tuple #[.pointer none, .bool false]) w := fun w => by kernel_rfl
  have ta49 : ∀ w, (Instr.typeAssert (.iface 96 (.pointer (some ⟨g, 0, none⟩))) 20 49 true).run Tryz.prog w = .ok (.tuple #[.pointer none, .bool false]) w := fun w => by kernel_rfl
  have ta84 : ∀ w, (Instr.typeAssert (.iface 96 (.pointer (some ⟨g, 0, none⟩))) 20 84 true).run Tryz.prog w = .ok (.tuple #[.pointer none, .bool false]) w := fun w => by kernel_rfl
  have ta87 : ∀ w, (Instr.typeAssert (.iface 96 (.pointer (some ⟨g, 0, none⟩))) 20 87 true).run Tryz.prog w = .ok (.tuple #[.pointer none, .bool false]) w := fun w => by kernel_rfl
  have ta89 : ∀ w, (Instr.typeAssert (.iface 96 (.pointer (some ⟨g, 0, none⟩))) 20 89 true).run Tryz.prog w = .ok (.tuple #[.pointer none, .bool false]) w := fun w => by kernel_rfl
  have ta90 : ∀ w, (Instr.typeAssert (.iface 96 (.pointer (some ⟨g, 0, none⟩))) 20 90 true).run Tryz.prog w = .ok (.tuple #[.pointer none, .bool false]) w := fun w => by kernel_rfl
  have ta91 : ∀ w, (Instr.typeAssert (.iface 96 (.pointer (some ⟨g, 0, none⟩))) 20 91 true).run Tryz.prog w = .ok (.tuple #[.pointer none, .bool false]) w := fun w => by kernel_rfl
  have ta92 : ∀ w, (Instr.typeAssert (.iface 96 (.pointer (some ⟨g, 0, none⟩))) 20 92 true).run Tryz.prog w = .ok (.tuple #[.pointer none, .bool false]) w := fun w => by kernel_rfl
  have ta94 : ∀ w, (Instr.typeAssert (.iface 96 (.pointer (some ⟨g, 0, none⟩))) 20 94 true).run Tryz.prog w = .ok (.tuple #[.pointer none, .bool false]) w := fun w => by kernel_rfl
  have ta95 : ∀ w, (Instr.typeAssert (.iface 96 (.pointer (some ⟨g, 0, none⟩))) 20 95 true).run Tryz.prog w = .ok (.tuple #[.pointer none, .bool false]) w := fun w => by kernel_rfl
  have ta96 : ∀ w, (Instr.typeAssert (.iface 96 (.pointer (some ⟨g, 0, none⟩))) 20 96 true).run Tryz.prog w = .ok (.tuple #[(.pointer (some ⟨g, 0, none⟩)), .bool true]) w := fun w => by kernel_rfl
  cases h : natEnd (Lib.parseUintB 32 c.data.toList) with
  | ok v =>
    have HH := Aside0.mk h
    clear h
    go_enter Tryz.func12, Tryz.ntmps12
    go_wp2_with fail
    refine HP.out.mono ?_
    rintro x w1 ⟨v1, ev, rfl, h1, h2, hB⟩
    obtain ⟨rfl, rfl⟩ := h1 _ HH.out
    have hg1 := (Mods.of_below hB).blk HG.out id
    have hcg : w1.cell? ⟨g, 0, none⟩ = some (.int .u32 0) := (blk_cell hg1 0).trans rfl
    have hfg := blk_frozen hg1 0
    have HG1 := Aside0.mk hg1
    have HB := Aside0.mk hB
    clear h1 h2 hB hg1
    go_wp2_with fail
    go_ret
    refine ⟨_, _, rfl, set_cell HG1.out, fun u hu => (by cases hu; exact ⟨rfl, rfl⟩), fun hn => absurd rfl (hn _), (show Mods (· = g) w w1 from (Mods.of_below HB.out).mono (fun _ _ h => h.elim)).setCell (p := ⟨g, 0, none⟩) (.inl rfl) _⟩
  | range =>
    have HH := Aside0.mk h
    clear h
    go_enter Tryz.func12, Tryz.ntmps12
    go_wp2_with fail
    refine HP.out.mono ?_
    rintro x w1 ⟨v1, ev, rfl, h1, h2, hB⟩
    obtain ⟨N, rfl⟩ := h2 (fun u hu => (by rw [HH.out] at hu; cases hu))
    have HG1 := Aside0.mk ((Mods.of_below hB).blk HG.out id)
    have HB := Aside0.mk hB
    clear h1 h2 hB
    go_wp2_with fail
    go_ret
    exact ⟨_, _, rfl, (blk_cell HG1.out 0).trans rfl, fun u hu => (by cases hu), fun _ => ⟨N, rfl⟩, (Mods.of_below HB.out).mono (fun _ _ h => h.elim)⟩
  | _ =>
    have HH := Aside0.mk h
    clear h
    go_enter Tryz.func12, Tryz.ntmps12
    go_wp2_with fail
    refine HP.out.mono ?_
    rintro x w1 ⟨v1, ev, rfl, h1, h2, hB⟩
    obtain ⟨N, rfl⟩ := h2 (fun u hu => (by rw [HH.out] at hu; cases hu))
    have HG1 := Aside0.mk ((Mods.of_below hB).blk HG.out id)
    have HB := Aside0.mk hB
    clear h1 h2 hB
    go_wp2_with fail
    go_ret
    exact ⟨_, _, rfl, (blk_cell HG1.out 0).trans rfl, fun u hu => (by cases hu), fun _ => ⟨N, rfl⟩, (Mods.of_below HB.out).mono (fun _ _ h => h.elim)⟩

set_option maxHeartbeats 8000000 in
set_option maxRecDepth 100000 in
theorem scan_u64 (c : ByteArray) (A : Option Addr) (cap g t : Nat) (hs : c.size ≤ 1000) (w : World) (hE : Errs w) (hR : ReadsInt w .u8 A c.size (bytesOf c)) (hg : w.heap[g]? = some (.cells #[.int .u64 0] t (0, 0))) :
    Calls Tryz.prog 12 #[.slice A c.size cap, .iface 97 (.pointer (some ⟨g, 0, none⟩))] w (SPost .u64 g (natEnd (Lib.parseUintB 64 c.data.toList)) w) := by
  have HP := Aside0.mk (upuint64 c A cap hs w hE hR)
  have HG := Aside0.mk hg
  clear hE hR hg
  have ta48 : ∀ w, (Instr.typeAssert (.iface 97 (.pointer (some ⟨g, 0, none⟩))) 20 48 true).run Tryz.prog w = .ok (.tuple #[.pointer none, .bool false]) w := fun w => by kernel_rfl
  have ta49 : ∀ w, (Instr.typeAssert (.iface 97 (.pointer (some ⟨g, 0, none⟩))) 20 49 true).run Tryz.prog w = .ok (.tuple #[.pointer none, .bool false]) w := fun w => by kernel_rfl
  have ta84 : ∀ w, (Instr.typeAssert (.iface 97 (.pointer (some ⟨g, 0, none⟩))) 20 84 true).run Tryz.prog w = .ok (.tuple #[.pointer none, .bool false]) w := fun w => by kernel_rfl
  have ta87 : ∀ w, (Instr.typeAssert (.iface 97 (.pointer (some ⟨g, 0, none⟩))) 20 87 true).run Tryz.prog w = .ok (.tuple #[.pointer none, .bool false]) w := fun w => by kernel_rfl
  have ta89 : ∀ w, (Instr.typeAssert (.iface 97 (.pointer (some ⟨g, 0, none⟩))) 20 89 true).run Tryz.prog w = .ok (.tuple #[.pointer none, .bool false]) w := fun w => by kernel_rfl
  have ta90 : ∀ w, (Instr.typeAssert (.iface 97 (.pointer (some ⟨g, 0, none⟩))) 20 90 true).run Tryz.prog w = .ok (.tuple #[.pointer none, .bool false]) w := fun w => by kernel_rfl
  have ta91 : ∀ w, (Instr.typeAssert (.iface 97 (.pointer (some ⟨g, 0, none⟩))) 20 91 true).run Tryz.prog w = .ok (.tuple #[.pointer none, .bool false]) w := fun w => by kernel_rfl
  have ta92 : ∀ w, (Instr.typeAssert (.iface 97 (.pointer (some ⟨g, 0, none⟩))) 20 92 true).run Tryz.prog w = .ok (.tuple #[.pointer none, .bool false]) w := fun w => by kernel_rfl
  have ta94 : ∀ w, (Instr.typeAssert (.iface 97 (.pointer (some ⟨g, 0, none⟩))) 20 94 true).run Tryz.prog w = .ok (.tuple #[.pointer none, .bool false]) w := fun w => by kernel_rfl
  have ta95 : ∀ w, (Instr.typeAssert (.iface 97 (.pointer (some ⟨g, 0, none⟩))) 20 95 true).run Tryz.prog w = .ok (.tuple #[.pointer none, .bool false]) w := fun w => by kernel_rfl
  have ta96 : ∀ w, (Instr.typeAssert (.iface 97 (.pointer (some ⟨g, 0, none⟩))) 20 96 true).run Tryz.prog w = .ok (.tuple #[.pointer none, .bool false]) w := fun w => by kernel_rfl
  have ta97 : ∀ w, (Instr.typeAssert (.iface 97 (.pointer (some ⟨g, 0, none⟩))) 20 97 true).run Tryz.prog w = .ok (.tuple #[(.pointer (some ⟨g, 0, none⟩)), .bool true]) w := fun w => by kernel_rfl
  cases h : natEnd (Lib.parseUintB 64 c.data.toList) with
  | ok v =>
    have HH := Aside0.mk h
    clear h
    go_enter Tryz.func12, Tryz.ntmps12
    go_wp2_with fail
    refine HP.out.mono ?_
    rintro x w1 ⟨v1, ev, rfl, h1, h2, hB⟩
    obtain ⟨rfl, rfl⟩ := h1 _ HH.out
    have hg1 := (Mods.of_below hB).blk HG.out id
    have hcg : w1.cell? ⟨g, 0, none⟩ = some (.int .u64 0) := (blk_cell hg1 0).trans rfl
    have hfg := blk_frozen hg1 0
    have HG1 := Aside0.mk hg1
    have HB := Aside0.mk hB
    clear h1 h2 hB hg1
    go_wp2_with fail
    go_ret
    refine ⟨_, _, rfl, set_cell HG1.out, fun u hu => (by cases hu; exact ⟨rfl, (uintB_wrap HH.out).symm⟩), fun hn => absurd rfl (hn _), (show Mods (· = g) w w1 from (Mods.of_below HB.out).mono (fun _ _ h => h.elim)).setCell (p := ⟨g, 0, none⟩) (.inl rfl) _⟩
  | range =>
    have HH := Aside0.mk h
    clear h
    go_enter Tryz.func12, Tryz.ntmps12
    go_wp2_with fail
    refine HP.out.mono ?_
    rintro x w1 ⟨v1, ev, rfl, h1, h2, hB⟩
    obtain ⟨N, rfl⟩ := h2 (fun u hu => (by rw [HH.out] at hu; cases hu))
    have HG1 := Aside0.mk ((Mods.of_below hB).blk HG.out id)
    have HB := Aside0.mk hB
    clear h1 h2 hB
    go_wp2_with fail
    go_ret
    exact ⟨_, _, rfl, (blk_cell HG1.out 0).trans rfl, fun u hu => (by cases hu), fun _ => ⟨N, rfl⟩, (Mods.of_below HB.out).mono (fun _ _ h => h.elim)⟩
  | _ =>
    have HH := Aside0.mk h
    clear h
    go_enter Tryz.func12, Tryz.ntmps12
    go_wp2_with fail
    refine HP.out.mono ?_
    rintro x w1 ⟨v1, ev, rfl, h1, h2, hB⟩
    obtain ⟨N, rfl⟩ := h2 (fun u hu => (by rw [HH.out] at hu; cases hu))
    have HG1 := Aside0.mk ((Mods.of_below hB).blk HG.out id)
    have HB := Aside0.mk hB
    clear h1 h2 hB
    go_wp2_with fail
    go_ret
    exact ⟨_, _, rfl, (blk_cell HG1.out 0).trans rfl, fun u hu => (by cases hu), fun _ => ⟨N, rfl⟩, (Mods.of_below HB.out).mono (fun _ _ h => h.elim)⟩

set_option maxHeartbeats 8000000 in
set_option maxRecDepth 100000 in
theorem scan_int (c : ByteArray) (A : Option Addr) (cap g t : Nat) (hs : c.size ≤ 1000) (w : World) (hE : Errs w) (hR : ReadsInt w .u8 A c.size (bytesOf c)) (hg : w.heap[g]? = some (.cells #[.int .i64 0] t (0, 0))) :
    Calls Tryz.prog 12 #[.slice A c.size cap, .iface 84 (.pointer (some ⟨g, 0, none⟩))] w (SPost .i64 g (Lib.parseIntB 64 c.data.toList) w) := by
  have HP := Aside0.mk (uatoi c A cap hs w hE hR)
  have HG := Aside0.mk hg
  clear hE hR hg
  have ta48 : ∀ w, (Instr.typeAssert (.iface 84 (.pointer (some ⟨g, 0, none⟩))) 20 48 true).run Tryz.prog w = .ok (.tuple #[.pointer none, .bool false]) w := fun w => by kernel_rfl
  have ta49 : ∀ w, (Instr.typeAssert (.iface 84 (.pointer (some ⟨g, 0, none⟩))) 20 49 true).run Tryz.prog w = .ok (.tuple #[.pointer none, .bool false]) w := fun w => by kernel_rfl
  have ta84 : ∀ w, (Instr.typeAssert (.iface 84 (.pointer (some ⟨g, 0, none⟩))) 20 84 true).run Tryz.prog w = .ok (.tuple #[(.pointer (some ⟨g, 0, none⟩)), .bool true]) w := fun w => by kernel_rfl
  go_enter Tryz.func12, Tryz.ntmps12
  go_wp2_with fail
  refine HP.out.mono ?_
  rintro x w1 ⟨v1, ev, rfl, h1, h2, hB⟩
  have hg1 := (Mods.of_below hB).blk HG.out id
  have hcg : w1.cell? ⟨g, 0, none⟩ = some (.int .i64 0) := (blk_cell hg1 0).trans rfl
  have hfg := blk_frozen hg1 0
  have HG1 := Aside0.mk hg1
  have HB := Aside0.mk hB
  have H1 := Aside0.mk h1
  have H2 := Aside0.mk h2
  clear h1 h2 hB hg1
  go_wp2_with fail
  go_ret
  refine ⟨_, _, rfl, set_cell HG1.out, fun u hu => ?_, H2.out, (show Mods (· = g) w w1 from (Mods.of_below HB.out).mono (fun _ _ h => h.elim)).setCell (p := ⟨g, 0, none⟩) (.inl rfl) _⟩
  obtain ⟨e1, e2⟩ := H1.out u hu
  exact ⟨e2, by rw [e1, intB_wrap hu]⟩
end
end Go.Proofs.YtohadobpiclllaaGreatDoor
