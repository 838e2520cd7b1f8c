/- proto.Scan into texts, bytes, floats, truth values. proto.Scan into bytes. -/
import Derived.Test.YtohadobpiclllaaGreatDoorMs
import Derived.Laws.MakeOwn
import Derived.Laws.CopyRow
namespace Go.Proofs.YtohadobpiclllaaGreatDoor
section
open Go.RowKit Go.Proofs.YtohadobpiclllaaGreatDoorW.PrintWords Go.Proofs.YtohadobpiclllaaGreatDoorW.PrintMore Go.Proofs.YtohadobpiclllaaGreatDoorW.PrintLast Go.Proofs.YtohadobpiclllaaGreatDoor.PFnRespScan
attribute [local go_sem] max2_int min2_int max_two min_two max_three min_three max_four min_four
set_option linter.unusedVariables false
set_option linter.unusedSimpArgs false

/-- Scan leaves v in its cell. -/
def VPost (g : Nat) (v : Value) (w : World) (x : Ending) (w' : World) : Prop := x = .returned .nilIface ∧ w'.cell? ⟨g, 0, none⟩ = some v ∧ Mods (· = g) w w'

set_option maxHeartbeats 8000000 in
set_option maxRecDepth 100000 in
theorem scan_str (c : ByteArray) (A : Option Addr) (cap g t : Nat) (w : World) (hR : ReadsInt w .u8 A c.size (bytesOf c)) (hg : w.heap[g]? = some (.cells #[.string ⟨#[]⟩] t (0, 0))) :
    Calls Tryz.prog 12 #[.slice A c.size cap, .iface 48 (.pointer (some ⟨g, 0, none⟩))] w (VPost g (.string c) w) := by
  have HS := Aside0.mk (b2s_calls w A c cap hR)
  have HG := Aside0.mk hg
  have hcg : w.cell? ⟨g, 0, none⟩ = some (.string ⟨#[]⟩) := (blk_cell hg 0).trans rfl
  have hfg := blk_frozen hg 0
  clear hR hg
  have ta48 : ∀ w, (Instr.typeAssert (.iface 48 (.pointer (some ⟨g, 0, none⟩))) 20 48 true).run Tryz.prog w = .ok (.tuple #[(.pointer (some ⟨g, 0, none⟩)), .bool true]) w := fun w => by kernel_rfl
  go_enter Tryz.func12, Tryz.ntmps12
  go_wp2_with fail
  refine HS.out.mono ?_
  rintro x w1 ⟨rfl, rfl⟩
  go_wp2_with fail
  go_ret
  exact ⟨rfl, set_cell HG.out, (Mods.refl (· = g) w).setCell (p := ⟨g, 0, none⟩) (.inl rfl) _⟩

/-- Is a text the sign 1 alone? -/
theorem is_one (c : ByteArray) : (c.toList == [49]) = (decide (c.size = 1) && decide (cb c 0 = 49)) := by
  rw [ByteArray.toList_eq]
  cases c
  rename_i d
  show (d.toList == [49]) = (decide (d.size = 1) && _)
  cases d
  rename_i l
  cases l with
  | nil => rfl
  | cons a r =>
    cases r with
    | nil =>
      have e1 : cb ⟨⟨[a]⟩⟩ 0 = (a.toNat : Int) := rfl
      rw [e1]
      show (([a] : List UInt8) == [49]) = (true && decide ((a.toNat : Int) = 49))
      by_cases h : a = 49
      · subst h; rfl
      · have h2 : ¬ ((a.toNat : Int) = 49) := fun e => h (by
          have : a.toNat = 49 := by omega
          exact UInt8.toNat_inj.mp this)
        rw [decide_eq_false h2]
        exact beq_eq_false_iff_ne.mpr (fun e => h (by injection e))
    | cons b r =>
      have h1 : ¬ ((⟨a :: b :: r⟩ : Array UInt8).size = 1) := by
        show ¬ (r.length + 1 + 1 = 1)
        omega
      rw [decide_eq_false h1]
      exact beq_eq_false_iff_ne.mpr (fun e => (by injection e with _ e; cases e))

set_option maxHeartbeats 8000000 in
set_option maxRecDepth 100000 in
theorem scan_bool (c : ByteArray) (q cap g t : Nat) (w : World) (hR : 0 < c.size → w.cell? ⟨q, 0, none⟩ = some (.int .u8 (cb c 0))) (hg : w.heap[g]? = some (.cells #[.bool false] t (0, 0))) (hs : c.size ≤ 1000) :
    Calls Tryz.prog 12 #[.slice (some ⟨q, 0, none⟩) c.size cap, .iface 61 (.pointer (some ⟨g, 0, none⟩))] w (VPost g (.bool (c.toList == [49])) w) := by
  have HG := Aside0.mk hg
  have hcg : w.cell? ⟨g, 0, none⟩ = some (.bool false) := (blk_cell hg 0).trans rfl
  have hfg := blk_frozen hg 0
  clear hg
  have ta48 : ∀ w, (Instr.typeAssert (.iface 61 (.pointer (some ⟨g, 0, none⟩))) 20 48 true).run Tryz.prog w = .ok (.tuple #[.pointer none, .bool false]) w := fun w => by kernel_rfl
  have ta49 : ∀ w, (Instr.typeAssert (.iface 61 (.pointer (some ⟨g, 0, none⟩))) 20 49 true).run Tryz.prog w = .ok (.tuple #[.pointer none, .bool false]) w := fun w => by kernel_rfl
  have ta84 : ∀ w, (Instr.typeAssert (.iface 61 (.pointer (some ⟨g, 0, none⟩))) 20 84 true).run Tryz.prog w = .ok (.tuple #[.pointer none, .bool false]) w := fun w => by kernel_rfl
  have ta87 : ∀ w, (Instr.typeAssert (.iface 61 (.pointer (some ⟨g, 0, none⟩))) 20 87 true).run Tryz.prog w = .ok (.tuple #[.pointer none, .bool false]) w := fun w => by kernel_rfl
  have ta89 : ∀ w, (Instr.typeAssert (.iface 61 (.pointer (some ⟨g, 0, none⟩))) 20 89 true).run Tryz.prog w = .ok (.tuple #[.pointer none, .bool false]) w := fun w => by kernel_rfl
  have ta90 : ∀ w, (Instr.typeAssert (.iface 61 (.pointer (some ⟨g, 0, none⟩))) 20 90 true).run Tryz.prog w = .ok (.tuple #[.pointer none, .bool false]) w := fun w => by kernel_rfl
  have ta91 : ∀ w, (Instr.typeAssert (.iface 61 (.pointer (some ⟨g, 0, none⟩))) 20 91 true).run Tryz.prog w = .ok (.tuple #[.pointer none, .bool false]) w := fun w => by kernel_rfl
  have ta92 : ∀ w, (Instr.typeAssert (.iface 61 (.pointer (some ⟨g, 0, none⟩))) 20 92 true).run Tryz.prog w = .ok (.tuple #[.pointer none, .bool false]) w := fun w => by kernel_rfl
  have ta94 : ∀ w, (Instr.typeAssert (.iface 61 (.pointer (some ⟨g, 0, none⟩))) 20 94 true).run Tryz.prog w = .ok (.tuple #[.pointer none, .bool false]) w := fun w => by kernel_rfl
  have ta95 : ∀ w, (Instr.typeAssert (.iface 61 (.pointer (some ⟨g, 0, none⟩))) 20 95 true).run Tryz.prog w = .ok (.tuple #[.pointer none, .bool false]) w := fun w => by kernel_rfl
  have ta96 : ∀ w, (Instr.typeAssert (.iface 61 (.pointer (some ⟨g, 0, none⟩))) 20 96 true).run Tryz.prog w = .ok (.tuple #[.pointer none, .bool false]) w := fun w => by kernel_rfl
  have ta97 : ∀ w, (Instr.typeAssert (.iface 61 (.pointer (some ⟨g, 0, none⟩))) 20 97 true).run Tryz.prog w = .ok (.tuple #[.pointer none, .bool false]) w := fun w => by kernel_rfl
  have ta58 : ∀ w, (Instr.typeAssert (.iface 61 (.pointer (some ⟨g, 0, none⟩))) 20 58 true).run Tryz.prog w = .ok (.tuple #[.pointer none, .bool false]) w := fun w => by kernel_rfl
  have ta60 : ∀ w, (Instr.typeAssert (.iface 61 (.pointer (some ⟨g, 0, none⟩))) 20 60 true).run Tryz.prog w = .ok (.tuple #[.pointer none, .bool false]) w := fun w => by kernel_rfl
  have ta61 : ∀ w, (Instr.typeAssert (.iface 61 (.pointer (some ⟨g, 0, none⟩))) 20 61 true).run Tryz.prog w = .ok (.tuple #[(.pointer (some ⟨g, 0, none⟩)), .bool true]) w := fun w => by kernel_rfl
  rw [is_one]
  by_cases h1 : c.size = 1
  · have hcq := hR (by omega)
    have h1' : ((c.size : Int) == 1) = true := beq_iff_eq.mpr (by omega)
    have h2 : (0 : Int) < (c.size : Int) := by omega
    rw [decide_eq_true h1, Bool.true_and]
    obtain ⟨x, hx⟩ : ∃ x, cb c 0 = x := ⟨_, rfl⟩
    rw [hx] at hcq ⊢
    have HX : Aside0 (decide (x = 49) = (x == 49)) := ⟨by by_cases h : x = 49 <;> simp [h]⟩
    rw [HX.out]
    clear hx hR h1
    go_enter Tryz.func12, Tryz.ntmps12
    go_wp2_with fail
    go_ret
    exact ⟨rfl, set_cell HG.out, (Mods.refl (· = g) w).setCell (p := ⟨g, 0, none⟩) (.inl rfl) _⟩
  · have h1' : ((c.size : Int) == 1) = false := beq_eq_false_iff_ne.mpr (by omega)
    rw [decide_eq_false h1, Bool.false_and]
    clear hR h1
    go_enter Tryz.func12, Tryz.ntmps12
    go_wp2_with fail
    go_ret
    exact ⟨rfl, set_cell HG.out, (Mods.refl (· = g) w).setCell (p := ⟨g, 0, none⟩) (.inl rfl) _⟩

theorem run_store_float {P : Program} {w : World} {a : Addr} {m : Mode} (k : FloatKind) (b : Nat) : (store a (.float k b) m).run P w = stored P w a (.float k b) m := run_store P w a _ m rfl
attribute [local go_sem] run_store_float
theorem gives_any (B : Nat) : ∃ R, Gives R B := by
  obtain ⟨r, _, h⟩ := wide_any u57 u59 B
  exact ⟨r, h⟩

/-- What Scan leaves, into a float32. -/
def F32Post (g R : Nat) (bad : Bool) (w : World) (x : Ending) (w' : World) : Prop := ∃ ev B, x = .returned ev ∧ w'.cell? ⟨g, 0, none⟩ = some (.float .f32 B) ∧ (bad = false → ev = .nilIface ∧ Gives R B) ∧ (bad = true → ∃ N, ev = .iface 136 (.pointer (some ⟨N, 0, none⟩))) ∧ Mods (· = g) w w'
/-- What Scan leaves, into a float64. -/
def F64Post (g R : Nat) (bad : Bool) (w : World) (x : Ending) (w' : World) : Prop := ∃ ev y, x = .returned ev ∧ w'.cell? ⟨g, 0, none⟩ = some (.float .f64 y) ∧ (bad = false → ev = .nilIface ∧ FA R y) ∧ (bad = true → ∃ N, ev = .iface 136 (.pointer (some ⟨N, 0, none⟩))) ∧ Mods (· = g) w w'

set_option maxHeartbeats 8000000 in
set_option maxRecDepth 100000 in
theorem scan_f32 {X : TabX} {c : ByteArray} {R : Nat} {bad : Bool} (hp : PfAt X c 32 R bad) (hb : Back R) (A : Option Addr) (cap g t : Nat) (w : World) (hT : Tabs w X) (hE : Errs w) (hR : ReadsInt w .u8 A c.size (bytesOf c)) (hg : w.heap[g]? = some (.cells #[.float .f32 0] t (0, 0))) :
    Calls Tryz.prog 12 #[.slice A c.size cap, .iface 58 (.pointer (some ⟨g, 0, none⟩))] w (F32Post g R bad w) := by
  have HS := Aside0.mk (upfloat hp A cap w hT hE hR)
  have HG := Aside0.mk hg
  have HBK := Aside0.mk hb
  clear hR hg hT hE hp hb
  have ta48 : ∀ w, (Instr.typeAssert (.iface 58 (.pointer (some ⟨g, 0, none⟩))) 20 48 true).run Tryz.prog w = .ok (.tuple #[.pointer none, .bool false]) w := fun w => by kernel_rfl
  have ta49 : ∀ w, (Instr.typeAssert (.iface 58 (.pointer (some ⟨g, 0, none⟩))) 20 49 true).run Tryz.prog w = .ok (.tuple #[.pointer none, .bool false]) w := fun w => by kernel_rfl
  have ta84 : ∀ w, (Instr.typeAssert (.iface 58 (.pointer (some ⟨g, 0, none⟩))) 20 84 true).run Tryz.prog w = .ok (.tuple #[.pointer none, .bool false]) w := fun w => by kernel_rfl
  have ta87 : ∀ w, (Instr.typeAssert (.iface 58 (.pointer (some ⟨g, 0, none⟩))) 20 87 true).run Tryz.prog w = .ok (.tuple #[.pointer none, .bool false]) w := fun w => by kernel_rfl
  have ta89 : ∀ w, (Instr.typeAssert (.iface 58 (.pointer (some ⟨g, 0, none⟩))) 20 89 true).run Tryz.prog w = .ok (.tuple #[.pointer none, .bool false]) w := fun w => by kernel_rfl
  have ta90 : ∀ w, (Instr.typeAssert (.iface 58 (.pointer (some ⟨g, 0, none⟩))) 20 90 true).run Tryz.prog w = .ok (.tuple #[.pointer none, .bool false]) w := fun w => by kernel_rfl
  have ta91 : ∀ w, (Instr.typeAssert (.iface 58 (.pointer (some ⟨g, 0, none⟩))) 20 91 true).run Tryz.prog w = .ok (.tuple #[.pointer none, .bool false]) w := fun w => by kernel_rfl
  have ta92 : ∀ w, (Instr.typeAssert (.iface 58 (.pointer (some ⟨g, 0, none⟩))) 20 92 true).run Tryz.prog w = .ok (.tuple #[.pointer none, .bool false]) w := fun w => by kernel_rfl
  have ta94 : ∀ w, (Instr.typeAssert (.iface 58 (.pointer (some ⟨g, 0, none⟩))) 20 94 true).run Tryz.prog w = .ok (.tuple #[.pointer none, .bool false]) w := fun w => by kernel_rfl
  have ta95 : ∀ w, (Instr.typeAssert (.iface 58 (.pointer (some ⟨g, 0, none⟩))) 20 95 true).run Tryz.prog w = .ok (.tuple #[.pointer none, .bool false]) w := fun w => by kernel_rfl
  have ta96 : ∀ w, (Instr.typeAssert (.iface 58 (.pointer (some ⟨g, 0, none⟩))) 20 96 true).run Tryz.prog w = .ok (.tuple #[.pointer none, .bool false]) w := fun w => by kernel_rfl
  have ta97 : ∀ w, (Instr.typeAssert (.iface 58 (.pointer (some ⟨g, 0, none⟩))) 20 97 true).run Tryz.prog w = .ok (.tuple #[.pointer none, .bool false]) w := fun w => by kernel_rfl
  have ta58 : ∀ w, (Instr.typeAssert (.iface 58 (.pointer (some ⟨g, 0, none⟩))) 20 58 true).run Tryz.prog w = .ok (.tuple #[(.pointer (some ⟨g, 0, none⟩)), .bool true]) w := fun w => by kernel_rfl
  go_enter Tryz.func12, Tryz.ntmps12
  go_wp2_with fail
  refine HS.out.mono ?_
  rintro x w1 ⟨y, ev, rfl, h1, h2, hB⟩
  have hg1 := (Mods.of_below hB).blk HG.out id
  have hcg : w1.cell? ⟨g, 0, none⟩ = some (.float .f32 0) := (blk_cell hg1 0).trans rfl
  have hfg := blk_frozen hg1 0
  have HG1 := Aside0.mk hg1
  have HB := Aside0.mk hB
  cases bad
  · obtain ⟨rfl, hfa⟩ := h1 rfl
    obtain ⟨B, k, hcv, hgv⟩ := narrow_back u57 u59 HBK.out hfa w1
    have HGV := Aside0.mk hgv
    clear h1 h2 hB hg1 hfa hgv
    go_wp2_with fail
    go_ret
    refine ⟨_, B, rfl, ?_, fun _ => ⟨rfl, HGV.out⟩, fun h => (by cases h), ?_⟩
    · exact set_cell (w := w1) HG1.out
    · exact ((show Mods (· = g) w w1 from (Mods.of_below HB.out).mono (fun _ _ h => h.elim)).setCell (p := ⟨g, 0, none⟩) (.inl rfl) _).drewN k
  · obtain ⟨N, rfl⟩ := h2 rfl
    clear h1 h2 hB hg1
    go_wp2_with fail
    go_ret
    exact ⟨_, 0, rfl, (blk_cell HG1.out 0).trans rfl, fun h => (by cases h), fun _ => ⟨N, rfl⟩, (Mods.of_below HB.out).mono (fun _ _ h => h.elim)⟩

set_option maxHeartbeats 8000000 in
set_option maxRecDepth 100000 in
theorem scan_f64 {X : TabX} {c : ByteArray} {R : Nat} {bad : Bool} (hp : PfAt X c 64 R bad) (A : Option Addr) (cap g t : Nat) (w : World) (hT : Tabs w X) (hE : Errs w) (hR : ReadsInt w .u8 A c.size (bytesOf c)) (hg : w.heap[g]? = some (.cells #[.float .f64 0] t (0, 0))) :
    Calls Tryz.prog 12 #[.slice A c.size cap, .iface 60 (.pointer (some ⟨g, 0, none⟩))] w (F64Post g R bad w) := by
  have HS := Aside0.mk (upfloat hp A cap w hT hE hR)
  have HG := Aside0.mk hg
  clear hR hg hT hE hp
  have ta48 : ∀ w, (Instr.typeAssert (.iface 60 (.pointer (some ⟨g, 0, none⟩))) 20 48 true).run Tryz.prog w = .ok (.tuple #[.pointer none, .bool false]) w := fun w => by kernel_rfl
  have ta49 : ∀ w, (Instr.typeAssert (.iface 60 (.pointer (some ⟨g, 0, none⟩))) 20 49 true).run Tryz.prog w = .ok (.tuple #[.pointer none, .bool false]) w := fun w => by kernel_rfl
  have ta84 : ∀ w, (Instr.typeAssert (.iface 60 (.pointer (some ⟨g, 0, none⟩))) 20 84 true).run Tryz.prog w = .ok (.tuple #[.pointer none, .bool false]) w := fun w => by kernel_rfl
  have ta87 : ∀ w, (Instr.typeAssert (.iface 60 (.pointer (some ⟨g, 0, none⟩))) 20 87 true).run Tryz.prog w = .ok (.tuple #[.pointer none, .bool false]) w := fun w => by kernel_rfl
  have ta89 : ∀ w, (Instr.typeAssert (.iface 60 (.pointer (some ⟨g, 0, none⟩))) 20 89 true).run Tryz.prog w = .ok (.tuple #[.pointer none, .bool false]) w := fun w => by kernel_rfl
  have ta90 : ∀ w, (Instr.typeAssert (.iface 60 (.pointer (some ⟨g, 0, none⟩))) 20 90 true).run Tryz.prog w = .ok (.tuple #[.pointer none, .bool false]) w := fun w => by kernel_rfl
  have ta91 : ∀ w, (Instr.typeAssert (.iface 60 (.pointer (some ⟨g, 0, none⟩))) 20 91 true).run Tryz.prog w = .ok (.tuple #[.pointer none, .bool false]) w := fun w => by kernel_rfl
  have ta92 : ∀ w, (Instr.typeAssert (.iface 60 (.pointer (some ⟨g, 0, none⟩))) 20 92 true).run Tryz.prog w = .ok (.tuple #[.pointer none, .bool false]) w := fun w => by kernel_rfl
  have ta94 : ∀ w, (Instr.typeAssert (.iface 60 (.pointer (some ⟨g, 0, none⟩))) 20 94 true).run Tryz.prog w = .ok (.tuple #[.pointer none, .bool false]) w := fun w => by kernel_rfl
  have ta95 : ∀ w, (Instr.typeAssert (.iface 60 (.pointer (some ⟨g, 0, none⟩))) 20 95 true).run Tryz.prog w = .ok (.tuple #[.pointer none, .bool false]) w := fun w => by kernel_rfl
  have ta96 : ∀ w, (Instr.typeAssert (.iface 60 (.pointer (some ⟨g, 0, none⟩))) 20 96 true).run Tryz.prog w = .ok (.tuple #[.pointer none, .bool false]) w := fun w => by kernel_rfl
  have ta97 : ∀ w, (Instr.typeAssert (.iface 60 (.pointer (some ⟨g, 0, none⟩))) 20 97 true).run Tryz.prog w = .ok (.tuple #[.pointer none, .bool false]) w := fun w => by kernel_rfl
  have ta58 : ∀ w, (Instr.typeAssert (.iface 60 (.pointer (some ⟨g, 0, none⟩))) 20 58 true).run Tryz.prog w = .ok (.tuple #[.pointer none, .bool false]) w := fun w => by kernel_rfl
  have ta60 : ∀ w, (Instr.typeAssert (.iface 60 (.pointer (some ⟨g, 0, none⟩))) 20 60 true).run Tryz.prog w = .ok (.tuple #[(.pointer (some ⟨g, 0, none⟩)), .bool true]) w := fun w => by kernel_rfl
  go_enter Tryz.func12, Tryz.ntmps12
  go_wp2_with fail
  refine HS.out.mono ?_
  rintro x w1 ⟨y, ev, rfl, h1, h2, hB⟩
  have hg1 := (Mods.of_below hB).blk HG.out id
  have hcg : w1.cell? ⟨g, 0, none⟩ = some (.float .f64 0) := (blk_cell hg1 0).trans rfl
  have hfg := blk_frozen hg1 0
  have HG1 := Aside0.mk hg1
  have HB := Aside0.mk hB
  have H1 := Aside0.mk h1
  have H2 := Aside0.mk h2
  clear h1 h2 hB hg1
  go_wp2_with fail
  go_ret
  exact ⟨_, y, rfl, set_cell HG1.out, H1.out, H2.out, (show Mods (· = g) w w1 from (Mods.of_below HB.out).mono (fun _ _ h => h.elim)).setCell (p := ⟨g, 0, none⟩) (.inl rfl) _⟩
end

section
open Go.RowKit Go.Proofs.YtohadobpiclllaaGreatDoorW.PrintWords Go.Proofs.YtohadobpiclllaaGreatDoorW.PrintMore Go.Proofs.YtohadobpiclllaaGreatDoorW.PrintLast Go.Proofs.YtohadobpiclllaaGreatDoor.PFnRespScan
attribute [local go_sem] max2_int min2_int max_two min_two max_three min_three max_four min_four
set_option linter.unusedVariables false
set_option linter.unusedSimpArgs false

theorem byte_info : ∃ i, Tryz.prog.info? 5 = some i ∧ i.zero = some (.int .u8 0) ∧ i.size = 1 ∧ i.bytes = 1 := by
  cases h : Tryz.prog.info? 5 with
  | none => exact absurd (show (Tryz.prog.info? 5).isSome = true by kernel_rfl) (by rw [h]; decide)
  | some i =>
    have h1 : ((Tryz.prog.info? 5).map fun i => (i.size, i.bytes)) = some (1, 1) := by kernel_rfl
    have h2 : ((Tryz.prog.info? 5).bind fun i => i.zero) = some (.int .u8 0) := by kernel_rfl
    rw [h] at h1 h2
    injection h1 with h1
    injection h1 with h3 h4
    exact ⟨i, rfl, h2, h3, h4⟩

set_option maxRecDepth 100000 in
/-- 'make' and 'copy' of a row of bytes, at once. -/
theorem copied (c : ByteArray) (q cap : Nat) (w : World) (hs : c.size ≤ 1000) (hR : ReadsInt w .u8 (some ⟨q, 0, none⟩) c.size (bytesOf c)) :
    ∃ w1 w2, (Instr.makeSlice 44 (.int .i64 (c.size : Nat)) (.int .i64 (c.size : Nat))).run Tryz.prog w = .ok (.slice (some ⟨w.heap.size, 0, none⟩) c.size c.size) w1 ∧
      (∀ ty, (Builtin.copy_ #[44, 44] ty #[.slice (some ⟨w.heap.size, 0, none⟩) c.size c.size, .slice (some ⟨q, 0, none⟩) c.size cap]).run Tryz.prog w1 = .ok (.int .i64 (c.size : Nat)) w2) ∧
      Mods (fun _ => False) w w2 ∧ ReadsInt w2 .u8 (some ⟨w.heap.size, 0, none⟩) c.size (bytesOf c) := by
  obtain ⟨i, hi, hz, hsz, hb⟩ := byte_info
  obtain ⟨cs, hcs⟩ : ∃ cs : List Value, cs = (bytesOf c).map (Value.int IntKind.u8) := ⟨_, rfl⟩
  have hl : cs.length = c.size := by rw [hcs, List.length_map, bytesOf_length]
  have hmk := run_makeSlice (P := Tryz.prog) w 44 5 i (.int .u8 0) Tryz.underlying44 hi hz .i64 .i64 (c.size : Nat) (c.size : Nat) (by omega) (by omega) (by rw [hsz]; omega) (by rw [hb]; omega) (by omega)
  rw [Int.toNat_natCast] at hmk
  obtain ⟨Z, hZ⟩ : ∃ Z, Z = madeCells (Value.int IntKind.u8 0).cells (c.size * i.size) := ⟨_, rfl⟩
  have hZs : Z.size = c.size := by rw [hZ, size_madeCells, hsz, Nat.mul_one]
  rw [← hZ] at hmk
  have hM1 := (Mods.refl (fun _ => False) w).alloc (Obj.cells Z 5)
  have hg1 : (w.alloc (Obj.cells Z 5)).heap[w.heap.size]? = some (.cells Z 5 (0, 0)) := heap_alloc_new w _
  have hR1 := hM1.reads hR (fun _ _ h => h)
  obtain ⟨w1, hw1⟩ : ∃ w1, w1 = w.alloc (Obj.cells Z 5) := ⟨_, rfl⟩
  rw [← hw1] at hmk hM1 hg1 hR1
  have hget : ∀ (j : Nat) (v : Value), cs[j]? = some v → j < c.size ∧ v = .int .u8 ((bytesOf c).getD j 0) := by
    intro j v hv
    rw [hcs, List.getElem?_map] at hv
    cases hb : (bytesOf c)[j]? with
    | none => rw [hb] at hv; cases hv
    | some b =>
      rw [hb] at hv
      obtain ⟨h1, h2⟩ := List.getElem?_eq_some_iff.mp hb
      rw [bytesOf_length] at h1
      refine ⟨h1, ?_⟩
      rw [List.getD_eq_getElem?_getD, hb]
      injection hv with hv
      exact hv.symm
  have hcp := fun ty => run_copy_row (P := Tryz.prog) w1 44 44 ty 5 w.heap.size 0 c.size c.size ⟨q, 0, none⟩ c.size cap Z 5 cs Tryz.underlying44 (by rw [hi]; exact congrArg some hsz) hg1 (by rw [hl]; exact (Nat.min_self _).symm)
    (fun j v hv => by
      obtain ⟨h1, rfl⟩ := hget j v hv
      obtain ⟨ad, he, hc⟩ := hR1.2.2 (by omega)
      cases he
      exact hc j h1) (by rw [hl, hZs]; omega) (fun v hv => by
      rw [hcs] at hv
      obtain ⟨b, _, rfl⟩ := List.mem_map.mp hv
      rfl)
  obtain ⟨w2, hw2⟩ : ∃ w2, w2 = w1.setRow w.heap.size (Z.toList.take 0 ++ cs ++ Z.toList.drop (0 + cs.length)).toArray := ⟨_, rfl⟩
  have hrow : (Z.toList.take 0 ++ cs ++ Z.toList.drop (0 + cs.length)).toArray = cs.toArray := by
    rw [List.take_zero, List.nil_append, List.drop_eq_nil_of_le (by rw [Array.length_toList]; omega), List.append_nil]
  have hg2 : w2.heap[w.heap.size]? = some (.cells cs.toArray 5 (0, 0)) := by rw [hw2, hrow]; exact setRow_heap w1 _ Z _ 5 (0, 0) hg1
  refine ⟨w1, w2, hmk, fun ty => ?_, ?_, bytesOf_length c, by omega, fun _ => ⟨_, rfl, fun j hj => ?_⟩⟩
  · rw [hcp ty, ← hw2, hl]
    rfl
  · refine hM1.trans (S' := fun k => k = w.heap.size) ?_ (fun k hk e => absurd e (by omega))
    rw [hw2]
    exact ⟨rfl, rfl, rfl, by rw [setRow_size]; omega, fun k _ hk => setRow_other w1 _ k _ hk⟩
  · rw [add_plain]
    refine (blk_cell hg2 j).trans ?_
    have h1 : j < (bytesOf c).length := by rw [bytesOf_length]; exact hj
    rw [hcs, List.getElem?_toArray, List.getElem?_map, List.getElem?_eq_getElem h1, List.getD_eq_getElem?_getD, List.getElem?_eq_getElem h1]
    rfl

/-- What Scan leaves, into bytes. -/
def BPost (g : Nat) (c : ByteArray) (w : World) (x : Ending) (w' : World) : Prop := ∃ b cap2, x = .returned .nilIface ∧ w'.cell? ⟨g, 0, none⟩ = some (.slice (some ⟨b, 0, none⟩) c.size cap2) ∧ ReadsInt w' .u8 (some ⟨b, 0, none⟩) c.size (bytesOf c) ∧ Mods (· = g) w w'

set_option maxHeartbeats 8000000 in
set_option maxRecDepth 100000 in
theorem scan_bytes (c : ByteArray) (q cap g t : Nat) (w : World) (hs : c.size ≤ 1000) (hR : ReadsInt w .u8 (some ⟨q, 0, none⟩) c.size (bytesOf c)) (hg : w.heap[g]? = some (.cells #[.slice none 0 0] t (0, 0))) :
    Calls Tryz.prog 12 #[.slice (some ⟨q, 0, none⟩) c.size cap, .iface 49 (.pointer (some ⟨g, 0, none⟩))] w (BPost g c w) := by
  obtain ⟨w1, w2, hmk, hcp, hM, hR2⟩ := copied c q cap w hs hR
  have hgl := blk_lt hg
  have hg2 := hM.blk hg id
  have hcg : w2.cell? ⟨g, 0, none⟩ = some (.slice none 0 0) := (blk_cell hg2 0).trans rfl
  have hfg := blk_frozen hg2 0
  have HG2 := Aside0.mk hg2
  have HM := Aside0.mk hM
  have HR2 := Aside0.mk hR2
  clear hR hg hM hR2 hg2
  have ta48 : ∀ w, (Instr.typeAssert (.iface 49 (.pointer (some ⟨g, 0, none⟩))) 20 48 true).run Tryz.prog w = .ok (.tuple #[.pointer none, .bool false]) w := fun w => by kernel_rfl
  have ta49 : ∀ w, (Instr.typeAssert (.iface 49 (.pointer (some ⟨g, 0, none⟩))) 20 49 true).run Tryz.prog w = .ok (.tuple #[(.pointer (some ⟨g, 0, none⟩)), .bool true]) w := fun w => by kernel_rfl
  go_enter Tryz.func12, Tryz.ntmps12
  go_wp2_with fail
  go_ret
  refine ⟨_, _, rfl, set_cell HG2.out, ?_, (show Mods (· = g) w w2 from HM.out.mono (fun _ _ h => h.elim)).setCell (p := ⟨g, 0, none⟩) (.inl rfl) _⟩
  exact ((Mods.refl (· = g) w2).setCell (p := ⟨g, 0, none⟩) (.inl rfl) _).reads HR2.out (fun ad e => by cases e; show ¬ w.heap.size = g; omega)
end
end Go.Proofs.YtohadobpiclllaaGreatDoor
