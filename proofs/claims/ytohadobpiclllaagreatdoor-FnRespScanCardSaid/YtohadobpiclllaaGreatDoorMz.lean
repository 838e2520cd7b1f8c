/- What the listed variables give: the tables of the number reader. -/
import Derived.Test.YtohadobpiclllaaGreatDoorMa
import Derived.Test.YtohadobpiclllaaGreatDoorMe
import Derived.Test.YtohadobpiclllaaGreatDoorMb
import Derived.Test.YtohadobpiclllaaGreatDoorRows
import Derived.Lib.LaidTab
import Derived.Lib.LaidU8
import Derived.ChangeArms
import Derived.DataElems
import Derived.DataReads
import Derived.MakeChecks
namespace Go.Proofs.YtohadobpiclllaaGreatDoor
section
open Go.Lib
set_option linter.unusedVariables false
set_option linter.unusedSimpArgs false

theorem list_two {α : Type} : ∀ {cs : List α}, cs.length = 2 → ∃ a b, cs = [a, b]
  | [a, b], _ => ⟨a, b, rfl⟩
theorem list_three {α : Type} : ∀ {cs : List α}, cs.length = 3 → ∃ a b c, cs = [a, b, c]
  | [a, b, c], _ => ⟨a, b, c, rfl⟩
/-- A variable that is a slice, listed with nothing behind its length: cell for cell. -/
theorem slice_var {P : Program} {w : World} {name : String} {g : Nat} {t e : TypeId} {ds : List (DataW Unit)} {c : Nat} (hn : P.globalNamed name = some g) (hy : (P.globals[g]?).map (·.type) = some t)
    (ht : P.underlying t = some (.slice e)) (hc : P.cellsOf e = c) (hc0 : 0 < c) (hl : 0 < ds.length) (h : VarReads P w name (.slice ds [])) :
    ∃ b o : Nat, w.cell? ⟨g, 0, none⟩ = some (.slice (some ⟨b, o, none⟩) ds.length ds.length) ∧ ∀ (i : Nat) (d : DataW Unit), ds[i]? = some d → ∃ cs fuel q, cs.length = c ∧ (∀ j, j < c → w.cell? ⟨b, o + (i * c + j), none⟩ = cs[j]?) ∧ DataW.trod (fun _ => ()) P w 0 (fun _ => true) false fuel e cs = some (d, q) := by
  obtain ⟨g', t', cs, fuel, p, hg, hty, hvar, hd⟩ := h
  obtain rfl := Option.some.inj (hn.symm.trans hg)
  obtain rfl := Option.some.inj (hy.symm.trans hty)
  rcases DataW.trod_slice ht hd with ⟨_, hx⟩ | ⟨a, len, cap, el, rs, m, rfl, hcs, hx, _, hlc, _, hel, helem, hsp, _⟩
  · cases hx
  have e0 := congrArg Prod.fst hx
  simp only [DataW.slice.injEq] at e0
  obtain ⟨eE, eR⟩ := e0
  have hlen : len = ds.length := by
    have := congrArg List.length eE
    simp at this
    omega
  have hcap : cap = ds.length := by
    have h1 := (hsp rfl).1
    have h2 := congrArg List.length eR
    simp at h2
    omega
  have hcell : ∀ (i : Nat) (d : DataW Unit), ds[i]? = some d → ∃ cs' fuel q, cs'.length = c ∧ (∀ j, j < c → w.cell? (a.add (i * c + j)) = cs'[j]?) ∧ DataW.trod (fun _ => ()) P w 0 (fun _ => true) false fuel e cs' = some (d, q) := by
    intro i d hi
    have hil : i < ds.length := (List.getElem?_eq_some_iff.1 hi).1
    have h1 := helem i (by omega)
    rw [hc] at h1
    obtain ⟨b, hb⟩ : ∃ b, el[i]? = some b := ⟨el[i]'(by omega), List.getElem?_eq_getElem (by omega)⟩
    rw [hb] at h1
    obtain ⟨ce, hce, hte⟩ := Option.bind_eq_some_iff.1 h1
    obtain ⟨_, hlc', hcc⟩ := World.cells?_some hce
    have hbd : b.1 = d := by
      have := congrArg (·[i]?) eE
      simp [hb, hi] at this
      exact this.symm
    refine ⟨ce, m, b.2, hlc', fun j hj => ?_, by rw [hte, ← hbd]⟩
    have := hcc j hj
    rwa [Addr.add_add] at this
  obtain ⟨R, o, sR⟩ := a
  obtain rfl : sR = none := by
    obtain ⟨cs', _, _, hl', hcc, _⟩ := hcell 0 ds[0] (List.getElem?_eq_getElem hl)
    have h00 := hcc 0 hc0
    rw [List.getElem?_eq_getElem (by omega)] at h00
    have h01 : (Addr.add ⟨R, o, sR⟩ (0 * c + 0)) = ⟨R, o, sR⟩ := by simp [Addr.add]
    rw [h01] at h00
    exact Go.Proofs.cell_spot h00
  refine ⟨R, o, ?_, fun i d hi => ?_⟩
  · rw [World.var?_cell hg hvar 0, ← Array.getElem?_toList, hcs, hlen, hcap]
    rfl
  · obtain ⟨cs', f', q, hl', hcc, hte⟩ := hcell i d hi
    refine ⟨cs', f', q, hl', fun j hj => ?_, hte⟩
    have := hcc j hj
    rwa [Addr.add_lit] at this

/-- .. of elements of one cell. -/
theorem slice_var1 {P : Program} {w : World} {name : String} {g : Nat} {t e : TypeId} {ds : List (DataW Unit)} (hn : P.globalNamed name = some g) (hy : (P.globals[g]?).map (·.type) = some t)
    (ht : P.underlying t = some (.slice e)) (hc : P.cellsOf e = 1) (hl : 0 < ds.length) (h : VarReads P w name (.slice ds [])) :
    ∃ b o : Nat, w.cell? ⟨g, 0, none⟩ = some (.slice (some ⟨b, o, none⟩) ds.length ds.length) ∧ ∀ (i : Nat) (d : DataW Unit), ds[i]? = some d → ∃ v fuel q, w.cell? ⟨b, o + i, none⟩ = some v ∧ DataW.trod (fun _ => ()) P w 0 (fun _ => true) false fuel e [v] = some (d, q) := by
  obtain ⟨b, o, h1, h2⟩ := slice_var hn hy ht hc (by omega) hl h
  refine ⟨b, o, h1, fun i d hi => ?_⟩
  obtain ⟨cs, f, q, hl', hcc, hte⟩ := h2 i d hi
  obtain ⟨v, rfl⟩ := List.length_eq_one_iff.1 hl'
  have := hcc 0 (by omega)
  exact ⟨v, f, q, by simpa using this, hte⟩

section
variable {H : Type} {enc : TypeId × Value → H} {P : Program} {w : World} {base : Nat} {sp : Nat → Bool} {held : Bool} {fuel : Nat} {t : TypeId} {cs : List Value} {x : DataW H × List MemPlace} {q : List MemPlace}
theorem trod_float {k : FloatKind} (ht : P.underlying t = some (.float k)) (h : DataW.trod enc P w base sp held fuel t cs = some x) : ∃ b, cs = [.float k b] ∧ x = (.lit (.float k b), []) := by
  cases fuel with
  | zero => simp [DataW.trod] at h
  | succ n =>
    unfold DataW.trod at h
    rw [ht] at h
    split at h <;> simp_all
theorem trod_face {ms : Array (String × TypeId)} {nm : String} {d : DataW H} (ht : P.underlying t = some (.interface ms)) (h : DataW.trod enc P w base sp held fuel t cs = some (.iface nm d, q)) : ∃ u v, cs = [.iface u v] := by
  cases fuel with
  | zero => simp [DataW.trod] at h
  | succ n =>
    unfold DataW.trod at h
    rw [ht] at h
    split at h <;> simp_all
end

theorem int_cell {P : Program} {w : World} {k : IntKind} {t : TypeId} {v : Value} {fuel : Nat} {n : Int} {q : List MemPlace} (ht : P.underlying t = some (.int k)) (h : DataW.trod (fun _ => ()) P w 0 (fun _ => true) false fuel t [v] = some (.lit (.int k n), q)) : v = .int k n := by
  obtain ⟨z, hz, hx, _⟩ := DataW.trod_int ht h
  simp at hz hx
  rw [hz, hx.1]
theorem float_cell {P : Program} {w : World} {k : FloatKind} {t : TypeId} {v : Value} {fuel : Nat} {n : Nat} {q : List MemPlace} (ht : P.underlying t = some (.float k)) (h : DataW.trod (fun _ => ()) P w 0 (fun _ => true) false fuel t [v] = some (.lit (.float k n), q)) : v = .float k n := by
  obtain ⟨z, hz, hx⟩ := trod_float ht h
  simp at hz hx
  rw [hz, hx.1]
theorem string_cell {P : Program} {w : World} {t : TypeId} {v : Value} {fuel : Nat} {n : List UInt8} {q : List MemPlace} (ht : P.underlying t = some .string) (h : DataW.trod (fun _ => ()) P w 0 (fun _ => true) false fuel t [v] = some (.lit (.string n), q)) : v = .string ⟨n.toArray⟩ := by
  obtain ⟨z, hz, hx, _⟩ := DataW.trod_string ht h
  simp at hz hx
  rw [hz, hx.1]

theorem c3 : Tryz.prog.cellsOf 3 = 1 := by kernel_rfl
theorem c4 : Tryz.prog.cellsOf 4 = 1 := by kernel_rfl
theorem c9 : Tryz.prog.cellsOf 9 = 1 := by kernel_rfl
theorem c22 : Tryz.prog.cellsOf 22 = 1 := by kernel_rfl
theorem c54 : Tryz.prog.cellsOf 54 = 1 := by kernel_rfl
theorem c57 : Tryz.prog.cellsOf 57 = 1 := by kernel_rfl
theorem c59 : Tryz.prog.cellsOf 59 = 1 := by kernel_rfl
theorem c183 : Tryz.prog.cellsOf 183 = 3 := by kernel_rfl
theorem c228 : Tryz.prog.cellsOf 228 = 2 := by kernel_rfl
theorem c229 : Tryz.prog.cellsOf 229 = 2 * 696 := by kernel_rfl
theorem c235 : Tryz.prog.cellsOf 235 = 2 := by kernel_rfl

theorem opt_of {w : World} (h : VarReads Tryz.prog w "internal/strconv.optimize" Rows.laid_internal_strconv_optimize) : w.cell? ⟨4, 0, none⟩ = some (.bool true) := by
  obtain ⟨g, t, cs, fuel, p, hg, hty, hvar, hd⟩ := h
  obtain rfl := Option.some.inj ((show Tryz.prog.globalNamed "internal/strconv.optimize" = some 4 by kernel_rfl).symm.trans hg)
  obtain rfl := Option.some.inj ((show (Tryz.prog.globals[4]?).map (·.type) = some 4 by kernel_rfl).symm.trans hty)
  obtain ⟨b, hb, hx⟩ := DataW.trod_bool Tryz.underlying4 hd
  have hx1 := congrArg Prod.fst hx
  simp only [Rows.laid_internal_strconv_optimize, DataW.lit.injEq, Lit.bool.injEq] at hx1
  rw [World.var?_cell hg hvar 0, ← Array.getElem?_toList, hb, ← hx1]
  rfl

theorem err_of {w : World} {name : String} {g : Nat} {nm : String} {d : DataW Unit} (hn : Tryz.prog.globalNamed name = some g) (hy : (Tryz.prog.globals[g]?).map (·.type) = some 46) (h : VarReads Tryz.prog w name (.iface nm d)) : ∃ t p, w.cell? ⟨g, 0, none⟩ = some (.iface t p) := by
  obtain ⟨g, t, cs, fuel, p, hg, hty, hvar, hd⟩ := h
  obtain rfl := Option.some.inj (hn.symm.trans hg)
  obtain rfl := Option.some.inj (hy.symm.trans hty)
  obtain ⟨u, v, hb⟩ := trod_face Tryz.underlying46 hd
  exact ⟨u, v, by rw [World.var?_cell hg hvar 0, ← Array.getElem?_toList, hb]; rfl⟩

theorem info_of {w : World} {name : String} {g : Nat} {a b : Int} {z : Int} (hn : Tryz.prog.globalNamed name = some g) (hy : (Tryz.prog.globals[g]?).map (·.type) = some 183) (h : VarReads Tryz.prog w name (.agg [.lit (.int .u64 a), .lit (.int .u64 b), .lit (.int .i64 z)])) :
    w.cell? ⟨g, 0, none⟩ = some (.int .u64 a) ∧ w.cell? ⟨g, 1, none⟩ = some (.int .u64 b) ∧ w.cell? ⟨g, 2, none⟩ = some (.int .i64 z) := by
  obtain ⟨g, t, cs, fuel, p, hg, hty, hvar, hd⟩ := h
  obtain rfl := Option.some.inj (hn.symm.trans hg)
  obtain rfl := Option.some.inj (hy.symm.trans hty)
  have hcell := fun i => World.var?_cell hg hvar i
  obtain ⟨cs⟩ := cs
  simp only [List.getElem?_toArray] at hcell
  simp only at hd
  obtain ⟨xs, m, rfl, hx, hl, hxl, hall⟩ := DataW.trod_struct Tryz.underlying183 hd
  rw [c183] at hl
  obtain ⟨v0, v1, v2, rfl⟩ := list_three hl
  have hx1 := congrArg Prod.fst hx
  simp only [DataW.agg.injEq] at hx1
  obtain ⟨x0, x1, x2, rfl⟩ := list_three (show xs.length = 3 from hxl)
  simp only [List.map_cons, List.map_nil, List.cons.injEq, and_true] at hx1
  obtain ⟨d0, d1, d2⟩ := hx1
  have g0 : DataW.trod (fun _ => ()) Tryz.prog w 0 (fun _ => true) false m 54 (([v0, v1, v2].drop 0).take (Tryz.prog.cellsOf 54)) = some x0 := hall 0 _ rfl
  have g1 : DataW.trod (fun _ => ()) Tryz.prog w 0 (fun _ => true) false m 54 (([v0, v1, v2].drop 1).take (Tryz.prog.cellsOf 54)) = some x1 := hall 1 _ rfl
  have g2 : DataW.trod (fun _ => ()) Tryz.prog w 0 (fun _ => true) false m 3 (([v0, v1, v2].drop 2).take (Tryz.prog.cellsOf 3)) = some x2 := hall 2 _ rfl
  rw [c54] at g0 g1
  rw [c3] at g2
  obtain ⟨x0, q0⟩ := x0
  obtain ⟨x1, q1⟩ := x1
  obtain ⟨x2, q2⟩ := x2
  simp only at d0 d1 d2
  subst d0 d1 d2
  have e0 := int_cell Tryz.underlying54 g0
  have e1 := int_cell Tryz.underlying54 g1
  have e2 := int_cell Tryz.underlying3 g2
  subst e0 e1 e2
  exact ⟨hcell 0, hcell 1, hcell 2⟩

theorem powt_of {w : World} (h : VarReads Tryz.prog w "internal/strconv.powtab" Rows.laid_internal_strconv_powtab) : ∃ b o : Nat, w.cell? ⟨7, 0, none⟩ = some (.slice (some ⟨b, o, none⟩) 9 9) ∧ ∀ k, k < 9 → w.cell? ⟨b, o + k, none⟩ = some (.int .i64 (powv k)) := by
  have e : (Rows.laid_internal_strconv_powtab : DataW Unit) = .slice ((List.range 9).map fun k => .lit (.int .i64 (powv k))) [] := by kernel_rfl
  rw [e] at h
  obtain ⟨b, o, h1, h2⟩ := slice_var1 (by kernel_rfl) (by kernel_rfl) Tryz.underlying37 c3 (by simp) h
  refine ⟨b, o, h1, fun k hk => ?_⟩
  obtain ⟨v, f, q, hv, hd⟩ := h2 k (.lit (.int .i64 (powv k))) (by simp [hk])
  rw [hv, int_cell Tryz.underlying3 hd]

/-- The listed powers of ten. -/
def p64 : List Nat := [4607182418800017408, 4621819117588971520, 4636737291354636288, 4652007308841189376, 4666723172467343360, 4681608360884174848, 4696837146684686336, 4711630319722168320, 4726483295884279808, 4741671816366391296, 4756540486875873280, 4771362005757984768, 4786511204640096256, 4801453603149578240, 4816244402031689728, 4831355200913801216, 4846369599423283200, 4861130398305394688, 4876203697187506176, 4891288408196988160, 4906019910204099648, 4921056587992461136, 4936209963552724370]
def p32 : List Nat := [1065353216, 1092616192, 1120403456, 1148846080, 1176256512, 1203982336, 1232348160, 1259902592, 1287568416, 1315859240, 1343554297]
theorem f64_of {w : World} (h : VarReads Tryz.prog w "internal/strconv.float64pow10" Rows.laid_internal_strconv_float64pow10) : ∃ b o : Nat, w.cell? ⟨8, 0, none⟩ = some (.slice (some ⟨b, o, none⟩) 23 23) ∧ ∀ k, k < 23 → w.cell? ⟨b, o + k, none⟩ = some (.float .f64 (p64.getD k 0)) := by
  have e : (Rows.laid_internal_strconv_float64pow10 : DataW Unit) = .slice ((List.range 23).map fun k => .lit (.float .f64 (p64.getD k 0))) [] := by kernel_rfl
  rw [e] at h
  obtain ⟨b, o, h1, h2⟩ := slice_var1 (by kernel_rfl) (by kernel_rfl) Tryz.underlying219 c59 (by simp) h
  refine ⟨b, o, h1, fun k hk => ?_⟩
  obtain ⟨v, f, q, hv, hd⟩ := h2 k (.lit (.float .f64 (p64.getD k 0))) (by simp [hk])
  rw [hv, float_cell Tryz.underlying59 hd]
theorem f32_of {w : World} (h : VarReads Tryz.prog w "internal/strconv.float32pow10" Rows.laid_internal_strconv_float32pow10) : ∃ b o : Nat, w.cell? ⟨6, 0, none⟩ = some (.slice (some ⟨b, o, none⟩) 11 11) ∧ ∀ k, k < 11 → w.cell? ⟨b, o + k, none⟩ = some (.float .f32 (p32.getD k 0)) := by
  have e : (Rows.laid_internal_strconv_float32pow10 : DataW Unit) = .slice ((List.range 11).map fun k => .lit (.float .f32 (p32.getD k 0))) [] := by kernel_rfl
  rw [e] at h
  obtain ⟨b, o, h1, h2⟩ := slice_var1 (by kernel_rfl) (by kernel_rfl) Tryz.underlying207 c57 (by simp) h
  refine ⟨b, o, h1, fun k hk => ?_⟩
  obtain ⟨v, f, q, hv, hd⟩ := h2 k (.lit (.float .f32 (p32.getD k 0))) (by simp [hk])
  rw [hv, float_cell Tryz.underlying57 hd]

theorem rows61 : Go.Pinned.cheatRows.length = 61 := by kernel_rfl
theorem cheats_of {w : World} (h : VarReads Tryz.prog w "internal/strconv.leftcheats" Rows.laid_internal_strconv_leftcheats) : ∃ b, Cheats w b := by
  have e : Rows.laid_internal_strconv_leftcheats = .slice (Go.Pinned.cheatRows.map fun x => .agg [.lit (.int .i64 x.1), .lit (.string x.2)]) [] := rfl
  rw [e] at h
  obtain ⟨b, o, h1, h2⟩ := slice_var (by kernel_rfl) (by kernel_rfl) Tryz.underlying236 c235 (by omega) (by rw [List.length_map, rows61]; omega) h
  rw [List.length_map, rows61] at h1
  refine ⟨b, o, h1, fun k hk => ?_⟩
  have hk2 : k < Go.Pinned.cheatRows.length := by rw [rows61]; exact hk
  obtain ⟨cs, f, q, hl, hcc, hd⟩ := h2 k (.agg [.lit (.int .i64 (cheatD k)), .lit (.string (Go.Pinned.cheatRows.getD k (0, [])).2)]) (by
    unfold cheatD
    rw [List.getElem?_map, List.getD_eq_getElem?_getD, List.getElem?_eq_getElem hk2]
    rfl)
  obtain ⟨xs, m, rfl, hx, _, hxl, hall⟩ := DataW.trod_struct Tryz.underlying235 hd
  obtain ⟨v0, v1, rfl⟩ := list_two hl
  have hx1 := congrArg Prod.fst hx
  simp only [DataW.agg.injEq] at hx1
  obtain ⟨x0, x1, rfl⟩ := list_two (show xs.length = 2 from hxl)
  simp only [List.map_cons, List.map_nil, List.cons.injEq, and_true] at hx1
  obtain ⟨d0, d1⟩ := hx1
  have g0 : DataW.trod (fun _ => ()) Tryz.prog w 0 (fun _ => true) false m 3 (([v0, v1].drop 0).take (Tryz.prog.cellsOf 3)) = some x0 := hall 0 _ rfl
  have g1 : DataW.trod (fun _ => ()) Tryz.prog w 0 (fun _ => true) false m 9 (([v0, v1].drop 1).take (Tryz.prog.cellsOf 9)) = some x1 := hall 1 _ rfl
  rw [c3] at g0
  rw [c9] at g1
  obtain ⟨x0, q0⟩ := x0
  obtain ⟨x1, q1⟩ := x1
  simp only at d0 d1
  subst d0 d1
  have e0 := int_cell Tryz.underlying3 g0
  have e1 := string_cell Tryz.underlying9 g1
  subst e0 e1
  have k0 := hcc 0 (by omega)
  have k1 := hcc 1 (by omega)
  refine ⟨?_, ?_⟩
  · rw [show o + 2 * k = o + (k * 2 + 0) by omega, k0]; rfl
  · rw [show o + 2 * k + 1 = o + (k * 2 + 1) by omega, k1]; rfl
theorem wf_u64 {n : Int} (h : (Lit.int .u64 n).wf = true) : 0 ≤ n ∧ n < 18446744073709551616 := by
  have : 0 ≤ n ∧ n ≤ 18446744073709551615 := by simpa [Lit.wf, IntKind.min, IntKind.max, IntKind.signed, IntKind.bits] using h
  omega

/-- An array of pairs of numbers that reads as data holds numbers, cell for cell. -/
theorem cells_of_pairs {H : Type} {enc : TypeId × Value → H} {w : World} {base : Nat} {sp : Nat → Bool} {held : Bool} {fuel : Nat} {t e : TypeId} {n : Nat} {fs : Array Field} {cs : List Value} {x : DataW H × List MemPlace}
    (ht : Tryz.prog.underlying t = some (.array n e)) (he : Tryz.prog.underlying e = some (.struct fs)) (f0 f1 : Field) (hf0 : fs[0]? = some f0) (hf1 : fs[1]? = some f1) (hsz : fs.size = 2)
    (h0 : Tryz.prog.underlying f0.type = some (.int .u64)) (h1 : Tryz.prog.underlying f1.type = some (.int .u64)) (ho0 : f0.offset = 0) (ho1 : f1.offset = 1) (hc0 : Tryz.prog.cellsOf f0.type = 1) (hc1 : Tryz.prog.cellsOf f1.type = 1)
    (hce : Tryz.prog.cellsOf e = 2) (hct : Tryz.prog.cellsOf t = 2 * n) (h : DataW.trod enc Tryz.prog w base sp held fuel t cs = some x) :
    ∀ i, i < 2 * n → ∃ z : Nat, z < 18446744073709551616 ∧ cs[i]? = some (.int .u64 z) := by
  intro i hi
  cases fuel with
  | zero => simp [DataW.trod] at h
  | succ fuel =>
    simp only [DataW.trod, ht, hce, hct] at h
    split at h
    · rename_i hl
      obtain ⟨xs, hm, hx⟩ := Option.map_eq_some_iff.1 h
      obtain ⟨b, hb, hf⟩ := Lib.mapM_at hm (i / 2) (i / 2) (List.getElem?_range (by omega))
      obtain ⟨ys, m, rfl, _, hl2, hlen, hff⟩ := DataW.trod_struct he hf
      have g0 := hff 0 f0 hf0
      have g1 := hff 1 f1 hf1
      rw [hsz] at hlen
      rw [ho0, hc0, List.getElem?_eq_getElem (by omega)] at g0
      rw [ho1, hc1, List.getElem?_eq_getElem (by omega)] at g1
      obtain ⟨z0, e0, _, w0⟩ := DataW.trod_int h0 g0
      obtain ⟨z1, e1, _, w1⟩ := DataW.trod_int h1 g1
      have v0 := wf_u64 w0
      have v1 := wf_u64 w1
      have k0 : cs[i / 2 * 2]? = some (.int .u64 z0) := by
        have := congrArg (·[0]?) e0
        simpa [List.getElem?_take, List.getElem?_drop] using this
      have k1 : cs[i / 2 * 2 + 1]? = some (.int .u64 z1) := by
        have := congrArg (·[0]?) e1
        simpa [List.getElem?_take, List.getElem?_drop] using this
      rcases Nat.mod_two_eq_zero_or_one i with hi2 | hi2
      · refine ⟨z0.toNat, by omega, ?_⟩
        rw [show i = i / 2 * 2 by omega, k0, Int.toNat_of_nonneg v0.1]
      · refine ⟨z1.toNat, by omega, ?_⟩
        rw [show i = i / 2 * 2 + 1 by omega, k1, Int.toNat_of_nonneg v1.1]
    · cases h

theorem pow_of {w : World} (h : VarReads Tryz.prog w "internal/strconv.pow10Tab" Rows.laid_internal_strconv_pow10Tab) : ∃ T : Nat → Nat, (∀ i, T i < 18446744073709551616) ∧ ∀ i < 1392, w.cell? ⟨11, i, none⟩ = some (.int .u64 (T i)) := by
  obtain ⟨g, t, cs, fuel, p, hg, hty, hvar, hd⟩ := h
  obtain rfl := Option.some.inj ((show Tryz.prog.globalNamed "internal/strconv.pow10Tab" = some 11 by kernel_rfl).symm.trans hg)
  obtain rfl := Option.some.inj ((show (Tryz.prog.globals[11]?).map (·.type) = some 229 by kernel_rfl).symm.trans hty)
  have hz := cells_of_pairs Tryz.underlying229 Tryz.underlying228 _ _ rfl rfl rfl Tryz.underlying22 Tryz.underlying22 rfl rfl c22 c22 c228 c229 hd
  have hc : ∀ i, w.cell? ⟨11, i, none⟩ = cs[i]? := fun i => World.var?_cell hg hvar i
  refine ⟨fun i => match cs[i]? with | some (.int _ z) => if z.toNat < 18446744073709551616 then z.toNat else 0 | _ => 0, fun i => ?_, fun i hi => ?_⟩
  · dsimp only
    split
    · split
      · assumption
      · omega
    · omega
  · obtain ⟨z, hz1, hz2⟩ := hz i hi
    have hz3 : cs[i]? = some (.int .u64 (z : Int)) := by simpa using hz2
    dsimp only
    rw [hc i, hz3]
    dsimp only
    rw [if_pos (by simpa using hz1)]
    simp
end
end Go.Proofs.YtohadobpiclllaaGreatDoor
