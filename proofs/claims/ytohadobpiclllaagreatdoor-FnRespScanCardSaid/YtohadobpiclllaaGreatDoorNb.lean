/- laws.FnRespScan: for every way and every text (as the given row reads them, the listed variables as the program's text lays them) the law answers true and changes nothing that it was given. -/
import Derived.Test.YtohadobpiclllaaGreatDoorNa
import Derived.Test.YtohadobpiclllaaGreatDoorMz
import Derived.Test.YtohadobpiclllaaGreatDoorCards
import Derived.Test.YtohadobpiclllaaGreatDoorTie
import Derived.WalkKit
import Derived.ProofKit
import Derived.OpenShut
import Derived.ShutString
import Derived.ChangeOld
import Derived.Below
import Derived.SizedLaws
import Derived.Lay
import Derived.MakeChecks
namespace Go.Proofs.YtohadobpiclllaaGreatDoor
section
open Go.ChangeShapes Go.WideShapes Go.ChangeAt Go.RowKit Go.Lib
open Go.ChangeMaps (open_string shut_string)
open Ieee (Format)
open Go.Proofs.YtohadobpiclllaaGreatDoor.PFnRespScan
set_option linter.unusedVariables false

theorem own : ownKnob Tryz.prog.godebug = none := by kernel_rfl
theorem laidOut : laidOutB Tryz.prog = true := by kernel_rfl

/-- A number, and not nought. -/
def some0B (f : Format) (x : Nat) : Bool := match f.read x with | .number _ m _ => m != 0 | _ => false
theorem some0_of {f : Format} {x : Nat} (h : some0B f x = true) : Some0 f x := by
  unfold some0B at h
  split at h
  · rename_i s m e he
    exact ⟨s, m, e, he, by simpa using h⟩
  · cases h
theorem p64_all : (p64.all (some0B FloatKind.f64.format)) = true := by kernel_rfl
theorem p32_all : (p32.all (some0B FloatKind.f32.format)) = true := by kernel_rfl
theorem p64_length : p64.length = 23 := by kernel_rfl
theorem p32_length : p32.length = 11 := by kernel_rfl

/-- What the listed variables give: the tables that the walks read. -/
theorem tables {W : World} (h : laidMetH Tryz.prog Rows.fnRespScanRow.laid W) : ∃ X : TabX, X.OK ∧ Tabs W X ∧ Errs W := by
  rw [MakeChecks.laidMetH_plain _ _ _ (by kernel_rfl)] at h
  have h1 : laidMet Tryz.prog [("math/bits.deBruijn32tab", Rows.laid_math_bits_deBruijn32tab), ("math/bits.deBruijn64tab", Rows.laid_math_bits_deBruijn64tab), ("internal/strconv.float32info", Rows.laid_internal_strconv_float32info), ("internal/strconv.float64info", Rows.laid_internal_strconv_float64info), ("internal/strconv.optimize", Rows.laid_internal_strconv_optimize), ("internal/strconv.powtab", Rows.laid_internal_strconv_powtab), ("internal/strconv.float64pow10", Rows.laid_internal_strconv_float64pow10), ("internal/strconv.float32pow10", Rows.laid_internal_strconv_float32pow10), ("internal/strconv.uint64pow10", Rows.laid_internal_strconv_uint64pow10), ("strconv.ErrRange", Rows.laid_strconv_ErrRange), ("strconv.ErrSyntax", Rows.laid_strconv_ErrSyntax), ("internal/strconv.leftcheats", Rows.laid_internal_strconv_leftcheats), ("internal/strconv.pow10Tab", Rows.laid_internal_strconv_pow10Tab)] W := h
  have i3 := info_of (g := 3) (by kernel_rfl) (by kernel_rfl) (Go.Lib.laidMet.reads h1 (n := "internal/strconv.float32info") (d := Rows.laid_internal_strconv_float32info) (.tail _ (.tail _ (.head _))))
  have i5 := info_of (g := 5) (by kernel_rfl) (by kernel_rfl) (Go.Lib.laidMet.reads h1 (n := "internal/strconv.float64info") (d := Rows.laid_internal_strconv_float64info) (.tail _ (.tail _ (.tail _ (.head _)))))
  have ho := opt_of (Go.Lib.laidMet.reads h1 (.tail _ (.tail _ (.tail _ (.tail _ (.head _))))))
  obtain ⟨pt, po, hp⟩ := powt_of (Go.Lib.laidMet.reads h1 (.tail _ (.tail _ (.tail _ (.tail _ (.tail _ (.head _)))))))
  obtain ⟨ft, fo, hf⟩ := f64_of (Go.Lib.laidMet.reads h1 (.tail _ (.tail _ (.tail _ (.tail _ (.tail _ (.tail _ (.head _))))))))
  obtain ⟨fs, so, hs⟩ := f32_of (Go.Lib.laidMet.reads h1 (.tail _ (.tail _ (.tail _ (.tail _ (.tail _ (.tail _ (.tail _ (.head _)))))))))
  have e2 := err_of (g := 2) (by kernel_rfl) (by kernel_rfl) (Go.Lib.laidMet.reads h1 (n := "strconv.ErrRange") (d := Rows.laid_strconv_ErrRange) (.tail _ (.tail _ (.tail _ (.tail _ (.tail _ (.tail _ (.tail _ (.tail _ (.tail _ (.head _)))))))))))
  have e1 := err_of (g := 1) (by kernel_rfl) (by kernel_rfl) (Go.Lib.laidMet.reads h1 (n := "strconv.ErrSyntax") (d := Rows.laid_strconv_ErrSyntax) (.tail _ (.tail _ (.tail _ (.tail _ (.tail _ (.tail _ (.tail _ (.tail _ (.tail _ (.tail _ (.head _))))))))))))
  obtain ⟨tb, hc⟩ := cheats_of (Go.Lib.laidMet.reads h1 (.tail _ (.tail _ (.tail _ (.tail _ (.tail _ (.tail _ (.tail _ (.tail _ (.tail _ (.tail _ (.tail _ (.head _)))))))))))))
  obtain ⟨T, hT, ht⟩ := pow_of (Go.Lib.laidMet.reads h1 (.tail _ (.tail _ (.tail _ (.tail _ (.tail _ (.tail _ (.tail _ (.tail _ (.tail _ (.tail _ (.tail _ (.tail _ (.head _))))))))))))))
  refine ⟨⟨pt, tb, ft, fs, T, fun k => p64.getD k 0, fun k => p32.getD k 0⟩, ⟨hT, fun k hk => ?_, fun k hk => ?_⟩, ⟨ho, i5, i3, ⟨po, hp⟩, hc, ⟨fo, hf⟩, ⟨so, hs⟩, ht⟩, e1, e2⟩
  · refine some0_of (List.all_eq_true.1 p64_all _ ?_)
    show p64.getD k 0 ∈ p64
    rw [List.getD_eq_getElem?_getD, List.getElem?_eq_getElem (by rw [p64_length]; exact hk)]
    exact List.getElem_mem _
  · refine some0_of (List.all_eq_true.1 p32_all _ ?_)
    show p32.getD k 0 ∈ p32
    rw [List.getD_eq_getElem?_getD, List.getElem?_eq_getElem (by rw [p32_length]; exact hk)]
    exact List.getElem_mem _

theorem wf_u8 {n : Int} (h : (Lit.int .u8 n).wf = true) : 0 ≤ n ∧ n < 256 := by
  have : 0 ≤ n ∧ n ≤ 255 := by simpa [Lit.wf, IntKind.min, IntKind.max, IntKind.signed, IntKind.bits] using h
  omega

set_option maxRecDepth 100000 in
theorem lifted (os : Os) (started : os.Started) (H : Type) (enc : TypeId × Value → H) :
    ReturnsInHanded {} Tryz.checked os 3 .any (fun w args => (Rows.fnRespScanSpec.pre enc Tryz.prog Tryz.f3 [] false w args ∧ laidMetH Tryz.prog Rows.fnRespScanRow.laid w) ∧ sizedMet enc Tryz.prog Tryz.f3 (OpenSpec.ofChange Rows.fnRespScanSpec) false w args)
      (Rows.fnRespScanSpec.post enc Tryz.prog Tryz.f3 false true false false) := by
  refine returnsInHanded_of_change_and (C := Tryz.checked) (X := fun w _ => laidMetH Tryz.prog Rows.fnRespScanRow.laid w) (fun _ _ _ hh h => h.of_heap hh) own started (by kernel_rfl) Tryz.func3
    (ChangeSpec.witness_shaped (enc := enc) (C := Tryz.checked) (os := os) (X := fun w _ => laidMetH Tryz.prog Rows.fnRespScanRow.laid w) false (World.laidAll Tryz.prog os Rows.fnRespScanRow.laid) #[.int .u8 0, .string ⟨#[]⟩] 8 (World.laidAll_os _ _ _)
      (World.shaped_of_ZipB (by kernel_rfl) (by kernel_rfl)) (by kernel_rfl) (by kernel_rfl) (by kernel_rfl)
      (by rw [MakeChecks.laidMetH_plain _ _ _ (by kernel_rfl)]; exact laidMet_laidAll _ (by kernel_rfl) (by kernel_rfl))) ?_
  intro W base args ds gs before hval0 hW _ hsz0 hL _
  have hval : ∀ (j : Nat) t v, Tryz.f3.params[j]? = some t → args[j]? = some v → Value.okWide Tryz.prog W .any base t v := hval0
  have hW' := hW
  obtain ⟨p, q, hA0, hV, rfl, hfz, hnd⟩ := hW
  have hA : DataW.TrodAll enc Tryz.prog W 0 (fun _ => true) true Tryz.f3.params.toList args.toList ds p := hA0
  rw [Tryz.params3] at hA hval
  obtain ⟨v0, vs0, d0, ds0, p0, q0, hargs, rfl, rfl, h0, r0⟩ := trodAll_cons hA
  obtain ⟨v1, vs1, d1, ds1, p1, q1, rfl, rfl, rfl, h1, r1⟩ := trodAll_cons r0
  obtain ⟨rfl, rfl, rfl⟩ := trodAll_nil r1
  obtain rfl : args = #[v0, v1] := by cases args; simp_all
  obtain ⟨rfl, rfl⟩ := trodVars_none hV
  obtain ⟨n, rfl, rfl, rfl, hwf⟩ := open_int Tryz.underlying5 (hval 0 5 v0 rfl rfl) h0
  obtain ⟨R, rfl, rfl, rfl, y1⟩ := open_string Tryz.underlying9 (hval 1 9 v1 rfl rfl) h1
  have hn := wf_u8 hwf
  obtain ⟨k, rfl⟩ : ∃ k : Nat, n = k := ⟨n.toNat, by omega⟩
  obtain ⟨X, hX, hT, hE⟩ := tables hL
  clear hA0 hval0 hsz0
  refine (law_calls X hX k (by omega) R W hT hE).mono fun e W' ⟨he, bel⟩ => ?_
  subst he
  exact ⟨_, rfl, _, _, _, [], _, [], hW', trodAll_mk1 (shut_bool Tryz.underlying4 _), trodAll_cons_mk (shut_int Tryz.underlying5 hwf) (trodAll_cons_mk (shut_string Tryz.underlying9 y1) trodAll_mk0), rfl, bel.frame _, fun h => by cases h⟩

theorem said : Rows.FnRespScanSaid :=
  OpenClaim.holds_of_wide 3 Tryz.f3 rfl rfl rfl rfl rfl rfl rfl ⟨rfl, rfl, rfl, rfl, rfl⟩ rfl rfl rfl rfl rfl (by kernel_rfl) Tryz.func3 (by kernel_rfl)
    (of_decide_eq_true (by kernel_rfl)) (by unfold Func.isWrapper; first | (rw [if_pos (by decide +kernel)]; kernel_rfl) | (rw [if_neg (by decide +kernel)]; exact ⟨rfl, rfl⟩))
    (fun os started H enc _ => lifted os started H enc)

/-- No parameter wants a stand-in; the program's own looks are on: what the card asks. -/
theorem plain (f : FuncId) (fn : Func) (hf : Tryz.pinned.checked.prog.funcNamed "pub-telautograph/laws.FnRespScan" = some f) (hfn : Tryz.pinned.checked.prog.funcs[f]? = some fn) :
    true = Tryz.pinned.checked.prog.looks [] ∧ ∀ (j : Nat) t, fn.params[j]? = some t → Tryz.pinned.checked.prog.wantsStandIn t = false := by
  obtain rfl : f = 3 := Option.some.inj ((show Tryz.prog.funcNamed "pub-telautograph/laws.FnRespScan" = some 3 by kernel_rfl).symm.trans hf) |>.symm
  obtain rfl : fn = Tryz.f3 := (Option.some.inj (Tryz.func3.symm.trans hfn)).symm
  refine ⟨by kernel_rfl, fun j t ht => ?_⟩
  rw [Tryz.params3] at ht
  have hm : t ∈ [5, 9] := by simpa using Array.mem_of_getElem? ht
  have hall : ([5, 9].all fun u => !Tryz.prog.wantsStandIn u) = true := by kernel_rfl
  exact (show Tryz.prog.wantsStandIn t = false by simpa using List.all_eq_true.1 hall t hm)

/-- The card: the row, and what it lists tied to the program's text. -/
theorem fnRespScan_card : Rows.FnRespScanCardSaid :=
  Claim7.holds_tied_plain_at .later [] _ _ _ _ said (fun _ h => by cases h) (by kernel_rfl) (fun _ h => by cases h) fnRespScan_row_tie rfl ⟨rfl, rfl⟩ (by kernel_rfl) rfl plain (by kernel_rfl)
#print axioms fnRespScan_card
end
end Go.Proofs.YtohadobpiclllaaGreatDoor
