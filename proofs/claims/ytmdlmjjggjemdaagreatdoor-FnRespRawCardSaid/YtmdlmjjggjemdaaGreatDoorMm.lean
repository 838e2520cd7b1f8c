/- The law, walked: it answers true. laws.FnRespRaw: for every reply and every text behind it (as the given row reads them, the listed variables as the program's text lays them) the law answers true and changes nothing that it was given: the bytes of a reply that the reference writes are told as they stand, by both ways, and as many bytes are left as stand behind it. -/
import Derived.Test.YtmdlmjjggjemdaaGreatDoorMk
import Derived.Test.YtmdlmjjggjemdaaGreatDoorMl
import Derived.Test.YtmdlmjjggjemdaaGreatDoorMd
import Derived.Test.YtmdlmjjggjemdaaGreatDoorCards
import Derived.Test.YtmdlmjjggjemdaaGreatDoorTie
import Derived.WalkKit
import Derived.ProofKit
import Derived.OpenShut
import Derived.ShutString
import Derived.ChangeOld
import Derived.Below
import Derived.SizedLaws
import Derived.Lay
import Derived.MakeChecks
import Derived.Stop.LaidErr
import Derived.Lib.LaidTab
namespace Go.Proofs.YtmdlmjjggjemdaaGreatDoor
section
open Go.RowKit Go.Proofs.YtmdlmjjggjemdaaGreatDoorW.PrintWords Go.Proofs.YtmdlmjjggjemdaaGreatDoorW.PrintMore Go.Proofs.YtmdlmjjggjemdaaGreatDoorW.PrintLast Go.Proofs.YtmdlmjjggjemdaaGreatDoor.PFnRespRaw
attribute [local go_sem] max2_int min2_int max_two min_two max_three min_three max_four min_four
set_option linter.unusedVariables false
set_option linter.unusedSimpArgs false

theorem str_bytes (s : ByteArray) : strOfNums (bytesOf s) = s := by
  have h : (strOfNums (bytesOf s)).data.toList = s.data.toList := by
    rw [strOfNums_data]; unfold bytesOf
    rw [List.map_map]
    conv => rhs; rw [← List.map_id s.data.toList]
    apply List.map_congr_left
    intro b _
    simp
  cases hs : strOfNums (bytesOf s) with | mk d =>
  cases s with | mk d2 =>
  rw [hs] at h
  congr 1
  exact Array.toList_inj.1 h

/-- What the law answers. -/
def TruePost (w : World) (e : Ending) (w' : World) : Prop := e = .returned (.bool true) ∧ Below w.heap.size w w'

set_option maxHeartbeats 16000000 in
set_option maxRecDepth 100000 in
theorem law_calls (w : World) (x : S25) (A : Option Addr) (c : Nat) (R : ByteArray) (hc : x.f4.length ≤ c) (hC : k25.C w A x.f4.length x.f4) (h8 : 8 < w.heap.size) (hF : Fit x) (hU : TabU w) (hT : Tab10 w) (hR : R.size ≤ 140737488355328) :
    Calls Tryz.prog 3 #[.agg #[.int .i64 x.f0, .int .i64 x.f1, .int .u64 x.f2, .string x.f3, .slice A x.f4.length c], .string R] w (TruePost w) := by
  obtain ⟨o, ho⟩ : ∃ o, o = Obj.cells #[.int .i64 x.f0, .int .i64 x.f1, .int .u64 x.f2, .string x.f3, .slice A x.f4.length c] 25 := ⟨_, rfl⟩
  obtain ⟨W1, hW1⟩ : ∃ W1, W1 = w.alloc o := ⟨_, rfl⟩
  obtain ⟨g, hg⟩ : ∃ g, g = w.heap.size := ⟨_, rfl⟩
  have hB1 : Below w.heap.size w W1 := by rw [hW1]; exact below_alloc (Below.refl _ _) _
  have hbk : W1.heap[g]? = some o := by rw [hW1, hg]; exact heap_alloc_new _ _
  have HBK := Aside0.mk (hbk.trans (by rw [ho]))
  have HC := Aside0.mk hC
  have HF := Aside0.mk hF
  have HU := Aside0.mk hU
  have HT := Aside0.mk hT
  have HB1 := Aside0.mk hB1
  have HG := Aside0.mk hg
  have HFT := Aside0.mk (fits_any W1 x A c hc (Kd.C_below HC.out HB1.out))
  clear hC hF hU hT hB1 hbk
  go_enter Tryz.func3, Tryz.ntmps3
  go_upto_region 1 with fail
  rw [← ho, ← hW1, ← hg]
  have hcz0 : W1.cell? ⟨g, 0, none⟩ = some (.int .i64 x.f0) := (blk_cell HBK.out 0).trans rfl
  have hcz1 : W1.cell? ⟨g, 1, none⟩ = some (.int .i64 x.f1) := (blk_cell HBK.out 1).trans rfl
  have hcz2 : W1.cell? ⟨g, 2, none⟩ = some (.int .u64 x.f2) := (blk_cell HBK.out 2).trans rfl
  have hcz3 : W1.cell? ⟨g, 3, none⟩ = some (.string x.f3) := (blk_cell HBK.out 3).trans rfl
  have hcz4 : W1.cell? ⟨g, 4, none⟩ = some (.slice A x.f4.length c) := (blk_cell HBK.out 4).trans rfl
  clear ho hW1 hg
  go_wp2_with fail
  refine HFT.out.mono ?_
  rintro e w2 ⟨b, rfl, hb⟩
  have hbk2 := blk_below HBK.out hb
  have HBK2 := Aside0.mk hbk2
  have HB2 := Aside0.mk (HB1.out.trans (hb.mono HB1.out.size))
  clear hcz0 hcz1 hcz2 hcz3 hcz4 hb HFT HBK HB1 hbk2
  cases b
  · go_wp2
    go_ret
    exact ⟨rfl, HB2.out⟩
  by_cases hbig : (2147483647 : Int) < (R.size : Int)
  · go_wp2
    go_ret
    exact ⟨rfl, HB2.out⟩
  have hbig' : decide ((2147483647 : Int) < (R.size : Int)) = false := decide_eq_false hbig
  clear hbig
  have hcz0 : w2.cell? ⟨g, 0, none⟩ = some (.int .i64 x.f0) := (blk_cell HBK2.out 0).trans rfl
  have hcz1 : w2.cell? ⟨g, 1, none⟩ = some (.int .i64 x.f1) := (blk_cell HBK2.out 1).trans rfl
  have hcz2 : w2.cell? ⟨g, 2, none⟩ = some (.int .u64 x.f2) := (blk_cell HBK2.out 2).trans rfl
  have hcz3 : w2.cell? ⟨g, 3, none⟩ = some (.string x.f3) := (blk_cell HBK2.out 3).trans rfl
  have hcz4 : w2.cell? ⟨g, 4, none⟩ = some (.slice A x.f4.length c) := (blk_cell HBK2.out 4).trans rfl
  have HLT := Aside0.mk (lettered_calls w2 x A c hc (Kd.C_below HC.out HB2.out) (Nat.lt_of_lt_of_le h8 HB2.out.size) HF.out (HU.out.stays HB2.out) (HT.out.stays HB2.out))
  go_wp2_with fail
  refine HLT.out.mono ?_
  rintro e w3 ⟨s, b, rfl, hb, hlt⟩
  have hbk3 := blk_below HBK2.out hb
  have HBK3 := Aside0.mk hbk3
  have HB3 := Aside0.mk (HB2.out.trans (hb.mono HB2.out.size))
  have HS := Aside0.mk hlt
  clear hcz0 hcz1 hcz2 hcz3 hcz4 hb HLT HBK2 HB2 hbk3 hlt hbig'
  cases b
  · go_wp2
    go_ret
    exact ⟨rfl, HB3.out⟩
  by_cases h200 : (200 : Int) < (R.size : Int)
  · go_wp2
    go_ret
    exact ⟨rfl, HB3.out⟩
  have h200' : decide ((200 : Int) < (R.size : Int)) = false := decide_eq_false h200
  have hRs : R.size ≤ 200 := by omega
  obtain ⟨hsm, hss, hrep⟩ := HS.out (by simp)
  have HSM := Aside0.mk hsm
  have HREP := Aside0.mk hrep
  clear h200 hsm hrep
  have hcz0 : w3.cell? ⟨g, 0, none⟩ = some (.int .i64 x.f0) := (blk_cell HBK3.out 0).trans rfl
  have hcz1 : w3.cell? ⟨g, 1, none⟩ = some (.int .i64 x.f1) := (blk_cell HBK3.out 1).trans rfl
  have hcz2 : w3.cell? ⟨g, 2, none⟩ = some (.int .u64 x.f2) := (blk_cell HBK3.out 2).trans rfl
  have hcz3 : w3.cell? ⟨g, 3, none⟩ = some (.string x.f3) := (blk_cell HBK3.out 3).trans rfl
  have hcz4 : w3.cell? ⟨g, 4, none⟩ = some (.slice A x.f4.length c) := (blk_cell HBK3.out 4).trans rfl
  go_wp2_with fail
  refine (mild_any R (by omega) _).mono ?_
  rintro e w4 ⟨b, rfl, hb⟩
  have hbk4 := blk_below HBK3.out hb
  have HBK4 := Aside0.mk hbk4
  have HB4 := Aside0.mk (HB3.out.trans (hb.mono HB3.out.size))
  clear hcz0 hcz1 hcz2 hcz3 hcz4 hb HBK3 HB3 hbk4
  cases b
  · go_wp2
    go_ret
    exact ⟨rfl, HB4.out⟩
  have hcz0 : w4.cell? ⟨g, 0, none⟩ = some (.int .i64 x.f0) := (blk_cell HBK4.out 0).trans rfl
  have hcz1 : w4.cell? ⟨g, 1, none⟩ = some (.int .i64 x.f1) := (blk_cell HBK4.out 1).trans rfl
  have hcz2 : w4.cell? ⟨g, 2, none⟩ = some (.int .u64 x.f2) := (blk_cell HBK4.out 2).trans rfl
  have hcz3 : w4.cell? ⟨g, 3, none⟩ = some (.string x.f3) := (blk_cell HBK4.out 3).trans rfl
  have hcz4 : w4.cell? ⟨g, 4, none⟩ = some (.slice A x.f4.length c) := (blk_cell HBK4.out 4).trans rfl
  have HCA := Aside0.mk (carries_any w4 x A c hc (Kd.C_below HC.out HB4.out) HSM.out)
  go_wp2_with fail
  refine HCA.out.mono ?_
  rintro e w5 ⟨b, rfl, hb, hnb⟩
  have HB5 := Aside0.mk (HB4.out.trans (hb.mono HB4.out.size))
  have HNB := Aside0.mk hnb
  clear hcz0 hcz1 hcz2 hcz3 hcz4 hb HBK4 HB4 hnb HCA HC HF HU HT
  cases b
  case true =>
    go_wp2
    go_ret
    exact ⟨rfl, HB5.out⟩
  have hl : (bytesOf s).length ≤ 1000000 := by rw [bytesOf_length]; omega
  have ha : (s ++ R).size ≤ 9223372036854775807 := by rw [ByteArray.size_append]; omega
  have hrl : ((bytesOf R).length : Int) = (R.size : Int) := by rw [bytesOf_length]
  have h1 := fun W => raw_calls W (s ++ R) (bytesOf s) (bytesOf R) (bytes_app s R) (HREP.out (HNB.out (by simp))) hl ha
  have h2 := fun W => rawTo_calls W (s ++ R) (bytesOf s) (bytesOf R) (bytes_app s R) (HREP.out (HNB.out (by simp))) hl ha
  have h3 := fun W => discard_calls W (s ++ R) (bytesOf s) (bytesOf R) (bytes_app s R) (HREP.out (HNB.out (by simp))) hl ha
  rw [hrl] at h1 h2 h3
  rw [str_bytes] at h1 h2
  have H1 := Aside0.mk h1
  have H2 := Aside0.mk h2
  have H3 := Aside0.mk h3
  clear h1 h2 h3 hl ha hrl
  go_wp2_with fail
  refine (H1.out _).mono ?_
  rintro e w6 ⟨rfl, hb⟩
  have HB6 := Aside0.mk (HB5.out.trans (hb.mono HB5.out.size))
  clear hb
  go_wp2_with fail
  refine (H2.out _).mono ?_
  rintro e w7 ⟨rfl, hb⟩
  have HB7 := Aside0.mk (HB6.out.trans (hb.mono HB6.out.size))
  clear hb
  go_wp2_with fail
  refine (H3.out _).mono ?_
  rintro e w8 ⟨rfl, hb⟩
  have HB8 := Aside0.mk (HB7.out.trans (hb.mono HB7.out.size))
  clear hb
  go_wp2_with fail
  refine (alive_calls _).mono ?_
  rintro e w9 ⟨rfl, hb⟩
  have HB9 := Aside0.mk (HB8.out.trans (hb.mono HB8.out.size))
  clear hb
  go_wp2
  go_ret
  exact ⟨rfl, HB9.out⟩
end

section
open Go.ChangeShapes Go.WideShapes Go.ChangeAt Go.RowKit
open Go.ChangeMaps (open_string shut_string)
open Go.Proofs.YtmdlmjjggjemdaaGreatDoor.PFnRespRaw
set_option linter.unusedVariables false

theorem own : ownKnob Tryz.prog.godebug = none := by kernel_rfl
theorem laidOut : laidOutB Tryz.prog = true := by kernel_rfl
theorem gU : Tryz.prog.globalNamed "internal/strconv.uint64pow10" = some 1 := by kernel_rfl
theorem gUType : (Tryz.prog.globals[1]?).map (·.type) = some 130 := by kernel_rfl
theorem cells130 : Tryz.prog.cellsOf 130 = 20 := by kernel_rfl
theorem gP : Tryz.prog.globalNamed "internal/strconv.pow10Tab" = some 8 := by kernel_rfl
theorem gPType : (Tryz.prog.globals[8]?).map (·.type) = some 180 := by kernel_rfl
theorem cells180 : Tryz.prog.cellsOf 180 = 2 * 696 := by kernel_rfl
theorem cells22 : Tryz.prog.cellsOf 22 = 1 := by kernel_rfl
theorem cells179 : Tryz.prog.cellsOf 179 = 2 := by kernel_rfl

/-- What the listed variables give: the two tables that the walks read. -/
theorem tables {W : World} (h : laidMetH Tryz.prog Rows.fnRespRawRow.laid W) : TabU W ∧ Tab10 W := by
  rw [MakeChecks.laidMetH_plain _ _ _ (by kernel_rfl)] at h
  have h1 : laidMet Tryz.prog [("math/bits.deBruijn32tab", Rows.laid_math_bits_deBruijn32tab), ("math/bits.deBruijn64tab", Rows.laid_math_bits_deBruijn64tab), ("internal/strconv.optimize", Rows.laid_internal_strconv_optimize), ("internal/strconv.uint64pow10", Rows.laid_internal_strconv_uint64pow10), ("strconv.ErrRange", Rows.laid_strconv_ErrRange), ("strconv.ErrSyntax", Rows.laid_strconv_ErrSyntax), ("internal/strconv.leftcheats", Rows.laid_internal_strconv_leftcheats), ("internal/strconv.pow10Tab", Rows.laid_internal_strconv_pow10Tab)] W := h
  have h4 := laidMet.tail (laidMet.tail (laidMet.tail h1))
  have h8 := laidMet.tail (laidMet.tail (laidMet.tail (laidMet.tail h4)))
  have e4 : (Rows.laid_internal_strconv_uint64pow10 : DataW Unit) = Lib.tabData .u64 Lib.pow10Tab := by kernel_rfl
  rw [e4] at h4
  refine ⟨Lib.tabIs_of_head gU gUType Tryz.underlying130 Tryz.underlying22 cells22 cells130 h4, ?_⟩
  obtain ⟨ps, ⟨g', t', cs, fuel, p, q, hg', ht', hvar, hd, _, _⟩, _⟩ := h8
  obtain rfl := Option.some.inj (gP.symm.trans hg')
  obtain rfl := Option.some.inj (gPType.symm.trans ht')
  have hz := cells_of_pairs Tryz.underlying180 Tryz.underlying179 _ _ rfl rfl rfl Tryz.underlying22 Tryz.underlying22 rfl rfl cells22 cells22 cells179 cells180 hd
  have hc : ∀ i, W.cell? ⟨8, i, none⟩ = cs[i]? := fun i => World.var?_cell gP hvar i
  refine ⟨fun i => match cs[i]? with | some (.int _ z) => if z.toNat < 18446744073709551616 then z.toNat else 0 | _ => 0, fun i => ?_, fun i hi => ?_⟩
  · dsimp only
    split
    · split
      · assumption
      · omega
    · omega
  · obtain ⟨z, hz1, hz2⟩ := hz i hi
    have hz3 : cs[i]? = some (.int .u64 (z : Int)) := by simpa using hz2
    dsimp only
    rw [hc i, hz3]
    dsimp only
    rw [if_pos (by simpa using hz1)]
    simp

set_option maxRecDepth 100000 in
theorem lifted (os : Os) (started : os.Started) (H : Type) (enc : TypeId × Value → H) :
    ReturnsInHanded {} Tryz.checked os 3 .any (fun w args => (Rows.fnRespRawSpec.pre enc Tryz.prog Tryz.f3 [] false w args ∧ laidMetH Tryz.prog Rows.fnRespRawRow.laid w) ∧ sizedMet enc Tryz.prog Tryz.f3 (OpenSpec.ofChange Rows.fnRespRawSpec) false w args)
      (Rows.fnRespRawSpec.post enc Tryz.prog Tryz.f3 false true false false) := by
  refine returnsInHanded_of_change_and (C := Tryz.checked) (X := fun w _ => laidMetH Tryz.prog Rows.fnRespRawRow.laid w) (fun _ _ _ hh h => h.of_heap hh) own started (by kernel_rfl) Tryz.func3
    (ChangeSpec.witness_shaped (enc := enc) (C := Tryz.checked) (os := os) (X := fun w _ => laidMetH Tryz.prog Rows.fnRespRawRow.laid w) false (World.laidAll Tryz.prog os Rows.fnRespRawRow.laid) #[.agg #[.int .i64 0, .int .i64 0, .int .u64 0, .string ⟨#[]⟩, .slice none 0 0], .string ⟨#[]⟩] 8 (World.laidAll_os _ _ _)
      (World.shaped_of_ZipB (by kernel_rfl) (by kernel_rfl)) (by kernel_rfl) (by kernel_rfl) (by kernel_rfl)
      (by rw [MakeChecks.laidMetH_plain _ _ _ (by kernel_rfl)]; exact laidMet_laidAll _ (by kernel_rfl) (by kernel_rfl))) ?_
  intro W base args ds gs before hval0 hW _ hsz0 hL _
  have hsz : (DataW.weightsEach Tryz.prog (Tryz.f3.params.toList ++ Rows.fnRespRawSpec.plain.varTypes Tryz.prog) (ds ++ gs)).all (· ≤ reachBytes) = true := hsz0
  have hval : ∀ (j : Nat) t v, Tryz.f3.params[j]? = some t → args[j]? = some v → Value.okWide Tryz.prog W .any base t v := hval0
  have hW' := hW
  obtain ⟨p, q, hA0, hV, rfl, hfz, hnd⟩ := hW
  have hA : DataW.TrodAll enc Tryz.prog W 0 (fun _ => true) true Tryz.f3.params.toList args.toList ds p := hA0
  rw [Tryz.params3] at hA hval hsz
  obtain ⟨v0, vs0, d0, ds0, p0, q0, hargs, rfl, rfl, h0, r0⟩ := trodAll_cons hA
  obtain ⟨v1, vs1, d1, ds1, p1, q1, rfl, rfl, rfl, h1, r1⟩ := trodAll_cons r0
  obtain ⟨rfl, rfl, rfl⟩ := trodAll_nil r1
  obtain rfl : args = #[v0, v1] := by cases args; simp_all
  obtain ⟨rfl, rfl⟩ := trodVars_none hV
  have k0 := h0
  have lt0 : ∀ x ∈ p0, x.block < W.heap.size := by obtain ⟨m, hm⟩ := k0; exact DataW.trod_lt m _ _ _ hm
  obtain ⟨cs, rfl, hcs⟩ := okWide_struct Tryz.underlying25 (hval 0 25 v0 rfl rfl)
  obtain ⟨fuel, hf⟩ := h0
  obtain ⟨x, A, c, hx, hc, hC, hF⟩ := tree_of_trod fuel _ _ hf
  obtain rfl : cs = #[.int .i64 x.f0, .int .i64 x.f1, .int .u64 x.f2, .string x.f3, .slice A x.f4.length c] := by
    apply Array.toList_inj.1
    exact hx
  obtain ⟨R, rfl, rfl, rfl, y1⟩ := open_string Tryz.underlying9 (hval 1 9 v1 rfl rfl) h1
  have w1 : R.size ≤ 140737488351232 := by
    have z := sized_string hsz (j := 1) (t := 9) rfl rfl
    rw [Array.length_toList] at z
    exact z
  obtain ⟨hU, hT⟩ := tables hL
  have h8 : 8 < W.heap.size := by
    obtain ⟨T, _, hT⟩ := hT
    exact World.block_lt_of_cell? W ⟨8, 0, none⟩ (hT 0 (by omega))
  clear hA0 hval0 hsz0 hsz
  refine (law_calls W x A c R hc hC h8 hF hU hT (by omega)).mono fun e W' ⟨he, bel⟩ => ?_
  subst he
  exact ⟨_, rfl, _, _, _, [], _, [], hW', trodAll_mk1 (shut_bool Tryz.underlying4 _), trodAll_cons_mk (Below.trod laidOut (by kernel_rfl) (of_decide_eq_true (by kernel_rfl)) k0 bel lt0) (trodAll_cons_mk (shut_string Tryz.underlying9 y1) trodAll_mk0), rfl, bel.frame _, fun h => by cases h⟩

theorem said : Rows.FnRespRawSaid :=
  OpenClaim.holds_of_wide 3 Tryz.f3 rfl rfl rfl rfl rfl rfl rfl ⟨rfl, rfl, rfl, rfl, rfl⟩ rfl rfl rfl rfl rfl (by kernel_rfl) Tryz.func3 (by kernel_rfl)
    (of_decide_eq_true (by kernel_rfl)) (by unfold Func.isWrapper; first | (rw [if_pos (by decide +kernel)]; kernel_rfl) | (rw [if_neg (by decide +kernel)]; exact ⟨rfl, rfl⟩))
    (fun os started H enc _ => lifted os started H enc)

/-- No parameter wants a stand-in; the program's own looks are on: what the card asks. -/
theorem plain (f : FuncId) (fn : Func) (hf : Tryz.pinned.checked.prog.funcNamed "pub-telautograph/laws.FnRespRaw" = some f) (hfn : Tryz.pinned.checked.prog.funcs[f]? = some fn) :
    true = Tryz.pinned.checked.prog.looks [] ∧ ∀ (j : Nat) t, fn.params[j]? = some t → Tryz.pinned.checked.prog.wantsStandIn t = false := by
  obtain rfl : f = 3 := Option.some.inj ((show Tryz.prog.funcNamed "pub-telautograph/laws.FnRespRaw" = some 3 by kernel_rfl).symm.trans hf) |>.symm
  obtain rfl : fn = Tryz.f3 := (Option.some.inj (Tryz.func3.symm.trans hfn)).symm
  refine ⟨by kernel_rfl, fun j t ht => ?_⟩
  rw [Tryz.params3] at ht
  have hm : t ∈ [25, 9] := by simpa using Array.mem_of_getElem? ht
  have hall : ([25, 9].all fun u => !Tryz.prog.wantsStandIn u) = true := by kernel_rfl
  exact (show Tryz.prog.wantsStandIn t = false by simpa using List.all_eq_true.1 hall t hm)

/-- The card: the row, and what it lists tied to the program's text. -/
theorem fnRespRaw_card : Rows.FnRespRawCardSaid :=
  Claim7.holds_tied_plain_at .later [] _ _ _ _ said (fun _ h => by cases h) (by kernel_rfl) (fun _ h => by cases h) fnRespRaw_row_tie rfl ⟨rfl, rfl⟩ (by kernel_rfl) rfl plain (by kernel_rfl)
#print axioms fnRespRaw_card
end
end Go.Proofs.YtmdlmjjggjemdaaGreatDoor
