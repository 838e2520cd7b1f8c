-- PRINTED BY print.sh 35421559b90ae4d0a3588c463048766b98c2df88dd9212a6774a882060cdf62d: not written by this session
import Derived.Test.YtohadobpiclllaaGreatDoorProg
import Derived.Below
import Derived.Deep.Draws
import Derived.Deep.AppendLies
import Derived.Maps.AppendAt
import Derived.OwnWalk
import Derived.Laws.BytesArg
import Derived.Laws.MakeOwn
import Derived.Laws.OwnMore
import Derived.Deep.OwnRows
import Derived.Tactics
import Derived.Lib.ConvBytes
import Derived.Laws.Slices
import Derived.WalkKit
import Derived.KernelRfl
import Derived.RowKit3
import Derived.Deep.LoopGhost
import Derived.Deep.QuietTactic
import Derived.BigQuiet
import Derived.WideLaws
import Derived.Deep.DeepCutAuto
import Derived.Deep.CutBlock
import Derived.Deep.RegionHeld3
import Derived.Laws.Rows
import Derived.Lib.AppendStr
import Derived.ArgAppend
import Derived.Laws.IdiomCopy
import Derived.OrdersHeld
import Derived.Laws.BitsLemmas
import Derived.RowKit
import Derived.Test.YtohadobpiclllaaGreatDoorWWords
import Derived.Test.YtohadobpiclllaaGreatDoorWLast
import Derived.Test.YtohadobpiclllaaGreatDoorWTab
import Derived.Test.YtohadobpiclllaaGreatDoorWFour
import Derived.Test.YtohadobpiclllaaGreatDoorWQPut
import Derived.Test.YtohadobpiclllaaGreatDoorWApart
import Derived.Test.YtohadobpiclllaaGreatDoorWArr
import Derived.Test.YtohadobpiclllaaGreatDoorWZeros
import Derived.Test.YtohadobpiclllaaGreatDoorWFoot
import Derived.Test.YtohadobpiclllaaGreatDoorWKept
import Derived.Test.YtohadobpiclllaaGreatDoorWShare
import Derived.Test.YtohadobpiclllaaGreatDoorWN
import Derived.Test.YtohadobpiclllaaGreatDoorWFootNe
import Derived.Test.YtohadobpiclllaaGreatDoorWAt
import Derived.Test.YtohadobpiclllaaGreatDoorWEqStruct
import Derived.Test.YtohadobpiclllaaGreatDoorWRepsOne
import Derived.Test.YtohadobpiclllaaGreatDoorWInv
import Derived.Test.YtohadobpiclllaaGreatDoorWInvWords
import Derived.Test.YtohadobpiclllaaGreatDoorWGuard
import Derived.Test.YtohadobpiclllaaGreatDoorWNEv
import Derived.Test.YtohadobpiclllaaGreatDoorWMore
namespace Go.Proofs.YtohadobpiclllaaGreatDoor.PFnRespScan
open Go.RowKit Go.Proofs.YtohadobpiclllaaGreatDoorW.PrintWords Go.Proofs.YtohadobpiclllaaGreatDoorW.PrintLast Go.Proofs.YtohadobpiclllaaGreatDoorW.PrintMore
attribute [local go_sem] max2_int min2_int max_two min_two max_three min_three max_four min_four   -- for this text's walks alone
set_option linter.unusedVariables false
set_option linter.unusedSimpArgs false



def errW : Option Int → Value
  | none => .nilIface
  | some c => .iface 135 (.int .i64 c)
theorem errW_none : errW none = .nilIface := rfl
theorem errW_some (c : Int) : errW (some c) = .iface 135 (.int .i64 c) := rfl

theorem info30 : (Tryz.prog.info? 30).map (fun i => (i.zero, i.size, i.bytes)) = some (some (.agg #[(.int .i64 0), (.bool false), (.int .i64 0), (.int .u64 0), (.string ⟨#[]⟩), (.slice none 0 0)]), 6, 72) := by kernel_rfl
-- the values' own types
/-! #### struct type 30, nested in itself -/
structure S30 where
  f0 : Int
  f1 : Bool
  f2 : Int
  f3 : Int
  f4 : ByteArray
  f5 : (List S30)
def z30 : S30 := ⟨(0 : Int), false, (0 : Int), (0 : Int), (⟨#[]⟩ : ByteArray), ([] : List S30)⟩
def F30 (d : Kd S30) : Kd S30 := Kd.iso (Kd.pair (Kd.int .i64) (Kd.pair Kd.bool (Kd.pair (Kd.int .i64) (Kd.pair (Kd.int .u64) (Kd.pair Kd.string (Kd.slice 30 d)))))) (fun x : S30 => (x.f0, x.f1, x.f2, x.f3, x.f4, x.f5))
theorem mono30 : Kd.Mono F30 := Kd.mono_iso _ (Kd.mono_pair (Kd.mono_const _) (Kd.mono_pair (Kd.mono_const _) (Kd.mono_pair (Kd.mono_const _) (Kd.mono_pair (Kd.mono_const _) (Kd.mono_pair (Kd.mono_const _) (Kd.mono_slice 30 Kd.mono_id))))))
theorem sub30 : Kd.Sub F30 [30] := Kd.sub_iso _ (Kd.sub_pair (Kd.sub_const _ (by decide)) (Kd.sub_pair (Kd.sub_const _ (by decide)) (Kd.sub_pair (Kd.sub_const _ (by decide)) (Kd.sub_pair (Kd.sub_const _ (by decide)) (Kd.sub_pair (Kd.sub_const _ (by decide)) (Kd.sub_slice 30 (by decide) Kd.sub_id))))))
theorem sz30 : ∀ n, (Kd.upto F30 6 [30] n).sz = 6 := Kd.upto_sz (fun _ => rfl)
def k30 : Kd S30 := Kd.fix F30 6 [30] sz30 (Kd.upto_E sub30)
theorem k30_open {w : World} {x : S30} {cs : List Value} (h : k30.K w x cs) : ∃ A5 c5, cs = [.int .i64 x.f0, .bool x.f1, .int .i64 x.f2, .int .u64 x.f3, .string x.f4, .slice A5 x.f5.length c5] ∧ x.f5.length ≤ c5 ∧ k30.C w A5 x.f5.length x.f5 := by
  obtain ⟨n, h⟩ := h
  cases n with
  | zero => exact h.elim
  | succ n =>
    obtain ⟨_, _, rfl, rfl, ⟨_, _, rfl, rfl, ⟨_, _, rfl, rfl, ⟨_, _, rfl, rfl, ⟨_, _, rfl, rfl, ⟨A5, c5, rfl, l5, g5⟩⟩⟩⟩⟩⟩ := h
    exact ⟨A5, c5, rfl, l5, Kd.fix_C g5⟩
theorem k30_openM {w : World} {base : Nat} {ok : Nat → Prop} {x : S30} {cs : List Value} (h : k30.M w base ok x cs) : ∃ v5, cs = [.int .i64 x.f0, .bool x.f1, .int .i64 x.f2, .int .u64 x.f3, .string x.f4, v5] ∧ k30.R 30 w base ok v5 x.f5 := by
  obtain ⟨n, h⟩ := h
  cases n with
  | zero => exact h.elim
  | succ n =>
    obtain ⟨_, _, rfl, rfl, ⟨_, _, rfl, rfl, ⟨_, _, rfl, rfl, ⟨_, _, rfl, rfl, ⟨_, _, rfl, rfl, ⟨v5, rfl, g5⟩⟩⟩⟩⟩⟩ := h
    exact ⟨v5, rfl, Kd.fix_R g5⟩
theorem k30_mk (w : World) (x : S30) {A5 : Option Addr} {c5 : Nat} (l5 : x.f5.length ≤ c5) (g5 : k30.C w A5 x.f5.length x.f5) : k30.K w x [.int .i64 x.f0, .bool x.f1, .int .i64 x.f2, .int .u64 x.f3, .string x.f4, .slice A5 x.f5.length c5] := by
  obtain ⟨n5, q5⟩ := Kd.fix_C_back mono30 g5
  have r5 := Kd.upto_C_le mono30 sz30 (show n5 ≤ n5 by omega) q5
  exact ⟨n5 + 1, ⟨[.int .i64 x.f0], [.bool x.f1, .int .i64 x.f2, .int .u64 x.f3, .string x.f4, .slice A5 x.f5.length c5], rfl, rfl, ⟨[.bool x.f1], [.int .i64 x.f2, .int .u64 x.f3, .string x.f4, .slice A5 x.f5.length c5], rfl, rfl, ⟨[.int .i64 x.f2], [.int .u64 x.f3, .string x.f4, .slice A5 x.f5.length c5], rfl, rfl, ⟨[.int .u64 x.f3], [.string x.f4, .slice A5 x.f5.length c5], rfl, rfl, ⟨[.string x.f4], [.slice A5 x.f5.length c5], rfl, rfl, ⟨A5, c5, rfl, l5, r5⟩⟩⟩⟩⟩⟩⟩
theorem k30_mkM (w : World) (base : Nat) (ok : Nat → Prop) (x : S30) {v5 : Value} (g5 : k30.R 30 w base ok v5 x.f5) : k30.M w base ok x [.int .i64 x.f0, .bool x.f1, .int .i64 x.f2, .int .u64 x.f3, .string x.f4, v5] := by
  obtain ⟨n5, q5⟩ := Kd.fix_R_back mono30 g5
  have r5 := Kd.upto_R_le mono30 sz30 (show n5 ≤ n5 by omega) q5
  exact ⟨n5 + 1, ⟨[.int .i64 x.f0], [.bool x.f1, .int .i64 x.f2, .int .u64 x.f3, .string x.f4, v5], rfl, rfl, ⟨[.bool x.f1], [.int .i64 x.f2, .int .u64 x.f3, .string x.f4, v5], rfl, rfl, ⟨[.int .i64 x.f2], [.int .u64 x.f3, .string x.f4, v5], rfl, rfl, ⟨[.int .u64 x.f3], [.string x.f4, v5], rfl, rfl, ⟨[.string x.f4], [v5], rfl, rfl, ⟨v5, rfl, r5⟩⟩⟩⟩⟩⟩⟩
def rd_T30 (xs : List S30) (i : Int) : S30 := xs.getD i.toNat z30
theorem at_T30 {w : World} {A : Option Addr} {n : Nat} {xs : List S30} (h : Kd.C k30 w A n xs) (i : Int) (h0 : 0 ≤ i) (h1 : i < n) : ∃ ad A5 c5, A = some ad ∧ w.cell? (ad.add (i.toNat * 6)) = some (.int .i64 (rd_T30 xs i).f0) ∧ w.cell? ⟨(ad.add (i.toNat * 6)).block, (ad.add (i.toNat * 6)).off + 1, none⟩ = some (.bool (rd_T30 xs i).f1) ∧ w.cell? ⟨(ad.add (i.toNat * 6)).block, (ad.add (i.toNat * 6)).off + 2, none⟩ = some (.int .i64 (rd_T30 xs i).f2) ∧ w.cell? ⟨(ad.add (i.toNat * 6)).block, (ad.add (i.toNat * 6)).off + 3, none⟩ = some (.int .u64 (rd_T30 xs i).f3) ∧ w.cell? ⟨(ad.add (i.toNat * 6)).block, (ad.add (i.toNat * 6)).off + 4, none⟩ = some (.string (rd_T30 xs i).f4) ∧ w.cell? ⟨(ad.add (i.toNat * 6)).block, (ad.add (i.toNat * 6)).off + 5, none⟩ = some (.slice A5 (rd_T30 xs i).f5.length c5) ∧ (rd_T30 xs i).f5.length ≤ c5 ∧ k30.C w A5 (rd_T30 xs i).f5.length (rd_T30 xs i).f5 := by
  obtain ⟨ad, c, e, _, hK, hc0⟩ := Kd.C_get h z30 i h0 h1
  have hc : ∀ j u, c[j]? = some u → w.cell? (ad.add (i.toNat * 6 + j)) = some u := hc0
  obtain ⟨A5, c5, rfl, l5, g5⟩ := k30_open hK
  exact ⟨ad, A5, c5, e, hc 0 _ rfl, by rw [← add_field _ _ 1 (by omega)]; exact hc 1 _ rfl, by rw [← add_field _ _ 2 (by omega)]; exact hc 2 _ rfl, by rw [← add_field _ _ 3 (by omega)]; exact hc 3 _ rfl, by rw [← add_field _ _ 4 (by omega)]; exact hc 4 _ rfl, by rw [← add_field _ _ 5 (by omega)]; exact hc 5 _ rfl, l5, g5⟩

/-! #### struct type 25, nested in itself -/
structure S25 where
  f0 : Int
  f1 : Bool
  f2 : Int
  f3 : Int
  f4 : ByteArray
  f5 : (List S25)
def z25 : S25 := ⟨(0 : Int), false, (0 : Int), (0 : Int), (⟨#[]⟩ : ByteArray), ([] : List S25)⟩
def F25 (d : Kd S25) : Kd S25 := Kd.iso (Kd.pair (Kd.int .i64) (Kd.pair Kd.bool (Kd.pair (Kd.int .i64) (Kd.pair (Kd.int .u64) (Kd.pair Kd.string (Kd.slice 25 d)))))) (fun x : S25 => (x.f0, x.f1, x.f2, x.f3, x.f4, x.f5))
theorem mono25 : Kd.Mono F25 := Kd.mono_iso _ (Kd.mono_pair (Kd.mono_const _) (Kd.mono_pair (Kd.mono_const _) (Kd.mono_pair (Kd.mono_const _) (Kd.mono_pair (Kd.mono_const _) (Kd.mono_pair (Kd.mono_const _) (Kd.mono_slice 25 Kd.mono_id))))))
theorem sub25 : Kd.Sub F25 [25] := Kd.sub_iso _ (Kd.sub_pair (Kd.sub_const _ (by decide)) (Kd.sub_pair (Kd.sub_const _ (by decide)) (Kd.sub_pair (Kd.sub_const _ (by decide)) (Kd.sub_pair (Kd.sub_const _ (by decide)) (Kd.sub_pair (Kd.sub_const _ (by decide)) (Kd.sub_slice 25 (by decide) Kd.sub_id))))))
theorem sz25 : ∀ n, (Kd.upto F25 6 [25] n).sz = 6 := Kd.upto_sz (fun _ => rfl)
def k25 : Kd S25 := Kd.fix F25 6 [25] sz25 (Kd.upto_E sub25)
theorem k25_open {w : World} {x : S25} {cs : List Value} (h : k25.K w x cs) : ∃ A5 c5, cs = [.int .i64 x.f0, .bool x.f1, .int .i64 x.f2, .int .u64 x.f3, .string x.f4, .slice A5 x.f5.length c5] ∧ x.f5.length ≤ c5 ∧ k25.C w A5 x.f5.length x.f5 := by
  obtain ⟨n, h⟩ := h
  cases n with
  | zero => exact h.elim
  | succ n =>
    obtain ⟨_, _, rfl, rfl, ⟨_, _, rfl, rfl, ⟨_, _, rfl, rfl, ⟨_, _, rfl, rfl, ⟨_, _, rfl, rfl, ⟨A5, c5, rfl, l5, g5⟩⟩⟩⟩⟩⟩ := h
    exact ⟨A5, c5, rfl, l5, Kd.fix_C g5⟩
theorem k25_openM {w : World} {base : Nat} {ok : Nat → Prop} {x : S25} {cs : List Value} (h : k25.M w base ok x cs) : ∃ v5, cs = [.int .i64 x.f0, .bool x.f1, .int .i64 x.f2, .int .u64 x.f3, .string x.f4, v5] ∧ k25.R 25 w base ok v5 x.f5 := by
  obtain ⟨n, h⟩ := h
  cases n with
  | zero => exact h.elim
  | succ n =>
    obtain ⟨_, _, rfl, rfl, ⟨_, _, rfl, rfl, ⟨_, _, rfl, rfl, ⟨_, _, rfl, rfl, ⟨_, _, rfl, rfl, ⟨v5, rfl, g5⟩⟩⟩⟩⟩⟩ := h
    exact ⟨v5, rfl, Kd.fix_R g5⟩
theorem k25_mk (w : World) (x : S25) {A5 : Option Addr} {c5 : Nat} (l5 : x.f5.length ≤ c5) (g5 : k25.C w A5 x.f5.length x.f5) : k25.K w x [.int .i64 x.f0, .bool x.f1, .int .i64 x.f2, .int .u64 x.f3, .string x.f4, .slice A5 x.f5.length c5] := by
  obtain ⟨n5, q5⟩ := Kd.fix_C_back mono25 g5
  have r5 := Kd.upto_C_le mono25 sz25 (show n5 ≤ n5 by omega) q5
  exact ⟨n5 + 1, ⟨[.int .i64 x.f0], [.bool x.f1, .int .i64 x.f2, .int .u64 x.f3, .string x.f4, .slice A5 x.f5.length c5], rfl, rfl, ⟨[.bool x.f1], [.int .i64 x.f2, .int .u64 x.f3, .string x.f4, .slice A5 x.f5.length c5], rfl, rfl, ⟨[.int .i64 x.f2], [.int .u64 x.f3, .string x.f4, .slice A5 x.f5.length c5], rfl, rfl, ⟨[.int .u64 x.f3], [.string x.f4, .slice A5 x.f5.length c5], rfl, rfl, ⟨[.string x.f4], [.slice A5 x.f5.length c5], rfl, rfl, ⟨A5, c5, rfl, l5, r5⟩⟩⟩⟩⟩⟩⟩
theorem k25_mkM (w : World) (base : Nat) (ok : Nat → Prop) (x : S25) {v5 : Value} (g5 : k25.R 25 w base ok v5 x.f5) : k25.M w base ok x [.int .i64 x.f0, .bool x.f1, .int .i64 x.f2, .int .u64 x.f3, .string x.f4, v5] := by
  obtain ⟨n5, q5⟩ := Kd.fix_R_back mono25 g5
  have r5 := Kd.upto_R_le mono25 sz25 (show n5 ≤ n5 by omega) q5
  exact ⟨n5 + 1, ⟨[.int .i64 x.f0], [.bool x.f1, .int .i64 x.f2, .int .u64 x.f3, .string x.f4, v5], rfl, rfl, ⟨[.bool x.f1], [.int .i64 x.f2, .int .u64 x.f3, .string x.f4, v5], rfl, rfl, ⟨[.int .i64 x.f2], [.int .u64 x.f3, .string x.f4, v5], rfl, rfl, ⟨[.int .u64 x.f3], [.string x.f4, v5], rfl, rfl, ⟨[.string x.f4], [v5], rfl, rfl, ⟨v5, rfl, r5⟩⟩⟩⟩⟩⟩⟩
def rd_T25 (xs : List S25) (i : Int) : S25 := xs.getD i.toNat z25
theorem at_T25 {w : World} {A : Option Addr} {n : Nat} {xs : List S25} (h : Kd.C k25 w A n xs) (i : Int) (h0 : 0 ≤ i) (h1 : i < n) : ∃ ad A5 c5, A = some ad ∧ w.cell? (ad.add (i.toNat * 6)) = some (.int .i64 (rd_T25 xs i).f0) ∧ w.cell? ⟨(ad.add (i.toNat * 6)).block, (ad.add (i.toNat * 6)).off + 1, none⟩ = some (.bool (rd_T25 xs i).f1) ∧ w.cell? ⟨(ad.add (i.toNat * 6)).block, (ad.add (i.toNat * 6)).off + 2, none⟩ = some (.int .i64 (rd_T25 xs i).f2) ∧ w.cell? ⟨(ad.add (i.toNat * 6)).block, (ad.add (i.toNat * 6)).off + 3, none⟩ = some (.int .u64 (rd_T25 xs i).f3) ∧ w.cell? ⟨(ad.add (i.toNat * 6)).block, (ad.add (i.toNat * 6)).off + 4, none⟩ = some (.string (rd_T25 xs i).f4) ∧ w.cell? ⟨(ad.add (i.toNat * 6)).block, (ad.add (i.toNat * 6)).off + 5, none⟩ = some (.slice A5 (rd_T25 xs i).f5.length c5) ∧ (rd_T25 xs i).f5.length ≤ c5 ∧ k25.C w A5 (rd_T25 xs i).f5.length (rd_T25 xs i).f5 := by
  obtain ⟨ad, c, e, _, hK, hc0⟩ := Kd.C_get h z25 i h0 h1
  have hc : ∀ j u, c[j]? = some u → w.cell? (ad.add (i.toNat * 6 + j)) = some u := hc0
  obtain ⟨A5, c5, rfl, l5, g5⟩ := k25_open hK
  exact ⟨ad, A5, c5, e, hc 0 _ rfl, by rw [← add_field _ _ 1 (by omega)]; exact hc 1 _ rfl, by rw [← add_field _ _ 2 (by omega)]; exact hc 2 _ rfl, by rw [← add_field _ _ 3 (by omega)]; exact hc 3 _ rfl, by rw [← add_field _ _ 4 (by omega)]; exact hc 4 _ rfl, by rw [← add_field _ _ 5 (by omega)]; exact hc 5 _ rfl, l5, g5⟩

end Go.Proofs.YtohadobpiclllaaGreatDoor.PFnRespScan
