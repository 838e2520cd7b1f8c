/- What the reference writes: every kind; Write; lettered. The law's own tests (carries, mild, the sizes), in plain words: they answer, and what their answers mean. The arguments of the law, read: a reply as data is a tree of replies in memory; the tables out of what the row lists. -/
import Derived.Test.YtmdlmjjggjemdaaGreatDoorMh
import Derived.Test.YtmdlmjjggjemdaaGreatDoorMi
import Derived.Test.YtmdlmjjggjemdaaGreatDoorMj
import Derived.Test.YtmdlmjjggjemdaaGreatDoorMg
import Derived.Lib.LaidTab
import Derived.Lib.LaidU8
import Derived.ChangeArms
import Derived.DataElems
namespace Go.Proofs.YtmdlmjjggjemdaaGreatDoor
section
open Go.RowKit Go.Proofs.YtmdlmjjggjemdaaGreatDoorW.PrintWords Go.Proofs.YtmdlmjjggjemdaaGreatDoorW.PrintMore Go.Proofs.YtmdlmjjggjemdaaGreatDoorW.PrintLast Go.Proofs.YtmdlmjjggjemdaaGreatDoor.PFnRespRaw
attribute [local go_sem] max2_int min2_int max_two min_two max_three min_three max_four min_four
set_option linter.unusedVariables false
set_option linter.unusedSimpArgs false

theorem write_any (x : S25) : WriteOK x :=
  s25_ind (P := WriteOK) (fun x ih => by
    obtain ⟨k, i, f, S, kids⟩ := x
    by_cases hk : k ∈ [43,45,36,33,61,58,95,44,35,40,42,37,126,124,62]
    · simp only [List.mem_cons, List.not_mem_nil, or_false] at hk
      rcases hk with rfl | rfl | rfl | rfl | rfl | rfl | rfl | rfl | rfl | rfl | rfl | rfl | rfl | rfl | rfl
      · exact write_43 i f S kids
      · exact write_45 i f S kids
      · exact write_36 i f S kids
      · exact write_33 i f S kids
      · exact write_61 i f S kids
      · exact write_58 i f S kids
      · exact write_95 i f S kids
      · exact write_44 i f S kids
      · exact write_35 i f S kids
      · exact write_40 i f S kids
      · exact write_42 i f S kids ih
      · exact write_37 i f S kids ih
      · exact write_126 i f S kids ih
      · exact write_124 i f S kids ih
      · exact write_62 i f S kids ih
    · exact write_other i f S kids hk) x

/-- What Write gives: where it speaks, bytes of a reply. -/
def ToldPost (w : World) (x : S25) (e : Ending) (w' : World) : Prop :=
  ∃ (s : ByteArray) (c : Int), e = .returned (.tuple #[.string s, .int .i64 c]) ∧ Below w.heap.size w w' ∧ (c = 1 → s.size ≤ 60000 ∧ (NoBar x → Rep (bytesOf s)))

set_option maxHeartbeats 8000000 in
set_option maxRecDepth 100000 in
theorem told_calls (w : World) (x : S25) (A : Option Addr) (c : Nat) (hc : x.f4.length ≤ c) (hC : k25.C w A x.f4.length x.f4) (h8 : 8 < w.heap.size) (hS : Small x) (hF : Fit x) (hU : TabU w) (hT : Tab10 w) :
    Calls Tryz.prog 13 #[.agg #[.int .i64 x.f0, .int .i64 x.f1, .int .u64 x.f2, .string x.f3, .slice A x.f4.length c]] w (ToldPost w x) := by
  have HT := Aside0.mk (show TreeAt w x _ from ⟨A, c, rfl, hc, hC⟩)
  obtain ⟨o, ho⟩ : ∃ o, o = Obj.cells #[.int .i64 x.f0, .int .i64 x.f1, .int .u64 x.f2, .string x.f3, .slice A x.f4.length c] 25 := ⟨_, rfl⟩
  have hB : Below w.heap.size w ((w.alloc o).alloc (.cells #[.int .i64 2000] 3)) := below_alloc (below_alloc (Below.refl _ _) _) _
  have hl : Left1 ((w.alloc o).alloc (.cells #[.int .i64 2000] 3)) (w.heap.size + 1) 3 2000 := by
    have := heap_alloc_new (w.alloc o) (.cells #[.int .i64 2000] 3)
    rw [show (w.alloc o).heap.size = w.heap.size + 1 by simp] at this
    exact this
  have H := Aside0.mk (write_any x w _ _ (w.heap.size + 1) 3 2000 0 HT.out hB h8 (by omega) hl (by omega) (by omega) (by omega) (by omega) hS hF hU hT)
  rw [ho] at H
  clear hC hS hF hU hT hB hl ho HT
  go_enter Tryz.func13, Tryz.ntmps13
  go_wp2_with fail
  refine H.out.mono ?_
  rintro e w1 ⟨s, b, n', rfl, h1, hm, hb⟩
  have HB := Aside0.mk hb
  have hM : Mods (fun _ => False) w w1 := ((((Mods.refl (fun _ => False) w).alloc _).alloc _).trans hm (fun i hi e => by omega))
  have HM := Aside0.mk hM
  clear hb hM hm h1 H
  cases b
  · go_wp2
    go_ret2
    exact ⟨_, _, rfl, HM.out.below, fun h => by omega⟩
  · by_cases hs : (60000 : Int) < (s.size : Int)
    · go_wp2
      go_ret2
      exact ⟨_, _, rfl, HM.out.below, fun h => by omega⟩
    · have hs' : decide ((60000 : Int) < (s.size : Int)) = false := decide_eq_false hs
      have HS := Aside0.mk hs
      clear hs
      go_wp2
      go_ret2
      obtain ⟨_, n0, _, _, _, hr⟩ := HB.out (by simp)
      exact ⟨_, _, rfl, HM.out.below, fun _ => ⟨by have := HS.out; omega, hr⟩⟩

/-- What lettered gives. -/
def LetPost (w : World) (x : S25) (e : Ending) (w' : World) : Prop :=
  ∃ (s : ByteArray) (b : Bool), e = .returned (.tuple #[.string s, .bool b]) ∧ Below w.heap.size w w' ∧ (b = true → Small x ∧ s.size ≤ 60000 ∧ (NoBar x → Rep (bytesOf s)))

set_option maxHeartbeats 8000000 in
set_option maxRecDepth 100000 in
theorem lettered_calls (w : World) (x : S25) (A : Option Addr) (c : Nat) (hc : x.f4.length ≤ c) (hC : k25.C w A x.f4.length x.f4) (h8 : 8 < w.heap.size) (hF : Fit x) (hU : TabU w) (hT : Tab10 w) :
    Calls Tryz.prog 5 #[.agg #[.int .i64 x.f0, .int .i64 x.f1, .int .u64 x.f2, .string x.f3, .slice A x.f4.length c]] w (LetPost w x) := by
  obtain ⟨o, ho⟩ : ∃ o, o = Obj.cells #[.int .i64 x.f0, .int .i64 x.f1, .int .u64 x.f2, .string x.f3, .slice A x.f4.length c] 25 := ⟨_, rfl⟩
  obtain ⟨W1, hW1⟩ : ∃ W1, W1 = w.alloc o := ⟨_, rfl⟩
  obtain ⟨g, hg⟩ : ∃ g, g = w.heap.size := ⟨_, rfl⟩
  have hB1 : Below w.heap.size w W1 := by rw [hW1]; exact below_alloc (Below.refl _ _) _
  have hbk : W1.heap[g]? = some o := by rw [hW1, hg]; exact heap_alloc_new _ _
  have HBK := Aside0.mk (hbk.trans (by rw [ho]))
  have HC := Aside0.mk hC
  have HF := Aside0.mk hF
  have HU := Aside0.mk hU
  have HT := Aside0.mk hT
  have HB1 := Aside0.mk hB1
  have HG := Aside0.mk hg
  have HFW := Aside0.mk (few_calls W1 x A c hc (Kd.C_below HC.out HB1.out))
  clear hC hF hU hT hB1 hbk
  go_enter Tryz.func5, Tryz.ntmps5
  go_upto_region 1 with fail
  rw [← ho, ← hW1, ← hg]
  have hcz0 : W1.cell? ⟨g, 0, none⟩ = some (.int .i64 x.f0) := (blk_cell HBK.out 0).trans rfl
  have hcz1 : W1.cell? ⟨g, 1, none⟩ = some (.int .i64 x.f1) := (blk_cell HBK.out 1).trans rfl
  have hcz2 : W1.cell? ⟨g, 2, none⟩ = some (.int .u64 x.f2) := (blk_cell HBK.out 2).trans rfl
  have hcz3 : W1.cell? ⟨g, 3, none⟩ = some (.string x.f3) := (blk_cell HBK.out 3).trans rfl
  have hcz4 : W1.cell? ⟨g, 4, none⟩ = some (.slice A x.f4.length c) := (blk_cell HBK.out 4).trans rfl
  clear ho hW1 hg
  go_wp2_with fail
  refine HFW.out.mono ?_
  rintro e w2 ⟨b, rfl, hb, hsm⟩
  have HSM := Aside0.mk hsm
  have HB2 := Aside0.mk hb
  clear hcz0 hcz1 hcz2 hcz3 hcz4 hsm hb
  cases b
  · go_wp2
    go_ret2
    exact ⟨_, _, rfl, HB1.out.trans (HB2.out.mono HB1.out.size), fun h => by cases h⟩
  · have hbk2 := blk_below HBK.out HB2.out
    have hcz0 : w2.cell? ⟨g, 0, none⟩ = some (.int .i64 x.f0) := (blk_cell hbk2 0).trans rfl
    have hcz1 : w2.cell? ⟨g, 1, none⟩ = some (.int .i64 x.f1) := (blk_cell hbk2 1).trans rfl
    have hcz2 : w2.cell? ⟨g, 2, none⟩ = some (.int .u64 x.f2) := (blk_cell hbk2 2).trans rfl
    have hcz3 : w2.cell? ⟨g, 3, none⟩ = some (.string x.f3) := (blk_cell hbk2 3).trans rfl
    have hcz4 : w2.cell? ⟨g, 4, none⟩ = some (.slice A x.f4.length c) := (blk_cell hbk2 4).trans rfl
    have hB3 : Below w.heap.size w w2 := HB1.out.trans (HB2.out.mono HB1.out.size)
    have HB3 := Aside0.mk hB3
    have HTC := Aside0.mk (told_calls w2 x A c hc (Kd.C_below HC.out hB3) (Nat.lt_of_lt_of_le h8 hB3.size) (HSM.out (by simp)) HF.out (HU.out.stays hB3) (HT.out.stays hB3))
    clear hbk2 hB3
    go_wp2_with fail
    refine HTC.out.mono ?_
    rintro e w3 ⟨s, c1, rfl, hb, hc1⟩
    have HC1 := Aside0.mk hc1
    have HB4 := Aside0.mk hb
    clear hb hc1
    go_wp2
    go_ret2
    refine ⟨_, _, rfl, HB3.out.trans (HB4.out.mono HB3.out.size), fun h => ⟨HSM.out (by simp), HC1.out (by simpa using h)⟩⟩
end

section
open Go.RowKit Go.Proofs.YtmdlmjjggjemdaaGreatDoorW.PrintWords Go.Proofs.YtmdlmjjggjemdaaGreatDoorW.PrintMore Go.Proofs.YtmdlmjjggjemdaaGreatDoorW.PrintLast Go.Proofs.YtmdlmjjggjemdaaGreatDoor.PFnRespRaw
set_option linter.unusedVariables false
set_option linter.unusedSimpArgs false

theorem wrap_small (n : Int) (h0 : 0 ≤ n) (h1 : n ≤ 1000000000) : wrap64 n = n := by unfold wrap64; omega

theorem carries_upf (d : Nat) : ∀ k a0 a1 a2 a3 a4 a5 r, laws_carries.f k a0 a1 a2 a3 a4 a5 = some r → laws_carries.f (k + d) a0 a1 a2 a3 a4 a5 = some r := by
  induction d with
  | zero => intro k a0 a1 a2 a3 a4 a5 r h; exact h
  | succ d ih => intro k a0 a1 a2 a3 a4 a5 r h; exact (laws_carries.mono_l (k + d)).1 a0 a1 a2 a3 a4 a5 r (ih k a0 a1 a2 a3 a4 a5 r h)
theorem carries_upl (d : Nat) : ∀ k a0 a1 a2 a3 a4 a5 a6 a7 a8 r, laws_carries.l0 k a0 a1 a2 a3 a4 a5 a6 a7 a8 = some r → laws_carries.l0 (k + d) a0 a1 a2 a3 a4 a5 a6 a7 a8 = some r := by
  induction d with
  | zero => intro k a0 a1 a2 a3 a4 a5 a6 a7 a8 r h; exact h
  | succ d ih => intro k a0 a1 a2 a3 a4 a5 a6 a7 a8 r h; exact (laws_carries.mono_l (k + d)).2 a0 a1 a2 a3 a4 a5 a6 a7 a8 r (ih k a0 a1 a2 a3 a4 a5 a6 a7 a8 r h)

/-- What carries answers at a reply. -/
def Carr (x : S25) : Prop := ∃ k r, laws_carries.f k x.f0 x.f1 x.f2 x.f3 x.f4 124 = some r ∧ (r = false → NoBar x)

theorem carries_l0 (x : S25) (hl : x.f4.length ≤ 1000) (ih : ∀ y ∈ x.f4, Carr y) : ∀ n i : Nat, i + n = x.f4.length → ∃ k r, laws_carries.l0 k 124 x.f4 (x.f4.length : Int) (i : Int) x.f0 x.f1 x.f2 x.f3 x.f4 = some r ∧ (r = false → x.f0 ≠ 124 ∧ ∀ j, i ≤ j → (h : j < x.f4.length) → NoBar x.f4[j])
  | 0, i, h => by
    refine ⟨1, _, by rw [laws_carries.l0, if_neg (by omega)], fun hr => ⟨by simpa using hr, fun j h1 h2 => by omega⟩⟩
  | n + 1, i, h => by
    have hi : i < x.f4.length := by omega
    obtain ⟨k1, r1, e1, h1⟩ := ih x.f4[i] (List.getElem_mem hi)
    obtain ⟨k2, r2, e2, h2⟩ := carries_l0 x hl ih n (i + 1) (by omega)
    have hrd : rd_T25 x.f4 (i : Int) = x.f4[i] := by show x.f4.getD i z25 = _; simp [List.getD, hi]
    have e3 := carries_upf k2 k1 _ _ _ _ _ _ r1 e1
    have e4 := carries_upl k1 k2 _ _ _ _ _ _ _ _ _ r2 e2
    rw [Nat.add_comm k2 k1] at e4
    have hw : wrap64 ((i : Int) + 1) = ((i + 1 : Nat) : Int) := by rw [wrap_small _ (by omega) (by omega)]; omega
    cases r1
    · refine ⟨k1 + k2 + 1, r2, ?_, fun hr => ⟨(h2 hr).1, fun j hj hjl => ?_⟩⟩
      · rw [laws_carries.l0, if_pos (by omega), if_pos (by omega), if_pos (by omega), hrd, e3, Option.bind_some, if_neg (by decide), hw]
        exact e4
      · by_cases hij : j = i
        · subst hij; exact h1 rfl
        · exact (h2 hr).2 j (by omega) hjl
    · refine ⟨k1 + k2 + 1, true, ?_, fun hr => by cases hr⟩
      rw [laws_carries.l0, if_pos (by omega), if_pos (by omega), if_pos (by omega), hrd, e3, Option.bind_some, if_pos rfl]

theorem carries_total (x : S25) : Small x → Carr x :=
  s25_ind (P := fun x => Small x → Carr x) (fun x ih hx => by
    cases hx with
    | mk _ hs hk h =>
    obtain ⟨k, r, e, hr⟩ := carries_l0 x hk (fun y hy => ih y hy (h y hy)) x.f4.length 0 (by omega)
    refine ⟨k + 1, r, by rw [laws_carries.f]; exact e, fun h => NoBar.mk x (hr h).1 fun y hy => ?_⟩
    obtain ⟨j, hj, rfl⟩ := List.mem_iff_getElem.1 hy
    exact (hr h).2 j (by omega) hj) x

theorem carries_any (w : World) (x : S25) (A : Option Addr) (c : Nat) (hc : x.f4.length ≤ c) (hC : k25.C w A x.f4.length x.f4) (hx : Small x) :
    Calls Tryz.prog 7 #[.agg #[.int .i64 x.f0, .int .i64 x.f1, .int .u64 x.f2, .string x.f3, .slice A x.f4.length c], .int .i64 124] w fun e w' => ∃ b : Bool, e = .returned (.bool b) ∧ Below w.heap.size w w' ∧ (b = false → NoBar x) := by
  obtain ⟨k, r, h, hr⟩ := carries_total x hx
  refine (laws_carries.calls k x.f0 x.f1 x.f2 x.f3 A c x.f4 124 r w hC hc h).mono ?_
  rintro e w' ⟨rfl, hb⟩
  exact ⟨r, rfl, hb, hr⟩

theorem mild_up0 (d : Nat) : ∀ k a0 a1 a2 a3 r, laws_mild.l0 k a0 a1 a2 a3 = some r → laws_mild.l0 (k + d) a0 a1 a2 a3 = some r := by
  induction d with
  | zero => intro k a0 a1 a2 a3 r h; exact h
  | succ d ih => intro k a0 a1 a2 a3 r h; exact (laws_mild.mono_l (k + d)).1 a0 a1 a2 a3 r (ih k a0 a1 a2 a3 r h)
theorem mild_up1 (d : Nat) : ∀ k a0 a1 a2 a3 a4 a5 r, laws_mild.l1 k a0 a1 a2 a3 a4 a5 = some r → laws_mild.l1 (k + d) a0 a1 a2 a3 a4 a5 = some r := by
  induction d with
  | zero => intro k a0 a1 a2 a3 a4 a5 r h; exact h
  | succ d ih => intro k a0 a1 a2 a3 a4 a5 r h; exact (laws_mild.mono_l (k + d)).2.2.1 a0 a1 a2 a3 a4 a5 r (ih k a0 a1 a2 a3 a4 a5 r h)

theorem mild_l1 (s : ByteArray) (hs : s.size ≤ 1000000) (x3 : Int) (i : Nat) (hi : i < s.size) (k0 : Nat) (r0 : Bool) (H0 : laws_mild.l0 k0 s x3 (s.size : Int) ((i + 1 : Nat) : Int) = some r0) :
    ∀ n j : Nat, j + n = s.size → ∃ k r, laws_mild.l1 k s x3 (i : Int) (j : Int) (s.size : Int) (i : Int) = some r
  | 0, j, h => by
    refine ⟨k0 + 1, ?_⟩
    rw [laws_mild.l1, if_neg (by omega), wrap_small ((i : Int) + 1) (by omega) (by omega)]
    split
    · exact ⟨_, rfl⟩
    · exact ⟨_, H0⟩
  | n + 1, j, h => by
    obtain ⟨k1, r1, h1⟩ := mild_l1 s hs x3 i hi k0 r0 H0 n (j + 1) (by omega)
    have e1 := mild_up1 k0 k1 _ _ _ _ _ _ r1 h1
    have e0 := mild_up0 k1 k0 _ _ _ _ r0 H0
    rw [Nat.add_comm k1 k0] at e1
    have ej : ((j + 1 : Nat) : Int) = (j : Int) + 1 := by omega
    have ei : ((i + 1 : Nat) : Int) = (i : Int) + 1 := by omega
    rw [ej] at e1
    rw [ei] at e0
    refine ⟨k0 + k1 + 1, ?_⟩
    rw [laws_mild.l1, wrap_small ((i : Int) + 1) (by omega) (by omega), wrap_small ((j : Int) + 1) (by omega) (by omega)]
    repeat' split
    all_goals first
      | exact ⟨_, e1⟩
      | exact ⟨_, e0⟩
      | exact ⟨_, rfl⟩
      | (exfalso; omega)

theorem mild_l0 (s : ByteArray) (hs : s.size ≤ 1000000) : ∀ n i : Nat, i + n = s.size → ∀ x3 : Int, ∃ k r, laws_mild.l0 k s x3 (s.size : Int) (i : Int) = some r
  | 0, i, h => fun x3 => ⟨1, _, by rw [laws_mild.l0, if_neg (by omega)]⟩
  | n + 1, i, h => fun x3 => by
    have hw : wrap64 ((i : Int) + 1) = ((i + 1 : Nat) : Int) := by rw [wrap_small _ (by omega) (by omega)]; omega
    have H2 : ∀ x : Int, ∃ k r, laws_mild.j2 k s x (i : Int) (s.size : Int) (i : Int) = some r := fun x => by
      obtain ⟨k0, r0, h0⟩ := mild_l0 s hs n (i + 1) (by omega) x
      obtain ⟨k, r, h1⟩ := mild_l1 s hs x i (by omega) k0 r0 h0 n (i + 1) (by omega)
      exact ⟨k + 1, r, by rw [laws_mild.j2, hw]; exact h1⟩
    have H1 : ∀ (v : Int) (b : Bool), ∃ k r, laws_mild.j1 k s x3 (i : Int) (s.size : Int) (i : Int) v b = some r := fun v b => by
      obtain ⟨k0, r0, h0⟩ := mild_l0 s hs n (i + 1) (by omega) x3
      obtain ⟨k1, r1, h1⟩ := H2 x3
      obtain ⟨k2, r2, h2⟩ := H2 (wrap64 (x3 + 1))
      cases b
      · by_cases hv : v = 36 ∨ v = 33 ∨ v = 61
        · refine ⟨k1 + 1, r1, ?_⟩
          rw [laws_mild.j1, if_neg (by decide)]
          repeat' split
          all_goals first | exact h1 | (exfalso; omega)
        · refine ⟨k0 + 1, r0, ?_⟩
          rw [laws_mild.j1, if_neg (by decide), if_neg (by omega), if_neg (by omega), if_neg (by omega), hw]
          exact h0
      · exact ⟨k2 + 1, r2, by rw [laws_mild.j1, if_pos rfl]; exact h2⟩
    have H3 : ∀ (v : Int), ∃ k r, ∀ b : Bool, b = (v == 42) ∨ b = (v == 37) ∨ b = (v == 126) ∨ b = (v == 124) ∨ b = (v == 62) → b = b → True := fun _ => ⟨0, true, fun _ _ _ => trivial⟩
    clear H3
    by_cases h1 : bt s i = 42
    · obtain ⟨k, r, e⟩ := H1 (bt s i) (bt s i == 42)
      exact ⟨k + 1, r, by rw [laws_mild.l0, if_pos (by omega), if_pos (by omega), if_pos (by omega), if_pos h1]; exact e⟩
    · by_cases h2 : bt s i = 37
      · obtain ⟨k, r, e⟩ := H1 (bt s i) (bt s i == 37)
        exact ⟨k + 1, r, by rw [laws_mild.l0, if_pos (by omega), if_pos (by omega), if_pos (by omega), if_neg h1, if_pos h2]; exact e⟩
      · by_cases h3 : bt s i = 126
        · obtain ⟨k, r, e⟩ := H1 (bt s i) (bt s i == 126)
          exact ⟨k + 1, r, by rw [laws_mild.l0, if_pos (by omega), if_pos (by omega), if_pos (by omega), if_neg h1, if_neg h2, if_pos h3]; exact e⟩
        · by_cases h4 : bt s i = 124
          · obtain ⟨k, r, e⟩ := H1 (bt s i) (bt s i == 124)
            exact ⟨k + 1, r, by rw [laws_mild.l0, if_pos (by omega), if_pos (by omega), if_pos (by omega), if_neg h1, if_neg h2, if_neg h3, if_pos h4]; exact e⟩
          · obtain ⟨k, r, e⟩ := H1 (bt s i) (bt s i == 62)
            exact ⟨k + 1, r, by rw [laws_mild.l0, if_pos (by omega), if_pos (by omega), if_pos (by omega), if_neg h1, if_neg h2, if_neg h3, if_neg h4]; exact e⟩

theorem mild_any (s : ByteArray) (hs : s.size ≤ 1000000) (w : World) :
    Calls Tryz.prog 6 #[.string s] w fun e w' => ∃ b : Bool, e = .returned (.bool b) ∧ Below w.heap.size w w' := by
  obtain ⟨k, r, h⟩ := mild_l0 s hs s.size 0 (by omega) 0
  refine (laws_mild.calls k s r w h).mono ?_
  rintro e w' ⟨rfl, hd⟩
  obtain ⟨n, rfl⟩ := hd.out
  exact ⟨r, rfl, pw_below_drewN (Below.refl _ _) n⟩

theorem fits_any (w : World) (x : S25) (A : Option Addr) (c : Nat) (hc : x.f4.length ≤ c) (hC : k25.C w A x.f4.length x.f4) :
    Calls Tryz.prog 4 #[.agg #[.int .i64 x.f0, .int .i64 x.f1, .int .u64 x.f2, .string x.f3, .slice A x.f4.length c]] w fun e w' => ∃ b : Bool, e = .returned (.bool b) ∧ Below w.heap.size w w' := by
  obtain ⟨r, h⟩ : ∃ r, laws_zzFits5.f x.f0 x.f1 x.f2 x.f3 x.f4 = some r := by
    unfold laws_zzFits5.f
    split
    · exact ⟨_, rfl⟩
    · split <;> exact ⟨_, rfl⟩
  refine (laws_zzFits5.calls x.f0 x.f1 x.f2 x.f3 A c x.f4 r w hC hc h).mono ?_
  rintro e w' ⟨rfl, hb⟩
  exact ⟨r, rfl, hb⟩
end

section
open Go.RowKit Go.Proofs.YtmdlmjjggjemdaaGreatDoorW.PrintWords Go.Proofs.YtmdlmjjggjemdaaGreatDoorW.PrintMore Go.Proofs.YtmdlmjjggjemdaaGreatDoorW.PrintLast Go.Proofs.YtmdlmjjggjemdaaGreatDoor.PFnRespRaw
set_option linter.unusedVariables false
set_option linter.unusedSimpArgs false

theorem cells25 : Tryz.prog.cellsOf 25 = 5 := by kernel_rfl
theorem cells1of3 : Tryz.prog.cellsOf 3 = 1 := by kernel_rfl
theorem cells1of2 : Tryz.prog.cellsOf 2 = 1 := by kernel_rfl
theorem cells1of22 : Tryz.prog.cellsOf 22 = 1 := by kernel_rfl
theorem cells1of9 : Tryz.prog.cellsOf 9 = 1 := by kernel_rfl
theorem cells1of23 : Tryz.prog.cellsOf 23 = 1 := by kernel_rfl

theorem cells_some {w : World} {base n : Nat} {a : Addr} {cs : List Value} (h : w.cells? base a n = some cs) : cs.length = n ∧ ∀ i u, cs[i]? = some u → w.cell? (a.add i) = some u := by
  unfold World.cells? at h
  split at h
  · have hl := Lib.mapM_length h
    rw [List.length_range] at hl
    refine ⟨hl, fun i u hu => ?_⟩
    have hi : i < n := by rw [← hl]; exact (List.getElem?_eq_some_iff.1 hu).1
    obtain ⟨b, hb, hf⟩ := Lib.mapM_at h i i (by simp [hi])
    rw [hu] at hb
    cases hb
    exact hf
  · cases h

theorem list5 {α : Type} : ∀ {cs : List α}, cs.length = 5 → ∃ a b c d e, cs = [a, b, c, d, e]
  | [a, b, c, d, e], _ => ⟨a, b, c, d, e, rfl⟩

theorem list_of {α : Type} {P : Nat → α → Prop} : ∀ n : Nat, (∀ j, j < n → ∃ y, P j y) → ∃ xs : List α, xs.length = n ∧ ∀ j y, xs[j]? = some y → P j y
  | 0, _ => ⟨[], rfl, fun j y h => by simp at h⟩
  | n + 1, h => by
    obtain ⟨xs, hl, hx⟩ := list_of n (fun j hj => h j (by omega))
    obtain ⟨y, hy⟩ := h n (by omega)
    refine ⟨xs ++ [y], by simp [hl], fun j z hz => ?_⟩
    rcases Nat.lt_or_ge j n with hj | hj
    · rw [List.getElem?_append_left (by omega)] at hz
      exact hx j z hz
    · have : j = n := by
        have := (List.getElem?_eq_some_iff.1 hz).1
        rw [List.length_append, List.length_singleton] at this
        omega
      subst this
      rw [List.getElem?_append_right (by omega), hl, Nat.sub_self] at hz
      have e : y = z := by simpa using hz
      rw [← e]; exact hy

/-- What a reply's cells say. -/
def Tree (W : World) (y : S25) (cs : List Value) : Prop := ∃ (A : Option Addr) (c : Nat), cs = [.int .i64 y.f0, .int .i64 y.f1, .int .u64 y.f2, .string y.f3, .slice A y.f4.length c] ∧ y.f4.length ≤ c ∧ k25.C W A y.f4.length y.f4 ∧ Fit y

theorem wf_i64 {n : Int} (h : (Lit.int .i64 n).wf = true) : -9223372036854775808 ≤ n ∧ n ≤ 9223372036854775807 := by
  simpa [Lit.wf, IntKind.min, IntKind.max, IntKind.signed, IntKind.bits] using h
theorem wf_u64 {n : Int} (h : (Lit.int .u64 n).wf = true) : 0 ≤ n ∧ n < 18446744073709551616 := by
  have : 0 ≤ n ∧ n ≤ 18446744073709551615 := by simpa [Lit.wf, IntKind.min, IntKind.max, IntKind.signed, IntKind.bits] using h
  omega

theorem tree_of_trod {H : Type} {enc : TypeId × Value → H} {W : World} {sp : Nat → Bool} {held : Bool} (fuel : Nat) :
    ∀ (cs : List Value) (x : DataW H × List MemPlace), DataW.trod enc Tryz.prog W 0 sp held fuel 25 cs = some x → ∃ y, Tree W y cs := by
  induction fuel using Nat.strongRecOn with
  | _ fuel ih =>
  intro cs x h
  obtain ⟨xs, n, rfl, _, hl, hlen, hf⟩ := DataW.trod_struct Tryz.underlying25 h
  rw [cells25] at hl
  have hs5 : xs.length = 5 := hlen
  obtain ⟨c0, c1, c2, c3, c4, rfl⟩ := list5 hl
  have g0 : DataW.trod enc Tryz.prog W 0 sp held n 3 (([c0, c1, c2, c3, c4].drop 0).take (Tryz.prog.cellsOf 3)) = xs[0]? := hf 0 _ rfl
  rw [cells1of3] at g0
  have g1 : DataW.trod enc Tryz.prog W 0 sp held n 2 (([c0, c1, c2, c3, c4].drop 1).take (Tryz.prog.cellsOf 2)) = xs[1]? := hf 1 _ rfl
  rw [cells1of2] at g1
  have g2 : DataW.trod enc Tryz.prog W 0 sp held n 22 (([c0, c1, c2, c3, c4].drop 2).take (Tryz.prog.cellsOf 22)) = xs[2]? := hf 2 _ rfl
  rw [cells1of22] at g2
  have g3 : DataW.trod enc Tryz.prog W 0 sp held n 9 (([c0, c1, c2, c3, c4].drop 3).take (Tryz.prog.cellsOf 9)) = xs[3]? := hf 3 _ rfl
  rw [cells1of9] at g3
  have g4 : DataW.trod enc Tryz.prog W 0 sp held n 23 (([c0, c1, c2, c3, c4].drop 4).take (Tryz.prog.cellsOf 23)) = xs[4]? := hf 4 _ rfl
  rw [cells1of23] at g4
  rw [List.getElem?_eq_getElem (by omega)] at g0 g1 g2 g3 g4
  obtain ⟨z0, e0, _, w0⟩ := DataW.trod_int Tryz.underlying3 g0
  obtain ⟨z1, e1, _, w1⟩ := DataW.trod_int Tryz.underlying2 g1
  obtain ⟨z2, e2, _, w2⟩ := DataW.trod_int Tryz.underlying22 g2
  obtain ⟨s3, e3, _, w3⟩ := DataW.trod_string Tryz.underlying9 g3
  simp at e0 e1 e2 e3
  subst e0 e1 e2 e3
  have v1 := wf_i64 w1
  have v2 := wf_u64 w2
  rcases DataW.trod_slice Tryz.underlying23 g4 with ⟨e4, _⟩ | ⟨a, len, cap, elems, rest, m, rfl, e4, _, _, hlc, hcm, hel, hat, _⟩
  · simp at e4
    subst e4
    exact ⟨⟨z0, z1, z2, s3, []⟩, none, 0, rfl, Nat.le_refl _, ⟨rfl, by show (0 : Nat) ≤ _; omega, fun h => absurd h (by show ¬ (0 < 0); omega)⟩, Fit.mk _ v1.1 v1.2 v2.1 v2.2 (fun y hy => by cases hy)⟩
  · simp at e4
    subst e4
    unfold maxLen at hcm
    have hP : ∀ j, j < len → ∃ y : S25, (∃ c, c.length = 5 ∧ k25.K W y c ∧ ∀ i u, c[i]? = some u → W.cell? (a.add (j * 5 + i)) = some u) ∧ Fit y := fun j hj => by
      have hj2 := hat j hj
      rw [List.getElem?_eq_getElem (by omega), cells25] at hj2
      obtain ⟨cs', hc', ht'⟩ := Option.bind_eq_some_iff.1 hj2
      obtain ⟨y, A', c', rfl, hle, hC, hF⟩ := ih m (by omega) cs' _ ht'
      obtain ⟨hcl, hcc⟩ := cells_some hc'
      refine ⟨y, ⟨_, hcl, k25_mk W y hle hC, fun i u hu => ?_⟩, hF⟩
      have := hcc i u hu
      rwa [Addr.add_add] at this
    obtain ⟨kids, hk, hkp⟩ := list_of len hP
    refine ⟨⟨z0, z1, z2, s3, kids⟩, some a, cap, by simp [hk], by show kids.length ≤ cap; omega, ⟨rfl, by show kids.length ≤ _; omega, fun _ => ⟨a, rfl, fun j y hj => ?_⟩⟩, Fit.mk _ v1.1 v1.2 v2.1 v2.2 (fun y hy => ?_)⟩
    · exact (hkp j y hj).1
    · obtain ⟨j, hj⟩ := List.getElem?_of_mem hy
      exact (hkp j y hj).2

/-- An array of pairs of numbers that reads as data holds numbers, cell for cell. -/
theorem cells_of_pairs {H : Type} {enc : TypeId × Value → H} {w : World} {base : Nat} {sp : Nat → Bool} {held : Bool} {fuel : Nat} {t e : TypeId} {n : Nat} {fs : Array Field} {cs : List Value} {x : DataW H × List MemPlace}
    (ht : Tryz.prog.underlying t = some (.array n e)) (he : Tryz.prog.underlying e = some (.struct fs)) (f0 f1 : Field) (hf0 : fs[0]? = some f0) (hf1 : fs[1]? = some f1) (hsz : fs.size = 2)
    (h0 : Tryz.prog.underlying f0.type = some (.int .u64)) (h1 : Tryz.prog.underlying f1.type = some (.int .u64)) (ho0 : f0.offset = 0) (ho1 : f1.offset = 1) (hc0 : Tryz.prog.cellsOf f0.type = 1) (hc1 : Tryz.prog.cellsOf f1.type = 1)
    (hce : Tryz.prog.cellsOf e = 2) (hct : Tryz.prog.cellsOf t = 2 * n) (h : DataW.trod enc Tryz.prog w base sp held fuel t cs = some x) :
    ∀ i, i < 2 * n → ∃ z : Nat, z < 18446744073709551616 ∧ cs[i]? = some (.int .u64 z) := by
  intro i hi
  cases fuel with
  | zero => simp [DataW.trod] at h
  | succ fuel =>
    simp only [DataW.trod, ht, hce, hct] at h
    split at h
    · rename_i hl
      obtain ⟨xs, hm, hx⟩ := Option.map_eq_some_iff.1 h
      obtain ⟨b, hb, hf⟩ := Lib.mapM_at hm (i / 2) (i / 2) (List.getElem?_range (by omega))
      obtain ⟨ys, m, rfl, _, hl2, hlen, hff⟩ := DataW.trod_struct he hf
      have g0 := hff 0 f0 hf0
      have g1 := hff 1 f1 hf1
      rw [hsz] at hlen
      rw [ho0, hc0, List.getElem?_eq_getElem (by omega)] at g0
      rw [ho1, hc1, List.getElem?_eq_getElem (by omega)] at g1
      obtain ⟨z0, e0, _, w0⟩ := DataW.trod_int h0 g0
      obtain ⟨z1, e1, _, w1⟩ := DataW.trod_int h1 g1
      have v0 := wf_u64 w0
      have v1 := wf_u64 w1
      have k0 : cs[i / 2 * 2]? = some (.int .u64 z0) := by
        have := congrArg (·[0]?) e0
        simpa [List.getElem?_take, List.getElem?_drop] using this
      have k1 : cs[i / 2 * 2 + 1]? = some (.int .u64 z1) := by
        have := congrArg (·[0]?) e1
        simpa [List.getElem?_take, List.getElem?_drop] using this
      rcases Nat.mod_two_eq_zero_or_one i with hi2 | hi2
      · refine ⟨z0.toNat, by omega, ?_⟩
        rw [show i = i / 2 * 2 by omega, k0, Int.toNat_of_nonneg v0.1]
      · refine ⟨z1.toNat, by omega, ?_⟩
        rw [show i = i / 2 * 2 + 1 by omega, k1, Int.toNat_of_nonneg v1.1]
    · cases h
end
end Go.Proofs.YtmdlmjjggjemdaaGreatDoor
