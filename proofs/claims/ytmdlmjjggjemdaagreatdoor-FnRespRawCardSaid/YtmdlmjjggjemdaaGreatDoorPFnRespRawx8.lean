-- PRINTED BY print.sh 35421559b90ae4d0a3588c463048766b98c2df88dd9212a6774a882060cdf62d: not written by this session
import Derived.Test.YtmdlmjjggjemdaaGreatDoorPFnRespRawx0
namespace Go.Proofs.YtmdlmjjggjemdaaGreatDoor.PFnRespRaw
open Go.RowKit Go.Proofs.YtmdlmjjggjemdaaGreatDoorW.PrintWords Go.Proofs.YtmdlmjjggjemdaaGreatDoorW.PrintLast Go.Proofs.YtmdlmjjggjemdaaGreatDoorW.PrintMore
attribute [local go_sem] max2_int min2_int max_two min_two max_three min_three max_four min_four   -- for this text's walks alone
set_option linter.unusedVariables false
set_option linter.unusedSimpArgs false

/-! ### laws_carries: function 7 -/
mutual
def laws_carries.l0 : Nat → Int → List (S25) → Int → Int → Int → Int → Int → ByteArray → List (S25) → Option (Bool)
  | 0, _, _, _, _, _, _, _, _, _ => none
  | k + 1, x1, x8, x9, x10, x285000, x285001, x285002, x285003, x285004 => if x10 < x9 then (if 0 ≤ x10 then (if x10 < (x8.length : Int) then ((laws_carries.f k ((rd_T25 x8 x10).f0) ((rd_T25 x8 x10).f1) ((rd_T25 x8 x10).f2) ((rd_T25 x8 x10).f3) ((rd_T25 x8 x10).f4) x1).bind fun t287 => (if t287 = true then (some true) else (laws_carries.l0 k x1 x8 x9 (wrap64 (x10 + 1)) x285000 x285001 x285002 x285003 x285004))) else (none)) else (none)) else (some (x285000 == x1))
def laws_carries.f : Nat → Int → Int → Int → ByteArray → List (S25) → Int → Option (Bool)
  | 0, _, _, _, _, _, _ => none
  | k + 1, a0_0, a0_1, a0_2, a0_3, l0_4, a1 => laws_carries.l0 k a1 l0_4 (l0_4.length : Int) 0 a0_0 a0_1 a0_2 a0_3 l0_4
end
theorem laws_carries.mono_l : ∀ k, (∀ y0 y1 y2 y3 y4 y5, LeO (laws_carries.f k y0 y1 y2 y3 y4 y5) (laws_carries.f (k + 1) y0 y1 y2 y3 y4 y5)) ∧ (∀ y0 y1 y2 y3 y4 y5 y6 y7 y8, LeO (laws_carries.l0 k y0 y1 y2 y3 y4 y5 y6 y7 y8) (laws_carries.l0 (k + 1) y0 y1 y2 y3 y4 y5 y6 y7 y8))
  | 0 => ⟨fun _ _ _ _ _ _ r h => by simp [laws_carries.f] at h, fun _ _ _ _ _ _ _ _ _ r h => by simp [laws_carries.l0] at h⟩
  | k + 1 => by
    obtain ⟨ih0, ih1⟩ := laws_carries.mono_l k
    refine ⟨?_, ?_⟩
    · intro y0 y1 y2 y3 y4 y5
      unfold laws_carries.f
      repeat' first
      | (with_reducible exact ih0 _ _ _ _ _ _)
      | (with_reducible exact ih1 _ _ _ _ _ _ _ _ _)
      | (with_reducible exact LeO.refl _)
      | (with_reducible exact LeO.none _)
      | (with_reducible refine LeO.ite ?_ ?_)
      | (with_reducible refine LeO.bind ?_ (fun _ => ?_))
      | exact ih0 _ _ _ _ _ _
      | exact ih1 _ _ _ _ _ _ _ _ _
      | exact LeO.none _
      | refine LeO.ite ?_ ?_
      | refine LeO.bind ?_ (fun _ => ?_)
    · intro y0 y1 y2 y3 y4 y5 y6 y7 y8
      unfold laws_carries.l0
      repeat' first
      | (with_reducible exact ih0 _ _ _ _ _ _)
      | (with_reducible exact ih1 _ _ _ _ _ _ _ _ _)
      | (with_reducible exact LeO.refl _)
      | (with_reducible exact LeO.none _)
      | (with_reducible refine LeO.ite ?_ ?_)
      | (with_reducible refine LeO.bind ?_ (fun _ => ?_))
      | exact ih0 _ _ _ _ _ _
      | exact ih1 _ _ _ _ _ _ _ _ _
      | exact LeO.none _
      | refine LeO.ite ?_ ?_
      | refine LeO.bind ?_ (fun _ => ?_)
theorem laws_carries.mono : ∀ a0 a1 a2 a3 a4 a5 k, LeO (laws_carries.f k a0 a1 a2 a3 a4 a5) (laws_carries.f (k + 1) a0 a1 a2 a3 a4 a5) := by
  intro a0 a1 a2 a3 a4 a5 k
  obtain ⟨ih0, ih1⟩ := laws_carries.mono_l k
  exact ih0 a0 a1 a2 a3 a4 a5
set_option maxHeartbeats 8000000 in
set_option maxRecDepth 100000 in
theorem laws_carries.calls (k : Nat) : ∀ (a0_0 : Int) (a0_1 : Int) (a0_2 : Int) (a0_3 : ByteArray) (A0_4 : Option Addr) (c0_4 : Nat) (l0_4 : List (S25)) (a1 : Int) (r : Bool) (w : World) (hr0_4 : Kd.C k25 w A0_4 l0_4.length l0_4) (hc0_4 : l0_4.length ≤ c0_4) (h : laws_carries.f k a0_0 a0_1 a0_2 a0_3 l0_4 a1 = some r),
    Calls Tryz.prog 7 #[.agg #[.int .i64 a0_0, .int .i64 a0_1, .int .u64 a0_2, .string a0_3, .slice A0_4 l0_4.length c0_4], .int .i64 a1] w fun e w' => e = .returned (.bool r) ∧ Below w.heap.size w w' := by
  induction k using Nat.strongRecOn with
  | _ k ih =>
  intro a0_0 a0_1 a0_2 a0_3 A0_4 c0_4 l0_4 a1 r w hr0_4 hc0_4 h
  cases k with
  | zero => exact absurd h (by simp [laws_carries.f])
  | succ k =>
  simp only [laws_carries.f] at h
  have hu25 := Tryz.underlying25
  have HR0_4 := Aside0.mk hr0_4
  have HC0_4 := Aside0.mk hc0_4
  clear hr0_4 hc0_4
  have HB := Aside0.mk (Below.refl w.heap.size w)
  have H : (laws_carries.l0 k a1 l0_4 (l0_4.length : Int) 0 a0_0 a0_1 a0_2 a0_3 l0_4) = some r := h
  clear h
  have H' := Aside0.mk H
  clear H
  go_enter Tryz.func7, Tryz.ntmps7
  go_wp2_with (first | ((with_reducible refine gate_dst (N := 2) rfl ?_); refine box_event ?hg (N := 2) ?hd (cs := #[.int .i64 a0_0, .int .i64 a0_1, .int .u64 a0_2, .string a0_3, .slice A0_4 l0_4.length c0_4]) (t := 25) ?hr ?_; (case hd => rfl); (case hg => rfl); (case hr => first | (go_simp; done) | (go_simp; rfl)); intro gb284 hg w3 hbox hb; have n0_ := Aside0.mk (below_step (by repeat (first | (with_reducible first | exact HB.out | apply below_alloc | apply pw_below_drewN | apply below_drew1) | exact HB.out)) hb); have n1_ := Aside0.mk (hbox); have n2_ := Aside0.mk ((by rw [hg]; exact (below_size (by repeat (first | (with_reducible first | exact HB.out | apply below_alloc | apply pw_below_drewN | apply below_drew1) | exact HB.out))) : w.heap.size ≤ gb284)); have n3_ := Aside0.mk ((by rw [hg]; exact (below_size (by repeat (first | (with_reducible first | exact HB.out | apply below_alloc | apply pw_below_drewN | apply below_drew1) | exact HB.out))) : w.heap.size ≤ gb284)); clear HB; have HB := n0_; have BK284 := n1_; have GW284 := n2_; have GE284 := n3_; clear n0_ n1_ n2_ n3_; clear hb hbox hg; have hcz4_0 : w3.cell? ⟨gb284, 0, none⟩ = some (.int .i64 a0_0) := (blk_cell BK284.out 0).trans rfl; have hcz4_1 : w3.cell? ⟨gb284, 1, none⟩ = some (.int .i64 a0_1) := (blk_cell BK284.out 1).trans rfl; have hcz4_2 : w3.cell? ⟨gb284, 2, none⟩ = some (.int .u64 a0_2) := (blk_cell BK284.out 2).trans rfl; have hcz4_3 : w3.cell? ⟨gb284, 3, none⟩ = some (.string a0_3) := (blk_cell BK284.out 3).trans rfl; have hcz4_4 : w3.cell? ⟨gb284, 4, none⟩ = some (.slice A0_4 l0_4.length c0_4) := (blk_cell BK284.out 4).trans rfl; have hfz4_0 := blk_frozen BK284.out 0; have hfz4_1 := blk_frozen BK284.out 1; have hfz4_2 := blk_frozen BK284.out 2; have hfz4_3 := blk_frozen BK284.out 3; have hfz4_4 := blk_frozen BK284.out 4))
  go_loopg [10] k (fun kq v10 w' => ∃ (x10_1 : Int), v10 = .int .i64 x10_1 ∧ Aside0 (laws_carries.l0 kq a1 l0_4 (l0_4.length : Int) x10_1 a0_0 a0_1 a0_2 a0_3 l0_4 = some r) ∧ Aside0 (kq ≤ k) ∧ Aside0 (w'.heap[gb284]? = some (.cells #[.int .i64 a0_0, .int .i64 a0_1, .int .u64 a0_2, .string a0_3, (.slice A0_4 l0_4.length c0_4)] 25 (0, 0))) ∧ Aside0 (Below w.heap.size w w'))
  case atStart => exact ⟨(0), (by first | rfl | (simp; done) | (simp [*]; done)), H', ⟨Nat.le_refl _⟩, ⟨by (with_reducible repeat (first | refine blk_drewN ?_ _ | refine blk_drew ?_ | refine blk_alloc ?_ _)); exact BK284.out⟩, ⟨by repeat (first | (with_reducible first | exact HB.out | apply below_alloc | apply pw_below_drewN | apply below_drew1 | refine below_set ?_ GE284.out) | exact HB.out)⟩⟩
  case round =>
    clear H'
    try clear p2
    try clear hcz4_0
    try clear hcz4_1
    try clear hcz4_2
    try clear hcz4_3
    try clear hcz4_4
    try clear hfz4_0
    try clear hfz4_1
    try clear hfz4_2
    try clear hfz4_3
    try clear hfz4_4
    obtain ⟨x10_1, rfl, HA, HK1, BK284, HB⟩ := hrel
    cases gk with
    | zero => exact absurd HA.out (by simp [laws_carries.l0])
    | succ k1 =>
      have H := HA.out
      clear HA
      simp only [laws_carries.l0] at H
      by_cases c5 : x10_1 < (l0_4.length : Int)
      · rw [if_pos c5] at H
        have c5b0 : decide (x10_1 < (l0_4.length : Int)) = true := decide_eq_true c5
        clear c5
        by_cases c6 : 0 ≤ x10_1
        · rw [if_pos c6] at H
          have c6b0 : decide (0 ≤ x10_1) = true := decide_eq_true c6
          clear c6
          by_cases c7 : x10_1 < (l0_4.length : Int)
          · rw [if_pos c7] at H
            have c7b0 : decide (x10_1 < (l0_4.length : Int)) = true := decide_eq_true c7
            clear c7
            replace H := Option.bind_eq_some_iff.mp H
            obtain ⟨t287, A80, H⟩ := H
            replace H : (if t287 = true then (some true) else (laws_carries.l0 k1 a1 l0_4 (l0_4.length : Int) (wrap64 (x10_1 + 1)) a0_0 a0_1 a0_2 a0_3 l0_4)) = some r := H
            have A8 := Aside0.mk A80
            clear A80
            by_cases c9 : t287 = true
            · subst c9
              have H1 : (some true) = some r := by rw [if_pos rfl] at H; exact H
              clear H
              have H := H1
              clear H1
              obtain rfl := Option.some.inj H
              have p285 : 0 ≤ (x10_1 : Int) := of_decide_eq_true (by first | (with_reducible assumption) | assumption)
              have q285 : x10_1 < (l0_4.length : Int) := of_decide_eq_true (by first | (with_reducible assumption) | assumption)
              obtain ⟨ad285, A285_4, c285_4, e285, hx285_0, hx285_1, hx285_2, hx285_3, hx285_4, hl285_4, hi285_4⟩ := at_T25 HR0_4.out x10_1 p285 q285
              cases e285
              replace hx285_0 := (HB.out.cell (World.block_lt_of_cell? w _ hx285_0)).trans hx285_0
              replace hx285_1 := (HB.out.cell (World.block_lt_of_cell? w _ hx285_1)).trans hx285_1
              replace hx285_2 := (HB.out.cell (World.block_lt_of_cell? w _ hx285_2)).trans hx285_2
              replace hx285_3 := (HB.out.cell (World.block_lt_of_cell? w _ hx285_3)).trans hx285_3
              replace hx285_4 := (HB.out.cell (World.block_lt_of_cell? w _ hx285_4)).trans hx285_4
              have HR285_4 := Aside0.mk hi285_4
              have HC285_4 := Aside0.mk hl285_4
              clear hi285_4 hl285_4
              replace p285 := eq_true p285
              replace q285 := eq_true q285
              go_wp2_with (first | ((with_reducible refine gate_dst (N := 6) rfl ?_); refine box_event ?hg (N := 6) ?hd (cs := #[.int .i64 0, .int .i64 0, .int .u64 0, .string (⟨#[]⟩ : ByteArray), .slice none 0 0]) (t := 25) ?hr ?_; (case hd => rfl); (case hg => rfl); (case hr => first | (go_simp; done) | (go_simp; rfl)); intro gb286 hg w10 hbox hb; have n0_ := Aside0.mk (blk_below (g := gb284) (o := .cells #[.int .i64 a0_0, .int .i64 a0_1, .int .u64 a0_2, .string a0_3, .slice (some ad285) l0_4.length c0_4] 25 (0, 0)) (by (with_reducible repeat (first | refine blk_drewN ?_ _ | refine blk_drew ?_ | refine blk_alloc ?_ _)); exact BK284.out) hb); have n1_ := Aside0.mk (below_step (by repeat (first | (with_reducible first | exact HB.out | apply below_alloc | apply pw_below_drewN | apply below_drew1 | refine below_set ?_ GE284.out) | exact HB.out)) hb); have n2_ := Aside0.mk (hbox); have n3_ := Aside0.mk ((by rw [hg]; exact (below_size (by repeat (first | (with_reducible first | exact HB.out | apply below_alloc | apply pw_below_drewN | apply below_drew1 | refine below_set ?_ GE284.out) | exact HB.out))) : w.heap.size ≤ gb286)); have n4_ := Aside0.mk ((by rw [hg]; exact (below_size (by repeat (first | (with_reducible first | exact HB.out | apply below_alloc | apply pw_below_drewN | apply below_drew1 | refine below_set ?_ GE284.out) | exact HB.out))) : w.heap.size ≤ gb286)); have n5_ := Aside0.mk ((by rw [hg]; exact Nat.ne_of_lt (blk_lt (g := gb284) (o := .cells #[.int .i64 a0_0, .int .i64 a0_1, .int .u64 a0_2, .string a0_3, .slice (some ad285) l0_4.length c0_4] 25 (0, 0)) (by (with_reducible repeat (first | refine blk_drewN ?_ _ | refine blk_drew ?_ | refine blk_alloc ?_ _)); exact BK284.out)) : gb284 ≠ gb286)); have n6_ := Aside0.mk ((by rw [hg]; exact Nat.ne_of_gt (blk_lt (g := gb284) (o := .cells #[.int .i64 a0_0, .int .i64 a0_1, .int .u64 a0_2, .string a0_3, .slice (some ad285) l0_4.length c0_4] 25 (0, 0)) (by (with_reducible repeat (first | refine blk_drewN ?_ _ | refine blk_drew ?_ | refine blk_alloc ?_ _)); exact BK284.out)) : gb286 ≠ gb284)); clear BK284; clear HB; have BK284 := n0_; have HB := n1_; have BK286 := n2_; have GW286 := n3_; have GE286 := n4_; have NB284_286 := n5_; have NB286_284 := n6_; clear n0_ n1_ n2_ n3_ n4_ n5_ n6_; clear hb hbox hg; have hnb11 := NB286_284.out; have hnc11 := NB284_286.out; have hcz12_0 : w10.cell? ⟨gb286, 0, none⟩ = some (.int .i64 0) := (blk_cell BK286.out 0).trans rfl; have hcz12_1 : w10.cell? ⟨gb286, 1, none⟩ = some (.int .i64 0) := (blk_cell BK286.out 1).trans rfl; have hcz12_2 : w10.cell? ⟨gb286, 2, none⟩ = some (.int .u64 0) := (blk_cell BK286.out 2).trans rfl; have hcz12_3 : w10.cell? ⟨gb286, 3, none⟩ = some (.string (⟨#[]⟩ : ByteArray)) := (blk_cell BK286.out 3).trans rfl; have hcz12_4 : w10.cell? ⟨gb286, 4, none⟩ = some (.slice none 0 0) := (blk_cell BK286.out 4).trans rfl; have hfz12_0 := blk_frozen BK286.out 0; have hfz12_1 := blk_frozen BK286.out 1; have hfz12_2 := blk_frozen BK286.out 2; have hfz12_3 := blk_frozen BK286.out 3; have hfz12_4 := blk_frozen BK286.out 4) | ((with_reducible refine gate_callee (f := 7) rfl ?_); refine goesL_ (some 16) rfl rfl Tryz.func7 (by kernel_rfl) rfl #[.agg #[.int .i64 ((rd_T25 l0_4 x10_1).f0), .int .i64 ((rd_T25 l0_4 x10_1).f1), .int .u64 ((rd_T25 l0_4 x10_1).f2), .string ((rd_T25 l0_4 x10_1).f3), .slice A285_4 ((rd_T25 l0_4 x10_1).f4).length c285_4], .int .i64 a1] rfl (by (try simp only [List.map_toArray, List.map_cons, List.map_nil]); first | done | rfl | (simp only [List.length_drop, List.length_take]; rfl)) ?_; (with_reducible refine (ih k1 (by have := HK1.out; omega) ((rd_T25 l0_4 x10_1).f0) ((rd_T25 l0_4 x10_1).f1) ((rd_T25 l0_4 x10_1).f2) ((rd_T25 l0_4 x10_1).f3) _ _ ((rd_T25 l0_4 x10_1).f4) a1 true _ ?side1 ?side2 A8.out).mono ?_); (case side1 => exact Kd.C_below HR285_4.out (by repeat (first | (with_reducible first | exact HB.out | apply below_alloc | apply pw_below_drewN | apply below_drew1 | refine below_set ?_ GE284.out | refine below_set ?_ GE286.out) | exact HB.out))); (case side2 => exact HC285_4.out); rintro e w13 ⟨rfl, hb⟩; refine ⟨_, rfl, ?_⟩; have n0_ := Aside0.mk (blk_below (g := gb284) (o := .cells #[.int .i64 a0_0, .int .i64 a0_1, .int .u64 a0_2, .string a0_3, .slice (some ad285) l0_4.length c0_4] 25 (0, 0)) (by (with_reducible repeat (first | refine blk_drewN ?_ _ | refine blk_drew ?_ | refine blk_alloc ?_ _)); refine blk_far ?_ NB284_286.out _; (with_reducible repeat (first | refine blk_drewN ?_ _ | refine blk_drew ?_ | refine blk_alloc ?_ _)); refine blk_far ?_ NB284_286.out _; (with_reducible repeat (first | refine blk_drewN ?_ _ | refine blk_drew ?_ | refine blk_alloc ?_ _)); refine blk_far ?_ NB284_286.out _; (with_reducible repeat (first | refine blk_drewN ?_ _ | refine blk_drew ?_ | refine blk_alloc ?_ _)); refine blk_far ?_ NB284_286.out _; (with_reducible repeat (first | refine blk_drewN ?_ _ | refine blk_drew ?_ | refine blk_alloc ?_ _)); refine blk_far ?_ NB284_286.out _; (with_reducible repeat (first | refine blk_drewN ?_ _ | refine blk_drew ?_ | refine blk_alloc ?_ _)); exact BK284.out) hb); have n1_ := Aside0.mk (blk_below (g := gb286) (o := .cells #[.int .i64 ((rd_T25 l0_4 x10_1).f0), .int .i64 ((rd_T25 l0_4 x10_1).f1), .int .u64 ((rd_T25 l0_4 x10_1).f2), .string ((rd_T25 l0_4 x10_1).f3), .slice A285_4 ((rd_T25 l0_4 x10_1).f4).length c285_4] 25 (0, 0)) (by (with_reducible repeat (first | refine blk_drewN ?_ _ | refine blk_drew ?_ | refine blk_alloc ?_ _)); refine blk_put (cs := #[.int .i64 ((rd_T25 l0_4 x10_1).f0), .int .i64 ((rd_T25 l0_4 x10_1).f1), .int .u64 ((rd_T25 l0_4 x10_1).f2), .string ((rd_T25 l0_4 x10_1).f3), .slice none 0 0]) ?_ 4 _ rfl; (with_reducible repeat (first | refine blk_drewN ?_ _ | refine blk_drew ?_ | refine blk_alloc ?_ _)); refine blk_put (cs := #[.int .i64 ((rd_T25 l0_4 x10_1).f0), .int .i64 ((rd_T25 l0_4 x10_1).f1), .int .u64 ((rd_T25 l0_4 x10_1).f2), .string (⟨#[]⟩ : ByteArray), .slice none 0 0]) ?_ 3 _ rfl; (with_reducible repeat (first | refine blk_drewN ?_ _ | refine blk_drew ?_ | refine blk_alloc ?_ _)); refine blk_put (cs := #[.int .i64 ((rd_T25 l0_4 x10_1).f0), .int .i64 ((rd_T25 l0_4 x10_1).f1), .int .u64 0, .string (⟨#[]⟩ : ByteArray), .slice none 0 0]) ?_ 2 _ rfl; (with_reducible repeat (first | refine blk_drewN ?_ _ | refine blk_drew ?_ | refine blk_alloc ?_ _)); refine blk_put (cs := #[.int .i64 ((rd_T25 l0_4 x10_1).f0), .int .i64 0, .int .u64 0, .string (⟨#[]⟩ : ByteArray), .slice none 0 0]) ?_ 1 _ rfl; (with_reducible repeat (first | refine blk_drewN ?_ _ | refine blk_drew ?_ | refine blk_alloc ?_ _)); refine blk_put (cs := #[.int .i64 0, .int .i64 0, .int .u64 0, .string (⟨#[]⟩ : ByteArray), .slice none 0 0]) ?_ 0 _ rfl; (with_reducible repeat (first | refine blk_drewN ?_ _ | refine blk_drew ?_ | refine blk_alloc ?_ _)); exact BK286.out) hb); have n2_ := Aside0.mk (below_step (by repeat (first | (with_reducible first | exact HB.out | apply below_alloc | apply pw_below_drewN | apply below_drew1 | refine below_set ?_ GE284.out | refine below_set ?_ GE286.out) | exact HB.out)) hb); clear BK284; clear BK286; clear HB; have BK284 := n0_; have BK286 := n1_; have HB := n2_; clear n0_ n1_ n2_; (try clear hb); (try clear hb2); (try clear hk); (try clear hi)))
              go_ret
              exact ⟨by first | rfl | (simp [errW_none, errW_some] <;> rfl) | (simp [*, errW_none, errW_some] <;> rfl), by repeat (first | (with_reducible first | exact HB.out | apply below_alloc | apply pw_below_drewN | apply below_drew1 | refine below_set ?_ GE284.out | refine below_set ?_ GE286.out) | exact HB.out)⟩
            · replace c9 := Bool.eq_false_iff.mpr c9
              subst c9
              have H1 : (laws_carries.l0 k1 a1 l0_4 (l0_4.length : Int) (wrap64 (x10_1 + 1)) a0_0 a0_1 a0_2 a0_3 l0_4) = some r := by rw [if_neg (show ¬ (false = true) by decide)] at H; exact H
              clear H
              have H := H1
              clear H1
              have H' := Aside0.mk H
              clear H
              have p285 : 0 ≤ (x10_1 : Int) := of_decide_eq_true (by first | (with_reducible assumption) | assumption)
              have q285 : x10_1 < (l0_4.length : Int) := of_decide_eq_true (by first | (with_reducible assumption) | assumption)
              obtain ⟨ad285, A285_4, c285_4, e285, hx285_0, hx285_1, hx285_2, hx285_3, hx285_4, hl285_4, hi285_4⟩ := at_T25 HR0_4.out x10_1 p285 q285
              cases e285
              replace hx285_0 := (HB.out.cell (World.block_lt_of_cell? w _ hx285_0)).trans hx285_0
              replace hx285_1 := (HB.out.cell (World.block_lt_of_cell? w _ hx285_1)).trans hx285_1
              replace hx285_2 := (HB.out.cell (World.block_lt_of_cell? w _ hx285_2)).trans hx285_2
              replace hx285_3 := (HB.out.cell (World.block_lt_of_cell? w _ hx285_3)).trans hx285_3
              replace hx285_4 := (HB.out.cell (World.block_lt_of_cell? w _ hx285_4)).trans hx285_4
              have HR285_4 := Aside0.mk hi285_4
              have HC285_4 := Aside0.mk hl285_4
              clear hi285_4 hl285_4
              replace p285 := eq_true p285
              replace q285 := eq_true q285
              go_wp2_with (first | ((with_reducible refine gate_dst (N := 6) rfl ?_); refine box_event ?hg (N := 6) ?hd (cs := #[.int .i64 0, .int .i64 0, .int .u64 0, .string (⟨#[]⟩ : ByteArray), .slice none 0 0]) (t := 25) ?hr ?_; (case hd => rfl); (case hg => rfl); (case hr => first | (go_simp; done) | (go_simp; rfl)); intro gb286 hg w14 hbox hb; have n0_ := Aside0.mk (blk_below (g := gb284) (o := .cells #[.int .i64 a0_0, .int .i64 a0_1, .int .u64 a0_2, .string a0_3, .slice (some ad285) l0_4.length c0_4] 25 (0, 0)) (by (with_reducible repeat (first | refine blk_drewN ?_ _ | refine blk_drew ?_ | refine blk_alloc ?_ _)); exact BK284.out) hb); have n1_ := Aside0.mk (below_step (by repeat (first | (with_reducible first | exact HB.out | apply below_alloc | apply pw_below_drewN | apply below_drew1 | refine below_set ?_ GE284.out) | exact HB.out)) hb); have n2_ := Aside0.mk (hbox); have n3_ := Aside0.mk ((by rw [hg]; exact (below_size (by repeat (first | (with_reducible first | exact HB.out | apply below_alloc | apply pw_below_drewN | apply below_drew1 | refine below_set ?_ GE284.out) | exact HB.out))) : w.heap.size ≤ gb286)); have n4_ := Aside0.mk ((by rw [hg]; exact (below_size (by repeat (first | (with_reducible first | exact HB.out | apply below_alloc | apply pw_below_drewN | apply below_drew1 | refine below_set ?_ GE284.out) | exact HB.out))) : w.heap.size ≤ gb286)); have n5_ := Aside0.mk ((by rw [hg]; exact Nat.ne_of_lt (blk_lt (g := gb284) (o := .cells #[.int .i64 a0_0, .int .i64 a0_1, .int .u64 a0_2, .string a0_3, .slice (some ad285) l0_4.length c0_4] 25 (0, 0)) (by (with_reducible repeat (first | refine blk_drewN ?_ _ | refine blk_drew ?_ | refine blk_alloc ?_ _)); exact BK284.out)) : gb284 ≠ gb286)); have n6_ := Aside0.mk ((by rw [hg]; exact Nat.ne_of_gt (blk_lt (g := gb284) (o := .cells #[.int .i64 a0_0, .int .i64 a0_1, .int .u64 a0_2, .string a0_3, .slice (some ad285) l0_4.length c0_4] 25 (0, 0)) (by (with_reducible repeat (first | refine blk_drewN ?_ _ | refine blk_drew ?_ | refine blk_alloc ?_ _)); exact BK284.out)) : gb286 ≠ gb284)); clear BK284; clear HB; have BK284 := n0_; have HB := n1_; have BK286 := n2_; have GW286 := n3_; have GE286 := n4_; have NB284_286 := n5_; have NB286_284 := n6_; clear n0_ n1_ n2_ n3_ n4_ n5_ n6_; clear hb hbox hg; have hnb15 := NB286_284.out; have hnc15 := NB284_286.out; have hcz16_0 : w14.cell? ⟨gb286, 0, none⟩ = some (.int .i64 0) := (blk_cell BK286.out 0).trans rfl; have hcz16_1 : w14.cell? ⟨gb286, 1, none⟩ = some (.int .i64 0) := (blk_cell BK286.out 1).trans rfl; have hcz16_2 : w14.cell? ⟨gb286, 2, none⟩ = some (.int .u64 0) := (blk_cell BK286.out 2).trans rfl; have hcz16_3 : w14.cell? ⟨gb286, 3, none⟩ = some (.string (⟨#[]⟩ : ByteArray)) := (blk_cell BK286.out 3).trans rfl; have hcz16_4 : w14.cell? ⟨gb286, 4, none⟩ = some (.slice none 0 0) := (blk_cell BK286.out 4).trans rfl; have hfz16_0 := blk_frozen BK286.out 0; have hfz16_1 := blk_frozen BK286.out 1; have hfz16_2 := blk_frozen BK286.out 2; have hfz16_3 := blk_frozen BK286.out 3; have hfz16_4 := blk_frozen BK286.out 4) | ((with_reducible refine gate_callee (f := 7) rfl ?_); refine goesL_ (some 16) rfl rfl Tryz.func7 (by kernel_rfl) rfl #[.agg #[.int .i64 ((rd_T25 l0_4 x10_1).f0), .int .i64 ((rd_T25 l0_4 x10_1).f1), .int .u64 ((rd_T25 l0_4 x10_1).f2), .string ((rd_T25 l0_4 x10_1).f3), .slice A285_4 ((rd_T25 l0_4 x10_1).f4).length c285_4], .int .i64 a1] rfl (by (try simp only [List.map_toArray, List.map_cons, List.map_nil]); first | done | rfl | (simp only [List.length_drop, List.length_take]; rfl)) ?_; (with_reducible refine (ih k1 (by have := HK1.out; omega) ((rd_T25 l0_4 x10_1).f0) ((rd_T25 l0_4 x10_1).f1) ((rd_T25 l0_4 x10_1).f2) ((rd_T25 l0_4 x10_1).f3) _ _ ((rd_T25 l0_4 x10_1).f4) a1 false _ ?side1 ?side2 A8.out).mono ?_); (case side1 => exact Kd.C_below HR285_4.out (by repeat (first | (with_reducible first | exact HB.out | apply below_alloc | apply pw_below_drewN | apply below_drew1 | refine below_set ?_ GE284.out | refine below_set ?_ GE286.out) | exact HB.out))); (case side2 => exact HC285_4.out); rintro e w17 ⟨rfl, hb⟩; refine ⟨_, rfl, ?_⟩; have n0_ := Aside0.mk (blk_below (g := gb284) (o := .cells #[.int .i64 a0_0, .int .i64 a0_1, .int .u64 a0_2, .string a0_3, .slice (some ad285) l0_4.length c0_4] 25 (0, 0)) (by (with_reducible repeat (first | refine blk_drewN ?_ _ | refine blk_drew ?_ | refine blk_alloc ?_ _)); refine blk_far ?_ NB284_286.out _; (with_reducible repeat (first | refine blk_drewN ?_ _ | refine blk_drew ?_ | refine blk_alloc ?_ _)); refine blk_far ?_ NB284_286.out _; (with_reducible repeat (first | refine blk_drewN ?_ _ | refine blk_drew ?_ | refine blk_alloc ?_ _)); refine blk_far ?_ NB284_286.out _; (with_reducible repeat (first | refine blk_drewN ?_ _ | refine blk_drew ?_ | refine blk_alloc ?_ _)); refine blk_far ?_ NB284_286.out _; (with_reducible repeat (first | refine blk_drewN ?_ _ | refine blk_drew ?_ | refine blk_alloc ?_ _)); refine blk_far ?_ NB284_286.out _; (with_reducible repeat (first | refine blk_drewN ?_ _ | refine blk_drew ?_ | refine blk_alloc ?_ _)); exact BK284.out) hb); have n1_ := Aside0.mk (blk_below (g := gb286) (o := .cells #[.int .i64 ((rd_T25 l0_4 x10_1).f0), .int .i64 ((rd_T25 l0_4 x10_1).f1), .int .u64 ((rd_T25 l0_4 x10_1).f2), .string ((rd_T25 l0_4 x10_1).f3), .slice A285_4 ((rd_T25 l0_4 x10_1).f4).length c285_4] 25 (0, 0)) (by (with_reducible repeat (first | refine blk_drewN ?_ _ | refine blk_drew ?_ | refine blk_alloc ?_ _)); refine blk_put (cs := #[.int .i64 ((rd_T25 l0_4 x10_1).f0), .int .i64 ((rd_T25 l0_4 x10_1).f1), .int .u64 ((rd_T25 l0_4 x10_1).f2), .string ((rd_T25 l0_4 x10_1).f3), .slice none 0 0]) ?_ 4 _ rfl; (with_reducible repeat (first | refine blk_drewN ?_ _ | refine blk_drew ?_ | refine blk_alloc ?_ _)); refine blk_put (cs := #[.int .i64 ((rd_T25 l0_4 x10_1).f0), .int .i64 ((rd_T25 l0_4 x10_1).f1), .int .u64 ((rd_T25 l0_4 x10_1).f2), .string (⟨#[]⟩ : ByteArray), .slice none 0 0]) ?_ 3 _ rfl; (with_reducible repeat (first | refine blk_drewN ?_ _ | refine blk_drew ?_ | refine blk_alloc ?_ _)); refine blk_put (cs := #[.int .i64 ((rd_T25 l0_4 x10_1).f0), .int .i64 ((rd_T25 l0_4 x10_1).f1), .int .u64 0, .string (⟨#[]⟩ : ByteArray), .slice none 0 0]) ?_ 2 _ rfl; (with_reducible repeat (first | refine blk_drewN ?_ _ | refine blk_drew ?_ | refine blk_alloc ?_ _)); refine blk_put (cs := #[.int .i64 ((rd_T25 l0_4 x10_1).f0), .int .i64 0, .int .u64 0, .string (⟨#[]⟩ : ByteArray), .slice none 0 0]) ?_ 1 _ rfl; (with_reducible repeat (first | refine blk_drewN ?_ _ | refine blk_drew ?_ | refine blk_alloc ?_ _)); refine blk_put (cs := #[.int .i64 0, .int .i64 0, .int .u64 0, .string (⟨#[]⟩ : ByteArray), .slice none 0 0]) ?_ 0 _ rfl; (with_reducible repeat (first | refine blk_drewN ?_ _ | refine blk_drew ?_ | refine blk_alloc ?_ _)); exact BK286.out) hb); have n2_ := Aside0.mk (below_step (by repeat (first | (with_reducible first | exact HB.out | apply below_alloc | apply pw_below_drewN | apply below_drew1 | refine below_set ?_ GE284.out | refine below_set ?_ GE286.out) | exact HB.out)) hb); clear BK284; clear BK286; clear HB; have BK284 := n0_; have BK286 := n1_; have HB := n2_; clear n0_ n1_ n2_; (try clear hb); (try clear hb2); (try clear hk); (try clear hi)))
              go_roundg k1
              case measure => have := HK1.out; omega
              case rel => exact ⟨(wrap64 (x10_1 + 1)), (by first | rfl | (simp; done) | (simp [*]; done)), H', ⟨by have := HK1.out; omega⟩, ⟨by (with_reducible repeat (first | refine blk_drewN ?_ _ | refine blk_drew ?_ | refine blk_alloc ?_ _)); exact BK284.out⟩, ⟨by repeat (first | (with_reducible first | exact HB.out | apply below_alloc | apply pw_below_drewN | apply below_drew1 | refine below_set ?_ GE284.out | refine below_set ?_ GE286.out) | exact HB.out)⟩⟩
          · rw [if_neg c7] at H
            exact absurd H (by simp)
        · rw [if_neg c6] at H
          exact absurd H (by simp)
      · rw [if_neg c5] at H
        have c5b0 : decide (x10_1 < (l0_4.length : Int)) = false := decide_eq_false c5
        clear c5
        obtain rfl := Option.some.inj H
        have hcz18_0 : wr.cell? ⟨gb284, 0, none⟩ = some (.int .i64 a0_0) := (blk_cell BK284.out 0).trans rfl
        have hcz18_1 : wr.cell? ⟨gb284, 1, none⟩ = some (.int .i64 a0_1) := (blk_cell BK284.out 1).trans rfl
        have hcz18_2 : wr.cell? ⟨gb284, 2, none⟩ = some (.int .u64 a0_2) := (blk_cell BK284.out 2).trans rfl
        have hcz18_3 : wr.cell? ⟨gb284, 3, none⟩ = some (.string a0_3) := (blk_cell BK284.out 3).trans rfl
        have hcz18_4 : wr.cell? ⟨gb284, 4, none⟩ = some (.slice A0_4 l0_4.length c0_4) := (blk_cell BK284.out 4).trans rfl
        have hfz18_0 := blk_frozen BK284.out 0
        have hfz18_1 := blk_frozen BK284.out 1
        have hfz18_2 := blk_frozen BK284.out 2
        have hfz18_3 := blk_frozen BK284.out 3
        have hfz18_4 := blk_frozen BK284.out 4
        go_wp2
        go_ret
        exact ⟨by first | rfl | (simp [errW_none, errW_some] <;> rfl) | (simp [*, errW_none, errW_some] <;> rfl), by repeat (first | (with_reducible first | exact HB.out | apply below_alloc | apply pw_below_drewN | apply below_drew1 | refine below_set ?_ GE284.out) | exact HB.out)⟩

/-- A state of type 68 at block g of W; what its slices lead to came in by w0. -/
def IsS68 (w0 W : World) (g : Nat) (f0 : List Int) (f1 : Int) (f2 : Int) : Prop := ∃ A0 c0, W.heap[g]? = some (.cells #[.slice A0 f0.length c0, .int .i64 f1, .int .i64 f2] 68 (0, 0)) ∧ w0.heap.size ≤ g ∧ Kd.C (Kd.int .u8) w0 A0 f0.length f0
theorem IsS68.grown {w0 W : World} {g : Nat} {f0 : List Int} {f1 : Int} {f2 : Int} {W1 : World} {row : Option Nat} (h : IsS68 w0 W g f0 f1 f2) (hw : W.grownBy W1 row) (hne : some g ≠ row) : IsS68 w0 W1 g f0 f1 f2 := by
  obtain ⟨A0, c0, hb, hg, hr0⟩ := h
  exact ⟨A0, c0, blk_grown hb hw hne, hg, hr0⟩
theorem IsS68.own_neN {w0 W : World} {g : Nat} {f0 : List Int} {f1 : Int} {f2 : Int} {α : Type} {d : Kd α} {e : Nat} {base : Nat} {ok : Nat → Prop} {v : Value} {xs : List α} (h : IsS68 w0 W g f0 f1 f2) (ho : Kd.N d e W base ok v xs) (ht : e ≠ 68) : some g ≠ v.ownBlock := by
  obtain ⟨A0, c0, hb, hg, hr0⟩ := h
  exact Kd.N_ne ho hb ht
theorem IsS68.fresh {w0 W : World} {g : Nat} {f0 : List Int} {f1 : Int} {f2 : Int} (h : IsS68 w0 W g f0 f1 f2) : ∀ k, W.heap.size ≤ k → k ≠ g := by
  obtain ⟨A0, c0, hb, hg, hr0⟩ := h
  exact Kd.freshB hb
theorem IsS68.kept {w0 W : World} {g : Nat} {f0 : List Int} {f1 : Int} {f2 : Int} {W1 : World} {S : Nat → Prop} (h : IsS68 w0 W g f0 f1 f2) (hk : Kept W W1 S) (hne : ¬ S g) : IsS68 w0 W1 g f0 f1 f2 := by
  obtain ⟨A0, c0, hb, hg, hr0⟩ := h
  exact ⟨A0, c0, blk_kept hb hk hne, hg, hr0⟩
theorem IsS68.below {w0 W : World} {g : Nat} {f0 : List Int} {f1 : Int} {f2 : Int} {W1 : World} (h : IsS68 w0 W g f0 f1 f2) (hw : Below W.heap.size W W1) : IsS68 w0 W1 g f0 f1 f2 := h.grown (grown_of_below hw none) (by simp)
theorem IsS68.alloc {w0 W : World} {g : Nat} {f0 : List Int} {f1 : Int} {f2 : Int} (h : IsS68 w0 W g f0 f1 f2) (o : Obj) : IsS68 w0 (W.alloc o) g f0 f1 f2 := h.below (below_alloc (Below.refl _ _) o)
theorem IsS68.drewN {w0 W : World} {g : Nat} {f0 : List Int} {f1 : Int} {f2 : Int} (h : IsS68 w0 W g f0 f1 f2) (m : Nat) : IsS68 w0 (W.drewN m) g f0 f1 f2 := h
theorem IsS68.drew {w0 W : World} {g : Nat} {f0 : List Int} {f1 : Int} {f2 : Int} (h : IsS68 w0 W g f0 f1 f2) : IsS68 w0 W.drew g f0 f1 f2 := h
theorem IsS68.at_ {w0 W : World} {g : Nat} {f0 : List Int} {f1 : Int} {f2 : Int} {w' : World} {m : Nat} (hq : W.drewN m = w') (h : IsS68 w0 W g f0 f1 f2) : IsS68 w0 w' g f0 f1 f2 := by subst hq; exact IsS68.drewN h m
theorem IsS68.apart {w0 W : World} {g : Nat} {f0 : List Int} {f1 : Int} {f2 : Int} {α : Type} {d : Kd α} {e : Nat} {base : Nat} {ok : Nat → Prop} {v : Value} {xs : List α} (h : IsS68 w0 W g f0 f1 f2) (ho : d.R e W base ok v xs) (ht : ∀ q, q ∈ e :: d.E → q ≠ 68) : d.R e W base (fun k => ok k ∧ k ≠ g) v xs := by
  obtain ⟨A0, c0, hb, hg, hr0⟩ := h
  exact Kd.R_types ho hb ht
theorem IsS68.own_ne {w0 W : World} {g : Nat} {f0 : List Int} {f1 : Int} {f2 : Int} {α : Type} {d : Kd α} {e : Nat} {base : Nat} {ok : Nat → Prop} {v : Value} {xs : List α} (h : IsS68 w0 W g f0 f1 f2) (ho : d.R e W base ok v xs) (ht : e ≠ 68) : some g ≠ v.ownBlock := by
  obtain ⟨A0, c0, hb, hg, hr0⟩ := h
  exact Kd.R_ne ho hb ht
theorem IsS68.apartQ {w0 W : World} {g : Nat} {f0 : List Int} {f1 : Int} {f2 : Int} {α : Type} {d : Kd α} {e : Nat} {base : Nat} {ok : Nat → Prop} {v : Value} {xs : List α} (h : IsS68 w0 W g f0 f1 f2) (ho : d.Q e W base ok v xs) (ht : ∀ q, q ∈ e :: d.E → q ≠ 68) : d.Q e W base (fun k => ok k ∧ k ≠ g) v xs := by
  obtain ⟨A0, c0, hb, hg, hr0⟩ := h
  exact Kd.Q_types ho hb ht
theorem IsS68.own_neQ {w0 W : World} {g : Nat} {f0 : List Int} {f1 : Int} {f2 : Int} {α : Type} {d : Kd α} {e : Nat} {base : Nat} {ok : Nat → Prop} {v : Value} {xs : List α} (h : IsS68 w0 W g f0 f1 f2) (ho : d.Q e W base ok v xs) (ht : e ≠ 68) : some g ≠ v.ownBlock := by
  obtain ⟨A0, c0, hb, hg, hr0⟩ := h
  exact Kd.Q_ne ho hb ht
theorem IsS68.apartS {w0 W : World} {g : Nat} {f0 : List Int} {f1 : Int} {f2 : Int} {α : Type} {d : Kd α} {e : Nat} {base : Nat} {ok : Nat → Prop} {v : Value} {xs : List α} (h : IsS68 w0 W g f0 f1 f2) (ho : d.S e W base ok v xs) (ht : ∀ q, q ∈ e :: d.E → q ≠ 68) : d.S e W base (fun k => ok k ∧ k ≠ g) v xs := by
  obtain ⟨A0, c0, hb, hg, hr0⟩ := h
  exact Kd.S_types ho hb ht
theorem IsS68.own_neS {w0 W : World} {g : Nat} {f0 : List Int} {f1 : Int} {f2 : Int} {α : Type} {d : Kd α} {e : Nat} {base : Nat} {ok : Nat → Prop} {v : Value} {xs : List α} (h : IsS68 w0 W g f0 f1 f2) (ho : d.S e W base ok v xs) (ht : e ≠ 68) : some g ≠ v.ownBlock := by
  obtain ⟨A0, c0, hb, hg, hr0⟩ := h
  exact Kd.S_ne ho hb ht
theorem IsS68.lt {w0 W : World} {g : Nat} {f0 : List Int} {f1 : Int} {f2 : Int} (h : IsS68 w0 W g f0 f1 f2) : g < W.heap.size := by
  obtain ⟨A0, c0, hb, hg, hr0⟩ := h
  exact blk_lt hb
theorem IsS68.ge {w0 W : World} {g : Nat} {f0 : List Int} {f1 : Int} {f2 : Int} (h : IsS68 w0 W g f0 f1 f2) : w0.heap.size ≤ g := by
  obtain ⟨A0, c0, hb, hg, hr0⟩ := h
  exact hg
theorem IsS68.ne_blk {w0 W : World} {g : Nat} {f0 : List Int} {f1 : Int} {f2 : Int} {a : Nat} {cs : Array Value} {t : TypeId} {fr : Nat × Nat} (h : IsS68 w0 W g f0 f1 f2) (hb2 : W.heap[a]? = some (.cells cs t fr)) (ht : t ≠ 68) : g ≠ a := by
  obtain ⟨A0, c0, hb, hg, hr0⟩ := h
  rintro rfl
  rw [hb] at hb2
  injection hb2 with hb2
  injection hb2 with _ ht2
  exact ht ht2.symm
theorem IsS68.far {w0 W : World} {g : Nat} {f0 : List Int} {f1 : Int} {f2 : Int} {p : Addr} (h : IsS68 w0 W g f0 f1 f2) (hne : g ≠ p.block) (u : Value) : IsS68 w0 (W.setCell p u) g f0 f1 f2 := by
  obtain ⟨A0, c0, hb, hg, hr0⟩ := h
  exact ⟨A0, c0, blk_far hb hne u, hg, hr0⟩
theorem cellS68_0 {W : World} {g : Nat} {A0 : Option Addr} {c0 : Nat} {f0 : List Int} {f1 : Int} {f2 : Int} (h : W.heap[g]? = some (.cells #[.slice A0 f0.length c0, .int .i64 f1, .int .i64 f2] 68 (0, 0))) : W.cell? ⟨g, 0, none⟩ = some (.slice A0 f0.length c0) := (blk_cell h 0).trans rfl
theorem cellS68_1 {W : World} {g : Nat} {A0 : Option Addr} {c0 : Nat} {f0 : List Int} {f1 : Int} {f2 : Int} (h : W.heap[g]? = some (.cells #[.slice A0 f0.length c0, .int .i64 f1, .int .i64 f2] 68 (0, 0))) : W.cell? ⟨g, 1, none⟩ = some (.int .i64 f1) := (blk_cell h 1).trans rfl
theorem IsS68.set_1 {w0 W : World} {g : Nat} {f0 : List Int} {f1 : Int} {f2 : Int} (h : IsS68 w0 W g f0 f1 f2) (x : Int) : IsS68 w0 (W.setCell ⟨g, 1, none⟩ (.int .i64 x)) g f0 x f2 := by
  obtain ⟨A0, c0, hb, hg, hr0⟩ := h
  exact ⟨A0, c0, by simpa using blk_set hb 1 (.int .i64 x), hg, hr0⟩
theorem cellS68_2 {W : World} {g : Nat} {A0 : Option Addr} {c0 : Nat} {f0 : List Int} {f1 : Int} {f2 : Int} (h : W.heap[g]? = some (.cells #[.slice A0 f0.length c0, .int .i64 f1, .int .i64 f2] 68 (0, 0))) : W.cell? ⟨g, 2, none⟩ = some (.int .i64 f2) := (blk_cell h 2).trans rfl
theorem IsS68.set_2 {w0 W : World} {g : Nat} {f0 : List Int} {f1 : Int} {f2 : Int} (h : IsS68 w0 W g f0 f1 f2) (x : Int) : IsS68 w0 (W.setCell ⟨g, 2, none⟩ (.int .i64 x)) g f0 f1 x := by
  obtain ⟨A0, c0, hb, hg, hr0⟩ := h
  exact ⟨A0, c0, by simpa using blk_set hb 2 (.int .i64 x), hg, hr0⟩
theorem IsS68.new (w0 W : World) (A0 : Option Addr) (c0 : Nat) (f0 : List Int) (f1 : Int) (f2 : Int) (hB : Below w0.heap.size w0 W) (hr0 : Kd.C (Kd.int .u8) w0 A0 f0.length f0) : IsS68 w0 (W.alloc (.cells #[.slice A0 f0.length c0, .int .i64 f1, .int .i64 f2] 68)) W.heap.size f0 f1 f2 := ⟨A0, c0, by simpa using heap_alloc_new W _, hB.size, hr0⟩

/-! ### source_NewReaderSize: function 26 -/
def source_NewReaderSize.f (l0 : List Int) (a1 : Int) : Option (List Int × Int × Int) := some (l0, 0, mx a1 16)
set_option maxHeartbeats 8000000 in
set_option maxRecDepth 100000 in
theorem source_NewReaderSize.calls (A0 : Option Addr) (c0 : Nat) (l0 : List Int) (a1 : Int) (r1 : List Int) (r2 : Int) (r3 : Int) (w0 w : World) (hB : Below w0.heap.size w0 w) (hr0 : Kd.C (Kd.int .u8) w0 A0 l0.length l0) (hc0 : l0.length ≤ c0) (h : source_NewReaderSize.f l0 a1 = some (r1, r2, r3)) :
    Calls Tryz.prog 26 #[.slice A0 l0.length c0, .int .i64 a1] w fun e w' => ∃ g_ : Nat, e = .returned (.pointer (some ⟨g_, 0, none⟩)) ∧ IsS68 w0 w' g_ r1 r2 r3 ∧ Below w0.heap.size w0 w' ∧ Below w.heap.size w w' := by
  have hu68 := Tryz.underlying68
  have HR0 := Aside0.mk hr0
  have HC0 := Aside0.mk hc0
  clear hr0 hc0
  have HBW := Aside0.mk (Below.refl w.heap.size w)
  have HW0 := Aside0.mk hB.size
  have HB := Aside0.mk hB
  clear hB
  have H : (some (l0, 0, mx a1 16)) = some (r1, r2, r3) := h
  clear h
  obtain ⟨ji3, hji3⟩ : ∃ j_ : Int, (mx a1 16) = j_ := ⟨_, rfl⟩
  replace H : (some (l0, 0, ji3)) = some (r1, r2, r3) := by first | (rw [hji3] at H; exact H) | (simp only [hji3] at H ⊢; exact H)
  (try (have hji3l : 16 ≤ ji3 := by (rw [← hji3]; unfold mx; (repeat' split) <;> omega)))
  (try (have hji3m : 0 ≤ ji3 := by omega))
  have hji3_ : (if a1 < 16 then 16 else a1) = ji3 := hji3
  simp only [Option.some.injEq, Prod.mk.injEq] at H
  obtain ⟨rfl, rfl, rfl⟩ := H
  go_enter Tryz.func26, Tryz.ntmps26
  go_wp2_with (first | ((with_reducible refine gate_dst (N := 9) rfl ?_); refine box_event ?hg (N := 9) ?hd (cs := #[.slice A0 l0.length c0, .int .i64 0, .int .i64 ji3]) (t := 68) ?hr ?_; (case hd => rfl); (case hg => rfl); (case hr => first | (go_simp; done) | (go_simp; rfl)); intro gb288 hg w4 hbox hb; have n0_ := Aside0.mk (below_step HBW.out hb); have n1_ := Aside0.mk (below_step (by repeat (first | (with_reducible first | exact HB.out | apply below_alloc | apply pw_below_drewN | apply below_drew1) | exact HB.out)) hb); have n2_ := Aside0.mk (hbox); have n3_ := Aside0.mk ((by rw [hg]; exact (below_size (by repeat (first | (with_reducible first | exact HBW.out | apply below_alloc | apply pw_below_drewN | apply below_drew1) | exact HBW.out))) : w.heap.size ≤ gb288)); have n4_ := Aside0.mk ((Nat.le_trans HW0.out (by rw [hg]; exact (below_size (by repeat (first | (with_reducible first | exact HBW.out | apply below_alloc | apply pw_below_drewN | apply below_drew1) | exact HBW.out))) : w.heap.size ≤ gb288) : w0.heap.size ≤ gb288)); clear HBW; clear HB; have HBW := n0_; have HB := n1_; have BK288 := n2_; have GW288 := n3_; have GE288 := n4_; clear n0_ n1_ n2_ n3_ n4_; clear hb hbox hg))
  go_ret
  exact ⟨_, rfl, (show IsS68 w0 _ gb288 l0 0 ji3 from ⟨_, _, by (with_reducible repeat (first | refine blk_drewN ?_ _ | refine blk_drew ?_ | refine blk_alloc ?_ _)); exact BK288.out, GE288.out, HR0.out⟩), by repeat (first | (with_reducible first | exact HB.out | apply below_alloc | apply pw_below_drewN | apply below_drew1 | refine below_set ?_ GE288.out) | exact HB.out), by repeat (first | (with_reducible first | exact HBW.out | apply below_alloc | apply pw_below_drewN | apply below_drew1 | refine below_set ?_ GW288.out) | exact HBW.out)⟩

-- NOT PRINTED: function 15 (proto_NewReader)

-- NOT PRINTED: function 43 (errors_New)

-- NOT PRINTED: function 65 (source_Reader_fill)

-- NOT PRINTED: function 66 (source_Reader_take)

-- NOT PRINTED: function 45 (source_Reader_ReadSlice)

-- NOT PRINTED: function 46 (source_Reader_ReadBytes)

-- NOT PRINTED: function 29 (proto_Reader_readLine)

end Go.Proofs.YtmdlmjjggjemdaaGreatDoor.PFnRespRaw
