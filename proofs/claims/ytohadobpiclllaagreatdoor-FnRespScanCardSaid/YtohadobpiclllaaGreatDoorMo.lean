/- ParseFloat: its parts, each said for every input. ParseFloat: the texts of its special values. ParseFloat: its special values. -/
import Derived.Test.YtohadobpiclllaaGreatDoorMn
import Derived.Test.YtohadobpiclllaaGreatDoorMl
import Derived.Test.YtohadobpiclllaaGreatDoorMg
import Derived.Test.YtohadobpiclllaaGreatDoorMi
import Derived.Test.YtohadobpiclllaaGreatDoorMh
import Derived.Test.YtohadobpiclllaaGreatDoorMj
import Derived.Test.YtohadobpiclllaaGreatDoorMm
namespace Go.Proofs.YtohadobpiclllaaGreatDoor
section
open Go.RowKit Go.Proofs.YtohadobpiclllaaGreatDoorW.PrintWords Go.Proofs.YtohadobpiclllaaGreatDoorW.PrintMore Go.Proofs.YtohadobpiclllaaGreatDoorW.PrintLast Go.Proofs.YtohadobpiclllaaGreatDoor.PFnRespScan
attribute [local go_sem] max2_int min2_int max_two min_two max_three min_three max_four min_four
set_option linter.unusedVariables false
set_option linter.unusedSimpArgs false

theorem exact64_any (T : Nat → Nat) (hTO : ∀ k, k < 23 → Some0 FloatKind.f64.format (T k)) (m : Nat) (e : Int) (neg : Bool) (he0 : -1000000 ≤ e) (he1 : e ≤ 1000000) :
    ∃ (r : Nat) (ok : Bool), ∀ (w : World) (ft : Nat), FInfo w 5 52 11 (-1023) → F64T w ft T → Calls Tryz.prog 118 #[.int .u64 m, .int .i64 e, .bool neg] w (ExPost .f64 r ok w) := by
  by_cases h0 : (m : Int) / 4503599627370496 = 0
  · exact exact64_small T hTO m e neg he0 he1 h0
  · exact ⟨0, false, fun w ft hF hT => exact64_great m e neg h0 w hF⟩
theorem exact32_any (T : Nat → Nat) (hTO : ∀ k, k < 11 → Some0 FloatKind.f32.format (T k)) (m : Nat) (e : Int) (neg : Bool) (he0 : -1000000 ≤ e) (he1 : e ≤ 1000000) :
    ∃ (r : Nat) (ok : Bool), ∀ (w : World) (ft : Nat), F32T w ft T → Calls Tryz.prog 112 #[.int .u64 m, .int .i64 e, .bool neg] w (ExPost .f32 r ok w) := by
  by_cases h0 : (m : Int) / 8388608 = 0
  · exact exact32_small T hTO m e neg he0 he1 h0
  · exact ⟨0, false, fun w ft hT => exact32_great m e neg h0 w⟩

/-- floatBits, of any decimal in order. -/
theorem fb64_any (S : Dec) (neg : Bool) (h : S.nd = 0 ∨ Good S) : ∃ (B : Int) (ovf : Bool), ∀ (w : World) (p pt tb : Nat) (hS : DecAt w p neg S) (hF : FInfo w 5 52 11 (-1023)) (hP : PowT w pt) (hC : Cheats w tb) (hp5 : p ≠ 5) (hp7 : p ≠ 7) (hpt : p ≠ pt) (hp12 : p ≠ 12) (hptb : p ≠ tb), Calls Tryz.prog 115 #[.pointer (some ⟨p, 0, none⟩), .pointer (some ⟨5, 0, none⟩)] w (FbPost w p B ovf) := by
  by_cases h1 : S.nd = 0 ∨ S.dp < -330
  · obtain ⟨B, ovf, H⟩ := fb64_zero S neg h1
    exact ⟨B, ovf, fun w p pt tb hS hF _ _ _ _ _ _ _ => H w p hS hF⟩
  · have h2 : S.nd ≠ 0 := fun e => h1 (.inl e)
    have h3 : -330 ≤ S.dp := by
      rcases Int.lt_or_le S.dp (-330) with e | e
      · exact absurd (.inr e) h1
      · exact e
    have hG := h.resolve_left h2
    by_cases h4 : 310 < S.dp
    · obtain ⟨B, ovf, H⟩ := fb64_over S neg h2 h4
      exact ⟨B, ovf, fun w p pt tb hS hF _ _ _ _ _ _ _ => H w p hS hF⟩
    · cases neg
      · exact fb64_main_false S hG h3 (by omega)
      · exact fb64_main_true S hG h3 (by omega)
theorem fb32_any (S : Dec) (neg : Bool) (h : S.nd = 0 ∨ Good S) : ∃ (B : Int) (ovf : Bool), ∀ (w : World) (p pt tb : Nat) (hS : DecAt w p neg S) (hF : FInfo w 3 23 8 (-127)) (hP : PowT w pt) (hC : Cheats w tb) (hp5 : p ≠ 3) (hp7 : p ≠ 7) (hpt : p ≠ pt) (hp12 : p ≠ 12) (hptb : p ≠ tb), Calls Tryz.prog 115 #[.pointer (some ⟨p, 0, none⟩), .pointer (some ⟨3, 0, none⟩)] w (FbPost w p B ovf) := by
  by_cases h1 : S.nd = 0 ∨ S.dp < -330
  · obtain ⟨B, ovf, H⟩ := fb32_zero S neg h1
    exact ⟨B, ovf, fun w p pt tb hS hF _ _ _ _ _ _ _ => H w p hS hF⟩
  · have h2 : S.nd ≠ 0 := fun e => h1 (.inl e)
    have h3 : -330 ≤ S.dp := by
      rcases Int.lt_or_le S.dp (-330) with e | e
      · exact absurd (.inr e) h1
      · exact e
    have hG := h.resolve_left h2
    by_cases h4 : 310 < S.dp
    · obtain ⟨B, ovf, H⟩ := fb32_over S neg h2 h4
      exact ⟨B, ovf, fun w p pt tb hS hF _ _ _ _ _ _ _ => H w p hS hF⟩
    · cases neg
      · exact fb32_main_false S hG h3 (by omega)
      · exact fb32_main_true S hG h3 (by omega)

set_option maxHeartbeats 4000000 in
set_option maxRecDepth 100000 in
theorem readFloat_empty (c : ByteArray) (h0 : c.size = 0) (w : World) :
    Calls Tryz.prog 108 #[.string c] w fun e w' => e = .returned (rfTuple 0 0 false false 0 false) ∧ ∃ n, w' = w.drewN n := by
  have hce : c = ByteArray.empty := by
    cases c
    rename_i d
    have : d.size = 0 := h0
    rw [Array.size_eq_zero_iff] at this
    subst this
    rfl
  subst hce
  go_enter Tryz.func108, Tryz.ntmps108
  go_wp2_with fail
  go_step3
  go_wp2_with fail
  (try simp only [Exit.noGoto_ret]); refine bodyPost_ret (results_tmp7 rfl _ _ _) rfl ?_
  exact ⟨rfl, 0, rfl⟩

/-- readFloat, of any text. -/
theorem readFloat_any (c : ByteArray) (hP : PlainText c) : ∃ (m : Nat) (e : Int) (neg tr : Bool) (n : Nat) (ok : Bool), m < 10000000000000000000 ∧ -200000 ≤ e ∧ e ≤ 200000 ∧ n ≤ c.size ∧ ∀ w, Calls Tryz.prog 108 #[.string c] w fun x w' => x = .returned (rfTuple m e neg tr n ok) ∧ ∃ k, w' = w.drewN k := by
  rcases Nat.eq_zero_or_pos c.size with h0 | h0
  · exact ⟨0, 0, false, false, 0, false, by omega, by omega, by omega, Nat.zero_le _, fun w => readFloat_empty c h0 w⟩
  · have hO := rfAll_ok c h0
    have hO : RFOK c (rfAll c) := hO
    obtain ⟨x1, x2, x3⟩ := exPart_ok c (rfAll c).i hO.1
    have hnd := hO.2.1
    have hi := hO.1
    have hnm := hO.2.2.2.1
    have hd1 := hO.2.2.2.2.2.1
    have hd2 := hO.2.2.2.2.2.2
    have hs := hP.1
    refine ⟨(rfAll c).m, (rfTail c (rfAll c)).1, sgN c, (rfAll c).tr, (rfTail c (rfAll c)).2.1, (rfTail c (rfAll c)).2.2, hO.small, ?_, ?_, ?_, fun w => readFloat_calls c hP h0 w⟩
    · unfold rfTail
      split
      · split
        · dsimp only
          split
          · omega
          · split <;> omega
        · show (-200000 : Int) ≤ 0
          omega
      · show (-200000 : Int) ≤ 0
        omega
    · unfold rfTail
      split
      · split
        · dsimp only
          split
          · omega
          · split <;> omega
        · show (0 : Int) ≤ 200000
          omega
      · show (0 : Int) ≤ 200000
        omega
    · unfold rfTail
      split
      · split
        · exact x1
        · exact x1
      · exact hi

set_option maxHeartbeats 4000000 in
set_option maxRecDepth 100000 in
theorem set_empty (w : World) (p : Nat) (hS : DecAt w p false Dec.nil) :
    Calls Tryz.prog 114 #[.pointer (some ⟨p, 0, none⟩), .string ByteArray.empty] w fun e w' => e = .returned (.bool false) ∧ Mods (· = p) w w' := by
  have hcg := hS.negs
  have hct := hS.trs
  have hfg := hS.free 802
  have hft := hS.free 803
  have M1 := Aside0.mk (((Mods.refl (· = p) w).setCell (p := ⟨p, 802, none⟩) (.inl rfl) (.bool false)).setCell (p := ⟨p, 803, none⟩) (.inl rfl) (.bool false))
  clear hS
  go_enter Tryz.func114, Tryz.ntmps114
  go_wp2_with fail
  go_ret
  exact ⟨rfl, M1.out⟩

/-- set, of any text. -/
theorem set_any (c : ByteArray) (hP : PlainText c) (h7 : c.size ≤ 700) : ∃ (ok neg : Bool) (S : Dec), (ok = true → S.nd = 0 ∨ Good S) ∧ ∀ (w : World) (p : Nat), DecAt w p false Dec.nil → Calls Tryz.prog 114 #[.pointer (some ⟨p, 0, none⟩), .string c] w fun e w' => e = .returned (.bool ok) ∧ (ok = true → DecAt w' p neg S) ∧ Mods (· = p) w w' := by
  rcases Nat.eq_zero_or_pos c.size with h0 | h0
  · have hce : c = ByteArray.empty := by
      cases c
      rename_i d
      have : d.size = 0 := h0
      rw [Array.size_eq_zero_iff] at this
      subst this
      rfl
    subst hce
    refine ⟨false, false, Dec.nil, fun h => (by cases h), fun w p hS => (set_empty w p hS).mono ?_⟩
    rintro e w' ⟨h1, h2⟩
    exact ⟨h1, fun h => (by cases h), h2⟩
  · exact ⟨(stAll c).1, sgN c, (stAll c).2, fun h => (stAll_ok c h0 h7 h).1, fun w p hS => set_calls c hP h0 h7 w p hS⟩
end

section
open Go.RowKit Go.Proofs.YtohadobpiclllaaGreatDoorW.PrintWords Go.Proofs.YtohadobpiclllaaGreatDoorW.PrintMore Go.Proofs.YtohadobpiclllaaGreatDoorW.PrintLast Go.Proofs.YtohadobpiclllaaGreatDoor.PFnRespScan
attribute [local go_sem] max2_int min2_int max_two min_two max_three min_three max_four min_four
set_option linter.unusedVariables false
set_option linter.unusedSimpArgs false
attribute [local go_sem] frombits64 frombits32

theorem ba_empty {c : ByteArray} (h : c.size = 0) : c = ByteArray.empty := by
  cases c
  rename_i d
  have : d.size = 0 := h
  rw [Array.size_eq_zero_iff] at this
  subst this
  rfl

/-- No i, no n. -/
def NoIN (c : ByteArray) : Prop := ∀ i, i < c.size → cb c i ≠ 105 ∧ cb c i ≠ 73 ∧ cb c i ≠ 110 ∧ cb c i ≠ 78

set_option maxHeartbeats 4000000 in
set_option maxRecDepth 100000 in
/-- A text that does not begin with an i has nothing in common with infinity. -/
theorem common_none (a : ByteArray) (h : 0 < a.size → cb a 0 ≠ 105 ∧ cb a 0 ≠ 73) (w : World) :
    Calls Tryz.prog 130 #[.string a, .string ⟨#[105, 110, 102, 105, 110, 105, 116, 121]⟩] w fun e w' => e = .returned (.int .i64 0) ∧ ∃ n, w' = w.drewN n := by
  rcases Nat.eq_zero_or_pos a.size with h0 | h0
  · have := ba_empty h0
    subst this
    clear h h0
    go_enter Tryz.func130, Tryz.ntmps130
    go_wp2_with fail
    refine wp_loop_rounds 1 ?_
    rw [rounds_succ]
    go_wp2_with fail
    go_ret
    exact ⟨rfl, 0, rfl⟩
  · obtain ⟨h1, h2⟩ := h h0
    have hae : ¬ a = ByteArray.empty := by rintro rfl; exact absurd h0 (by decide)
    have h00 : (0 : Int) < (a.size : Int) := by omega
    obtain ⟨x, hx⟩ : ∃ x : Int, (a[0].toNat : Int) = x := ⟨_, rfl⟩
    have hxb := cb_bound a 0
    have HX := (cb_at a 0 h0).trans hx
    rw [HX] at hxb h1 h2
    clear HX h
    have walk : ∀ (y : Int), (y != 105) = true → ((65 ≤ x ∧ x ≤ 90 ∧ y = x + 32) ∨ (x < 65 ∧ y = x) ∨ (65 ≤ x ∧ 90 < x ∧ y = x)) → Calls Tryz.prog 130 #[.string a, .string ⟨#[105, 110, 102, 105, 110, 105, 116, 121]⟩] w fun e w' => e = .returned (.int .i64 0) ∧ ∃ n, w' = w.drewN n := by
      intro y hy hc
      have hpre : (((⟨#[105, 110, 102, 105, 110, 105, 116, 121]⟩ : ByteArray)[0]'(by decide)).toNat : Int) = 105 := by decide
      rcases hc with ⟨c1, c2, rfl⟩ | ⟨c1, rfl⟩ | ⟨c1, c2, rfl⟩
      all_goals
        go_enter Tryz.func130, Tryz.ntmps130
        go_wp2_with fail
        all_goals
          refine wp_loop_rounds 1 ?_
          rw [rounds_succ]
          go_wp2_with fail
          go_ret
          exact ⟨rfl, 0, rfl⟩
    rcases Int.lt_or_le x 65 with c1 | c1
    · exact walk x (bne_iff_ne.mpr h1) (.inr (.inl ⟨c1, rfl⟩))
    · rcases Int.lt_or_le 90 x with c2 | c2
      · exact walk x (bne_iff_ne.mpr h1) (.inr (.inr ⟨c1, c2, rfl⟩))
      · exact walk (x + 32) (bne_iff_ne.mpr (by omega)) (.inl ⟨c1, c2, rfl⟩)

set_option maxHeartbeats 4000000 in
set_option maxRecDepth 100000 in
/-- No special value. -/
theorem special_none (c : ByteArray) (h : NoIN c) (h60 : c.size ≤ 1000) (w : World) :
    Calls Tryz.prog 107 #[.string c] w fun e w' => e = .returned (.tuple #[.float .f64 0, .int .i64 0, .bool false]) ∧ ∃ n, w' = w.drewN n := by
  rcases Nat.eq_zero_or_pos c.size with h0 | h0
  · have := ba_empty h0
    subst this
    clear h h0 h60
    go_enter Tryz.func107, Tryz.ntmps107
    go_wp2_with fail
    go_ret3
    exact ⟨rfl, 0, rfl⟩
  · obtain ⟨h1, h2, h3, h4⟩ := h 0 h0
    have hce : ¬ c = ByteArray.empty := by rintro rfl; exact absurd h0 (by decide)
    have h00 : (0 : Int) < (c.size : Int) := by omega
    have h01 : (1 : Int) ≤ (c.size : Int) := by omega
    obtain ⟨x, hx⟩ : ∃ x : Int, (c[0].toNat : Int) = x := ⟨_, rfl⟩
    have hxb := cb_bound c 0
    have HX := (cb_at c 0 h0).trans hx
    rw [HX] at hxb h1 h2 h3 h4
    clear HX
    have n1 : (x == 105) = false := beq_eq_false_iff_ne.mpr h1
    have n2 : (x == 73) = false := beq_eq_false_iff_ne.mpr h2
    have n3 : (x == 110) = false := beq_eq_false_iff_ne.mpr h3
    have n4 : (x == 78) = false := beq_eq_false_iff_ne.mpr h4
    have HS := Aside0.mk (fun w => common_none (c.extract 1 c.size) (fun hs => by
      have hs' : 0 < c.size - 1 := by simpa using hs
      have h5 := h 1 (by omega)
      have e1 : cb (c.extract 1 c.size) 0 = cb c 1 := by
        rw [cb_at _ _ hs, cb_at c 1 (by omega)]
        congr 2
        exact ByteArray.getElem_extract _
      rw [e1]
      exact ⟨h5.1, h5.2.1⟩) w)
    clear h h1 h2 h3 h4
    by_cases h43 : x = 43
    · have h43' : (x == 43) = true := beq_iff_eq.mpr h43
      have h45' : (x == 45) = false := by rw [h43]; rfl
      clear h43
      go_enter Tryz.func107, Tryz.ntmps107
      go_wp2_with fail
      refine (HS.out w).mono ?_
      rintro e w1 ⟨rfl, n, rfl⟩
      go_wp2_with fail
      go_ret3
      exact ⟨rfl, n, rfl⟩
    · have h43' : (x == 43) = false := beq_eq_false_iff_ne.mpr h43
      by_cases h45 : x = 45
      · have h45' : (x == 45) = true := beq_iff_eq.mpr h45
        clear h45 h43
        go_enter Tryz.func107, Tryz.ntmps107
        go_wp2_with fail
        refine (HS.out w).mono ?_
        rintro e w1 ⟨rfl, n, rfl⟩
        go_wp2_with fail
        go_ret3
        exact ⟨rfl, n, rfl⟩
      · have h45' : (x == 45) = false := beq_eq_false_iff_ne.mpr h45
        clear h45 h43
        go_enter Tryz.func107, Tryz.ntmps107
        go_wp2_with fail
        go_ret3
        exact ⟨rfl, 0, rfl⟩
end

section
open Go.RowKit Go.Proofs.YtohadobpiclllaaGreatDoorW.PrintWords Go.Proofs.YtohadobpiclllaaGreatDoorW.PrintMore Go.Proofs.YtohadobpiclllaaGreatDoorW.PrintLast Go.Proofs.YtohadobpiclllaaGreatDoor.PFnRespScan
attribute [local go_sem] max2_int min2_int max_two min_two max_three min_three max_four min_four
set_option linter.unusedVariables false
set_option linter.unusedSimpArgs false
attribute [local go_sem] frombits64 frombits32

set_option maxHeartbeats 4000000 in
set_option maxRecDepth 100000 in
theorem common_inf (w : World) : Calls Tryz.prog 130 #[.string ⟨#[105, 110, 102]⟩, .string ⟨#[105, 110, 102, 105, 110, 105, 116, 121]⟩] w fun e w' => e = .returned (.int .i64 3) ∧ ∃ n, w' = w.drewN n := by
  have s0 : (((⟨#[105, 110, 102]⟩ : ByteArray)[0]'(by decide)).toNat : Int) = 105 := by decide
  have s1 : (((⟨#[105, 110, 102]⟩ : ByteArray)[1]'(by decide)).toNat : Int) = 110 := by decide
  have s2 : (((⟨#[105, 110, 102]⟩ : ByteArray)[2]'(by decide)).toNat : Int) = 102 := by decide
  have p0 : (((⟨#[105, 110, 102, 105, 110, 105, 116, 121]⟩ : ByteArray)[0]'(by decide)).toNat : Int) = 105 := by decide
  have p1 : (((⟨#[105, 110, 102, 105, 110, 105, 116, 121]⟩ : ByteArray)[1]'(by decide)).toNat : Int) = 110 := by decide
  have p2 : (((⟨#[105, 110, 102, 105, 110, 105, 116, 121]⟩ : ByteArray)[2]'(by decide)).toNat : Int) = 102 := by decide
  go_enter Tryz.func130, Tryz.ntmps130
  go_wp2_with fail
  refine wp_loop_rounds 4 ?_
  rw [rounds_succ]
  go_wp2_with fail
  rw [rounds_succ]
  go_wp2_with fail
  rw [rounds_succ]
  go_wp2_with fail
  rw [rounds_succ]
  go_wp2_with fail
  go_ret
  exact ⟨rfl, 0, rfl⟩

set_option maxHeartbeats 4000000 in
set_option maxRecDepth 100000 in
theorem common_nan (w : World) : Calls Tryz.prog 130 #[.string ⟨#[110, 97, 110]⟩, .string ⟨#[110, 97, 110]⟩] w fun e w' => e = .returned (.int .i64 3) ∧ ∃ n, w' = w.drewN n := by
  have s0 : (((⟨#[110, 97, 110]⟩ : ByteArray)[0]'(by decide)).toNat : Int) = 110 := by decide
  have s1 : (((⟨#[110, 97, 110]⟩ : ByteArray)[1]'(by decide)).toNat : Int) = 97 := by decide
  have s2 : (((⟨#[110, 97, 110]⟩ : ByteArray)[2]'(by decide)).toNat : Int) = 110 := by decide
  go_enter Tryz.func130, Tryz.ntmps130
  go_wp2_with fail
  refine wp_loop_rounds 4 ?_
  rw [rounds_succ]
  go_wp2_with fail
  rw [rounds_succ]
  go_wp2_with fail
  rw [rounds_succ]
  go_wp2_with fail
  rw [rounds_succ]
  go_wp2_with fail
  go_ret
  exact ⟨rfl, 0, rfl⟩

theorem inf_p (w : World) : Calls Tryz.prog 131 #[.int .i64 1] w fun e w' => e = .returned (.float .f64 9218868437227405312) ∧ w' = w := by
  go_enter Tryz.func131, Tryz.ntmps131
  go_wp2
  go_ret
  exact ⟨rfl, rfl⟩
theorem inf_m (w : World) : Calls Tryz.prog 131 #[.int .i64 (-1)] w fun e w' => e = .returned (.float .f64 18442240474082181120) ∧ w' = w := by
  go_enter Tryz.func131, Tryz.ntmps131
  go_wp2
  go_ret
  exact ⟨rfl, rfl⟩
theorem nan_c (w : World) : Calls Tryz.prog 132 #[] w fun e w' => e = .returned (.float .f64 9221120237041090561) ∧ w' = w := by
  go_enter Tryz.func132, Tryz.ntmps132
  go_wp2
  go_ret
  exact ⟨rfl, rfl⟩

set_option maxHeartbeats 4000000 in
set_option maxRecDepth 100000 in
theorem special_inf (w : World) : Calls Tryz.prog 107 #[.string ⟨#[105, 110, 102]⟩] w fun e w' => e = .returned (.tuple #[.float .f64 9218868437227405312, .int .i64 3, .bool true]) ∧ ∃ n, w' = w.drewN n := by
  have s0 : (((⟨#[105, 110, 102]⟩ : ByteArray)[0]'(by decide)).toNat : Int) = 105 := by decide
  go_enter Tryz.func107, Tryz.ntmps107
  go_wp2_with fail
  refine (common_inf w).mono ?_
  rintro e w1 ⟨rfl, n, rfl⟩
  go_wp2_with fail
  refine (inf_p _).mono ?_
  rintro e w1 ⟨rfl, rfl⟩
  go_wp2_with fail
  go_ret3
  exact ⟨rfl, n, rfl⟩

set_option maxHeartbeats 4000000 in
set_option maxRecDepth 100000 in
theorem special_minf (w : World) : Calls Tryz.prog 107 #[.string ⟨#[45, 105, 110, 102]⟩] w fun e w' => e = .returned (.tuple #[.float .f64 18442240474082181120, .int .i64 4, .bool true]) ∧ ∃ n, w' = w.drewN n := by
  have s0 : (((⟨#[45, 105, 110, 102]⟩ : ByteArray)[0]'(by decide)).toNat : Int) = 45 := by decide
  have hx : (⟨#[45, 105, 110, 102]⟩ : ByteArray).extract 1 4 = ⟨#[105, 110, 102]⟩ := by decide
  go_enter Tryz.func107, Tryz.ntmps107
  go_wp2_with fail
  refine (common_inf w).mono ?_
  rintro e w1 ⟨rfl, n, rfl⟩
  go_wp2_with fail
  refine (inf_m _).mono ?_
  rintro e w1 ⟨rfl, rfl⟩
  go_wp2_with fail
  go_ret3
  exact ⟨rfl, n, rfl⟩

set_option maxHeartbeats 4000000 in
set_option maxRecDepth 100000 in
theorem special_nan (w : World) : Calls Tryz.prog 107 #[.string ⟨#[110, 97, 110]⟩] w fun e w' => e = .returned (.tuple #[.float .f64 9221120237041090561, .int .i64 3, .bool true]) ∧ ∃ n, w' = w.drewN n := by
  have s0 : (((⟨#[110, 97, 110]⟩ : ByteArray)[0]'(by decide)).toNat : Int) = 110 := by decide
  go_enter Tryz.func107, Tryz.ntmps107
  go_wp2_with fail
  refine (common_nan w).mono ?_
  rintro e w1 ⟨rfl, n, rfl⟩
  go_wp2_with fail
  refine (nan_c _).mono ?_
  rintro e w1 ⟨rfl, rfl⟩
  go_wp2_with fail
  go_ret3
  exact ⟨rfl, n, rfl⟩
end
end Go.Proofs.YtohadobpiclllaaGreatDoor
