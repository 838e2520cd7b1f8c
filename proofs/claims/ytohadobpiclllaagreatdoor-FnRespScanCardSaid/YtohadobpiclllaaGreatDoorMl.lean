/- The setting of a long decimal, in plain words. The setting of a long decimal: decimal.set. -/
import Derived.Test.YtohadobpiclllaaGreatDoorMk
import Derived.Test.YtohadobpiclllaaGreatDoorMd
import Derived.StillTailTactics
namespace Go.Proofs.YtohadobpiclllaaGreatDoor
section
open Go.RowKit Go.Proofs.YtohadobpiclllaaGreatDoorW.PrintWords Go.Proofs.YtohadobpiclllaaGreatDoorW.PrintMore Go.Proofs.YtohadobpiclllaaGreatDoorW.PrintLast Go.Proofs.YtohadobpiclllaaGreatDoor.PFnRespScan
set_option linter.unusedVariables false
set_option linter.unusedSimpArgs false

theorem DecAt.setNeg {w : World} {p : Nat} {neg : Bool} {S : Dec} (h : DecAt w p neg S) (b : Bool) : DecAt (w.setCell ⟨p, 802, none⟩ (.bool b)) p b S := by
  obtain ⟨cs, t, h1, h2, h3, h4, h5, h6, h7⟩ := h
  refine ⟨_, t, blk_set h1 802 _, by rw [Array.size_setIfInBounds]; exact h2, fun j hj => ?_, ?_, ?_, ?_, ?_⟩
  · rw [get_set h2 (by omega), if_neg (by omega)]; exact h3 j hj
  · rw [get_set h2 (by omega), if_neg (by omega)]; exact h4
  · rw [get_set h2 (by omega), if_neg (by omega)]; exact h5
  · rw [get_set h2 (by omega), if_pos rfl]
  · rw [get_set h2 (by omega), if_neg (by omega)]; exact h7

/-- The decimal as it is made. -/
def Dec.nil : Dec := ⟨fun _ => 0, 0, 0, false⟩

/-- What the loop over the digits has gathered. -/
structure ST where
  i : Nat
  S : Dec
  dot : Bool
  dig : Bool

/-- The loop over the digits; none: two points. -/
def stGo (c : ByteArray) : Nat → ST → Option ST
  | 0, R => some R
  | f + 1, R =>
    if R.i < c.size then
      if cb c R.i = 46 then
        if R.dot then none else stGo c f ⟨R.i + 1, { R.S with dp := R.S.nd }, true, R.dig⟩
      else if 48 ≤ cb c R.i ∧ cb c R.i ≤ 57 then
        if cb c R.i = 48 ∧ R.S.nd = 0 then stGo c f ⟨R.i + 1, { R.S with dp := R.S.dp - 1 }, R.dot, true⟩
        else stGo c f ⟨R.i + 1, { { R.S with d := upd R.S.d R.S.nd (cb c R.i) } with nd := R.S.nd + 1 }, R.dot, true⟩
      else some R
    else some R

/-- What holds of it. -/
def STOK (c : ByteArray) (R : ST) : Prop := R.i ≤ c.size ∧ R.S.nd ≤ R.i ∧ -(R.i : Int) ≤ R.S.dp ∧ R.S.dp ≤ R.i ∧ (∀ j, j < R.S.nd → 48 ≤ R.S.d j ∧ R.S.d j ≤ 57) ∧ (0 < R.S.nd → 49 ≤ R.S.d 0)
theorem STOK.good {c : ByteArray} {R : ST} (h : STOK c R) (hc : c.size ≤ 700) (d : Int) : R.S.nd = 0 ∨ Good { R.S with dp := d } := by
  rcases Nat.eq_zero_or_pos R.S.nd with h0 | h0
  · exact .inl h0
  · obtain ⟨h1, h2, h3, h4, h5, h6⟩ := h
    exact .inr ⟨⟨by show R.S.nd ≤ 800; omega, h5⟩, h0, h6 h0⟩
theorem stGo_ok (c : ByteArray) : ∀ (f : Nat) (R : ST), STOK c R → ∀ R', stGo c f R = some R' → STOK c R'
  | 0, R, h, R', e => by cases e; exact h
  | f + 1, R, h, R', e => by
    obtain ⟨h1, h2, h3, h4, h5, h6⟩ := h
    have hR : STOK c R := ⟨h1, h2, h3, h4, h5, h6⟩
    rw [stGo] at e
    split at e
    · split at e
      · split at e
        · cases e
        · refine stGo_ok c f _ ?_ R' e; exact ⟨by show R.i + 1 ≤ c.size; omega, by show R.S.nd ≤ R.i + 1; omega, by show -((R.i + 1 : Nat) : Int) ≤ ((R.S.nd : Nat) : Int); omega, by show ((R.S.nd : Nat) : Int) ≤ ((R.i + 1 : Nat) : Int); omega, h5, h6⟩
      · split at e
        · rename_i hdg
          split at e
          · rename_i hz
            refine stGo_ok c f _ ?_ R' e; refine ⟨by show R.i + 1 ≤ c.size; omega, by show R.S.nd ≤ R.i + 1; omega, by show -((R.i + 1 : Nat) : Int) ≤ R.S.dp - 1; omega, by show R.S.dp - 1 ≤ ((R.i + 1 : Nat) : Int); omega, h5, h6⟩
          · rename_i hz
            refine stGo_ok c f _ ?_ R' e; refine ⟨by show R.i + 1 ≤ c.size; omega, by show R.S.nd + 1 ≤ R.i + 1; omega, by show -((R.i + 1 : Nat) : Int) ≤ R.S.dp; omega, by show R.S.dp ≤ ((R.i + 1 : Nat) : Int); omega, fun j hj => ?_, fun _ => ?_⟩
            · show 48 ≤ upd R.S.d R.S.nd (cb c R.i) j ∧ upd R.S.d R.S.nd (cb c R.i) j ≤ 57
              have hj' : j < R.S.nd + 1 := hj
              unfold upd
              split
              · exact hdg
              · exact h5 j (by omega)
            · show 49 ≤ upd R.S.d R.S.nd (cb c R.i) 0
              unfold upd
              split
              · rename_i h0
                rcases Int.lt_or_le 48 (cb c R.i) with h | h
                · omega
                · exact absurd ⟨by omega, h0.symm⟩ hz
              · exact h6 (by omega)
        · cases e; exact hR
    · cases e; exact hR

theorem stGo_step {c : ByteArray} {i : Nat} {S : Dec} {dot dig : Bool} (h : STOK c ⟨i, S, dot, dig⟩) (hic : i < c.size) (hdg : 48 ≤ cb c i ∧ cb c i ≤ 57) (hz : ¬ (cb c i = 48 ∧ S.nd = 0)) :
    STOK c ⟨i + 1, { { S with d := upd S.d S.nd (cb c i) } with nd := S.nd + 1 }, dot, true⟩ := by
  obtain ⟨h1, h2, h3, h4, h5, h6⟩ := h
  dsimp only at h1 h2 h3 h4 h5 h6
  refine ⟨by show i + 1 ≤ c.size; omega, by show S.nd + 1 ≤ i + 1; omega, by show -((i + 1 : Nat) : Int) ≤ S.dp; omega, by show S.dp ≤ ((i + 1 : Nat) : Int); omega, fun j hj => ?_, fun _ => ?_⟩
  · show 48 ≤ upd S.d S.nd (cb c i) j ∧ upd S.d S.nd (cb c i) j ≤ 57
    have hj' : j < S.nd + 1 := hj
    unfold upd
    split
    · exact hdg
    · exact h5 j (by omega)
  · show 49 ≤ upd S.d S.nd (cb c i) 0
    unfold upd
    split
    · rename_i h0
      rcases Int.lt_or_le 48 (cb c i) with h | h
      · omega
      · exact absurd ⟨by omega, h0.symm⟩ hz
    · exact h6 (by omega)

def stBegin (c : ByteArray) : ST := ⟨sgI c, Dec.nil, false, false⟩
theorem stBegin_ok (c : ByteArray) (h : 0 < c.size) : STOK c (stBegin c) :=
  ⟨sgI_le c h, Nat.zero_le _, by show -((sgI c : Nat) : Int) ≤ 0; omega, by show (0 : Int) ≤ ((sgI c : Nat) : Int); omega, fun j hj => absurd hj (Nat.not_lt_zero _), fun h => absurd h (Nat.lt_irrefl _)⟩

/-- What set makes of a text: did it take it; the decimal. -/
def stTail (c : ByteArray) (R : ST) : Bool × Dec :=
  if R.dig then
    if (exPart c R.i).1 then (decide ((exPart c R.i).2.1 = c.size), { R.S with dp := (if R.dot then R.S.dp else R.S.nd) + (exPart c R.i).2.2 })
    else (false, Dec.nil)
  else (false, Dec.nil)
def stAll (c : ByteArray) : Bool × Dec := match stGo c c.size (stBegin c) with
  | none => (false, Dec.nil)
  | some R => stTail c R
theorem stAll_ok (c : ByteArray) (h0 : 0 < c.size) (hc : c.size ≤ 700) (ht : (stAll c).1 = true) : ((stAll c).2.nd = 0 ∨ Good (stAll c).2) ∧ -110000 ≤ (stAll c).2.dp ∧ (stAll c).2.dp ≤ 110000 := by
  have h := stGo_ok c c.size _ (stBegin_ok c h0)
  unfold stAll at ht ⊢
  generalize stGo c c.size (stBegin c) = o at h ht ⊢
  cases o with
  | none => cases ht
  | some R =>
    have hR := h R rfl
    obtain ⟨x1, x2, x3⟩ := exPart_ok c R.i hR.1
    have hnd := hR.2.1
    have hi := hR.1
    have hd1 := hR.2.2.1
    have hd2 := hR.2.2.2.1
    show ((stTail c R).2.nd = 0 ∨ Good (stTail c R).2) ∧ -110000 ≤ (stTail c R).2.dp ∧ (stTail c R).2.dp ≤ 110000
    have ht : (stTail c R).1 = true := ht
    unfold stTail at ht ⊢
    split
    · split
      · refine ⟨hR.good hc _, ?_, ?_⟩
        · show (-110000 : Int) ≤ (if R.dot then R.S.dp else R.S.nd) + (exPart c R.i).2.2
          split <;> omega
        · show (if R.dot then R.S.dp else (R.S.nd : Int)) + (exPart c R.i).2.2 ≤ 110000
          split <;> omega
      · exact ⟨.inl rfl, by show (-110000 : Int) ≤ 0; decide, by show (0 : Int) ≤ 110000; decide⟩
    · exact ⟨.inl rfl, by show (-110000 : Int) ≤ 0; decide, by show (0 : Int) ≤ 110000; decide⟩
end

section
open Go.RowKit Go.Proofs.YtohadobpiclllaaGreatDoorW.PrintWords Go.Proofs.YtohadobpiclllaaGreatDoorW.PrintMore Go.Proofs.YtohadobpiclllaaGreatDoorW.PrintLast Go.Proofs.YtohadobpiclllaaGreatDoor.PFnRespScan
attribute [local go_sem] max2_int min2_int max_two min_two max_three min_three max_four min_four
set_option linter.unusedVariables false
set_option linter.unusedSimpArgs false

/-- What set leaves. -/
def SetPost (w : World) (p : Nat) (c : ByteArray) (e : Ending) (w' : World) : Prop := e = .returned (.bool (stAll c).1) ∧ ((stAll c).1 = true → DecAt w' p (sgN c) (stAll c).2) ∧ Mods (· = p) w w'

set_option maxHeartbeats 4000000 in
set_option maxRecDepth 100000 in
theorem set_calls (c : ByteArray) (hP : PlainText c) (h0 : 0 < c.size) (h7 : c.size ≤ 700) (w : World) (p : Nat) (hS : DecAt w p false Dec.nil) :
    Calls Tryz.prog 114 #[.pointer (some ⟨p, 0, none⟩), .string c] w (SetPost w p c) := by
  have hx0 := (hP.2 0 h0).1
  have HP := Aside0.mk hP
  have HS := Aside0.mk hS
  have hcg := hS.negs
  have hct := hS.trs
  have hfg := hS.free 802
  have hft := hS.free 803
  clear hP hS
  obtain ⟨x, hx⟩ : ∃ x : Int, (c[0].toNat : Int) = x := ⟨_, rfl⟩
  have hxb := cb_bound c 0
  have HX := Aside0.mk ((cb_at c 0 h0).trans hx)
  rw [HX.out] at hx0 hxb
  have h00 : (0 : Int) < (c.size : Int) := by omega
  have hce : ¬ c = ByteArray.empty := by rintro rfl; exact absurd h0 (by decide)
  have H1 := Aside0.mk ((HS.out.setNeg false).setTr false)
  have M1 := Aside0.mk (((Mods.refl (· = p) w).setCell (p := ⟨p, 802, none⟩) (.inl rfl) (.bool false)).setCell (p := ⟨p, 803, none⟩) (.inl rfl) (.bool false))
  go_enter Tryz.func114, Tryz.ntmps114
  go_upto_region 4 with fail
  obtain ⟨w1, hw1⟩ : ∃ w1, w1 = (w.setCell ⟨p, 802, none⟩ (.bool false)).setCell ⟨p, 803, none⟩ (.bool false) := ⟨_, rfl⟩
  rw [← hw1] at H1 M1 ⊢
  clear hw1 hcg hct hfg hft HS
  go_upto_block 0 with fail
  go_cut [5] from 23 to 33 (fun s5 wx => s5 = .int .i64 (sgI c) ∧ Aside0 (DecAt wx p (sgN c) Dec.nil) ∧ Aside0 (Mods (· = p) w wx))
  case first =>
    have hcg := H1.out.negs
    have hfg := H1.out.free 802
    by_cases h43 : x = 43
    · have h43' : (x == 43) = true := beq_iff_eq.mpr h43
      have HN := Aside0.mk (show sgN c = false by unfold sgN; rw [HX.out, h43]; rfl)
      have HI := Aside0.mk (show sgI c = 1 by unfold sgI; rw [HX.out, h43]; rfl)
      clear h43
      go_wp2
      go_meet
      exact ⟨by rw [HI.out]; rfl, ⟨by rw [HN.out]; exact H1.out⟩, M1⟩
    · by_cases h45 : x = 45
      · have h43' : (x == 43) = false := beq_eq_false_iff_ne.mpr h43
        have h45' : (x == 45) = true := beq_iff_eq.mpr h45
        have HN := Aside0.mk (show sgN c = true by unfold sgN; rw [HX.out, h45]; rfl)
        have HI := Aside0.mk (show sgI c = 1 by unfold sgI; rw [HX.out, h45]; rfl)
        clear h43 h45
        go_wp2
        go_meet
        exact ⟨by rw [HI.out]; rfl, ⟨by rw [HN.out]; exact H1.out.setNeg true⟩, ⟨M1.out.setCell (p := ⟨p, 802, none⟩) (.inl rfl) _⟩⟩
      · have h43' : (x == 43) = false := beq_eq_false_iff_ne.mpr h43
        have h45' : (x == 45) = false := beq_eq_false_iff_ne.mpr h45
        have HN := Aside0.mk (show sgN c = false by unfold sgN; rw [HX.out]; exact decide_eq_false h45)
        have HI := Aside0.mk (show sgI c = 0 by unfold sgI; rw [HX.out, if_neg h43, if_neg h45])
        clear h43 h45
        go_wp2
        go_meet
        exact ⟨by rw [HI.out]; rfl, ⟨by rw [HN.out]; exact H1.out⟩, M1⟩
  case rest =>
  clear H1 M1
  obtain ⟨rfl, H1, M1⟩ := hcut
  obtain ⟨w2, hw2⟩ : ∃ w2, w2 = wc := ⟨_, rfl⟩
  rw [← hw2] at H1 M1 ⊢
  clear hw2
  have hi1 : sgI c ≤ 1 := by unfold sgI; split; omega; split <;> omega
  have hi2 := sgI_le c h0
  clear hx0
  go_upto_block 1 with fail
  go_cut [5, 6, 7] from 34 to 116 (fun s5 s6 s7 wx => ∃ R : ST, s5 = .int .i64 R.i ∧ s6 = .bool R.dot ∧ s7 = .bool R.dig ∧ Aside0 (stGo c c.size (stBegin c) = some R) ∧ Aside0 (DecAt wx p (sgN c) R.S) ∧ Aside0 (Mods (· = p) w wx))
  case first =>
    go_wp2_with fail
    go_loopw [5, 6, 7] (fun v5 v6 v7 wr => ∃ (f i : Nat) (S : Dec) (dot dig : Bool), v5 = .int .i64 i ∧ v6 = .bool dot ∧ v7 = .bool dig ∧ c.size ≤ i + f ∧ Aside0 (STOK c ⟨i, S, dot, dig⟩) ∧ Aside0 (stGo c f ⟨i, S, dot, dig⟩ = stGo c c.size (stBegin c)) ∧ Aside0 (DecAt wr p (sgN c) S) ∧ Aside0 (Mods (· = p) w wr)) (fun v5 _ _ _ => c.size - (intOf v5).toNat)
    case atStart => exact ⟨c.size, sgI c, Dec.nil, false, false, rfl, rfl, rfl, by omega, ⟨stBegin_ok c h0⟩, ⟨rfl⟩, H1, M1⟩
    case round =>
      clear H1 M1
      obtain ⟨f, i, S, dot, dig, rfl, rfl, rfl, hf, HO, HR, HD, HM⟩ := hrel
      have b1 : i ≤ c.size := HO.out.1
      have b2 : S.nd ≤ i := HO.out.2.1
      have b5 : -(i : Int) ≤ S.dp := HO.out.2.2.1
      have b6 : S.dp ≤ i := HO.out.2.2.2.1
      have hcn : wr.cell? ⟨p, 800, none⟩ = some (.int .i64 S.nd) := HD.out.nds
      have hcp : wr.cell? ⟨p, 801, none⟩ = some (.int .i64 S.dp) := HD.out.dps
      have hfn := HD.out.free 800
      have hfp := HD.out.free 801
      by_cases hic : i < c.size
      · obtain ⟨g, rfl⟩ : ∃ g, f = g + 1 := ⟨f - 1, by omega⟩
        have hic' : (i : Int) < (c.size : Int) := by omega
        obtain ⟨y, hy⟩ : ∃ y : Int, (c[i].toNat : Int) = y := ⟨_, rfl⟩
        have HC := Aside0.mk ((cb_at c i hic).trans hy)
        have hR := HR.out
        rw [stGo, if_pos hic] at hR
        have hy95 := (HP.out.2 i hic).1
        have hyb := cb_bound c i
        simp only [HC.out] at hR hy95 hyb
        have hy95' : (y == 95) = false := beq_eq_false_iff_ne.mpr hy95
        by_cases h46 : y = 46
        · have h46' : (y == 46) = true := beq_iff_eq.mpr h46
          rw [if_pos h46] at hR
          cases dot
          · rw [if_neg (by decide)] at hR
            have HR2 := Aside0.mk hR
            clear hR hy95 h46
            go_wp2
            go_roundw
            case measure => simp [intOf]; omega
            case rel => exact ⟨g, i + 1, { S with dp := S.nd }, true, dig, by go_num, rfl, rfl, by omega, ⟨by show i + 1 ≤ c.size; omega, by show S.nd ≤ i + 1; omega, by show -((i + 1 : Nat) : Int) ≤ ((S.nd : Nat) : Int); omega, by show ((S.nd : Nat) : Int) ≤ ((i + 1 : Nat) : Int); omega, HO.out.2.2.2.2⟩, HR2, ⟨HD.out.setDp _⟩, ⟨HM.out.setCell (p := ⟨p, 801, none⟩) (.inl rfl) _⟩⟩
          · rw [if_pos rfl] at hR
            have HR2 := Aside0.mk (show stAll c = (false, Dec.nil) by unfold stAll; rw [← hR])
            clear hR hy95 h46
            go_wp2
            go_ret
            exact ⟨by rw [HR2.out]; rfl, fun h => (by rw [HR2.out] at h; cases h), HM.out⟩
        · have h46' : (y == 46) = false := beq_eq_false_iff_ne.mpr h46
          rw [if_neg h46] at hR
          by_cases hdg : 48 ≤ y ∧ y ≤ 57
          · rw [if_pos hdg] at hR
            obtain ⟨hd1, hd2⟩ := hdg
            by_cases hz : y = 48 ∧ S.nd = 0
            · rw [if_pos hz] at hR
              have h48' : (y == 48) = true := beq_iff_eq.mpr hz.1
              have hnd' : ((S.nd : Int) == 0) = true := beq_iff_eq.mpr (by have := hz.2; omega)
              have HR2 := Aside0.mk hR
              clear hR hy95 h46 hz
              go_wp2
              go_roundw
              case measure => simp [intOf]; omega
              case rel => exact ⟨g, i + 1, { S with dp := S.dp - 1 }, dot, true, by go_num, rfl, rfl, by omega, ⟨by show i + 1 ≤ c.size; omega, by show S.nd ≤ i + 1; omega, by show -((i + 1 : Nat) : Int) ≤ S.dp - 1; omega, by show S.dp - 1 ≤ ((i + 1 : Nat) : Int); omega, HO.out.2.2.2.2⟩, HR2, ⟨HD.out.setDp _⟩, ⟨HM.out.setCell (p := ⟨p, 801, none⟩) (.inl rfl) _⟩⟩
            · rw [if_neg hz] at hR
              have HO2 := Aside0.mk (stGo_step HO.out hic (by rw [HC.out]; exact ⟨hd1, hd2⟩) (by rw [HC.out]; exact hz))
              rw [HC.out] at HO2
              have HR2 := Aside0.mk hR
              have hn8 : (S.nd : Int) < 800 := by omega
              have hn0 : (0 : Int) ≤ (S.nd : Int) := by omega
              have hcd : wr.cell? ⟨p, S.nd, none⟩ = some (.int .u8 (S.d S.nd)) := HD.out.dig S.nd (by omega)
              have hfd := HD.out.free S.nd
              have hzz : y = 48 → S.nd = 0 → False := fun e1 e2 => hz ⟨e1, e2⟩
              by_cases h48 : y = 48
              all_goals
                first | have h48' : (y == 48) = true := beq_iff_eq.mpr h48 | have h48' : (y == 48) = false := beq_eq_false_iff_ne.mpr h48
                try have hnd' : ((S.nd : Int) == 0) = false := beq_eq_false_iff_ne.mpr (fun h => hzz h48 (by omega))
                clear hR hy95 h46 hz hzz h48
                go_wp2_with fail
                go_still_tail 11, (by kernel_rfl)
                change wpList _ _ _ _ _ wr.drew
                go_wp2_with fail
                go_roundw
                case measure => simp [intOf]; omega
                case rel =>
                  have HD2 := ((HD.out.setDig S.nd (by omega) y).setNd (S.nd + 1)).drew
                  refine ⟨g, i + 1, ⟨upd S.d S.nd y, S.nd + 1, S.dp, S.tr⟩, dot, true, by go_num, rfl, rfl, by omega, HO2, HR2, ⟨HD2⟩, ⟨((HM.out.setCell (p := ⟨p, S.nd, none⟩) (.inl rfl) _).setCell (p := ⟨p, 800, none⟩) (.inl rfl) _).drew⟩⟩
          · rw [if_neg hdg] at hR
            have HR2 := Aside0.mk hR
            have HDG := Aside0.mk hdg
            clear hR hy95 h46 hdg
            by_cases hd1 : 48 ≤ y
            · have hd2 : 57 < y := by have := HDG.out; omega
              go_wp2
              go_meet
              exact ⟨_, rfl, rfl, rfl, ⟨HR2.out.symm⟩, HD, HM⟩
            · have hd2 : y < 48 := by omega
              go_wp2
              go_meet
              exact ⟨_, rfl, rfl, rfl, ⟨HR2.out.symm⟩, HD, HM⟩
      · have hic' : decide ((i : Int) < (c.size : Int)) = false := decide_eq_false (by omega)
        have HR2 := Aside0.mk (show stGo c c.size (stBegin c) = some ⟨i, S, dot, dig⟩ by
          rw [← HR.out]
          cases f
          · rfl
          · rw [stGo, if_neg hic])
        go_wp2
        go_meet
        exact ⟨_, rfl, rfl, rfl, HR2, HD, HM⟩
  case rest =>
  clear H1 M1
  obtain ⟨⟨i, S, dot, dig⟩, rfl, rfl, rfl, HR, HD, HM⟩ := hcut
  obtain ⟨w3, hw3⟩ : ∃ w3, w3 = wc := ⟨_, rfl⟩
  rw [← hw3] at HD HM ⊢
  clear hw3
  have hO := stGo_ok c c.size _ (stBegin_ok c h0) _ HR.out
  have b1 : i ≤ c.size := hO.1
  have b2 : S.nd ≤ i := hO.2.1
  have b5 : -(i : Int) ≤ S.dp := hO.2.2.1
  have b6 : S.dp ≤ i := hO.2.2.2.1
  have HA := Aside0.mk (show stAll c = stTail c ⟨i, S, dot, dig⟩ by unfold stAll; rw [HR.out])
  have hcn : w3.cell? ⟨p, 800, none⟩ = some (.int .i64 S.nd) := HD.out.nds
  have hcp : w3.cell? ⟨p, 801, none⟩ = some (.int .i64 S.dp) := HD.out.dps
  have hfp := HD.out.free 801
  dsimp only
  clear hO hx hxb HX hi1 hi2
  cases dig
  · have HA2 := Aside0.mk (show stAll c = (false, Dec.nil) by rw [HA.out]; rfl)
    go_wp2_with fail
    go_ret
    exact ⟨by rw [HA2.out]; rfl, fun h => (by rw [HA2.out] at h; cases h), HM.out⟩
  · go_upto_if 120 with fail
    go_cut [] from 121 to 127 (fun wx => Aside0 (DecAt wx p (sgN c) { S with dp := if dot then S.dp else S.nd }) ∧ Aside0 (Mods (· = p) w wx))
    case first =>
      cases dot
      · go_wp2
        go_meet
        exact ⟨⟨HD.out.setDp _⟩, ⟨HM.out.setCell (p := ⟨p, 801, none⟩) (.inl rfl) _⟩⟩
      · go_wp2
        go_meet
        exact ⟨HD, HM⟩
    case rest =>
    clear HD HM hcn hcp hfp
    obtain ⟨HD, HM⟩ := hcut
    obtain ⟨w4, hw4⟩ : ∃ w4, w4 = wc := ⟨_, rfl⟩
    rw [← hw4] at HD HM ⊢
    clear hw4
    have HT0 : Aside0 (stTail c ⟨i, S, dot, true⟩ = if (exPart c i).1 then (decide ((exPart c i).2.1 = c.size), { S with dp := (if dot then S.dp else S.nd) + (exPart c i).2.2 }) else (false, Dec.nil)) := ⟨rfl⟩
    obtain ⟨D, hD, hD1, hD2⟩ : ∃ D : Int, (if dot then S.dp else (S.nd : Int)) = D ∧ -1000 ≤ D ∧ D ≤ 1000 := ⟨_, rfl, by split <;> omega, by split <;> omega⟩
    rw [hD] at HD HT0
    have HT := Aside0.mk (HA.out.trans HT0.out)
    have hcp : w4.cell? ⟨p, 801, none⟩ = some (.int .i64 D) := HD.out.dps
    have hfp := HD.out.free 801
    clear hD b5 b6 b2 HA HT0 HR
    by_cases hE : i < c.size ∧ bits .or .u8 (cb c i) 32 = 101
    · obtain ⟨hic, hE2⟩ := hE
      have hic' : (i : Int) < (c.size : Int) := by omega
      obtain ⟨y, hy⟩ : ∃ y : Int, (c[i].toNat : Int) = y := ⟨_, rfl⟩
      have HC := Aside0.mk ((cb_at c i hic).trans hy)
      have hE3 := hE2
      rw [HC.out] at hE2
      have hE2' : (bits .or .u8 y 32 == 101) = true := beq_iff_eq.mpr hE2
      have HE := Aside0.mk (show exPart c i = _ by unfold exPart; rw [if_pos ⟨hic, hE3⟩])
      clear hE2 hE3
      go_wp2_with fail
      refine (lower_calls _ _).mono ?_
      rintro e w1 ⟨rfl, hw1⟩
      subst hw1
      by_cases hk : c.size ≤ i + 1
      · have HE2 := Aside0.mk (show exPart c i = (false, i + 1, 0) by rw [HE.out, if_pos hk])
        have HA2 := Aside0.mk (show stAll c = (false, Dec.nil) by rw [HT.out, HE2.out]; rfl)
        have hk' : (c.size : Int) ≤ (i : Int) + 1 := by omega
        clear hk
        go_wp2_with fail
        go_ret
        exact ⟨by rw [HA2.out]; rfl, fun h => (by rw [HA2.out] at h; cases h), HM.out⟩
      · have hk' : (i : Int) + 1 < (c.size : Int) := by omega
        have hkc : i + 1 < c.size := by omega
        obtain ⟨z, hz⟩ : ∃ z : Int, (c[i + 1].toNat : Int) = z := ⟨_, rfl⟩
        have HZ := Aside0.mk ((cb_at c (i + 1) hkc).trans hz)
        have HE1 := Aside0.mk (HE.out.trans (if_neg hk))
        clear hk
        go_upto_block 4 with fail
        go_cut [5, 8] from 148 to 155 (fun s5 s8 wx => s5 = .int .i64 (exAt c (i + 1)) ∧ s8 = .int .i64 (exSg c (i + 1)) ∧ w1 = wx)
        case first =>
          by_cases h43 : z = 43
          · have h43' : (z == 43) = true := beq_iff_eq.mpr h43
            have HN := Aside0.mk (show exAt c (i + 1) = i + 1 + 1 by unfold exAt; rw [HZ.out, if_pos h43])
            have HI := Aside0.mk (show exSg c (i + 1) = 1 by unfold exSg; rw [HZ.out, h43]; rfl)
            clear h43
            go_wp2
            go_meet
            exact ⟨by rw [HN.out]; go_num, by rw [HI.out], rfl⟩
          · by_cases h45 : z = 45
            · have h43' : (z == 43) = false := beq_eq_false_iff_ne.mpr h43
              have h45' : (z == 45) = true := beq_iff_eq.mpr h45
              have HN := Aside0.mk (show exAt c (i + 1) = i + 1 + 1 by unfold exAt; rw [HZ.out, if_neg h43, if_pos h45])
              have HI := Aside0.mk (show exSg c (i + 1) = -1 by unfold exSg; rw [HZ.out, h45]; rfl)
              clear h43 h45
              go_wp2
              go_meet
              exact ⟨by rw [HN.out]; go_num, by rw [HI.out], rfl⟩
            · have h43' : (z == 43) = false := beq_eq_false_iff_ne.mpr h43
              have h45' : (z == 45) = false := beq_eq_false_iff_ne.mpr h45
              have HN := Aside0.mk (show exAt c (i + 1) = i + 1 by unfold exAt; rw [HZ.out, if_neg h43, if_neg h45])
              have HI := Aside0.mk (show exSg c (i + 1) = 1 by unfold exSg; rw [HZ.out, if_neg h45])
              clear h43 h45
              go_wp2
              go_meet
              exact ⟨by rw [HN.out]; go_num, by rw [HI.out], rfl⟩
        case rest =>
        obtain ⟨rfl, rfl, rfl⟩ := hcut
        have hj2 : exAt c (i + 1) ≤ i + 2 := by unfold exAt; split; omega; split <;> omega
        obtain ⟨sg, hsg, hsg1⟩ : ∃ sg : Int, exSg c (i + 1) = sg ∧ (sg = 1 ∨ sg = -1) := ⟨_, rfl, by unfold exSg; split; exact .inr rfl; exact .inl rfl⟩
        obtain ⟨j, hj⟩ : ∃ j, exAt c (i + 1) = j := ⟨_, rfl⟩
        have hE1 := HE1.out
        rw [hj, hsg] at hE1
        rw [hj] at hj2
        rw [hj, hsg]
        have HE1 := Aside0.mk hE1
        have HSG := Aside0.mk hsg1
        have hjs : j ≤ c.size := by omega
        clear hE1 hj hsg hsg1 hz hy hE2' hj2 hic hic' hkc hk'
        by_cases hjc : c.size ≤ j
        · have HE2 := Aside0.mk (HE1.out.trans (if_pos hjc))
          have HA2 := Aside0.mk (show stAll c = (false, Dec.nil) by rw [HT.out, HE2.out]; rfl)
          have hjc' : (c.size : Int) ≤ (j : Int) := by omega
          clear hjc
          go_wp2_with fail
          go_ret
          exact ⟨by rw [HA2.out]; rfl, fun h => (by rw [HA2.out] at h; cases h), HM.out⟩
        · have hjc' : (j : Int) < (c.size : Int) := by omega
          have hjcn : j < c.size := by omega
          obtain ⟨u, hu⟩ : ∃ u : Int, (c[j].toNat : Int) = u := ⟨_, rfl⟩
          have HU := Aside0.mk ((cb_at c j hjcn).trans hu)
          have hE1 := HE1.out.trans (if_neg hjc)
          rw [HU.out] at hE1
          by_cases hud : u < 48 ∨ 57 < u
          · have HE2 := Aside0.mk (hE1.trans (if_pos hud))
            have HA2 := Aside0.mk (show stAll c = (false, Dec.nil) by rw [HT.out, HE2.out]; rfl)
            clear hE1 hjc
            by_cases hu1 : u < 48
            · clear hud
              go_wp2_with fail
              go_ret
              exact ⟨by rw [HA2.out]; rfl, fun h => (by rw [HA2.out] at h; cases h), HM.out⟩
            · have hu2 : 57 < u := hud.resolve_left hu1
              clear hud
              go_wp2_with fail
              go_ret
              exact ⟨by rw [HA2.out]; rfl, fun h => (by rw [HA2.out] at h; cases h), HM.out⟩
          · have HE2 := Aside0.mk (hE1.trans (if_neg hud))
            have hu1 : 48 ≤ u := by omega
            have hu2 : u ≤ 57 := by omega
            clear hE1 hjc hud
            go_upto_block 5 with fail
            go_cut [5, 9] from 156 to 209 (fun s5 s9 wx => s5 = .int .i64 (exGo c c.size j 0).1 ∧ s9 = .int .i64 (exGo c c.size j 0).2 ∧ w1 = wx)
            case first =>
              clear hu1 hu2 hu HU hjcn hjc'
              go_wp2_with fail
              go_loopw [5, 9] (fun v5 v9 wr => ∃ (f k : Nat) (e : Int), v5 = .int .i64 k ∧ v9 = .int .i64 e ∧ k ≤ c.size ∧ c.size ≤ k + f ∧ 0 ≤ e ∧ e ≤ 100000 ∧ Aside0 (exGo c f k e = exGo c c.size j 0) ∧ w1 = wr) (fun v5 _ _ => c.size - (intOf v5).toNat)
              case atStart => exact ⟨c.size, j, 0, rfl, rfl, hjs, by omega, by omega, by omega, ⟨rfl⟩, rfl⟩
              case round =>
                obtain ⟨f, k, e, rfl, rfl, hk, hf, he0, he1, HX, rfl⟩ := hrel
                by_cases hkc : k < c.size
                · obtain ⟨g, rfl⟩ : ∃ g, f = g + 1 := ⟨f - 1, by omega⟩
                  have hkc' : (k : Int) < (c.size : Int) := by omega
                  obtain ⟨u, hu⟩ : ∃ u : Int, (c[k].toNat : Int) = u := ⟨_, rfl⟩
                  have HU := Aside0.mk ((cb_at c k hkc).trans hu)
                  have hX := HX.out
                  rw [exGo, if_pos hkc] at hX
                  have hu95 := (HP.out.2 k hkc).1
                  have hub := cb_bound c k
                  simp only [HU.out] at hX hu95 hub
                  have hu95' : (u == 95) = false := beq_eq_false_iff_ne.mpr hu95
                  by_cases hdg : 48 ≤ u ∧ u ≤ 57
                  · rw [if_pos hdg] at hX
                    obtain ⟨hu1, hu2⟩ := hdg
                    by_cases h10 : e < 10000
                    · rw [if_pos h10] at hX
                      have HX2 := Aside0.mk hX
                      clear hX hu95
                      go_wp2
                      go_roundw
                      case measure => simp [intOf]; omega
                      case rel => exact ⟨g, k + 1, e * 10 + (u - 48), by go_num, by go_num, by omega, by omega, by omega, by omega, HX2, trivial⟩
                    · rw [if_neg h10] at hX
                      have HX2 := Aside0.mk hX
                      clear hX hu95
                      go_wp2
                      go_roundw
                      case measure => simp [intOf]; omega
                      case rel => exact ⟨g, k + 1, e, by go_num, rfl, by omega, by omega, by omega, by omega, HX2, trivial⟩
                  · rw [if_neg hdg] at hX
                    have HX2 := Aside0.mk hX
                    have HDG := Aside0.mk hdg
                    clear hX hu95 hdg
                    by_cases hd1 : 48 ≤ u
                    · have hd2 : 57 < u := by have := HDG.out; omega
                      go_wp2
                      go_meet
                      rw [← HX2.out]
                      exact ⟨rfl, rfl, rfl⟩
                    · have hd2 : u < 48 := by omega
                      go_wp2
                      go_meet
                      rw [← HX2.out]
                      exact ⟨rfl, rfl, rfl⟩
                · have hkc' : decide ((k : Int) < (c.size : Int)) = false := decide_eq_false (by omega)
                  have HX2 := Aside0.mk (show exGo c c.size j 0 = (k, e) by
                    rw [← HX.out]
                    cases f
                    · rfl
                    · rw [exGo, if_neg hkc])
                  go_wp2
                  go_meet
                  rw [HX2.out]
                  exact ⟨rfl, rfl, rfl⟩
            case rest =>
            obtain ⟨rfl, rfl, rfl⟩ := hcut
            have hB := exGo_ok c c.size j 0 hjs (by decide) (by decide)
            obtain ⟨⟨k, e⟩, hX⟩ : ∃ X, exGo c c.size j 0 = X := ⟨_, rfl⟩
            have hE2 := HE2.out
            rw [hX] at hB hE2 ⊢
            obtain ⟨hb1, hb2, hb3⟩ := hB
            dsimp only at hb1 hb2 hb3 hE2 ⊢
            obtain ⟨E, hEE, hE0, hE1⟩ : ∃ E : Int, e * sg = E ∧ -100000 ≤ E ∧ E ≤ 100000 := ⟨_, rfl, by rcases HSG.out with h | h <;> rw [h] <;> omega, by rcases HSG.out with h | h <;> rw [h] <;> omega⟩
            rw [hEE] at hE2
            have HE2 := Aside0.mk hE2
            clear hE2 hX
            by_cases hm : k = c.size
            · have hm' : ((k : Int) != (c.size : Int)) = false := bne_eq_false_iff_eq.mpr (by omega)
              have HA2 := Aside0.mk (show stAll c = (true, { S with dp := D + E }) by rw [HT.out, HE2.out, if_pos rfl, hm, decide_eq_true rfl])
              clear hm
              go_wp2_with fail
              go_ret
              exact ⟨by rw [HA2.out]; rfl, fun _ => (by rw [HA2.out]; exact HD.out.setDp _), HM.out.setCell (p := ⟨p, 801, none⟩) (.inl rfl) _⟩
            · have hm' : ((k : Int) != (c.size : Int)) = true := bne_iff_ne.mpr (by omega)
              have HA2 := Aside0.mk (show stAll c = (false, { S with dp := D + E }) by rw [HT.out, HE2.out, if_pos rfl, decide_eq_false hm])
              clear hm
              go_wp2_with fail
              go_ret
              exact ⟨by rw [HA2.out]; rfl, fun h => (by rw [HA2.out] at h; cases h), HM.out.setCell (p := ⟨p, 801, none⟩) (.inl rfl) _⟩
    · have HE2 := Aside0.mk (show exPart c i = (true, i, 0) by unfold exPart; rw [if_neg hE])
      by_cases hic : i < c.size
      · have hic' : (i : Int) < (c.size : Int) := by omega
        obtain ⟨y, hy⟩ : ∃ y : Int, (c[i].toNat : Int) = y := ⟨_, rfl⟩
        have hE2' : (bits .or .u8 y 32 == 101) = false := beq_eq_false_iff_ne.mpr (fun h => hE ⟨hic, by rw [cb_at c i hic, hy]; exact h⟩)
        have HA2 := Aside0.mk (show stAll c = (false, { S with dp := D + 0 }) by rw [HT.out, HE2.out, if_pos rfl, decide_eq_false (show ¬ i = c.size by omega)])
        have hm' : ((i : Int) != (c.size : Int)) = true := bne_iff_ne.mpr (by omega)
        clear hE
        go_wp2_with fail
        refine (lower_calls _ _).mono ?_
        rintro e w1 ⟨rfl, hw1⟩
        subst hw1
        go_wp2_with fail
        go_ret
        exact ⟨by rw [HA2.out]; rfl, fun h => (by rw [HA2.out] at h; cases h), HM.out⟩
      · have hic' : decide ((i : Int) < (c.size : Int)) = false := decide_eq_false (by omega)
        have hm' : ((i : Int) != (c.size : Int)) = false := bne_eq_false_iff_eq.mpr (by omega)
        have HA2 := Aside0.mk (show stAll c = (true, { S with dp := D }) by rw [HT.out, HE2.out, if_pos rfl, decide_eq_true (show i = c.size by omega), Int.add_zero])
        clear hE
        go_wp2_with fail
        go_ret
        exact ⟨by rw [HA2.out]; rfl, fun _ => (by rw [HA2.out]; exact HD.out), HM.out⟩
end
end Go.Proofs.YtohadobpiclllaaGreatDoor
