/- The long decimals of ParseFloat: floatBits, the scaling way, minus sign. -/
import Derived.Test.YtohadobpiclllaaGreatDoorMf
import Derived.Test.YtohadobpiclllaaGreatDoorMh
namespace Go.Proofs.YtohadobpiclllaaGreatDoor
section
open Go.RowKit Go.Proofs.YtohadobpiclllaaGreatDoorW.PrintWords Go.Proofs.YtohadobpiclllaaGreatDoorW.PrintMore Go.Proofs.YtohadobpiclllaaGreatDoorW.PrintLast Go.Proofs.YtohadobpiclllaaGreatDoor.PFnRespScan
attribute [local go_sem] max2_int min2_int max_two min_two max_three min_three max_four min_four
set_option linter.unusedVariables false
set_option linter.unusedSimpArgs false

set_option maxHeartbeats 8000000 in
set_option maxRecDepth 100000 in
theorem fb32_main_true (S : Dec) (hG : Good S) (hdp0 : -330 ≤ S.dp) (hdp1 : S.dp ≤ 310) : ∃ (B : Int) (ovf : Bool), ∀ (w : World) (p pt tb : Nat) (hS : DecAt w p true S) (hF : FInfo w 3 23 8 (-127)) (hP : PowT w pt) (hC : Cheats w tb) (hp5 : p ≠ 3) (hp7 : p ≠ 7) (hpt : p ≠ pt) (hp12 : p ≠ 12) (hptb : p ≠ tb), Calls Tryz.prog 115 #[.pointer (some ⟨p, 0, none⟩), .pointer (some ⟨3, 0, none⟩)] w (FbPost w p B ovf) := by
  have hm1 : m1 S ≤ 4969 := by
    have := hG.1.2 0 (by have := hG.2.1; omega)
    unfold m1; omega
  obtain ⟨X, hX⟩ : ∃ X, X = fl1 4969 S 0 := ⟨_, rfl⟩
  obtain ⟨x1, x2, x3, x4⟩ := fl1_spec 4969 S 0 hG hm1
  rw [← hX] at x1 x2 x3 x4
  have x3 := x3 hdp0
  have hm2 : m2 X.1 ≤ 5320 := by
    have := x1.2.2
    unfold m2; omega
  obtain ⟨Y, hY⟩ : ∃ Y, Y = fl2 5320 X.1 0 := ⟨_, rfl⟩
  obtain ⟨y1, y2, y3, y4⟩ := fl2_spec 5320 X.1 0 x1 hm2 (by omega)
  rw [← hY] at y1 y2 y3 y4
  obtain ⟨E, hE⟩ : ∃ E : Int, E = (X.2 : Int) - Y.2 - 1 := ⟨_, rfl⟩
  have hE0 : -144000 ≤ E := by omega
  have hE1 : E ≤ 150000 := by omega
  obtain ⟨Z, hZ⟩ : ∃ Z, Z = down (-126) Y.1 E := ⟨_, rfl⟩
  have hz : Good Z.1 ∧ -60000 ≤ Z.1.dp ∧ Z.1.dp ≤ 30 ∧ -126 ≤ Z.2 ∧ Z.2 ≤ 150000 := by
    rw [hZ]
    unfold down
    by_cases hlo : E < -126
    · rw [if_pos hlo]
      obtain ⟨i1, i2, i3⟩ := shiftR_good 2400 (-126 - E).toNat Y.1 y1 (by omega)
      exact ⟨i1, by show _ ≤ (shiftR _ _ _).dp; omega, by show (shiftR _ _ _).dp ≤ _; omega, Int.le_refl _, by show (-126 : Int) ≤ _; omega⟩
    · rw [if_neg hlo]
      exact ⟨y1, by show _ ≤ Y.1.dp; omega, by show Y.1.dp ≤ _; omega, by show -126 ≤ E; omega, by show E ≤ _; omega⟩
  obtain ⟨z1, z2, z3, z4, z5⟩ := hz
  obtain ⟨E3, hE3⟩ : ∃ E3 : Int, Z.2 = E3 := ⟨_, rfl⟩
  rw [hE3] at z4 z5
  have hsh := lshift_spec (k := 24) z1 (by omega) (by omega)
  obtain ⟨m, hm, hri⟩ := rint_any (lshift 24 Z.1) hsh.2.1.1
  have HX := Aside0.mk hX
  have HY := Aside0.mk hY
  have HE := Aside0.mk hE
  have HZ := Aside0.mk hZ
  have HE3 := Aside0.mk hE3
  have HRI := Aside0.mk hri
  have HXG := Aside0.mk x1
  have HYG := Aside0.mk y1
  have HZG := Aside0.mk z1
  have HXB := Aside0.mk (And.intro x2 (And.intro x3 x4))
  have HYB := Aside0.mk (And.intro y2 (And.intro y3 y4))
  have HZB := Aside0.mk (And.intro z2 z3)
  have HEB := Aside0.mk (And.intro hE0 hE1)
  have HM1 := Aside0.mk hm1
  have HM2 := Aside0.mk hm2
  have HG := Aside0.mk hG
  have HDP := Aside0.mk (And.intro hdp0 hdp1)
  have HSH := Aside0.mk hsh
  have h1' : ((S.nd : Int) == 0) = false := beq_eq_false_iff_ne.mpr (by have := hG.2.1; omega)
  have h2' : decide ((310 : Int) < S.dp) = false := decide_eq_false (by omega)
  have h2'' : decide (S.dp < -330) = false := decide_eq_false (by omega)
  clear hX hY hE hZ hE3 hri x1 y1 z1 x2 x3 x4 y2 y3 y4 z2 z3 hE0 hE1 hm1 hm2 hG hdp0 hdp1 hsh
  apply ex_if4 (c1 := 255 ≤ E3 + 127) (c2 := m = 16777216) (c3 := 255 ≤ E3 + 1 + 127) (c4 := (bits .and .u64 (m : Int) 8388608 == 0) = true)
  intro B HB
  obtain ⟨O, hO⟩ : ∃ O, (if 255 ≤ E3 + 127 then true else if m = 16777216 then (if 255 ≤ E3 + 1 + 127 then true else false) else false) = O := ⟨_, rfl⟩
  have HO := Aside0.mk hO
  refine ⟨O, ?_⟩
  clear hO
  · intro w p pt tb hS hF hP hC hp5 hp7 hpt hp12 hptb
    have hcn : w.cell? ⟨p, 800, none⟩ = some (.int .i64 S.nd) := hS.nds
    have hcp := hS.dps
    have HS := Aside0.mk hS
    have HF := Aside0.mk hF
    have HP := Aside0.mk hP
    have HC := Aside0.mk hC
    clear hS hF hP hC
    go_enter Tryz.func115, Tryz.ntmps115
    go_wp2_with fail
    refine wp_scope_two rfl rfl ?_
    go_upto_block 0 with fail
    go_cut [6, 8] from 35 to 60 (fun v6 v8 wx => v6 = .int .i64 (X.2 : Nat) ∧ Aside0 (DecAt wx p true X.1) ∧ Aside0 (Mods (· = p) w wx))
    case first =>
      go_wp2_with fail
      obtain ⟨wo, hwo⟩ : ∃ wo : World, wo = w := ⟨_, rfl⟩
      have HW0 := Aside0.mk (show Mods (· = p) w wo by rw [hwo]; exact Mods.refl _ _)
      have HS0 := Aside0.mk (show DecAt wo p true S by rw [hwo]; exact HS.out)
      rw [← hwo]
      clear hcn hcp hwo
      go_loopg [6, 8] 4969 (fun f v6 v8 wr => ∃ (T : Dec) (e : Nat), v6 = .int .i64 e ∧ e + 27 * f ≤ 134163 ∧ f ≤ 4969 ∧ Aside0 (DecAt wr p true T) ∧ Aside0 (Good T) ∧ Aside0 (m1 T ≤ f) ∧ Aside0 (T.dp ≤ 310 ∧ -330 ≤ T.dp) ∧ Aside0 (fl1 f T e = X) ∧ Aside0 (Mods (· = p) w wr))
      case atStart => exact ⟨S, 0, rfl, by omega, by omega, HS0, HG, HM1, ⟨HDP.out.2, HDP.out.1⟩, ⟨HX.out.symm⟩, HW0⟩
      case round =>
        clear HS0 HW0
        obtain ⟨T, e, rfl, he, hf, HT, HTG, HMT, HTD, HL, HM⟩ := hrel
        have hcp : wr.cell? ⟨p, 801, none⟩ = some (.int .i64 T.dp) := HT.out.dps
        by_cases hp : 0 < T.dp
        · obtain ⟨f, rfl⟩ : ∃ f, gk = f + 1 := ⟨gk - 1, by have := m1_pos hp; have := HMT.out; omega⟩
          obtain ⟨k, hk⟩ : ∃ k : Nat, T.dp = k := ⟨T.dp.toNat, by omega⟩
          have hkt : T.dp.toNat = k := by omega
          have hL := HL.out
          rw [fl1_next hp, hkt] at hL
          obtain ⟨n1, n2, n3, n4⟩ := m1_next HTG.out hp
          rw [hkt] at n1 n2 n3 n4
          have hb := powv_bound k
          have hsr : shiftR 1 (powv k) T = rsh (powv k) T := by rw [shiftR, if_pos (by omega)]
          have H : Aside0 (∀ n1, Calls Tryz.prog 140 #[.pointer (some ⟨p, 0, none⟩), .int .i64 (-(powv k : Int))] (wr.drewN n1) (DecPost (wr.drewN n1) p true (rsh (powv k) T))) := ⟨fun n1 => by
            rw [← hsr]
            exact shiftR_calls _ p true T 1 (powv k) (HT.out.drewN _) HTG.out hb.1 (by omega) (by omega) (by have := HTD.out; omega) (by have := HTD.out; omega)⟩
          have HN := Aside0.mk (And.intro n1 (And.intro n2 (And.intro n3 n4)))
          have HL2 := Aside0.mk hL
          have hk1 : 0 < k := by omega
          have HP2 := Aside0.mk (HP.out.mods HM.out (fun h => hp7 h.symm) (fun h => hpt h.symm))
          obtain ⟨po, hp0, hpcs⟩ := HP2.out
          have HPC := Aside0.mk hpcs
          clear hpcs
          have HKD := Aside0.mk hk
          rw [hk] at hcp
          have hk310 : k ≤ 310 := by have := HTD.out; omega
          clear hL n1 n2 n3 n4 hsr hp hkt hk HL
          by_cases h9 : 9 ≤ k
          · have h9i : (9 : Int) ≤ (k : Int) := by omega
            have hpv := powv_big h9
            rw [hpv] at H HN HL2
            have H1 : ∀ n, Calls Tryz.prog 140 #[.pointer (some ⟨p, 0, none⟩), .int .i64 (-27)] (wr.drewN n) (DecPost (wr.drewN n) p true (rsh 27 T)) := fun n => H.out n
            go_wp2_with fail
            go_quiet (fail)
            go_wp2_with fail
            refine (H1 _).mono ?_
            rintro ed w5 ⟨rfl, hA, hM⟩
            have HA := Aside0.mk hA
            have HM5 := Aside0.mk ((HM.out.drewN _).trans hM (fun _ _ h => h))
            clear hA hM
            go_wp2
            go_roundg f
            case measure => omega
            case rel => exact ⟨rsh 27 T, e + 27, by go_num, by omega, by omega, HA, ⟨HN.out.1⟩, ⟨by have := HN.out.2.2.2; have := HMT.out; omega⟩, ⟨by have := HN.out.2.2.1; have := HTD.out; omega, by have := HN.out.2.1; have := HKD.out; omega⟩, HL2, HM5⟩
          · have h9n : k < 9 := by omega
            have h9i : decide ((9 : Int) ≤ (k : Int)) = false := decide_eq_false (by omega)
            have hpc := HPC.out k h9n
            have hki : (k : Int) < 9 := by omega
            have hk0 : (0 : Int) ≤ (k : Int) := by omega
            obtain ⟨q, hq⟩ : ∃ q, powv k = q := ⟨_, rfl⟩
            rw [hq] at H HN HL2 hpc hb
            clear h9
            go_wp2_with fail
            go_quiet (fail)
            go_wp2_with fail
            go_quiet (fail)
            go_wp2_with fail
            refine (H.out _).mono ?_
            rintro ed w5 ⟨rfl, hA, hM⟩
            have HA := Aside0.mk hA
            have HM5 := Aside0.mk ((HM.out.drewN _).trans hM (fun _ _ h => h))
            clear hA hM
            go_wp2
            go_roundg f
            case measure => omega
            case rel => exact ⟨rsh q T, e + q, by go_num, by omega, by omega, HA, ⟨HN.out.1⟩, ⟨by have := HN.out.2.2.2; have := HMT.out; omega⟩, ⟨by have := HN.out.2.2.1; have := HTD.out; omega, by have := HN.out.2.1; have := HKD.out; omega⟩, HL2, HM5⟩
        · have hp' : decide (0 < T.dp) = false := decide_eq_false hp
          have hL := HL.out
          rw [fl1_end _ _ _ (by omega)] at hL
          have HL2 := Aside0.mk hL
          clear hL HL hp
          go_wp2_with fail
          go_meet
          exact ⟨by rw [← HL2.out], by rw [← HL2.out]; exact HT, HM⟩
    case rest =>
      obtain ⟨rfl, HXA, HXM⟩ := hcut
      obtain ⟨e1, he1⟩ : ∃ e1, X.2 = e1 := ⟨_, rfl⟩
      have he1b : e1 ≤ 134163 := by have := HXB.out.2.2; omega
      have HE1 := Aside0.mk he1
      rw [he1]
      clear he1
      go_upto_block 2 with fail
      go_cut [6, 9] from 61 to 102 (fun v6 v9 wx => v6 = .int .i64 (E + 1) ∧ Aside0 (DecAt wx p true Y.1) ∧ Aside0 (Mods (· = p) w wx))
      case first =>
        go_wp2_with fail
        go_loopg [6, 9] 5320 (fun f v6 v9 wr => ∃ (T : Dec) (e : Nat), v6 = .int .i64 ((e1 : Int) - e) ∧ e + 27 * f ≤ 143640 ∧ f ≤ 5320 ∧ Aside0 (DecAt wr p true T) ∧ Aside0 (Good T) ∧ Aside0 (m2 T ≤ f) ∧ Aside0 (T.dp ≤ 30 ∧ -330 ≤ T.dp) ∧ Aside0 (fl2 f T e = Y) ∧ Aside0 (Mods (· = p) w wr))
        case atStart => exact ⟨X.1, 0, by go_num, by omega, by omega, HXA, HXG, HM2, ⟨by have := HXB.out.1; omega, HXB.out.2.1⟩, ⟨HY.out.symm⟩, HXM⟩
        case round =>
          clear HXA HXM
          obtain ⟨T, e, rfl, he, hf, HT, HTG, HMT, HTD, HL, HM⟩ := hrel
          have hcp : wr.cell? ⟨p, 801, none⟩ = some (.int .i64 T.dp) := HT.out.dps
          have hcd : wr.cell? ⟨p, 0, none⟩ = some (.int .u8 (T.d 0)) := HT.out.dig 0 (by omega)
          by_cases hp : more2 T
          · obtain ⟨f, rfl⟩ : ∃ f, gk = f + 1 := ⟨gk - 1, by have := m2_pos hp; have := HMT.out; omega⟩
            have hdp0 : T.dp ≤ 0 := by rcases hp with h | h <;> omega
            obtain ⟨k, hk⟩ : ∃ k : Nat, T.dp = -(k : Int) := ⟨(-T.dp).toNat, by omega⟩
            have hkt : (-T.dp).toNat = k := by omega
            have hL := HL.out
            rw [fl2_next hp, hkt] at hL
            obtain ⟨n1, n2, n3, n4⟩ := m2_next HTG.out hp
            rw [hkt] at n1 n2 n3 n4
            have hb := powv_bound k
            have H : Aside0 (∀ n1, Calls Tryz.prog 140 #[.pointer (some ⟨p, 0, none⟩), .int .i64 (powv k : Nat)] (wr.drewN n1) (DecPost (wr.drewN n1) p true (lshift (powv k) T))) := ⟨fun n1 =>
              shiftL_calls _ p tb true T (powv k) (HT.out.drewN _) HTG.out (HC.out.mods (HM.out.drewN n1) (fun h => hp12 h.symm) (fun h => hptb h.symm)) hp12 hptb hb.1 (by omega) (by have := HTD.out; omega) (by have := HTD.out; omega)⟩
            have HN := Aside0.mk (And.intro n1 (And.intro n2 (And.intro n3 n4)))
            have HL2 := Aside0.mk hL
            have HP2 := Aside0.mk (HP.out.mods HM.out (fun h => hp7 h.symm) (fun h => hpt h.symm))
            obtain ⟨po, hp0, hpcs⟩ := HP2.out
            have HPC := Aside0.mk hpcs
            clear hpcs
            have HKD := Aside0.mk hk
            have HMO := Aside0.mk hp
            rw [hk] at hcp
            have hk310 : k ≤ 330 := by have := HTD.out; omega
            clear hL n1 n2 n3 n4 hp hkt hk HL hdp0
            by_cases h9 : 9 ≤ k
            · have h9i : (9 : Int) ≤ (k : Int) := by omega
              have hneg : -(k : Int) < 0 := by omega
              have hpv := powv_big h9
              rw [hpv] at H HN HL2
              have H1 : ∀ n, Calls Tryz.prog 140 #[.pointer (some ⟨p, 0, none⟩), .int .i64 27] (wr.drewN n) (DecPost (wr.drewN n) p true (lshift 27 T)) := fun n => H.out n
              go_wp2_with fail
              go_quiet (fail)
              go_wp2_with fail
              refine (H1 _).mono ?_
              rintro ed w5 ⟨rfl, hA, hM⟩
              have HA := Aside0.mk hA
              have HM5 := Aside0.mk ((HM.out.drewN _).trans hM (fun _ _ h => h))
              clear hA hM
              go_wp2
              go_roundg f
              case measure => omega
              case rel => exact ⟨lshift 27 T, e + 27, by go_num, by omega, by omega, HA, ⟨HN.out.1⟩, ⟨by have := HN.out.2.2.2; have := HMT.out; omega⟩, ⟨by have := HN.out.2.2.1; have := HKD.out; omega, by have := HN.out.2.1; have := HTD.out; omega⟩, HL2, HM5⟩
            · have h9n : k < 9 := by omega
              have h9i : decide ((9 : Int) ≤ (k : Int)) = false := decide_eq_false (by omega)
              have hpc := HPC.out k h9n
              have hki : (k : Int) < 9 := by omega
              have hk0 : (0 : Int) ≤ (k : Int) := by omega
              obtain ⟨q, hq⟩ : ∃ q, powv k = q := ⟨_, rfl⟩
              rw [hq] at H HN HL2 hpc hb
              clear h9
              by_cases hkz : k = 0
              · subst hkz
                replace hpc : wr.cell? ⟨pt, po, none⟩ = some (.int .i64 (q : Nat)) := hpc
                have hcd5 : T.d 0 < 53 := by
                  have h1 := HMO.out
                  have h2 := HKD.out
                  rcases h1 with h | h <;> omega
                go_wp2_with fail
                go_quiet (fail)
                go_wp2_with fail
                go_quiet (fail)
                go_wp2_with fail
                refine (H.out _).mono ?_
                rintro ed w5 ⟨rfl, hA, hM⟩
                have HA := Aside0.mk hA
                have HM5 := Aside0.mk ((HM.out.drewN _).trans hM (fun _ _ h => h))
                clear hA hM
                go_wp2
                go_roundg f
                case measure => omega
                case rel => exact ⟨lshift q T, e + q, by go_num, by omega, by omega, HA, ⟨HN.out.1⟩, ⟨by have := HN.out.2.2.2; have := HMT.out; omega⟩, ⟨by have := HN.out.2.2.1; have := HKD.out; omega, by have := HN.out.2.1; have := HTD.out; omega⟩, HL2, HM5⟩
              · have hneg : -(k : Int) < 0 := by omega
                go_wp2_with fail
                go_quiet (fail)
                go_wp2_with fail
                go_quiet (fail)
                go_wp2_with fail
                refine (H.out _).mono ?_
                rintro ed w5 ⟨rfl, hA, hM⟩
                have HA := Aside0.mk hA
                have HM5 := Aside0.mk ((HM.out.drewN _).trans hM (fun _ _ h => h))
                clear hA hM
                go_wp2
                go_roundg f
                case measure => omega
                case rel => exact ⟨lshift q T, e + q, by go_num, by omega, by omega, HA, ⟨HN.out.1⟩, ⟨by have := HN.out.2.2.2; have := HMT.out; omega⟩, ⟨by have := HN.out.2.2.1; have := HKD.out; omega, by have := HN.out.2.1; have := HTD.out; omega⟩, HL2, HM5⟩
          · have hL := HL.out
            rw [fl2_end _ _ _ hp] at hL
            have HL2 := Aside0.mk hL
            have hn : ¬ T.dp < 0 := fun h => hp (.inl h)
            have hn' : decide (T.dp < 0) = false := decide_eq_false hn
            by_cases hz : T.dp = 0
            · have hd5 : decide (T.d 0 < 53) = false := decide_eq_false (fun h => hp (.inr ⟨hz, h⟩))
              rw [hz] at hcp
              clear hL HL hp hn hn' hz
              go_wp2_with fail
              go_meet
              exact ⟨congrArg (fun z => Value.int .i64 z) (by have h1 := HE.out; rw [← HL2.out] at h1; have h2 := HE1.out; show (e1 : Int) - e = E + 1; have h3 : E = (X.2 : Int) - e - 1 := h1; omega), by rw [← HL2.out]; exact HT, HM⟩
            · have hz' : (T.dp == 0) = false := beq_eq_false_iff_ne.mpr hz
              clear hL HL hp hn hz
              go_wp2_with fail
              go_meet
              exact ⟨congrArg (fun z => Value.int .i64 z) (by have h1 := HE.out; rw [← HL2.out] at h1; have h2 := HE1.out; show (e1 : Int) - e = E + 1; have h3 : E = (X.2 : Int) - e - 1 := h1; omega), by rw [← HL2.out]; exact HT, HM⟩
      case rest =>
        obtain ⟨rfl, HYA, HYM⟩ := hcut
        obtain ⟨hE0, hE1⟩ := HEB.out
        obtain ⟨hf0, hf1, hf2⟩ := HF.out.mods HYM.out (fun h => hp5 h.symm)
        by_cases hlo : E < -126
        rotate_left
        · have hlo' : decide (E < -126) = false := decide_eq_false hlo
          have hZ := HZ.out
          unfold down at hZ
          rw [if_neg hlo] at hZ
          have HZA := Aside0.mk (show DecAt wc p true Z.1 by rw [hZ]; exact HYA.out)
          have HZM := Aside0.mk HYM.out
          have hEE : E = E3 := by rw [← HE3.out, hZ]
          obtain ⟨w5, hw5⟩ : ∃ w5, wc = w5 := ⟨_, rfl⟩
          rw [hw5] at HZA HZM hf0 hf1 hf2 ⊢
          clear hZ hlo hw5
          have hcg := HZA.out.negs
          by_cases c1 : 255 ≤ E3 + 127
          · have MD := HZM.out
            go_wp2_with fail
            go_quiet (fail)
            go_wp2_with fail
            refine wp_goto ?_
            change Behind1 _ _ _ _ _ _
            unfold Behind1
            go_wp2_with fail
            go_quiet (fail)
            go_wp2_with fail
            go_step3
            go_wp2_with fail
            go_quiet (fail)
            go_wp2_with fail
            try go_quiet (fail)
            go_wp2_with fail
            go_ret2
            refine ⟨?_, by first | exact HZM.out.drewN _ | exact MD.drewN _ | exact (MD.drewN _).drewN _ | exact ((MD.drewN _).drewN _).drewN _⟩
            have hB := HB.out
            have hO := HO.out
            replace hB := Eq.trans (Eq.symm (if_pos c1)) hB; replace hO := Eq.trans (Eq.symm (if_pos c1)) hO
            rw [← hB, ← hO]
            first | done | rfl
          · have c1' : decide (255 ≤ E3 + 127) = false := decide_eq_false c1
            have HC1 : Aside0 (¬ 255 ≤ E3 + 127) := ⟨by omega⟩
            have HSL := Aside0.mk (fun n1 => shiftL_calls (w5.drewN n1) p tb true Z.1 24 (HZA.out.drewN _) HZG.out (HC.out.mods (HZM.out.drewN n1) (fun h => hp12 h.symm) (fun h => hptb h.symm)) hp12 hptb (by omega) (by omega) (by have := HZB.out; omega) (by have := HZB.out; omega))
            clear c1
            go_wp2_with fail
            go_quiet (fail)
            go_wp2_with fail
            refine (HSL.out _).mono ?_
            rintro ed w6 ⟨rfl, hA, hM⟩
            have H6A := Aside0.mk hA
            have H6M := Aside0.mk ((HZM.out.drewN _).trans hM (fun _ _ h => h))
            clear hA hM hf0 hf1 hf2 HSL hcg
            obtain ⟨hf0, hf1, hf2⟩ := HF.out.mods H6M.out (fun h => hp5 h.symm)
            have hcg := H6A.out.negs
            go_wp2_with fail
            refine (HRI.out w6 p true H6A.out).mono ?_
            rintro ed w7 ⟨rfl, rfl⟩
            have MD := H6M.out
            by_cases c2 : m = 16777216
            · have HC2 := Aside0.mk c2
              have c2i : (m : Int) = 16777216 := by omega
              clear c2
              by_cases c3 : 255 ≤ E3 + 1 + 127
              · go_wp2_with fail
                go_quiet (fail)
                go_wp2_with fail
                refine wp_goto ?_
                change Behind1 _ _ _ _ _ _
                unfold Behind1
                go_wp2_with fail
                go_quiet (fail)
                go_wp2_with fail
                go_step3
                go_wp2_with fail
                go_quiet (fail)
                go_wp2_with fail
                try go_quiet (fail)
                go_wp2_with fail
                go_ret2
                refine ⟨?_, by first | exact HZM.out.drewN _ | exact MD.drewN _ | exact (MD.drewN _).drewN _ | exact ((MD.drewN _).drewN _).drewN _⟩
                have hB := HB.out
                have hO := HO.out
                replace hB := Eq.trans (Eq.symm (if_neg (show ¬ 255 ≤ E3 + 127 by have := HC1.out; omega))) hB; replace hO := Eq.trans (Eq.symm (if_neg (show ¬ 255 ≤ E3 + 127 by have := HC1.out; omega))) hO; replace hB := Eq.trans (Eq.symm (if_pos (show m = 16777216 by have := HC2.out; omega))) hB; replace hO := Eq.trans (Eq.symm (if_pos (show m = 16777216 by have := HC2.out; omega))) hO; replace hB := Eq.trans (Eq.symm (if_pos (show 255 ≤ E3 + 1 + 127 by omega))) hB; replace hO := Eq.trans (Eq.symm (if_pos (show 255 ≤ E3 + 1 + 127 by omega))) hO
                rw [← hB, ← hO]
                first | done | rfl
              · have c3' : decide (255 ≤ E3 + 1 + 127) = false := decide_eq_false c3
                have hbb : bits .and .u64 8388608 8388608 = 8388608 := by decide
                go_wp2_with fail
                go_quiet (fail)
                go_wp2_with fail
                refine wp_goto ?_
                change Behind0 _ _ _ _ _
                unfold Behind0
                go_wp2_with fail
                go_quiet (fail)
                go_wp2_with fail
                try go_quiet (fail)
                go_wp2_with fail
                go_ret2
                refine ⟨?_, by first | exact HZM.out.drewN _ | exact MD.drewN _ | exact (MD.drewN _).drewN _ | exact ((MD.drewN _).drewN _).drewN _⟩
                have hB := HB.out
                have hO := HO.out
                replace hB := Eq.trans (Eq.symm (if_neg (show ¬ 255 ≤ E3 + 127 by have := HC1.out; omega))) hB; replace hO := Eq.trans (Eq.symm (if_neg (show ¬ 255 ≤ E3 + 127 by have := HC1.out; omega))) hO; replace hB := Eq.trans (Eq.symm (if_pos (show m = 16777216 by have := HC2.out; omega))) hB; replace hO := Eq.trans (Eq.symm (if_pos (show m = 16777216 by have := HC2.out; omega))) hO; replace hB := Eq.trans (Eq.symm (if_neg (show ¬ 255 ≤ E3 + 1 + 127 by omega))) hB; replace hO := Eq.trans (Eq.symm (if_neg (show ¬ 255 ≤ E3 + 1 + 127 by omega))) hO
                rw [← hB, ← hO]
                first | done | rfl
            · have c2' : ((m : Int) == 16777216) = false := beq_eq_false_iff_ne.mpr (by omega)
              rcases Bool.eq_false_or_eq_true (bits .and .u64 (m : Int) 8388608 == 0) with c4 | c4
              · go_wp2_with fail
                refine wp_goto ?_
                change Behind0 _ _ _ _ _
                unfold Behind0
                go_wp2_with fail
                go_quiet (fail)
                go_wp2_with fail
                try go_quiet (fail)
                go_wp2_with fail
                go_ret2
                refine ⟨?_, by first | exact HZM.out.drewN _ | exact MD.drewN _ | exact (MD.drewN _).drewN _ | exact ((MD.drewN _).drewN _).drewN _⟩
                have hB := HB.out
                have hO := HO.out
                replace hB := Eq.trans (Eq.symm (if_neg (show ¬ 255 ≤ E3 + 127 by have := HC1.out; omega))) hB; replace hO := Eq.trans (Eq.symm (if_neg (show ¬ 255 ≤ E3 + 127 by have := HC1.out; omega))) hO; replace hB := Eq.trans (Eq.symm (if_neg (show ¬ m = 16777216 by omega))) hB; replace hO := Eq.trans (Eq.symm (if_neg (show ¬ m = 16777216 by omega))) hO; replace hB := Eq.trans (Eq.symm (if_pos c4)) hB
                rw [← hB, ← hO]
                first | done | rfl
              · go_wp2_with fail
                refine wp_goto ?_
                change Behind0 _ _ _ _ _
                unfold Behind0
                go_wp2_with fail
                go_quiet (fail)
                go_wp2_with fail
                try go_quiet (fail)
                go_wp2_with fail
                go_ret2
                refine ⟨?_, by first | exact HZM.out.drewN _ | exact MD.drewN _ | exact (MD.drewN _).drewN _ | exact ((MD.drewN _).drewN _).drewN _⟩
                have hB := HB.out
                have hO := HO.out
                replace hB := Eq.trans (Eq.symm (if_neg (show ¬ 255 ≤ E3 + 127 by have := HC1.out; omega))) hB; replace hO := Eq.trans (Eq.symm (if_neg (show ¬ 255 ≤ E3 + 127 by have := HC1.out; omega))) hO; replace hB := Eq.trans (Eq.symm (if_neg (show ¬ m = 16777216 by omega))) hB; replace hO := Eq.trans (Eq.symm (if_neg (show ¬ m = 16777216 by omega))) hO; replace hB := Eq.trans (Eq.symm (if_neg (by rw [c4]; decide))) hB
                rw [← hB, ← hO]
                first | done | rfl
        · obtain ⟨nn, hnn⟩ : ∃ nn : Nat, -126 - E = (nn : Int) := ⟨(-126 - E).toNat, by omega⟩
          have hnt : (-126 - E).toNat = nn := by omega
          have hZ := HZ.out
          unfold down at hZ
          rw [if_pos hlo, hnt] at hZ
          have hz1 : Z.1 = shiftR 2400 nn Y.1 := by rw [hZ]
          have hz3 : E3 = -126 := by rw [← HE3.out, hZ]
          have HZ1 := Aside0.mk hz1
          have HZ3 := Aside0.mk hz3
          have hnn2 : E + (nn : Int) = E3 := by omega
          have H := Aside0.mk (shiftR_calls wc p true Y.1 2400 nn HYA.out HYG.out (by omega) (by omega) (by omega) (by have := HYB.out; have := HXB.out; omega) (by have := HYB.out; have := HXB.out; omega))
          clear hZ hz1 hz3 hnt
          go_wp2_with fail
          refine H.out.mono ?_
          rintro ed w5 ⟨rfl, hA, hM⟩
          have HZA := Aside0.mk (show DecAt w5 p true Z.1 by rw [HZ1.out]; exact hA)
          have HZM := Aside0.mk (HYM.out.trans hM (fun _ _ h => h))
          clear hA hM
          clear hf0 hf1 hf2 H
          obtain ⟨hf0, hf1, hf2⟩ := HF.out.mods HZM.out (fun h => hp5 h.symm)
          have hcg := HZA.out.negs
          by_cases c1 : 255 ≤ E3 + 127
          · exfalso; have := HZ3.out; omega
          · have c1' : decide (255 ≤ E3 + 127) = false := decide_eq_false c1
            have HC1 : Aside0 (¬ 255 ≤ E3 + 127) := ⟨by omega⟩
            have HSL := Aside0.mk (fun n1 => shiftL_calls (w5.drewN n1) p tb true Z.1 24 (HZA.out.drewN _) HZG.out (HC.out.mods (HZM.out.drewN n1) (fun h => hp12 h.symm) (fun h => hptb h.symm)) hp12 hptb (by omega) (by omega) (by have := HZB.out; omega) (by have := HZB.out; omega))
            clear c1
            go_wp2_with fail
            go_quiet (fail)
            go_wp2_with fail
            refine (HSL.out _).mono ?_
            rintro ed w6 ⟨rfl, hA, hM⟩
            have H6A := Aside0.mk hA
            have H6M := Aside0.mk ((HZM.out.drewN _).trans hM (fun _ _ h => h))
            clear hA hM hf0 hf1 hf2 HSL hcg
            obtain ⟨hf0, hf1, hf2⟩ := HF.out.mods H6M.out (fun h => hp5 h.symm)
            have hcg := H6A.out.negs
            go_wp2_with fail
            refine (HRI.out w6 p true H6A.out).mono ?_
            rintro ed w7 ⟨rfl, rfl⟩
            have MD := H6M.out
            by_cases c2 : m = 16777216
            · have HC2 := Aside0.mk c2
              have c2i : (m : Int) = 16777216 := by omega
              clear c2
              by_cases c3 : 255 ≤ E3 + 1 + 127
              · exfalso; have := HZ3.out; omega
              · have c3' : decide (255 ≤ E3 + 1 + 127) = false := decide_eq_false c3
                have hbb : bits .and .u64 8388608 8388608 = 8388608 := by decide
                go_wp2_with fail
                go_quiet (fail)
                go_wp2_with fail
                refine wp_goto ?_
                change Behind0 _ _ _ _ _
                unfold Behind0
                go_wp2_with fail
                go_quiet (fail)
                go_wp2_with fail
                try go_quiet (fail)
                go_wp2_with fail
                go_ret2
                refine ⟨?_, by first | exact HZM.out.drewN _ | exact MD.drewN _ | exact (MD.drewN _).drewN _ | exact ((MD.drewN _).drewN _).drewN _⟩
                have hB := HB.out
                have hO := HO.out
                replace hB := Eq.trans (Eq.symm (if_neg (show ¬ 255 ≤ E3 + 127 by have := HC1.out; omega))) hB; replace hO := Eq.trans (Eq.symm (if_neg (show ¬ 255 ≤ E3 + 127 by have := HC1.out; omega))) hO; replace hB := Eq.trans (Eq.symm (if_pos (show m = 16777216 by have := HC2.out; omega))) hB; replace hO := Eq.trans (Eq.symm (if_pos (show m = 16777216 by have := HC2.out; omega))) hO; replace hB := Eq.trans (Eq.symm (if_neg (show ¬ 255 ≤ E3 + 1 + 127 by omega))) hB; replace hO := Eq.trans (Eq.symm (if_neg (show ¬ 255 ≤ E3 + 1 + 127 by omega))) hO
                rw [← hB, ← hO]
                first | done | rfl
            · have c2' : ((m : Int) == 16777216) = false := beq_eq_false_iff_ne.mpr (by omega)
              rcases Bool.eq_false_or_eq_true (bits .and .u64 (m : Int) 8388608 == 0) with c4 | c4
              · go_wp2_with fail
                refine wp_goto ?_
                change Behind0 _ _ _ _ _
                unfold Behind0
                go_wp2_with fail
                go_quiet (fail)
                go_wp2_with fail
                try go_quiet (fail)
                go_wp2_with fail
                go_ret2
                refine ⟨?_, by first | exact HZM.out.drewN _ | exact MD.drewN _ | exact (MD.drewN _).drewN _ | exact ((MD.drewN _).drewN _).drewN _⟩
                have hB := HB.out
                have hO := HO.out
                replace hB := Eq.trans (Eq.symm (if_neg (show ¬ 255 ≤ E3 + 127 by have := HC1.out; omega))) hB; replace hO := Eq.trans (Eq.symm (if_neg (show ¬ 255 ≤ E3 + 127 by have := HC1.out; omega))) hO; replace hB := Eq.trans (Eq.symm (if_neg (show ¬ m = 16777216 by omega))) hB; replace hO := Eq.trans (Eq.symm (if_neg (show ¬ m = 16777216 by omega))) hO; replace hB := Eq.trans (Eq.symm (if_pos c4)) hB
                rw [← hB, ← hO]
                first | done | rfl
              · go_wp2_with fail
                refine wp_goto ?_
                change Behind0 _ _ _ _ _
                unfold Behind0
                go_wp2_with fail
                go_quiet (fail)
                go_wp2_with fail
                try go_quiet (fail)
                go_wp2_with fail
                go_ret2
                refine ⟨?_, by first | exact HZM.out.drewN _ | exact MD.drewN _ | exact (MD.drewN _).drewN _ | exact ((MD.drewN _).drewN _).drewN _⟩
                have hB := HB.out
                have hO := HO.out
                replace hB := Eq.trans (Eq.symm (if_neg (show ¬ 255 ≤ E3 + 127 by have := HC1.out; omega))) hB; replace hO := Eq.trans (Eq.symm (if_neg (show ¬ 255 ≤ E3 + 127 by have := HC1.out; omega))) hO; replace hB := Eq.trans (Eq.symm (if_neg (show ¬ m = 16777216 by omega))) hB; replace hO := Eq.trans (Eq.symm (if_neg (show ¬ m = 16777216 by omega))) hO; replace hB := Eq.trans (Eq.symm (if_neg (by rw [c4]; decide))) hB
                rw [← hB, ← hO]
                first | done | rfl
end
end Go.Proofs.YtohadobpiclllaaGreatDoor
