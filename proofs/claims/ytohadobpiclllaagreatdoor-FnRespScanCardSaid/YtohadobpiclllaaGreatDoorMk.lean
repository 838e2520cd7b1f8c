/- The reading of a float's text: readFloat. -/
import Derived.Test.YtohadobpiclllaaGreatDoorMj
import Derived.Deep.DeepCutAuto
namespace Go.Proofs.YtohadobpiclllaaGreatDoor
section
open Go.RowKit Go.Proofs.YtohadobpiclllaaGreatDoorW.PrintWords Go.Proofs.YtohadobpiclllaaGreatDoorW.PrintMore Go.Proofs.YtohadobpiclllaaGreatDoorW.PrintLast Go.Proofs.YtohadobpiclllaaGreatDoor.PFnRespScan
attribute [local go_sem] max2_int min2_int max_two min_two max_three min_three max_four min_four
set_option linter.unusedVariables false
set_option linter.unusedSimpArgs false

/-- What readFloat says. -/
def rfTuple (m : Nat) (e : Int) (neg tr : Bool) (i : Nat) (ok : Bool) : Value := .tuple #[.int .u64 m, .int .i64 e, .bool neg, .bool tr, .bool false, .int .i64 i, .bool ok]
def rfTail (c : ByteArray) (R : RF) : Int × Nat × Bool :=
  if R.dig then
    if (exPart c R.i).1 then (if R.m = 0 then 0 else (if R.dot then R.dp else R.nd) + (exPart c R.i).2.2 - R.nm, (exPart c R.i).2.1, true)
    else (0, (exPart c R.i).2.1, false)
  else (0, R.i, false)

theorem results_tmp7 {fn : Func} {t1 t2 t3 t4 t5 t6 t7 : Tmp} (h : fn.results = #[.tmp t1, .tmp t2, .tmp t3, .tmp t4, .tmp t5, .tmp t6, .tmp t7]) (tmps : Array Value) (P : Program) (w : World) :
    (results fn tmps).run P w = .ok (.tuple #[tmps.getD t1 undef, tmps.getD t2 undef, tmps.getD t3 undef, tmps.getD t4 undef, tmps.getD t5 undef, tmps.getD t6 undef, tmps.getD t7 undef]) w := by
  simp [results, h]

set_option maxHeartbeats 4000000 in
set_option maxRecDepth 100000 in
theorem readFloat_calls (c : ByteArray) (hP : PlainText c) (h0 : 0 < c.size) (w : World) :
    Calls Tryz.prog 108 #[.string c] w fun e w' => e = .returned (rfTuple (rfAll c).m (rfTail c (rfAll c)).1 (sgN c) (rfAll c).tr (rfTail c (rfAll c)).2.1 (rfTail c (rfAll c)).2.2) ∧ ∃ n, w' = w.drewN n := by
  have hsz := hP.1
  have hx0 := (hP.2 0 h0).1
  have HP := Aside0.mk hP
  clear hP
  obtain ⟨x, hx⟩ : ∃ x : Int, (c[0].toNat : Int) = x := ⟨_, rfl⟩
  have hxb := cb_bound c 0
  have HX := Aside0.mk ((cb_at c 0 h0).trans hx)
  rw [HX.out] at hx0 hxb
  have h00 : (0 : Int) < (c.size : Int) := by omega
  have hce : ¬ c = ByteArray.empty := by rintro rfl; exact absurd h0 (by decide)
  go_enter Tryz.func108, Tryz.ntmps108
  go_wp2_with fail
  go_step3
  go_upto_block 0 with fail
  go_cut [4, 7] from 28 to 35 (fun s4 s7 wx => s4 = .bool (sgN c) ∧ s7 = .int .i64 (sgI c) ∧ w = wx)
  case first =>
    by_cases h43 : x = 43
    · have h43' : (x == 43) = true := beq_iff_eq.mpr h43
      have HN := Aside0.mk (show sgN c = false by unfold sgN; rw [HX.out, h43]; rfl)
      have HI := Aside0.mk (show sgI c = 1 by unfold sgI; rw [HX.out, h43]; rfl)
      clear h43
      go_wp2
      go_meet
      exact ⟨by rw [HN.out], by rw [HI.out]; rfl, rfl⟩
    · by_cases h45 : x = 45
      · have h43' : (x == 43) = false := beq_eq_false_iff_ne.mpr h43
        have h45' : (x == 45) = true := beq_iff_eq.mpr h45
        have HN := Aside0.mk (show sgN c = true by unfold sgN; rw [HX.out, h45]; rfl)
        have HI := Aside0.mk (show sgI c = 1 by unfold sgI; rw [HX.out, h45]; rfl)
        clear h43 h45
        go_wp2
        go_meet
        exact ⟨by rw [HN.out], by rw [HI.out]; rfl, rfl⟩
      · have h43' : (x == 43) = false := beq_eq_false_iff_ne.mpr h43
        have h45' : (x == 45) = false := beq_eq_false_iff_ne.mpr h45
        have HN := Aside0.mk (show sgN c = false by unfold sgN; rw [HX.out]; exact decide_eq_false h45)
        have HI := Aside0.mk (show sgI c = 0 by unfold sgI; rw [HX.out, if_neg h43, if_neg h45])
        go_wp2
        go_meet
        exact ⟨by rw [HN.out], by rw [HI.out]; rfl, rfl⟩
  case rest =>
  obtain ⟨rfl, rfl, rfl⟩ := hcut
  obtain ⟨i0, hi0, hi1⟩ : ∃ i0 : Nat, sgI c = i0 ∧ i0 ≤ 1 := ⟨_, rfl, by unfold sgI; split; omega; split <;> omega⟩
  have hi2 := sgI_le c h0
  rw [hi0] at hi2 ⊢
  have HI := Aside0.mk hi0
  clear hi0 hx0
  go_upto_region 12 with fail
  go_cut [54] from 36 to 53 (fun s54 wx => s54 = .bool false ∧ w = wx)
  case first =>
    by_cases h2 : i0 + 2 < c.size
    · have h2i : (i0 : Int) + 2 < (c.size : Int) := by omega
      have hii : (i0 : Int) < (c.size : Int) := by omega
      have hic : i0 < c.size := by omega
      have hic1 : i0 + 1 < c.size := by omega
      obtain ⟨y, hy⟩ : ∃ y : Int, (c[i0].toNat : Int) = y := ⟨_, rfl⟩
      by_cases h48 : y = 48
      · have h48' : (y == 48) = true := beq_iff_eq.mpr h48
        clear h48
        obtain ⟨z, hz⟩ : ∃ z : Int, (c[i0 + 1].toNat : Int) = z := ⟨_, rfl⟩
        have hz2 : (bits .or .u8 z 32 == 120) = false := beq_eq_false_iff_ne.mpr (by have := (HP.out.2 (i0 + 1) hic1).2; rw [cb_at c _ hic1, hz] at this; exact this)
        go_wp2_with fail
        refine (lower_calls _ _).mono ?_
        rintro e w1 ⟨rfl, rfl⟩
        go_wp2
        go_meet
        exact ⟨rfl, rfl⟩
      · have h48' : (y == 48) = false := beq_eq_false_iff_ne.mpr h48
        go_wp2
        go_meet
        exact ⟨rfl, rfl⟩
    · have h2i : decide ((i0 : Int) + 2 < (c.size : Int)) = false := decide_eq_false (by omega)
      go_wp2
      go_meet
      exact ⟨rfl, rfl⟩
  case rest =>
  obtain ⟨rfl, rfl⟩ := hcut
  go_wp2_with fail
  go_step3
  go_upto_block 1 with fail
  go_cut [2, 5, 7, 9, 13, 14, 15, 16, 17, 18] from 57 to 138 (fun s2 s5 s7 s9 s13 s14 s15 s16 s17 s18 wx => s2 = .int .u64 (rfAll c).m ∧ s5 = .bool (rfAll c).tr ∧ s7 = .int .i64 (rfAll c).i ∧ s9 = .bool false ∧ s13 = .bool (rfAll c).dot ∧ s14 = .bool (rfAll c).dig ∧ s15 = .int .i64 (rfAll c).nd ∧ s16 = .int .i64 (rfAll c).nm ∧ s17 = .int .i64 (rfAll c).dp ∧ w = wx)
  case first =>
    go_wp2_with fail
    go_loopw [2, 5, 7, 9, 13, 14, 15, 16, 17, 18] (fun v2 v5 v7 v9 v13 v14 v15 v16 v17 _ wr => ∃ (f i m : Nat) (tr dot dig : Bool) (nd nm : Nat) (dp : Int), v2 = .int .u64 m ∧ v5 = .bool tr ∧ v7 = .int .i64 i ∧ v9 = .bool false ∧ v13 = .bool dot ∧ v14 = .bool dig ∧ v15 = .int .i64 nd ∧ v16 = .int .i64 nm ∧ v17 = .int .i64 dp ∧ c.size ≤ i + f ∧ Aside0 (RFOK c ⟨i, m, tr, dot, dig, nd, nm, dp⟩) ∧ Aside0 (rfGo c f ⟨i, m, tr, dot, dig, nd, nm, dp⟩ = rfAll c) ∧ w = wr) (fun _ _ v7 _ _ _ _ _ _ _ _ => c.size - (intOf v7).toNat)
    case atStart => exact ⟨c.size, i0, 0, false, false, false, 0, 0, 0, rfl, rfl, rfl, rfl, rfl, rfl, rfl, rfl, rfl, by omega, ⟨by rw [← HI.out]; exact ⟨sgI_le c h0, Nat.zero_le _, Nat.le_refl _, by show 0 ≤ 19; omega, by show 0 < 10 ^ 0; decide, by show -((sgI c : Nat) : Int) ≤ 0; omega, by show (0 : Int) ≤ ((sgI c : Nat) : Int); omega⟩⟩, ⟨by rw [← HI.out]; rfl⟩, rfl⟩
    case round =>
      obtain ⟨f, i, m, tr, dot, dig, nd, nm, dp, rfl, rfl, rfl, rfl, rfl, rfl, rfl, rfl, rfl, hf, HO, HR, rfl⟩ := hrel
      have b1 : i ≤ c.size := HO.out.1
      have b2 : nd ≤ i := HO.out.2.1
      have b3 : nm ≤ 19 := HO.out.2.2.2.1
      have b4 : m < 10000000000000000000 := HO.out.small
      have b5 : -(i : Int) ≤ dp := HO.out.2.2.2.2.2.1
      have b6 : dp ≤ i := HO.out.2.2.2.2.2.2
      by_cases hic : i < c.size
      · obtain ⟨g, rfl⟩ : ∃ g, f = g + 1 := ⟨f - 1, by omega⟩
        have hic' : (i : Int) < (c.size : Int) := by omega
        obtain ⟨y, hy⟩ : ∃ y : Int, (c[i].toNat : Int) = y := ⟨_, rfl⟩
        have HC := Aside0.mk ((cb_at c i hic).trans hy)
        have hR := HR.out
        have hO := HO.out
        rw [rfGo, if_pos hic] at hR
        have hy95 := (HP.out.2 i hic).1
        have hyb := cb_bound c i
        simp only [HC.out] at hR hy95 hyb
        have hy95' : (y == 95) = false := beq_eq_false_iff_ne.mpr hy95
        by_cases h46 : y = 46
        · have h46' : (y == 46) = true := beq_iff_eq.mpr h46
          rw [if_pos h46] at hR
          cases dot
          · rw [if_neg (by decide)] at hR
            have HR2 := Aside0.mk hR
            have HO2 := Aside0.mk hO
            clear hR hO hy95 h46
            go_wp2
            go_roundw
            case measure => simp [intOf]; omega
            case rel => exact ⟨g, i + 1, m, tr, true, dig, nd, nm, nd, rfl, rfl, by go_num, rfl, rfl, rfl, rfl, rfl, rfl, by omega, ⟨by show i + 1 ≤ c.size; omega, by show nd ≤ i + 1; omega, HO2.out.2.2.1, b3, HO2.out.2.2.2.2.1, by show -((i + 1 : Nat) : Int) ≤ ((nd : Nat) : Int); omega, by show ((nd : Nat) : Int) ≤ ((i + 1 : Nat) : Int); omega⟩, HR2, trivial⟩
          · rw [if_pos rfl] at hR
            have HR2 := Aside0.mk hR
            clear hR hO hy95 h46
            go_wp2
            go_meet
            rw [← HR2.out]
            exact ⟨rfl, rfl, rfl, rfl, rfl, rfl, rfl, rfl, rfl, rfl⟩
        · have h46' : (y == 46) = false := beq_eq_false_iff_ne.mpr h46
          rw [if_neg h46] at hR
          by_cases hdg : 48 ≤ y ∧ y ≤ 57
          · rw [if_pos hdg] at hR
            obtain ⟨hd1, hd2⟩ := hdg
            by_cases hz : y = 48 ∧ nd = 0
            · rw [if_pos hz] at hR
              have h48' : (y == 48) = true := beq_iff_eq.mpr hz.1
              have hnd' : ((nd : Int) == 0) = true := beq_iff_eq.mpr (by have := hz.2; omega)
              have HR2 := Aside0.mk hR
              have HO2 := Aside0.mk hO
              clear hR hO hy95 h46 hz
              go_wp2
              go_roundw
              case measure => simp [intOf]; omega
              case rel => exact ⟨g, i + 1, m, tr, dot, true, nd, nm, dp - 1, rfl, rfl, by go_num, rfl, rfl, rfl, rfl, rfl, rfl, by omega, ⟨by show i + 1 ≤ c.size; omega, by show nd ≤ i + 1; omega, HO2.out.2.2.1, b3, HO2.out.2.2.2.2.1, by show -((i + 1 : Nat) : Int) ≤ dp - 1; omega, by show dp - 1 ≤ ((i + 1 : Nat) : Int); omega⟩, HR2, trivial⟩
            · rw [if_neg hz] at hR
              have hzz : y = 48 → nd = 0 → False := fun e1 e2 => hz ⟨e1, e2⟩
              by_cases h19 : nm < 19
              · rw [if_pos h19] at hR
                have b7 : m < 1000000000000000000 := hO.less h19
                have HR2 := Aside0.mk hR
                have HO2 := Aside0.mk hO
                by_cases h48 : y = 48
                · have h48' : (y == 48) = true := beq_iff_eq.mpr h48
                  have hnd' : ((nd : Int) == 0) = false := beq_eq_false_iff_ne.mpr (fun h => hzz h48 (by omega))
                  clear hR hO hy95 h46 hz hzz h48
                  go_wp2
                  go_roundw
                  case measure => simp [intOf]; omega
                  case rel => exact ⟨g, i + 1, m * 10 + (y - 48).toNat, tr, dot, true, nd + 1, nm + 1, dp, by go_num, rfl, by go_num, rfl, rfl, rfl, by go_num, by go_num, rfl, by omega, ⟨by show i + 1 ≤ c.size; omega, by show nd + 1 ≤ i + 1; omega, by show nm + 1 ≤ nd + 1; have := HO2.out.2.2.1; have h3 : nm ≤ nd := this; omega, by show nm + 1 ≤ 19; omega, by show m * 10 + (y - 48).toNat < 10 ^ (nm + 1); have h3 : m < 10 ^ nm := HO2.out.2.2.2.2.1; rw [Nat.pow_succ]; omega, by show -((i + 1 : Nat) : Int) ≤ dp; omega, by show dp ≤ ((i + 1 : Nat) : Int); omega⟩, HR2, trivial⟩
                · have h48' : (y == 48) = false := beq_eq_false_iff_ne.mpr h48
                  clear hR hO hy95 h46 hz hzz h48
                  go_wp2
                  go_roundw
                  case measure => simp [intOf]; omega
                  case rel => exact ⟨g, i + 1, m * 10 + (y - 48).toNat, tr, dot, true, nd + 1, nm + 1, dp, by go_num, rfl, by go_num, rfl, rfl, rfl, by go_num, by go_num, rfl, by omega, ⟨by show i + 1 ≤ c.size; omega, by show nd + 1 ≤ i + 1; omega, by show nm + 1 ≤ nd + 1; have := HO2.out.2.2.1; have h3 : nm ≤ nd := this; omega, by show nm + 1 ≤ 19; omega, by show m * 10 + (y - 48).toNat < 10 ^ (nm + 1); have h3 : m < 10 ^ nm := HO2.out.2.2.2.2.1; rw [Nat.pow_succ]; omega, by show -((i + 1 : Nat) : Int) ≤ dp; omega, by show dp ≤ ((i + 1 : Nat) : Int); omega⟩, HR2, trivial⟩
              · rw [if_neg h19] at hR
                have h19' : decide ((nm : Int) < 19) = false := decide_eq_false (by omega)
                have HO2 := Aside0.mk hO
                by_cases h48 : y = 48
                · have h48' : (y == 48) = true := beq_iff_eq.mpr h48
                  have h48n : (y != 48) = false := by rw [h48]; rfl
                  have hnd' : ((nd : Int) == 0) = false := beq_eq_false_iff_ne.mpr (fun h => hzz h48 (by omega))
                  rw [if_pos h48] at hR
                  have HR2 := Aside0.mk hR
                  clear hR hO hy95 h46 hz hzz h48 h19
                  go_wp2
                  go_roundw
                  case measure => simp [intOf]; omega
                  case rel => exact ⟨g, i + 1, m, tr, dot, true, nd + 1, nm, dp, rfl, rfl, by go_num, rfl, rfl, rfl, by go_num, rfl, rfl, by omega, ⟨by show i + 1 ≤ c.size; omega, by show nd + 1 ≤ i + 1; omega, by show nm ≤ nd + 1; have := HO2.out.2.2.1; have h3 : nm ≤ nd := this; omega, b3, HO2.out.2.2.2.2.1, by show -((i + 1 : Nat) : Int) ≤ dp; omega, by show dp ≤ ((i + 1 : Nat) : Int); omega⟩, HR2, trivial⟩
                · have h48' : (y == 48) = false := beq_eq_false_iff_ne.mpr h48
                  have h48n : (y != 48) = true := bne_iff_ne.mpr h48
                  rw [if_neg h48] at hR
                  have HR2 := Aside0.mk hR
                  clear hR hO hy95 h46 hz hzz h48 h19
                  go_wp2
                  go_roundw
                  case measure => simp [intOf]; omega
                  case rel => exact ⟨g, i + 1, m, true, dot, true, nd + 1, nm, dp, rfl, rfl, by go_num, rfl, rfl, rfl, by go_num, rfl, rfl, by omega, ⟨by show i + 1 ≤ c.size; omega, by show nd + 1 ≤ i + 1; omega, by show nm ≤ nd + 1; have := HO2.out.2.2.1; have h3 : nm ≤ nd := this; omega, b3, HO2.out.2.2.2.2.1, by show -((i + 1 : Nat) : Int) ≤ dp; omega, by show dp ≤ ((i + 1 : Nat) : Int); omega⟩, HR2, trivial⟩
          · rw [if_neg hdg] at hR
            have HR2 := Aside0.mk hR
            have HD := Aside0.mk hdg
            clear hR hO hy95 h46 hdg
            by_cases hd1 : 48 ≤ y
            · have hd2 : 57 < y := by have := HD.out; omega
              go_wp2
              go_meet
              rw [← HR2.out]
              exact ⟨rfl, rfl, rfl, rfl, rfl, rfl, rfl, rfl, rfl, rfl⟩
            · go_wp2
              go_meet
              rw [← HR2.out]
              exact ⟨rfl, rfl, rfl, rfl, rfl, rfl, rfl, rfl, rfl, rfl⟩
      · have hic' : decide ((i : Int) < (c.size : Int)) = false := decide_eq_false (by omega)
        have HR2 := Aside0.mk (show rfAll c = ⟨i, m, tr, dot, dig, nd, nm, dp⟩ by
          rw [← HR.out]
          cases f
          · rfl
          · rw [rfGo, if_neg hic])
        go_wp2
        go_meet
        rw [HR2.out]
        exact ⟨rfl, rfl, rfl, rfl, rfl, rfl, rfl, rfl, rfl, rfl⟩
  case rest =>
  obtain ⟨rfl, rfl, rfl, rfl, rfl, rfl, rfl, rfl, rfl, rfl⟩ := hcut
  have hO := rfAll_ok c h0
  obtain ⟨⟨i, m, tr, dot, dig, nd, nm, dp⟩, hR⟩ : ∃ R, rfAll c = R := ⟨_, rfl⟩
  rw [hR] at hO ⊢
  have HR := Aside0.mk hR
  have b1 : i ≤ c.size := hO.1
  have b2 : nd ≤ i := hO.2.1
  have b3 : nm ≤ 19 := hO.2.2.2.1
  have b4 : m < 10000000000000000000 := hO.small
  have b5 : -(i : Int) ≤ dp := hO.2.2.2.2.2.1
  have b6 : dp ≤ i := hO.2.2.2.2.2.2
  dsimp only
  clear hR hO hx hxb HX HI hi1 hi2
  cases dig
  · go_wp2_with fail
    (try simp only [Exit.noGoto_ret]); refine bodyPost_ret (results_tmp7 rfl _ _ _) rfl ?_
    rw [HR.out]
    exact ⟨rfl, 0, rfl⟩
  · go_upto_if 142 with fail
    go_cut [17] from 143 to 143 (fun s17 wx => s17 = .int .i64 (if dot then dp else nd) ∧ w = wx)
    case first =>
      cases dot
      · go_wp2
        go_meet
        exact ⟨rfl, rfl⟩
      · go_wp2
        go_meet
        exact ⟨rfl, rfl⟩
    case rest =>
    obtain ⟨rfl, rfl⟩ := hcut
    obtain ⟨D, hD, hD1, hD2⟩ : ∃ D : Int, (if dot then dp else (nd : Int)) = D ∧ -1000 ≤ D ∧ D ≤ 1000 := ⟨_, rfl, by split <;> omega, by split <;> omega⟩
    rw [hD]
    have HT := Aside0.mk (show rfTail c ⟨i, m, tr, dot, true, nd, nm, dp⟩ = if (exPart c i).1 then (if m = 0 then 0 else D + (exPart c i).2.2 - nm, (exPart c i).2.1, true) else (0, (exPart c i).2.1, false) by rw [← hD]; rfl)
    clear hD b5 b6
    by_cases hE : i < c.size ∧ bits .or .u8 (cb c i) 32 = 101
    · obtain ⟨hic, hE2⟩ := hE
      have hic' : (i : Int) < (c.size : Int) := by omega
      obtain ⟨y, hy⟩ : ∃ y : Int, (c[i].toNat : Int) = y := ⟨_, rfl⟩
      have HC := Aside0.mk ((cb_at c i hic).trans hy)
      have hE3 := hE2
      rw [HC.out] at hE2
      have hE2' : (bits .or .u8 y 32 == 101) = true := beq_iff_eq.mpr hE2
      have HE := Aside0.mk (show exPart c i = _ by unfold exPart; rw [if_pos ⟨hic, hE3⟩])
      clear hE2 hE3
      go_wp2_with fail
      refine (lower_calls _ _).mono ?_
      rintro e w1 ⟨rfl, rfl⟩
      by_cases hk : c.size ≤ i + 1
      · have HE2 := Aside0.mk (show exPart c i = (false, i + 1, 0) by rw [HE.out, if_pos hk])
        have hk' : (c.size : Int) ≤ (i : Int) + 1 := by omega
        clear hk
        go_wp2_with fail
        (try simp only [Exit.noGoto_ret]); refine bodyPost_ret (results_tmp7 rfl _ _ _) rfl ?_
        rw [HR.out, HT.out, HE2.out]
        exact ⟨rfl, 0, rfl⟩
      · have hk' : (i : Int) + 1 < (c.size : Int) := by omega
        have hkc : i + 1 < c.size := by omega
        obtain ⟨z, hz⟩ : ∃ z : Int, (c[i + 1].toNat : Int) = z := ⟨_, rfl⟩
        have HZ := Aside0.mk ((cb_at c (i + 1) hkc).trans hz)
        have HE1 := Aside0.mk (HE.out.trans (if_neg hk))
        clear hk
        go_upto_block 4 with fail
        go_cut [7, 19] from 171 to 178 (fun s7 s19 wx => s7 = .int .i64 (exAt c (i + 1)) ∧ s19 = .int .i64 (exSg c (i + 1)) ∧ w1 = wx)
        case first =>
          by_cases h43 : z = 43
          · have h43' : (z == 43) = true := beq_iff_eq.mpr h43
            have HN := Aside0.mk (show exAt c (i + 1) = i + 1 + 1 by unfold exAt; rw [HZ.out, if_pos h43])
            have HI := Aside0.mk (show exSg c (i + 1) = 1 by unfold exSg; rw [HZ.out, h43]; rfl)
            clear h43
            go_wp2
            go_meet
            exact ⟨by rw [HN.out]; go_num, by rw [HI.out], rfl⟩
          · by_cases h45 : z = 45
            · have h43' : (z == 43) = false := beq_eq_false_iff_ne.mpr h43
              have h45' : (z == 45) = true := beq_iff_eq.mpr h45
              have HN := Aside0.mk (show exAt c (i + 1) = i + 1 + 1 by unfold exAt; rw [HZ.out, if_neg h43, if_pos h45])
              have HI := Aside0.mk (show exSg c (i + 1) = -1 by unfold exSg; rw [HZ.out, h45]; rfl)
              clear h43 h45
              go_wp2
              go_meet
              exact ⟨by rw [HN.out]; go_num, by rw [HI.out], rfl⟩
            · have h43' : (z == 43) = false := beq_eq_false_iff_ne.mpr h43
              have h45' : (z == 45) = false := beq_eq_false_iff_ne.mpr h45
              have HN := Aside0.mk (show exAt c (i + 1) = i + 1 by unfold exAt; rw [HZ.out, if_neg h43, if_neg h45])
              have HI := Aside0.mk (show exSg c (i + 1) = 1 by unfold exSg; rw [HZ.out, if_neg h45])
              clear h43 h45
              go_wp2
              go_meet
              exact ⟨by rw [HN.out]; go_num, by rw [HI.out], rfl⟩
        case rest =>
        obtain ⟨rfl, rfl, rfl⟩ := hcut
        have hj2 : exAt c (i + 1) ≤ i + 2 := by unfold exAt; split; omega; split <;> omega
        obtain ⟨sg, hsg, hsg1⟩ : ∃ sg : Int, exSg c (i + 1) = sg ∧ (sg = 1 ∨ sg = -1) := ⟨_, rfl, by unfold exSg; split; exact .inr rfl; exact .inl rfl⟩
        obtain ⟨j, hj⟩ : ∃ j, exAt c (i + 1) = j := ⟨_, rfl⟩
        have hE1 := HE1.out
        rw [hj, hsg] at hE1
        rw [hj] at hj2
        rw [hj, hsg]
        have HE1 := Aside0.mk hE1
        have HSG := Aside0.mk hsg1
        have hjs : j ≤ c.size := by omega
        clear hE1 hj hsg hsg1 hz hy hE2' hj2 hic hic' hkc hk'
        by_cases hjc : c.size ≤ j
        · have HE2 := Aside0.mk (HE1.out.trans (if_pos hjc))
          have hjc' : (c.size : Int) ≤ (j : Int) := by omega
          clear hjc
          go_wp2_with fail
          (try simp only [Exit.noGoto_ret]); refine bodyPost_ret (results_tmp7 rfl _ _ _) rfl ?_
          rw [HR.out, HT.out, HE2.out]
          exact ⟨rfl, 0, rfl⟩
        · have hjc' : (j : Int) < (c.size : Int) := by omega
          have hjcn : j < c.size := by omega
          obtain ⟨u, hu⟩ : ∃ u : Int, (c[j].toNat : Int) = u := ⟨_, rfl⟩
          have HU := Aside0.mk ((cb_at c j hjcn).trans hu)
          have hE1 := HE1.out.trans (if_neg hjc)
          rw [HU.out] at hE1
          by_cases hud : u < 48 ∨ 57 < u
          · have HE2 := Aside0.mk (hE1.trans (if_pos hud))
            clear hE1 hjc
            by_cases hu1 : u < 48
            · clear hud
              go_wp2_with fail
              (try simp only [Exit.noGoto_ret]); refine bodyPost_ret (results_tmp7 rfl _ _ _) rfl ?_
              rw [HR.out, HT.out, HE2.out]
              exact ⟨rfl, 0, rfl⟩
            · have hu2 : 57 < u := hud.resolve_left hu1
              clear hud
              go_wp2_with fail
              (try simp only [Exit.noGoto_ret]); refine bodyPost_ret (results_tmp7 rfl _ _ _) rfl ?_
              rw [HR.out, HT.out, HE2.out]
              exact ⟨rfl, 0, rfl⟩
          · have HE2 := Aside0.mk (hE1.trans (if_neg hud))
            have hu1 : 48 ≤ u := by omega
            have hu2 : u ≤ 57 := by omega
            clear hE1 hjc hud
            go_upto_block 5 with fail
            go_cut [7, 9, 20] from 179 to 232 (fun s7 s9 s20 wx => s7 = .int .i64 (exGo c c.size j 0).1 ∧ s9 = .bool false ∧ s20 = .int .i64 (exGo c c.size j 0).2 ∧ w1 = wx)
            case first =>
              clear hu1 hu2 hu HU hjcn hjc'
              go_wp2_with fail
              go_loopw [7, 9, 20] (fun v7 v9 v20 wr => ∃ (f k : Nat) (e : Int), v7 = .int .i64 k ∧ v9 = .bool false ∧ v20 = .int .i64 e ∧ k ≤ c.size ∧ c.size ≤ k + f ∧ 0 ≤ e ∧ e ≤ 100000 ∧ Aside0 (exGo c f k e = exGo c c.size j 0) ∧ w1 = wr) (fun v7 _ _ _ => c.size - (intOf v7).toNat)
              case atStart => exact ⟨c.size, j, 0, rfl, rfl, rfl, hjs, by omega, by omega, by omega, ⟨rfl⟩, rfl⟩
              case round =>
                obtain ⟨f, k, e, rfl, rfl, rfl, hk, hf, he0, he1, HX, rfl⟩ := hrel
                by_cases hkc : k < c.size
                · obtain ⟨g, rfl⟩ : ∃ g, f = g + 1 := ⟨f - 1, by omega⟩
                  have hkc' : (k : Int) < (c.size : Int) := by omega
                  obtain ⟨u, hu⟩ : ∃ u : Int, (c[k].toNat : Int) = u := ⟨_, rfl⟩
                  have HU := Aside0.mk ((cb_at c k hkc).trans hu)
                  have hX := HX.out
                  rw [exGo, if_pos hkc] at hX
                  have hu95 := (HP.out.2 k hkc).1
                  have hub := cb_bound c k
                  simp only [HU.out] at hX hu95 hub
                  have hu95' : (u == 95) = false := beq_eq_false_iff_ne.mpr hu95
                  by_cases hdg : 48 ≤ u ∧ u ≤ 57
                  · rw [if_pos hdg] at hX
                    obtain ⟨hu1, hu2⟩ := hdg
                    by_cases h10 : e < 10000
                    · rw [if_pos h10] at hX
                      have HX2 := Aside0.mk hX
                      clear hX hu95
                      go_wp2
                      go_roundw
                      case measure => simp [intOf]; omega
                      case rel => exact ⟨g, k + 1, e * 10 + (u - 48), by go_num, rfl, by go_num, by omega, by omega, by omega, by omega, HX2, trivial⟩
                    · rw [if_neg h10] at hX
                      have HX2 := Aside0.mk hX
                      clear hX hu95
                      go_wp2
                      go_roundw
                      case measure => simp [intOf]; omega
                      case rel => exact ⟨g, k + 1, e, by go_num, rfl, rfl, by omega, by omega, by omega, by omega, HX2, trivial⟩
                  · rw [if_neg hdg] at hX
                    have HX2 := Aside0.mk hX
                    have HD := Aside0.mk hdg
                    clear hX hu95 hdg
                    by_cases hd1 : 48 ≤ u
                    · have hd2 : 57 < u := by have := HD.out; omega
                      go_wp2
                      go_meet
                      rw [← HX2.out]
                      exact ⟨rfl, rfl, rfl, rfl⟩
                    · have hd2 : u < 48 := by omega
                      go_wp2
                      go_meet
                      rw [← HX2.out]
                      exact ⟨rfl, rfl, rfl, rfl⟩
                · have hkc' : decide ((k : Int) < (c.size : Int)) = false := decide_eq_false (by omega)
                  have HX2 := Aside0.mk (show exGo c c.size j 0 = (k, e) by
                    rw [← HX.out]
                    cases f
                    · rfl
                    · rw [exGo, if_neg hkc])
                  go_wp2
                  go_meet
                  rw [HX2.out]
                  exact ⟨rfl, rfl, rfl, rfl⟩
            case rest =>
            obtain ⟨rfl, rfl, rfl, rfl⟩ := hcut
            have hB := exGo_ok c c.size j 0 hjs (by decide) (by decide)
            obtain ⟨⟨k, e⟩, hX⟩ : ∃ X, exGo c c.size j 0 = X := ⟨_, rfl⟩
            have hE2 := HE2.out
            rw [hX] at hB hE2 ⊢
            obtain ⟨hb1, hb2, hb3⟩ := hB
            dsimp only at hb1 hb2 hb3 hE2 ⊢
            obtain ⟨E, hEE, hE0, hE1⟩ : ∃ E : Int, e * sg = E ∧ -100000 ≤ E ∧ E ≤ 100000 := ⟨_, rfl, by rcases HSG.out with h | h <;> rw [h] <;> omega, by rcases HSG.out with h | h <;> rw [h] <;> omega⟩
            rw [hEE] at hE2
            have HE2 := Aside0.mk hE2
            clear hE2 hX
            by_cases hm : m = 0
            · have hm' : ((m : Int) != 0) = false := by rw [hm]; rfl
              have HM0 := Aside0.mk hm
              clear hm
              go_wp2_with fail
              (try simp only [Exit.noGoto_ret]); refine bodyPost_ret (results_tmp7 rfl _ _ _) rfl ?_
              rw [HR.out, HT.out, HE2.out, if_pos rfl, if_pos HM0.out]
              exact ⟨rfl, 0, rfl⟩
            · have hm' : ((m : Int) != 0) = true := bne_iff_ne.mpr (by omega)
              have HM0 := Aside0.mk hm
              clear hm
              go_wp2_with fail
              (try simp only [Exit.noGoto_ret]); refine bodyPost_ret (results_tmp7 rfl _ _ _) rfl ?_
              rw [HR.out, HT.out, HE2.out, if_pos rfl, if_neg HM0.out]
              exact ⟨rfl, 0, rfl⟩
    · have HE2 := Aside0.mk (show exPart c i = (true, i, 0) by unfold exPart; rw [if_neg hE])
      have HM : Aside0 (m ≤ 10000000000000000000) := ⟨by omega⟩
      by_cases hic : i < c.size
      · have hic' : (i : Int) < (c.size : Int) := by omega
        obtain ⟨y, hy⟩ : ∃ y : Int, (c[i].toNat : Int) = y := ⟨_, rfl⟩
        have hE2' : (bits .or .u8 y 32 == 101) = false := beq_eq_false_iff_ne.mpr (fun h => hE ⟨hic, by rw [cb_at c i hic, hy]; exact h⟩)
        clear hE
        go_wp2_with fail
        refine (lower_calls _ _).mono ?_
        rintro e w1 ⟨rfl, rfl⟩
        by_cases hm : m = 0
        · have hm' : ((m : Int) != 0) = false := by rw [hm]; rfl
          have HM0 := Aside0.mk hm
          clear hm
          go_wp2_with fail
          (try simp only [Exit.noGoto_ret]); refine bodyPost_ret (results_tmp7 rfl _ _ _) rfl ?_
          rw [HR.out, HT.out, HE2.out, if_pos rfl, if_pos HM0.out]
          exact ⟨rfl, 0, rfl⟩
        · have hm' : ((m : Int) != 0) = true := bne_iff_ne.mpr (by omega)
          have HM0 := Aside0.mk hm
          clear hm
          go_wp2_with fail
          (try simp only [Exit.noGoto_ret]); refine bodyPost_ret (results_tmp7 rfl _ _ _) rfl ?_
          rw [HR.out, HT.out, HE2.out, if_pos rfl, if_neg HM0.out, Int.add_zero]
          exact ⟨rfl, 0, rfl⟩
      · have hic' : decide ((i : Int) < (c.size : Int)) = false := decide_eq_false (by omega)
        clear hE
        by_cases hm : m = 0
        · have hm' : ((m : Int) != 0) = false := by rw [hm]; rfl
          have HM0 := Aside0.mk hm
          clear hm
          go_wp2_with fail
          (try simp only [Exit.noGoto_ret]); refine bodyPost_ret (results_tmp7 rfl _ _ _) rfl ?_
          rw [HR.out, HT.out, HE2.out, if_pos rfl, if_pos HM0.out]
          exact ⟨rfl, 0, rfl⟩
        · have hm' : ((m : Int) != 0) = true := bne_iff_ne.mpr (by omega)
          have HM0 := Aside0.mk hm
          clear hm
          go_wp2_with fail
          (try simp only [Exit.noGoto_ret]); refine bodyPost_ret (results_tmp7 rfl _ _ _) rfl ?_
          rw [HR.out, HT.out, HE2.out, if_pos rfl, if_neg HM0.out, Int.add_zero]
          exact ⟨rfl, 0, rfl⟩
end
end Go.Proofs.YtohadobpiclllaaGreatDoor
