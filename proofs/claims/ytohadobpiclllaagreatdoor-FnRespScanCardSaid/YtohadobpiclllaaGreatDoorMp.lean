/- ParseFloat: atof64, atof32. -/
import Derived.Test.YtohadobpiclllaaGreatDoorMo
namespace Go.Proofs.YtohadobpiclllaaGreatDoor
section
open Go.RowKit Go.Proofs.YtohadobpiclllaaGreatDoorW.PrintWords Go.Proofs.YtohadobpiclllaaGreatDoorW.PrintMore Go.Proofs.YtohadobpiclllaaGreatDoorW.PrintLast Go.Proofs.YtohadobpiclllaaGreatDoor.PFnRespScan
attribute [local go_sem] max2_int min2_int max_two min_two max_three min_three max_four min_four
set_option linter.unusedVariables false
set_option linter.unusedSimpArgs false
attribute [local go_sem] frombits64 frombits32

/-- Where the tables lie that ParseFloat reads, and what they hold. -/
structure TabX where
  pt : Nat
  tb : Nat
  ft : Nat
  fs : Nat
  T10 : Nat → Nat
  F64 : Nat → Nat
  F32 : Nat → Nat
def TabX.OK (X : TabX) : Prop := (∀ i, X.T10 i < 18446744073709551616) ∧ (∀ k, k < 23 → Some0 FloatKind.f64.format (X.F64 k)) ∧ (∀ k, k < 11 → Some0 FloatKind.f32.format (X.F32 k))
structure Tabs (w : World) (X : TabX) : Prop where
  opt : w.cell? ⟨4, 0, none⟩ = some (.bool true)
  i64 : FInfo w 5 52 11 (-1023)
  i32 : FInfo w 3 23 8 (-127)
  pow : PowT w X.pt
  che : Cheats w X.tb
  e64 : F64T w X.ft X.F64
  e32 : F32T w X.fs X.F32
  t10 : P10T w X.T10
theorem Tabs.mods {w w' : World} {X : TabX} (h : Tabs w X) (hm : Mods (fun _ => False) w w') : Tabs w' X :=
  ⟨hm.cell h.opt id, h.i64.mods hm id, h.i32.mods hm id, h.pow.mods hm id id, h.che.mods hm id id, h.e64.mods hm id id, h.e32.mods hm id id, h.t10.mods hm id⟩
theorem Tabs.sizes {w : World} {X : TabX} (h : Tabs w X) : 11 < w.heap.size ∧ 12 < w.heap.size ∧ 7 < w.heap.size ∧ 5 < w.heap.size ∧ 3 < w.heap.size ∧ X.pt < w.heap.size ∧ X.tb < w.heap.size := by
  obtain ⟨po, hp1, hp2⟩ := h.pow
  obtain ⟨co, hc1, hc2⟩ := h.che
  exact ⟨World.block_lt_of_cell? w _ (h.t10 0 (by omega)), World.block_lt_of_cell? w _ hc1, World.block_lt_of_cell? w _ hp1, World.block_lt_of_cell? w _ h.i64.1, World.block_lt_of_cell? w _ h.i32.1, World.block_lt_of_cell? w _ (hp2 0 (by omega)), World.block_lt_of_cell? w _ (hc2 0 (by omega)).1⟩

/-- A fault's number, or none. -/
def errn : Nat → Value
  | 0 => .nilIface
  | k + 1 => .iface 135 (.int .i64 ((k : Int) + 1))
theorem errv_errn (b : Bool) : errv b = errn (if b then 1 else 0) := by cases b <;> rfl
def AtPost (k : FloatKind) (r n er : Nat) (w : World) (x : Ending) (w' : World) : Prop := x = .returned (.tuple #[.float k r, .int .i64 n, errn er]) ∧ Below w.heap.size w w'

theorem PlainText.extract {c : ByteArray} (h : PlainText c) (n : Nat) : PlainText (c.extract 0 n) := by
  obtain ⟨h1, h2⟩ := h
  have hs : (c.extract 0 n).size = min n c.size := by rw [ByteArray.size_extract]; omega
  refine ⟨by omega, fun i hi => ?_⟩
  have hi2 : i < c.size := by omega
  have e1 : cb (c.extract 0 n) i = cb c i := by
    rw [cb_at _ _ hi, cb_at c i hi2]
    congr 2
    rw [ByteArray.getElem_extract]
    congr 1
    omega
  rw [e1]
  exact h2 i hi2
def isU8 : Option Value → Bool
  | some (.int .u8 n) => decide (n = 0)
  | _ => false
def isI64 : Option Value → Bool
  | some (.int .i64 n) => decide (n = 0)
  | _ => false
def isFalse : Option Value → Bool
  | some (.bool b) => !b
  | _ => false
theorem dec_cells : (Tryz.zeroCells192.size == 804 && (List.range 800).all (fun i => isU8 Tryz.zeroCells192[i]?) && isI64 Tryz.zeroCells192[800]? && isI64 Tryz.zeroCells192[801]? && isFalse Tryz.zeroCells192[802]? && isFalse Tryz.zeroCells192[803]?) = true := by kernel_rfl
theorem is_u8 {o : Option Value} (h : isU8 o = true) : o = some (.int .u8 0) := by
  unfold isU8 at h
  split at h
  · rw [of_decide_eq_true h]
  · cases h
theorem is_i64 {o : Option Value} (h : isI64 o = true) : o = some (.int .i64 0) := by
  unfold isI64 at h
  split at h
  · rw [of_decide_eq_true h]
  · cases h
theorem is_bool {o : Option Value} (h : isFalse o = true) : o = some (.bool false) := by
  unfold isFalse at h
  split at h
  · rename_i b
    cases b
    · rfl
    · cases h
  · cases h
/-- A decimal as it is made. -/
theorem dec_new (w : World) : DecAt (w.alloc (.cells Tryz.zeroCells192 192)) w.heap.size false Dec.nil := by
  have h := dec_cells
  generalize Tryz.zeroCells192 = cs at h ⊢
  rw [Bool.and_eq_true, Bool.and_eq_true, Bool.and_eq_true, Bool.and_eq_true, Bool.and_eq_true] at h
  obtain ⟨⟨⟨⟨⟨h1, h2⟩, h3⟩, h4⟩, h5⟩, h6⟩ := h
  refine ⟨cs, 192, heap_alloc_new w _, beq_iff_eq.mp h1, fun i hi => ?_, is_i64 h3, is_i64 h4, is_bool h5, is_bool h6⟩
  rw [List.all_eq_true] at h2
  exact is_u8 (h2 i (List.mem_range.mpr hi))
theorem b2u32_if (b : Bool) (w : World) :
    Calls Tryz.prog 110 #[.bool b] w fun e w' => e = .returned (.int .u32 (if b then 1 else 0)) ∧ w' = w := by
  cases b <;>
  (go_enter Tryz.func110, Tryz.ntmps110
   go_wp2
   go_ret
   exact ⟨rfl, rfl⟩)

set_option maxHeartbeats 16000000 in
set_option maxRecDepth 100000 in
theorem atof64_any (X : TabX) (hX : X.OK) (c : ByteArray) (hP : PlainText c) (hN : NoIN c) (h7 : c.size ≤ 700) :
    ∃ (r n er : Nat), er ≤ 2 ∧ n ≤ c.size ∧ ∀ (w : World), Tabs w X → Calls Tryz.prog 91 #[.string c] w (AtPost .f64 r n er w) := by
  obtain ⟨m, e, neg, tr, n, ok, hm, he0, he1, hn, hRF⟩ := readFloat_any c hP
  have HS := Aside0.mk (special_none c hN hP.1)
  simp only [rfTuple] at hRF
  have HRF := Aside0.mk hRF
  clear hRF
  cases ok
  · skip
    refine ⟨0, n, 2, by omega, hn, fun w hT => ?_⟩
    have HT := Aside0.mk hT
    clear hT
    go_enter Tryz.func91, Tryz.ntmps91
    go_wp2_with fail
    refine (HS.out w).mono ?_
    rintro x w1 ⟨rfl, n1, rfl⟩
    go_wp2_with fail
    refine (HRF.out _).mono ?_
    rintro x w1 ⟨rfl, n2, rfl⟩
    have HM := Aside0.mk (((Mods.refl (fun _ => False) w).drewN n1).drewN n2)
    obtain ⟨w2, hw2⟩ : ∃ w2, w2 = (w.drewN n1).drewN n2 := ⟨_, rfl⟩
    rw [← hw2] at HM ⊢
    clear hw2
    have hopt := (HT.out.mods HM.out).opt
    go_wp2_with fail
    go_ret3
    exact ⟨rfl, HM.out.below⟩
  · cases neg
    · skip
      by_cases hm0 : m = 0
      · subst hm0
        refine ⟨(bits .or .u64 0 0).toNat, n, 0, by omega, hn, fun w hT => ?_⟩
        have HT := Aside0.mk hT
        clear hT
        go_enter Tryz.func91, Tryz.ntmps91
        go_wp2_with fail
        refine (HS.out w).mono ?_
        rintro x w1 ⟨rfl, n1, rfl⟩
        go_wp2_with fail
        refine (HRF.out _).mono ?_
        rintro x w1 ⟨rfl, n2, rfl⟩
        have HM := Aside0.mk (((Mods.refl (fun _ => False) w).drewN n1).drewN n2)
        obtain ⟨w2, hw2⟩ : ∃ w2, w2 = (w.drewN n1).drewN n2 := ⟨_, rfl⟩
        rw [← hw2] at HM ⊢
        clear hw2
        have hopt := (HT.out.mods HM.out).opt
        go_wp2_with fail
        refine (b2u_if _ _).mono ?_
        rintro x w1 ⟨rfl, rfl⟩
        go_wp2_with fail
        go_ret3
        exact ⟨rfl, HM.out.below⟩
      · have hm0' : ((m : Int) == 0) = false := beq_eq_false_iff_ne.mpr (by omega)
        have hmp : 0 < m := by omega
        clear hm0
        by_cases h310 : 310 < e
        · skip
          refine ⟨(bits .or .u64 0 9218868437227405312).toNat, n, 1, by omega, hn, fun w hT => ?_⟩
          have HT := Aside0.mk hT
          clear hT
          go_enter Tryz.func91, Tryz.ntmps91
          go_wp2_with fail
          refine (HS.out w).mono ?_
          rintro x w1 ⟨rfl, n1, rfl⟩
          go_wp2_with fail
          refine (HRF.out _).mono ?_
          rintro x w1 ⟨rfl, n2, rfl⟩
          have HM := Aside0.mk (((Mods.refl (fun _ => False) w).drewN n1).drewN n2)
          obtain ⟨w2, hw2⟩ : ∃ w2, w2 = (w.drewN n1).drewN n2 := ⟨_, rfl⟩
          rw [← hw2] at HM ⊢
          clear hw2
          have hopt := (HT.out.mods HM.out).opt
          go_wp2_with fail
          refine (b2u_if _ _).mono ?_
          rintro x w1 ⟨rfl, rfl⟩
          go_wp2_with fail
          go_ret3
          exact ⟨rfl, HM.out.below⟩
        · have h310' : decide (310 < e) = false := decide_eq_false h310
          by_cases h345 : e < -345
          · clear h310
            refine ⟨(bits .or .u64 0 0).toNat, n, 0, by omega, hn, fun w hT => ?_⟩
            have HT := Aside0.mk hT
            clear hT
            go_enter Tryz.func91, Tryz.ntmps91
            go_wp2_with fail
            refine (HS.out w).mono ?_
            rintro x w1 ⟨rfl, n1, rfl⟩
            go_wp2_with fail
            refine (HRF.out _).mono ?_
            rintro x w1 ⟨rfl, n2, rfl⟩
            have HM := Aside0.mk (((Mods.refl (fun _ => False) w).drewN n1).drewN n2)
            obtain ⟨w2, hw2⟩ : ∃ w2, w2 = (w.drewN n1).drewN n2 := ⟨_, rfl⟩
            rw [← hw2] at HM ⊢
            clear hw2
            have hopt := (HT.out.mods HM.out).opt
            go_wp2_with fail
            refine (b2u_if _ _).mono ?_
            rintro x w1 ⟨rfl, rfl⟩
            go_wp2_with fail
            go_ret3
            exact ⟨rfl, HM.out.below⟩
          · have h345' : decide (e < -345) = false := decide_eq_false h345
            obtain ⟨x1, ok1, hx1⟩ := exact64_any X.F64 hX.2.1 m e false (by omega) (by omega)
            obtain ⟨r1, bad1, hp1⟩ := parse64_any X.T10 hX.1 m hmp (by omega) e 0 (by omega) (by omega)
            obtain ⟨r2, bad2, hp2⟩ := parse64_any X.T10 hX.1 (m + 1) (by omega) (by omega) e 0 (by omega) (by omega)
            have HX := Aside0.mk hx1
            have HP1 := Aside0.mk hp1
            have HP2 := Aside0.mk hp2
            obtain ⟨er1, her1, her2⟩ : ∃ k, errv bad1 = errn k ∧ k ≤ 1 := ⟨_, errv_errn bad1, by split <;> omega⟩
            have HE1 := Aside0.mk her1
            clear hx1 hp1 hp2 h310 h345 her1
            cases tr
            · cases ok1
              · skip
                refine ⟨r1, n, er1, by omega, hn, fun w hT => ?_⟩
                have HT := Aside0.mk hT
                clear hT
                go_enter Tryz.func91, Tryz.ntmps91
                go_wp2_with fail
                refine (HS.out w).mono ?_
                rintro x w1 ⟨rfl, n1, rfl⟩
                go_wp2_with fail
                refine (HRF.out _).mono ?_
                rintro x w1 ⟨rfl, n2, rfl⟩
                have HM := Aside0.mk (((Mods.refl (fun _ => False) w).drewN n1).drewN n2)
                obtain ⟨w2, hw2⟩ : ∃ w2, w2 = (w.drewN n1).drewN n2 := ⟨_, rfl⟩
                rw [← hw2] at HM ⊢
                clear hw2
                have hopt := (HT.out.mods HM.out).opt
                go_wp2_with fail
                refine (b2u_if _ _).mono ?_
                rintro x w1 ⟨rfl, rfl⟩
                go_wp2_with fail
                refine (HX.out _ X.ft (HT.out.mods HM.out).i64 (HT.out.mods HM.out).e64).mono ?_
                rintro x w3 ⟨rfl, k, rfl⟩
                replace HM := Aside0.mk (HM.out.drewN k)
                obtain ⟨w3, hw3⟩ : ∃ w3, w3 = w1.drewN k := ⟨_, rfl⟩
                rw [← hw3] at HM ⊢
                clear hw3
                go_wp2_with fail
                refine (HP1.out _ ⟨(HT.out.mods HM.out).t10, (HT.out.mods HM.out).sizes.1⟩).mono ?_
                rintro x w4 ⟨rfl, hB⟩
                replace HM := Aside0.mk (HM.out.then_below hB)
                clear hB
                go_wp2_with fail
                go_ret3
                exact ⟨by rw [← HE1.out]; rfl, HM.out.below⟩
              · skip
                refine ⟨x1, n, 0, by omega, hn, fun w hT => ?_⟩
                have HT := Aside0.mk hT
                clear hT
                go_enter Tryz.func91, Tryz.ntmps91
                go_wp2_with fail
                refine (HS.out w).mono ?_
                rintro x w1 ⟨rfl, n1, rfl⟩
                go_wp2_with fail
                refine (HRF.out _).mono ?_
                rintro x w1 ⟨rfl, n2, rfl⟩
                have HM := Aside0.mk (((Mods.refl (fun _ => False) w).drewN n1).drewN n2)
                obtain ⟨w2, hw2⟩ : ∃ w2, w2 = (w.drewN n1).drewN n2 := ⟨_, rfl⟩
                rw [← hw2] at HM ⊢
                clear hw2
                have hopt := (HT.out.mods HM.out).opt
                go_wp2_with fail
                refine (b2u_if _ _).mono ?_
                rintro x w1 ⟨rfl, rfl⟩
                go_wp2_with fail
                refine (HX.out _ X.ft (HT.out.mods HM.out).i64 (HT.out.mods HM.out).e64).mono ?_
                rintro x w3 ⟨rfl, k, rfl⟩
                replace HM := Aside0.mk (HM.out.drewN k)
                obtain ⟨w3, hw3⟩ : ∃ w3, w3 = w1.drewN k := ⟨_, rfl⟩
                rw [← hw3] at HM ⊢
                clear hw3
                go_wp2_with fail
                go_ret3
                exact ⟨rfl, HM.out.below⟩
            · obtain ⟨c1, hc1⟩ : ∃ c, (FloatKind.f64.format.order r1 r2 == some .eq) = c := ⟨_, rfl⟩
              cases c1
              · obtain ⟨ok3, ng, S, hS3, hset⟩ := set_any (c.extract 0 n) (hP.extract n) (by rw [ByteArray.size_extract]; omega)
                have HSET := Aside0.mk hset
                clear hset
                cases ok3
                · skip
                  refine ⟨0, n, 2, by omega, hn, fun w hT => ?_⟩
                  have HT := Aside0.mk hT
                  clear hT
                  go_enter Tryz.func91, Tryz.ntmps91
                  go_wp2_with fail
                  refine (HS.out w).mono ?_
                  rintro x w1 ⟨rfl, n1, rfl⟩
                  go_wp2_with fail
                  refine (HRF.out _).mono ?_
                  rintro x w1 ⟨rfl, n2, rfl⟩
                  have HM := Aside0.mk (((Mods.refl (fun _ => False) w).drewN n1).drewN n2)
                  obtain ⟨w2, hw2⟩ : ∃ w2, w2 = (w.drewN n1).drewN n2 := ⟨_, rfl⟩
                  rw [← hw2] at HM ⊢
                  clear hw2
                  have hopt := (HT.out.mods HM.out).opt
                  go_wp2_with fail
                  refine (b2u_if _ _).mono ?_
                  rintro x w1 ⟨rfl, rfl⟩
                  go_wp2_with fail
                  refine (HP1.out _ ⟨(HT.out.mods HM.out).t10, (HT.out.mods HM.out).sizes.1⟩).mono ?_
                  rintro x w4 ⟨rfl, hB⟩
                  replace HM := Aside0.mk (HM.out.then_below hB)
                  clear hB
                  go_wp2_with fail
                  refine (HP2.out _ ⟨(HT.out.mods HM.out).t10, (HT.out.mods HM.out).sizes.1⟩).mono ?_
                  rintro x w5 ⟨rfl, hB⟩
                  replace HM := Aside0.mk (HM.out.then_below hB)
                  clear hB
                  go_wp2_with fail
                  have hT5 := HT.out.mods HM.out
                  obtain ⟨z11, z12, z7, z5, z3, zpt, ztb⟩ := hT5.sizes
                  have hD0 := dec_new w5
                  refine (HSET.out _ w5.heap.size hD0).mono ?_
                  rintro x w6 ⟨rfl, hD, hM6⟩
                  have hsz := HM.out.size
                  have HM6 := Aside0.mk ((HM.out.alloc (Obj.cells Tryz.zeroCells192 192)).trans hM6 (fun i hi e => absurd e (by omega)))
                  clear hD hM6 hT5 hD0
                  go_wp2_with fail
                  go_ret3
                  exact ⟨rfl, HM6.out.below⟩
                · skip
                  obtain ⟨B, ovf, hfb⟩ := fb64_any S ng (hS3 rfl)
                  have HFB := Aside0.mk hfb
                  clear hfb
                  cases ovf
                  · skip
                    refine ⟨B.toNat, n, 0, by omega, hn, fun w hT => ?_⟩
                    have HT := Aside0.mk hT
                    clear hT
                    go_enter Tryz.func91, Tryz.ntmps91
                    go_wp2_with fail
                    refine (HS.out w).mono ?_
                    rintro x w1 ⟨rfl, n1, rfl⟩
                    go_wp2_with fail
                    refine (HRF.out _).mono ?_
                    rintro x w1 ⟨rfl, n2, rfl⟩
                    have HM := Aside0.mk (((Mods.refl (fun _ => False) w).drewN n1).drewN n2)
                    obtain ⟨w2, hw2⟩ : ∃ w2, w2 = (w.drewN n1).drewN n2 := ⟨_, rfl⟩
                    rw [← hw2] at HM ⊢
                    clear hw2
                    have hopt := (HT.out.mods HM.out).opt
                    go_wp2_with fail
                    refine (b2u_if _ _).mono ?_
                    rintro x w1 ⟨rfl, rfl⟩
                    go_wp2_with fail
                    refine (HP1.out _ ⟨(HT.out.mods HM.out).t10, (HT.out.mods HM.out).sizes.1⟩).mono ?_
                    rintro x w4 ⟨rfl, hB⟩
                    replace HM := Aside0.mk (HM.out.then_below hB)
                    clear hB
                    go_wp2_with fail
                    refine (HP2.out _ ⟨(HT.out.mods HM.out).t10, (HT.out.mods HM.out).sizes.1⟩).mono ?_
                    rintro x w5 ⟨rfl, hB⟩
                    replace HM := Aside0.mk (HM.out.then_below hB)
                    clear hB
                    go_wp2_with fail
                    have hT5 := HT.out.mods HM.out
                    obtain ⟨z11, z12, z7, z5, z3, zpt, ztb⟩ := hT5.sizes
                    have hD0 := dec_new w5
                    refine (HSET.out _ w5.heap.size hD0).mono ?_
                    rintro x w6 ⟨rfl, hD, hM6⟩
                    have hsz := HM.out.size
                    have HM6 := Aside0.mk ((HM.out.alloc (Obj.cells Tryz.zeroCells192 192)).trans hM6 (fun i hi e => absurd e (by omega)))
                    have h56 := ((Mods.refl (fun _ => False) w5).alloc (Obj.cells Tryz.zeroCells192 192)).trans hM6 (fun i hi e => absurd e (by omega))
                    have hT6 := hT5.mods h56
                    have HFB6 := Aside0.mk (HFB.out w6 w5.heap.size X.pt X.tb (hD trivial) hT6.i64 hT6.pow hT6.che (by omega) (by omega) (by omega) (by omega) (by omega))
                    clear hD hM6 hT5 hD0 h56 hT6
                    go_wp2_with fail
                    refine HFB6.out.mono ?_
                    rintro x w7 ⟨rfl, hM7⟩
                    have HM7 := Aside0.mk (HM6.out.trans hM7 (fun i hi e => absurd e (by omega)))
                    clear hM7
                    go_wp2_with fail
                    go_ret3
                    exact ⟨rfl, HM7.out.below⟩
                  · skip
                    refine ⟨B.toNat, n, 1, by omega, hn, fun w hT => ?_⟩
                    have HT := Aside0.mk hT
                    clear hT
                    go_enter Tryz.func91, Tryz.ntmps91
                    go_wp2_with fail
                    refine (HS.out w).mono ?_
                    rintro x w1 ⟨rfl, n1, rfl⟩
                    go_wp2_with fail
                    refine (HRF.out _).mono ?_
                    rintro x w1 ⟨rfl, n2, rfl⟩
                    have HM := Aside0.mk (((Mods.refl (fun _ => False) w).drewN n1).drewN n2)
                    obtain ⟨w2, hw2⟩ : ∃ w2, w2 = (w.drewN n1).drewN n2 := ⟨_, rfl⟩
                    rw [← hw2] at HM ⊢
                    clear hw2
                    have hopt := (HT.out.mods HM.out).opt
                    go_wp2_with fail
                    refine (b2u_if _ _).mono ?_
                    rintro x w1 ⟨rfl, rfl⟩
                    go_wp2_with fail
                    refine (HP1.out _ ⟨(HT.out.mods HM.out).t10, (HT.out.mods HM.out).sizes.1⟩).mono ?_
                    rintro x w4 ⟨rfl, hB⟩
                    replace HM := Aside0.mk (HM.out.then_below hB)
                    clear hB
                    go_wp2_with fail
                    refine (HP2.out _ ⟨(HT.out.mods HM.out).t10, (HT.out.mods HM.out).sizes.1⟩).mono ?_
                    rintro x w5 ⟨rfl, hB⟩
                    replace HM := Aside0.mk (HM.out.then_below hB)
                    clear hB
                    go_wp2_with fail
                    have hT5 := HT.out.mods HM.out
                    obtain ⟨z11, z12, z7, z5, z3, zpt, ztb⟩ := hT5.sizes
                    have hD0 := dec_new w5
                    refine (HSET.out _ w5.heap.size hD0).mono ?_
                    rintro x w6 ⟨rfl, hD, hM6⟩
                    have hsz := HM.out.size
                    have HM6 := Aside0.mk ((HM.out.alloc (Obj.cells Tryz.zeroCells192 192)).trans hM6 (fun i hi e => absurd e (by omega)))
                    have h56 := ((Mods.refl (fun _ => False) w5).alloc (Obj.cells Tryz.zeroCells192 192)).trans hM6 (fun i hi e => absurd e (by omega))
                    have hT6 := hT5.mods h56
                    have HFB6 := Aside0.mk (HFB.out w6 w5.heap.size X.pt X.tb (hD trivial) hT6.i64 hT6.pow hT6.che (by omega) (by omega) (by omega) (by omega) (by omega))
                    clear hD hM6 hT5 hD0 h56 hT6
                    go_wp2_with fail
                    refine HFB6.out.mono ?_
                    rintro x w7 ⟨rfl, hM7⟩
                    have HM7 := Aside0.mk (HM6.out.trans hM7 (fun i hi e => absurd e (by omega)))
                    clear hM7
                    go_wp2_with fail
                    go_ret3
                    exact ⟨rfl, HM7.out.below⟩
              · skip
                refine ⟨r1, n, er1, by omega, hn, fun w hT => ?_⟩
                have HT := Aside0.mk hT
                clear hT
                go_enter Tryz.func91, Tryz.ntmps91
                go_wp2_with fail
                refine (HS.out w).mono ?_
                rintro x w1 ⟨rfl, n1, rfl⟩
                go_wp2_with fail
                refine (HRF.out _).mono ?_
                rintro x w1 ⟨rfl, n2, rfl⟩
                have HM := Aside0.mk (((Mods.refl (fun _ => False) w).drewN n1).drewN n2)
                obtain ⟨w2, hw2⟩ : ∃ w2, w2 = (w.drewN n1).drewN n2 := ⟨_, rfl⟩
                rw [← hw2] at HM ⊢
                clear hw2
                have hopt := (HT.out.mods HM.out).opt
                go_wp2_with fail
                refine (b2u_if _ _).mono ?_
                rintro x w1 ⟨rfl, rfl⟩
                go_wp2_with fail
                refine (HP1.out _ ⟨(HT.out.mods HM.out).t10, (HT.out.mods HM.out).sizes.1⟩).mono ?_
                rintro x w4 ⟨rfl, hB⟩
                replace HM := Aside0.mk (HM.out.then_below hB)
                clear hB
                go_wp2_with fail
                refine (HP2.out _ ⟨(HT.out.mods HM.out).t10, (HT.out.mods HM.out).sizes.1⟩).mono ?_
                rintro x w5 ⟨rfl, hB⟩
                replace HM := Aside0.mk (HM.out.then_below hB)
                clear hB
                go_wp2_with fail
                go_ret3
                exact ⟨by rw [← HE1.out]; rfl, HM.out.below⟩
    · skip
      by_cases hm0 : m = 0
      · subst hm0
        refine ⟨(bits .or .u64 9223372036854775808 0).toNat, n, 0, by omega, hn, fun w hT => ?_⟩
        have HT := Aside0.mk hT
        clear hT
        go_enter Tryz.func91, Tryz.ntmps91
        go_wp2_with fail
        refine (HS.out w).mono ?_
        rintro x w1 ⟨rfl, n1, rfl⟩
        go_wp2_with fail
        refine (HRF.out _).mono ?_
        rintro x w1 ⟨rfl, n2, rfl⟩
        have HM := Aside0.mk (((Mods.refl (fun _ => False) w).drewN n1).drewN n2)
        obtain ⟨w2, hw2⟩ : ∃ w2, w2 = (w.drewN n1).drewN n2 := ⟨_, rfl⟩
        rw [← hw2] at HM ⊢
        clear hw2
        have hopt := (HT.out.mods HM.out).opt
        go_wp2_with fail
        refine (b2u_if _ _).mono ?_
        rintro x w1 ⟨rfl, rfl⟩
        go_wp2_with fail
        go_ret3
        exact ⟨rfl, HM.out.below⟩
      · have hm0' : ((m : Int) == 0) = false := beq_eq_false_iff_ne.mpr (by omega)
        have hmp : 0 < m := by omega
        clear hm0
        by_cases h310 : 310 < e
        · skip
          refine ⟨(bits .or .u64 9223372036854775808 9218868437227405312).toNat, n, 1, by omega, hn, fun w hT => ?_⟩
          have HT := Aside0.mk hT
          clear hT
          go_enter Tryz.func91, Tryz.ntmps91
          go_wp2_with fail
          refine (HS.out w).mono ?_
          rintro x w1 ⟨rfl, n1, rfl⟩
          go_wp2_with fail
          refine (HRF.out _).mono ?_
          rintro x w1 ⟨rfl, n2, rfl⟩
          have HM := Aside0.mk (((Mods.refl (fun _ => False) w).drewN n1).drewN n2)
          obtain ⟨w2, hw2⟩ : ∃ w2, w2 = (w.drewN n1).drewN n2 := ⟨_, rfl⟩
          rw [← hw2] at HM ⊢
          clear hw2
          have hopt := (HT.out.mods HM.out).opt
          go_wp2_with fail
          refine (b2u_if _ _).mono ?_
          rintro x w1 ⟨rfl, rfl⟩
          go_wp2_with fail
          go_ret3
          exact ⟨rfl, HM.out.below⟩
        · have h310' : decide (310 < e) = false := decide_eq_false h310
          by_cases h345 : e < -345
          · clear h310
            refine ⟨(bits .or .u64 9223372036854775808 0).toNat, n, 0, by omega, hn, fun w hT => ?_⟩
            have HT := Aside0.mk hT
            clear hT
            go_enter Tryz.func91, Tryz.ntmps91
            go_wp2_with fail
            refine (HS.out w).mono ?_
            rintro x w1 ⟨rfl, n1, rfl⟩
            go_wp2_with fail
            refine (HRF.out _).mono ?_
            rintro x w1 ⟨rfl, n2, rfl⟩
            have HM := Aside0.mk (((Mods.refl (fun _ => False) w).drewN n1).drewN n2)
            obtain ⟨w2, hw2⟩ : ∃ w2, w2 = (w.drewN n1).drewN n2 := ⟨_, rfl⟩
            rw [← hw2] at HM ⊢
            clear hw2
            have hopt := (HT.out.mods HM.out).opt
            go_wp2_with fail
            refine (b2u_if _ _).mono ?_
            rintro x w1 ⟨rfl, rfl⟩
            go_wp2_with fail
            go_ret3
            exact ⟨rfl, HM.out.below⟩
          · have h345' : decide (e < -345) = false := decide_eq_false h345
            obtain ⟨x1, ok1, hx1⟩ := exact64_any X.F64 hX.2.1 m e true (by omega) (by omega)
            obtain ⟨r1, bad1, hp1⟩ := parse64_any X.T10 hX.1 m hmp (by omega) e 9223372036854775808 (by omega) (by omega)
            obtain ⟨r2, bad2, hp2⟩ := parse64_any X.T10 hX.1 (m + 1) (by omega) (by omega) e 9223372036854775808 (by omega) (by omega)
            have HX := Aside0.mk hx1
            have HP1 := Aside0.mk hp1
            have HP2 := Aside0.mk hp2
            obtain ⟨er1, her1, her2⟩ : ∃ k, errv bad1 = errn k ∧ k ≤ 1 := ⟨_, errv_errn bad1, by split <;> omega⟩
            have HE1 := Aside0.mk her1
            clear hx1 hp1 hp2 h310 h345 her1
            cases tr
            · cases ok1
              · skip
                refine ⟨r1, n, er1, by omega, hn, fun w hT => ?_⟩
                have HT := Aside0.mk hT
                clear hT
                go_enter Tryz.func91, Tryz.ntmps91
                go_wp2_with fail
                refine (HS.out w).mono ?_
                rintro x w1 ⟨rfl, n1, rfl⟩
                go_wp2_with fail
                refine (HRF.out _).mono ?_
                rintro x w1 ⟨rfl, n2, rfl⟩
                have HM := Aside0.mk (((Mods.refl (fun _ => False) w).drewN n1).drewN n2)
                obtain ⟨w2, hw2⟩ : ∃ w2, w2 = (w.drewN n1).drewN n2 := ⟨_, rfl⟩
                rw [← hw2] at HM ⊢
                clear hw2
                have hopt := (HT.out.mods HM.out).opt
                go_wp2_with fail
                refine (b2u_if _ _).mono ?_
                rintro x w1 ⟨rfl, rfl⟩
                go_wp2_with fail
                refine (HX.out _ X.ft (HT.out.mods HM.out).i64 (HT.out.mods HM.out).e64).mono ?_
                rintro x w3 ⟨rfl, k, rfl⟩
                replace HM := Aside0.mk (HM.out.drewN k)
                obtain ⟨w3, hw3⟩ : ∃ w3, w3 = w1.drewN k := ⟨_, rfl⟩
                rw [← hw3] at HM ⊢
                clear hw3
                go_wp2_with fail
                refine (HP1.out _ ⟨(HT.out.mods HM.out).t10, (HT.out.mods HM.out).sizes.1⟩).mono ?_
                rintro x w4 ⟨rfl, hB⟩
                replace HM := Aside0.mk (HM.out.then_below hB)
                clear hB
                go_wp2_with fail
                go_ret3
                exact ⟨by rw [← HE1.out]; rfl, HM.out.below⟩
              · skip
                refine ⟨x1, n, 0, by omega, hn, fun w hT => ?_⟩
                have HT := Aside0.mk hT
                clear hT
                go_enter Tryz.func91, Tryz.ntmps91
                go_wp2_with fail
                refine (HS.out w).mono ?_
                rintro x w1 ⟨rfl, n1, rfl⟩
                go_wp2_with fail
                refine (HRF.out _).mono ?_
                rintro x w1 ⟨rfl, n2, rfl⟩
                have HM := Aside0.mk (((Mods.refl (fun _ => False) w).drewN n1).drewN n2)
                obtain ⟨w2, hw2⟩ : ∃ w2, w2 = (w.drewN n1).drewN n2 := ⟨_, rfl⟩
                rw [← hw2] at HM ⊢
                clear hw2
                have hopt := (HT.out.mods HM.out).opt
                go_wp2_with fail
                refine (b2u_if _ _).mono ?_
                rintro x w1 ⟨rfl, rfl⟩
                go_wp2_with fail
                refine (HX.out _ X.ft (HT.out.mods HM.out).i64 (HT.out.mods HM.out).e64).mono ?_
                rintro x w3 ⟨rfl, k, rfl⟩
                replace HM := Aside0.mk (HM.out.drewN k)
                obtain ⟨w3, hw3⟩ : ∃ w3, w3 = w1.drewN k := ⟨_, rfl⟩
                rw [← hw3] at HM ⊢
                clear hw3
                go_wp2_with fail
                go_ret3
                exact ⟨rfl, HM.out.below⟩
            · obtain ⟨c1, hc1⟩ : ∃ c, (FloatKind.f64.format.order r1 r2 == some .eq) = c := ⟨_, rfl⟩
              cases c1
              · obtain ⟨ok3, ng, S, hS3, hset⟩ := set_any (c.extract 0 n) (hP.extract n) (by rw [ByteArray.size_extract]; omega)
                have HSET := Aside0.mk hset
                clear hset
                cases ok3
                · skip
                  refine ⟨0, n, 2, by omega, hn, fun w hT => ?_⟩
                  have HT := Aside0.mk hT
                  clear hT
                  go_enter Tryz.func91, Tryz.ntmps91
                  go_wp2_with fail
                  refine (HS.out w).mono ?_
                  rintro x w1 ⟨rfl, n1, rfl⟩
                  go_wp2_with fail
                  refine (HRF.out _).mono ?_
                  rintro x w1 ⟨rfl, n2, rfl⟩
                  have HM := Aside0.mk (((Mods.refl (fun _ => False) w).drewN n1).drewN n2)
                  obtain ⟨w2, hw2⟩ : ∃ w2, w2 = (w.drewN n1).drewN n2 := ⟨_, rfl⟩
                  rw [← hw2] at HM ⊢
                  clear hw2
                  have hopt := (HT.out.mods HM.out).opt
                  go_wp2_with fail
                  refine (b2u_if _ _).mono ?_
                  rintro x w1 ⟨rfl, rfl⟩
                  go_wp2_with fail
                  refine (HP1.out _ ⟨(HT.out.mods HM.out).t10, (HT.out.mods HM.out).sizes.1⟩).mono ?_
                  rintro x w4 ⟨rfl, hB⟩
                  replace HM := Aside0.mk (HM.out.then_below hB)
                  clear hB
                  go_wp2_with fail
                  refine (HP2.out _ ⟨(HT.out.mods HM.out).t10, (HT.out.mods HM.out).sizes.1⟩).mono ?_
                  rintro x w5 ⟨rfl, hB⟩
                  replace HM := Aside0.mk (HM.out.then_below hB)
                  clear hB
                  go_wp2_with fail
                  have hT5 := HT.out.mods HM.out
                  obtain ⟨z11, z12, z7, z5, z3, zpt, ztb⟩ := hT5.sizes
                  have hD0 := dec_new w5
                  refine (HSET.out _ w5.heap.size hD0).mono ?_
                  rintro x w6 ⟨rfl, hD, hM6⟩
                  have hsz := HM.out.size
                  have HM6 := Aside0.mk ((HM.out.alloc (Obj.cells Tryz.zeroCells192 192)).trans hM6 (fun i hi e => absurd e (by omega)))
                  clear hD hM6 hT5 hD0
                  go_wp2_with fail
                  go_ret3
                  exact ⟨rfl, HM6.out.below⟩
                · skip
                  obtain ⟨B, ovf, hfb⟩ := fb64_any S ng (hS3 rfl)
                  have HFB := Aside0.mk hfb
                  clear hfb
                  cases ovf
                  · skip
                    refine ⟨B.toNat, n, 0, by omega, hn, fun w hT => ?_⟩
                    have HT := Aside0.mk hT
                    clear hT
                    go_enter Tryz.func91, Tryz.ntmps91
                    go_wp2_with fail
                    refine (HS.out w).mono ?_
                    rintro x w1 ⟨rfl, n1, rfl⟩
                    go_wp2_with fail
                    refine (HRF.out _).mono ?_
                    rintro x w1 ⟨rfl, n2, rfl⟩
                    have HM := Aside0.mk (((Mods.refl (fun _ => False) w).drewN n1).drewN n2)
                    obtain ⟨w2, hw2⟩ : ∃ w2, w2 = (w.drewN n1).drewN n2 := ⟨_, rfl⟩
                    rw [← hw2] at HM ⊢
                    clear hw2
                    have hopt := (HT.out.mods HM.out).opt
                    go_wp2_with fail
                    refine (b2u_if _ _).mono ?_
                    rintro x w1 ⟨rfl, rfl⟩
                    go_wp2_with fail
                    refine (HP1.out _ ⟨(HT.out.mods HM.out).t10, (HT.out.mods HM.out).sizes.1⟩).mono ?_
                    rintro x w4 ⟨rfl, hB⟩
                    replace HM := Aside0.mk (HM.out.then_below hB)
                    clear hB
                    go_wp2_with fail
                    refine (HP2.out _ ⟨(HT.out.mods HM.out).t10, (HT.out.mods HM.out).sizes.1⟩).mono ?_
                    rintro x w5 ⟨rfl, hB⟩
                    replace HM := Aside0.mk (HM.out.then_below hB)
                    clear hB
                    go_wp2_with fail
                    have hT5 := HT.out.mods HM.out
                    obtain ⟨z11, z12, z7, z5, z3, zpt, ztb⟩ := hT5.sizes
                    have hD0 := dec_new w5
                    refine (HSET.out _ w5.heap.size hD0).mono ?_
                    rintro x w6 ⟨rfl, hD, hM6⟩
                    have hsz := HM.out.size
                    have HM6 := Aside0.mk ((HM.out.alloc (Obj.cells Tryz.zeroCells192 192)).trans hM6 (fun i hi e => absurd e (by omega)))
                    have h56 := ((Mods.refl (fun _ => False) w5).alloc (Obj.cells Tryz.zeroCells192 192)).trans hM6 (fun i hi e => absurd e (by omega))
                    have hT6 := hT5.mods h56
                    have HFB6 := Aside0.mk (HFB.out w6 w5.heap.size X.pt X.tb (hD trivial) hT6.i64 hT6.pow hT6.che (by omega) (by omega) (by omega) (by omega) (by omega))
                    clear hD hM6 hT5 hD0 h56 hT6
                    go_wp2_with fail
                    refine HFB6.out.mono ?_
                    rintro x w7 ⟨rfl, hM7⟩
                    have HM7 := Aside0.mk (HM6.out.trans hM7 (fun i hi e => absurd e (by omega)))
                    clear hM7
                    go_wp2_with fail
                    go_ret3
                    exact ⟨rfl, HM7.out.below⟩
                  · skip
                    refine ⟨B.toNat, n, 1, by omega, hn, fun w hT => ?_⟩
                    have HT := Aside0.mk hT
                    clear hT
                    go_enter Tryz.func91, Tryz.ntmps91
                    go_wp2_with fail
                    refine (HS.out w).mono ?_
                    rintro x w1 ⟨rfl, n1, rfl⟩
                    go_wp2_with fail
                    refine (HRF.out _).mono ?_
                    rintro x w1 ⟨rfl, n2, rfl⟩
                    have HM := Aside0.mk (((Mods.refl (fun _ => False) w).drewN n1).drewN n2)
                    obtain ⟨w2, hw2⟩ : ∃ w2, w2 = (w.drewN n1).drewN n2 := ⟨_, rfl⟩
                    rw [← hw2] at HM ⊢
                    clear hw2
                    have hopt := (HT.out.mods HM.out).opt
                    go_wp2_with fail
                    refine (b2u_if _ _).mono ?_
                    rintro x w1 ⟨rfl, rfl⟩
                    go_wp2_with fail
                    refine (HP1.out _ ⟨(HT.out.mods HM.out).t10, (HT.out.mods HM.out).sizes.1⟩).mono ?_
                    rintro x w4 ⟨rfl, hB⟩
                    replace HM := Aside0.mk (HM.out.then_below hB)
                    clear hB
                    go_wp2_with fail
                    refine (HP2.out _ ⟨(HT.out.mods HM.out).t10, (HT.out.mods HM.out).sizes.1⟩).mono ?_
                    rintro x w5 ⟨rfl, hB⟩
                    replace HM := Aside0.mk (HM.out.then_below hB)
                    clear hB
                    go_wp2_with fail
                    have hT5 := HT.out.mods HM.out
                    obtain ⟨z11, z12, z7, z5, z3, zpt, ztb⟩ := hT5.sizes
                    have hD0 := dec_new w5
                    refine (HSET.out _ w5.heap.size hD0).mono ?_
                    rintro x w6 ⟨rfl, hD, hM6⟩
                    have hsz := HM.out.size
                    have HM6 := Aside0.mk ((HM.out.alloc (Obj.cells Tryz.zeroCells192 192)).trans hM6 (fun i hi e => absurd e (by omega)))
                    have h56 := ((Mods.refl (fun _ => False) w5).alloc (Obj.cells Tryz.zeroCells192 192)).trans hM6 (fun i hi e => absurd e (by omega))
                    have hT6 := hT5.mods h56
                    have HFB6 := Aside0.mk (HFB.out w6 w5.heap.size X.pt X.tb (hD trivial) hT6.i64 hT6.pow hT6.che (by omega) (by omega) (by omega) (by omega) (by omega))
                    clear hD hM6 hT5 hD0 h56 hT6
                    go_wp2_with fail
                    refine HFB6.out.mono ?_
                    rintro x w7 ⟨rfl, hM7⟩
                    have HM7 := Aside0.mk (HM6.out.trans hM7 (fun i hi e => absurd e (by omega)))
                    clear hM7
                    go_wp2_with fail
                    go_ret3
                    exact ⟨rfl, HM7.out.below⟩
              · skip
                refine ⟨r1, n, er1, by omega, hn, fun w hT => ?_⟩
                have HT := Aside0.mk hT
                clear hT
                go_enter Tryz.func91, Tryz.ntmps91
                go_wp2_with fail
                refine (HS.out w).mono ?_
                rintro x w1 ⟨rfl, n1, rfl⟩
                go_wp2_with fail
                refine (HRF.out _).mono ?_
                rintro x w1 ⟨rfl, n2, rfl⟩
                have HM := Aside0.mk (((Mods.refl (fun _ => False) w).drewN n1).drewN n2)
                obtain ⟨w2, hw2⟩ : ∃ w2, w2 = (w.drewN n1).drewN n2 := ⟨_, rfl⟩
                rw [← hw2] at HM ⊢
                clear hw2
                have hopt := (HT.out.mods HM.out).opt
                go_wp2_with fail
                refine (b2u_if _ _).mono ?_
                rintro x w1 ⟨rfl, rfl⟩
                go_wp2_with fail
                refine (HP1.out _ ⟨(HT.out.mods HM.out).t10, (HT.out.mods HM.out).sizes.1⟩).mono ?_
                rintro x w4 ⟨rfl, hB⟩
                replace HM := Aside0.mk (HM.out.then_below hB)
                clear hB
                go_wp2_with fail
                refine (HP2.out _ ⟨(HT.out.mods HM.out).t10, (HT.out.mods HM.out).sizes.1⟩).mono ?_
                rintro x w5 ⟨rfl, hB⟩
                replace HM := Aside0.mk (HM.out.then_below hB)
                clear hB
                go_wp2_with fail
                go_ret3
                exact ⟨by rw [← HE1.out]; rfl, HM.out.below⟩

set_option maxHeartbeats 16000000 in
set_option maxRecDepth 100000 in
theorem atof32_any (X : TabX) (hX : X.OK) (c : ByteArray) (hP : PlainText c) (hN : NoIN c) (h7 : c.size ≤ 700) :
    ∃ (r n er : Nat), er ≤ 2 ∧ n ≤ c.size ∧ ∀ (w : World), Tabs w X → Calls Tryz.prog 90 #[.string c] w (AtPost .f32 r n er w) := by
  obtain ⟨m, e, neg, tr, n, ok, hm, he0, he1, hn, hRF⟩ := readFloat_any c hP
  have HS := Aside0.mk (special_none c hN hP.1)
  simp only [rfTuple] at hRF
  have HRF := Aside0.mk hRF
  clear hRF
  cases ok
  · skip
    refine ⟨0, n, 2, by omega, hn, fun w hT => ?_⟩
    have HT := Aside0.mk hT
    clear hT
    go_enter Tryz.func90, Tryz.ntmps90
    go_wp2_with fail
    refine (HS.out w).mono ?_
    rintro x w1 ⟨rfl, n1, rfl⟩
    go_wp2_with fail
    refine (HRF.out _).mono ?_
    rintro x w1 ⟨rfl, n2, rfl⟩
    have HM := Aside0.mk (((Mods.refl (fun _ => False) w).drewN n1).drewN n2)
    obtain ⟨w2, hw2⟩ : ∃ w2, w2 = (w.drewN n1).drewN n2 := ⟨_, rfl⟩
    rw [← hw2] at HM ⊢
    clear hw2
    have hopt := (HT.out.mods HM.out).opt
    go_wp2_with fail
    go_ret3
    exact ⟨rfl, HM.out.below⟩
  · cases neg
    · skip
      by_cases hm0 : m = 0
      · subst hm0
        refine ⟨(bits .or .u32 0 0).toNat, n, 0, by omega, hn, fun w hT => ?_⟩
        have HT := Aside0.mk hT
        clear hT
        go_enter Tryz.func90, Tryz.ntmps90
        go_wp2_with fail
        refine (HS.out w).mono ?_
        rintro x w1 ⟨rfl, n1, rfl⟩
        go_wp2_with fail
        refine (HRF.out _).mono ?_
        rintro x w1 ⟨rfl, n2, rfl⟩
        have HM := Aside0.mk (((Mods.refl (fun _ => False) w).drewN n1).drewN n2)
        obtain ⟨w2, hw2⟩ : ∃ w2, w2 = (w.drewN n1).drewN n2 := ⟨_, rfl⟩
        rw [← hw2] at HM ⊢
        clear hw2
        have hopt := (HT.out.mods HM.out).opt
        go_wp2_with fail
        refine (b2u32_if _ _).mono ?_
        rintro x w1 ⟨rfl, rfl⟩
        go_wp2_with fail
        go_ret3
        exact ⟨rfl, HM.out.below⟩
      · have hm0' : ((m : Int) == 0) = false := beq_eq_false_iff_ne.mpr (by omega)
        have hmp : 0 < m := by omega
        clear hm0
        by_cases h310 : 40 < e
        · skip
          refine ⟨(bits .or .u32 0 2139095040).toNat, n, 1, by omega, hn, fun w hT => ?_⟩
          have HT := Aside0.mk hT
          clear hT
          go_enter Tryz.func90, Tryz.ntmps90
          go_wp2_with fail
          refine (HS.out w).mono ?_
          rintro x w1 ⟨rfl, n1, rfl⟩
          go_wp2_with fail
          refine (HRF.out _).mono ?_
          rintro x w1 ⟨rfl, n2, rfl⟩
          have HM := Aside0.mk (((Mods.refl (fun _ => False) w).drewN n1).drewN n2)
          obtain ⟨w2, hw2⟩ : ∃ w2, w2 = (w.drewN n1).drewN n2 := ⟨_, rfl⟩
          rw [← hw2] at HM ⊢
          clear hw2
          have hopt := (HT.out.mods HM.out).opt
          go_wp2_with fail
          refine (b2u32_if _ _).mono ?_
          rintro x w1 ⟨rfl, rfl⟩
          go_wp2_with fail
          go_ret3
          exact ⟨rfl, HM.out.below⟩
        · have h310' : decide (40 < e) = false := decide_eq_false h310
          by_cases h345 : e < -70
          · clear h310
            refine ⟨(bits .or .u32 0 0).toNat, n, 0, by omega, hn, fun w hT => ?_⟩
            have HT := Aside0.mk hT
            clear hT
            go_enter Tryz.func90, Tryz.ntmps90
            go_wp2_with fail
            refine (HS.out w).mono ?_
            rintro x w1 ⟨rfl, n1, rfl⟩
            go_wp2_with fail
            refine (HRF.out _).mono ?_
            rintro x w1 ⟨rfl, n2, rfl⟩
            have HM := Aside0.mk (((Mods.refl (fun _ => False) w).drewN n1).drewN n2)
            obtain ⟨w2, hw2⟩ : ∃ w2, w2 = (w.drewN n1).drewN n2 := ⟨_, rfl⟩
            rw [← hw2] at HM ⊢
            clear hw2
            have hopt := (HT.out.mods HM.out).opt
            go_wp2_with fail
            refine (b2u32_if _ _).mono ?_
            rintro x w1 ⟨rfl, rfl⟩
            go_wp2_with fail
            go_ret3
            exact ⟨rfl, HM.out.below⟩
          · have h345' : decide (e < -70) = false := decide_eq_false h345
            obtain ⟨x1, ok1, hx1⟩ := exact32_any X.F32 hX.2.2 m e false (by omega) (by omega)
            obtain ⟨r1, bad1, hp1⟩ := parse32_any X.T10 hX.1 m hmp (by omega) e 0 (by omega) (by omega)
            obtain ⟨r2, bad2, hp2⟩ := parse32_any X.T10 hX.1 (m + 1) (by omega) (by omega) e 0 (by omega) (by omega)
            have HX := Aside0.mk hx1
            have HP1 := Aside0.mk hp1
            have HP2 := Aside0.mk hp2
            obtain ⟨er1, her1, her2⟩ : ∃ k, errv bad1 = errn k ∧ k ≤ 1 := ⟨_, errv_errn bad1, by split <;> omega⟩
            have HE1 := Aside0.mk her1
            clear hx1 hp1 hp2 h310 h345 her1
            cases tr
            · cases ok1
              · skip
                refine ⟨r1, n, er1, by omega, hn, fun w hT => ?_⟩
                have HT := Aside0.mk hT
                clear hT
                go_enter Tryz.func90, Tryz.ntmps90
                go_wp2_with fail
                refine (HS.out w).mono ?_
                rintro x w1 ⟨rfl, n1, rfl⟩
                go_wp2_with fail
                refine (HRF.out _).mono ?_
                rintro x w1 ⟨rfl, n2, rfl⟩
                have HM := Aside0.mk (((Mods.refl (fun _ => False) w).drewN n1).drewN n2)
                obtain ⟨w2, hw2⟩ : ∃ w2, w2 = (w.drewN n1).drewN n2 := ⟨_, rfl⟩
                rw [← hw2] at HM ⊢
                clear hw2
                have hopt := (HT.out.mods HM.out).opt
                go_wp2_with fail
                refine (b2u32_if _ _).mono ?_
                rintro x w1 ⟨rfl, rfl⟩
                go_wp2_with fail
                refine (HX.out _ X.fs (HT.out.mods HM.out).e32).mono ?_
                rintro x w3 ⟨rfl, k, rfl⟩
                replace HM := Aside0.mk (HM.out.drewN k)
                obtain ⟨w3, hw3⟩ : ∃ w3, w3 = w1.drewN k := ⟨_, rfl⟩
                rw [← hw3] at HM ⊢
                clear hw3
                go_wp2_with fail
                refine (HP1.out _ ⟨(HT.out.mods HM.out).t10, (HT.out.mods HM.out).sizes.1⟩).mono ?_
                rintro x w4 ⟨rfl, hB⟩
                replace HM := Aside0.mk (HM.out.then_below hB)
                clear hB
                go_wp2_with fail
                go_ret3
                exact ⟨by rw [← HE1.out]; rfl, HM.out.below⟩
              · skip
                refine ⟨x1, n, 0, by omega, hn, fun w hT => ?_⟩
                have HT := Aside0.mk hT
                clear hT
                go_enter Tryz.func90, Tryz.ntmps90
                go_wp2_with fail
                refine (HS.out w).mono ?_
                rintro x w1 ⟨rfl, n1, rfl⟩
                go_wp2_with fail
                refine (HRF.out _).mono ?_
                rintro x w1 ⟨rfl, n2, rfl⟩
                have HM := Aside0.mk (((Mods.refl (fun _ => False) w).drewN n1).drewN n2)
                obtain ⟨w2, hw2⟩ : ∃ w2, w2 = (w.drewN n1).drewN n2 := ⟨_, rfl⟩
                rw [← hw2] at HM ⊢
                clear hw2
                have hopt := (HT.out.mods HM.out).opt
                go_wp2_with fail
                refine (b2u32_if _ _).mono ?_
                rintro x w1 ⟨rfl, rfl⟩
                go_wp2_with fail
                refine (HX.out _ X.fs (HT.out.mods HM.out).e32).mono ?_
                rintro x w3 ⟨rfl, k, rfl⟩
                replace HM := Aside0.mk (HM.out.drewN k)
                obtain ⟨w3, hw3⟩ : ∃ w3, w3 = w1.drewN k := ⟨_, rfl⟩
                rw [← hw3] at HM ⊢
                clear hw3
                go_wp2_with fail
                go_ret3
                exact ⟨rfl, HM.out.below⟩
            · obtain ⟨c1, hc1⟩ : ∃ c, (FloatKind.f32.format.order r1 r2 == some .eq) = c := ⟨_, rfl⟩
              cases c1
              · obtain ⟨ok3, ng, S, hS3, hset⟩ := set_any (c.extract 0 n) (hP.extract n) (by rw [ByteArray.size_extract]; omega)
                have HSET := Aside0.mk hset
                clear hset
                cases ok3
                · skip
                  refine ⟨0, n, 2, by omega, hn, fun w hT => ?_⟩
                  have HT := Aside0.mk hT
                  clear hT
                  go_enter Tryz.func90, Tryz.ntmps90
                  go_wp2_with fail
                  refine (HS.out w).mono ?_
                  rintro x w1 ⟨rfl, n1, rfl⟩
                  go_wp2_with fail
                  refine (HRF.out _).mono ?_
                  rintro x w1 ⟨rfl, n2, rfl⟩
                  have HM := Aside0.mk (((Mods.refl (fun _ => False) w).drewN n1).drewN n2)
                  obtain ⟨w2, hw2⟩ : ∃ w2, w2 = (w.drewN n1).drewN n2 := ⟨_, rfl⟩
                  rw [← hw2] at HM ⊢
                  clear hw2
                  have hopt := (HT.out.mods HM.out).opt
                  go_wp2_with fail
                  refine (b2u32_if _ _).mono ?_
                  rintro x w1 ⟨rfl, rfl⟩
                  go_wp2_with fail
                  refine (HP1.out _ ⟨(HT.out.mods HM.out).t10, (HT.out.mods HM.out).sizes.1⟩).mono ?_
                  rintro x w4 ⟨rfl, hB⟩
                  replace HM := Aside0.mk (HM.out.then_below hB)
                  clear hB
                  go_wp2_with fail
                  refine (HP2.out _ ⟨(HT.out.mods HM.out).t10, (HT.out.mods HM.out).sizes.1⟩).mono ?_
                  rintro x w5 ⟨rfl, hB⟩
                  replace HM := Aside0.mk (HM.out.then_below hB)
                  clear hB
                  go_wp2_with fail
                  have hT5 := HT.out.mods HM.out
                  obtain ⟨z11, z12, z7, z5, z3, zpt, ztb⟩ := hT5.sizes
                  have hD0 := dec_new w5
                  refine (HSET.out _ w5.heap.size hD0).mono ?_
                  rintro x w6 ⟨rfl, hD, hM6⟩
                  have hsz := HM.out.size
                  have HM6 := Aside0.mk ((HM.out.alloc (Obj.cells Tryz.zeroCells192 192)).trans hM6 (fun i hi e => absurd e (by omega)))
                  clear hD hM6 hT5 hD0
                  go_wp2_with fail
                  go_ret3
                  exact ⟨rfl, HM6.out.below⟩
                · skip
                  obtain ⟨B, ovf, hfb⟩ := fb32_any S ng (hS3 rfl)
                  have HFB := Aside0.mk hfb
                  clear hfb
                  cases ovf
                  · skip
                    refine ⟨(B % 4294967296).toNat, n, 0, by omega, hn, fun w hT => ?_⟩
                    have HT := Aside0.mk hT
                    clear hT
                    go_enter Tryz.func90, Tryz.ntmps90
                    go_wp2_with fail
                    refine (HS.out w).mono ?_
                    rintro x w1 ⟨rfl, n1, rfl⟩
                    go_wp2_with fail
                    refine (HRF.out _).mono ?_
                    rintro x w1 ⟨rfl, n2, rfl⟩
                    have HM := Aside0.mk (((Mods.refl (fun _ => False) w).drewN n1).drewN n2)
                    obtain ⟨w2, hw2⟩ : ∃ w2, w2 = (w.drewN n1).drewN n2 := ⟨_, rfl⟩
                    rw [← hw2] at HM ⊢
                    clear hw2
                    have hopt := (HT.out.mods HM.out).opt
                    go_wp2_with fail
                    refine (b2u32_if _ _).mono ?_
                    rintro x w1 ⟨rfl, rfl⟩
                    go_wp2_with fail
                    refine (HP1.out _ ⟨(HT.out.mods HM.out).t10, (HT.out.mods HM.out).sizes.1⟩).mono ?_
                    rintro x w4 ⟨rfl, hB⟩
                    replace HM := Aside0.mk (HM.out.then_below hB)
                    clear hB
                    go_wp2_with fail
                    refine (HP2.out _ ⟨(HT.out.mods HM.out).t10, (HT.out.mods HM.out).sizes.1⟩).mono ?_
                    rintro x w5 ⟨rfl, hB⟩
                    replace HM := Aside0.mk (HM.out.then_below hB)
                    clear hB
                    go_wp2_with fail
                    have hT5 := HT.out.mods HM.out
                    obtain ⟨z11, z12, z7, z5, z3, zpt, ztb⟩ := hT5.sizes
                    have hD0 := dec_new w5
                    refine (HSET.out _ w5.heap.size hD0).mono ?_
                    rintro x w6 ⟨rfl, hD, hM6⟩
                    have hsz := HM.out.size
                    have HM6 := Aside0.mk ((HM.out.alloc (Obj.cells Tryz.zeroCells192 192)).trans hM6 (fun i hi e => absurd e (by omega)))
                    have h56 := ((Mods.refl (fun _ => False) w5).alloc (Obj.cells Tryz.zeroCells192 192)).trans hM6 (fun i hi e => absurd e (by omega))
                    have hT6 := hT5.mods h56
                    have HFB6 := Aside0.mk (HFB.out w6 w5.heap.size X.pt X.tb (hD trivial) hT6.i32 hT6.pow hT6.che (by omega) (by omega) (by omega) (by omega) (by omega))
                    clear hD hM6 hT5 hD0 h56 hT6
                    go_wp2_with fail
                    refine HFB6.out.mono ?_
                    rintro x w7 ⟨rfl, hM7⟩
                    have HM7 := Aside0.mk (HM6.out.trans hM7 (fun i hi e => absurd e (by omega)))
                    clear hM7
                    go_wp2_with fail
                    go_ret3
                    exact ⟨rfl, HM7.out.below⟩
                  · skip
                    refine ⟨(B % 4294967296).toNat, n, 1, by omega, hn, fun w hT => ?_⟩
                    have HT := Aside0.mk hT
                    clear hT
                    go_enter Tryz.func90, Tryz.ntmps90
                    go_wp2_with fail
                    refine (HS.out w).mono ?_
                    rintro x w1 ⟨rfl, n1, rfl⟩
                    go_wp2_with fail
                    refine (HRF.out _).mono ?_
                    rintro x w1 ⟨rfl, n2, rfl⟩
                    have HM := Aside0.mk (((Mods.refl (fun _ => False) w).drewN n1).drewN n2)
                    obtain ⟨w2, hw2⟩ : ∃ w2, w2 = (w.drewN n1).drewN n2 := ⟨_, rfl⟩
                    rw [← hw2] at HM ⊢
                    clear hw2
                    have hopt := (HT.out.mods HM.out).opt
                    go_wp2_with fail
                    refine (b2u32_if _ _).mono ?_
                    rintro x w1 ⟨rfl, rfl⟩
                    go_wp2_with fail
                    refine (HP1.out _ ⟨(HT.out.mods HM.out).t10, (HT.out.mods HM.out).sizes.1⟩).mono ?_
                    rintro x w4 ⟨rfl, hB⟩
                    replace HM := Aside0.mk (HM.out.then_below hB)
                    clear hB
                    go_wp2_with fail
                    refine (HP2.out _ ⟨(HT.out.mods HM.out).t10, (HT.out.mods HM.out).sizes.1⟩).mono ?_
                    rintro x w5 ⟨rfl, hB⟩
                    replace HM := Aside0.mk (HM.out.then_below hB)
                    clear hB
                    go_wp2_with fail
                    have hT5 := HT.out.mods HM.out
                    obtain ⟨z11, z12, z7, z5, z3, zpt, ztb⟩ := hT5.sizes
                    have hD0 := dec_new w5
                    refine (HSET.out _ w5.heap.size hD0).mono ?_
                    rintro x w6 ⟨rfl, hD, hM6⟩
                    have hsz := HM.out.size
                    have HM6 := Aside0.mk ((HM.out.alloc (Obj.cells Tryz.zeroCells192 192)).trans hM6 (fun i hi e => absurd e (by omega)))
                    have h56 := ((Mods.refl (fun _ => False) w5).alloc (Obj.cells Tryz.zeroCells192 192)).trans hM6 (fun i hi e => absurd e (by omega))
                    have hT6 := hT5.mods h56
                    have HFB6 := Aside0.mk (HFB.out w6 w5.heap.size X.pt X.tb (hD trivial) hT6.i32 hT6.pow hT6.che (by omega) (by omega) (by omega) (by omega) (by omega))
                    clear hD hM6 hT5 hD0 h56 hT6
                    go_wp2_with fail
                    refine HFB6.out.mono ?_
                    rintro x w7 ⟨rfl, hM7⟩
                    have HM7 := Aside0.mk (HM6.out.trans hM7 (fun i hi e => absurd e (by omega)))
                    clear hM7
                    go_wp2_with fail
                    go_ret3
                    exact ⟨rfl, HM7.out.below⟩
              · skip
                refine ⟨r1, n, er1, by omega, hn, fun w hT => ?_⟩
                have HT := Aside0.mk hT
                clear hT
                go_enter Tryz.func90, Tryz.ntmps90
                go_wp2_with fail
                refine (HS.out w).mono ?_
                rintro x w1 ⟨rfl, n1, rfl⟩
                go_wp2_with fail
                refine (HRF.out _).mono ?_
                rintro x w1 ⟨rfl, n2, rfl⟩
                have HM := Aside0.mk (((Mods.refl (fun _ => False) w).drewN n1).drewN n2)
                obtain ⟨w2, hw2⟩ : ∃ w2, w2 = (w.drewN n1).drewN n2 := ⟨_, rfl⟩
                rw [← hw2] at HM ⊢
                clear hw2
                have hopt := (HT.out.mods HM.out).opt
                go_wp2_with fail
                refine (b2u32_if _ _).mono ?_
                rintro x w1 ⟨rfl, rfl⟩
                go_wp2_with fail
                refine (HP1.out _ ⟨(HT.out.mods HM.out).t10, (HT.out.mods HM.out).sizes.1⟩).mono ?_
                rintro x w4 ⟨rfl, hB⟩
                replace HM := Aside0.mk (HM.out.then_below hB)
                clear hB
                go_wp2_with fail
                refine (HP2.out _ ⟨(HT.out.mods HM.out).t10, (HT.out.mods HM.out).sizes.1⟩).mono ?_
                rintro x w5 ⟨rfl, hB⟩
                replace HM := Aside0.mk (HM.out.then_below hB)
                clear hB
                go_wp2_with fail
                go_ret3
                exact ⟨by rw [← HE1.out]; rfl, HM.out.below⟩
    · skip
      by_cases hm0 : m = 0
      · subst hm0
        refine ⟨(bits .or .u32 2147483648 0).toNat, n, 0, by omega, hn, fun w hT => ?_⟩
        have HT := Aside0.mk hT
        clear hT
        go_enter Tryz.func90, Tryz.ntmps90
        go_wp2_with fail
        refine (HS.out w).mono ?_
        rintro x w1 ⟨rfl, n1, rfl⟩
        go_wp2_with fail
        refine (HRF.out _).mono ?_
        rintro x w1 ⟨rfl, n2, rfl⟩
        have HM := Aside0.mk (((Mods.refl (fun _ => False) w).drewN n1).drewN n2)
        obtain ⟨w2, hw2⟩ : ∃ w2, w2 = (w.drewN n1).drewN n2 := ⟨_, rfl⟩
        rw [← hw2] at HM ⊢
        clear hw2
        have hopt := (HT.out.mods HM.out).opt
        go_wp2_with fail
        refine (b2u32_if _ _).mono ?_
        rintro x w1 ⟨rfl, rfl⟩
        go_wp2_with fail
        go_ret3
        exact ⟨rfl, HM.out.below⟩
      · have hm0' : ((m : Int) == 0) = false := beq_eq_false_iff_ne.mpr (by omega)
        have hmp : 0 < m := by omega
        clear hm0
        by_cases h310 : 40 < e
        · skip
          refine ⟨(bits .or .u32 2147483648 2139095040).toNat, n, 1, by omega, hn, fun w hT => ?_⟩
          have HT := Aside0.mk hT
          clear hT
          go_enter Tryz.func90, Tryz.ntmps90
          go_wp2_with fail
          refine (HS.out w).mono ?_
          rintro x w1 ⟨rfl, n1, rfl⟩
          go_wp2_with fail
          refine (HRF.out _).mono ?_
          rintro x w1 ⟨rfl, n2, rfl⟩
          have HM := Aside0.mk (((Mods.refl (fun _ => False) w).drewN n1).drewN n2)
          obtain ⟨w2, hw2⟩ : ∃ w2, w2 = (w.drewN n1).drewN n2 := ⟨_, rfl⟩
          rw [← hw2] at HM ⊢
          clear hw2
          have hopt := (HT.out.mods HM.out).opt
          go_wp2_with fail
          refine (b2u32_if _ _).mono ?_
          rintro x w1 ⟨rfl, rfl⟩
          go_wp2_with fail
          go_ret3
          exact ⟨rfl, HM.out.below⟩
        · have h310' : decide (40 < e) = false := decide_eq_false h310
          by_cases h345 : e < -70
          · clear h310
            refine ⟨(bits .or .u32 2147483648 0).toNat, n, 0, by omega, hn, fun w hT => ?_⟩
            have HT := Aside0.mk hT
            clear hT
            go_enter Tryz.func90, Tryz.ntmps90
            go_wp2_with fail
            refine (HS.out w).mono ?_
            rintro x w1 ⟨rfl, n1, rfl⟩
            go_wp2_with fail
            refine (HRF.out _).mono ?_
            rintro x w1 ⟨rfl, n2, rfl⟩
            have HM := Aside0.mk (((Mods.refl (fun _ => False) w).drewN n1).drewN n2)
            obtain ⟨w2, hw2⟩ : ∃ w2, w2 = (w.drewN n1).drewN n2 := ⟨_, rfl⟩
            rw [← hw2] at HM ⊢
            clear hw2
            have hopt := (HT.out.mods HM.out).opt
            go_wp2_with fail
            refine (b2u32_if _ _).mono ?_
            rintro x w1 ⟨rfl, rfl⟩
            go_wp2_with fail
            go_ret3
            exact ⟨rfl, HM.out.below⟩
          · have h345' : decide (e < -70) = false := decide_eq_false h345
            obtain ⟨x1, ok1, hx1⟩ := exact32_any X.F32 hX.2.2 m e true (by omega) (by omega)
            obtain ⟨r1, bad1, hp1⟩ := parse32_any X.T10 hX.1 m hmp (by omega) e 2147483648 (by omega) (by omega)
            obtain ⟨r2, bad2, hp2⟩ := parse32_any X.T10 hX.1 (m + 1) (by omega) (by omega) e 2147483648 (by omega) (by omega)
            have HX := Aside0.mk hx1
            have HP1 := Aside0.mk hp1
            have HP2 := Aside0.mk hp2
            obtain ⟨er1, her1, her2⟩ : ∃ k, errv bad1 = errn k ∧ k ≤ 1 := ⟨_, errv_errn bad1, by split <;> omega⟩
            have HE1 := Aside0.mk her1
            clear hx1 hp1 hp2 h310 h345 her1
            cases tr
            · cases ok1
              · skip
                refine ⟨r1, n, er1, by omega, hn, fun w hT => ?_⟩
                have HT := Aside0.mk hT
                clear hT
                go_enter Tryz.func90, Tryz.ntmps90
                go_wp2_with fail
                refine (HS.out w).mono ?_
                rintro x w1 ⟨rfl, n1, rfl⟩
                go_wp2_with fail
                refine (HRF.out _).mono ?_
                rintro x w1 ⟨rfl, n2, rfl⟩
                have HM := Aside0.mk (((Mods.refl (fun _ => False) w).drewN n1).drewN n2)
                obtain ⟨w2, hw2⟩ : ∃ w2, w2 = (w.drewN n1).drewN n2 := ⟨_, rfl⟩
                rw [← hw2] at HM ⊢
                clear hw2
                have hopt := (HT.out.mods HM.out).opt
                go_wp2_with fail
                refine (b2u32_if _ _).mono ?_
                rintro x w1 ⟨rfl, rfl⟩
                go_wp2_with fail
                refine (HX.out _ X.fs (HT.out.mods HM.out).e32).mono ?_
                rintro x w3 ⟨rfl, k, rfl⟩
                replace HM := Aside0.mk (HM.out.drewN k)
                obtain ⟨w3, hw3⟩ : ∃ w3, w3 = w1.drewN k := ⟨_, rfl⟩
                rw [← hw3] at HM ⊢
                clear hw3
                go_wp2_with fail
                refine (HP1.out _ ⟨(HT.out.mods HM.out).t10, (HT.out.mods HM.out).sizes.1⟩).mono ?_
                rintro x w4 ⟨rfl, hB⟩
                replace HM := Aside0.mk (HM.out.then_below hB)
                clear hB
                go_wp2_with fail
                go_ret3
                exact ⟨by rw [← HE1.out]; rfl, HM.out.below⟩
              · skip
                refine ⟨x1, n, 0, by omega, hn, fun w hT => ?_⟩
                have HT := Aside0.mk hT
                clear hT
                go_enter Tryz.func90, Tryz.ntmps90
                go_wp2_with fail
                refine (HS.out w).mono ?_
                rintro x w1 ⟨rfl, n1, rfl⟩
                go_wp2_with fail
                refine (HRF.out _).mono ?_
                rintro x w1 ⟨rfl, n2, rfl⟩
                have HM := Aside0.mk (((Mods.refl (fun _ => False) w).drewN n1).drewN n2)
                obtain ⟨w2, hw2⟩ : ∃ w2, w2 = (w.drewN n1).drewN n2 := ⟨_, rfl⟩
                rw [← hw2] at HM ⊢
                clear hw2
                have hopt := (HT.out.mods HM.out).opt
                go_wp2_with fail
                refine (b2u32_if _ _).mono ?_
                rintro x w1 ⟨rfl, rfl⟩
                go_wp2_with fail
                refine (HX.out _ X.fs (HT.out.mods HM.out).e32).mono ?_
                rintro x w3 ⟨rfl, k, rfl⟩
                replace HM := Aside0.mk (HM.out.drewN k)
                obtain ⟨w3, hw3⟩ : ∃ w3, w3 = w1.drewN k := ⟨_, rfl⟩
                rw [← hw3] at HM ⊢
                clear hw3
                go_wp2_with fail
                go_ret3
                exact ⟨rfl, HM.out.below⟩
            · obtain ⟨c1, hc1⟩ : ∃ c, (FloatKind.f32.format.order r1 r2 == some .eq) = c := ⟨_, rfl⟩
              cases c1
              · obtain ⟨ok3, ng, S, hS3, hset⟩ := set_any (c.extract 0 n) (hP.extract n) (by rw [ByteArray.size_extract]; omega)
                have HSET := Aside0.mk hset
                clear hset
                cases ok3
                · skip
                  refine ⟨0, n, 2, by omega, hn, fun w hT => ?_⟩
                  have HT := Aside0.mk hT
                  clear hT
                  go_enter Tryz.func90, Tryz.ntmps90
                  go_wp2_with fail
                  refine (HS.out w).mono ?_
                  rintro x w1 ⟨rfl, n1, rfl⟩
                  go_wp2_with fail
                  refine (HRF.out _).mono ?_
                  rintro x w1 ⟨rfl, n2, rfl⟩
                  have HM := Aside0.mk (((Mods.refl (fun _ => False) w).drewN n1).drewN n2)
                  obtain ⟨w2, hw2⟩ : ∃ w2, w2 = (w.drewN n1).drewN n2 := ⟨_, rfl⟩
                  rw [← hw2] at HM ⊢
                  clear hw2
                  have hopt := (HT.out.mods HM.out).opt
                  go_wp2_with fail
                  refine (b2u32_if _ _).mono ?_
                  rintro x w1 ⟨rfl, rfl⟩
                  go_wp2_with fail
                  refine (HP1.out _ ⟨(HT.out.mods HM.out).t10, (HT.out.mods HM.out).sizes.1⟩).mono ?_
                  rintro x w4 ⟨rfl, hB⟩
                  replace HM := Aside0.mk (HM.out.then_below hB)
                  clear hB
                  go_wp2_with fail
                  refine (HP2.out _ ⟨(HT.out.mods HM.out).t10, (HT.out.mods HM.out).sizes.1⟩).mono ?_
                  rintro x w5 ⟨rfl, hB⟩
                  replace HM := Aside0.mk (HM.out.then_below hB)
                  clear hB
                  go_wp2_with fail
                  have hT5 := HT.out.mods HM.out
                  obtain ⟨z11, z12, z7, z5, z3, zpt, ztb⟩ := hT5.sizes
                  have hD0 := dec_new w5
                  refine (HSET.out _ w5.heap.size hD0).mono ?_
                  rintro x w6 ⟨rfl, hD, hM6⟩
                  have hsz := HM.out.size
                  have HM6 := Aside0.mk ((HM.out.alloc (Obj.cells Tryz.zeroCells192 192)).trans hM6 (fun i hi e => absurd e (by omega)))
                  clear hD hM6 hT5 hD0
                  go_wp2_with fail
                  go_ret3
                  exact ⟨rfl, HM6.out.below⟩
                · skip
                  obtain ⟨B, ovf, hfb⟩ := fb32_any S ng (hS3 rfl)
                  have HFB := Aside0.mk hfb
                  clear hfb
                  cases ovf
                  · skip
                    refine ⟨(B % 4294967296).toNat, n, 0, by omega, hn, fun w hT => ?_⟩
                    have HT := Aside0.mk hT
                    clear hT
                    go_enter Tryz.func90, Tryz.ntmps90
                    go_wp2_with fail
                    refine (HS.out w).mono ?_
                    rintro x w1 ⟨rfl, n1, rfl⟩
                    go_wp2_with fail
                    refine (HRF.out _).mono ?_
                    rintro x w1 ⟨rfl, n2, rfl⟩
                    have HM := Aside0.mk (((Mods.refl (fun _ => False) w).drewN n1).drewN n2)
                    obtain ⟨w2, hw2⟩ : ∃ w2, w2 = (w.drewN n1).drewN n2 := ⟨_, rfl⟩
                    rw [← hw2] at HM ⊢
                    clear hw2
                    have hopt := (HT.out.mods HM.out).opt
                    go_wp2_with fail
                    refine (b2u32_if _ _).mono ?_
                    rintro x w1 ⟨rfl, rfl⟩
                    go_wp2_with fail
                    refine (HP1.out _ ⟨(HT.out.mods HM.out).t10, (HT.out.mods HM.out).sizes.1⟩).mono ?_
                    rintro x w4 ⟨rfl, hB⟩
                    replace HM := Aside0.mk (HM.out.then_below hB)
                    clear hB
                    go_wp2_with fail
                    refine (HP2.out _ ⟨(HT.out.mods HM.out).t10, (HT.out.mods HM.out).sizes.1⟩).mono ?_
                    rintro x w5 ⟨rfl, hB⟩
                    replace HM := Aside0.mk (HM.out.then_below hB)
                    clear hB
                    go_wp2_with fail
                    have hT5 := HT.out.mods HM.out
                    obtain ⟨z11, z12, z7, z5, z3, zpt, ztb⟩ := hT5.sizes
                    have hD0 := dec_new w5
                    refine (HSET.out _ w5.heap.size hD0).mono ?_
                    rintro x w6 ⟨rfl, hD, hM6⟩
                    have hsz := HM.out.size
                    have HM6 := Aside0.mk ((HM.out.alloc (Obj.cells Tryz.zeroCells192 192)).trans hM6 (fun i hi e => absurd e (by omega)))
                    have h56 := ((Mods.refl (fun _ => False) w5).alloc (Obj.cells Tryz.zeroCells192 192)).trans hM6 (fun i hi e => absurd e (by omega))
                    have hT6 := hT5.mods h56
                    have HFB6 := Aside0.mk (HFB.out w6 w5.heap.size X.pt X.tb (hD trivial) hT6.i32 hT6.pow hT6.che (by omega) (by omega) (by omega) (by omega) (by omega))
                    clear hD hM6 hT5 hD0 h56 hT6
                    go_wp2_with fail
                    refine HFB6.out.mono ?_
                    rintro x w7 ⟨rfl, hM7⟩
                    have HM7 := Aside0.mk (HM6.out.trans hM7 (fun i hi e => absurd e (by omega)))
                    clear hM7
                    go_wp2_with fail
                    go_ret3
                    exact ⟨rfl, HM7.out.below⟩
                  · skip
                    refine ⟨(B % 4294967296).toNat, n, 1, by omega, hn, fun w hT => ?_⟩
                    have HT := Aside0.mk hT
                    clear hT
                    go_enter Tryz.func90, Tryz.ntmps90
                    go_wp2_with fail
                    refine (HS.out w).mono ?_
                    rintro x w1 ⟨rfl, n1, rfl⟩
                    go_wp2_with fail
                    refine (HRF.out _).mono ?_
                    rintro x w1 ⟨rfl, n2, rfl⟩
                    have HM := Aside0.mk (((Mods.refl (fun _ => False) w).drewN n1).drewN n2)
                    obtain ⟨w2, hw2⟩ : ∃ w2, w2 = (w.drewN n1).drewN n2 := ⟨_, rfl⟩
                    rw [← hw2] at HM ⊢
                    clear hw2
                    have hopt := (HT.out.mods HM.out).opt
                    go_wp2_with fail
                    refine (b2u32_if _ _).mono ?_
                    rintro x w1 ⟨rfl, rfl⟩
                    go_wp2_with fail
                    refine (HP1.out _ ⟨(HT.out.mods HM.out).t10, (HT.out.mods HM.out).sizes.1⟩).mono ?_
                    rintro x w4 ⟨rfl, hB⟩
                    replace HM := Aside0.mk (HM.out.then_below hB)
                    clear hB
                    go_wp2_with fail
                    refine (HP2.out _ ⟨(HT.out.mods HM.out).t10, (HT.out.mods HM.out).sizes.1⟩).mono ?_
                    rintro x w5 ⟨rfl, hB⟩
                    replace HM := Aside0.mk (HM.out.then_below hB)
                    clear hB
                    go_wp2_with fail
                    have hT5 := HT.out.mods HM.out
                    obtain ⟨z11, z12, z7, z5, z3, zpt, ztb⟩ := hT5.sizes
                    have hD0 := dec_new w5
                    refine (HSET.out _ w5.heap.size hD0).mono ?_
                    rintro x w6 ⟨rfl, hD, hM6⟩
                    have hsz := HM.out.size
                    have HM6 := Aside0.mk ((HM.out.alloc (Obj.cells Tryz.zeroCells192 192)).trans hM6 (fun i hi e => absurd e (by omega)))
                    have h56 := ((Mods.refl (fun _ => False) w5).alloc (Obj.cells Tryz.zeroCells192 192)).trans hM6 (fun i hi e => absurd e (by omega))
                    have hT6 := hT5.mods h56
                    have HFB6 := Aside0.mk (HFB.out w6 w5.heap.size X.pt X.tb (hD trivial) hT6.i32 hT6.pow hT6.che (by omega) (by omega) (by omega) (by omega) (by omega))
                    clear hD hM6 hT5 hD0 h56 hT6
                    go_wp2_with fail
                    refine HFB6.out.mono ?_
                    rintro x w7 ⟨rfl, hM7⟩
                    have HM7 := Aside0.mk (HM6.out.trans hM7 (fun i hi e => absurd e (by omega)))
                    clear hM7
                    go_wp2_with fail
                    go_ret3
                    exact ⟨rfl, HM7.out.below⟩
              · skip
                refine ⟨r1, n, er1, by omega, hn, fun w hT => ?_⟩
                have HT := Aside0.mk hT
                clear hT
                go_enter Tryz.func90, Tryz.ntmps90
                go_wp2_with fail
                refine (HS.out w).mono ?_
                rintro x w1 ⟨rfl, n1, rfl⟩
                go_wp2_with fail
                refine (HRF.out _).mono ?_
                rintro x w1 ⟨rfl, n2, rfl⟩
                have HM := Aside0.mk (((Mods.refl (fun _ => False) w).drewN n1).drewN n2)
                obtain ⟨w2, hw2⟩ : ∃ w2, w2 = (w.drewN n1).drewN n2 := ⟨_, rfl⟩
                rw [← hw2] at HM ⊢
                clear hw2
                have hopt := (HT.out.mods HM.out).opt
                go_wp2_with fail
                refine (b2u32_if _ _).mono ?_
                rintro x w1 ⟨rfl, rfl⟩
                go_wp2_with fail
                refine (HP1.out _ ⟨(HT.out.mods HM.out).t10, (HT.out.mods HM.out).sizes.1⟩).mono ?_
                rintro x w4 ⟨rfl, hB⟩
                replace HM := Aside0.mk (HM.out.then_below hB)
                clear hB
                go_wp2_with fail
                refine (HP2.out _ ⟨(HT.out.mods HM.out).t10, (HT.out.mods HM.out).sizes.1⟩).mono ?_
                rintro x w5 ⟨rfl, hB⟩
                replace HM := Aside0.mk (HM.out.then_below hB)
                clear hB
                go_wp2_with fail
                go_ret3
                exact ⟨by rw [← HE1.out]; rfl, HM.out.below⟩
end
end Go.Proofs.YtohadobpiclllaaGreatDoor
