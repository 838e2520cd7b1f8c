/- readRawReplyBuf: words, and replies of one line. readRawReplyBuf: nil replies. readRawReplyBuf: texts. readRawReplyBuf: lists. readRawReplyBuf: maps. -/
import Derived.Test.YtmdlmjjggjemdaaGreatDoorMa
import Derived.Outline
namespace Go.Proofs.YtmdlmjjggjemdaaGreatDoor
section
open Go.RowKit Go.Proofs.YtmdlmjjggjemdaaGreatDoorW.PrintWords Go.Proofs.YtmdlmjjggjemdaaGreatDoorW.PrintMore Go.Proofs.YtmdlmjjggjemdaaGreatDoorW.PrintLast Go.Proofs.YtmdlmjjggjemdaaGreatDoor.PFnRespRaw
attribute [local go_sem] max2_int min2_int max_two min_two max_three min_three max_four min_four
set_option linter.unusedVariables false
set_option linter.unusedSimpArgs false

/-- Bytes ys in a row of the call's own. -/
abbrev Own (w : World) (B : Nat) (v : Value) (ys : List Int) : Prop := w.ownsRow B 5 1 v ys.length (nums .u8 ys)

theorem own_mods {S : Nat → Prop} {w w' : World} {B : Nat} {v : Value} {ys : List Int} (h : Own w B v ys) (hm : Mods S w w') (hs : ∀ k, B ≤ k → ¬ S k) : Own w' B v ys :=
  own_move h (fun k hk => hm.block k (own_lt h k hk) (hs k (own_base h k hk)))
theorem Src.mods {S : Nat → Prop} {w w' : World} {g db : Nat} {xs : List Int} (h : Src w g db xs) (hm : Mods S w w') (h1 : ¬ S g) (h2 : ¬ S db) : Src w' g db xs := by
  obtain ⟨A, c, b, s1, s2, s3, s4, s5, s6, s7⟩ := h
  exact ⟨A, c, b, hm.blk s1 h1, s2, s3, s4, s5, hm.reads s6 (fun a e => by rw [s7 a e]; exact h2), s7⟩

def RawPost (w : World) (g db B : Nat) (rest ys : List Int) (e : Ending) (w' : World) : Prop :=
  ∃ v, e = .returned (.tuple #[v, .nilIface]) ∧ Own w' B v ys ∧ Src w' g db rest ∧ Mods (fun k => k = g ∨ B ≤ k) w w'

/-- The reading of a reply's bytes t onto a row of the call's own. -/
def RawOK (t : List Int) : Prop := ∀ (w : World) (p g db B : Nat) (rest xs : List Int) (v : Value), PRd w p g → p ≠ g → db ≠ g → p < B → g < B → db < B → B ≤ w.heap.size →
  Src w g db (t ++ rest) → Own w B v xs → xs.length + t.length ≤ 1000000 → Calls Tryz.prog 27 #[.pointer (some ⟨p, 0, none⟩), v] w (RawPost w g db B rest (xs ++ t))

theorem crlf_reads (w : World) : ReadsInt (w.alloc (.cells #[.int .u8 13, .int .u8 10] 5)) .u8 (some ⟨w.heap.size, 0, none⟩) 2 [13, 10] := by
  refine ⟨rfl, by omega, fun _ => ⟨_, rfl, fun j hj => ?_⟩⟩
  rw [add_plain, cell_of_row _ _ j _ 5 (0, 0) (heap_alloc_new w _)]
  match j, hj with
  | 0, _ => rfl
  | 1, _ => rfl

/-- The front of readRawReplyBuf: the line is read and appended. -/
theorem front_own {w w1 : World} {g B : Nat} {v : Value} {xs : List Int} (hO : Own w B v xs) (hM : Mods (· = g) w w1) (hgB : g < B) : Own w1 B v xs :=
  own_mods hO hM (fun k hk e => by omega)

theorem grown_cell {w w1 : World} {B db : Nat} {v x : Value} {ys : List Int} {ad : Addr} (hO : Own w B v ys) (hg : w.grownBy w1 v.ownBlock) (hc : w.cell? ad = some x) (hA : ad.block = db) (hd : db < B) : w1.cell? ad = some x :=
  hg.cell hc (fun e => by have := own_base hO ad.block e.symm; omega)
theorem reads_grown {w w1 : World} {B db n : Nat} {v : Value} {xs ys : List Int} {A : Option Addr} (hO : Own w B v ys) (hg : w.grownBy w1 v.ownBlock) (hR : ReadsInt w .u8 A n xs) (hA : ∀ ad, A = some ad → ad.block = db) (hd : db < B) : ReadsInt w1 .u8 A n xs :=
  ((Mods.refl (fun k => B ≤ k) w).grown hg (fun k e => .inl (own_base hO k e))).reads hR (fun a e => by rw [hA a e]; omega)
theorem src_grown {w w1 : World} {g db B : Nat} {v : Value} {xs ys : List Int} (hS : Src w g db xs) (hO : Own w B v ys) (hg : w.grownBy w1 v.ownBlock) (hgB : g < B) (hd : db < B) : Src w1 g db xs :=
  hS.mods ((Mods.refl (fun k => B ≤ k) w).grown hg (fun k e => .inl (own_base hO k e))) (by omega) (by omega)
theorem mods_grown {w w1 w2 : World} {g B : Nat} {v : Value} {ys : List Int} (hM : Mods (· = g) w w1) (hO : Own w1 B v ys) (hg : w1.grownBy w2 v.ownBlock) : Mods (fun k => k = g ∨ B ≤ k) w w2 :=
  (hM.mono (fun _ _ h => .inl h)).grown hg (fun k e => .inl (.inr (own_base hO k e)))
theorem mods_grown2 {w w1 w2 : World} {g B : Nat} {v : Value} {ys : List Int} (hM : Mods (fun k => k = g ∨ B ≤ k) w w1) (hO : Own w1 B v ys) (hg : w1.grownBy w2 v.ownBlock) : Mods (fun k => k = g ∨ B ≤ k) w w2 :=
  hM.grown hg (fun k e => .inl (.inr (own_base hO k e)))

set_option maxHeartbeats 8000000 in
set_option maxRecDepth 100000 in
theorem raw_line (s : Int) (body : List Int) (hs : s ∈ [43, 45, 58, 95, 44, 35, 40]) (hl : Line (s :: body)) : RawOK (s :: body ++ [13, 10]) := by
  intro w p g db B rest xs v hp hpg hdb hpB hgB hdB hB hS hO hlen
  obtain ⟨L, hL⟩ : ∃ L, L = s :: body := ⟨_, rfl⟩
  rw [← hL] at hl hS hlen ⊢
  have h := readLine_calls w p g db L rest hp hpg hdb hS hl
  have hl0 : 0 < L.length := hl.1
  have hl1 : xs.length + L.length + 2 ≤ 1000000 := by simp at hlen; omega
  have H := Aside0.mk h
  have HP := Aside0.mk hp
  have HO := Aside0.mk hO
  have HL := Aside0.mk hL
  clear h hp hS hO hl hlen hL
  obtain ⟨A0, c0, rfl⟩ := own_slice HO.out
  go_enter Tryz.func27, Tryz.ntmps27
  go_wp2_with fail
  refine H.out.mono ?_
  rintro e w1 ⟨A, c, rfl, hc, hR, hA, hS, hM⟩
  obtain ⟨ad, rfl, hcell⟩ := hR.2.2 hl0
  have hx0 : w1.cell? ad = some (.int .u8 s) := by have := hcell 0 hl0; rw [HL.out] at this; simpa [Addr.add] using this
  have HO1 := Aside0.mk (front_own HO.out hM hgB)
  have HR1 := Aside0.mk hR
  have HS1 := Aside0.mk hS
  have HM1 := Aside0.mk hM
  have HA1 := Aside0.mk (hA ad rfl)
  have hB1 : B ≤ w1.heap.size := Nat.le_trans hB hM.size
  clear hR hA hS hM hcell
  go_wp2_with (with_reducible refine print_append_row (w0 := w1) B rfl (.tmp 31) (.tmp 32) 41 5 .u8 1 rfl Tryz.underlying41 info5 (by decide) (.slice A0 xs.length c0) xs L (some ad) L.length c rfl rfl HO1.out HR1.out (Below.refl _ _) hB1 (by omega) ?_)
  intro v1 w2 hown hb hg hat
  obtain ⟨ys, hys⟩ : ∃ ys, ys = xs ++ L := ⟨_, rfl⟩
  rw [← List.length_append, ← hys] at hown
  obtain ⟨A1, c1, rfl⟩ := own_slice hown
  have hx2 := grown_cell HO1.out hg hx0 HA1.out hdB
  have HO2 := Aside0.mk hown
  have HS2 := Aside0.mk (src_grown HS1.out HO1.out hg hgB hdB)
  have HM2 := Aside0.mk (mods_grown HM1.out HO1.out hg)
  have hB2 : B ≤ w2.heap.size := Nat.le_trans hB1 hg.size
  have hyl : ys.length + 2 ≤ 1000000 := by rw [hys, List.length_append]; omega
  have HY := Aside0.mk hys
  clear hown hb hg hat hx0 hys
  go_wp2_with (with_reducible refine print_append_row (w0 := w2) B rfl (.tmp 34) (.tmp 35) 41 5 .u8 1 rfl Tryz.underlying41 info5 (by decide) (.slice A1 ys.length c1) ys [13, 10] (some ⟨w2.heap.size, 0, none⟩) 2 2 rfl rfl (pw_own_below HO2.out (below_alloc (Below.refl _ _) _)) (crlf_reads w2) ((Below.refl _ _).alloc hB2 _) (by simp; omega) (by omega) ?_)
  intro v3 w3 hown hb hg hat
  obtain ⟨zs, hzs⟩ : ∃ zs, zs = ys ++ [13, 10] := ⟨_, rfl⟩
  rw [show ys.length + 2 = (ys ++ [13, 10]).length from by simp, ← hzs] at hown
  obtain ⟨A3, c3, rfl⟩ := own_slice hown
  have hO2 := pw_own_below HO2.out (below_alloc (Below.refl _ w2) (.cells #[.int .u8 13, .int .u8 10] 5))
  have hM2 := (Mods.refl (fun _ => False) w2).alloc (.cells #[.int .u8 13, .int .u8 10] 5)
  have hx3 := grown_cell hO2 hg (hM2.cell hx2 id) HA1.out hdB
  have HO3 := Aside0.mk hown
  have HS3 := Aside0.mk (src_grown (HS2.out.mods hM2 id id) hO2 hg hgB hdB)
  have HM3 := Aside0.mk (mods_grown2 (HM2.out.alloc _) hO2 hg)
  have hB3 : B ≤ w3.heap.size := Nat.le_trans (Nat.le_trans hB2 hM2.size) hg.size
  have HZ := Aside0.mk hzs
  clear hown hb hg hat hx2 hzs hO2 hM2
  simp only [List.mem_cons, List.not_mem_nil, or_false] at hs
  rcases hs with rfl | rfl | rfl | rfl | rfl | rfl | rfl
  all_goals
    go_wp2
    go_ret2
    refine ⟨_, rfl, ?_, HS3.out, HM3.out⟩
    rw [show xs ++ (L ++ [13, 10]) = zs by rw [HZ.out, HY.out, List.append_assoc]]
    exact HO3.out
end

section
open Go.RowKit Go.Proofs.YtmdlmjjggjemdaaGreatDoorW.PrintWords Go.Proofs.YtmdlmjjggjemdaaGreatDoorW.PrintMore Go.Proofs.YtmdlmjjggjemdaaGreatDoorW.PrintLast Go.Proofs.YtmdlmjjggjemdaaGreatDoor.PFnRespRaw
attribute [local go_sem] max2_int min2_int max_two min_two max_three min_three max_four min_four
set_option linter.unusedVariables false
set_option linter.unusedSimpArgs false

set_option maxHeartbeats 8000000 in
set_option maxRecDepth 100000 in
theorem raw_nil (s : Int) (hs : s = 36 ∨ s = 42) : RawOK ([s, 45, 49] ++ [13, 10]) := by
  intro w p g db B rest xs v hp hpg hdb hpB hgB hdB hB hS hO hlen
  have hl : Line [s, 45, 49] := ⟨by simp, by simp, by intro x hx; simp at hx; omega⟩
  obtain ⟨L, hL⟩ : ∃ L, L = [s, 45, 49] := ⟨_, rfl⟩
  rw [← hL] at hl hS hlen ⊢
  have h := readLine_calls w p g db L rest hp hpg hdb hS hl
  have hl0 : 0 < L.length := hl.1
  have hl1 : xs.length + L.length + 2 ≤ 1000000 := by simp at hlen; omega
  have H := Aside0.mk h
  have HP := Aside0.mk hp
  have HO := Aside0.mk hO
  have HL := Aside0.mk hL
  clear h hp hS hO hl hlen hL
  obtain ⟨A0, c0, rfl⟩ := own_slice HO.out
  go_enter Tryz.func27, Tryz.ntmps27
  go_wp2_with fail
  refine H.out.mono ?_
  rintro e w1 ⟨A, c, rfl, hc, hR, hA, hS, hM⟩
  obtain ⟨ad, rfl, hcell⟩ := hR.2.2 hl0
  have hx0 : w1.cell? ad = some (.int .u8 s) := by have := hcell 0 hl0; rw [HL.out] at this; simpa [Addr.add] using this
  have HO1 := Aside0.mk (front_own HO.out hM hgB)
  have HR1 := Aside0.mk hR
  have HS1 := Aside0.mk hS
  have HM1 := Aside0.mk hM
  have HA1 := Aside0.mk (hA ad rfl)
  have hB1 : B ≤ w1.heap.size := Nat.le_trans hB hM.size
  clear hR hA hS hM hcell
  go_wp2_with (with_reducible refine print_append_row (w0 := w1) B rfl (.tmp 31) (.tmp 32) 41 5 .u8 1 rfl Tryz.underlying41 info5 (by decide) (.slice A0 xs.length c0) xs L (some ad) L.length c rfl rfl HO1.out HR1.out (Below.refl _ _) hB1 (by omega) ?_)
  intro v1 w2 hown hb hg hat
  obtain ⟨ys, hys⟩ : ∃ ys, ys = xs ++ L := ⟨_, rfl⟩
  rw [← List.length_append, ← hys] at hown
  obtain ⟨A1, c1, rfl⟩ := own_slice hown
  have hx2 := grown_cell HO1.out hg hx0 HA1.out hdB
  have HO2 := Aside0.mk hown
  have HS2 := Aside0.mk (src_grown HS1.out HO1.out hg hgB hdB)
  have HM2 := Aside0.mk (mods_grown HM1.out HO1.out hg)
  have hB2 : B ≤ w2.heap.size := Nat.le_trans hB1 hg.size
  have hyl : ys.length + 2 ≤ 1000000 := by rw [hys, List.length_append]; omega
  have HY := Aside0.mk hys
  have HR2 := Aside0.mk (reads_grown HO1.out hg HR1.out (fun a e => by cases e; exact HA1.out) hdB)
  clear hown hb hg hat hx0 hys
  go_wp2_with (with_reducible refine print_append_row (w0 := w2) B rfl (.tmp 34) (.tmp 35) 41 5 .u8 1 rfl Tryz.underlying41 info5 (by decide) (.slice A1 ys.length c1) ys [13, 10] (some ⟨w2.heap.size, 0, none⟩) 2 2 rfl rfl (pw_own_below HO2.out (below_alloc (Below.refl _ _) _)) (crlf_reads w2) ((Below.refl _ _).alloc hB2 _) (by simp; omega) (by omega) ?_)
  intro v3 w3 hown hb hg hat
  obtain ⟨zs, hzs⟩ : ∃ zs, zs = ys ++ [13, 10] := ⟨_, rfl⟩
  rw [show ys.length + 2 = (ys ++ [13, 10]).length from by simp, ← hzs] at hown
  obtain ⟨A3, c3, rfl⟩ := own_slice hown
  have hO2 := pw_own_below HO2.out (below_alloc (Below.refl _ w2) (.cells #[.int .u8 13, .int .u8 10] 5))
  have hM2 := (Mods.refl (fun _ => False) w2).alloc (.cells #[.int .u8 13, .int .u8 10] 5)
  have hx3 := grown_cell hO2 hg (hM2.cell hx2 id) HA1.out hdB
  have HO3 := Aside0.mk hown
  have HS3 := Aside0.mk (src_grown (HS2.out.mods hM2 id id) hO2 hg hgB hdB)
  have HM3 := Aside0.mk (mods_grown2 (HM2.out.alloc _) hO2 hg)
  have hB3 : B ≤ w3.heap.size := Nat.le_trans (Nat.le_trans hB2 hM2.size) hg.size
  have HZ := Aside0.mk hzs
  have HR3 := Aside0.mk (reads_grown hO2 hg (hM2.reads HR2.out (fun _ _ => id)) (fun a e => by cases e; exact HA1.out) hdB)
  clear hown hb hg hat hx2 hzs hO2 hM2
  have hr := replyLen_nil w3 (some ad) L.length c s hs hc (by have := HR3.out; rw [HL.out] at this ⊢; exact this)
  have HRL := Aside0.mk hr
  clear hr
  have hne : ∀ w, (binOp .neq 43 (.iface 83 (.string ⟨#[114, 101, 100, 105, 115, 58, 32, 110, 105, 108]⟩)) .nilIface).run Tryz.prog w = .ok (.bool true) w := fun w => by kernel_rfl
  have heq : ∀ w, (binOp .eql 43 (.iface 83 (.string ⟨#[114, 101, 100, 105, 115, 58, 32, 110, 105, 108]⟩)) (.iface 83 (.string ⟨#[114, 101, 100, 105, 115, 58, 32, 110, 105, 108]⟩))).run Tryz.prog w = .ok (.bool true) w := fun w => by kernel_rfl
  rcases hs with rfl | rfl
  all_goals
    go_wp2_with fail
    refine HRL.out.mono ?_
    rintro e w4 ⟨rfl, hb⟩
    have HB4 := Aside0.mk hb
    clear hb
    go_wp2
    go_ret2
    refine ⟨_, rfl, ?_, HS3.out.mods (Mods.of_below HB4.out) id id, HM3.out.then_below HB4.out⟩
    rw [show xs ++ (L ++ [13, 10]) = zs by rw [HZ.out, HY.out, List.append_assoc]]
    exact pw_own_below HO3.out HB4.out
end

section
open Go.RowKit Go.Proofs.YtmdlmjjggjemdaaGreatDoorW.PrintWords Go.Proofs.YtmdlmjjggjemdaaGreatDoorW.PrintMore Go.Proofs.YtmdlmjjggjemdaaGreatDoorW.PrintLast Go.Proofs.YtmdlmjjggjemdaaGreatDoor.PFnRespRaw
attribute [local go_sem] max2_int min2_int max_two min_two max_three min_three max_four min_four
set_option linter.unusedVariables false
set_option linter.unusedSimpArgs false

theorem append_zeros8 {ops : Array Oper} {rest : List Oper} {o : Oper} {a : Act} {Q : Exit → Act → World → Prop} {W : World} (B : Nat) (hgd : o.guard = none) (s x : Operand)
    (ho : o.op = .call { callee := .builtin .append, args := #[s, x], argTypes := #[41, 3] }) (v : Value) (xs : List Int) (m : Nat) (hs : a.eval s = v) (hx : a.eval x = .int .i64 m)
    (HO : Own W B v xs) (hB : B ≤ W.heap.size) (hl : xs.length + m ≤ 140737488355328)
    (h : ∀ v1 w1, Own w1 B v1 (xs ++ List.replicate m 0) → W.grownBy w1 v.ownBlock → wpList Tryz.prog ops Q rest (a.put o.dst v1) w1) : wpList Tryz.prog ops Q (o :: rest) a W := by
  obtain ⟨i0, hi, hzz⟩ := Option.map_eq_some_iff.1 info5
  simp only [Prod.mk.injEq] at hzz
  obtain ⟨hz0, hz1, hz2⟩ := hzz
  have hz : (Builtin.zeroCells (Value.int .u8 0).cells m).toList = nums .u8 (List.replicate m 0) := by
    apply List.ext_getElem
    · simp [nums, Builtin.zeroCells, Value.cells]
    · intro i h1 h2
      simp [nums, Builtin.zeroCells, Value.cells, Nat.mod_one]
  obtain ⟨v1, w1, hr, h2, h3, _⟩ := run_append_zeros (P := Tryz.prog) W B 41 3 o.type 5 i0 (.int .u8 0) 1 1 Tryz.underlying41 Tryz.underlying3 hi hz0 hz1 hz2 rfl (by omega) (by omega) v xs.length (nums .u8 xs) HO .i64 m
    (by rw [hz]; exact nums_one _ _) (by omega) hB
  refine wpList_plain hgd fun K hK => ?_
  unfold Oper.wp execOp
  simp only [ho, resolve, invoke, builtin, Sem.run_bind, Sem.run_pure, Result.andThen_ok, List.map_toArray, List.map_cons, List.map_nil, hs, hx, hr]
  refine hK _ _ (h v1 w1 ?_ h3)
  rw [hz, ← nums_append] at h2
  have hl : (xs ++ List.replicate m 0).length = xs.length + m := by simp
  unfold Own; rw [hl]; exact h2

/-- 'xs[m:]' within the capacity. -/
theorem cut_run (g n c m : Nat) (hm : m ≤ n) (hc : m < c) (hm2 : m ≤ 1000000) : ∀ W : World, (Instr.slice 41 (.slice (some ⟨g, 0, none⟩) n c) (some (.int .i64 (m : Int))) none none).run Tryz.prog W = .ok (.slice (some ⟨g, m, none⟩) (n - m) (c - m)) W := by
  intro W
  obtain ⟨i0, hi, hzz⟩ := Option.map_eq_some_iff.1 info5
  simp only [Prod.mk.injEq] at hzz
  have hel : Tryz.prog.elem 41 = 5 := by simp [Program.elem, Tryz.underlying41]
  have hu : Tryz.prog.underlying 41 = some (.slice (Tryz.prog.elem 41)) := by rw [hel]; exact Tryz.underlying41
  rw [run_slice_l W 41 (some ⟨g, 0, none⟩) n c hu .i64 (m : Int) (Int.natCast_nonneg _) (by omega), hel]
  have e : (⟨g, 0, none⟩ : Addr).add m = ⟨g, m, none⟩ := add_plain g m
  simp [sizeOf, typeInfo, hi, hzz.2.1, sliced, Result.andThen, e, show ¬ c = m by omega]

/-- A row of the call's own, a part of it read anew. -/
theorem own_full {w w' : World} {B g n cap m : Nat} {us zs ds : List Int} (hO : Own w B (.slice (some ⟨g, 0, none⟩) us.length cap) us) (hu : us.length = zs.length + m) (hds : ds.length = m) (ht : us.take zs.length = zs) {cur : List Value}
    (hcur : w.heap[g]? = some (.cells cur.toArray 5 (0, 0)))
    (h : w'.heap[g]? = some (.cells (cur.take zs.length ++ (nums .u8 ds ++ cur.drop (zs.length + m))).toArray 5 (0, 0))) : Own w' B (.slice (some ⟨g, 0, none⟩) us.length cap) (zs ++ ds) := by
  obtain ⟨h1, h2⟩ := hO
  rcases h2 with ⟨h2, _⟩ | ⟨g', cap', cur', e, hB, hh, hn, hc, hs, hk⟩
  · cases h2
  injection e with e e2 e3
  injection e with e
  injection e with e
  subst e e3
  rw [hcur] at hh
  injection hh with hh
  injection hh with hh
  have hcl : cur.length = cap := by have := congrArg Array.size hh; simp at this; omega
  have hk2 : cur.take us.length = nums .u8 us := by rw [← hk, ← hh]; simp
  have hl : (zs ++ ds).length = us.length := by rw [List.length_append]; omega
  have hz : cur.take zs.length = nums .u8 zs := by
    have : (cur.take us.length).take zs.length = (nums .u8 us).take zs.length := by rw [hk2]
    rw [List.take_take, Nat.min_eq_left (by omega)] at this
    rw [this]
    unfold nums
    rw [← List.map_take, ht]
  refine ⟨by rw [nums_length]; omega, .inr ⟨g, cap, _, by rw [hl], hB, h, by omega, hc, ?_, ?_⟩⟩
  · simp [nums_length]; omega
  · have e1 : cur.take zs.length ++ (nums .u8 ds ++ cur.drop (zs.length + m)) = nums .u8 (zs ++ ds) ++ cur.drop (zs.length + m) := by
      rw [hz, nums_append, List.append_assoc]
    rw [e1]
    show ((nums .u8 (zs ++ ds) ++ cur.drop (zs.length + m)).take _) = _
    rw [List.take_append_of_le_length (by rw [nums_length]; omega)]
    exact List.take_of_length_le (by rw [nums_length]; omega)

theorem own_cur {w : World} {B g n cap : Nat} {us : List Int} (hO : Own w B (.slice (some ⟨g, 0, none⟩) us.length cap) us) : ∃ cur : List Value, w.heap[g]? = some (.cells cur.toArray 5 (0, 0)) ∧ cur.length = cap ∧ us.length ≤ cap := by
  obtain ⟨h1, h2⟩ := hO
  rcases h2 with ⟨h2, _⟩ | ⟨g', cap', cur', e, hB, hh, hn, hc, hs, hk⟩
  · cases h2
  injection e with e e2 e3
  injection e with e
  injection e with e
  subst e e3
  exact ⟨cur'.toList, by simpa using hh, by simp; omega, hn⟩

set_option maxHeartbeats 8000000 in
set_option maxRecDepth 100000 in
theorem raw_bulk (s : Int) (data : List Int) (hs : s ∈ [36, 33, 61]) (hd : data.length ≤ 30000) : RawOK (s :: decI data.length ++ [13, 10] ++ (data ++ [13, 10])) := by
  intro w p g db B rest0 xs v hp hpg hdb hpB hgB hdB hB hS hO hlen
  have hdl := decI_le data.length (by omega)
  have hl : Line (s :: decI data.length) := ⟨by simp, by simp; omega, by
    intro x hx
    rcases List.mem_cons.1 hx with rfl | hx
    · simp at hs; omega
    · have := decI_digit _ x hx; omega⟩
  obtain ⟨rest, hrest⟩ : ∃ rest, rest = data ++ [13, 10] ++ rest0 := ⟨_, rfl⟩
  rw [List.append_assoc _ (data ++ [13, 10]), ← hrest] at hS
  have HRE := Aside0.mk hrest
  clear hrest
  obtain ⟨L, hL⟩ : ∃ L, L = s :: decI data.length := ⟨_, rfl⟩
  rw [← hL] at hl hS hlen ⊢
  have h := readLine_calls w p g db L rest hp hpg hdb hS hl
  have hl0 : 0 < L.length := hl.1
  have hl1 : xs.length + L.length + 2 ≤ 1000000 := by simp at hlen; omega
  have H := Aside0.mk h
  have HP := Aside0.mk hp
  have HO := Aside0.mk hO
  have HL := Aside0.mk hL
  clear h hp hS hO hl hlen hL
  obtain ⟨A0, c0, rfl⟩ := own_slice HO.out
  go_enter Tryz.func27, Tryz.ntmps27
  go_wp2_with fail
  refine H.out.mono ?_
  rintro e w1 ⟨A, c, rfl, hc, hR, hA, hS, hM⟩
  obtain ⟨ad, rfl, hcell⟩ := hR.2.2 hl0
  have hx0 : w1.cell? ad = some (.int .u8 s) := by have := hcell 0 hl0; rw [HL.out] at this; simpa [Addr.add] using this
  have HO1 := Aside0.mk (front_own HO.out hM hgB)
  have HR1 := Aside0.mk hR
  have HS1 := Aside0.mk hS
  have HM1 := Aside0.mk hM
  have HA1 := Aside0.mk (hA ad rfl)
  have hB1 : B ≤ w1.heap.size := Nat.le_trans hB hM.size
  clear hR hA hS hM hcell
  go_wp2_with (with_reducible refine print_append_row (w0 := w1) B rfl (.tmp 31) (.tmp 32) 41 5 .u8 1 rfl Tryz.underlying41 info5 (by decide) (.slice A0 xs.length c0) xs L (some ad) L.length c rfl rfl HO1.out HR1.out (Below.refl _ _) hB1 (by omega) ?_)
  intro v1 w2 hown hb hg hat
  obtain ⟨ys, hys⟩ : ∃ ys, ys = xs ++ L := ⟨_, rfl⟩
  rw [← List.length_append, ← hys] at hown
  obtain ⟨A1, c1, rfl⟩ := own_slice hown
  have hx2 := grown_cell HO1.out hg hx0 HA1.out hdB
  have HO2 := Aside0.mk hown
  have HS2 := Aside0.mk (src_grown HS1.out HO1.out hg hgB hdB)
  have HM2 := Aside0.mk (mods_grown HM1.out HO1.out hg)
  have hB2 : B ≤ w2.heap.size := Nat.le_trans hB1 hg.size
  have hyl : ys.length + 2 ≤ 1000000 := by rw [hys, List.length_append]; omega
  have HY := Aside0.mk hys
  have HR2 := Aside0.mk (reads_grown HO1.out hg HR1.out (fun a e => by cases e; exact HA1.out) hdB)
  clear hown hb hg hat hx0 hys
  go_wp2_with (with_reducible refine print_append_row (w0 := w2) B rfl (.tmp 34) (.tmp 35) 41 5 .u8 1 rfl Tryz.underlying41 info5 (by decide) (.slice A1 ys.length c1) ys [13, 10] (some ⟨w2.heap.size, 0, none⟩) 2 2 rfl rfl (pw_own_below HO2.out (below_alloc (Below.refl _ _) _)) (crlf_reads w2) ((Below.refl _ _).alloc hB2 _) (by simp; omega) (by omega) ?_)
  intro v3 w3 hown hb hg hat
  obtain ⟨zs, hzs⟩ : ∃ zs, zs = ys ++ [13, 10] := ⟨_, rfl⟩
  rw [show ys.length + 2 = (ys ++ [13, 10]).length from by simp, ← hzs] at hown
  obtain ⟨A3, c3, rfl⟩ := own_slice hown
  have hO2 := pw_own_below HO2.out (below_alloc (Below.refl _ w2) (.cells #[.int .u8 13, .int .u8 10] 5))
  have hM2 := (Mods.refl (fun _ => False) w2).alloc (.cells #[.int .u8 13, .int .u8 10] 5)
  have hx3 := grown_cell hO2 hg (hM2.cell hx2 id) HA1.out hdB
  have HO3 := Aside0.mk hown
  have HS3 := Aside0.mk (src_grown (HS2.out.mods hM2 id id) hO2 hg hgB hdB)
  have HM3 := Aside0.mk (mods_grown2 (HM2.out.alloc _) hO2 hg)
  have hB3 : B ≤ w3.heap.size := Nat.le_trans (Nat.le_trans hB2 hM2.size) hg.size
  have hzl : zs.length ≤ 1000000 := by rw [hzs]; simp; omega
  have HZ := Aside0.mk hzs
  have HR3 := Aside0.mk (reads_grown hO2 hg (hM2.reads HR2.out (fun _ _ => id)) (fun a e => by cases e; exact HA1.out) hdB)
  clear hown hb hg hat hx2 hzs hO2 hM2
  have hr := replyLen_calls w3 (some ad) L.length c s data.length (by simp at hs ⊢; omega) (by omega) hc (by have := HR3.out; rw [HL.out] at this ⊢; exact this)
  have HRL := Aside0.mk hr
  clear hr
  simp only [List.mem_cons, List.not_mem_nil, or_false] at hs
  rcases hs with rfl | rfl | rfl
  all_goals
    go_wp2_with fail
    refine HRL.out.mono ?_
    rintro e w4 ⟨rfl, hb⟩
    have HO4 := Aside0.mk (pw_own_below HO3.out hb)
    have HS4 := Aside0.mk (HS3.out.mods (Mods.of_below hb) id id)
    have HM4 := Aside0.mk (HM3.out.then_below hb)
    have hB4 : B ≤ w4.heap.size := Nat.le_trans hB3 hb.size
    clear hb
    go_wp2_with (with_reducible refine append_zeros8 B rfl (.tmp 68) (.tmp 70) rfl (.slice A3 zs.length c3) zs (data.length + 2) rfl rfl HO4.out hB4 (by omega) ?_)
    intro v5 w5 hown hg
    obtain ⟨us, hus⟩ : ∃ us, us = zs ++ List.replicate (data.length + 2) 0 := ⟨_, rfl⟩
    rw [← hus] at hown
    have hul : us.length = zs.length + (data.length + 2) := by rw [hus]; simp
    obtain ⟨gb, cap, rfl, hgb, hcap⟩ := World.ownsRow.form hown (by omega)
    obtain ⟨cur, hcur, hcl, _⟩ := own_cur (n := 0) hown
    have hM5 := mods_grown2 HM4.out HO4.out hg
    have hS5 := src_grown HS4.out HO4.out hg hgB hdB
    have hczp : w5.cell? ⟨p, 0, none⟩ = some (.pointer (some ⟨g, 0, none⟩)) := (blk_cell (hM5.blk HP.out (by omega)) 0).trans rfl
    have hcut := cut_run gb us.length cap zs.length (by omega) (by omega) (by omega)
    have hrl : rest.length = data.length + 2 + rest0.length := by rw [HRE.out]; simp; omega
    have hf := readFull_calls w5.drew g db gb zs.length (us.length - zs.length) (cap - zs.length) cur rest hdb (by omega) (by omega) (by exact hS5) (by omega) (by omega) (by omega) (by exact hcur) (by omega)
    have HF := Aside0.mk hf
    have HU := Aside0.mk hown
    have HUL := Aside0.mk hul
    have HUS := Aside0.mk hus
    have HM5 := Aside0.mk hM5
    have HCU := Aside0.mk hcur
    clear hf hown hul hus hM5 hcur hcl hrl hg hS5 hdl hcap
    go_wp2_with fail
    go_region_with (go_at_call 42; refine HF.out.mono ?_; rintro e w6 ⟨rfl, hq⟩; have HQ := Aside0.mk hq; clear hq)
    go_wp2
    go_ret2
    have hm : us.length - zs.length = data.length + 2 := by rw [HUL.out]; omega
    have hq := HQ.out
    rw [hm] at hq
    obtain ⟨q1, q2, q3⟩ := hq
    have ht : rest.take (data.length + 2) = data ++ [13, 10] := by rw [HRE.out]; exact List.take_left' (by simp)
    have hdr : rest.drop (data.length + 2) = rest0 := by rw [HRE.out]; exact List.drop_left' (by simp)
    rw [hdr] at q2
    rw [ht] at q1
    refine ⟨_, rfl, ?_, q2, (HM5.out.drew).trans q3 (fun k _ hk => hk.elim .inl (fun e => .inr (by omega)))⟩
    rw [show xs ++ (L ++ [13, 10] ++ (data ++ [13, 10])) = zs ++ (data ++ [13, 10]) by rw [HZ.out, HY.out]; simp]
    exact own_full (w := w5) (n := 0) (m := data.length + 2) HU.out (by have := HUL.out; omega) (by simp) (by rw [HUS.out]; exact List.take_left' rfl) HCU.out q1
end

section
open Go.RowKit Go.Proofs.YtmdlmjjggjemdaaGreatDoorW.PrintWords Go.Proofs.YtmdlmjjggjemdaaGreatDoorW.PrintMore Go.Proofs.YtmdlmjjggjemdaaGreatDoorW.PrintLast Go.Proofs.YtmdlmjjggjemdaaGreatDoor.PFnRespRaw
attribute [local go_sem] max2_int min2_int max_two min_two max_three min_three max_four min_four
set_option linter.unusedVariables false
set_option linter.unusedSimpArgs false

theorem flat_at (kids : List (List Int)) (k : Nat) (h : k < kids.length) : (kids.drop k).flatten = kids[k] ++ (kids.drop (k + 1)).flatten := by
  rw [List.drop_eq_getElem_cons h, List.flatten_cons]
theorem flat_take (kids : List (List Int)) (k : Nat) (h : k < kids.length) : (kids.take (k + 1)).flatten = (kids.take k).flatten ++ kids[k] := by
  rw [List.take_succ_eq_append_getElem h, List.flatten_append]; simp
theorem flat_len (kids : List (List Int)) (k : Nat) : (kids.take k).flatten.length + (kids.drop k).flatten.length = kids.flatten.length := by
  rw [← List.length_append, ← List.flatten_append, List.take_append_drop]

set_option maxHeartbeats 8000000 in
set_option maxRecDepth 100000 in
theorem raw_list (s : Int) (kids : List (List Int)) (hs : s ∈ [42, 126, 62]) (hd : kids.length ≤ 1000000) (ih : ∀ t ∈ kids, RawOK t) : RawOK (s :: decI kids.length ++ [13, 10] ++ kids.flatten) := by
  intro w p g db B rest0 xs v hp hpg hdb hpB hgB hdB hB hS hO hlen
  have hdl := decI_le kids.length (by omega)
  have hl : Line (s :: decI kids.length) := ⟨by simp, by simp; omega, by
    intro x hx
    rcases List.mem_cons.1 hx with rfl | hx
    · simp at hs; omega
    · have := decI_digit _ x hx; omega⟩
  obtain ⟨rest, hrest⟩ : ∃ rest, rest = kids.flatten ++ rest0 := ⟨_, rfl⟩
  rw [List.append_assoc _ kids.flatten, ← hrest] at hS
  have HRE := Aside0.mk hrest
  have HIH := Aside0.mk ih
  have HLN := Aside0.mk hlen
  clear hrest ih
  obtain ⟨L, hL⟩ : ∃ L, L = s :: decI kids.length := ⟨_, rfl⟩
  rw [← hL] at hl hS hlen ⊢
  have h := readLine_calls w p g db L rest hp hpg hdb hS hl
  have hl0 : 0 < L.length := hl.1
  have hl1 : xs.length + L.length + 2 ≤ 1000000 := by simp at hlen; omega
  have H := Aside0.mk h
  have HP := Aside0.mk hp
  have HO := Aside0.mk hO
  have HL := Aside0.mk hL
  clear h hp hS hO hl hlen hL
  obtain ⟨A0, c0, rfl⟩ := own_slice HO.out
  go_enter Tryz.func27, Tryz.ntmps27
  go_wp2_with fail
  refine H.out.mono ?_
  rintro e w1 ⟨A, c, rfl, hc, hR, hA, hS, hM⟩
  obtain ⟨ad, rfl, hcell⟩ := hR.2.2 hl0
  have hx0 : w1.cell? ad = some (.int .u8 s) := by have := hcell 0 hl0; rw [HL.out] at this; simpa [Addr.add] using this
  have HO1 := Aside0.mk (front_own HO.out hM hgB)
  have HR1 := Aside0.mk hR
  have HS1 := Aside0.mk hS
  have HM1 := Aside0.mk hM
  have HA1 := Aside0.mk (hA ad rfl)
  have hB1 : B ≤ w1.heap.size := Nat.le_trans hB hM.size
  clear hR hA hS hM hcell
  go_wp2_with (with_reducible refine print_append_row (w0 := w1) B rfl (.tmp 31) (.tmp 32) 41 5 .u8 1 rfl Tryz.underlying41 info5 (by decide) (.slice A0 xs.length c0) xs L (some ad) L.length c rfl rfl HO1.out HR1.out (Below.refl _ _) hB1 (by omega) ?_)
  intro v1 w2 hown hb hg hat
  obtain ⟨ys, hys⟩ : ∃ ys, ys = xs ++ L := ⟨_, rfl⟩
  rw [← List.length_append, ← hys] at hown
  obtain ⟨A1, c1, rfl⟩ := own_slice hown
  have hx2 := grown_cell HO1.out hg hx0 HA1.out hdB
  have HO2 := Aside0.mk hown
  have HS2 := Aside0.mk (src_grown HS1.out HO1.out hg hgB hdB)
  have HM2 := Aside0.mk (mods_grown HM1.out HO1.out hg)
  have hB2 : B ≤ w2.heap.size := Nat.le_trans hB1 hg.size
  have hyl : ys.length + 2 ≤ 1000000 := by rw [hys, List.length_append]; omega
  have HY := Aside0.mk hys
  have HR2 := Aside0.mk (reads_grown HO1.out hg HR1.out (fun a e => by cases e; exact HA1.out) hdB)
  clear hown hb hg hat hx0 hys
  go_wp2_with (with_reducible refine print_append_row (w0 := w2) B rfl (.tmp 34) (.tmp 35) 41 5 .u8 1 rfl Tryz.underlying41 info5 (by decide) (.slice A1 ys.length c1) ys [13, 10] (some ⟨w2.heap.size, 0, none⟩) 2 2 rfl rfl (pw_own_below HO2.out (below_alloc (Below.refl _ _) _)) (crlf_reads w2) ((Below.refl _ _).alloc hB2 _) (by simp; omega) (by omega) ?_)
  intro v3 w3 hown hb hg hat
  obtain ⟨zs, hzs⟩ : ∃ zs, zs = ys ++ [13, 10] := ⟨_, rfl⟩
  rw [show ys.length + 2 = (ys ++ [13, 10]).length from by simp, ← hzs] at hown
  obtain ⟨A3, c3, rfl⟩ := own_slice hown
  have hO2 := pw_own_below HO2.out (below_alloc (Below.refl _ w2) (.cells #[.int .u8 13, .int .u8 10] 5))
  have hM2 := (Mods.refl (fun _ => False) w2).alloc (.cells #[.int .u8 13, .int .u8 10] 5)
  have hx3 := grown_cell hO2 hg (hM2.cell hx2 id) HA1.out hdB
  have HO3 := Aside0.mk hown
  have HS3 := Aside0.mk (src_grown (HS2.out.mods hM2 id id) hO2 hg hgB hdB)
  have HM3 := Aside0.mk (mods_grown2 (HM2.out.alloc _) hO2 hg)
  have hB3 : B ≤ w3.heap.size := Nat.le_trans (Nat.le_trans hB2 hM2.size) hg.size
  have hzl : zs.length ≤ 1000000 := by rw [hzs]; simp; omega
  have HZ := Aside0.mk hzs
  have HR3 := Aside0.mk (reads_grown hO2 hg (hM2.reads HR2.out (fun _ _ => id)) (fun a e => by cases e; exact HA1.out) hdB)
  clear hown hb hg hat hx2 hzs hO2 hM2
  have hr := replyLen_calls w3 (some ad) L.length c s kids.length (by simp at hs ⊢; omega) (by omega) hc (by have := HR3.out; rw [HL.out] at this ⊢; exact this)
  have HRL := Aside0.mk hr
  clear hr
  simp only [List.mem_cons, List.not_mem_nil, or_false] at hs
  obtain ⟨n, hn⟩ : ∃ n, n = kids.length := ⟨_, rfl⟩
  rw [← hn] at HRL hd
  have HN := Aside0.mk hn
  clear hn hdl
  rcases hs with rfl | rfl | rfl
  all_goals
    go_wp2_with fail
    refine HRL.out.mono ?_
    rintro e w4 ⟨rfl, hb⟩
    have HO4 := Aside0.mk (pw_own_below HO3.out hb)
    have HS4 := Aside0.mk (HS3.out.mods (Mods.of_below hb) id id)
    have HM4 := Aside0.mk (HM3.out.then_below hb)
    clear hb
    go_wp2_with fail
    go_loopw [1, 13] (fun v1 v13 wr => ∃ k : Nat, v13 = .int .i64 k ∧ k ≤ n ∧ Aside0 (Own wr B v1 (zs ++ (kids.take k).flatten)) ∧ Aside0 (Src wr g db ((kids.drop k).flatten ++ rest0)) ∧ Aside0 (Mods (fun k => k = g ∨ B ≤ k) w wr)) (fun _ v13 _ => n - (intOf v13).toNat)
    case atStart => exact ⟨0, rfl, Nat.zero_le _, ⟨by simpa using HO4.out⟩, ⟨by have := HS4.out; rw [HRE.out] at this; simpa using this⟩, HM4⟩
    case round =>
      obtain ⟨k, rfl, hk, HOk, HSk, HMk⟩ := hrel
      by_cases hlt : k < n
      · have hkl : k < kids.length := by rw [← HN.out]; exact hlt
        have hln : (zs ++ (kids.take k).flatten).length + kids[k].length ≤ 1000000 := by
          have h1 := HLN.out
          rw [← HL.out] at h1
          have h2 := flat_len kids k
          rw [flat_at kids k hkl] at h2
          rw [HZ.out, HY.out]
          simp only [List.length_append, List.length_cons, List.length_nil] at h1 h2 ⊢
          omega
        have hB4 : B ≤ wr.heap.size := Nat.le_trans hB HMk.out.size
        have hsk := HSk.out
        rw [flat_at kids k hkl, List.append_assoc] at hsk
        have hc := HIH.out kids[k] (List.getElem_mem hkl) wr p g db B ((kids.drop (k + 1)).flatten ++ rest0) (zs ++ (kids.take k).flatten) u1 (HMk.out.blk HP.out (by omega)) hpg hdb hpB hgB hdB hB4 hsk HOk.out hln
        have HC := Aside0.mk hc
        clear hc hsk hln hB4
        go_wp2_with fail
        refine HC.out.mono ?_
        rintro e w5 ⟨v5, rfl, ho, hs, hm⟩
        have HO5 := Aside0.mk ho
        have HS5 := Aside0.mk hs
        have HM5 := Aside0.mk (HMk.out.trans hm (fun _ _ h => h))
        clear ho hs hm
        go_wp2_with fail
        go_roundw
        case measure => simp [intOf]; omega
        case rel => exact ⟨k + 1, by go_num, by omega, ⟨by have := HO5.out; rw [List.append_assoc, ← flat_take kids k hkl] at this; exact this⟩, HS5, HM5⟩
      · have hkn : k = kids.length := by have := HN.out; omega
        have HKN := Aside0.mk hkn
        clear hkn
        go_wp2
        go_ret2
        have ho := HOk.out
        have hs := HSk.out
        rw [HKN.out, List.take_length] at ho
        rw [HKN.out, List.drop_length] at hs
        refine ⟨_, rfl, ?_, hs, HMk.out⟩
        rw [show xs ++ (L ++ [13, 10] ++ kids.flatten) = zs ++ kids.flatten by rw [HZ.out, HY.out]; simp]
        exact ho
end

section
open Go.RowKit Go.Proofs.YtmdlmjjggjemdaaGreatDoorW.PrintWords Go.Proofs.YtmdlmjjggjemdaaGreatDoorW.PrintMore Go.Proofs.YtmdlmjjggjemdaaGreatDoorW.PrintLast Go.Proofs.YtmdlmjjggjemdaaGreatDoor.PFnRespRaw
attribute [local go_sem] max2_int min2_int max_two min_two max_three min_three max_four min_four
set_option linter.unusedVariables false
set_option linter.unusedSimpArgs false

set_option maxHeartbeats 8000000 in
set_option maxRecDepth 100000 in
theorem raw_map (n : Nat) (kids : List (List Int)) (hkn2 : kids.length = 2 * n) (hd : kids.length ≤ 1000000) (ih : ∀ t ∈ kids, RawOK t) : RawOK (37 :: decI n ++ [13, 10] ++ kids.flatten) := by
  intro w p g db B rest0 xs v hp hpg hdb hpB hgB hdB hB hS hO hlen
  have hdl := decI_le n (by omega)
  have hnb : n ≤ 1000000 := by omega
  have HN := Aside0.mk hkn2
  clear hkn2
  have hl : Line (37 :: decI n) := ⟨by simp, by simp; omega, by
    intro x hx
    rcases List.mem_cons.1 hx with rfl | hx
    · omega
    · have := decI_digit _ x hx; omega⟩
  obtain ⟨rest, hrest⟩ : ∃ rest, rest = kids.flatten ++ rest0 := ⟨_, rfl⟩
  rw [List.append_assoc _ kids.flatten, ← hrest] at hS
  have HRE := Aside0.mk hrest
  have HIH := Aside0.mk ih
  have HLN := Aside0.mk hlen
  clear hrest ih
  obtain ⟨L, hL⟩ : ∃ L, L = 37 :: decI n := ⟨_, rfl⟩
  rw [← hL] at hl hS hlen ⊢
  have h := readLine_calls w p g db L rest hp hpg hdb hS hl
  have hl0 : 0 < L.length := hl.1
  have hl1 : xs.length + L.length + 2 ≤ 1000000 := by simp at hlen; omega
  have H := Aside0.mk h
  have HP := Aside0.mk hp
  have HO := Aside0.mk hO
  have HL := Aside0.mk hL
  clear h hp hS hO hl hlen hL
  obtain ⟨A0, c0, rfl⟩ := own_slice HO.out
  go_enter Tryz.func27, Tryz.ntmps27
  go_wp2_with fail
  refine H.out.mono ?_
  rintro e w1 ⟨A, c, rfl, hc, hR, hA, hS, hM⟩
  obtain ⟨ad, rfl, hcell⟩ := hR.2.2 hl0
  have hx0 : w1.cell? ad = some (.int .u8 37) := by have := hcell 0 hl0; rw [HL.out] at this; simpa [Addr.add] using this
  have HO1 := Aside0.mk (front_own HO.out hM hgB)
  have HR1 := Aside0.mk hR
  have HS1 := Aside0.mk hS
  have HM1 := Aside0.mk hM
  have HA1 := Aside0.mk (hA ad rfl)
  have hB1 : B ≤ w1.heap.size := Nat.le_trans hB hM.size
  clear hR hA hS hM hcell
  go_wp2_with (with_reducible refine print_append_row (w0 := w1) B rfl (.tmp 31) (.tmp 32) 41 5 .u8 1 rfl Tryz.underlying41 info5 (by decide) (.slice A0 xs.length c0) xs L (some ad) L.length c rfl rfl HO1.out HR1.out (Below.refl _ _) hB1 (by omega) ?_)
  intro v1 w2 hown hb hg hat
  obtain ⟨ys, hys⟩ : ∃ ys, ys = xs ++ L := ⟨_, rfl⟩
  rw [← List.length_append, ← hys] at hown
  obtain ⟨A1, c1, rfl⟩ := own_slice hown
  have hx2 := grown_cell HO1.out hg hx0 HA1.out hdB
  have HO2 := Aside0.mk hown
  have HS2 := Aside0.mk (src_grown HS1.out HO1.out hg hgB hdB)
  have HM2 := Aside0.mk (mods_grown HM1.out HO1.out hg)
  have hB2 : B ≤ w2.heap.size := Nat.le_trans hB1 hg.size
  have hyl : ys.length + 2 ≤ 1000000 := by rw [hys, List.length_append]; omega
  have HY := Aside0.mk hys
  have HR2 := Aside0.mk (reads_grown HO1.out hg HR1.out (fun a e => by cases e; exact HA1.out) hdB)
  clear hown hb hg hat hx0 hys
  go_wp2_with (with_reducible refine print_append_row (w0 := w2) B rfl (.tmp 34) (.tmp 35) 41 5 .u8 1 rfl Tryz.underlying41 info5 (by decide) (.slice A1 ys.length c1) ys [13, 10] (some ⟨w2.heap.size, 0, none⟩) 2 2 rfl rfl (pw_own_below HO2.out (below_alloc (Below.refl _ _) _)) (crlf_reads w2) ((Below.refl _ _).alloc hB2 _) (by simp; omega) (by omega) ?_)
  intro v3 w3 hown hb hg hat
  obtain ⟨zs, hzs⟩ : ∃ zs, zs = ys ++ [13, 10] := ⟨_, rfl⟩
  rw [show ys.length + 2 = (ys ++ [13, 10]).length from by simp, ← hzs] at hown
  obtain ⟨A3, c3, rfl⟩ := own_slice hown
  have hO2 := pw_own_below HO2.out (below_alloc (Below.refl _ w2) (.cells #[.int .u8 13, .int .u8 10] 5))
  have hM2 := (Mods.refl (fun _ => False) w2).alloc (.cells #[.int .u8 13, .int .u8 10] 5)
  have hx3 := grown_cell hO2 hg (hM2.cell hx2 id) HA1.out hdB
  have HO3 := Aside0.mk hown
  have HS3 := Aside0.mk (src_grown (HS2.out.mods hM2 id id) hO2 hg hgB hdB)
  have HM3 := Aside0.mk (mods_grown2 (HM2.out.alloc _) hO2 hg)
  have hB3 : B ≤ w3.heap.size := Nat.le_trans (Nat.le_trans hB2 hM2.size) hg.size
  have hzl : zs.length ≤ 1000000 := by rw [hzs]; simp; omega
  have HZ := Aside0.mk hzs
  have HR3 := Aside0.mk (reads_grown hO2 hg (hM2.reads HR2.out (fun _ _ => id)) (fun a e => by cases e; exact HA1.out) hdB)
  clear hown hb hg hat hx2 hzs hO2 hM2
  have hr := replyLen_calls w3 (some ad) L.length c 37 n (by simp) (by have := HN.out; omega) hc (by have := HR3.out; rw [HL.out] at this ⊢; exact this)
  have HRL := Aside0.mk hr
  clear hr
  clear hdl
  go_wp2_with fail
  refine HRL.out.mono ?_
  rintro e w4 ⟨rfl, hb⟩
  have HO4 := Aside0.mk (pw_own_below HO3.out hb)
  have HS4 := Aside0.mk (HS3.out.mods (Mods.of_below hb) id id)
  have HM4 := Aside0.mk (HM3.out.then_below hb)
  clear hb
  go_wp2_with fail
  go_loopw [1, 16] (fun v1 v16 wr => ∃ k : Nat, v16 = .int .i64 k ∧ k ≤ n ∧ Aside0 (Own wr B v1 (zs ++ (kids.take (2 * k)).flatten)) ∧ Aside0 (Src wr g db ((kids.drop (2 * k)).flatten ++ rest0)) ∧ Aside0 (Mods (fun k => k = g ∨ B ≤ k) w wr)) (fun _ v16 _ => n - (intOf v16).toNat)
  case atStart => exact ⟨0, rfl, Nat.zero_le _, ⟨by simpa using HO4.out⟩, ⟨by have := HS4.out; rw [HRE.out] at this; simpa using this⟩, HM4⟩
  case round =>
    obtain ⟨k, rfl, hk, HOk, HSk, HMk⟩ := hrel
    by_cases hlt : k < n
    · go_wp2_with fail
      go_loopw [1, 17] (fun v1 v17 ws => ∃ q : Nat, v17 = .int .i64 q ∧ q ≤ 2 ∧ Aside0 (Own ws B v1 (zs ++ (kids.take (2 * k + q)).flatten)) ∧ Aside0 (Src ws g db ((kids.drop (2 * k + q)).flatten ++ rest0)) ∧ Aside0 (Mods (fun k => k = g ∨ B ≤ k) w ws)) (fun _ v17 _ => 2 - (intOf v17).toNat)
      case atStart => exact ⟨0, rfl, by omega, HOk, HSk, HMk⟩
      case round =>
        clear HOk HSk HMk
        obtain ⟨q, rfl, hq, HOk, HSk, HMk⟩ := hrel
        by_cases hqt : q < 2
        · have hkl : 2 * k + q < kids.length := by rw [HN.out]; omega
          have hln : (zs ++ (kids.take (2 * k + q)).flatten).length + kids[2 * k + q].length ≤ 1000000 := by
            have h1 := HLN.out
            rw [← HL.out] at h1
            have h2 := flat_len kids (2 * k + q)
            rw [flat_at kids (2 * k + q) hkl] at h2
            rw [HZ.out, HY.out]
            simp only [List.length_append, List.length_cons, List.length_nil] at h1 h2 ⊢
            omega
          have hB4 := Nat.le_trans hB HMk.out.size
          have hsk := HSk.out
          rw [flat_at kids (2 * k + q) hkl, List.append_assoc] at hsk
          have hc := HIH.out kids[2 * k + q] (List.getElem_mem hkl) _ p g db B ((kids.drop (2 * k + q + 1)).flatten ++ rest0) (zs ++ (kids.take (2 * k + q)).flatten) u1 (HMk.out.blk HP.out (by omega)) hpg hdb hpB hgB hdB hB4 hsk HOk.out hln
          have HC := Aside0.mk hc
          clear hc hsk hln hB4
          go_wp2_with fail
          refine HC.out.mono ?_
          rintro e w5 ⟨v5, rfl, ho, hs, hm⟩
          have HO5 := Aside0.mk ho
          have HS5 := Aside0.mk hs
          have HM5 := Aside0.mk (HMk.out.trans hm (fun _ _ h => h))
          clear ho hs hm
          go_wp2_with fail
          go_roundw
          case measure => simp [intOf]; omega
          case rel => exact ⟨q + 1, by go_num, by omega, ⟨by have := HO5.out; rw [List.append_assoc, ← flat_take kids (2 * k + q) hkl] at this; exact this⟩, HS5, HM5⟩
        · have hq2 : q = 2 := by omega
          subst hq2
          go_wp2
          go_roundw
          case measure => simp [intOf]; omega
          case rel => exact ⟨k + 1, by go_num, by omega, ⟨by have := HOk.out; rwa [show 2 * k + 2 = 2 * (k + 1) from by omega] at this⟩, ⟨by have := HSk.out; rwa [show 2 * k + 2 = 2 * (k + 1) from by omega] at this⟩, HMk⟩
    · have hkn : 2 * k = kids.length := by rw [HN.out]; omega
      have HKN := Aside0.mk hkn
      clear hkn
      go_wp2
      go_ret2
      have ho := HOk.out
      have hs := HSk.out
      rw [HKN.out, List.take_length] at ho
      rw [HKN.out, List.drop_length] at hs
      refine ⟨_, rfl, ?_, hs, HMk.out⟩
      rw [show xs ++ (L ++ [13, 10] ++ kids.flatten) = zs ++ kids.flatten by rw [HZ.out, HY.out]; simp]
      exact ho
end
end Go.Proofs.YtmdlmjjggjemdaaGreatDoor
