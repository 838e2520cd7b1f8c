/- The law, walked. -/
import Derived.Test.YtohadobpiclllaaGreatDoorMy
import Derived.StillTailTactics
import Derived.Deep.RegionHeld3
namespace Go.Proofs.YtohadobpiclllaaGreatDoor
section
open Go.RowKit Go.Proofs.YtohadobpiclllaaGreatDoorW.PrintWords Go.Proofs.YtohadobpiclllaaGreatDoorW.PrintMore Go.Proofs.YtohadobpiclllaaGreatDoorW.PrintLast Go.Proofs.YtohadobpiclllaaGreatDoor.PFnRespScan
attribute [local go_sem] max2_int min2_int max_two min_two max_three min_three max_four min_four
set_option linter.unusedVariables false
set_option linter.unusedSimpArgs false

/-- What the law answers. -/
def TruePost (w : World) (e : Ending) (w' : World) : Prop := e = .returned (.bool true) ∧ Below w.heap.size w w'

set_option maxHeartbeats 4000000 in
set_option maxRecDepth 100000 in
theorem law_big (n : Nat) (c : ByteArray) (hs : 60 < c.size) (w : World) : Calls Tryz.prog 3 #[.int .u8 n, .string c] w (TruePost w) := by
  by_cases hb : (2147483647 : Int) < (c.size : Int)
  · go_enter Tryz.func3, Tryz.ntmps3
    go_wp2_with fail
    go_ret
    exact ⟨rfl, Below.refl _ _⟩
  · have hb' : decide ((2147483647 : Int) < (c.size : Int)) = false := decide_eq_false hb
    have hs' : (60 : Int) < (c.size : Int) := by omega
    clear hb
    go_enter Tryz.func3, Tryz.ntmps3
    go_wp2_with fail
    go_ret
    exact ⟨rfl, Below.refl _ _⟩

def OpenOut (w : World) (x : Ending) (w' : World) : Prop := x = .returned (.tuple #[.agg #[.int .i64 0, .bool false, .int .i64 0, .int .u64 0, .string ⟨#[]⟩, .slice none 0 0], .int .i64 0, .int .i64 2]) ∧ Below w.heap.size w w'
def WrongOut (w : World) (x : Ending) (w' : World) : Prop := x = .returned (.tuple #[.agg #[.int .i64 0, .bool false, .int .i64 0, .int .u64 0, .string ⟨#[]⟩, .slice none 0 0], .int .i64 1, .int .i64 1]) ∧ Below w.heap.size w w'
def FineOut (k : Int) (b : Bool) (i : Int) (R : Nat) (s : ByteArray) (w : World) (x : Ending) (w' : World) : Prop := ∃ f : Nat, FA R f ∧ x = .returned (.tuple #[.agg #[.int .i64 k, .bool b, .int .i64 i, .int .u64 f, .string s, .slice none 0 0], .int .i64 0, .int .i64 1]) ∧ Below w.heap.size w w'
def WrongIn (w : World) (x : Ending) (w' : World) : Prop := x = .returned (.tuple #[.agg #[.int .i64 0, .bool false, .int .i64 0, .int .u64 0, .string ⟨#[]⟩, .slice none 0 0], .int .i64 1]) ∧ Below w.heap.size w w'
def FineIn (k : Int) (b : Bool) (i : Int) (R : Nat) (s : ByteArray) (w : World) (x : Ending) (w' : World) : Prop := ∃ f : Nat, FA R f ∧ x = .returned (.tuple #[.agg #[.int .i64 k, .bool b, .int .i64 i, .int .u64 f, .string s, .slice none 0 0], .int .i64 0]) ∧ Below w.heap.size w w'

set_option maxHeartbeats 4000000 in
set_option maxRecDepth 100000 in
theorem law_open (n k : Nat) (hk : n % 15 = k) (hn : n < 256) (c : ByteArray) (hs : c.size ≤ 60) (w : World)
    (hS : ∀ w', Mods (fun _ => False) w w' → Calls Tryz.prog 4 #[.int .i64 k, .string c] w' (OpenOut w')) : Calls Tryz.prog 3 #[.int .u8 n, .string c] w (TruePost w) := by
  have hk' : (n : Int) % 15 = (k : Int) := by omega
  have hk2 : Int.tmod (n : Int) 15 = (k : Int) := by rw [Int.tmod_eq_emod_of_nonneg (by omega)]; exact hk'
  have hs1 : decide ((2147483647 : Int) < (c.size : Int)) = false := decide_eq_false (by omega)
  have hs2 : decide ((60 : Int) < (c.size : Int)) = false := decide_eq_false (by omega)
  have hk15 : k < 15 := by omega
  have HS := Aside0.mk (hS w (Mods.refl _ w))
  clear hS
  go_enter Tryz.func3, Tryz.ntmps3
  go_wp2_with fail
  refine HS.out.mono ?_
  rintro x w1 ⟨rfl, hB⟩
  have HB := Aside0.mk hB
  clear hB
  go_wp2_with fail
  go_ret
  exact ⟨rfl, ((Mods.of_below HB.out).alloc _).below⟩

set_option maxHeartbeats 4000000 in
set_option maxRecDepth 100000 in
theorem law_wrong (n k : Nat) (hk : n % 15 = k) (hn : n < 256) (c : ByteArray) (hs : c.size ≤ 60) (w : World)
    (hS : ∀ w', Mods (fun _ => False) w w' → Calls Tryz.prog 4 #[.int .i64 k, .string c] w' (WrongOut w')) (hI : ∀ w', Mods (fun _ => False) w w' → Calls Tryz.prog 5 #[.int .i64 k, .string c] w' (WrongIn w')) : Calls Tryz.prog 3 #[.int .u8 n, .string c] w (TruePost w) := by
  have hk' : (n : Int) % 15 = (k : Int) := by omega
  have hk2 : Int.tmod (n : Int) 15 = (k : Int) := by rw [Int.tmod_eq_emod_of_nonneg (by omega)]; exact hk'
  have hs1 : decide ((2147483647 : Int) < (c.size : Int)) = false := decide_eq_false (by omega)
  have hs2 : decide ((60 : Int) < (c.size : Int)) = false := decide_eq_false (by omega)
  have hk15 : k < 15 := by omega
  have HS := Aside0.mk (hS w (Mods.refl _ w))
  have HI := Aside0.mk hI
  clear hS hI
  go_enter Tryz.func3, Tryz.ntmps3
  go_wp2_with fail
  refine HS.out.mono ?_
  rintro x w1 ⟨rfl, hB⟩
  have HM1 := Aside0.mk ((Mods.of_below hB).alloc (Obj.cells #[Value.int IntKind.i64 0, Value.bool false, Value.int IntKind.i64 0, Value.int IntKind.u64 0, Value.string ⟨#[]⟩, Value.slice none 0 0] 25))
  clear hB
  go_wp2_with fail
  refine (HI.out _ HM1.out).mono ?_
  rintro x w2 ⟨rfl, hB⟩
  have HM2 := Aside0.mk ((HM1.out.then_below hB).alloc (Obj.cells #[Value.int IntKind.i64 0, Value.bool false, Value.int IntKind.i64 0, Value.int IntKind.u64 0, Value.string ⟨#[]⟩, Value.slice none 0 0] 30))
  clear hB
  go_wp2_with fail
  go_still_tail 14, (by kernel_rfl)
  go_wp2_with fail
  refine (alive_calls _).mono ?_
  rintro x w3 ⟨rfl, hB⟩
  have HB3 := Aside0.mk (Below.trans (b := (w2.alloc (Obj.cells #[Value.int IntKind.i64 0, Value.bool false, Value.int IntKind.i64 0, Value.int IntKind.u64 0, Value.string ⟨#[]⟩, Value.slice none 0 0] 30)).drew) HM2.out.below.drew (hB.mono (by have := HM2.out.size; exact this)))
  clear hB
  go_wp2_with fail
  go_ret
  exact ⟨rfl, HB3.out⟩

set_option maxHeartbeats 8000000 in
set_option maxRecDepth 100000 in
theorem law_fine (n k : Nat) (hk : n % 15 = k) (hn : n < 256) (c : ByteArray) (hs : c.size ≤ 60) (w : World) (K : Int) (b : Bool) (i : Int) (R : Nat) (s : ByteArray)
    (hS : ∀ w', Mods (fun _ => False) w w' → Calls Tryz.prog 4 #[.int .i64 k, .string c] w' (FineOut K b i R s w')) (hI : ∀ w', Mods (fun _ => False) w w' → Calls Tryz.prog 5 #[.int .i64 k, .string c] w' (FineIn K b i R s w')) : Calls Tryz.prog 3 #[.int .u8 n, .string c] w (TruePost w) := by
  have hk' : (n : Int) % 15 = (k : Int) := by omega
  have hk2 : Int.tmod (n : Int) 15 = (k : Int) := by rw [Int.tmod_eq_emod_of_nonneg (by omega)]; exact hk'
  have hs1 : decide ((2147483647 : Int) < (c.size : Int)) = false := decide_eq_false (by omega)
  have hs2 : decide ((60 : Int) < (c.size : Int)) = false := decide_eq_false (by omega)
  have hk15 : k < 15 := by omega
  have HS := Aside0.mk (hS w (Mods.refl _ w))
  have HI := Aside0.mk hI
  clear hS hI
  go_enter Tryz.func3, Tryz.ntmps3
  go_wp2_with fail
  refine HS.out.mono ?_
  rintro x w1 ⟨f1, hf1, rfl, hB⟩
  have HF1 := Aside0.mk hf1
  have HM1 := Aside0.mk ((Mods.of_below hB).alloc (Obj.cells #[Value.int IntKind.i64 K, Value.bool b, Value.int IntKind.i64 i, Value.int IntKind.u64 f1, Value.string s, Value.slice none 0 0] 25))
  clear hB hf1
  go_wp2_with fail
  refine (HI.out _ HM1.out).mono ?_
  rintro x w2 ⟨f2, hf2, rfl, hB⟩
  have HF2 := Aside0.mk hf2
  have HM2 := Aside0.mk ((HM1.out.then_below hB).alloc (Obj.cells #[Value.int IntKind.i64 K, Value.bool b, Value.int IntKind.i64 i, Value.int IntKind.u64 f2, Value.string s, Value.slice none 0 0] 30))
  have hbk1 := (Mods.of_below hB).blk (heap_alloc_new w1 (Obj.cells #[Value.int IntKind.i64 K, Value.bool b, Value.int IntKind.i64 i, Value.int IntKind.u64 f1, Value.string s, Value.slice none 0 0] 25)) id
  have r0 : w2.cell? ⟨w1.heap.size, 0, none⟩ = some (.int .i64 K) := (blk_cell hbk1 0).trans rfl
  have r1 : w2.cell? ⟨w1.heap.size, 1, none⟩ = some (.bool b) := (blk_cell hbk1 1).trans rfl
  have r2 : w2.cell? ⟨w1.heap.size, 2, none⟩ = some (.int .i64 i) := (blk_cell hbk1 2).trans rfl
  have r3 : w2.cell? ⟨w1.heap.size, 3, none⟩ = some (.int .u64 f1) := (blk_cell hbk1 3).trans rfl
  have r4 : w2.cell? ⟨w1.heap.size, 4, none⟩ = some (.string s) := (blk_cell hbk1 4).trans rfl
  have r5 : w2.cell? ⟨w1.heap.size, 5, none⟩ = some (.slice none 0 0) := (blk_cell hbk1 5).trans rfl
  have hbk2 := heap_alloc_new w2 (Obj.cells #[Value.int IntKind.i64 K, Value.bool b, Value.int IntKind.i64 i, Value.int IntKind.u64 f2, Value.string s, Value.slice none 0 0] 30)
  have hA := (Mods.refl (fun _ => False) w2).alloc (Obj.cells #[Value.int IntKind.i64 K, Value.bool b, Value.int IntKind.i64 i, Value.int IntKind.u64 f2, Value.string s, Value.slice none 0 0] 30)
  replace r0 := hA.cell r0 id
  replace r1 := hA.cell r1 id
  replace r2 := hA.cell r2 id
  replace r3 := hA.cell r3 id
  replace r4 := hA.cell r4 id
  replace r5 := hA.cell r5 id
  have HBK2 := Aside0.mk hbk2
  have HG := Aside0.mk (got_true K b i f2 f1 R s hf2 HF1.out)
  clear hB hf2 hbk1 hbk2 hA
  go_upto_region 10 with fail
  obtain ⟨g1, hg1⟩ : ∃ g1, g1 = w1.heap.size := ⟨_, rfl⟩
  obtain ⟨g2, hg2⟩ : ∃ g2, g2 = w2.heap.size := ⟨_, rfl⟩
  obtain ⟨wa, hwa⟩ : ∃ wa, wa = w2.alloc (Obj.cells #[Value.int IntKind.i64 K, Value.bool b, Value.int IntKind.i64 i, Value.int IntKind.u64 f2, Value.string s, Value.slice none 0 0] 30) := ⟨_, rfl⟩
  rw [← hg1] at r0 r1 r2 r3 r4 r5 ⊢
  rw [← hwa] at r0 r1 r2 r3 r4 r5 HM2 HBK2 ⊢
  rw [← hg2] at HBK2 ⊢
  have s0 : wa.cell? ⟨g2, 0, none⟩ = some (.int .i64 K) := (blk_cell HBK2.out 0).trans rfl
  have s1 : wa.cell? ⟨g2, 1, none⟩ = some (.bool b) := (blk_cell HBK2.out 1).trans rfl
  have s2 : wa.cell? ⟨g2, 2, none⟩ = some (.int .i64 i) := (blk_cell HBK2.out 2).trans rfl
  have s3 : wa.cell? ⟨g2, 3, none⟩ = some (.int .u64 f2) := (blk_cell HBK2.out 3).trans rfl
  have s4 : wa.cell? ⟨g2, 4, none⟩ = some (.string s) := (blk_cell HBK2.out 4).trans rfl
  have s5 : wa.cell? ⟨g2, 5, none⟩ = some (.slice none 0 0) := (blk_cell HBK2.out 5).trans rfl
  have hmm : Mods (fun _ => False) w wa := HM2.out
  clear hwa hg1 hg2 HBK2 HM2 HI HM1 HS HF1 HF2
  go_region_held3 (fun w' => w'.cell? ⟨g1, 0, none⟩ = some (.int .i64 K) ∧ w'.cell? ⟨g1, 1, none⟩ = some (.bool b) ∧ w'.cell? ⟨g1, 2, none⟩ = some (.int .i64 i) ∧ w'.cell? ⟨g1, 3, none⟩ = some (.int .u64 f1) ∧ w'.cell? ⟨g1, 4, none⟩ = some (.string s) ∧ w'.cell? ⟨g1, 5, none⟩ = some (.slice none 0 0) ∧ w'.cell? ⟨g2, 0, none⟩ = some (.int .i64 K) ∧ w'.cell? ⟨g2, 1, none⟩ = some (.bool b) ∧ w'.cell? ⟨g2, 2, none⟩ = some (.int .i64 i) ∧ w'.cell? ⟨g2, 3, none⟩ = some (.int .u64 f2) ∧ w'.cell? ⟨g2, 4, none⟩ = some (.string s) ∧ w'.cell? ⟨g2, 5, none⟩ = some (.slice none 0 0) ∧ Mods (fun _ => False) w w')
    (first | (refine ⟨?_, ?_, ?_, ?_, ?_, ?_, ?_, ?_, ?_, ?_, ?_, ?_, ?_⟩ <;> first | assumption | (exact hmm.drew) | (exact ((hmm.drew.then_below hB7).then_below hB6).then_below hB8) | (exact (hmm.drew.then_below hB7).then_below hB6) | (exact hmm.drew.then_below hB7) | (exact (((Mods.of_below hB7).then_below hB6).then_below hB8).cell r0 id) | (exact (((Mods.of_below hB7).then_below hB6).then_below hB8).cell r1 id) | (exact (((Mods.of_below hB7).then_below hB6).then_below hB8).cell r2 id) | (exact (((Mods.of_below hB7).then_below hB6).then_below hB8).cell r3 id) | (exact (((Mods.of_below hB7).then_below hB6).then_below hB8).cell r4 id) | (exact (((Mods.of_below hB7).then_below hB6).then_below hB8).cell r5 id) | (exact (((Mods.of_below hB7).then_below hB6).then_below hB8).cell s0 id) | (exact (((Mods.of_below hB7).then_below hB6).then_below hB8).cell s1 id) | (exact (((Mods.of_below hB7).then_below hB6).then_below hB8).cell s2 id) | (exact (((Mods.of_below hB7).then_below hB6).then_below hB8).cell s3 id) | (exact (((Mods.of_below hB7).then_below hB6).then_below hB8).cell s4 id) | (exact (((Mods.of_below hB7).then_below hB6).then_below hB8).cell s5 id) | (exact ((Mods.of_below hB7).then_below hB6).cell r0 id) | (exact ((Mods.of_below hB7).then_below hB6).cell r1 id) | (exact ((Mods.of_below hB7).then_below hB6).cell r2 id) | (exact ((Mods.of_below hB7).then_below hB6).cell r3 id) | (exact ((Mods.of_below hB7).then_below hB6).cell r4 id) | (exact ((Mods.of_below hB7).then_below hB6).cell r5 id) | (exact ((Mods.of_below hB7).then_below hB6).cell s0 id) | (exact ((Mods.of_below hB7).then_below hB6).cell s1 id) | (exact ((Mods.of_below hB7).then_below hB6).cell s2 id) | (exact ((Mods.of_below hB7).then_below hB6).cell s3 id) | (exact ((Mods.of_below hB7).then_below hB6).cell s4 id) | (exact ((Mods.of_below hB7).then_below hB6).cell s5 id) | (exact (Mods.of_below hB7).cell r0 id) | (exact (Mods.of_below hB7).cell r1 id) | (exact (Mods.of_below hB7).cell r2 id) | (exact (Mods.of_below hB7).cell r3 id) | (exact (Mods.of_below hB7).cell r4 id) | (exact (Mods.of_below hB7).cell r5 id) | (exact (Mods.of_below hB7).cell s0 id) | (exact (Mods.of_below hB7).cell s1 id) | (exact (Mods.of_below hB7).cell s2 id) | (exact (Mods.of_below hB7).cell s3 id) | (exact (Mods.of_below hB7).cell s4 id) | (exact (Mods.of_below hB7).cell s5 id)) | go_keep)
    (first
      | (go_at_call 7; refine (implGot_calls _ _ _ _ _ _).mono ?_; rintro e w7 ⟨rfl, hB7⟩)
      | (go_at_call 6; refine (HG.out _).mono ?_; rintro e w6 ⟨rfl, hB6⟩)
      | (go_at_call 8; refine (alive_calls _).mono ?_; rintro e w8 ⟨rfl, hB8⟩))
  have HB8 := Aside0.mk (((hmm.drew.then_below hB7).then_below hB6).then_below hB8).below
  go_wp2
  go_ret
  exact ⟨rfl, HB8.out⟩

/-- The law, of every way and every text. -/
theorem law_calls (X : TabX) (hX : X.OK) (n : Nat) (hn : n < 256) (c : ByteArray) (w : World) (hT : Tabs w X) (hE : Errs w) : Calls Tryz.prog 3 #[.int .u8 n, .string c] w (TruePost w) := by
  by_cases hs : 60 < c.size
  · exact law_big n c hs w
  have hs : c.size ≤ 60 := by omega
  have fa0 : FA 0 0 := .inl rfl
  have nums : ∀ (k : Nat) (R : Lib.NumEnd Int), n % 15 = k → (∀ w', Errs w' → Calls Tryz.prog 4 #[.int .i64 k, .string c] w' (NumPost R w')) → (∀ w', Errs w' → Calls Tryz.prog 5 #[.int .i64 k, .string c] w' (INumPost R w')) → Calls Tryz.prog 3 #[.int .u8 n, .string c] w (TruePost w) := by
    intro k R hk h1 h2
    by_cases hR : ∃ u, R = .ok u
    · obtain ⟨u, hu⟩ := hR
      refine law_fine n k hk hn c hs w 2 false (IntKind.i64.wrap u) 0 ⟨#[]⟩ (fun w' hM => (h1 w' (hE.mods hM)).mono ?_) (fun w' hM => (h2 w' (hE.mods hM)).mono ?_)
      · rintro x w2 (⟨v, hv, h, hB⟩ | ⟨hno, _⟩)
        · rw [hu] at hv
          cases hv
          exact ⟨0, fa0, h, hB⟩
        · exact absurd hu (hno u)
      · rintro x w2 (⟨v, hv, h, hB⟩ | ⟨hno, _⟩)
        · rw [hu] at hv
          cases hv
          exact ⟨0, fa0, h, hB⟩
        · exact absurd hu (hno u)
    · refine law_wrong n k hk hn c hs w (fun w' hM => (h1 w' (hE.mods hM)).mono ?_) (fun w' hM => (h2 w' (hE.mods hM)).mono ?_)
      · rintro x w2 (⟨v, hv, _⟩ | ⟨_, h⟩)
        · exact absurd ⟨v, hv⟩ hR
        · exact h
      · rintro x w2 (⟨v, hv, _⟩ | ⟨_, h⟩)
        · exact absurd ⟨v, hv⟩ hR
        · exact h
  have flts : ∀ (k : Nat) (R : Nat) (bad : Bool), n % 15 = k → (∀ w', Tabs w' X → Errs w' → Calls Tryz.prog 4 #[.int .i64 k, .string c] w' (FltPost R bad w')) → (∀ w', Tabs w' X → Errs w' → Calls Tryz.prog 5 #[.int .i64 k, .string c] w' (IFltPost R bad w')) → Calls Tryz.prog 3 #[.int .u8 n, .string c] w (TruePost w) := by
    intro k R bad hk h1 h2
    cases bad
    · refine law_fine n k hk hn c hs w 3 false 0 R ⟨#[]⟩ (fun w' hM => (h1 w' (hT.mods hM) (hE.mods hM)).mono ?_) (fun w' hM => (h2 w' (hT.mods hM) (hE.mods hM)).mono ?_)
      · rintro x w2 (⟨hb, _⟩ | ⟨_, y, hy, h, hB⟩)
        · cases hb
        · exact ⟨y, hy, h, hB⟩
      · rintro x w2 (⟨hb, _⟩ | ⟨_, y, hy, h, hB⟩)
        · cases hb
        · exact ⟨y, hy, h, hB⟩
    · refine law_wrong n k hk hn c hs w (fun w' hM => (h1 w' (hT.mods hM) (hE.mods hM)).mono ?_) (fun w' hM => (h2 w' (hT.mods hM) (hE.mods hM)).mono ?_)
      · rintro x w2 (⟨_, h⟩ | ⟨hb, _⟩)
        · exact h
        · cases hb
      · rintro x w2 (⟨_, h⟩ | ⟨hb, _⟩)
        · exact h
        · cases hb
  have f32 : n % 15 = 12 → ∀ R bad, Back R → PfAt X c 32 R bad → (∀ w', Tabs w' X → Errs w' → Calls Tryz.prog 11 #[.string c, .int .i64 32] w' (FoPost R bad w')) → Calls Tryz.prog 3 #[.int .u8 n, .string c] w (TruePost w) := fun hk R bad hb hp hf =>
    flts 12 R bad hk (fun w' hT' hE' => spec_12 w' hT' hE' hf) (fun w' hT' hE' => impl_12 c (by omega) hp hb w' hT' hE')
  have f64 : n % 15 = 13 → ∀ R bad, PfAt X c 64 R bad → (∀ w', Tabs w' X → Errs w' → Calls Tryz.prog 11 #[.string c, .int .i64 64] w' (FoPost R bad w')) → Calls Tryz.prog 3 #[.int .u8 n, .string c] w (TruePost w) := fun hk R bad hp hf =>
    flts 13 R bad hk (fun w' hT' hE' => spec_13 w' hT' hE' hf) (fun w' hT' hE' => impl_13 c (by omega) hp w' hT' hE')
  have h15 : n % 15 < 15 := Nat.mod_lt _ (by decide)
  rcases (show n % 15 = 0 ∨ n % 15 = 1 ∨ n % 15 = 2 ∨ n % 15 = 3 ∨ n % 15 = 4 ∨ n % 15 = 5 ∨ n % 15 = 6 ∨ n % 15 = 7 ∨ n % 15 = 8 ∨ n % 15 = 9 ∨ n % 15 = 10 ∨ n % 15 = 11 ∨ n % 15 = 12 ∨ n % 15 = 13 ∨ n % 15 = 14 by omega) with hk | hk | hk | hk | hk | hk | hk | hk | hk | hk | hk | hk | hk | hk | hk
  · refine law_fine n 0 hk hn c hs w 1 false 0 0 c (fun w' _ => (spec_0 c w').mono ?_) (fun w' _ => (impl_0 c (by omega) w').mono ?_)
    · exact fun x w2 h => ⟨0, fa0, h.1, h.2⟩
    · exact fun x w2 h => ⟨0, fa0, h.1, h.2⟩
  · refine law_fine n 1 hk hn c hs w 1 false 0 0 c (fun w' _ => (spec_1 c w').mono ?_) (fun w' _ => (impl_1 c (by omega) w').mono ?_)
    · exact fun x w2 h => ⟨0, fa0, h.1, h.2⟩
    · exact fun x w2 h => ⟨0, fa0, h.1, h.2⟩
  · exact nums 2 _ hk (fun w' h => spec_2 c (by omega) w' h) (fun w' h => impl_2 c (by omega) w' h)
  · exact nums 3 _ hk (fun w' h => spec_3 c (by omega) w' h) (fun w' h => impl_3 c (by omega) w' h)
  · exact nums 4 _ hk (fun w' h => spec_4 c (by omega) w' h) (fun w' h => impl_4 c (by omega) w' h)
  · exact nums 5 _ hk (fun w' h => spec_5 c (by omega) w' h) (fun w' h => impl_5 c (by omega) w' h)
  · exact nums 6 _ hk (fun w' h => spec_6 c (by omega) w' h) (fun w' h => impl_6 c (by omega) w' h)
  · exact nums 7 _ hk (fun w' h => spec_7 c (by omega) w' h) (fun w' h => impl_7 c (by omega) w' h)
  · exact nums 8 _ hk (fun w' h => spec_8 c (by omega) w' h) (fun w' h => impl_8 c (by omega) w' h)
  · exact nums 9 _ hk (fun w' h => spec_9 c (by omega) w' h) (fun w' h => impl_9 c (by omega) w' h)
  · exact nums 10 _ hk (fun w' h => spec_10 c (by omega) w' h) (fun w' h => impl_10 c (by omega) w' h)
  · exact nums 11 _ hk (fun w' h => spec_11 c (by omega) w' h) (fun w' h => impl_11 c (by omega) w' h)
  · by_cases e1 : c = cInf
    · subst e1
      exact f32 hk _ false back_inf (pf_inf X).2 (fun w' _ _ => floatOf_inf 32 w')
    by_cases e2 : c = cMinf
    · subst e2
      exact f32 hk _ false back_minf (pf_minf X).2 (fun w' _ _ => floatOf_minf 32 w')
    by_cases e3 : c = cNan
    · subst e3
      exact f32 hk _ false back_nan (pf_nan X).2 (fun w' _ _ => floatOf_nan 32 w')
    by_cases hO : OkText c
    · obtain ⟨R, bad, hb, hp⟩ := pf32_text X hX c (hO.plain (by omega)) hO.noIN (by omega)
      exact f32 hk R bad hb hp (fun w' hT' hE' => floatOf_text X c hO hs 32 R bad hp w' hT' hE')
    · exact law_open n 12 hk hn c hs w (fun w' _ => (spec_12_open w' (fun w'' => floatOf_open c hO e1 e2 e3 hs 32 w'')).mono fun x w2 h => ⟨h.1, h.2⟩)
  · by_cases e1 : c = cInf
    · subst e1
      exact f64 hk _ false (pf_inf X).1 (fun w' _ _ => floatOf_inf 64 w')
    by_cases e2 : c = cMinf
    · subst e2
      exact f64 hk _ false (pf_minf X).1 (fun w' _ _ => floatOf_minf 64 w')
    by_cases e3 : c = cNan
    · subst e3
      exact f64 hk _ false (pf_nan X).1 (fun w' _ _ => floatOf_nan 64 w')
    by_cases hO : OkText c
    · obtain ⟨R, bad, hp⟩ := pf64_text X hX c (hO.plain (by omega)) hO.noIN (by omega)
      exact f64 hk R bad hp (fun w' hT' hE' => floatOf_text X c hO hs 64 R bad hp w' hT' hE')
    · exact law_open n 13 hk hn c hs w (fun w' _ => (spec_13_open w' (fun w'' => floatOf_open c hO e1 e2 e3 hs 64 w'')).mono fun x w2 h => ⟨h.1, h.2⟩)
  · refine law_fine n 14 hk hn c hs w 4 (c.toList == [49]) 0 0 ⟨#[]⟩ (fun w' _ => (spec_14 c w').mono ?_) (fun w' _ => (impl_14 c (by omega) w').mono ?_)
    · exact fun x w2 h => ⟨0, fa0, h.1, h.2⟩
    · exact fun x w2 h => ⟨0, fa0, h.1, h.2⟩
end
end Go.Proofs.YtohadobpiclllaaGreatDoor
