/- Whole numbers out of texts: the reference's ways and the program's. -/
import Derived.Test.YtohadobpiclllaaGreatDoorMq
import Derived.Test.YtohadobpiclllaaGreatDoorShelf
import Derived.Lib.ParseIntBTie
namespace Go.Proofs.YtohadobpiclllaaGreatDoor
section
open Go.RowKit Go.Proofs.YtohadobpiclllaaGreatDoorW.PrintWords Go.Proofs.YtohadobpiclllaaGreatDoorW.PrintMore Go.Proofs.YtohadobpiclllaaGreatDoorW.PrintLast Go.Proofs.YtohadobpiclllaaGreatDoor.PFnRespScan
attribute [local go_sem] max2_int min2_int max_two min_two max_three min_three max_four min_four
set_option linter.unusedVariables false
set_option linter.unusedSimpArgs false

/-- A digit or a sign. -/
def numByte (x : Int) : Prop := x = 45 ∨ x = 43 ∨ (48 ≤ x ∧ x ≤ 57)

set_option maxHeartbeats 4000000 in
set_option maxRecDepth 100000 in
theorem plain_calls (c : ByteArray) (h : ∀ i, i < c.size → numByte (cb c i)) (hs : c.size ≤ 1000) (w : World) : Calls Tryz.prog 28 #[.string c] w fun e w' => e = .returned (.bool true) ∧ w = w' := by
  have H := Aside0.mk h
  clear h
  go_enter Tryz.func28, Tryz.ntmps28
  go_wp2
  go_loopw [6] (fun v6 wr => ∃ i : Nat, v6 = .int .i64 i ∧ i ≤ c.size ∧ w = wr) (fun v6 _ => c.size - (intOf v6).toNat)
  case atStart => exact ⟨0, rfl, Nat.zero_le _, rfl⟩
  case round =>
    obtain ⟨i, rfl, hi, rfl⟩ := hrel
    by_cases hic : i < c.size
    · have hic' : (i : Int) < (c.size : Int) := by omega
      obtain ⟨y, hy⟩ : ∃ y : Int, (c[i].toNat : Int) = y := ⟨_, rfl⟩
      have hok := H.out i hic
      rw [cb_at c i hic, hy] at hok
      by_cases h45 : y = 45
      · have h45' : (y != 45) = false := by rw [h45]; rfl
        clear hok h45
        go_wp2
        go_roundw
        case measure => simp [intOf]; omega
        case rel => exact ⟨i + 1, by go_num, by omega, trivial⟩
      · have h45' : (y != 45) = true := bne_iff_ne.mpr h45
        by_cases h43 : y = 43
        · have h43' : (y != 43) = false := by rw [h43]; rfl
          clear hok h43 h45
          go_wp2
          go_roundw
          case measure => simp [intOf]; omega
          case rel => exact ⟨i + 1, by go_num, by omega, trivial⟩
        · have h43' : (y != 43) = true := bne_iff_ne.mpr h43
          have hd : 48 ≤ y ∧ y ≤ 57 := by rcases hok with e | e | e; exact absurd e h45; exact absurd e h43; exact e
          obtain ⟨d1, d2⟩ := hd
          clear hok h43 h45
          go_wp2
          go_roundw
          case measure => simp [intOf]; omega
          case rel => exact ⟨i + 1, by go_num, by omega, trivial⟩
    · have hic' : decide ((i : Int) < (c.size : Int)) = false := decide_eq_false (by omega)
      go_wp2
      go_ret
      exact ⟨rfl, rfl⟩

theorem uintM_digits {M : Nat} : ∀ (l : List UInt8) (acc u : Nat), Lib.parseUintM M acc l = .ok u → ∀ x ∈ l, 48 ≤ x.toNat ∧ x.toNat ≤ 57
  | [], _, _, _ => fun x hx => absurd hx (List.not_mem_nil)
  | c :: r, acc, u, h => by
    rw [Lib.parseUintM] at h
    split at h
    · rename_i hd
      split at h
      · cases h
      · split at h
        · cases h
        · intro x hx
          rcases List.mem_cons.mp hx with rfl | hx
          · exact hd
          · exact uintM_digits r _ u h x hx
    · cases h
theorem uintB_digits {B : Nat} {l : List UInt8} {u : Nat} (h : Lib.parseUintB B l = .ok u) : ∀ x ∈ l, 48 ≤ x.toNat ∧ x.toNat ≤ 57 := by
  unfold Lib.parseUintB at h
  split at h
  · cases h
  · exact uintM_digits l 0 u h
theorem intB_bytes {B : Nat} {l : List UInt8} {v : Int} (h : Lib.parseIntB B l = .ok v) : ∀ x ∈ l, x.toNat = 45 ∨ x.toNat = 43 ∨ (48 ≤ x.toNat ∧ x.toNat ≤ 57) := by
  cases l with
  | nil => exact fun x hx => absurd hx (List.not_mem_nil)
  | cons c r =>
    simp only [Lib.parseIntB] at h
    by_cases hc : c.toNat = 43 ∨ c.toNat = 45
    · rw [if_pos hc] at h
      cases hu : Lib.parseUintB B r with
      | range => rw [hu] at h; cases h
      | ok u =>
        intro x hx
        rcases List.mem_cons.mp hx with rfl | hx
        · rcases hc with e | e
          · exact .inr (.inl e)
          · exact .inl e
        · exact .inr (.inr (uintB_digits hu x hx))
      | _ => rw [hu] at h; cases h
    · rw [if_neg hc] at h
      cases hu : Lib.parseUintB B (c :: r) with
      | range => rw [hu] at h; cases h
      | ok u => exact fun x hx => .inr (.inr (uintB_digits hu x hx))
      | _ => rw [hu] at h; cases h
theorem bytes_num {c : ByteArray} (h : ∀ x ∈ c.data.toList, x.toNat = 45 ∨ x.toNat = 43 ∨ (48 ≤ x.toNat ∧ x.toNat ≤ 57)) : ∀ i, i < c.size → numByte (cb c i) := by
  intro i hi
  rw [cb_at c i hi]
  have h1 : c[i] ∈ c.data.toList := Array.mem_toList_iff.mpr (Array.getElem_mem _)
  unfold numByte
  have := h _ h1
  omega

/-- A number read, or a fault. -/
def NPost (k : IntKind) (R : Lib.NumEnd Int) (w : World) (x : Ending) (w' : World) : Prop := ∃ v ev, x = .returned (.tuple #[.int k v, ev]) ∧ (∀ u, R = .ok u → v = u ∧ ev = .nilIface) ∧ ((∀ u, R ≠ .ok u) → ∃ N, ev = .iface 136 (.pointer (some ⟨N, 0, none⟩))) ∧ Below w.heap.size w w'
def natEnd : Lib.NumEnd Nat → Lib.NumEnd Int
  | .ok u => .ok (u : Int)
  | .range => .range
  | _ => noInt

theorem world_below {w w' : World} (h : w' = w ∨ ∃ t, w' = Lib.bytesWorld w 5 t) : Below w.heap.size w w' := by
  rcases h with rfl | ⟨t, rfl⟩
  · exact Below.refl _ _
  · exact Lib.bytesWorld_below _ _ _

theorem pint8 (c : ByteArray) (hs : c.size ≤ 1000) (w : World) (hE : Errs w) : Calls Tryz.prog 27 #[.string c, .int .i64 10, .int .i64 8] w (NPost .i64 (Lib.parseIntB 8 c.data.toList) w) := by
  obtain ⟨⟨t1, p1, h1⟩, ⟨t2, p2, h2⟩⟩ := hE
  cases h : Lib.parseIntB 8 c.data.toList with
  | ok v =>
    refine (Tryz.strconv_ParseInt_10_at8_ok c (by omega) v (by first | exact h | (rw [← Lib.parseIntB_64]; exact h)) w).mono ?_
    rintro e w' ⟨rfl, hw⟩
    exact ⟨_, _, rfl, fun u hu => (by cases hu; exact ⟨rfl, rfl⟩), fun hn => absurd rfl (hn _), by first | exact world_below hw | exact world_below (hw.imp id (fun e => ⟨c, e⟩))⟩
  | range =>
    refine (Tryz.strconv_ParseInt_10_at8_range c (by omega) (by first | exact h | (rw [← Lib.parseIntB_64]; exact h)) _ w h2 (.inr ⟨t2, p2, rfl⟩)).mono ?_
    rintro e w' ⟨N, rfl, _, _, hB⟩
    exact ⟨_, _, rfl, fun u hu => (by cases hu), fun _ => ⟨N, rfl⟩, hB⟩
  | _ =>
    refine (Tryz.strconv_ParseInt_10_at8_syntax c (by omega) (by first | exact h | (rw [← Lib.parseIntB_64]; exact h)) _ w h1 (.inr ⟨t1, p1, rfl⟩)).mono ?_
    rintro e w' ⟨N, rfl, _, _, hB⟩
    exact ⟨_, _, rfl, fun u hu => (by cases hu), fun _ => ⟨N, rfl⟩, hB⟩

theorem pint16 (c : ByteArray) (hs : c.size ≤ 1000) (w : World) (hE : Errs w) : Calls Tryz.prog 27 #[.string c, .int .i64 10, .int .i64 16] w (NPost .i64 (Lib.parseIntB 16 c.data.toList) w) := by
  obtain ⟨⟨t1, p1, h1⟩, ⟨t2, p2, h2⟩⟩ := hE
  cases h : Lib.parseIntB 16 c.data.toList with
  | ok v =>
    refine (Tryz.strconv_ParseInt_10_at16_ok c (by omega) v (by first | exact h | (rw [← Lib.parseIntB_64]; exact h)) w).mono ?_
    rintro e w' ⟨rfl, hw⟩
    exact ⟨_, _, rfl, fun u hu => (by cases hu; exact ⟨rfl, rfl⟩), fun hn => absurd rfl (hn _), by first | exact world_below hw | exact world_below (hw.imp id (fun e => ⟨c, e⟩))⟩
  | range =>
    refine (Tryz.strconv_ParseInt_10_at16_range c (by omega) (by first | exact h | (rw [← Lib.parseIntB_64]; exact h)) _ w h2 (.inr ⟨t2, p2, rfl⟩)).mono ?_
    rintro e w' ⟨N, rfl, _, _, hB⟩
    exact ⟨_, _, rfl, fun u hu => (by cases hu), fun _ => ⟨N, rfl⟩, hB⟩
  | _ =>
    refine (Tryz.strconv_ParseInt_10_at16_syntax c (by omega) (by first | exact h | (rw [← Lib.parseIntB_64]; exact h)) _ w h1 (.inr ⟨t1, p1, rfl⟩)).mono ?_
    rintro e w' ⟨N, rfl, _, _, hB⟩
    exact ⟨_, _, rfl, fun u hu => (by cases hu), fun _ => ⟨N, rfl⟩, hB⟩

theorem pint32 (c : ByteArray) (hs : c.size ≤ 1000) (w : World) (hE : Errs w) : Calls Tryz.prog 27 #[.string c, .int .i64 10, .int .i64 32] w (NPost .i64 (Lib.parseIntB 32 c.data.toList) w) := by
  obtain ⟨⟨t1, p1, h1⟩, ⟨t2, p2, h2⟩⟩ := hE
  cases h : Lib.parseIntB 32 c.data.toList with
  | ok v =>
    refine (Tryz.strconv_ParseInt_10_at32_ok c (by omega) v (by first | exact h | (rw [← Lib.parseIntB_64]; exact h)) w).mono ?_
    rintro e w' ⟨rfl, hw⟩
    exact ⟨_, _, rfl, fun u hu => (by cases hu; exact ⟨rfl, rfl⟩), fun hn => absurd rfl (hn _), by first | exact world_below hw | exact world_below (hw.imp id (fun e => ⟨c, e⟩))⟩
  | range =>
    refine (Tryz.strconv_ParseInt_10_at32_range c (by omega) (by first | exact h | (rw [← Lib.parseIntB_64]; exact h)) _ w h2 (.inr ⟨t2, p2, rfl⟩)).mono ?_
    rintro e w' ⟨N, rfl, _, _, hB⟩
    exact ⟨_, _, rfl, fun u hu => (by cases hu), fun _ => ⟨N, rfl⟩, hB⟩
  | _ =>
    refine (Tryz.strconv_ParseInt_10_at32_syntax c (by omega) (by first | exact h | (rw [← Lib.parseIntB_64]; exact h)) _ w h1 (.inr ⟨t1, p1, rfl⟩)).mono ?_
    rintro e w' ⟨N, rfl, _, _, hB⟩
    exact ⟨_, _, rfl, fun u hu => (by cases hu), fun _ => ⟨N, rfl⟩, hB⟩

theorem pint64 (c : ByteArray) (hs : c.size ≤ 1000) (w : World) (hE : Errs w) : Calls Tryz.prog 27 #[.string c, .int .i64 10, .int .i64 64] w (NPost .i64 (Lib.parseIntB 64 c.data.toList) w) := by
  obtain ⟨⟨t1, p1, h1⟩, ⟨t2, p2, h2⟩⟩ := hE
  cases h : Lib.parseIntB 64 c.data.toList with
  | ok v =>
    refine (Tryz.strconv_ParseInt_10_at64_ok c (by omega) v (by first | exact h | (rw [← Lib.parseIntB_64]; exact h)) w).mono ?_
    rintro e w' ⟨rfl, hw⟩
    exact ⟨_, _, rfl, fun u hu => (by cases hu; exact ⟨rfl, rfl⟩), fun hn => absurd rfl (hn _), by first | exact world_below hw | exact world_below (hw.imp id (fun e => ⟨c, e⟩))⟩
  | range =>
    refine (Tryz.strconv_ParseInt_10_at64_range c (by omega) (by first | exact h | (rw [← Lib.parseIntB_64]; exact h)) _ w h2 (.inr ⟨t2, p2, rfl⟩)).mono ?_
    rintro e w' ⟨N, rfl, _, _, hB⟩
    exact ⟨_, _, rfl, fun u hu => (by cases hu), fun _ => ⟨N, rfl⟩, hB⟩
  | _ =>
    refine (Tryz.strconv_ParseInt_10_at64_syntax c (by omega) (by first | exact h | (rw [← Lib.parseIntB_64]; exact h)) _ w h1 (.inr ⟨t1, p1, rfl⟩)).mono ?_
    rintro e w' ⟨N, rfl, _, _, hB⟩
    exact ⟨_, _, rfl, fun u hu => (by cases hu), fun _ => ⟨N, rfl⟩, hB⟩

theorem puint8 (c : ByteArray) (hs : c.size ≤ 1000) (w : World) (hE : Errs w) : Calls Tryz.prog 29 #[.string c, .int .i64 10, .int .i64 8] w (NPost .u64 (natEnd (Lib.parseUintB 8 c.data.toList)) w) := by
  obtain ⟨⟨t1, p1, h1⟩, ⟨t2, p2, h2⟩⟩ := hE
  cases h : Lib.parseUintB 8 c.data.toList with
  | ok v =>
    refine (Tryz.strconv_ParseUint_10_at8_ok c (by omega) v (by first | exact h | (rw [← Lib.parseIntB_64]; exact h)) w).mono ?_
    rintro e w' ⟨rfl, hw⟩
    exact ⟨_, _, rfl, fun u hu => (by cases hu; exact ⟨rfl, rfl⟩), fun hn => absurd rfl (hn _), by first | exact world_below hw | exact world_below (hw.imp id (fun e => ⟨c, e⟩))⟩
  | range =>
    refine (Tryz.strconv_ParseUint_10_at8_range c (by omega) (by first | exact h | (rw [← Lib.parseIntB_64]; exact h)) _ w h2 (.inr ⟨t2, p2, rfl⟩)).mono ?_
    rintro e w' ⟨N, rfl, _, _, hB⟩
    exact ⟨_, _, rfl, fun u hu => (by cases hu), fun _ => ⟨N, rfl⟩, hB⟩
  | _ =>
    refine (Tryz.strconv_ParseUint_10_at8_syntax c (by omega) (by first | exact h | (rw [← Lib.parseIntB_64]; exact h)) _ w h1 (.inr ⟨t1, p1, rfl⟩)).mono ?_
    rintro e w' ⟨N, rfl, _, _, hB⟩
    exact ⟨_, _, rfl, fun u hu => (by cases hu), fun _ => ⟨N, rfl⟩, hB⟩

theorem puint16 (c : ByteArray) (hs : c.size ≤ 1000) (w : World) (hE : Errs w) : Calls Tryz.prog 29 #[.string c, .int .i64 10, .int .i64 16] w (NPost .u64 (natEnd (Lib.parseUintB 16 c.data.toList)) w) := by
  obtain ⟨⟨t1, p1, h1⟩, ⟨t2, p2, h2⟩⟩ := hE
  cases h : Lib.parseUintB 16 c.data.toList with
  | ok v =>
    refine (Tryz.strconv_ParseUint_10_at16_ok c (by omega) v (by first | exact h | (rw [← Lib.parseIntB_64]; exact h)) w).mono ?_
    rintro e w' ⟨rfl, hw⟩
    exact ⟨_, _, rfl, fun u hu => (by cases hu; exact ⟨rfl, rfl⟩), fun hn => absurd rfl (hn _), by first | exact world_below hw | exact world_below (hw.imp id (fun e => ⟨c, e⟩))⟩
  | range =>
    refine (Tryz.strconv_ParseUint_10_at16_range c (by omega) (by first | exact h | (rw [← Lib.parseIntB_64]; exact h)) _ w h2 (.inr ⟨t2, p2, rfl⟩)).mono ?_
    rintro e w' ⟨N, rfl, _, _, hB⟩
    exact ⟨_, _, rfl, fun u hu => (by cases hu), fun _ => ⟨N, rfl⟩, hB⟩
  | _ =>
    refine (Tryz.strconv_ParseUint_10_at16_syntax c (by omega) (by first | exact h | (rw [← Lib.parseIntB_64]; exact h)) _ w h1 (.inr ⟨t1, p1, rfl⟩)).mono ?_
    rintro e w' ⟨N, rfl, _, _, hB⟩
    exact ⟨_, _, rfl, fun u hu => (by cases hu), fun _ => ⟨N, rfl⟩, hB⟩

theorem puint32 (c : ByteArray) (hs : c.size ≤ 1000) (w : World) (hE : Errs w) : Calls Tryz.prog 29 #[.string c, .int .i64 10, .int .i64 32] w (NPost .u64 (natEnd (Lib.parseUintB 32 c.data.toList)) w) := by
  obtain ⟨⟨t1, p1, h1⟩, ⟨t2, p2, h2⟩⟩ := hE
  cases h : Lib.parseUintB 32 c.data.toList with
  | ok v =>
    refine (Tryz.strconv_ParseUint_10_at32_ok c (by omega) v (by first | exact h | (rw [← Lib.parseIntB_64]; exact h)) w).mono ?_
    rintro e w' ⟨rfl, hw⟩
    exact ⟨_, _, rfl, fun u hu => (by cases hu; exact ⟨rfl, rfl⟩), fun hn => absurd rfl (hn _), by first | exact world_below hw | exact world_below (hw.imp id (fun e => ⟨c, e⟩))⟩
  | range =>
    refine (Tryz.strconv_ParseUint_10_at32_range c (by omega) (by first | exact h | (rw [← Lib.parseIntB_64]; exact h)) _ w h2 (.inr ⟨t2, p2, rfl⟩)).mono ?_
    rintro e w' ⟨N, rfl, _, _, hB⟩
    exact ⟨_, _, rfl, fun u hu => (by cases hu), fun _ => ⟨N, rfl⟩, hB⟩
  | _ =>
    refine (Tryz.strconv_ParseUint_10_at32_syntax c (by omega) (by first | exact h | (rw [← Lib.parseIntB_64]; exact h)) _ w h1 (.inr ⟨t1, p1, rfl⟩)).mono ?_
    rintro e w' ⟨N, rfl, _, _, hB⟩
    exact ⟨_, _, rfl, fun u hu => (by cases hu), fun _ => ⟨N, rfl⟩, hB⟩

theorem puint64 (c : ByteArray) (hs : c.size ≤ 1000) (w : World) (hE : Errs w) : Calls Tryz.prog 29 #[.string c, .int .i64 10, .int .i64 64] w (NPost .u64 (natEnd (Lib.parseUintB 64 c.data.toList)) w) := by
  obtain ⟨⟨t1, p1, h1⟩, ⟨t2, p2, h2⟩⟩ := hE
  cases h : Lib.parseUintB 64 c.data.toList with
  | ok v =>
    refine (Tryz.strconv_ParseUint_10_at64_ok c (by omega) v (by first | exact h | (rw [← Lib.parseIntB_64]; exact h)) w).mono ?_
    rintro e w' ⟨rfl, hw⟩
    exact ⟨_, _, rfl, fun u hu => (by cases hu; exact ⟨rfl, rfl⟩), fun hn => absurd rfl (hn _), by first | exact world_below hw | exact world_below (hw.imp id (fun e => ⟨c, e⟩))⟩
  | range =>
    refine (Tryz.strconv_ParseUint_10_at64_range c (by omega) (by first | exact h | (rw [← Lib.parseIntB_64]; exact h)) _ w h2 (.inr ⟨t2, p2, rfl⟩)).mono ?_
    rintro e w' ⟨N, rfl, _, _, hB⟩
    exact ⟨_, _, rfl, fun u hu => (by cases hu), fun _ => ⟨N, rfl⟩, hB⟩
  | _ =>
    refine (Tryz.strconv_ParseUint_10_at64_syntax c (by omega) (by first | exact h | (rw [← Lib.parseIntB_64]; exact h)) _ w h1 (.inr ⟨t1, p1, rfl⟩)).mono ?_
    rintro e w' ⟨N, rfl, _, _, hB⟩
    exact ⟨_, _, rfl, fun u hu => (by cases hu), fun _ => ⟨N, rfl⟩, hB⟩

theorem patoi (c : ByteArray) (hs : c.size ≤ 1000) (w : World) (hE : Errs w) : Calls Tryz.prog 52 #[.string c] w (NPost .i64 (Lib.parseIntB 64 c.data.toList) w) := by
  obtain ⟨⟨t1, p1, h1⟩, ⟨t2, p2, h2⟩⟩ := hE
  cases h : Lib.parseIntB 64 c.data.toList with
  | ok v =>
    refine (Tryz.strconv_Atoi_ok c (by omega) v (by first | exact h | (rw [← Lib.parseIntB_64]; exact h)) w).mono ?_
    rintro e w' ⟨rfl, hw⟩
    exact ⟨_, _, rfl, fun u hu => (by cases hu; exact ⟨rfl, rfl⟩), fun hn => absurd rfl (hn _), by first | exact world_below hw | exact world_below (hw.imp id (fun e => ⟨c, e⟩))⟩
  | range =>
    refine (Tryz.strconv_Atoi_range c (by omega) (by first | exact h | (rw [← Lib.parseIntB_64]; exact h)) _ w h2 (.inr ⟨t2, p2, rfl⟩)).mono ?_
    rintro e w' ⟨N, rfl, _, _, hB⟩
    exact ⟨_, _, rfl, fun u hu => (by cases hu), fun _ => ⟨N, rfl⟩, hB⟩
  | _ =>
    refine (Tryz.strconv_Atoi_syntax c (by omega) (by first | exact h | (rw [← Lib.parseIntB_64]; exact h)) _ w h1 (.inr ⟨t1, p1, rfl⟩)).mono ?_
    rintro e w' ⟨N, rfl, _, _, hB⟩
    exact ⟨_, _, rfl, fun u hu => (by cases hu), fun _ => ⟨N, rfl⟩, hB⟩

/-- What whole and natural say. -/
def WPost (k : IntKind) (R : Lib.NumEnd Int) (w : World) (x : Ending) (w' : World) : Prop := ∃ v ok, x = .returned (.tuple #[.int k v, .bool ok]) ∧ (∀ u, R = .ok u → v = u ∧ ok = true) ∧ ((∀ u, R ≠ .ok u) → ok = false) ∧ Below w.heap.size w w'

theorem str_bytes (s : ByteArray) : strOfNums (bytesOf s) = s := by
  have h : (strOfNums (bytesOf s)).data.toList = s.data.toList := by
    rw [strOfNums_data]; unfold bytesOf
    rw [List.map_map]
    conv => rhs; rw [← List.map_id s.data.toList]
    apply List.map_congr_left
    intro b _
    simp
  cases hs : strOfNums (bytesOf s) with | mk d =>
  cases s with | mk d2 =>
  rw [hs] at h
  congr 1
  exact Array.toList_inj.1 h
theorem str_run {w : World} {A : Option Addr} {c : ByteArray} {cap : Nat} (h : ReadsInt w .u8 A c.size (bytesOf c)) : (convert 44 9 (.slice A c.size cap)).run Tryz.prog w = .ok (.string c) w := by
  have e := Kd.C_string (P := Tryz.prog) (A := A) (c := cap) Tryz.underlying44 Tryz.underlying5 Tryz.underlying9 (Kd.C_of_reads (d := (0 : Int)) (h1 := fun _ => rfl) h)
  rw [str_bytes] at e
  exact e
theorem b2s_calls (w : World) (A : Option Addr) (c : ByteArray) (cap : Nat) (hR : ReadsInt w .u8 A c.size (bytesOf c)) :
    Calls Tryz.prog 35 #[.slice A c.size cap] w fun e w' => e = .returned (.string c) ∧ w = w' := by
  have hcv := str_run (cap := cap) hR
  clear hR
  go_enter Tryz.func35, Tryz.ntmps35
  go_wp2
  go_ret
  exact ⟨rfl, rfl⟩

set_option maxHeartbeats 4000000 in
set_option maxRecDepth 100000 in
theorem whole8 (c : ByteArray) (hs : c.size ≤ 1000) (w : World) (hE : Errs w) : Calls Tryz.prog 9 #[.string c, .int .i64 8] w (WPost .i64 (Lib.parseIntB 8 c.data.toList) w) := by
  have HP := Aside0.mk (pint8 c hs w hE)
  clear hE
  cases h : Lib.parseIntB 8 c.data.toList with
  | ok v =>
    have HN := Aside0.mk (plain_calls c (bytes_num (intB_bytes h)) hs)
    have HH := Aside0.mk h
    clear h
    go_enter Tryz.func9, Tryz.ntmps9
    go_wp2_with fail
    refine HP.out.mono ?_
    rintro x w1 ⟨v1, ev, rfl, h1, h2, hB⟩
    obtain ⟨rfl, rfl⟩ := h1 _ (by first | exact HH.out | (rw [HH.out]; rfl))
    have HB := Aside0.mk hB
    clear h1 h2 hB
    go_wp2_with fail
    refine (HN.out w1).mono ?_
    rintro x w2 ⟨rfl, rfl⟩
    go_wp2_with fail
    go_ret2
    exact ⟨_, true, rfl, fun u hu => (by cases hu; exact ⟨rfl, rfl⟩), fun hn => absurd rfl (hn _), HB.out⟩
  | range =>
    have HH := Aside0.mk h
    clear h
    go_enter Tryz.func9, Tryz.ntmps9
    go_wp2_with fail
    refine HP.out.mono ?_
    rintro x w1 ⟨v1, ev, rfl, h1, h2, hB⟩
    obtain ⟨N, rfl⟩ := h2 (fun u hu => (by rw [HH.out] at hu; cases hu))
    have HB := Aside0.mk hB
    clear h1 h2 hB
    go_wp2_with fail
    go_ret2
    exact ⟨_, false, rfl, fun u hu => (by cases hu), fun hn => rfl, HB.out⟩
  | _ =>
    have HH := Aside0.mk h
    clear h
    go_enter Tryz.func9, Tryz.ntmps9
    go_wp2_with fail
    refine HP.out.mono ?_
    rintro x w1 ⟨v1, ev, rfl, h1, h2, hB⟩
    obtain ⟨N, rfl⟩ := h2 (fun u hu => (by rw [HH.out] at hu; cases hu))
    have HB := Aside0.mk hB
    clear h1 h2 hB
    go_wp2_with fail
    go_ret2
    exact ⟨_, false, rfl, fun u hu => (by cases hu), fun hn => rfl, HB.out⟩

set_option maxHeartbeats 4000000 in
set_option maxRecDepth 100000 in
theorem whole16 (c : ByteArray) (hs : c.size ≤ 1000) (w : World) (hE : Errs w) : Calls Tryz.prog 9 #[.string c, .int .i64 16] w (WPost .i64 (Lib.parseIntB 16 c.data.toList) w) := by
  have HP := Aside0.mk (pint16 c hs w hE)
  clear hE
  cases h : Lib.parseIntB 16 c.data.toList with
  | ok v =>
    have HN := Aside0.mk (plain_calls c (bytes_num (intB_bytes h)) hs)
    have HH := Aside0.mk h
    clear h
    go_enter Tryz.func9, Tryz.ntmps9
    go_wp2_with fail
    refine HP.out.mono ?_
    rintro x w1 ⟨v1, ev, rfl, h1, h2, hB⟩
    obtain ⟨rfl, rfl⟩ := h1 _ (by first | exact HH.out | (rw [HH.out]; rfl))
    have HB := Aside0.mk hB
    clear h1 h2 hB
    go_wp2_with fail
    refine (HN.out w1).mono ?_
    rintro x w2 ⟨rfl, rfl⟩
    go_wp2_with fail
    go_ret2
    exact ⟨_, true, rfl, fun u hu => (by cases hu; exact ⟨rfl, rfl⟩), fun hn => absurd rfl (hn _), HB.out⟩
  | range =>
    have HH := Aside0.mk h
    clear h
    go_enter Tryz.func9, Tryz.ntmps9
    go_wp2_with fail
    refine HP.out.mono ?_
    rintro x w1 ⟨v1, ev, rfl, h1, h2, hB⟩
    obtain ⟨N, rfl⟩ := h2 (fun u hu => (by rw [HH.out] at hu; cases hu))
    have HB := Aside0.mk hB
    clear h1 h2 hB
    go_wp2_with fail
    go_ret2
    exact ⟨_, false, rfl, fun u hu => (by cases hu), fun hn => rfl, HB.out⟩
  | _ =>
    have HH := Aside0.mk h
    clear h
    go_enter Tryz.func9, Tryz.ntmps9
    go_wp2_with fail
    refine HP.out.mono ?_
    rintro x w1 ⟨v1, ev, rfl, h1, h2, hB⟩
    obtain ⟨N, rfl⟩ := h2 (fun u hu => (by rw [HH.out] at hu; cases hu))
    have HB := Aside0.mk hB
    clear h1 h2 hB
    go_wp2_with fail
    go_ret2
    exact ⟨_, false, rfl, fun u hu => (by cases hu), fun hn => rfl, HB.out⟩

set_option maxHeartbeats 4000000 in
set_option maxRecDepth 100000 in
theorem whole32 (c : ByteArray) (hs : c.size ≤ 1000) (w : World) (hE : Errs w) : Calls Tryz.prog 9 #[.string c, .int .i64 32] w (WPost .i64 (Lib.parseIntB 32 c.data.toList) w) := by
  have HP := Aside0.mk (pint32 c hs w hE)
  clear hE
  cases h : Lib.parseIntB 32 c.data.toList with
  | ok v =>
    have HN := Aside0.mk (plain_calls c (bytes_num (intB_bytes h)) hs)
    have HH := Aside0.mk h
    clear h
    go_enter Tryz.func9, Tryz.ntmps9
    go_wp2_with fail
    refine HP.out.mono ?_
    rintro x w1 ⟨v1, ev, rfl, h1, h2, hB⟩
    obtain ⟨rfl, rfl⟩ := h1 _ (by first | exact HH.out | (rw [HH.out]; rfl))
    have HB := Aside0.mk hB
    clear h1 h2 hB
    go_wp2_with fail
    refine (HN.out w1).mono ?_
    rintro x w2 ⟨rfl, rfl⟩
    go_wp2_with fail
    go_ret2
    exact ⟨_, true, rfl, fun u hu => (by cases hu; exact ⟨rfl, rfl⟩), fun hn => absurd rfl (hn _), HB.out⟩
  | range =>
    have HH := Aside0.mk h
    clear h
    go_enter Tryz.func9, Tryz.ntmps9
    go_wp2_with fail
    refine HP.out.mono ?_
    rintro x w1 ⟨v1, ev, rfl, h1, h2, hB⟩
    obtain ⟨N, rfl⟩ := h2 (fun u hu => (by rw [HH.out] at hu; cases hu))
    have HB := Aside0.mk hB
    clear h1 h2 hB
    go_wp2_with fail
    go_ret2
    exact ⟨_, false, rfl, fun u hu => (by cases hu), fun hn => rfl, HB.out⟩
  | _ =>
    have HH := Aside0.mk h
    clear h
    go_enter Tryz.func9, Tryz.ntmps9
    go_wp2_with fail
    refine HP.out.mono ?_
    rintro x w1 ⟨v1, ev, rfl, h1, h2, hB⟩
    obtain ⟨N, rfl⟩ := h2 (fun u hu => (by rw [HH.out] at hu; cases hu))
    have HB := Aside0.mk hB
    clear h1 h2 hB
    go_wp2_with fail
    go_ret2
    exact ⟨_, false, rfl, fun u hu => (by cases hu), fun hn => rfl, HB.out⟩

set_option maxHeartbeats 4000000 in
set_option maxRecDepth 100000 in
theorem whole64 (c : ByteArray) (hs : c.size ≤ 1000) (w : World) (hE : Errs w) : Calls Tryz.prog 9 #[.string c, .int .i64 64] w (WPost .i64 (Lib.parseIntB 64 c.data.toList) w) := by
  have HP := Aside0.mk (pint64 c hs w hE)
  clear hE
  cases h : Lib.parseIntB 64 c.data.toList with
  | ok v =>
    have HN := Aside0.mk (plain_calls c (bytes_num (intB_bytes h)) hs)
    have HH := Aside0.mk h
    clear h
    go_enter Tryz.func9, Tryz.ntmps9
    go_wp2_with fail
    refine HP.out.mono ?_
    rintro x w1 ⟨v1, ev, rfl, h1, h2, hB⟩
    obtain ⟨rfl, rfl⟩ := h1 _ (by first | exact HH.out | (rw [HH.out]; rfl))
    have HB := Aside0.mk hB
    clear h1 h2 hB
    go_wp2_with fail
    refine (HN.out w1).mono ?_
    rintro x w2 ⟨rfl, rfl⟩
    go_wp2_with fail
    go_ret2
    exact ⟨_, true, rfl, fun u hu => (by cases hu; exact ⟨rfl, rfl⟩), fun hn => absurd rfl (hn _), HB.out⟩
  | range =>
    have HH := Aside0.mk h
    clear h
    go_enter Tryz.func9, Tryz.ntmps9
    go_wp2_with fail
    refine HP.out.mono ?_
    rintro x w1 ⟨v1, ev, rfl, h1, h2, hB⟩
    obtain ⟨N, rfl⟩ := h2 (fun u hu => (by rw [HH.out] at hu; cases hu))
    have HB := Aside0.mk hB
    clear h1 h2 hB
    go_wp2_with fail
    go_ret2
    exact ⟨_, false, rfl, fun u hu => (by cases hu), fun hn => rfl, HB.out⟩
  | _ =>
    have HH := Aside0.mk h
    clear h
    go_enter Tryz.func9, Tryz.ntmps9
    go_wp2_with fail
    refine HP.out.mono ?_
    rintro x w1 ⟨v1, ev, rfl, h1, h2, hB⟩
    obtain ⟨N, rfl⟩ := h2 (fun u hu => (by rw [HH.out] at hu; cases hu))
    have HB := Aside0.mk hB
    clear h1 h2 hB
    go_wp2_with fail
    go_ret2
    exact ⟨_, false, rfl, fun u hu => (by cases hu), fun hn => rfl, HB.out⟩

set_option maxHeartbeats 4000000 in
set_option maxRecDepth 100000 in
theorem natural8 (c : ByteArray) (hs : c.size ≤ 1000) (w : World) (hE : Errs w) : Calls Tryz.prog 10 #[.string c, .int .i64 8] w (WPost .u64 (natEnd (Lib.parseUintB 8 c.data.toList)) w) := by
  have HP := Aside0.mk (puint8 c hs w hE)
  clear hE
  cases h : Lib.parseUintB 8 c.data.toList with
  | ok v =>
    have HN := Aside0.mk (plain_calls c (bytes_num (fun x hx => .inr (.inr (uintB_digits h x hx)))) hs)
    have HH := Aside0.mk h
    clear h
    go_enter Tryz.func10, Tryz.ntmps10
    go_wp2_with fail
    refine HP.out.mono ?_
    rintro x w1 ⟨v1, ev, rfl, h1, h2, hB⟩
    obtain ⟨rfl, rfl⟩ := h1 _ (by first | exact HH.out | (rw [HH.out]; rfl))
    have HB := Aside0.mk hB
    clear h1 h2 hB
    go_wp2_with fail
    refine (HN.out w1).mono ?_
    rintro x w2 ⟨rfl, rfl⟩
    go_wp2_with fail
    go_ret2
    exact ⟨_, true, rfl, fun u hu => (by cases hu; exact ⟨rfl, rfl⟩), fun hn => absurd rfl (hn _), HB.out⟩
  | range =>
    have HH := Aside0.mk h
    clear h
    go_enter Tryz.func10, Tryz.ntmps10
    go_wp2_with fail
    refine HP.out.mono ?_
    rintro x w1 ⟨v1, ev, rfl, h1, h2, hB⟩
    obtain ⟨N, rfl⟩ := h2 (fun u hu => (by rw [HH.out] at hu; cases hu))
    have HB := Aside0.mk hB
    clear h1 h2 hB
    go_wp2_with fail
    go_ret2
    exact ⟨_, false, rfl, fun u hu => (by cases hu), fun hn => rfl, HB.out⟩
  | _ =>
    have HH := Aside0.mk h
    clear h
    go_enter Tryz.func10, Tryz.ntmps10
    go_wp2_with fail
    refine HP.out.mono ?_
    rintro x w1 ⟨v1, ev, rfl, h1, h2, hB⟩
    obtain ⟨N, rfl⟩ := h2 (fun u hu => (by rw [HH.out] at hu; cases hu))
    have HB := Aside0.mk hB
    clear h1 h2 hB
    go_wp2_with fail
    go_ret2
    exact ⟨_, false, rfl, fun u hu => (by cases hu), fun hn => rfl, HB.out⟩

set_option maxHeartbeats 4000000 in
set_option maxRecDepth 100000 in
theorem natural16 (c : ByteArray) (hs : c.size ≤ 1000) (w : World) (hE : Errs w) : Calls Tryz.prog 10 #[.string c, .int .i64 16] w (WPost .u64 (natEnd (Lib.parseUintB 16 c.data.toList)) w) := by
  have HP := Aside0.mk (puint16 c hs w hE)
  clear hE
  cases h : Lib.parseUintB 16 c.data.toList with
  | ok v =>
    have HN := Aside0.mk (plain_calls c (bytes_num (fun x hx => .inr (.inr (uintB_digits h x hx)))) hs)
    have HH := Aside0.mk h
    clear h
    go_enter Tryz.func10, Tryz.ntmps10
    go_wp2_with fail
    refine HP.out.mono ?_
    rintro x w1 ⟨v1, ev, rfl, h1, h2, hB⟩
    obtain ⟨rfl, rfl⟩ := h1 _ (by first | exact HH.out | (rw [HH.out]; rfl))
    have HB := Aside0.mk hB
    clear h1 h2 hB
    go_wp2_with fail
    refine (HN.out w1).mono ?_
    rintro x w2 ⟨rfl, rfl⟩
    go_wp2_with fail
    go_ret2
    exact ⟨_, true, rfl, fun u hu => (by cases hu; exact ⟨rfl, rfl⟩), fun hn => absurd rfl (hn _), HB.out⟩
  | range =>
    have HH := Aside0.mk h
    clear h
    go_enter Tryz.func10, Tryz.ntmps10
    go_wp2_with fail
    refine HP.out.mono ?_
    rintro x w1 ⟨v1, ev, rfl, h1, h2, hB⟩
    obtain ⟨N, rfl⟩ := h2 (fun u hu => (by rw [HH.out] at hu; cases hu))
    have HB := Aside0.mk hB
    clear h1 h2 hB
    go_wp2_with fail
    go_ret2
    exact ⟨_, false, rfl, fun u hu => (by cases hu), fun hn => rfl, HB.out⟩
  | _ =>
    have HH := Aside0.mk h
    clear h
    go_enter Tryz.func10, Tryz.ntmps10
    go_wp2_with fail
    refine HP.out.mono ?_
    rintro x w1 ⟨v1, ev, rfl, h1, h2, hB⟩
    obtain ⟨N, rfl⟩ := h2 (fun u hu => (by rw [HH.out] at hu; cases hu))
    have HB := Aside0.mk hB
    clear h1 h2 hB
    go_wp2_with fail
    go_ret2
    exact ⟨_, false, rfl, fun u hu => (by cases hu), fun hn => rfl, HB.out⟩

set_option maxHeartbeats 4000000 in
set_option maxRecDepth 100000 in
theorem natural32 (c : ByteArray) (hs : c.size ≤ 1000) (w : World) (hE : Errs w) : Calls Tryz.prog 10 #[.string c, .int .i64 32] w (WPost .u64 (natEnd (Lib.parseUintB 32 c.data.toList)) w) := by
  have HP := Aside0.mk (puint32 c hs w hE)
  clear hE
  cases h : Lib.parseUintB 32 c.data.toList with
  | ok v =>
    have HN := Aside0.mk (plain_calls c (bytes_num (fun x hx => .inr (.inr (uintB_digits h x hx)))) hs)
    have HH := Aside0.mk h
    clear h
    go_enter Tryz.func10, Tryz.ntmps10
    go_wp2_with fail
    refine HP.out.mono ?_
    rintro x w1 ⟨v1, ev, rfl, h1, h2, hB⟩
    obtain ⟨rfl, rfl⟩ := h1 _ (by first | exact HH.out | (rw [HH.out]; rfl))
    have HB := Aside0.mk hB
    clear h1 h2 hB
    go_wp2_with fail
    refine (HN.out w1).mono ?_
    rintro x w2 ⟨rfl, rfl⟩
    go_wp2_with fail
    go_ret2
    exact ⟨_, true, rfl, fun u hu => (by cases hu; exact ⟨rfl, rfl⟩), fun hn => absurd rfl (hn _), HB.out⟩
  | range =>
    have HH := Aside0.mk h
    clear h
    go_enter Tryz.func10, Tryz.ntmps10
    go_wp2_with fail
    refine HP.out.mono ?_
    rintro x w1 ⟨v1, ev, rfl, h1, h2, hB⟩
    obtain ⟨N, rfl⟩ := h2 (fun u hu => (by rw [HH.out] at hu; cases hu))
    have HB := Aside0.mk hB
    clear h1 h2 hB
    go_wp2_with fail
    go_ret2
    exact ⟨_, false, rfl, fun u hu => (by cases hu), fun hn => rfl, HB.out⟩
  | _ =>
    have HH := Aside0.mk h
    clear h
    go_enter Tryz.func10, Tryz.ntmps10
    go_wp2_with fail
    refine HP.out.mono ?_
    rintro x w1 ⟨v1, ev, rfl, h1, h2, hB⟩
    obtain ⟨N, rfl⟩ := h2 (fun u hu => (by rw [HH.out] at hu; cases hu))
    have HB := Aside0.mk hB
    clear h1 h2 hB
    go_wp2_with fail
    go_ret2
    exact ⟨_, false, rfl, fun u hu => (by cases hu), fun hn => rfl, HB.out⟩

set_option maxHeartbeats 4000000 in
set_option maxRecDepth 100000 in
theorem natural64 (c : ByteArray) (hs : c.size ≤ 1000) (w : World) (hE : Errs w) : Calls Tryz.prog 10 #[.string c, .int .i64 64] w (WPost .u64 (natEnd (Lib.parseUintB 64 c.data.toList)) w) := by
  have HP := Aside0.mk (puint64 c hs w hE)
  clear hE
  cases h : Lib.parseUintB 64 c.data.toList with
  | ok v =>
    have HN := Aside0.mk (plain_calls c (bytes_num (fun x hx => .inr (.inr (uintB_digits h x hx)))) hs)
    have HH := Aside0.mk h
    clear h
    go_enter Tryz.func10, Tryz.ntmps10
    go_wp2_with fail
    refine HP.out.mono ?_
    rintro x w1 ⟨v1, ev, rfl, h1, h2, hB⟩
    obtain ⟨rfl, rfl⟩ := h1 _ (by first | exact HH.out | (rw [HH.out]; rfl))
    have HB := Aside0.mk hB
    clear h1 h2 hB
    go_wp2_with fail
    refine (HN.out w1).mono ?_
    rintro x w2 ⟨rfl, rfl⟩
    go_wp2_with fail
    go_ret2
    exact ⟨_, true, rfl, fun u hu => (by cases hu; exact ⟨rfl, rfl⟩), fun hn => absurd rfl (hn _), HB.out⟩
  | range =>
    have HH := Aside0.mk h
    clear h
    go_enter Tryz.func10, Tryz.ntmps10
    go_wp2_with fail
    refine HP.out.mono ?_
    rintro x w1 ⟨v1, ev, rfl, h1, h2, hB⟩
    obtain ⟨N, rfl⟩ := h2 (fun u hu => (by rw [HH.out] at hu; cases hu))
    have HB := Aside0.mk hB
    clear h1 h2 hB
    go_wp2_with fail
    go_ret2
    exact ⟨_, false, rfl, fun u hu => (by cases hu), fun hn => rfl, HB.out⟩
  | _ =>
    have HH := Aside0.mk h
    clear h
    go_enter Tryz.func10, Tryz.ntmps10
    go_wp2_with fail
    refine HP.out.mono ?_
    rintro x w1 ⟨v1, ev, rfl, h1, h2, hB⟩
    obtain ⟨N, rfl⟩ := h2 (fun u hu => (by rw [HH.out] at hu; cases hu))
    have HB := Aside0.mk hB
    clear h1 h2 hB
    go_wp2_with fail
    go_ret2
    exact ⟨_, false, rfl, fun u hu => (by cases hu), fun hn => rfl, HB.out⟩

set_option maxHeartbeats 4000000 in
set_option maxRecDepth 100000 in
theorem upint8 (c : ByteArray) (A : Option Addr) (cap : Nat) (hs : c.size ≤ 1000) (w : World) (hE : Errs w) (hR : ReadsInt w .u8 A c.size (bytesOf c)) : Calls Tryz.prog 37 #[.slice A c.size cap, .int .i64 10, .int .i64 8] w (NPost .i64 (Lib.parseIntB 8 c.data.toList) w) := by
  have HP := Aside0.mk (pint8 c hs w hE)
  have HS := Aside0.mk (b2s_calls w A c cap hR)
  clear hE hR
  go_enter Tryz.func37, Tryz.ntmps37
  go_wp2_with fail
  refine HS.out.mono ?_
  rintro x w1 ⟨rfl, rfl⟩
  go_wp2_with fail
  refine HP.out.mono ?_
  rintro x w1 ⟨v1, ev, rfl, h1, h2, hB⟩
  have HB := Aside0.mk hB
  have H1 := Aside0.mk h1
  have H2 := Aside0.mk h2
  clear h1 h2 hB
  go_wp2_with fail
  go_ret2
  exact ⟨_, _, rfl, H1.out, H2.out, HB.out⟩

set_option maxHeartbeats 4000000 in
set_option maxRecDepth 100000 in
theorem upint16 (c : ByteArray) (A : Option Addr) (cap : Nat) (hs : c.size ≤ 1000) (w : World) (hE : Errs w) (hR : ReadsInt w .u8 A c.size (bytesOf c)) : Calls Tryz.prog 37 #[.slice A c.size cap, .int .i64 10, .int .i64 16] w (NPost .i64 (Lib.parseIntB 16 c.data.toList) w) := by
  have HP := Aside0.mk (pint16 c hs w hE)
  have HS := Aside0.mk (b2s_calls w A c cap hR)
  clear hE hR
  go_enter Tryz.func37, Tryz.ntmps37
  go_wp2_with fail
  refine HS.out.mono ?_
  rintro x w1 ⟨rfl, rfl⟩
  go_wp2_with fail
  refine HP.out.mono ?_
  rintro x w1 ⟨v1, ev, rfl, h1, h2, hB⟩
  have HB := Aside0.mk hB
  have H1 := Aside0.mk h1
  have H2 := Aside0.mk h2
  clear h1 h2 hB
  go_wp2_with fail
  go_ret2
  exact ⟨_, _, rfl, H1.out, H2.out, HB.out⟩

set_option maxHeartbeats 4000000 in
set_option maxRecDepth 100000 in
theorem upint32 (c : ByteArray) (A : Option Addr) (cap : Nat) (hs : c.size ≤ 1000) (w : World) (hE : Errs w) (hR : ReadsInt w .u8 A c.size (bytesOf c)) : Calls Tryz.prog 37 #[.slice A c.size cap, .int .i64 10, .int .i64 32] w (NPost .i64 (Lib.parseIntB 32 c.data.toList) w) := by
  have HP := Aside0.mk (pint32 c hs w hE)
  have HS := Aside0.mk (b2s_calls w A c cap hR)
  clear hE hR
  go_enter Tryz.func37, Tryz.ntmps37
  go_wp2_with fail
  refine HS.out.mono ?_
  rintro x w1 ⟨rfl, rfl⟩
  go_wp2_with fail
  refine HP.out.mono ?_
  rintro x w1 ⟨v1, ev, rfl, h1, h2, hB⟩
  have HB := Aside0.mk hB
  have H1 := Aside0.mk h1
  have H2 := Aside0.mk h2
  clear h1 h2 hB
  go_wp2_with fail
  go_ret2
  exact ⟨_, _, rfl, H1.out, H2.out, HB.out⟩

set_option maxHeartbeats 4000000 in
set_option maxRecDepth 100000 in
theorem upint64 (c : ByteArray) (A : Option Addr) (cap : Nat) (hs : c.size ≤ 1000) (w : World) (hE : Errs w) (hR : ReadsInt w .u8 A c.size (bytesOf c)) : Calls Tryz.prog 37 #[.slice A c.size cap, .int .i64 10, .int .i64 64] w (NPost .i64 (Lib.parseIntB 64 c.data.toList) w) := by
  have HP := Aside0.mk (pint64 c hs w hE)
  have HS := Aside0.mk (b2s_calls w A c cap hR)
  clear hE hR
  go_enter Tryz.func37, Tryz.ntmps37
  go_wp2_with fail
  refine HS.out.mono ?_
  rintro x w1 ⟨rfl, rfl⟩
  go_wp2_with fail
  refine HP.out.mono ?_
  rintro x w1 ⟨v1, ev, rfl, h1, h2, hB⟩
  have HB := Aside0.mk hB
  have H1 := Aside0.mk h1
  have H2 := Aside0.mk h2
  clear h1 h2 hB
  go_wp2_with fail
  go_ret2
  exact ⟨_, _, rfl, H1.out, H2.out, HB.out⟩

set_option maxHeartbeats 4000000 in
set_option maxRecDepth 100000 in
theorem upuint8 (c : ByteArray) (A : Option Addr) (cap : Nat) (hs : c.size ≤ 1000) (w : World) (hE : Errs w) (hR : ReadsInt w .u8 A c.size (bytesOf c)) : Calls Tryz.prog 38 #[.slice A c.size cap, .int .i64 10, .int .i64 8] w (NPost .u64 (natEnd (Lib.parseUintB 8 c.data.toList)) w) := by
  have HP := Aside0.mk (puint8 c hs w hE)
  have HS := Aside0.mk (b2s_calls w A c cap hR)
  clear hE hR
  go_enter Tryz.func38, Tryz.ntmps38
  go_wp2_with fail
  refine HS.out.mono ?_
  rintro x w1 ⟨rfl, rfl⟩
  go_wp2_with fail
  refine HP.out.mono ?_
  rintro x w1 ⟨v1, ev, rfl, h1, h2, hB⟩
  have HB := Aside0.mk hB
  have H1 := Aside0.mk h1
  have H2 := Aside0.mk h2
  clear h1 h2 hB
  go_wp2_with fail
  go_ret2
  exact ⟨_, _, rfl, H1.out, H2.out, HB.out⟩

set_option maxHeartbeats 4000000 in
set_option maxRecDepth 100000 in
theorem upuint16 (c : ByteArray) (A : Option Addr) (cap : Nat) (hs : c.size ≤ 1000) (w : World) (hE : Errs w) (hR : ReadsInt w .u8 A c.size (bytesOf c)) : Calls Tryz.prog 38 #[.slice A c.size cap, .int .i64 10, .int .i64 16] w (NPost .u64 (natEnd (Lib.parseUintB 16 c.data.toList)) w) := by
  have HP := Aside0.mk (puint16 c hs w hE)
  have HS := Aside0.mk (b2s_calls w A c cap hR)
  clear hE hR
  go_enter Tryz.func38, Tryz.ntmps38
  go_wp2_with fail
  refine HS.out.mono ?_
  rintro x w1 ⟨rfl, rfl⟩
  go_wp2_with fail
  refine HP.out.mono ?_
  rintro x w1 ⟨v1, ev, rfl, h1, h2, hB⟩
  have HB := Aside0.mk hB
  have H1 := Aside0.mk h1
  have H2 := Aside0.mk h2
  clear h1 h2 hB
  go_wp2_with fail
  go_ret2
  exact ⟨_, _, rfl, H1.out, H2.out, HB.out⟩

set_option maxHeartbeats 4000000 in
set_option maxRecDepth 100000 in
theorem upuint32 (c : ByteArray) (A : Option Addr) (cap : Nat) (hs : c.size ≤ 1000) (w : World) (hE : Errs w) (hR : ReadsInt w .u8 A c.size (bytesOf c)) : Calls Tryz.prog 38 #[.slice A c.size cap, .int .i64 10, .int .i64 32] w (NPost .u64 (natEnd (Lib.parseUintB 32 c.data.toList)) w) := by
  have HP := Aside0.mk (puint32 c hs w hE)
  have HS := Aside0.mk (b2s_calls w A c cap hR)
  clear hE hR
  go_enter Tryz.func38, Tryz.ntmps38
  go_wp2_with fail
  refine HS.out.mono ?_
  rintro x w1 ⟨rfl, rfl⟩
  go_wp2_with fail
  refine HP.out.mono ?_
  rintro x w1 ⟨v1, ev, rfl, h1, h2, hB⟩
  have HB := Aside0.mk hB
  have H1 := Aside0.mk h1
  have H2 := Aside0.mk h2
  clear h1 h2 hB
  go_wp2_with fail
  go_ret2
  exact ⟨_, _, rfl, H1.out, H2.out, HB.out⟩

set_option maxHeartbeats 4000000 in
set_option maxRecDepth 100000 in
theorem upuint64 (c : ByteArray) (A : Option Addr) (cap : Nat) (hs : c.size ≤ 1000) (w : World) (hE : Errs w) (hR : ReadsInt w .u8 A c.size (bytesOf c)) : Calls Tryz.prog 38 #[.slice A c.size cap, .int .i64 10, .int .i64 64] w (NPost .u64 (natEnd (Lib.parseUintB 64 c.data.toList)) w) := by
  have HP := Aside0.mk (puint64 c hs w hE)
  have HS := Aside0.mk (b2s_calls w A c cap hR)
  clear hE hR
  go_enter Tryz.func38, Tryz.ntmps38
  go_wp2_with fail
  refine HS.out.mono ?_
  rintro x w1 ⟨rfl, rfl⟩
  go_wp2_with fail
  refine HP.out.mono ?_
  rintro x w1 ⟨v1, ev, rfl, h1, h2, hB⟩
  have HB := Aside0.mk hB
  have H1 := Aside0.mk h1
  have H2 := Aside0.mk h2
  clear h1 h2 hB
  go_wp2_with fail
  go_ret2
  exact ⟨_, _, rfl, H1.out, H2.out, HB.out⟩

set_option maxHeartbeats 4000000 in
set_option maxRecDepth 100000 in
theorem uatoi (c : ByteArray) (A : Option Addr) (cap : Nat) (hs : c.size ≤ 1000) (w : World) (hE : Errs w) (hR : ReadsInt w .u8 A c.size (bytesOf c)) : Calls Tryz.prog 36 #[.slice A c.size cap] w (NPost .i64 (Lib.parseIntB 64 c.data.toList) w) := by
  have HP := Aside0.mk (patoi c hs w hE)
  have HS := Aside0.mk (b2s_calls w A c cap hR)
  clear hE hR
  go_enter Tryz.func36, Tryz.ntmps36
  go_wp2_with fail
  refine HS.out.mono ?_
  rintro x w1 ⟨rfl, rfl⟩
  go_wp2_with fail
  refine HP.out.mono ?_
  rintro x w1 ⟨v1, ev, rfl, h1, h2, hB⟩
  have HB := Aside0.mk hB
  have H1 := Aside0.mk h1
  have H2 := Aside0.mk h2
  clear h1 h2 hB
  go_wp2_with fail
  go_ret2
  exact ⟨_, _, rfl, H1.out, H2.out, HB.out⟩

set_option maxHeartbeats 4000000 in
set_option maxRecDepth 100000 in
theorem upfloat {X : TabX} {c : ByteArray} {bits : Int} {R : Nat} {bad : Bool} (hp : PfAt X c bits R bad) (A : Option Addr) (cap : Nat) (w : World) (hT : Tabs w X) (hE : Errs w) (hR : ReadsInt w .u8 A c.size (bytesOf c)) : Calls Tryz.prog 39 #[.slice A c.size cap, .int .i64 bits] w (PfOK R bad w) := by
  have HP := Aside0.mk (hp w hT hE)
  have HS := Aside0.mk (b2s_calls w A c cap hR)
  clear hE hR hT hp
  go_enter Tryz.func39, Tryz.ntmps39
  go_wp2_with fail
  refine HS.out.mono ?_
  rintro x w1 ⟨rfl, rfl⟩
  go_wp2_with fail
  refine HP.out.mono ?_
  rintro x w1 ⟨v1, ev, rfl, h1, h2, hB⟩
  have HB := Aside0.mk hB
  have H1 := Aside0.mk h1
  have H2 := Aside0.mk h2
  clear h1 h2 hB
  go_wp2_with fail
  go_ret2
  exact ⟨_, _, rfl, H1.out, H2.out, HB.out⟩
end
end Go.Proofs.YtohadobpiclllaaGreatDoor
