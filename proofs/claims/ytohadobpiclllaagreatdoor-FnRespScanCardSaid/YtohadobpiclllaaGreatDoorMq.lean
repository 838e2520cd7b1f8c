/- Floats turned from one kind to the other, those that are no number among them. ParseFloat, whole. The reference's reading of floats: floatOf. -/
import Derived.Test.YtohadobpiclllaaGreatDoorMj
import Derived.Laws.NewFold
import Derived.KernelRfl
import Derived.Test.YtohadobpiclllaaGreatDoorMp
import Derived.Deep.DeepCutAuto
namespace Go.Proofs.YtohadobpiclllaaGreatDoor
section
open Go Ieee
set_option linter.unusedVariables false
set_option linter.unusedSimpArgs false

def NaN64 (x : Nat) : Prop := 9218868437227405312 < x % 9223372036854775808
def NaN32 (x : Nat) : Prop := 2139095040 < x % 2147483648
/-- The same float, or neither a number. -/
def FA (r x : Nat) : Prop := x = r ∨ (NaN64 x ∧ NaN64 r)
/-- A float64 that comes back from float32. -/
def Back (r : Nat) : Prop := NaN64 r ∨ ∃ B, floatToFloatBits .f64 r .f32 = some B ∧ floatToFloatBits .f32 B .f64 = some r

theorem read_mod32 (r : Nat) : single.read r = single.read (r % 4294967296) := by
  have hs : single.signWeight = 2147483648 := by decide
  unfold Format.read
  rw [hs]
  have e1 : r % 4294967296 / 2147483648 % 2 = r / 2147483648 % 2 := by omega
  have e2 : r % 4294967296 % 2147483648 = r % 2147483648 := by omega
  rw [e1, e2]
theorem ftf_mod32 (r : Nat) : floatToFloatBits .f32 r .f64 = floatToFloatBits .f32 (r % 4294967296) .f64 := by
  unfold floatToFloatBits
  rw [if_neg (by decide), if_neg (by decide)]
  show (match single.read r with | .nan _ _ => none | .infinity s => some (double.write (.infinity s)) | .number s m e => if (double.read (double.write (.number s m e))).isInfinity then none else some (double.write (.number s m e))) = (match single.read (r % 4294967296) with | .nan _ _ => none | .infinity s => some (double.write (.infinity s)) | .number s m e => if (double.read (double.write (.number s m e))).isInfinity then none else some (double.write (.number s m e)))
  rw [← read_mod32]

theorem read_nan32 {x : Nat} (h : NaN32 x) : ∃ s t, single.read x = .nan s t := by
  have hs : single.signWeight = 2147483648 := by decide
  have hb : single.binade = 8388608 := by decide
  have hi : single.infRung = 2139095040 := by decide
  unfold NaN32 at h
  unfold Format.read
  rw [hs, hb, hi]
  dsimp only
  rw [if_neg (by omega), if_neg (by omega), if_neg (by omega)]
  exact ⟨_, _, rfl⟩
theorem read_nan64 {x : Nat} (h : NaN64 x) : ∃ s t, double.read x = .nan s t := by
  have hs : double.signWeight = 9223372036854775808 := by decide
  have hb : double.binade = 4503599627370496 := by decide
  have hi : double.infRung = 9218868437227405312 := by decide
  unfold NaN64 at h
  unfold Format.read
  rw [hs, hb, hi]
  dsimp only
  rw [if_neg (by omega), if_neg (by omega), if_neg (by omega)]
  exact ⟨_, _, rfl⟩

theorem nan_cut64 (t : Nat) : NaN64 ((t % 2) * 2 ^ 63 + 0x7ff0000000000000 + 1 + (t / 2) % (2 ^ 52 - 1)) := by
  show 9218868437227405312 < ((t % 2) * 9223372036854775808 + 9218868437227405312 + 1 + (t / 2) % 4503599627370495) % 9223372036854775808
  have h1 := Nat.mod_lt (t / 2) (show 0 < 4503599627370495 by omega)
  generalize (t / 2) % 4503599627370495 = b at *
  omega
theorem nan_cut32 (t : Nat) : NaN32 ((t % 2) * 2 ^ 31 + 0x7f800000 + 1 + (t / 2) % (2 ^ 23 - 1)) := by
  show 2139095040 < ((t % 2) * 2147483648 + 2139095040 + 1 + (t / 2) % 8388607) % 2147483648
  have h1 := Nat.mod_lt (t / 2) (show 0 < 8388607 by omega)
  generalize (t / 2) % 8388607 = b at *
  omega

section
variable {P : Program} {src dst : TypeId}
theorem run_wide_nan (hs : P.underlying src = some (.float .f32)) (hd : P.underlying dst = some (.float .f64)) {x : Nat} (h : NaN32 x) (w : World) : ∃ y, (convert src dst (.float .f32 x)).run P w = .ok (.float .f64 y) w.drew ∧ NaN64 y := by
  obtain ⟨s, t, hr⟩ := read_nan32 h
  have hr' : FloatKind.f32.decode x = .nan s t := hr
  refine ⟨_, by simp [convert, run_underlying hs, run_underlying hd, Conv.floatToFloat, hr']; rfl, ?_⟩
  exact nan_cut64 _
theorem run_narrow_nan (hs : P.underlying src = some (.float .f32)) (hd : P.underlying dst = some (.float .f64)) {x : Nat} (h : NaN64 x) (w : World) : ∃ y, (convert dst src (.float .f64 x)).run P w = .ok (.float .f32 y) w.drew ∧ NaN32 y := by
  obtain ⟨s, t, hr⟩ := read_nan64 h
  have hr' : FloatKind.f64.decode x = .nan s t := hr
  refine ⟨_, by simp [convert, run_underlying hs, run_underlying hd, Conv.floatToFloat, hr']; rfl, ?_⟩
  exact nan_cut32 _

/-- float64 of a float32. -/
theorem wide_any (hs : P.underlying src = some (.float .f32)) (hd : P.underlying dst = some (.float .f64)) (x : Nat) : ∃ r, Back r ∧ ∀ w : World, ∃ y n, (convert src dst (.float .f32 x)).run P w = .ok (.float .f64 y) (w.drewN n) ∧ FA r y := by
  by_cases h : Num single (x % 4294967296)
  · obtain ⟨X, h1, h2⟩ := wide_round (x % 4294967296) (by omega) h
    refine ⟨X, .inr ⟨_, h2, h1⟩, fun w => ⟨X, 0, ?_, .inl rfl⟩⟩
    exact run_convert_float_float w src dst .f32 .f64 x X (by rw [hs]; rfl) hd ((ftf_mod32 x).trans h1)
  · have hn : NaN32 x := by
      have hs : single.signWeight = 2147483648 := by decide
      have hi : single.infRung = 2139095040 := by decide
      unfold Num at h
      rw [hs, hi] at h
      unfold NaN32
      omega
    have hc : NaN64 9221120237041090561 := by unfold NaN64; omega
    refine ⟨9221120237041090561, .inl hc, fun w => ?_⟩
    obtain ⟨y, h1, h2⟩ := run_wide_nan hs hd hn w
    exact ⟨y, 1, h1, .inr ⟨h2, hc⟩⟩

/-- float32 of a float64 that came of one, and float64 of that. -/
theorem narrow_back (hs : P.underlying src = some (.float .f32)) (hd : P.underlying dst = some (.float .f64)) {r x : Nat} (hr : Back r) (hx : FA r x) (w : World) : ∃ B n, (convert dst src (.float .f64 x)).run P w = .ok (.float .f32 B) (w.drewN n) ∧ ∀ w2 : World, ∃ y n2, (convert src dst (.float .f32 B)).run P w2 = .ok (.float .f64 y) (w2.drewN n2) ∧ FA r y := by
  have hnan : NaN64 x → NaN64 r → ∃ B n, (convert dst src (.float .f64 x)).run P w = .ok (.float .f32 B) (w.drewN n) ∧ ∀ w2 : World, ∃ y n2, (convert src dst (.float .f32 B)).run P w2 = .ok (.float .f64 y) (w2.drewN n2) ∧ FA r y := by
    intro h1 h2
    obtain ⟨B, h3, h4⟩ := run_narrow_nan hs hd h1 w
    refine ⟨B, 1, h3, fun w2 => ?_⟩
    obtain ⟨y, h5, h6⟩ := run_wide_nan hs hd h4 w2
    exact ⟨y, 1, h5, .inr ⟨h6, h2⟩⟩
  rcases hx with rfl | ⟨h1, h2⟩
  · rcases hr with h | ⟨B, h1, h2⟩
    · exact hnan h h
    · refine ⟨B, 0, run_convert_float_float w dst src .f64 .f32 x B (by rw [hd]; rfl) hs h1, fun w2 => ⟨x, 0, ?_, .inl rfl⟩⟩
      exact run_convert_float_float w2 src dst .f32 .f64 B x (by rw [hs]; rfl) hd h2
  · exact hnan h1 h2
end
end

section
open Go.RowKit Go.Proofs.YtohadobpiclllaaGreatDoorW.PrintWords Go.Proofs.YtohadobpiclllaaGreatDoorW.PrintMore Go.Proofs.YtohadobpiclllaaGreatDoorW.PrintLast Go.Proofs.YtohadobpiclllaaGreatDoor.PFnRespScan
attribute [local go_sem] max2_int min2_int max_two min_two max_three min_three max_four min_four
set_option linter.unusedVariables false
set_option linter.unusedSimpArgs false
attribute [local go_sem] frombits64 frombits32

theorem u57 : Tryz.prog.underlying 57 = some (.float .f32) := by kernel_rfl
theorem u59 : Tryz.prog.underlying 59 = some (.float .f64) := by kernel_rfl

/-- The two faults of strconv are there. -/
def Errs (w : World) : Prop := (∃ t p, w.cell? ⟨1, 0, none⟩ = some (.iface t p)) ∧ (∃ t p, w.cell? ⟨2, 0, none⟩ = some (.iface t p))
theorem Errs.mods {w w' : World} (h : Errs w) (hm : Mods (fun _ => False) w w') : Errs w' := by
  obtain ⟨⟨t, p, h1⟩, ⟨t2, p2, h2⟩⟩ := h
  exact ⟨⟨t, p, hm.cell h1 id⟩, ⟨t2, p2, hm.cell h2 id⟩⟩

/-- A float32 that gives R as a float64. -/
def Gives (R B : Nat) : Prop := ∀ w : World, ∃ y k, (convert 57 59 (.float .f32 B)).run Tryz.prog w = .ok (.float .f64 y) (w.drewN k) ∧ FA R y
def At32 (X : TabX) (c : ByteArray) (R n er : Nat) : Prop := ∀ w, Tabs w X → Calls Tryz.prog 90 #[.string c] w fun x w' => ∃ B, x = .returned (.tuple #[.float .f32 B, .int .i64 n, errn er]) ∧ Gives R B ∧ Below w.heap.size w w'
def At64 (X : TabX) (c : ByteArray) (R n er : Nat) : Prop := ∀ w, Tabs w X → Calls Tryz.prog 91 #[.string c] w (AtPost .f64 R n er w)

theorem at64_any (X : TabX) (hX : X.OK) (c : ByteArray) (hP : PlainText c) (hN : NoIN c) (h7 : c.size ≤ 700) : ∃ R n er, er ≤ 2 ∧ n ≤ c.size ∧ At64 X c R n er := atof64_any X hX c hP hN h7
theorem at32_any (X : TabX) (hX : X.OK) (c : ByteArray) (hP : PlainText c) (hN : NoIN c) (h7 : c.size ≤ 700) : ∃ R n er, er ≤ 2 ∧ n ≤ c.size ∧ Back R ∧ At32 X c R n er := by
  obtain ⟨r, n, er, he, hn, h⟩ := atof32_any X hX c hP hN h7
  obtain ⟨R, hb, hg⟩ := wide_any u57 u59 r
  refine ⟨R, n, er, he, hn, hb, fun w hT => (h w hT).mono ?_⟩
  rintro x w' ⟨rfl, hB⟩
  exact ⟨r, rfl, hg, hB⟩

set_option maxHeartbeats 4000000 in
set_option maxRecDepth 100000 in
theorem at64_special (X : TabX) (c : ByteArray) (v n : Nat) (hs : ∀ w, Calls Tryz.prog 107 #[.string c] w fun e w' => e = .returned (.tuple #[.float .f64 v, .int .i64 n, .bool true]) ∧ ∃ n, w' = w.drewN n) : At64 X c v n 0 := by
  intro w _
  have HS := Aside0.mk hs
  clear hs
  go_enter Tryz.func91, Tryz.ntmps91
  go_wp2_with fail
  refine (HS.out w).mono ?_
  rintro x w1 ⟨rfl, n1, rfl⟩
  go_wp2_with fail
  go_ret3
  exact ⟨rfl, ((Mods.refl (fun _ => False) w).drewN n1).below⟩

set_option maxHeartbeats 4000000 in
set_option maxRecDepth 100000 in
theorem at32_special (X : TabX) (c : ByteArray) (v n : Nat) (hv : Back v) (hs : ∀ w, Calls Tryz.prog 107 #[.string c] w fun e w' => e = .returned (.tuple #[.float .f64 v, .int .i64 n, .bool true]) ∧ ∃ n, w' = w.drewN n) : At32 X c v n 0 := by
  intro w _
  have HS := Aside0.mk hs
  have HV := Aside0.mk hv
  clear hs hv
  go_enter Tryz.func90, Tryz.ntmps90
  go_wp2_with fail
  refine (HS.out w).mono ?_
  rintro x w1 ⟨rfl, n1, rfl⟩
  obtain ⟨B, k, hcv, hg⟩ := narrow_back u57 u59 HV.out (.inl rfl) (w.drewN n1)
  have HG := Aside0.mk hg
  clear hg
  go_wp2_with fail
  go_ret3
  exact ⟨B, rfl, HG.out, ((Mods.refl (fun _ => False) w).drewN _).below⟩

/-- What stands behind the first bytes of a text. -/
def PrPost (R n er : Nat) (w : World) (x : Ending) (w' : World) : Prop := ∃ y, x = .returned (.tuple #[.float .f64 y, .int .i64 n, errn er]) ∧ FA R y ∧ Below w.heap.size w w'

set_option maxHeartbeats 4000000 in
set_option maxRecDepth 100000 in
theorem pre64 {X : TabX} {c : ByteArray} {R n er : Nat} (h : At64 X c R n er) (w : World) (hT : Tabs w X) : Calls Tryz.prog 74 #[.string c, .int .i64 64] w (PrPost R n er w) := by
  have H := Aside0.mk (h w hT)
  clear h hT
  go_enter Tryz.func74, Tryz.ntmps74
  go_wp2_with fail
  refine H.out.mono ?_
  rintro x w1 ⟨rfl, hB⟩
  have HB := Aside0.mk hB
  clear hB
  go_wp2_with fail
  go_ret3
  exact ⟨R, rfl, .inl rfl, HB.out⟩

set_option maxHeartbeats 4000000 in
set_option maxRecDepth 100000 in
theorem pre32 {X : TabX} {c : ByteArray} {R n er : Nat} (h : At32 X c R n er) (w : World) (hT : Tabs w X) : Calls Tryz.prog 74 #[.string c, .int .i64 32] w (PrPost R n er w) := by
  have H := Aside0.mk (h w hT)
  clear h hT
  go_enter Tryz.func74, Tryz.ntmps74
  go_wp2_with fail
  refine H.out.mono ?_
  rintro x w1 ⟨B, rfl, hG, hB⟩
  have HB := Aside0.mk hB
  obtain ⟨y, k, hcv, hfa⟩ := hG w1
  have HF := Aside0.mk hfa
  clear hB hG hfa
  go_wp2_with fail
  go_ret3
  exact ⟨y, rfl, HF.out, ((Mods.of_below HB.out).drewN k).below⟩

/-- What ParseFloat says: a float, or a fault. -/
def PfOK (R : Nat) (bad : Bool) (w : World) (x : Ending) (w' : World) : Prop := ∃ y ev, x = .returned (.tuple #[.float .f64 y, ev]) ∧ (bad = false → ev = .nilIface ∧ FA R y) ∧ (bad = true → ∃ N, ev = .iface 136 (.pointer (some ⟨N, 0, none⟩))) ∧ Below w.heap.size w w'

def P51 (R er : Nat) (p : Prop) (w : World) (x : Ending) (w' : World) : Prop := ∃ y, x = .returned (.tuple #[.float .f64 y, errn er]) ∧ (p → FA R y) ∧ Below w.heap.size w w'

set_option maxHeartbeats 4000000 in
set_option maxRecDepth 100000 in
theorem in51 {c : ByteArray} {R n er : Nat} (bits : Int) (w : World) (h : Calls Tryz.prog 74 #[.string c, .int .i64 bits] w (PrPost R n er w)) (hn : n < 9223372036854775808) :
    Calls Tryz.prog 51 #[.string c, .int .i64 bits] w (P51 R (if n = c.size then er else 2) (n = c.size) w) := by
  have H := Aside0.mk h
  clear h
  by_cases hc : n = c.size
  · have hc' : ((n : Int) != (c.size : Int)) = false := bne_eq_false_iff_eq.mpr (by omega)
    rw [if_pos hc]
    obtain ⟨p, hp⟩ : ∃ p : Prop, p = (n = c.size) := ⟨_, rfl⟩
    rw [← hp]
    clear hc hp
    go_enter Tryz.func51, Tryz.ntmps51
    go_wp2_with fail
    refine H.out.mono ?_
    rintro x w1 ⟨y, rfl, hfa, hB⟩
    have HF := Aside0.mk hfa
    have HB := Aside0.mk hB
    clear hfa hB
    go_wp2_with fail
    go_ret2
    exact ⟨y, rfl, fun _ => HF.out, HB.out⟩
  · have hc' : ((n : Int) != (c.size : Int)) = true := bne_iff_ne.mpr (by omega)
    rw [if_neg hc]
    obtain ⟨p, hp, hnp⟩ : ∃ p : Prop, p = (n = c.size) ∧ ¬ p := ⟨_, rfl, hc⟩
    rw [← hp]
    have HC := Aside0.mk hnp
    clear hc hp hnp
    go_enter Tryz.func51, Tryz.ntmps51
    go_wp2_with fail
    refine H.out.mono ?_
    rintro x w1 ⟨y, rfl, hfa, hB⟩
    have HB := Aside0.mk hB
    clear hfa hB
    go_wp2_with fail
    go_ret2
    exact ⟨0, rfl, fun e => absurd e HC.out, HB.out⟩

set_option maxHeartbeats 4000000 in
set_option maxRecDepth 100000 in
theorem in33 {c : ByteArray} {R er : Nat} (bits : Int) (w : World) (he : er ≤ 2) (hc : c.size ≤ 1000) (hE : Errs w)
    (h : Calls Tryz.prog 51 #[.string c, .int .i64 bits] w (P51 R er (er = 0) w)) :
    Calls Tryz.prog 33 #[.string c, .int .i64 bits] w (PfOK R (er != 0) w) := by
  have H := Aside0.mk h
  have HE := Aside0.mk hE
  clear h hE
  rcases (show er = 0 ∨ er = 1 ∨ er = 2 by omega) with rfl | rfl | rfl
  · go_enter Tryz.func33, Tryz.ntmps33
    go_wp2_with fail
    refine H.out.mono ?_
    rintro x w1 ⟨y, rfl, hfa, hB⟩
    have HF := Aside0.mk hfa
    have HB := Aside0.mk hB
    clear hfa hB
    have e0 : errn 0 = .nilIface := rfl
    go_wp2_with fail
    go_ret2
    exact ⟨y, _, rfl, fun _ => ⟨rfl, HF.out trivial⟩, fun h => (by cases h), HB.out⟩
  · go_enter Tryz.func33, Tryz.ntmps33
    go_wp2_with fail
    refine H.out.mono ?_
    rintro x w1 ⟨y, rfl, hfa, hB⟩
    have HB := Aside0.mk hB
    obtain ⟨t, p, hv⟩ := (HE.out.mods (Mods.of_below hB)).2
    have HTE := Aside0.mk (fun fn => Tryz.strconv_toError_range fn c 0 bits (.iface t p) w1 (by omega) hv (.inr ⟨t, p, rfl⟩))
    clear hfa hB hv
    have e1 : errn 1 = .iface 135 (.int .i64 1) := rfl
    go_wp2_with fail
    refine (HTE.out _).mono ?_
    rintro x w2 ⟨N, rfl, _, _, hB2⟩
    have HB2 := Aside0.mk (((Mods.of_below HB.out).then_below hB2).below)
    clear hB2
    go_wp2_with fail
    go_ret2
    exact ⟨y, _, rfl, fun h => (by cases h), fun _ => ⟨N, rfl⟩, HB2.out⟩
  · go_enter Tryz.func33, Tryz.ntmps33
    go_wp2_with fail
    refine H.out.mono ?_
    rintro x w1 ⟨y, rfl, hfa, hB⟩
    have HB := Aside0.mk hB
    obtain ⟨t, p, hv⟩ := (HE.out.mods (Mods.of_below hB)).1
    have HTE := Aside0.mk (fun fn => Tryz.strconv_toError_syntax fn c 0 bits (.iface t p) w1 (by omega) hv (.inr ⟨t, p, rfl⟩))
    clear hfa hB hv
    have e2 : errn 2 = .iface 135 (.int .i64 2) := rfl
    go_wp2_with fail
    refine (HTE.out _).mono ?_
    rintro x w2 ⟨N, rfl, _, _, hB2⟩
    have HB2 := Aside0.mk (((Mods.of_below HB.out).then_below hB2).below)
    clear hB2
    go_wp2_with fail
    go_ret2
    exact ⟨y, _, rfl, fun h => (by cases h), fun _ => ⟨N, rfl⟩, HB2.out⟩

/-- ParseFloat of c at bits gives R, or is refused. -/
def PfAt (X : TabX) (c : ByteArray) (bits : Int) (R : Nat) (bad : Bool) : Prop := ∀ w, Tabs w X → Errs w → Calls Tryz.prog 33 #[.string c, .int .i64 bits] w (PfOK R bad w)

theorem pf_join {X : TabX} {c : ByteArray} {R n er : Nat} (bits : Int) (he : er ≤ 2) (hc : c.size ≤ 700) (hn : n < 9223372036854775808) (h : ∀ w, Tabs w X → Calls Tryz.prog 74 #[.string c, .int .i64 bits] w (PrPost R n er w)) :
    PfAt X c bits R ((if n = c.size then er else 2) != 0) := by
  intro w hT hE
  refine in33 bits w (by split <;> omega) (by omega) hE ((in51 bits w (h w hT) hn).mono ?_)
  rintro x w' ⟨y, h1, h2, h3⟩
  refine ⟨y, h1, fun h0 => ?_, h3⟩
  by_cases hnc : n = c.size
  · exact h2 hnc
  · rw [if_neg hnc] at h0
    omega

theorem pf64_text (X : TabX) (hX : X.OK) (c : ByteArray) (hP : PlainText c) (hN : NoIN c) (h7 : c.size ≤ 700) : ∃ R bad, PfAt X c 64 R bad := by
  obtain ⟨R, n, er, he, hn, h⟩ := at64_any X hX c hP hN h7
  exact ⟨R, _, pf_join 64 he h7 (by omega) (fun w hT => pre64 h w hT)⟩
theorem pf32_text (X : TabX) (hX : X.OK) (c : ByteArray) (hP : PlainText c) (hN : NoIN c) (h7 : c.size ≤ 700) : ∃ R bad, Back R ∧ PfAt X c 32 R bad := by
  obtain ⟨R, n, er, he, hn, hb, h⟩ := at32_any X hX c hP hN h7
  exact ⟨R, _, hb, pf_join 32 he h7 (by omega) (fun w hT => pre32 h w hT)⟩
theorem pf64_special (X : TabX) (c : ByteArray) (v : Nat) (h7 : c.size ≤ 700) (hs : ∀ w, Calls Tryz.prog 107 #[.string c] w fun e w' => e = .returned (.tuple #[.float .f64 v, .int .i64 (c.size : Nat), .bool true]) ∧ ∃ n, w' = w.drewN n) : PfAt X c 64 v false := by
  have h := pf_join (X := X) (c := c) (R := v) (n := c.size) (er := 0) 64 (by omega) h7 (by omega) (fun w hT => pre64 (at64_special X c v c.size hs) w hT)
  rw [if_pos rfl] at h
  exact h
theorem pf32_special (X : TabX) (c : ByteArray) (v : Nat) (h7 : c.size ≤ 700) (hv : Back v) (hs : ∀ w, Calls Tryz.prog 107 #[.string c] w fun e w' => e = .returned (.tuple #[.float .f64 v, .int .i64 (c.size : Nat), .bool true]) ∧ ∃ n, w' = w.drewN n) : PfAt X c 32 v false := by
  have h := pf_join (X := X) (c := c) (R := v) (n := c.size) (er := 0) 32 (by omega) h7 (by omega) (fun w hT => pre32 (at32_special X c v c.size hv hs) w hT)
  rw [if_pos rfl] at h
  exact h
theorem back_inf : Back 9218868437227405312 := .inr ⟨2139095040, by kernel_rfl, by kernel_rfl⟩
theorem back_minf : Back 18442240474082181120 := .inr ⟨4286578688, by kernel_rfl, by kernel_rfl⟩
theorem back_nan : Back 9221120237041090561 := .inl (by unfold NaN64; omega)

def cInf : ByteArray := ⟨#[105, 110, 102]⟩
def cMinf : ByteArray := ⟨#[45, 105, 110, 102]⟩
def cNan : ByteArray := ⟨#[110, 97, 110]⟩
theorem pf_inf (X : TabX) : PfAt X cInf 64 9218868437227405312 false ∧ PfAt X cInf 32 9218868437227405312 false := ⟨pf64_special X cInf _ (by decide) special_inf, pf32_special X cInf _ (by decide) back_inf special_inf⟩
theorem pf_minf (X : TabX) : PfAt X cMinf 64 18442240474082181120 false ∧ PfAt X cMinf 32 18442240474082181120 false := ⟨pf64_special X cMinf _ (by decide) special_minf, pf32_special X cMinf _ (by decide) back_minf special_minf⟩
theorem pf_nan (X : TabX) : PfAt X cNan 64 9221120237041090561 false ∧ PfAt X cNan 32 9221120237041090561 false := ⟨pf64_special X cNan _ (by decide) special_nan, pf32_special X cNan _ (by decide) back_nan special_nan⟩
end

section
open Go.RowKit Go.Proofs.YtohadobpiclllaaGreatDoorW.PrintWords Go.Proofs.YtohadobpiclllaaGreatDoorW.PrintMore Go.Proofs.YtohadobpiclllaaGreatDoorW.PrintLast Go.Proofs.YtohadobpiclllaaGreatDoor.PFnRespScan
attribute [local go_sem] max2_int min2_int max_two min_two max_three min_three max_four min_four
set_option linter.unusedVariables false
set_option linter.unusedSimpArgs false

theorem f64bits_run (b : Nat) (w : World) : (callFunc 30 #[.float .f64 b]).run Tryz.prog w = .ok (.value (.int .u64 b)) w := by kernel_rfl
attribute [local go_sem] f64bits_run

/-- A byte that a float's text may hold. -/
def okByte (x : Int) : Prop := (x < 97 ∨ 122 < x ∨ x = 101) ∧ (x < 65 ∨ 90 < x ∨ x = 69) ∧ x ≠ 95
def OkText (c : ByteArray) : Prop := ∀ i, i < c.size → okByte (cb c i)

theorem or32 : ∀ n : Nat, n < 256 → bits .or .u8 (n : Int) 32 = 120 → n = 88 ∨ n = 120 := by
  have h : (List.range 256).all (fun n => bits .or .u8 (n : Int) 32 != 120 || (n == 88 || n == 120)) = true := by kernel_rfl
  intro n hn he
  rw [List.all_eq_true] at h
  have h1 := h n (List.mem_range.mpr hn)
  rw [Bool.or_eq_true, Bool.or_eq_true] at h1
  rcases h1 with h2 | h2 | h2
  · exact absurd he (bne_iff_ne.mp h2)
  · exact .inl (beq_iff_eq.mp h2)
  · exact .inr (beq_iff_eq.mp h2)
theorem OkText.plain {c : ByteArray} (h : OkText c) (hs : c.size ≤ 1000) : PlainText c := by
  refine ⟨hs, fun i hi => ?_⟩
  obtain ⟨h1, h2, h3⟩ := h i hi
  refine ⟨h3, fun he => ?_⟩
  obtain ⟨b1, b2⟩ := cb_bound c i
  obtain ⟨n, hn⟩ : ∃ n : Nat, cb c i = (n : Int) := ⟨(cb c i).toNat, by omega⟩
  rw [hn] at he h1 h2 b2
  rcases or32 n (by omega) he with e | e <;> subst e <;> omega
theorem OkText.noIN {c : ByteArray} (h : OkText c) : NoIN c := by
  intro i hi
  obtain ⟨h1, h2, h3⟩ := h i hi
  refine ⟨?_, ?_, ?_, ?_⟩ <;> omega
theorem OkText.notInf {c : ByteArray} (h : OkText c) : c ≠ cInf ∧ c ≠ cMinf ∧ c ≠ cNan := by
  refine ⟨?_, ?_, ?_⟩
  · rintro rfl
    have h1 := (h 0 (by decide)).1
    rw [show cb cInf 0 = 105 by decide] at h1
    omega
  · rintro rfl
    have h1 := (h 1 (by decide)).1
    rw [show cb cMinf 1 = 105 by decide] at h1
    omega
  · rintro rfl
    have h1 := (h 0 (by decide)).1
    rw [show cb cNan 0 = 110 by decide] at h1
    omega

theorem text_ne {c : ByteArray} {l : List UInt8} (h : c ≠ ⟨l.toArray⟩) : (c.toList == l) = false := by
  refine beq_eq_false_iff_ne.mpr (fun e => h ?_)
  rw [ByteArray.toList_eq] at e
  cases c
  rename_i d
  have e2 : d.toList = l := e
  subst e2
  rfl

/-- What floatOf says where it speaks. -/
def FoPost (R : Nat) (bad : Bool) (w : World) (x : Ending) (w' : World) : Prop := ∃ y, x = .returned (.tuple #[.int .u64 (y : Nat), .bool (!bad), .int .i64 1]) ∧ (bad = false → FA R y) ∧ Below w.heap.size w w'

theorem okByte_cases {x : Int} (h : okByte x) : (x ≤ 64 ∧ (x == 95) = false) ∨ (x = 69) ∨ (90 < x ∧ x < 97 ∧ (x == 95) = false) ∨ x = 101 ∨ (122 < x ∧ (x == 95) = false) := by
  obtain ⟨h1, h2, h3⟩ := h
  have h3' : (x == 95) = false := beq_eq_false_iff_ne.mpr h3
  rcases h1 with h1 | h1 | h1
  · rcases h2 with h2 | h2 | h2
    · exact .inl ⟨by omega, h3'⟩
    · exact .inr (.inr (.inl ⟨h2, h1, h3'⟩))
    · exact .inr (.inl h2)
  · exact .inr (.inr (.inr (.inr ⟨h1, h3'⟩)))
  · exact .inr (.inr (.inr (.inl h1)))
theorem badByte_cases {x : Int} (h : ¬ okByte x) : (97 ≤ x ∧ x ≤ 122 ∧ (x != 101) = true) ∨ (65 ≤ x ∧ x ≤ 90 ∧ (x != 69) = true) ∨ x = 95 := by
  unfold okByte at h
  by_cases h1 : 97 ≤ x ∧ x ≤ 122 ∧ x ≠ 101
  · exact .inl ⟨h1.1, h1.2.1, bne_iff_ne.mpr h1.2.2⟩
  · by_cases h2 : 65 ≤ x ∧ x ≤ 90 ∧ x ≠ 69
    · exact .inr (.inl ⟨h2.1, h2.2.1, bne_iff_ne.mpr h2.2.2⟩)
    · refine .inr (.inr ?_)
      omega

set_option maxHeartbeats 8000000 in
set_option maxRecDepth 100000 in
theorem floatOf_text (X : TabX) (c : ByteArray) (hO : OkText c) (hs : c.size ≤ 60) (bits : Int) (R : Nat) (bad : Bool) (hpf : PfAt X c bits R bad) (w : World) (hT : Tabs w X) (hE : Errs w) :
    Calls Tryz.prog 11 #[.string c, .int .i64 bits] w (FoPost R bad w) := by
  obtain ⟨n1, n2, n3⟩ := hO.notInf
  have HO := Aside0.mk hO
  have HPF := Aside0.mk (hpf w hT hE)
  clear hpf hT hE hO
  have n1' : (c.toList == [105, 110, 102]) = false := text_ne n1
  have n2' : (c.toList == [45, 105, 110, 102]) = false := text_ne n2
  have n3' : (c.toList == [110, 97, 110]) = false := text_ne n3
  clear n1 n2 n3
  go_enter Tryz.func11, Tryz.ntmps11
  go_upto_block 1 with fail
  go_cut [26, 7, 8] from 27 to 58 (fun s26 s7 s8 wx => w = wx)
  case first =>
    clear HPF
    go_wp2_with fail
    go_loopw [26, 7, 8] (fun v26 _ _ wr => ∃ i : Nat, v26 = .int .i64 i ∧ i ≤ c.size ∧ w = wr) (fun v26 _ _ _ => c.size - (intOf v26).toNat)
    case atStart => exact ⟨0, rfl, Nat.zero_le _, rfl⟩
    case round =>
      obtain ⟨i, rfl, hi, rfl⟩ := hrel
      by_cases hic : i < c.size
      · have hic' : (i : Int) < (c.size : Int) := by omega
        obtain ⟨y, hy⟩ : ∃ y : Int, (c[i].toNat : Int) = y := ⟨_, rfl⟩
        have hok := HO.out i hic
        have hyb := cb_bound c i
        rw [cb_at c i hic, hy] at hok hyb
        rcases okByte_cases hok with ⟨h1, h2⟩ | h1 | ⟨h1, h2, h3⟩ | h1 | ⟨h1, h2⟩
        · clear hok
          go_wp2
          go_roundw
          case measure => simp [intOf]; omega
          case rel => exact ⟨i + 1, by go_num, by omega, trivial⟩
        · clear hok
          have h2 : (y != 69) = false := by rw [h1]; rfl
          have h3 : (y == 95) = false := by rw [h1]; rfl
          have h4 : 65 ≤ y := by omega
          have h5 : y ≤ 90 := by omega
          clear h1
          go_wp2
          go_roundw
          case measure => simp [intOf]; omega
          case rel => exact ⟨i + 1, by go_num, by omega, trivial⟩
        · clear hok
          have h4 : 65 ≤ y := by omega
          go_wp2
          go_roundw
          case measure => simp [intOf]; omega
          case rel => exact ⟨i + 1, by go_num, by omega, trivial⟩
        · clear hok
          have h2 : (y != 101) = false := by rw [h1]; rfl
          have h3 : (y == 95) = false := by rw [h1]; rfl
          have h4 : 97 ≤ y := by omega
          have h5 : y ≤ 122 := by omega
          have h6 : 90 < y := by omega
          have h7 : 65 ≤ y := by omega
          clear h1
          go_wp2
          go_roundw
          case measure => simp [intOf]; omega
          case rel => exact ⟨i + 1, by go_num, by omega, trivial⟩
        · clear hok
          have h4 : 97 ≤ y := by omega
          have h6 : 90 < y := by omega
          have h7 : 65 ≤ y := by omega
          go_wp2
          go_roundw
          case measure => simp [intOf]; omega
          case rel => exact ⟨i + 1, by go_num, by omega, trivial⟩
      · have hic' : decide ((i : Int) < (c.size : Int)) = false := decide_eq_false (by omega)
        go_wp2
        go_meet
        rfl
  case rest =>
  subst hcut
  go_wp2_with fail
  refine HPF.out.mono ?_
  rintro x w1 ⟨y, ev, rfl, hg, hb, hB⟩
  have HB := Aside0.mk hB
  cases bad
  · obtain ⟨rfl, hfa⟩ := hg rfl
    have HF := Aside0.mk hfa
    clear hg hb hB hfa
    go_wp2_with fail
    go_quiet (fail)
    go_wp2_with fail
    go_ret3
    exact ⟨y, rfl, fun _ => HF.out, ((Mods.of_below HB.out).drewN _).below⟩
  · obtain ⟨N, rfl⟩ := hb rfl
    clear hg hb hB
    go_wp2_with fail
    go_quiet (fail)
    go_wp2_with fail
    go_ret3
    exact ⟨y, rfl, fun h => (by cases h), ((Mods.of_below HB.out).drewN _).below⟩

set_option maxHeartbeats 8000000 in
set_option maxRecDepth 100000 in
theorem floatOf_open (c : ByteArray) (hO : ¬ OkText c) (n1 : c ≠ cInf) (n2 : c ≠ cMinf) (n3 : c ≠ cNan) (hs : c.size ≤ 60) (bits : Int) (w : World) :
    Calls Tryz.prog 11 #[.string c, .int .i64 bits] w fun x w' => x = .returned (.tuple #[.int .u64 0, .bool false, .int .i64 2]) ∧ w' = w := by
  have HO := Aside0.mk hO
  clear hO
  have n1' : (c.toList == [105, 110, 102]) = false := text_ne n1
  have n2' : (c.toList == [45, 105, 110, 102]) = false := text_ne n2
  have n3' : (c.toList == [110, 97, 110]) = false := text_ne n3
  clear n1 n2 n3
  go_enter Tryz.func11, Tryz.ntmps11
  go_wp2_with fail
  go_loopw [26, 7, 8] (fun v26 _ _ wr => ∃ i : Nat, v26 = .int .i64 i ∧ i ≤ c.size ∧ w = wr ∧ Aside0 (∀ j, j < i → okByte (cb c j))) (fun v26 _ _ _ => c.size - (intOf v26).toNat)
  case atStart => exact ⟨0, rfl, Nat.zero_le _, rfl, ⟨fun j hj => absurd hj (Nat.not_lt_zero _)⟩⟩
  case round =>
    obtain ⟨i, rfl, hi, rfl, HA⟩ := hrel
    by_cases hic : i < c.size
    · have hic' : (i : Int) < (c.size : Int) := by omega
      obtain ⟨y, hy⟩ : ∃ y : Int, (c[i].toNat : Int) = y := ⟨_, rfl⟩
      have hyb := cb_bound c i
      have HY := Aside0.mk ((cb_at c i hic).trans hy)
      rw [HY.out] at hyb
      by_cases hok : okByte y
      · have HA2 : Aside0 (∀ j, j < i + 1 → okByte (cb c j)) := ⟨fun j hj => by
          by_cases e : j = i
          · rw [e, HY.out]; exact hok
          · exact HA.out j (by omega)⟩
        rcases okByte_cases hok with ⟨h1, h2⟩ | h1 | ⟨h1, h2, h3⟩ | h1 | ⟨h1, h2⟩
        · clear hok
          go_wp2
          go_roundw
          case measure => simp [intOf]; omega
          case rel => exact ⟨i + 1, by go_num, by omega, trivial, HA2⟩
        · clear hok
          have h2 : (y != 69) = false := by rw [h1]; rfl
          have h3 : (y == 95) = false := by rw [h1]; rfl
          have h4 : 65 ≤ y := by omega
          have h5 : y ≤ 90 := by omega
          clear h1
          go_wp2
          go_roundw
          case measure => simp [intOf]; omega
          case rel => exact ⟨i + 1, by go_num, by omega, trivial, HA2⟩
        · clear hok
          have h4 : 65 ≤ y := by omega
          go_wp2
          go_roundw
          case measure => simp [intOf]; omega
          case rel => exact ⟨i + 1, by go_num, by omega, trivial, HA2⟩
        · clear hok
          have h2 : (y != 101) = false := by rw [h1]; rfl
          have h3 : (y == 95) = false := by rw [h1]; rfl
          have h4 : 97 ≤ y := by omega
          have h5 : y ≤ 122 := by omega
          have h6 : 90 < y := by omega
          have h7 : 65 ≤ y := by omega
          clear h1
          go_wp2
          go_roundw
          case measure => simp [intOf]; omega
          case rel => exact ⟨i + 1, by go_num, by omega, trivial, HA2⟩
        · clear hok
          have h4 : 97 ≤ y := by omega
          have h6 : 90 < y := by omega
          have h7 : 65 ≤ y := by omega
          go_wp2
          go_roundw
          case measure => simp [intOf]; omega
          case rel => exact ⟨i + 1, by go_num, by omega, trivial, HA2⟩
      · rcases badByte_cases hok with ⟨h1, h2, h3⟩ | ⟨h1, h2, h3⟩ | h1
        · clear hok
          have h6 : 90 < y := by omega
          have h7 : 65 ≤ y := by omega
          go_wp2
          go_ret3
          exact ⟨rfl, rfl⟩
        · clear hok
          have h6 : y < 97 := by omega
          go_wp2
          go_ret3
          exact ⟨rfl, rfl⟩
        · clear hok
          have h2 : (y == 95) = true := by rw [h1]; rfl
          have h6 : y < 97 := by omega
          have h7 : 65 ≤ y := by omega
          have h8 : 90 < y := by omega
          clear h1
          go_wp2
          go_ret3
          exact ⟨rfl, rfl⟩
    · exact absurd (fun j hj => HA.out j (by omega)) HO.out

theorem mfrombits (n : Int) (w : World) : (callFunc 50 #[.int .u64 n]).run Tryz.prog w = .ok (.value (.float .f64 n.toNat)) w := by kernel_rfl
attribute [local go_sem] mfrombits
set_option maxRecDepth 100000 in
theorem inf31 (w : World) : Calls Tryz.prog 31 #[.int .i64 1] w fun e w' => e = .returned (.float .f64 9218868437227405312) ∧ ∃ n, w' = w.drewN n := by
  go_enter Tryz.func31, Tryz.ntmps31
  go_wp2
  go_ret
  exact ⟨rfl, 0, rfl⟩
set_option maxRecDepth 100000 in
theorem minf31 (w : World) : Calls Tryz.prog 31 #[.int .i64 (-1)] w fun e w' => e = .returned (.float .f64 18442240474082181120) ∧ ∃ n, w' = w.drewN n := by
  go_enter Tryz.func31, Tryz.ntmps31
  go_wp2
  go_ret
  exact ⟨rfl, 0, rfl⟩
set_option maxRecDepth 100000 in
theorem nan32 (w : World) : Calls Tryz.prog 32 #[] w fun e w' => e = .returned (.float .f64 9221120237041090561) ∧ ∃ n, w' = w.drewN n := by
  go_enter Tryz.func32, Tryz.ntmps32
  go_wp2
  go_ret
  exact ⟨rfl, 0, rfl⟩

set_option maxHeartbeats 8000000 in
set_option maxRecDepth 100000 in
theorem floatOf_inf (bits : Int) (w : World) : Calls Tryz.prog 11 #[.string ⟨#[105, 110, 102]⟩, .int .i64 bits] w (FoPost 9218868437227405312 false w) := by
  go_enter Tryz.func11, Tryz.ntmps11
  go_wp2_with fail
  refine (inf31 w).mono ?_
  rintro e w1 ⟨rfl, n, rfl⟩
  go_wp2_with fail
  go_ret3
  exact ⟨9218868437227405312, rfl, fun _ => .inl rfl, ((Mods.refl (fun _ => False) w).drewN n).below⟩

set_option maxHeartbeats 8000000 in
set_option maxRecDepth 100000 in
theorem floatOf_minf (bits : Int) (w : World) : Calls Tryz.prog 11 #[.string ⟨#[45, 105, 110, 102]⟩, .int .i64 bits] w (FoPost 18442240474082181120 false w) := by
  go_enter Tryz.func11, Tryz.ntmps11
  go_wp2_with fail
  refine (minf31 w).mono ?_
  rintro e w1 ⟨rfl, n, rfl⟩
  go_wp2_with fail
  go_ret3
  exact ⟨18442240474082181120, rfl, fun _ => .inl rfl, ((Mods.refl (fun _ => False) w).drewN n).below⟩

set_option maxHeartbeats 8000000 in
set_option maxRecDepth 100000 in
theorem floatOf_nan (bits : Int) (w : World) : Calls Tryz.prog 11 #[.string ⟨#[110, 97, 110]⟩, .int .i64 bits] w (FoPost 9221120237041090561 false w) := by
  go_enter Tryz.func11, Tryz.ntmps11
  go_wp2_with fail
  refine (nan32 w).mono ?_
  rintro e w1 ⟨rfl, n, rfl⟩
  go_wp2_with fail
  go_ret3
  exact ⟨9221120237041090561, rfl, fun _ => .inl rfl, ((Mods.refl (fun _ => False) w).drewN n).below⟩
end
end Go.Proofs.YtohadobpiclllaaGreatDoor
