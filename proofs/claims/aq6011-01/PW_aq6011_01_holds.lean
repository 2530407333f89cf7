import PyProof.Rows.All
import Wide.All
import OpenK.AllK
import Wide.FinOn
import Lean
import PySem.Challenge.RW_aq6011_01
open PySem PySem.W PySem.Calls PyProof.Rows
set_option Elab.async false
namespace Mine
def leapB (y : Int) : Bool := y % 4 == 0 && (y % 100 != 0 || y % 400 == 0)
def jdg (y m d : Int) : Int :=
  1721425 + 365 * (y - 1) + (y - 1) / 4 + -((y - 1) / 100) + (y - 1) / 400 + ((367 * m - 362) / 12 + (if m ≤ 2 then 0 else if leapB y = true then -1 else -2) + d)
def jan (y : Int) : Int := 1721426 + 146097 * ((y - 1) / 400) + 365 * ((y - 1) % 400) + (y - 1) % 400 / 4 - (y - 1) % 400 / 100
def mon (y : Int) : Int := jan y + 3 - (jan y + 3 - 2451547) % 7
def wkm (y : Int) : Int := if jdg y 1 1 % 7 > 3 then jdg y 1 1 - jdg y 1 1 % 7 + 7 else jdg y 1 1 - jdg y 1 1 % 7
def wpy (y : Int) : Int := if jdg y 1 1 % 7 = 3 ∨ (jdg y 1 1 % 7 = 2 ∧ leapB y = true) then 53 else 52
def bef (j : Int) : Int := j - (j - 6) % 7
def iso (y w d : Int) : Int := d + (7 * w + (if 0 < w then bef (jdg (y - 1) 12 28 + -1) else bef (jdg (y - 1) 12 28 + 7)))
def frs (y m : Int) : Int := 1 + (3 - (365 * (y - 1) + (y - 1) / 4 - (y - 1) / 100 + (y - 1) / 400 + (if m = 1 then 0 else if leapB y = true then 335 else 334)) % 7) % 7
def thu (y p m : Int) : Int := jdg y m (if p = 1 then frs y m else if frs y m ≤ 3 then frs y m + 28 else frs y m + 21)
theorem leap_iff (y : Int) : leapB y = true ↔ y % 4 = 0 ∧ (y % 100 ≠ 0 ∨ y % 400 = 0) := by simp [leapB]
theorem jan_flat (y : Int) : jan y = 1721426 + 365 * (y - 1) + (y - 1) / 4 - (y - 1) / 100 + (y - 1) / 400 := by
  unfold jan; omega
theorem jan_next (y : Int) : jan (y + 1) = jan y + 365 + (if leapB y = true then 1 else 0) := by
  rw [jan_flat, jan_flat]
  have h := leap_iff y
  split <;> rename_i hc
  · rw [h] at hc; omega
  · rw [h] at hc; omega
theorem jdg_first (y : Int) : jdg y 1 1 = jan y := by
  rw [jan_flat]; unfold jdg; simp; omega
theorem jdg_last (y d : Int) : jdg y 12 d = jan (y + 1) - 32 + d := by
  rw [jan_next, jan_flat]; unfold jdg; simp; split <;> omega
theorem wkm_is (y : Int) : wkm y = mon y := by
  unfold wkm mon; rw [jdg_first]; split <;> omega
theorem near (y : Int) : -3 ≤ mon y - jan y ∧ mon y - jan y ≤ 3 := by
  unfold mon; omega
theorem wpy_is (y : Int) : (wpy y = 52 ∨ wpy y = 53) ∧ 7 * wpy y = mon (y + 1) - mon y := by
  unfold wpy mon; rw [jdg_first, jan_next]
  by_cases h : leapB y = true
  · simp only [h, if_true, and_true]; split <;> omega
  · simp only [h, if_false, and_false, or_false, Bool.false_eq_true]; split <;> omega
theorem iso_is (y w d : Int) (h : 0 < w) : iso y w d = mon y + 7 * (w - 1) + (d - 1) := by
  unfold iso bef mon
  rw [if_pos h, jdg_last]
  have : y - 1 + 1 = y := by omega
  rw [this]; omega
theorem frs_jan (y : Int) : frs y 1 = 1 + (3 - (jan y - 1721426) % 7) % 7 := by
  rw [jan_flat]; unfold frs; simp only [if_true]; omega
theorem frs_dec (y : Int) : frs y 12 = 1 + (3 - (jan (y + 1) - 31 - 1721426) % 7) % 7 := by
  rw [jan_next, jan_flat]; unfold frs
  have : ¬ (12 : Int) = 1 := by decide
  simp only [this, if_false]; split <;> omega
theorem thu_jan (y : Int) : thu y 1 1 = mon y + 3 := by
  unfold thu; rw [if_pos rfl, frs_jan]
  have : ∀ d, jdg y 1 d = jan y + d - 1 := fun d => by rw [← jdg_first]; unfold jdg; simp; omega
  rw [this]; unfold mon; omega
theorem thu_dec (y : Int) : thu y 0 12 = mon (y + 1) - 4 := by
  have : ¬ (0 : Int) = 1 := by decide
  unfold thu; rw [if_neg this, jdg_last, frs_dec]; unfold mon; split <;> omega
theorem frs_low (y : Int) : 1 ≤ frs y 12 := by rw [frs_dec]; omega
theorem dec5 (y f : Int) (hf : f = frs y 12) (c : f = 1 ∨ f = 2 ∨ f = 3) : jdg y 12 (f + (5 - 1) * 7) = thu y 0 12 := by
  have r := frs_low y
  have n : ¬ (0 : Int) = 1 := by decide
  unfold thu
  rw [if_neg n, if_pos (by omega), hf]
  rfl
theorem dec4 (y f : Int) (hf : f = frs y 12) (c : ¬ (f = 1 ∨ f = 2 ∨ f = 3)) : jdg y 12 (f + (4 - 1) * 7) = thu y 0 12 := by
  have r := frs_low y
  have n : ¬ (0 : Int) = 1 := by decide
  unfold thu
  rw [if_neg n, if_neg (by omega), hf]
  rfl
theorem size1 (a : Int) : ((1 : Int) = 1 ∨ (1 : Int) = 12) ∧ 1 ≤ 1 + (3 - a.fmod 7).fmod 7 + (1 - 1) * 7 ∧ 1 + (3 - a.fmod 7).fmod 7 + (1 - 1) * 7 ≤ 31 := by
  refine ⟨by omega, ?_⟩
  simp (disch := omega) only [Int.fmod_eq_emod_of_nonneg]
  omega
theorem size4 (a : Int) : ((12 : Int) = 1 ∨ (12 : Int) = 12) ∧ 1 ≤ 1 + (3 - a.fmod 7).fmod 7 + (4 - 1) * 7 ∧ 1 + (3 - a.fmod 7).fmod 7 + (4 - 1) * 7 ≤ 31 := by
  refine ⟨by omega, ?_⟩
  simp (disch := omega) only [Int.fmod_eq_emod_of_nonneg]
  omega
theorem size5 (f : Int) (h : f = 1 ∨ f = 2 ∨ f = 3) : ((12 : Int) = 1 ∨ (12 : Int) = 12) ∧ 1 ≤ f + (5 - 1) * 7 ∧ f + (5 - 1) * 7 ≤ 31 := by
  omega
theorem frs_L (y : Int) (hl : leapB y = true) : (1 + (3 - (365 * (y - 1) + (y - 1).fdiv 4 - (y - 1).fdiv 100 + (y - 1).fdiv 400 + 0 + 31 + 28 + 31 + 30 + 31 + 30 + 31 + 31 + 30 + 31 + 30 + 1).fmod 7).fmod 7) = frs y 12 := by
  have n : ¬ (12 : Int) = 1 := by decide
  unfold frs
  rw [if_neg n, if_pos hl]
  simp (disch := omega) only [Int.fmod_eq_emod_of_nonneg, Int.fdiv_eq_ediv_of_nonneg]
  omega
theorem dec5L (y : Int) (hl : leapB y = true) (h : (1 + (3 - (365 * (y - 1) + (y - 1).fdiv 4 - (y - 1).fdiv 100 + (y - 1).fdiv 400 + 0 + 31 + 28 + 31 + 30 + 31 + 30 + 31 + 31 + 30 + 31 + 30 + 1).fmod 7).fmod 7) = 1 ∨ (1 + (3 - (365 * (y - 1) + (y - 1).fdiv 4 - (y - 1).fdiv 100 + (y - 1).fdiv 400 + 0 + 31 + 28 + 31 + 30 + 31 + 30 + 31 + 31 + 30 + 31 + 30 + 1).fmod 7).fmod 7) = 2 ∨ (1 + (3 - (365 * (y - 1) + (y - 1).fdiv 4 - (y - 1).fdiv 100 + (y - 1).fdiv 400 + 0 + 31 + 28 + 31 + 30 + 31 + 30 + 31 + 31 + 30 + 31 + 30 + 1).fmod 7).fmod 7) = 3) : jdg y 12 ((1 + (3 - (365 * (y - 1) + (y - 1).fdiv 4 - (y - 1).fdiv 100 + (y - 1).fdiv 400 + 0 + 31 + 28 + 31 + 30 + 31 + 30 + 31 + 31 + 30 + 31 + 30 + 1).fmod 7).fmod 7) + (5 - 1) * 7) = thu y 0 12 :=
  dec5 y _ (frs_L y hl) h
theorem dec4L (y : Int) (hl : leapB y = true) (h : ¬ ((1 + (3 - (365 * (y - 1) + (y - 1).fdiv 4 - (y - 1).fdiv 100 + (y - 1).fdiv 400 + 0 + 31 + 28 + 31 + 30 + 31 + 30 + 31 + 31 + 30 + 31 + 30 + 1).fmod 7).fmod 7) = 1 ∨ (1 + (3 - (365 * (y - 1) + (y - 1).fdiv 4 - (y - 1).fdiv 100 + (y - 1).fdiv 400 + 0 + 31 + 28 + 31 + 30 + 31 + 30 + 31 + 31 + 30 + 31 + 30 + 1).fmod 7).fmod 7) = 2 ∨ (1 + (3 - (365 * (y - 1) + (y - 1).fdiv 4 - (y - 1).fdiv 100 + (y - 1).fdiv 400 + 0 + 31 + 28 + 31 + 30 + 31 + 30 + 31 + 31 + 30 + 31 + 30 + 1).fmod 7).fmod 7) = 3)) : jdg y 12 ((1 + (3 - (365 * (y - 1) + (y - 1).fdiv 4 - (y - 1).fdiv 100 + (y - 1).fdiv 400 + 0 + 31 + 28 + 31 + 30 + 31 + 30 + 31 + 31 + 30 + 31 + 30 + 1).fmod 7).fmod 7) + (4 - 1) * 7) = thu y 0 12 :=
  dec4 y _ (frs_L y hl) h
theorem frs_N (y : Int) (hl : leapB y = false) : (1 + (3 - (365 * (y - 1) + (y - 1).fdiv 4 - (y - 1).fdiv 100 + (y - 1).fdiv 400 + 0 + 31 + 28 + 31 + 30 + 31 + 30 + 31 + 31 + 30 + 31 + 30).fmod 7).fmod 7) = frs y 12 := by
  have n : ¬ (12 : Int) = 1 := by decide
  unfold frs
  rw [if_neg n, if_neg (by rw [hl]; decide)]
  simp (disch := omega) only [Int.fmod_eq_emod_of_nonneg, Int.fdiv_eq_ediv_of_nonneg]
  omega
theorem dec5N (y : Int) (hl : leapB y = false) (h : (1 + (3 - (365 * (y - 1) + (y - 1).fdiv 4 - (y - 1).fdiv 100 + (y - 1).fdiv 400 + 0 + 31 + 28 + 31 + 30 + 31 + 30 + 31 + 31 + 30 + 31 + 30).fmod 7).fmod 7) = 1 ∨ (1 + (3 - (365 * (y - 1) + (y - 1).fdiv 4 - (y - 1).fdiv 100 + (y - 1).fdiv 400 + 0 + 31 + 28 + 31 + 30 + 31 + 30 + 31 + 31 + 30 + 31 + 30).fmod 7).fmod 7) = 2 ∨ (1 + (3 - (365 * (y - 1) + (y - 1).fdiv 4 - (y - 1).fdiv 100 + (y - 1).fdiv 400 + 0 + 31 + 28 + 31 + 30 + 31 + 30 + 31 + 31 + 30 + 31 + 30).fmod 7).fmod 7) = 3) : jdg y 12 ((1 + (3 - (365 * (y - 1) + (y - 1).fdiv 4 - (y - 1).fdiv 100 + (y - 1).fdiv 400 + 0 + 31 + 28 + 31 + 30 + 31 + 30 + 31 + 31 + 30 + 31 + 30).fmod 7).fmod 7) + (5 - 1) * 7) = thu y 0 12 :=
  dec5 y _ (frs_N y hl) h
theorem dec4N (y : Int) (hl : leapB y = false) (h : ¬ ((1 + (3 - (365 * (y - 1) + (y - 1).fdiv 4 - (y - 1).fdiv 100 + (y - 1).fdiv 400 + 0 + 31 + 28 + 31 + 30 + 31 + 30 + 31 + 31 + 30 + 31 + 30).fmod 7).fmod 7) = 1 ∨ (1 + (3 - (365 * (y - 1) + (y - 1).fdiv 4 - (y - 1).fdiv 100 + (y - 1).fdiv 400 + 0 + 31 + 28 + 31 + 30 + 31 + 30 + 31 + 31 + 30 + 31 + 30).fmod 7).fmod 7) = 2 ∨ (1 + (3 - (365 * (y - 1) + (y - 1).fdiv 4 - (y - 1).fdiv 100 + (y - 1).fdiv 400 + 0 + 31 + 28 + 31 + 30 + 31 + 30 + 31 + 31 + 30 + 31 + 30).fmod 7).fmod 7) = 3)) : jdg y 12 ((1 + (3 - (365 * (y - 1) + (y - 1).fdiv 4 - (y - 1).fdiv 100 + (y - 1).fdiv 400 + 0 + 31 + 28 + 31 + 30 + 31 + 30 + 31 + 31 + 30 + 31 + 30).fmod 7).fmod 7) + (4 - 1) * 7) = thu y 0 12 :=
  dec4 y _ (frs_N y hl) h
theorem jan1 (y : Int) : jdg y 1 ((1 + (3 - (365 * (y - 1) + (y - 1).fdiv 4 - (y - 1).fdiv 100 + (y - 1).fdiv 400 + 0).fmod 7).fmod 7) + (1 - 1) * 7) = thu y 1 1 := by
  simp (disch := omega) only [Int.fmod_eq_emod_of_nonneg, Int.fdiv_eq_ediv_of_nonneg, thu, frs, if_true, Int.sub_self, Int.zero_mul, Int.add_zero]
theorem jan_walk (y : Int) : 1721426 + 146097 * (y - 1).fdiv 400 + 365 * (y - 1).fmod 400 + ((y - 1).fmod 400).fdiv 4 - ((y - 1).fmod 400).fdiv 100 = jan y := by
  simp (disch := omega) only [Int.fmod_eq_emod_of_nonneg, Int.fdiv_eq_ediv_of_nonneg, jan]
theorem mon_walk (y : Int) : jan y + 3 - (jan y + 3 - 2451547).fmod 7 = mon y := by
  simp (disch := omega) only [Int.fmod_eq_emod_of_nonneg, mon]
theorem jdg_all (y m d a : Int) (h : a = if m ≤ 2 then 0 else if leapB y = true then -1 else -2) :
    1721426 - 1 + 365 * (y - 1) + (y - 1).fdiv 4 + -(y - 1).fdiv 100 + (y - 1).fdiv 400 + ((367 * m - 362).fdiv 12 + a + d) = jdg y m d := by
  subst h
  simp (disch := omega) only [Int.fdiv_eq_ediv_of_nonneg, jdg]
  omega
theorem jdg_1 (y m d : Int) (h : m ≤ 2) : 1721426 - 1 + 365 * (y - 1) + (y - 1).fdiv 4 + -(y - 1).fdiv 100 + (y - 1).fdiv 400 + ((367 * m - 362).fdiv 12 + 0 + d) = jdg y m d :=
  jdg_all y m d 0 (by rw [if_pos h])
theorem jdg_2 (y m d : Int) (h : ¬ m ≤ 2) (hl : leapB y = true) : 1721426 - 1 + 365 * (y - 1) + (y - 1).fdiv 4 + -(y - 1).fdiv 100 + (y - 1).fdiv 400 + ((367 * m - 362).fdiv 12 + -1 + d) = jdg y m d :=
  jdg_all y m d (-1) (by rw [if_neg h, if_pos hl])
theorem jdg_3 (y m d : Int) (h : ¬ m ≤ 2) (hl : leapB y = false) : 1721426 - 1 + 365 * (y - 1) + (y - 1).fdiv 4 + -(y - 1).fdiv 100 + (y - 1).fdiv 400 + ((367 * m - 362).fdiv 12 + -2 + d) = jdg y m d :=
  jdg_all y m d (-2) (by rw [if_neg h, if_neg (by rw [hl]; decide)])
theorem wkm_1 (y : Int) (h : 3 < (jdg y 1 1).fmod 7) : jdg y 1 1 - (jdg y 1 1).fmod 7 + 7 = wkm y := by
  unfold wkm
  simp (disch := omega) only [Int.fmod_eq_emod_of_nonneg] at h ⊢
  rw [if_pos h]
theorem wkm_2 (y : Int) (h : ¬ 3 < (jdg y 1 1).fmod 7) : jdg y 1 1 - (jdg y 1 1).fmod 7 = wkm y := by
  unfold wkm
  simp (disch := omega) only [Int.fmod_eq_emod_of_nonneg] at h ⊢
  rw [if_neg h]
theorem wpy_1 (y : Int) (h : (jdg y 1 1).fmod 7 = 3) : 53 = wpy y := by
  unfold wpy
  simp (disch := omega) only [Int.fmod_eq_emod_of_nonneg] at h
  rw [if_pos (.inl h)]
theorem wpy_2 (y : Int) (h : (jdg y 1 1).fmod 7 = 2) (hl : leapB y = true) : 53 = wpy y := by
  unfold wpy
  simp (disch := omega) only [Int.fmod_eq_emod_of_nonneg] at h
  rw [if_pos (.inr ⟨h, hl⟩)]
theorem wpy_3 (y : Int) (h : (jdg y 1 1).fmod 7 ≠ 3) (h' : (jdg y 1 1).fmod 7 ≠ 2) : 52 = wpy y := by
  unfold wpy
  simp (disch := omega) only [Int.fmod_eq_emod_of_nonneg, ne_eq] at h h'
  rw [if_neg fun c => c.elim h fun c => h' c.1]
theorem wpy_4 (y : Int) (h : (jdg y 1 1).fmod 7 ≠ 3) (hl : leapB y = false) : 52 = wpy y := by
  unfold wpy
  simp (disch := omega) only [Int.fmod_eq_emod_of_nonneg, ne_eq] at h
  rw [if_neg fun c => c.elim h fun c => by rw [hl] at c; exact absurd c.2 (by decide)]
theorem wpy_5 (y : Int) (h : (jdg y 1 1).fmod 7 = 2) (hl : leapB y = false) : 52 = wpy y :=
  wpy_4 y (by rw [h]; decide) hl
theorem iso_walk (y w d : Int) (h : 0 < w) : d + (7 * w + (jdg (y - 1) 12 28 + -1 * 1 - (jdg (y - 1) 12 28 + -1 * 1 - 6).fmod 7)) = iso y w d := by
  unfold iso bef
  rw [if_pos h]
  simp (disch := omega) only [Int.fmod_eq_emod_of_nonneg]
  omega
theorem fact_thu (y p m : Int) : (p ≠ 1 ∨ m ≠ 1 ∨ thu y p m = mon y + 3) ∧ (p ≠ 0 ∨ m ≠ 12 ∨ thu y p m = mon (y + 1) - 4) := by
  constructor
  · by_cases h : p = 1
    · by_cases h' : m = 1
      · subst h h'; exact .inr (.inr (thu_jan y))
      · exact .inr (.inl h')
    · exact .inl h
  · by_cases h : p = 0
    · by_cases h' : m = 12
      · subst h h'; exact .inr (.inr (thu_dec y))
      · exact .inr (.inl h')
    · exact .inl h
theorem fact_mon (y : Int) : -3 ≤ mon y - jan y ∧ mon y - jan y ≤ 3 := near y
theorem fact_iso (y w d : Int) : w ≤ 0 ∨ iso y w d = mon y + 7 * (w - 1) + (d - 1) := (Decidable.em (0 < w)).elim (fun h => .inr (iso_is y w d h)) fun h => .inl (by omega)
section
variable {prog : Program} {w : World} {A : Around} {E : Value → Shared → Prop} {s : Shared}
theorem adjust_upto (b n : Nat) (hb : b ≤ n) : Builtin.Slice.sliceAdjust none (some (b : Int)) 1 (n : Int) = (0, (b : Int)) := by
  have h1 : ¬ ((1 : Int) < 0) := by decide
  have h2 : ¬ ((b : Int) < 0) := by omega
  have h3 : min (b : Int) (n : Int) = b := by omega
  simp only [Builtin.Slice.sliceAdjust, h1, h2, h3, if_false]
theorem places_upto (b : Nat) : Builtin.Slice.slicePlaces 0 (b : Int) 1 = b := by
  have h1 : (1 : Int) > 0 := by decide
  simp only [Builtin.Slice.slicePlaces, h1, if_true, Int.ediv_one]
  split <;> omega
theorem applied_upto {sl : Addr} {b n : Nat} {u : Tok} {Q : Int × Int × Nat → Shared → Prop} (hs : s.heap.IsSliceOf sl .none (.int b u) .none) (hb : b ≤ n) (h : Q (0, 1, b) s) :
    wpAny (model prog w) A (Builtin.Slice.sliceApplied (.ref sl) (pure (n : Int))) Q E s := by
  obtain ⟨os, hos, _, hds⟩ := hs
  unfold Builtin.Slice.sliceApplied Builtin.Slice.sliceFields
  refine wpAny_bind (wpAny_bind (wpAny_field hos hds (x := .none) rfl (wpAny_bind (wpAny_field hos hds (x := .int b u) rfl (wpAny_bind (wpAny_field hos hds (x := .none) rfl (wpAny_pure ?_)))))))
  refine wpAny_bind (slicePart_none ?_)
  show wpAny _ _ (if ((1 : Int) == 0) = true then _ else _) _ _ s
  rw [if_neg (by decide)]
  refine wpAny_bind (slicePart_none (wpAny_bind (slicePart_int (wpAny_bind (wpAny_pure ?_)))))
  show wpAny _ _ (match Builtin.Slice.sliceAdjust none (some (b : Int)) 1 (n : Int) with | (lo, hi) => pure (lo, (1 : Int), Builtin.Slice.slicePlaces lo hi 1)) _ _ s
  rw [adjust_upto b n hb]
  show wpAny _ _ (pure ((0 : Int), (1 : Int), Builtin.Slice.slicePlaces 0 (b : Int) 1)) _ _ s
  rw [places_upto]
  exact wpAny_pure h
theorem pick_upto (xs : Array Value) (b : Nat) : ((List.range b).filterMap fun (k : Nat) => xs[((0 : Int) + (k : Int) * 1).toNat]?).toArray = (xs.toList.take b).toArray := by
  have e : (fun (k : Nat) => xs[((0 : Int) + (k : Int) * 1).toNat]?) = (fun i => xs[i]?) ∘ fun k => 0 + k := by
    funext k
    have : ((0 : Int) + (k : Int) * 1).toNat = 0 + k := by omega
    simp only [Function.comp, this]
  rw [e, ← List.filterMap_map, pick_run, List.drop_zero]
theorem getItem_tuple_upto {t sl : Addr} {items : Array Value} {b : Nat} {u : Tok} {Q : Value → Shared → Prop} (ht : IsTup s.heap t items) (hs : s.heap.IsSliceOf sl .none (.int b u) .none) (hb : b < items.size) (hsz : items.size ≤ sizeLine)
    (h : Q (.ref s.heap.objs.size) { s with heap := s.heap.push { cls := .type "tuple", data := .seq (items.toList.take b).toArray } }) : wpAny (model prog w) A (getItem (.ref t) (.ref sl)) Q E s := by
  have hok : sizeOk (.seq (items.toList.take b).toArray) := by
    show (items.toList.take b).toArray.size ≤ sizeLine
    rw [List.size_toArray, List.length_take]
    omega
  have hTs : s.TypeIs (.ref sl) "slice" := let ⟨os, hos, hcs, _⟩ := hs; ⟨os, hos, hcs⟩
  unfold getItem
  with_reducible refine wpAny_holding ?_
  refine wpAny_bind (wpAny_sequenceKey ht.typeIs (by decide) ?_)
  refine wpAny_bind (wpAny_callSpecial?_slot (name := PySem.Str.ofString "__getitem__") ht.typeIs slot_tuple_getitem
    (wpAny_call_entry slot_tuple_getitem ht.typeIs entry_tuple_getitem ?_ (args_tuple_getitem _ _)))
  show wpAny _ _ (Builtin.Tuple.tupleItemsOf (.ref t) >>= _) _ _ s
  refine wpAny_bind (tupleItemsOf_ ht ?_)
  refine wpAny_bind (wpAny_typeOf hTs ?_)
  rw [if_pos (by decide)]
  refine wpAny_bind (applied_upto hs (Nat.le_of_lt hb) ?_)
  have hno : ¬ (((0 : Int) == 0 && (1 : Int) == 1 && b == items.size) = true) := by
    have : (b == items.size) = false := by rw [beq_eq_false_iff_ne]; omega
    rw [this]; simp
  show wpAny _ _ (if ((0 : Int) == 0 && (1 : Int) == 1 && b == items.size) = true then _ else _) _ _ s
  rw [if_neg hno, pick_upto]
  exact wpAny_bind (m := Builtin.Tuple.tupleExact _) (wpAny_newObj_type (wpAny_pure ⟨_, rfl, wpAny_pure h⟩) hok)
end
section
variable {prog : Program} {w : World} {A : Around} {E : Value → Shared → Prop} {s : Shared} {h₀ : Heap} {L t : Addr} {m : PySem.Str → Option Value} {news : List (Addr × Obj)} {K : Frag}
theorem slice_top_upto {value slice : PySem.Expr} {items : Array Value} {n : Nat} {d : Option Addr} {sl : Array (Option Value)} {b : Nat} {i : Int} {u : Tok} {zs : List Value} {Q : Value → Shared → Prop}
    (F : Fr h₀ L s.heap m) (N : News h₀ L s.heap news) (X₀ : K.In h₀) (ho : K.lookup t = some { cls := .type "tuple", dict := d, data := .seq items n, slots := sl }) (hi : i = (b : Int)) (hb : b < items.size) (hsz : items.size ≤ sizeLine) (hz : items.toList.take b = zs)
    (h : ∀ D h', Fr h₀ L h' m → News h₀ L h' ((D, { cls := .type "tuple", data := .seq zs.toArray }) :: news) → (∀ p ∈ news, p.1 < D) → Q (.ref D) { s with heap := h' })
    (hs : subscripted slice false (.ref t) (.ref s.heap.objs.size) = operate [.ref s.heap.objs.size, .ref t] (getItem (.ref t) (.ref s.heap.objs.size)))
    (hg : ∀ r, letTemporaryGo value (.ref t) r = pure ()) :
    wpAny (model prog w) A (subscriptTail value slice (.ref t) (.ref s.heap.objs.size)) Q E { s with heap := s.heap.push { cls := .type "slice", data := .fields #[.none, .int i u, .none] } } := by
  subst hi
  subst hz
  have ht : IsTup (s.heap.push { cls := .type "slice", data := .fields #[.none, .int b u, .none] }) t items := (kun_topT F X₀ ho).keeps fun _ _ e => Heap.get?_push_of_some _ e
  refine subscriptTail_ops (s := { s with heap := s.heap.push { cls := .type "slice", data := .fields #[.none, .int b u, .none] } }) ht.typeIs slot_tuple_getitem.lookup
    (getItem_tuple_upto ht (Heap.IsSliceOf.new ..) hb hsz ?_) hs hg
  have N1 := News.push (F.push { cls := .type "slice", data := .fields #[.none, .int b u, .none] }) (N.grown fun _ _ e => Heap.get?_push_of_some _ e) { cls := .type "tuple", data := .seq (items.toList.take b).toArray }
  rw [Heap.size_push] at N1
  show Q (.ref (s.heap.push _).objs.size) _
  rw [Heap.size_push]
  exact h _ _ ((F.push _).push _) N1 fun p hp => Nat.lt_succ_of_lt (Heap.lt_size (N p hp).1)
end
section
variable {prog : Program} {w : World} {A : Around} {E : Value → Shared → Prop} {s : Shared} {h₀ : Heap} {L t : Addr} {m : PySem.Str → Option Value} {K : Frag}
theorem in_top_tup {items : Array Value} {n : Nat} {d : Option Addr} {sl : Array (Option Value)} {ns : List Int} {x : Int} {u : Tok} {Q : Value → Shared → Prop} (F : Fr h₀ L s.heap m) (X₀ : K.In h₀) (ho : K.lookup t = some { cls := .type "tuple", dict := d, data := .seq items n, slots := sl })
    (hi : IntsAre items.toList ns) (h1 : x ∈ ns → Q (.bool true) s) (h0 : ¬ x ∈ ns → Q (.bool false) s) : wpAny (model prog w) A (compareOp .In (.int x u) (.ref t)) Q E s := by
  refine in_tuple_ints (kun_topT F X₀ ho) hi ?_
  by_cases hx : x ∈ ns
  · rw [show ns.any (· == x) = true by simpa using hx]; exact h1 hx
  · rw [show ns.any (· == x) = false by
      rw [← Bool.not_eq_true]; simpa using hx]
    exact h0 hx
end
section
variable {prog : Program} {w : World} {A : Around} {E : Value → Shared → Prop} {s : Shared}
theorem mod_pos {a b : Int} {t u : Tok} {Q : Value → Shared → Prop} (hb : 0 < b) (h : 0 ≤ a.fmod b → a.fmod b < b → Q (.int (a.fmod b) s.toks) { s with toks := s.toks + 1 }) : wpAny (model prog w) A (binaryOp .Mod (.int a t) (.int b u)) Q E s :=
  mod_int' (by omega) (h (Int.fmod_nonneg_of_pos a hb) (Int.fmod_lt_of_pos a hb))
end
section
variable {prog : Program} {w : World} {A : Around} {E : Value → Shared → Prop} {s : Shared}
theorem in_list_two {l : Addr} {vs : List Value} {ns : List Int} {x : Int} {u : Tok} {Q : Value → Shared → Prop} (hl : s.heap.IsList l vs.toArray) (hi : IntsAre vs ns)
    (h1 : x ∈ ns → Q (.bool true) s) (h0 : ¬ x ∈ ns → Q (.bool false) s) : wpAny (model prog w) A (compareOp .In (.int x u) (.ref l)) Q E s := by
  refine in_list_ints hl hi ?_
  by_cases hx : x ∈ ns
  · rw [show ns.any (· == x) = true by simpa using hx]; exact h1 hx
  · rw [show ns.any (· == x) = false by
      rw [← Bool.not_eq_true]; simpa using hx]
    exact h0 hx
theorem notin_tup_two {t : Addr} {items : Array Value} {ns : List Int} {x : Int} {u : Tok} {Q : Value → Shared → Prop} (ht : IsTup s.heap t items) (hi : IntsAre items.toList ns)
    (h1 : x ∈ ns → Q (.bool false) s) (h0 : ¬ x ∈ ns → Q (.bool true) s) : wpAny (model prog w) A (compareOp .NotIn (.int x u) (.ref t)) Q E s := by
  refine notin_tuple_ints ht hi ?_
  by_cases hx : x ∈ ns
  · rw [show (!(ns.any (· == x))) = false by
      rw [Bool.not_eq_false']; simpa using hx]; exact h1 hx
  · rw [show (!(ns.any (· == x))) = true by
      rw [Bool.not_eq_true', ← Bool.not_eq_true]; simpa using hx]
    exact h0 hx
end
end Mine
local macro_rules | `(tactic| walk_at "compareOp In int ref") => `(tactic| (k_here; (with_reducible show wpAny _ _ (compareOp CmpOp.In (Value.int _ _) (Value.ref _)) _ _ _); (k_dflt (refine' Mine.in_top_tup ?F ?X ?l ?i ?_ ?_; (case F => k_asm); (case X => k_asm); (case l => k_is); (case i => l_intsW)); all_goals ((try simp only [List.mem_cons, List.not_mem_nil, or_false]); intro hx9; first | (exfalso; omega) | skip))))
local macro_rules | `(tactic| walk_at "compareOp In int ref") => `(tactic| (k_here; (with_reducible show wpAny _ _ (compareOp CmpOp.In (Value.int _ _) (Value.ref _)) _ _ _); (k_dflt (refine' Mine.in_list_two ?l ?i ?_ ?_; (case l => exact News.isList (by k_asm) (by k_mem)); (case i => l_intsW)); all_goals ((try simp only [List.mem_cons, List.not_mem_nil, or_false]); intro hx9; first | (exfalso; omega) | skip))))
local macro_rules | `(tactic| walk_at "compareOp NotIn int ref") => `(tactic| (k_here; (with_reducible show wpAny _ _ (compareOp CmpOp.NotIn (Value.int _ _) (Value.ref _)) _ _ _); (k_dflt (refine' Mine.notin_tup_two ?l ?i ?_ ?_; (case l => exact News.isTup (by k_asm) (by k_mem)); (case i => l_intsW)); all_goals ((try simp only [List.mem_cons, List.not_mem_nil, or_false]); intro hx9; first | (exfalso; omega) | skip))))
local macro_rules | `(tactic| walk_at "binaryOp Mod int int") => `(tactic| (k_here; (with_reducible show wpAny _ _ (binaryOp Operator.Mod (Value.int _ _) (Value.int (Mine.wpy _) _)) _ _ _); (refine Mine.mod_pos (by omega) ?_; intro hm8 hm9)))
local macro_rules | `(tactic| walk_at "subscriptTail Name Slice ref ref") => `(tactic| (k_here; (with_reducible show wpAny _ _ (subscriptTail _ (PySem.Expr.Slice none (some _) none _) (Value.ref _) (Value.ref _)) _ _ _); (k_dflt (refine' Mine.slice_top_upto ?F ?N ?X ?l ?i ?b ?z ?e ?_ ?s ?g; (case F => k_asm); (case N => k_asm); (case X => k_asm); (case l => k_is); (case i => exact Int.toNat_of_nonneg (by decide) |>.symm); (case b => decide); (case z => exact Nat.le_of_ble_eq_true rfl); (case e => kl_lit); (case s => with_unfolding_all rfl); (case g => kmk_pure)); intro D' h' F' N' l1; (try k_lt l1); (try k_sweep))))
local macro_rules | `(tactic| walk_at "exec For Name Subscript cons nil") => `(tactic| (k_here; (rename Fr _ _ _ _ => lF'); (with_unfolding_all refine' For_turns lF' ?_; k_whole)))
local macro_rules | `(tactic| walk_at "eval Call Name") => `(tactic| (k_here; refine Call_ ?_))
local macro_rules | `(tactic| k_room) => `(tactic| cb_room)
local macro_rules | `(tactic| walk_at "ite") => `(tactic| (k_here; k_openite; first
  | (refine PySem.W.ite_pos (by (law_clear; (repeat ((rename (@LT.lt Nat _ _ _) => hz9); clear hz9)); (repeat ((rename (@LT.lt Nat _ _ _ ∧ _) => hz9); clear hz9)); (try law_fm); (try simp only [beq_iff_eq, bne_iff_ne, ne_eq, not_true_eq_false, not_false_eq_true, Bool.not_eq_true', Bool.not_eq_true, Bool.not_eq_false', decide_eq_true_eq, decide_eq_false_iff_not] at *); first | done | law_purse 20000 => omega)) ?_; walk_say "PRUNED by my own")
  | (refine PySem.W.ite_neg (by (law_clear; (repeat ((rename (@LT.lt Nat _ _ _) => hz9); clear hz9)); (repeat ((rename (@LT.lt Nat _ _ _ ∧ _) => hz9); clear hz9)); (try law_fm); (try simp only [beq_iff_eq, bne_iff_ne, ne_eq, not_true_eq_false, not_false_eq_true, Bool.not_eq_true', Bool.not_eq_true, Bool.not_eq_false', decide_eq_true_eq, decide_eq_false_iff_not] at *); first | done | law_purse 20000 => omega)) ?_; walk_say "PRUNED by my own")))
local macro_rules | `(tactic| cb_eq) => `(tactic| ((try dsimp only); first
  | (with_reducible exact Mine.jan_walk _)
  | (with_reducible exact Mine.mon_walk _)
  | (with_reducible exact Mine.jan1 _)
  | (with_reducible exact Mine.dec5L _ (by assumption) (by assumption))
  | (with_reducible exact Mine.dec5N _ (by assumption) (by assumption))
  | (with_reducible exact Mine.dec4L _ (by assumption) (by assumption))
  | (with_reducible exact Mine.dec4N _ (by assumption) (by assumption))
  | (with_reducible exact Mine.jdg_1 _ _ _ (by assumption))
  | (with_reducible exact Mine.jdg_2 _ _ _ (by assumption) (by assumption))
  | (with_reducible exact Mine.jdg_3 _ _ _ (by assumption) (by assumption))
  | (with_reducible exact Mine.wkm_1 _ (by assumption))
  | (with_reducible exact Mine.wkm_2 _ (by assumption))
  | (with_reducible exact Mine.wpy_1 _ (by assumption))
  | (with_reducible exact Mine.wpy_2 _ (by assumption) (by assumption))
  | (with_reducible exact Mine.wpy_3 _ (by assumption) (by assumption))
  | (with_reducible exact Mine.wpy_4 _ (by assumption) (by assumption))
  | (with_reducible exact Mine.wpy_5 _ (by assumption) (by assumption))
  | (with_reducible exact Mine.iso_walk _ _ _ (by omega))
  | (simp only [Mine.leapB]; law_fm; simp_all)))
local macro_rules | `(tactic| walk_at "exec Assign") => `(tactic| (k_here; (with_reducible rename (((_ = (1 : Int) ∧ _ = (1 : Int)) ∨ _) ∧ _) => hsp9); (obtain ⟨⟨ha9, hb9⟩ | ⟨ha9, hb9⟩, hz9⟩ := hsp9 <;> (subst ha9; subst hb9))))
set_option maxRecDepth 100000 in
set_option maxHeartbeats 8000000 in
theorem PySem.Challenge.cw_aq6011_01_holds : PySem.Challenge.rw_aq6011_01.Holds := by
  k_with "size" => first | exact Mine.size1 _ | exact Mine.size4 _ | exact Mine.size5 _ (by assumption)
  k_with "fact _law_monday" => exact Mine.fact_mon
  k_with "fact _week1monday" => exact Mine.wkm_is
  k_with "fact weeks_per_year" => exact Mine.wpy_is
  k_with "fact to_jd_iso" => exact Mine.fact_iso
  k_with "call ref" => (k_call_rec "isleap" Mine.leapB (fun (_ : Int) => True) (fun (_ : Int) => 0))
  k_with "call ref" => (k_call_rec "to_jd_gregorian" Mine.jdg (fun (_ m d : Int) => (m = 1 ∨ m = 12) ∧ 1 ≤ d ∧ d ≤ 31) (fun (_ m d : Int) => 3))
  k_with "call ref" => (k_call_rec "_law_january" Mine.jan (fun (_ : Int) => True) (fun (_ : Int) => 0))
  k_with "call ref" => (k_call_rec "_law_monday" Mine.mon (fun (_ : Int) => True) (fun (_ : Int) => 2))
  k_with "call ref" => (k_call_rec "_week1monday" Mine.wkm (fun (_ : Int) => True) (fun (_ : Int) => 6))
  k_with "call ref" => (k_call_rec "weeks_per_year" Mine.wpy (fun (_ : Int) => True) (fun (_ : Int) => 6))
  k_with "fact _law_thursday" => exact Mine.fact_thu
  k_with "call ref" => (k_call_rec "_law_thursday" Mine.thu (fun (_ p m : Int) => (p = 1 ∧ m = 1) ∨ (p = 0 ∧ m = 12)) (fun (_ _ _ : Int) => 12))
  k_with "call ref" => (k_call_rec "to_jd_iso" Mine.iso (fun (_ w _ : Int) => 0 < w) (fun (_ w _ : Int) => 8))
  open_k
