/- Plain law: months and Zeller's sum. No program in sight. -/
import Derived.Test.YtjoaeennbfmohaaDoorV8
namespace Go.Proofs.YtjoaeennbfmohaaDoor
open Go.RowKit Go.Proofs.YtjoaeennbfmohaaDoorW.PrintWords Go.Proofs.YtjoaeennbfmohaaDoorW.PrintMore Go.Proofs.YtjoaeennbfmohaaDoor.PFnZone
set_option linter.unusedVariables false
set_option linter.unusedSimpArgs false

/-! #### months -/
/-- Days ahead of a month. -/
def cum (y m : Int) : Int := (367 * m - 362) / 12 + (if m ≤ 2 then 0 else if LeapI y then -1 else -2)
/-- Days of a month. -/
def dim (y m : Int) : Int := if m = 2 then (if LeapI y then 29 else 28) else if m = 4 ∨ m = 6 ∨ m = 9 ∨ m = 11 then 30 else 31
theorem months {P : Int → Prop} (h1 : P 1) (h2 : P 2) (h3 : P 3) (h4 : P 4) (h5 : P 5) (h6 : P 6) (h7 : P 7) (h8 : P 8) (h9 : P 9) (h10 : P 10) (h11 : P 11) (h12 : P 12) : ∀ m, 1 ≤ m → m ≤ 12 → P m := by
  intro m h0 hm
  obtain rfl | rfl | rfl | rfl | rfl | rfl | rfl | rfl | rfl | rfl | rfl | rfl : m = 1 ∨ m = 2 ∨ m = 3 ∨ m = 4 ∨ m = 5 ∨ m = 6 ∨ m = 7 ∨ m = 8 ∨ m = 9 ∨ m = 10 ∨ m = 11 ∨ m = 12 := by omega
  all_goals assumption
theorem days_f (y : Int) (h0 : 0 ≤ y) : ∀ m, 1 ≤ m → m ≤ 12 → spec_Days.f y m = some (dim y m) := by
  refine months ?_ ?_ ?_ ?_ ?_ ?_ ?_ ?_ ?_ ?_ ?_ ?_
  all_goals (unfold spec_Days.f dim; try rfl)
  rw [if_pos rfl, if_pos rfl, leap_f y h0, Option.bind_some]
  by_cases h : LeapI y
  · rw [if_pos h, if_pos (by simpa using h)]
  · rw [if_neg h, if_neg (by simpa using h)]
theorem dim_range (y m : Int) : 28 ≤ dim y m ∧ dim y m ≤ 31 := by
  unfold dim
  repeat' split
  all_goals omega
theorem cum_next (y : Int) : ∀ m, 1 ≤ m → m ≤ 12 → m < 12 → cum y (m + 1) = cum y m + dim y m := by
  refine months ?_ ?_ ?_ ?_ ?_ ?_ ?_ ?_ ?_ ?_ ?_ ?_
  all_goals (intro h; unfold cum dim; by_cases hl : LeapI y <;> simp [hl])
  all_goals omega
theorem cum_range (y m : Int) (h0 : 1 ≤ m) (h1 : m ≤ 12) : 0 ≤ cum y m ∧ cum y m ≤ 400 := by
  unfold cum
  repeat' split
  all_goals omega
theorem daysin_f (y : Int) (h0 : 0 ≤ y) (h1 : y ≤ 100000) : ∀ m, 1 ≤ m → m ≤ 12 → gotimezone_daysIn.f m y = some (dim y m) := by
  refine months ?_ ?_ ?_ ?_ ?_ ?_ ?_ ?_ ?_ ?_ ?_ ?_
  · unfold gotimezone_daysIn.f dim; kernel_rfl
  · unfold gotimezone_daysIn.f dim
    rw [if_pos rfl, if_pos rfl, isleap_f y h0 h1, Option.bind_some]
    by_cases h : LeapI y
    · rw [if_pos h, if_pos (by simpa using h)]
    · rw [if_neg h, if_neg (by simpa using h)]
  all_goals (unfold gotimezone_daysIn.f dim; kernel_rfl)
theorem before_f (y : Int) : ∀ m, 1 ≤ m → m ≤ 12 → gotimezone_daysBefore.f m = some (cum y m - (if m > 2 ∧ LeapI y then 1 else 0)) := by
  refine months ?_ ?_ ?_ ?_ ?_ ?_ ?_ ?_ ?_ ?_ ?_ ?_
  all_goals (unfold gotimezone_daysBefore.f cum; by_cases h : LeapI y <;> simp [h] <;> kernel_rfl)
theorem weekday_loop (y m : Int) (h0 : 1 ≤ y) (h1 : y ≤ 20000) (hm0 : 1 ≤ m) (hm1 : m ≤ 12) : ∀ n : Nat, ∀ i : Int, m - i = n → 1 ≤ i → Ev (fun k => spec_Weekday.l0 k y m (ahead y + 1 + cum y i) i) ((ahead y + 1 + cum y m) % 7) := by
  have hr := ahead_range y h0 h1
  intro n
  induction n with
  | zero =>
    intro i hi h2
    obtain rfl : i = m := by omega
    have hc := cum_range y i hm0 hm1
    refine Ev.succ (g := fun _ => some _) (Ev.of fun _ => rfl) (fun k => ?_)
    simp only [spec_Weekday.l0]
    rw [if_neg (by omega), Int.tmod_eq_emod_of_nonneg (by omega)]
  | succ n ih =>
    intro i hi h2
    have hc := cum_range y i h2 (by omega)
    have hd := dim_range y i
    refine Ev.succ (ih (i + 1) (by omega) (by omega)) (fun k => ?_)
    simp only [spec_Weekday.l0]
    rw [if_pos (by omega), days_f y (by omega) i h2 (by omega), Option.bind_some, wrap64_small (i + 1) (by omega) (by omega), wrap64_small _ (by omega) (by omega), cum_next y i h2 (by omega) (by omega), Int.add_assoc (ahead y + 1)]
theorem weekday (y m : Int) (h0 : 1 ≤ y) (h1 : y ≤ 20000) (hm0 : 1 ≤ m) (hm1 : m ≤ 12) : Ev (fun k => spec_Weekday.f k y m) ((ahead y + 1 + cum y m) % 7) := by
  have hr := ahead_range y h0 h1
  have h := weekday_loop y m h0 h1 hm0 hm1 (m - 1).toNat 1 (by omega) (by omega)
  refine Ev.congr h (fun k => ?_)
  unfold spec_Weekday.f
  rw [ahead_f y h0 h1, Option.bind_some, wrap64_small _ (by omega) (by omega)]
  have e : cum y 1 = 0 := by unfold cum; simp
  rw [e, Int.add_zero]

/-! #### Zeller -/
/-- The years' share of Zeller's sum. -/
theorem ahead_leap (y : Int) : ahead y + (if LeapI y then 1 else 0) = 365 * y - 365 + y / 4 - y / 100 + y / 400 := by
  unfold ahead LeapI
  have h4 : (y - 1) / 4 = y / 4 - (if y % 4 = 0 then 1 else 0) := by split <;> omega
  have h100 : (y - 1) / 100 = y / 100 - (if y % 100 = 0 then 1 else 0) := by split <;> omega
  have h400 : (y - 1) / 400 = y / 400 - (if y % 400 = 0 then 1 else 0) := by split <;> omega
  rw [h4, h100, h400]
  by_cases c4 : y % 4 = 0
  · by_cases c100 : y % 100 = 0
    · by_cases c400 : y % 400 = 0
      · simp [c4, c100, c400]; omega
      · simp [c4, c100, c400]; omega
    · have c400 : ¬ y % 400 = 0 := by omega
      simp [c4, c100, c400]; omega
  · have c100 : ¬ y % 100 = 0 := by omega
    have c400 : ¬ y % 400 = 0 := by omega
    simp [c4, c100, c400]; omega
def zel (m1 z : Int) : Int := (26 * m1 - 2) / 10 + 1 + z % 100 + z % 100 / 4 + z / 100 / 4 - 2 * (z / 100)
theorem zel_years (z : Int) : (z % 100 + z % 100 / 4 + z / 100 / 4 - 2 * (z / 100)) % 7 = (365 * z + z / 4 - z / 100 + z / 400) % 7 := by
  obtain ⟨a, ha⟩ : ∃ a, z / 100 = a := ⟨_, rfl⟩
  obtain ⟨b, hb⟩ : ∃ b, z % 100 = b := ⟨_, rfl⟩
  have hz : z = 100 * a + b := by omega
  have hb0 : 0 ≤ b := by omega
  have hb1 : b < 100 := by omega
  have e4 : z / 4 = 25 * a + b / 4 := by omega
  have e400 : z / 400 = a / 4 := by omega
  rw [ha, hb, e4, e400, hz]
  omega
theorem zel_month (y : Int) : ∀ m, 1 ≤ m → m ≤ 12 → zel ((m + 9) % 12 + 1) (if m ≤ 2 then y - 1 else y) % 7 = (ahead y + 1 + cum y m) % 7 := by
  have hz1 := zel_years (y - 1)
  have hz2 := zel_years y
  have hl := ahead_leap y
  have hah : ahead y = 365 * (y - 1) + (y - 1) / 4 - (y - 1) / 100 + (y - 1) / 400 := rfl
  obtain ⟨A, hA⟩ : ∃ A, (y - 1) % 100 + (y - 1) % 100 / 4 + (y - 1) / 100 / 4 - 2 * ((y - 1) / 100) = A := ⟨_, rfl⟩
  obtain ⟨B, hB⟩ : ∃ B, y % 100 + y % 100 / 4 + y / 100 / 4 - 2 * (y / 100) = B := ⟨_, rfl⟩
  rw [hA, ← hah] at hz1
  rw [hB] at hz2
  obtain ⟨C, hC⟩ : ∃ C, 365 * y + y / 4 - y / 100 + y / 400 = C := ⟨_, rfl⟩
  rw [hC] at hz2
  have hl2 : ahead y + (if LeapI y then 1 else 0) = C - 365 := by omega
  clear hl hah hC
  have zA : ∀ c : Int, c + (y - 1) % 100 + (y - 1) % 100 / 4 + (y - 1) / 100 / 4 - 2 * ((y - 1) / 100) = c + A := by intro c; omega
  have zB : ∀ c : Int, c + y % 100 + y % 100 / 4 + y / 100 / 4 - 2 * (y / 100) = c + B := by intro c; omega
  refine months ?_ ?_ ?_ ?_ ?_ ?_ ?_ ?_ ?_ ?_ ?_ ?_
  · rw [if_pos (by decide)]; unfold zel; rw [zA]; unfold cum; rw [if_pos (by decide)]; omega
  · rw [if_pos (by decide)]; unfold zel; rw [zA]; unfold cum; rw [if_pos (by decide)]; omega
  all_goals (rw [if_neg (by decide)]; unfold zel; rw [zB]; unfold cum; rw [if_neg (by decide)]; by_cases h : LeapI y <;> simp only [h, if_true, if_false] at hl2 ⊢ <;> omega)
end Go.Proofs.YtjoaeennbfmohaaDoor
