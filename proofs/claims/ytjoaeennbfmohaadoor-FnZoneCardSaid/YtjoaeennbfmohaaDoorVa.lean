/- Plain law: the time of a rule in a year is the same in the program and in the specification. No program in sight. -/
import Derived.Test.YtjoaeennbfmohaaDoorV9
namespace Go.Proofs.YtjoaeennbfmohaaDoor
open Go.RowKit Go.Proofs.YtjoaeennbfmohaaDoorW.PrintWords Go.Proofs.YtjoaeennbfmohaaDoorW.PrintMore Go.Proofs.YtjoaeennbfmohaaDoor.PFnZone
set_option linter.unusedVariables false
set_option linter.unusedSimpArgs false

/-! #### rules -/
/-- The first day of the month (from 0 on) that is the day of the week. -/
def firstD (y m day : Int) : Int := (day - (ahead y + 1 + cum y m) % 7 + 7) % 7
/-- The day of the month (from 0 on) that a rule tells. -/
def nthD (y m day week : Int) : Int := if firstD y m day + 7 * (week - 1) < dim y m then firstD y m day + 7 * (week - 1) else firstD y m day + 7 * (week - 1) - 7
/-- Seconds into the year. -/
def ruleT (y kind day week mon time off : Int) : Int :=
  (if kind = 0 then day - 1 + (if LeapI y ∧ day > 59 then 1 else 0) else if kind = 2 then nthD y mon day week + cum y mon else day) * 86400 + time - off
theorem firstD_range (y m day : Int) : 0 ≤ firstD y m day ∧ firstD y m day ≤ 6 := by unfold firstD; omega
theorem nthD_range (y m day week : Int) (h0 : 1 ≤ week) (h1 : week ≤ 5) : 0 ≤ nthD y m day week ∧ nthD y m day week ≤ 31 := by
  have h2 := firstD_range y m day
  have h3 := dim_range y m
  unfold nthD
  split <;> omega

theorem rt_l1 (y off : Int) (h0 : 1 ≤ y) (h1 : y ≤ 20000) (ho : -1000000 ≤ off ∧ off ≤ 1000000) (kind day week m time : Int) (hm0 : 1 ≤ m) (hm1 : m ≤ 12) (ht : -1000000 ≤ time ∧ time ≤ 1000000) (d : Int) (hd0 : 0 ≤ d) (hd1 : d ≤ 100) : ∀ n : Nat, ∀ i : Int, m - i = n → 1 ≤ i →
    Ev (fun k => spec_RuleTime.l1 k y off (d + cum y i) i kind day week m time) ((d + cum y m) * 86400 + time - off) := by
  intro n
  induction n with
  | zero =>
    intro i hi h2
    obtain rfl : i = m := by omega
    have hc := cum_range y i hm0 hm1
    refine Ev.succ (g := fun _ => some _) (Ev.of fun _ => rfl) (fun k => ?_)
    simp only [spec_RuleTime.l1]
    rw [if_neg (by omega), wrap64_small ((d + cum y i) * 86400) (by omega) (by omega), wrap64_small ((d + cum y i) * 86400 + time) (by omega) (by omega), wrap64_small _ (by omega) (by omega)]
  | succ n ih =>
    intro i hi h2
    have hc := cum_range y i h2 (by omega)
    have hdm := dim_range y i
    refine Ev.succ (ih (i + 1) (by omega) (by omega)) (fun k => ?_)
    simp only [spec_RuleTime.l1]
    rw [if_pos (by omega), days_f y (by omega) i h2 (by omega), Option.bind_some, wrap64_small (i + 1) (by omega) (by omega), wrap64_small (d + cum y i + dim y i) (by omega) (by omega), cum_next y i h2 (by omega) (by omega), Int.add_assoc d]
theorem rt_month (y off : Int) (h0 : 1 ≤ y) (h1 : y ≤ 20000) (ho : -1000000 ≤ off ∧ off ≤ 1000000) (kind day week m time : Int) (hm0 : 1 ≤ m) (hm1 : m ≤ 12) (ht : -1000000 ≤ time ∧ time ≤ 1000000) (hw0 : 1 ≤ week) (hw1 : week ≤ 5) :
    Ev (fun k => spec_RuleTime.l0 k y off (firstD y m day + 7 * (week - 1)) kind day week m time) ((nthD y m day week + cum y m) * 86400 + time - off) := by
  have hf := firstD_range y m day
  have hdm := dim_range y m
  have hn := nthD_range y m day week hw0 hw1
  have e0 : cum y 1 = 0 := by unfold cum; simp
  have hl := rt_l1 y off h0 h1 ho kind day week m time hm0 hm1 ht (nthD y m day week) hn.1 (by omega) (m - 1).toNat 1 (by omega) (by omega)
  rw [e0, Int.add_zero] at hl
  have hend : Ev (fun k => spec_RuleTime.l0 k y off (nthD y m day week) kind day week m time) ((nthD y m day week + cum y m) * 86400 + time - off) := by
    refine Ev.succ hl (fun k => ?_)
    simp only [spec_RuleTime.l0]
    rw [days_f y (by omega) m hm0 hm1, Option.bind_some, if_neg]
    unfold nthD
    split <;> omega
  by_cases hc : firstD y m day + 7 * (week - 1) < dim y m
  · have e : nthD y m day week = firstD y m day + 7 * (week - 1) := by unfold nthD; rw [if_pos hc]
    rw [e] at hend ⊢
    exact hend
  · have e : nthD y m day week = firstD y m day + 7 * (week - 1) - 7 := by unfold nthD; rw [if_neg hc]
    refine Ev.succ hend (fun k => ?_)
    simp only [spec_RuleTime.l0]
    rw [days_f y (by omega) m hm0 hm1, Option.bind_some, if_pos (by omega), wrap64_small (firstD y m day + 7 * (week - 1) - 7) (by omega) (by omega), e]
theorem ruletime_f (y off : Int) (h0 : 1 ≤ y) (h1 : y ≤ 20000) (ho : -1000000 ≤ off ∧ off ≤ 1000000) (kind day week mon time : Int) (hg : RuleGood kind day week mon time) : Ev (fun k => spec_RuleTime.f k y kind day week mon time off) (ruleT y kind day week mon time off) := by
  obtain ⟨ht, hg⟩ := hg
  rcases hg with ⟨rfl, d0, d1, rfl, rfl⟩ | ⟨rfl, d0, d1, rfl, rfl⟩ | ⟨rfl, ⟨d0, d1⟩, ⟨e0, e1⟩, ⟨m0, m1⟩⟩
  · refine Ev.of (fun k => ?_)
    unfold spec_RuleTime.f ruleT
    rw [if_pos rfl, if_pos rfl, leap_f y (by omega), Option.bind_some]
    by_cases hl : LeapI y
    · rw [if_pos (by simpa using hl)]
      by_cases h59 : day > 59
      · rw [if_pos h59, if_pos ⟨hl, h59⟩, wrap64_small (day - 1) (by omega) (by omega), wrap64_small (day - 1 + 1) (by omega) (by omega), wrap64_small ((day - 1 + 1) * 86400) (by omega) (by omega), wrap64_small ((day - 1 + 1) * 86400 + time) (by omega) (by omega), wrap64_small _ (by omega) (by omega)]
      · rw [if_neg h59, if_neg (fun h => h59 h.2), wrap64_small (day - 1) (by omega) (by omega), wrap64_small ((day - 1) * 86400) (by omega) (by omega), wrap64_small ((day - 1) * 86400 + time) (by omega) (by omega), wrap64_small _ (by omega) (by omega), Int.add_zero]
    · rw [if_neg (by simpa using hl), if_neg (fun h => hl h.1), wrap64_small (day - 1) (by omega) (by omega), wrap64_small ((day - 1) * 86400) (by omega) (by omega), wrap64_small ((day - 1) * 86400 + time) (by omega) (by omega), wrap64_small _ (by omega) (by omega), Int.add_zero]
  · refine Ev.of (fun k => ?_)
    unfold spec_RuleTime.f ruleT
    rw [if_neg (by decide), if_neg (by decide), if_neg (by decide), if_neg (by decide), wrap64_small (day * 86400) (by omega) (by omega), wrap64_small (day * 86400 + time) (by omega) (by omega), wrap64_small _ (by omega) (by omega)]
  · obtain ⟨n, hn⟩ := weekday y mon h0 h1 m0 m1
    obtain ⟨n2, hn2⟩ := rt_month y off h0 h1 ho 2 day week mon time m0 m1 (by omega) e0 e1
    have hf := firstD_range y mon day
    refine ⟨n + n2, fun k hk => ?_⟩
    have q1 : spec_Weekday.f k y mon = _ := hn k (by omega)
    have q2 := hn2 k (by omega)
    show spec_RuleTime.f k y 2 day week mon time off = _
    unfold spec_RuleTime.f ruleT
    rw [if_neg (by decide), if_pos rfl, q1, Option.bind_some, if_neg (by decide), if_pos rfl]
    have w7 : 0 ≤ (ahead y + 1 + cum y mon) % 7 ∧ (ahead y + 1 + cum y mon) % 7 < 7 := by omega
    rw [wrap64_small (day - (ahead y + 1 + cum y mon) % 7) (by omega) (by omega), wrap64_small (day - (ahead y + 1 + cum y mon) % 7 + 7) (by omega) (by omega), Int.tmod_eq_emod_of_nonneg (by omega), wrap64_small (week - 1) (by omega) (by omega), wrap64_small (7 * (week - 1)) (by omega) (by omega)]
    have e : (day - (ahead y + 1 + cum y mon) % 7 + 7) % 7 = firstD y mon day := rfl
    rw [e, wrap64_small (firstD y mon day + 7 * (week - 1)) (by omega) (by omega)]
    exact q2

/-! #### the library's rules -/
theorem tz_j4 (y off : Int) (h0 : 1 ≤ y) (h1 : y ≤ 20000) (ho : -1000000 ≤ off ∧ off ≤ 1000000) (kind day week m time : Int) (hm0 : 1 ≤ m) (hm1 : m ≤ 12) (ht : -1000000 ≤ time ∧ time ≤ 1000000) (d : Int) (hd0 : 0 ≤ d) (hd1 : d ≤ 100) :
    Ev (fun k => gotimezone_tzruleTime.j4 k y off d kind day week m time) ((d + cum y m) * 86400 + time - off) := by
  have hc := cum_range y m hm0 hm1
  refine Ev.succ (g := fun _ => some _) (Ev.of fun _ => rfl) (fun k => ?_)
  simp only [gotimezone_tzruleTime.j4]
  rw [before_f y m hm0 hm1, Option.bind_some, isleap_f y (by omega) (by omega), Option.bind_some]
  by_cases hl : LeapI y
  · rw [if_pos (by simpa using hl)]
    by_cases h2 : m > 2
    · rw [if_pos h2, if_pos ⟨h2, hl⟩, wrap64_small (d + (cum y m - 1)) (by omega) (by omega), wrap64_small (d + (cum y m - 1) + 1) (by omega) (by omega), wrap64_small ((d + (cum y m - 1) + 1) * 86400) (by omega) (by omega), wrap64_small ((d + (cum y m - 1) + 1) * 86400 + time) (by omega) (by omega), wrap64_small _ (by omega) (by omega), show d + (cum y m - 1) + 1 = d + cum y m by omega]
    · rw [if_neg h2, if_neg (fun h => h2 h.1), Int.sub_zero, wrap64_small (d + cum y m) (by omega) (by omega), wrap64_small ((d + cum y m) * 86400) (by omega) (by omega), wrap64_small ((d + cum y m) * 86400 + time) (by omega) (by omega), wrap64_small _ (by omega) (by omega)]
  · rw [if_neg (by simpa using hl), if_neg (fun h => hl h.2), Int.sub_zero, wrap64_small (d + cum y m) (by omega) (by omega), wrap64_small ((d + cum y m) * 86400) (by omega) (by omega), wrap64_small ((d + cum y m) * 86400 + time) (by omega) (by omega), wrap64_small _ (by omega) (by omega)]
theorem tz_l0 (y off : Int) (h0 : 1 ≤ y) (h1 : y ≤ 20000) (ho : -1000000 ≤ off ∧ off ≤ 1000000) (kind day week m time : Int) (hm0 : 1 ≤ m) (hm1 : m ≤ 12) (ht : -1000000 ≤ time ∧ time ≤ 1000000) (hw0 : 1 ≤ week) (hw1 : week ≤ 5) : ∀ n : Nat, ∀ i : Int, week - i = n → 1 ≤ i → firstD y m day + 7 * (i - 1) < dim y m →
    Ev (fun k => gotimezone_tzruleTime.l0 k y off (firstD y m day + 7 * (i - 1)) i kind day week m time) ((nthD y m day week + cum y m) * 86400 + time - off) := by
  have hf := firstD_range y m day
  have hdm := dim_range y m
  have hn := nthD_range y m day week hw0 hw1
  have hend := tz_j4 y off h0 h1 ho kind day week m time hm0 hm1 ht (nthD y m day week) hn.1 (by omega)
  intro n
  induction n with
  | zero =>
    intro i hi h2 hin
    obtain rfl : i = week := by omega
    have e : nthD y m day i = firstD y m day + 7 * (i - 1) := by unfold nthD; rw [if_pos hin]
    rw [e] at hend ⊢
    refine Ev.succ hend (fun k => ?_)
    simp only [gotimezone_tzruleTime.l0]
    rw [if_neg (by omega)]
  | succ n ih =>
    intro i hi h2 hin
    by_cases hc : firstD y m day + 7 * (i - 1) + 7 ≥ dim y m
    · have e : nthD y m day week = firstD y m day + 7 * (i - 1) := by unfold nthD; rw [if_neg (by omega)]; omega
      rw [e] at hend ⊢
      refine Ev.succ hend (fun k => ?_)
      simp only [gotimezone_tzruleTime.l0]
      rw [if_pos (by omega), daysin_f y (by omega) (by omega) m hm0 hm1, Option.bind_some, wrap64_small (firstD y m day + 7 * (i - 1) + 7) (by omega) (by omega), if_pos hc]
    · have hn2 := ih (i + 1) (by omega) (by omega) (by omega)
      rw [show firstD y m day + 7 * (i + 1 - 1) = firstD y m day + 7 * (i - 1) + 7 by omega] at hn2
      refine Ev.succ hn2 (fun k => ?_)
      simp only [gotimezone_tzruleTime.l0]
      rw [if_pos (by omega), daysin_f y (by omega) (by omega) m hm0 hm1, Option.bind_some, wrap64_small (firstD y m day + 7 * (i - 1) + 7) (by omega) (by omega), if_neg hc, wrap64_small (i + 1) (by omega) (by omega)]
theorem tmod7 (t : Int) : (if Int.tmod t 7 < 0 then Int.tmod t 7 + 7 else Int.tmod t 7) = t % 7 := by
  have h := Int.tmod_def t 7
  rcases Int.lt_or_le t 0 with h0 | h0
  · have e : Int.tmod t 7 = - ((-t) % 7) := by
      rw [← Int.tmod_eq_emod_of_nonneg (by omega : 0 ≤ -t), Int.neg_tmod, Int.neg_neg]
    rw [e]
    split <;> omega
  · rw [Int.tmod_eq_emod_of_nonneg h0]
    split <;> omega
theorem tz_j1 (y off : Int) (h0 : 1 ≤ y) (h1 : y ≤ 20000) (ho : -1000000 ≤ off ∧ off ≤ 1000000) (kind day week m time : Int) (hd : 0 ≤ day ∧ day ≤ 6) (hm0 : 1 ≤ m) (hm1 : m ≤ 12) (ht : -1000000 ≤ time ∧ time ≤ 1000000) (hw0 : 1 ≤ week) (hw1 : week ≤ 5) :
    Ev (fun k => gotimezone_tzruleTime.j1 k y off ((ahead y + 1 + cum y m) % 7) kind day week m time) ((nthD y m day week + cum y m) * 86400 + time - off) := by
  have hf := firstD_range y m day
  have hdm := dim_range y m
  have hl := tz_l0 y off h0 h1 ho kind day week m time hm0 hm1 ht hw0 hw1 (week - 1).toNat 1 (by omega) (by omega) (by omega)
  rw [show firstD y m day + 7 * ((1 : Int) - 1) = firstD y m day by omega] at hl
  have hj2 : Ev (fun k => gotimezone_tzruleTime.j2 k y off (firstD y m day) kind day week m time) _ := Ev.succ hl (fun k => by simp only [gotimezone_tzruleTime.j2])
  refine Ev.succ hj2 (fun k => ?_)
  simp only [gotimezone_tzruleTime.j1]
  have w7 : 0 ≤ (ahead y + 1 + cum y m) % 7 ∧ (ahead y + 1 + cum y m) % 7 < 7 := by omega
  have hfd : firstD y m day = (day - (ahead y + 1 + cum y m) % 7 + 7) % 7 := rfl
  rw [wrap64_small (day - (ahead y + 1 + cum y m) % 7) (by omega) (by omega)]
  by_cases hneg : day - (ahead y + 1 + cum y m) % 7 < 0
  · rw [if_pos hneg, wrap64_small _ (by omega) (by omega), show day - (ahead y + 1 + cum y m) % 7 + 7 = firstD y m day by omega]
  · rw [if_neg hneg, show day - (ahead y + 1 + cum y m) % 7 = firstD y m day by omega]
theorem tz_j0 (y off : Int) (h0 : 100 ≤ y) (h1 : y ≤ 20000) (ho : -1000000 ≤ off ∧ off ≤ 1000000) (kind day week m time : Int) (hd : 0 ≤ day ∧ day ≤ 6) (hm0 : 1 ≤ m) (hm1 : m ≤ 12) (ht : -1000000 ≤ time ∧ time ≤ 1000000) (hw0 : 1 ≤ week) (hw1 : week ≤ 5) :
    Ev (fun k => gotimezone_tzruleTime.j0 k y off ((m + 9) % 12 + 1) (if m ≤ 2 then y - 1 else y) kind day week m time) ((nthD y m day week + cum y m) * 86400 + time - off) := by
  have hj := tz_j1 y off (by omega) h1 ho kind day week m time hd hm0 hm1 ht hw0 hw1
  have hzm := zel_month y m hm0 hm1
  rw [← hzm] at hj
  obtain ⟨z, hz⟩ : ∃ z, (if m ≤ 2 then y - 1 else y) = z := ⟨_, rfl⟩
  have hz0 : 0 ≤ z := by rw [← hz]; split <;> omega
  have hz1 : z ≤ 20000 := by rw [← hz]; split <;> omega
  rw [hz] at hj ⊢
  obtain ⟨m1, hm⟩ : ∃ m1, (m + 9) % 12 + 1 = m1 := ⟨_, rfl⟩
  have hm10 : 1 ≤ m1 := by omega
  have hm11 : m1 ≤ 12 := by omega
  rw [hm] at hj ⊢
  refine Ev.succ hj (fun k => ?_)
  simp only [gotimezone_tzruleTime.j0]
  have t1 : Int.tdiv (26 * m1 - 2) 10 = (26 * m1 - 2) / 10 := Int.tdiv_eq_ediv_of_nonneg (by omega)
  have t2 : Int.tmod z 100 = z % 100 := Int.tmod_eq_emod_of_nonneg hz0
  have t3 : Int.tdiv (z % 100) 4 = z % 100 / 4 := Int.tdiv_eq_ediv_of_nonneg (by omega)
  have t4 : Int.tdiv z 100 = z / 100 := Int.tdiv_eq_ediv_of_nonneg hz0
  have t5 : Int.tdiv (z / 100) 4 = z / 100 / 4 := Int.tdiv_eq_ediv_of_nonneg (by omega)
  rw [wrap64_small (26 * m1) (by omega) (by omega), wrap64_small (26 * m1 - 2) (by omega) (by omega), t1, wrap64_small ((26 * m1 - 2) / 10) (by omega) (by omega), wrap64_small ((26 * m1 - 2) / 10 + 1) (by omega) (by omega), t2, wrap64_small ((26 * m1 - 2) / 10 + 1 + z % 100) (by omega) (by omega), t3, wrap64_small (z % 100 / 4) (by omega) (by omega), wrap64_small ((26 * m1 - 2) / 10 + 1 + z % 100 + z % 100 / 4) (by omega) (by omega), t4, wrap64_small (z / 100) (by omega) (by omega), t5, wrap64_small (z / 100 / 4) (by omega) (by omega), wrap64_small ((26 * m1 - 2) / 10 + 1 + z % 100 + z % 100 / 4 + z / 100 / 4) (by omega) (by omega), wrap64_small (2 * (z / 100)) (by omega) (by omega), wrap64_small ((26 * m1 - 2) / 10 + 1 + z % 100 + z % 100 / 4 + z / 100 / 4 - 2 * (z / 100)) (by omega) (by omega)]
  have ez : (26 * m1 - 2) / 10 + 1 + z % 100 + z % 100 / 4 + z / 100 / 4 - 2 * (z / 100) = zel m1 z := rfl
  rw [ez]
  have h7 := tmod7 (zel m1 z)
  by_cases hneg : Int.tmod (zel m1 z) 7 < 0
  · rw [if_pos hneg] at h7 ⊢
    rw [h7, wrap64_small _ (by omega) (by omega)]
  · rw [if_neg hneg] at h7 ⊢
    rw [h7]
theorem tzrule_f (y off : Int) (h0 : 100 ≤ y) (h1 : y ≤ 20000) (ho : -1000000 ≤ off ∧ off ≤ 1000000) (kind day week mon time : Int) (hg : RuleGood kind day week mon time) : Ev (fun k => gotimezone_tzruleTime.f k y kind day week mon time off) (ruleT y kind day week mon time off) := by
  obtain ⟨ht, hg⟩ := hg
  rcases hg with ⟨rfl, d0, d1, rfl, rfl⟩ | ⟨rfl, d0, d1, rfl, rfl⟩ | ⟨rfl, ⟨d0, d1⟩, ⟨e0, e1⟩, ⟨m0, m1⟩⟩
  · refine Ev.of (fun k => ?_)
    unfold gotimezone_tzruleTime.f ruleT
    rw [if_pos rfl, if_pos rfl, isleap_f y (by omega) (by omega), Option.bind_some]
    by_cases hl : LeapI y
    · rw [if_pos (by simpa using hl)]
      by_cases h59 : day ≥ 60
      · rw [if_pos h59, if_pos ⟨hl, by omega⟩, wrap64_small (day - 1) (by omega) (by omega), wrap64_small ((day - 1) * 86400) (by omega) (by omega), wrap64_small ((day - 1) * 86400 + 86400) (by omega) (by omega), wrap64_small ((day - 1) * 86400 + 86400 + time) (by omega) (by omega), wrap64_small _ (by omega) (by omega)]
        congr 1
        omega
      · rw [if_neg h59, if_neg (fun h => h59 (by omega)), wrap64_small (day - 1) (by omega) (by omega), wrap64_small ((day - 1) * 86400) (by omega) (by omega), wrap64_small ((day - 1) * 86400 + time) (by omega) (by omega), wrap64_small _ (by omega) (by omega), Int.add_zero]
    · rw [if_neg (by simpa using hl), if_neg (fun h => hl h.1), wrap64_small (day - 1) (by omega) (by omega), wrap64_small ((day - 1) * 86400) (by omega) (by omega), wrap64_small ((day - 1) * 86400 + time) (by omega) (by omega), wrap64_small _ (by omega) (by omega), Int.add_zero]
  · refine Ev.of (fun k => ?_)
    unfold gotimezone_tzruleTime.f ruleT
    rw [if_neg (by decide), if_pos rfl, if_neg (by decide), if_neg (by decide), wrap64_small (day * 86400) (by omega) (by omega), wrap64_small (day * 86400 + time) (by omega) (by omega), wrap64_small _ (by omega) (by omega)]
  · have hj := tz_j0 y off h0 h1 ho 2 day week mon time ⟨d0, d1⟩ m0 m1 (by omega) e0 e1
    refine Ev.congr hj (fun k => ?_)
    unfold gotimezone_tzruleTime.f
    have e9 : Int.tmod (mon + 9) 12 = (mon + 9) % 12 := Int.tmod_eq_emod_of_nonneg (by omega)
    rw [if_neg (by decide), if_neg (by decide), if_pos rfl, wrap64_small (mon + 9) (by omega) (by omega), e9, wrap64_small ((mon + 9) % 12 + 1) (by omega) (by omega), wrap64_small (y - 1) (by omega) (by omega)]
    by_cases h2 : mon ≤ 2
    · rw [if_pos h2, if_pos h2]
    · rw [if_neg h2, if_neg h2]
theorem ruleT_range (y kind day week mon time off : Int) (hg : RuleGood kind day week mon time) (ho : -1000000 ≤ off ∧ off ≤ 1000000) : -1000000000 ≤ ruleT y kind day week mon time off ∧ ruleT y kind day week mon time off ≤ 1000000000 := by
  obtain ⟨ht, hg⟩ := hg
  unfold ruleT
  rcases hg with ⟨rfl, d0, d1, rfl, rfl⟩ | ⟨rfl, d0, d1, rfl, rfl⟩ | ⟨rfl, ⟨d0, d1⟩, ⟨e0, e1⟩, ⟨m0, m1⟩⟩
  · rw [if_pos rfl]; split <;> omega
  · rw [if_neg (by decide), if_neg (by decide)]; omega
  · have h1 := nthD_range y mon day week e0 e1
    have h2 := cum_range y mon m0 m1
    rw [if_neg (by decide), if_pos rfl]; omega
end Go.Proofs.YtjoaeennbfmohaaDoor
