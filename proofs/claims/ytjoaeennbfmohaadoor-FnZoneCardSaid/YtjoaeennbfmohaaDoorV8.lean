/- Plain law: years and days of the calendar. No program in sight. -/
import Derived.Test.YtjoaeennbfmohaaDoorV1
import Derived.Test.YtjoaeennbfmohaaDoorC9
import Derived.Test.YtjoaeennbfmohaaDoorC12
import Derived.Test.YtjoaeennbfmohaaDoorC10
import Derived.Laws.BitsAllLaws
import Derived.Laws.BitsLemmas
namespace Go.Proofs.YtjoaeennbfmohaaDoor
open Go.RowKit Go.Proofs.YtjoaeennbfmohaaDoorW.PrintWords Go.Proofs.YtjoaeennbfmohaaDoorW.PrintMore Go.Proofs.YtjoaeennbfmohaaDoor.PFnZone
set_option linter.unusedVariables false
set_option linter.unusedSimpArgs false

/-! ### the calendar -/
/-- Days from January 1 of the year 1 to that of a year. -/
def ahead (y : Int) : Int := 365 * (y - 1) + (y - 1) / 4 - (y - 1) / 100 + (y - 1) / 400
/-- When a year begins. -/
def ystart (y : Int) : Int := (ahead y - 719162) * 86400
def LeapI (y : Int) : Prop := y % 4 = 0 ∧ (y % 100 ≠ 0 ∨ y % 400 = 0)
instance (y : Int) : Decidable (LeapI y) := by unfold LeapI; infer_instance

theorem ahead_f (y : Int) (h0 : 1 ≤ y) (h1 : y ≤ 20000) : spec_Ahead.f y = some (ahead y) := by
  have e1 : wrap64 (y - 1) = y - 1 := wrap64_small _ (by omega) (by omega)
  have e4 : Int.tdiv (y - 1) 4 = (y - 1) / 4 := Int.tdiv_eq_ediv_of_nonneg (by omega)
  have e100 : Int.tdiv (y - 1) 100 = (y - 1) / 100 := Int.tdiv_eq_ediv_of_nonneg (by omega)
  have e400 : Int.tdiv (y - 1) 400 = (y - 1) / 400 := Int.tdiv_eq_ediv_of_nonneg (by omega)
  unfold spec_Ahead.f ahead
  rw [e1, e4, e100, e400, wrap64_small (365 * (y - 1)) (by omega) (by omega), wrap64_small ((y - 1) / 4) (by omega) (by omega), wrap64_small ((y - 1) / 100) (by omega) (by omega), wrap64_small ((y - 1) / 400) (by omega) (by omega), wrap64_small (365 * (y - 1) + (y - 1) / 4) (by omega) (by omega), wrap64_small (365 * (y - 1) + (y - 1) / 4 - (y - 1) / 100) (by omega) (by omega), wrap64_small _ (by omega) (by omega)]
theorem ahead_1970 : ahead 1970 = 719162 := by decide
theorem ahead_range (y : Int) (h0 : 1 ≤ y) (h1 : y ≤ 20000) : 0 ≤ ahead y ∧ ahead y ≤ 10000000 := by unfold ahead; omega
theorem ystart_f (y : Int) (h0 : 1 ≤ y) (h1 : y ≤ 20000) : spec_YearStart.f y = some (ystart y) := by
  have hr := ahead_range y h0 h1
  unfold spec_YearStart.f
  rw [ahead_f y h0 h1, ahead_f 1970 (by omega) (by omega), ahead_1970]
  simp only [Option.bind_some]
  rw [wrap64_small (ahead y - 719162) (by omega) (by omega), wrap64_small _ (by omega) (by omega)]
  rfl
theorem year_loop (sec : Int) (h0 : 0 ≤ sec) (h1 : sec ≤ 253402300799) : ∀ m : Nat, ∀ y : Int, 10000 - y ≤ m → 1970 ≤ y → ystart y ≤ sec → ∃ Y, Ev (fun k => spec_YearOf.l0 k sec y) Y ∧ 1970 ≤ Y ∧ Y ≤ 9999 ∧ ystart Y ≤ sec ∧ sec < ystart (Y + 1) := by
  intro m
  induction m with
  | zero =>
    intro y hm hy hs
    exfalso
    unfold ystart ahead at hs
    omega
  | succ m ih =>
    intro y hm hy hs
    have hy2 : y ≤ 9999 := by unfold ystart ahead at hs; omega
    have hf := ystart_f (y + 1) (by omega) (by omega)
    have hw : wrap64 (y + 1) = y + 1 := wrap64_small _ (by omega) (by omega)
    by_cases hc : ystart (y + 1) ≤ sec
    · obtain ⟨Y, hY, hr⟩ := ih (y + 1) (by omega) (by omega) hc
      refine ⟨Y, Ev.succ hY (fun k => ?_), hr⟩
      simp only [spec_YearOf.l0]
      rw [hw, hf, Option.bind_some, if_pos hc]
    · refine ⟨y, Ev.succ (g := fun _ => some y) (Ev.of fun _ => rfl) (fun k => ?_), hy, hy2, hs, by omega⟩
      simp only [spec_YearOf.l0]
      rw [hw, hf, Option.bind_some, if_neg hc]
theorem year_of (sec : Int) (h0 : 0 ≤ sec) (h1 : sec ≤ 253402300799) : ∃ Y, Ev (fun k => spec_YearOf.f k sec) Y ∧ 1970 ≤ Y ∧ Y ≤ 9999 ∧ ystart Y ≤ sec ∧ sec < ystart (Y + 1) := by
  have e1 : Int.tdiv sec 86400 = sec / 86400 := Int.tdiv_eq_ediv_of_nonneg h0
  have e2 : Int.tdiv (sec / 86400) 366 = sec / 86400 / 366 := Int.tdiv_eq_ediv_of_nonneg (by omega)
  obtain ⟨Y, hY, hr⟩ := year_loop sec h0 h1 100000 (1970 + sec / 86400 / 366) (by omega) (by omega) (by unfold ystart ahead; omega)
  refine ⟨Y, Ev.congr hY (fun k => ?_), hr⟩
  unfold spec_YearOf.f
  rw [e1, wrap64_small (sec / 86400) (by omega) (by omega), e2, wrap64_small (sec / 86400 / 366) (by omega) (by omega), wrap64_small _ (by omega) (by omega)]

/-! #### leap years -/
theorem leap_f (y : Int) (h0 : 0 ≤ y) : spec_Leap.f y = some (decide (LeapI y)) := by
  have e4 : Int.tmod y 4 = y % 4 := Int.tmod_eq_emod_of_nonneg h0
  have e100 : Int.tmod y 100 = y % 100 := Int.tmod_eq_emod_of_nonneg h0
  have e400 : Int.tmod y 400 = y % 400 := Int.tmod_eq_emod_of_nonneg h0
  unfold spec_Leap.f LeapI
  rw [e4, e100, e400]
  by_cases c4 : y % 4 = 0
  · rw [if_pos c4]
    by_cases c100 : y % 100 = 0
    · rw [if_pos c100]
      by_cases c400 : y % 400 = 0
      · simp [c4, c100, c400]
      · simp [c4, c100, c400]
    · rw [if_neg c100]
      simp [c4, c100]
  · rw [if_neg c4]
    have : y % 400 ≠ 0 := by omega
    simp [c4, this]
theorem wraps_i64_63 (n : Int) (h₀ : 0 ≤ n) (h₁ : n < 2 ^ 63) : IntKind.i64.wrap n = n := by rw [IntKind.wrap_i64]; omega
theorem and15 (n : Int) (h0 : 0 ≤ n) (h1 : n ≤ 1000000) : bits .and .i64 n 15 = n % 16 :=
  bits_mask .i64 63 (by decide) wraps_i64_63 4 (by decide) n h0 (by omega)
theorem and3 (n : Int) (h0 : 0 ≤ n) (h1 : n ≤ 1000000) : bits .and .i64 n 3 = n % 4 :=
  bits_mask .i64 63 (by decide) wraps_i64_63 2 (by decide) n h0 (by omega)
theorem and1 (n : Int) (h0 : 0 ≤ n) (h1 : n ≤ 1000000) : bits .and .i64 n 1 = n % 2 :=
  bits_mask .i64 63 (by decide) wraps_i64_63 1 (by decide) n h0 (by omega)
theorem isleap_f (y : Int) (h0 : 0 ≤ y) (h1 : y ≤ 100000) : gotimezone_isLeap.f y = some (decide (LeapI y)) := by
  have e25 : Int.tmod y 25 = y % 25 := Int.tmod_eq_emod_of_nonneg h0
  unfold gotimezone_isLeap.f LeapI
  rw [e25, and15 y h0 (by omega), and3 y h0 (by omega)]
  have h100 : y % 100 = 0 ↔ y % 25 = 0 ∧ y % 4 = 0 := by
    constructor
    · intro h; omega
    · rintro ⟨h1, h2⟩; omega
  have h400 : y % 400 = 0 ↔ y % 25 = 0 ∧ y % 16 = 0 := by
    constructor
    · intro h; omega
    · rintro ⟨h1, h2⟩; omega
  have h16 : y % 16 = 0 → y % 4 = 0 := by intro h; omega
  by_cases c : y % 25 = 0
  · rw [if_pos c]
    congr 1
    rw [Bool.eq_iff_iff]
    simp only [beq_iff_eq, decide_eq_true_eq, ne_eq, h100, h400, c, true_and]
    constructor
    · intro h; exact ⟨h16 h, Or.inr h⟩
    · rintro ⟨h, h2 | h2⟩
      · exact absurd h h2
      · exact h2
  · rw [if_neg c]
    congr 1
    rw [Bool.eq_iff_iff]
    simp only [beq_iff_eq, decide_eq_true_eq, ne_eq, h100, h400, c, false_and, not_false_eq_true, true_or, and_true]

/-! #### year and day -/
theorem or3 (a : Nat) (h : a < 4294967296) : bits .or .u32 (a : Int) 3 = (4 * (a / 4) + 3 : Int) := by
  have e := u32_or_nat a 3 h (by decide)
  have e2 : ((3 : Nat) : Int) = 3 := rfl
  rw [e2] at e
  rw [e]
  have hd : (a ||| 3) / 4 = a / 4 := by
    have h4 : (4 : Nat) = 2 ^ 2 := rfl
    rw [h4, Nat.or_div_two_pow]
    simp
  have hm : (a ||| 3) % 4 = 3 := by
    have h4 : (4 : Nat) = 2 ^ 2 := rfl
    rw [h4, Nat.or_mod_two_pow]
    have h5 : a % 2 ^ 2 < 4 := Nat.mod_lt _ (by decide)
    have : a % 2 ^ 2 = 0 ∨ a % 2 ^ 2 = 1 ∨ a % 2 ^ 2 = 2 ∨ a % 2 ^ 2 = 3 := by omega
    rcases this with h6 | h6 | h6 | h6 <;> rw [h6] <;> decide
  omega
theorem mul32_parts (q r : Int) (hq0 : 0 ≤ q) (hq1 : q ≤ 100) (hr0 : 0 ≤ r) (hr1 : r < 1461) : (2939745 * (1461 * q + r)) / 4294967296 % 4294967296 = q ∧ (2939745 * (1461 * q + r)) % 4294967296 = 149 * q + 2939745 * r := by
  have h : 2939745 * (1461 * q + r) = 4294967296 * q + (149 * q + 2939745 * r) := by omega
  rw [h]
  have hm0 : 0 ≤ 149 * q + 2939745 * r := by omega
  have hm1 : 149 * q + 2939745 * r < 4294967296 := by omega
  generalize 149 * q + 2939745 * r = M at hm0 hm1
  omega
theorem split_f (D : Int) (h0 : 0 ≤ D) (h1 : D ≤ 200000000000000) : gotimezone_absDays_split.f D = some ((4 * D + 3) / 146097, (4 * ((4 * D + 3) % 146097 / 4) + 3) / 1461, (4 * ((4 * D + 3) % 146097 / 4) + 3) % 1461 / 4) := by
  have u1 : IntKind.u64.wrap (4 * D) = 4 * D := by rw [IntKind.wrap_u64]; omega
  have u2 : IntKind.u64.wrap (4 * D + 3) = 4 * D + 3 := by rw [IntKind.wrap_u64]; omega
  have t1 : Int.tdiv (4 * D + 3) 146097 = (4 * D + 3) / 146097 := Int.tdiv_eq_ediv_of_nonneg (by omega)
  have t2 : Int.tmod (4 * D + 3) 146097 = (4 * D + 3) % 146097 := Int.tmod_eq_emod_of_nonneg (by omega)
  have u3 : IntKind.u64.wrap ((4 * D + 3) / 146097) = (4 * D + 3) / 146097 := by rw [IntKind.wrap_u64]; omega
  obtain ⟨a, ha⟩ : ∃ a : Nat, (4 * D + 3) % 146097 = a := ⟨((4 * D + 3) % 146097).toNat, by omega⟩
  have ha1 : a < 146097 := by omega
  unfold gotimezone_absDays_split.f
  rw [u1, u2, t1, t2, u3, ha, show (a : Int) % 4294967296 = a by omega, or3 a (by omega)]
  obtain ⟨v, hv⟩ : ∃ v : Int, 4 * ((a : Int) / 4) + 3 = v := ⟨_, rfl⟩
  have hv0 : 0 ≤ v := by omega
  have hv1 : v ≤ 146099 := by omega
  rw [hv]
  unfold bits_Mul32.f
  have u4 : IntKind.u64.wrap 2939745 = 2939745 := by decide
  have u5 : IntKind.u64.wrap v = v := by rw [IntKind.wrap_u64]; omega
  have u6 : IntKind.u64.wrap (2939745 * v) = 2939745 * v := by rw [IntKind.wrap_u64]; omega
  rw [u4, u5, u6, Option.bind_some]
  have hq : v = 1461 * (v / 1461) + v % 1461 := by omega
  obtain ⟨q, hqq⟩ : ∃ q, v / 1461 = q := ⟨_, rfl⟩
  obtain ⟨r, hrr⟩ : ∃ r, v % 1461 = r := ⟨_, rfl⟩
  rw [hqq, hrr] at hq ⊢
  have hr0 : 0 ≤ r := by omega
  have hr1 : r < 1461 := by omega
  have hq0 : 0 ≤ q := by omega
  have hq1 : q ≤ 100 := by omega
  obtain ⟨hhi, hlo⟩ := mul32_parts q r hq0 hq1 hr0 hr1
  rw [← hq] at hhi hlo
  simp only [hhi, hlo]
  have t3 : Int.tdiv (149 * q + 2939745 * r) 2939745 = r := by
    rw [Int.tdiv_eq_ediv_of_nonneg (by omega)]
    omega
  rw [t3, wrap64_small q (by omega) (by omega), show r % 4294967296 = r by omega]
theorem ahead_mono (a b : Int) (h : a ≤ b) : ahead a ≤ ahead b := by unfold ahead; omega
theorem ahead_uniq (d a b : Int) (h1 : ahead a ≤ d) (h2 : d < ahead (a + 1)) (h3 : ahead b ≤ d) (h4 : d < ahead (b + 1)) : a = b := by
  rcases Int.lt_trichotomy a b with h | h | h
  · have := ahead_mono (a + 1) b (by omega); omega
  · exact h
  · have := ahead_mono (b + 1) a (by omega); omega
/-- The year (from March 1 on: c centuries, y years) in which the day at ay lies. -/
theorem day_parts (c y ay : Int) (hc : 0 ≤ c) (hy0 : 0 ≤ y) (hy1 : y ≤ 99) (ha0 : 0 ≤ ay) (ha1 : ay ≤ 365) :
    (306 ≤ ay → ahead (100 * c + y + 1) ≤ 146097 * c / 4 + 1461 * y / 4 + ay - 306 ∧ 146097 * c / 4 + 1461 * y / 4 + ay - 306 < ahead (100 * c + y + 1 + 1) ∧ 146097 * c / 4 + 1461 * y / 4 + ay - 306 - ahead (100 * c + y + 1) = ay - 306) ∧
    (ay < 306 → ahead (100 * c + y) ≤ 146097 * c / 4 + 1461 * y / 4 + ay - 306 ∧ 146097 * c / 4 + 1461 * y / 4 + ay - 306 < ahead (100 * c + y + 1) ∧ 146097 * c / 4 + 1461 * y / 4 + ay - 306 - ahead (100 * c + y) = ay + 59 + (if y % 4 = 0 ∧ (y ≠ 0 ∨ c % 4 = 0) then 1 else 0)) := by
  have a1 : ∀ z : Int, 0 ≤ z → z ≤ 99 → ahead (100 * c + z + 1) = 36524 * c + c / 4 + 365 * z + z / 4 := by
    intro z h0 h1
    unfold ahead
    have e4 : (100 * c + z + 1 - 1) / 4 = 25 * c + z / 4 := by omega
    have e100 : (100 * c + z + 1 - 1) / 100 = c := by omega
    have e400 : (100 * c + z + 1 - 1) / 400 = c / 4 := by omega
    rw [e4, e100, e400]
    omega
  have a2 : ahead (100 * c) = 36524 * c - 365 + (c - 1) / 4 := by
    unfold ahead
    have e4 : (100 * c - 1) / 4 = 25 * c - 1 := by omega
    have e100 : (100 * c - 1) / 100 = c - 1 := by omega
    have e400 : (100 * c - 1) / 400 = (c - 1) / 4 := by omega
    rw [e4, e100, e400]
    omega
  have a3 : ahead (100 * c + 99 + 1 + 1) = 36524 * c + 36524 + (c + 1) / 4 := by
    have h := show ahead (100 * (c + 1) + 0 + 1) = 36524 * (c + 1) + (c + 1) / 4 + 365 * 0 + 0 / 4 by
      unfold ahead
      have e4 : (100 * (c + 1) + 0 + 1 - 1) / 4 = 25 * (c + 1) := by omega
      have e100 : (100 * (c + 1) + 0 + 1 - 1) / 100 = c + 1 := by omega
      have e400 : (100 * (c + 1) + 0 + 1 - 1) / 400 = (c + 1) / 4 := by omega
      rw [e4, e100, e400]
      omega
    rw [show 100 * c + 99 + 1 + 1 = 100 * (c + 1) + 0 + 1 by omega, h]
    omega
  have b1 : 146097 * c / 4 = 36524 * c + c / 4 := by omega
  have b2 : 1461 * y / 4 = 365 * y + y / 4 := by omega
  rw [b1, b2]
  constructor
  · intro h
    have e := a1 y hy0 hy1
    rw [e]
    rcases Int.lt_or_eq_of_le hy1 with h2 | h2
    · have e2 := a1 (y + 1) (by omega) (by omega)
      rw [show 100 * c + (y + 1) + 1 = 100 * c + y + 1 + 1 by omega] at e2
      rw [e2]
      omega
    · subst h2
      rw [a3]
      omega
  · intro h
    have e := a1 y hy0 hy1
    rw [e]
    rcases Int.lt_or_eq_of_le hy0 with h2 | h2
    · have e2 := a1 (y - 1) (by omega) (by omega)
      rw [show 100 * c + (y - 1) + 1 = 100 * c + y by omega] at e2
      rw [e2]
      by_cases h4 : y % 4 = 0
      · rw [if_pos ⟨h4, Or.inl (by omega)⟩]; omega
      · rw [if_neg (by omega)]; omega
    · subst h2
      rw [show 100 * c + 0 = 100 * c by omega, a2]
      by_cases h4 : c % 4 = 0
      · rw [if_pos ⟨by decide, Or.inr h4⟩]; omega
      · rw [if_neg (by intro h5; rcases h5.2 with h6 | h6 <;> omega)]; omega
theorem leap_c (k : Nat) (c y : Int) (hc : 0 ≤ c) (hy : 0 ≤ y) : gotimezone_absCentury_leap.f (k + 1) c y = some (if y % 4 = 0 ∧ (y ≠ 0 ∨ c % 4 = 0) then 1 else 0) := by
  have t1 : Int.tmod y 4 = y % 4 := Int.tmod_eq_emod_of_nonneg hy
  have t2 : Int.tmod c 4 = c % 4 := Int.tmod_eq_emod_of_nonneg hc
  unfold gotimezone_absCentury_leap.f
  simp only [gotimezone_absCentury_leap.j0]
  rw [t1, t2]
  by_cases h1 : y % 4 = 0
  · by_cases h2 : y = 0
    · by_cases h3 : c % 4 = 0
      · rw [if_pos h1, if_pos h2, if_pos h3, if_pos ⟨h1, Or.inr h3⟩]; decide
      · rw [if_pos h1, if_pos h2, if_neg h3, if_neg (by omega)]; decide
    · by_cases h3 : c % 4 = 0
      · rw [if_pos h1, if_neg h2, if_pos h3, if_pos ⟨h1, Or.inr h3⟩]; decide
      · rw [if_pos h1, if_neg h2, if_neg h3, if_pos ⟨h1, Or.inl h2⟩]; decide
  · rw [if_neg h1]
    by_cases h2 : y = 0
    · omega
    · by_cases h3 : c % 4 = 0
      · rw [if_neg h2, if_pos h3, if_neg (by omega)]; decide
      · rw [if_neg h2, if_neg h3, if_neg (by omega)]; decide
theorem year_yday (d Y : Int) (h0 : 0 ≤ d) (h1 : d ≤ 3000000) (hY1 : ahead Y ≤ d + 719162) (hY2 : d + 719162 < ahead (Y + 1)) : Ev (fun k => gotimezone_absDays_yearYday.f k (d + 106751991073400)) (Y, d + 719162 - ahead Y + 1) := by
  refine ⟨1, fun k hk => ?_⟩
  obtain ⟨k, rfl⟩ : ∃ j, k = j + 1 := ⟨k - 1, by omega⟩
  show gotimezone_absDays_yearYday.f (k + 1) (d + 106751991073400) = _
  obtain ⟨c, hc⟩ : ∃ c, (4 * (d + 719468) + 3) / 146097 = c := ⟨_, rfl⟩
  obtain ⟨x, hx⟩ : ∃ x, (4 * (d + 719468) + 3) % 146097 / 4 = x := ⟨_, rfl⟩
  have ec : (4 * (d + 106751991073400) + 3) / 146097 = c + 2922770224 := by omega
  have ex : (4 * (d + 106751991073400) + 3) % 146097 / 4 = x := by omega
  have hc0 : 0 ≤ c := by omega
  have hc1 : c ≤ 200 := by omega
  have hx0 : 0 ≤ x := by omega
  have hx1 : x ≤ 36524 := by omega
  have hdx : d + 719468 = 146097 * c / 4 + x := by omega
  obtain ⟨y, hy⟩ : ∃ y, (4 * x + 3) / 1461 = y := ⟨_, rfl⟩
  obtain ⟨ay, hay⟩ : ∃ ay, (4 * x + 3) % 1461 / 4 = ay := ⟨_, rfl⟩
  have hy0 : 0 ≤ y := by omega
  have hy1 : y ≤ 99 := by omega
  have ha0 : 0 ≤ ay := by omega
  have ha1 : ay ≤ 365 := by omega
  have hxy : x = 1461 * y / 4 + ay := by omega
  have hd : d + 719162 = 146097 * c / 4 + 1461 * y / 4 + ay - 306 := by omega
  obtain ⟨p1, p2⟩ := day_parts c y ay hc0 hy0 hy1 ha0 ha1
  rw [← hd] at p1 p2
  clear hd hdx
  unfold gotimezone_absDays_yearYday.f
  rw [split_f _ (by omega) (by omega), ec, ex, hy, hay]
  simp only [Option.bind_some]
  rw [leap_c k (c + 2922770224) y (by omega) hy0, show (c + 2922770224) % 4 = c % 4 by omega]
  have u1 : IntKind.u64.wrap ((c + 2922770224) * 100) = (c + 2922770224) * 100 := by rw [IntKind.wrap_u64]; omega
  have u2 : IntKind.u64.wrap ((c + 2922770224) * 100 - 292277022400) = 100 * c := by rw [IntKind.wrap_u64]; omega
  have u3 : wrap64 (100 * c) = 100 * c := wrap64_small _ (by omega) (by omega)
  have u4 : wrap64 (100 * c + y) = 100 * c + y := wrap64_small _ (by omega) (by omega)
  unfold gotimezone_absYday_janFeb.f gotimezone_absCentury_year.f gotimezone_absYday_yday.f
  by_cases hj : ay ≥ 306
  · obtain ⟨q1, q2, q3⟩ := p1 hj
    have hYc := ahead_uniq _ _ _ q1 q2 hY1 hY2
    rw [if_pos hj]
    simp only [Option.bind_some]
    rw [u1, u2, u3, u4, wrap64_small (100 * c + y + 1) (by omega) (by omega), hYc]
    have hb : bits .andNot .i64 (if y % 4 = 0 ∧ (y ≠ 0 ∨ c % 4 = 0) then 1 else 0) 1 = 0 := by
      split <;> decide
    rw [hb, wrap64_small (ay + 60) (by omega) (by omega), wrap64_small (ay + 60 + 0) (by omega) (by omega), wrap64_small (365 * 1) (by omega) (by omega), wrap64_small _ (by omega) (by omega)]
    rw [hYc] at q3
    congr 2
    omega
  · obtain ⟨q1, q2, q3⟩ := p2 (by omega)
    have hYc := ahead_uniq _ _ _ q1 q2 hY1 hY2
    rw [if_neg hj]
    simp only [Option.bind_some]
    rw [u1, u2, u3, u4, show 100 * c + y + 0 = 100 * c + y by omega, u4, hYc]
    rw [hYc] at q3
    by_cases hl : y % 4 = 0 ∧ (y ≠ 0 ∨ c % 4 = 0)
    · rw [if_pos hl] at q3 ⊢
      rw [show bits .andNot .i64 1 0 = 1 by decide, wrap64_small (ay + 60) (by omega) (by omega), wrap64_small (ay + 60 + 1) (by omega) (by omega), wrap64_small (365 * 0) (by omega) (by omega), wrap64_small _ (by omega) (by omega)]
      congr 2
      omega
    · rw [if_neg hl] at q3 ⊢
      rw [show bits .andNot .i64 0 0 = 0 by decide, wrap64_small (ay + 60) (by omega) (by omega), wrap64_small (ay + 60 + 0) (by omega) (by omega), wrap64_small (365 * 0) (by omega) (by omega), wrap64_small _ (by omega) (by omega)]
      congr 2
      omega
end Go.Proofs.YtjoaeennbfmohaaDoor
