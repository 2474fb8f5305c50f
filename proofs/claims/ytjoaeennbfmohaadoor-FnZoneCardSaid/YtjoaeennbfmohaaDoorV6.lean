/- Plain law: numbers, two digits and clocks as text. No program in sight. -/
import Derived.Test.YtjoaeennbfmohaaDoorV1
import Derived.Test.YtjoaeennbfmohaaDoorC7
import Derived.Test.YtjoaeennbfmohaaDoorTs
namespace Go.Proofs.YtjoaeennbfmohaaDoor
open Go.RowKit Go.Proofs.YtjoaeennbfmohaaDoorW.PrintWords Go.Proofs.YtjoaeennbfmohaaDoorW.PrintMore Go.Proofs.YtjoaeennbfmohaaDoor.PFnZone
set_option linter.unusedVariables false
set_option linter.unusedSimpArgs false

/-! ### numbers as text -/
theorem str_tx (xs : List Int) : strOfNums xs = tx (xs.map fun n => UInt8.ofNat n.toNat) := rfl
def dg (n : Int) : UInt8 := UInt8.ofNat (48 + n).toNat
theorem dg_nat (n : Int) (h0 : 0 ≤ n) (h1 : n ≤ 9) : ((dg n).toNat : Int) = 48 + n := by
  unfold dg
  rw [UInt8.toNat_ofNat']
  omega
theorem dg_digs (n : Int) (h0 : 0 ≤ n) (h1 : n ≤ 9) : 48 ≤ (dg n).toNat ∧ (dg n).toNat ≤ 57 := by
  have := dg_nat n h0 h1
  omega
theorem one_digit (n : Int) (h0 : 0 ≤ n) (h1 : n ≤ 9) : strOfNums [wrap64 (48 + n) % 256] = tx [dg n] := by
  rw [wrap64_small _ (by omega) (by omega), show (48 + n) % 256 = 48 + n by omega]
  rfl
theorem digs_app {a b : List UInt8} (ha : Digs a) (hb : Digs b) : Digs (a ++ b) := by
  intro d hd
  rcases List.mem_append.mp hd with h | h
  · exact ha d h
  · exact hb d h
theorem decimal_l0 : ∀ m : Nat, ∀ n : Int, n.toNat ≤ m → 0 ≤ n → n ≤ 1000000 → ∀ ds : List UInt8, ds.length + m ≤ 1000000000 →
    ∃ p, Ev (fun k => spec_Decimal.l0 k n (tx ds)) (tx (p ++ ds)) ∧ Digs p ∧ val p = n ∧ p.length ≤ m := by
  intro m
  induction m with
  | zero =>
    intro n hm h0 h1 ds hl
    obtain rfl : n = 0 := by omega
    exact ⟨[], Ev.succ (g := fun _ => some (tx ds)) (Ev.of fun _ => rfl) (fun k => by simp only [spec_Decimal.l0]; rw [if_neg (by omega)]), by intro d hd; simp at hd, rfl, by simp⟩
  | succ m ih =>
    intro n hm h0 h1 ds hl
    by_cases hn : n > 0
    · have ht : Int.tmod n 10 = n % 10 := Int.tmod_eq_emod_of_nonneg h0
      have hd : Int.tdiv n 10 = n / 10 := Int.tdiv_eq_ediv_of_nonneg h0
      obtain ⟨p, hp, hpd, hpv, hpl⟩ := ih (n / 10) (by omega) (by omega) (by omega) (dg (n % 10) :: ds) (by simp; omega)
      refine ⟨p ++ [dg (n % 10)], Ev.succ (by simpa using hp) (fun k => ?_), digs_app hpd (by intro d hd2; simp at hd2; subst hd2; exact dg_digs _ (by omega) (by omega)), ?_, by simp; omega⟩
      · simp only [spec_Decimal.l0]
        rw [if_pos hn, Option.bind_some, ht, one_digit _ (by omega) (by omega), if_pos (by rw [tx_size, tx_size]; simp; omega), hd, wrap64_small _ (by omega) (by omega), tx_app]
        simp
      · rw [val_snoc, hpv, dg_nat _ (by omega) (by omega)]
        omega
    · obtain rfl : n = 0 := by omega
      exact ⟨[], Ev.succ (g := fun _ => some (tx ds)) (Ev.of fun _ => rfl) (fun k => by simp only [spec_Decimal.l0]; rw [if_neg (by omega)]), by intro d hd; simp at hd, rfl, by simp⟩
/-- A number as text. -/
theorem decimal (n : Int) (h0 : 0 ≤ n) (h1 : n ≤ 1000) : ∃ ds, Ev (fun k => spec_Decimal.f k n) (tx ds) ∧ Digs ds ∧ val ds = n ∧ 0 < ds.length ∧ ds.length ≤ 1001 := by
  have ht : Int.tmod n 10 = n % 10 := Int.tmod_eq_emod_of_nonneg h0
  have hd : Int.tdiv n 10 = n / 10 := Int.tdiv_eq_ediv_of_nonneg h0
  obtain ⟨p, hp, hpd, hpv, hpl⟩ := decimal_l0 1000 (n / 10) (by omega) (by omega) (by omega) [dg (n % 10)] (by simp)
  refine ⟨p ++ [dg (n % 10)], Ev.congr hp (fun k => ?_), digs_app hpd (by intro d hd2; simp at hd2; subst hd2; exact dg_digs _ (by omega) (by omega)), ?_, by simp, by simp; omega⟩
  · unfold spec_Decimal.f
    rw [ht, hd, wrap64_small _ (by omega) (by omega), one_digit _ (by omega) (by omega)]
  · rw [val_snoc, hpv, dg_nat _ (by omega) (by omega)]
    omega
theorem two_digits (n : Int) (h0 : 0 ≤ n) (h1 : n ≤ 59) : ∃ ds, spec_two.f n = some (tx ds) ∧ Digs ds ∧ val ds = n ∧ ds.length = 2 := by
  have ht : Int.tmod n 10 = n % 10 := Int.tmod_eq_emod_of_nonneg h0
  have hd : Int.tdiv n 10 = n / 10 := Int.tdiv_eq_ediv_of_nonneg h0
  refine ⟨[dg (n / 10), dg (n % 10)], ?_, ?_, ?_, rfl⟩
  · unfold spec_two.f
    rw [ht, hd, wrap64_small (n / 10) (by omega) (by omega), wrap64_small (48 + n / 10) (by omega) (by omega), wrap64_small (48 + n % 10) (by omega) (by omega), show (48 + n / 10) % 256 = 48 + n / 10 by omega, show (48 + n % 10) % 256 = 48 + n % 10 by omega]
    rfl
  · intro d hd
    simp at hd
    rcases hd with rfl | rfl
    · exact dg_digs _ (by omega) (by omega)
    · exact dg_digs _ (by omega) (by omega)
  · simp only [val, List.foldl_cons, List.foldl_nil]
    rw [dg_nat _ (by omega) (by omega), dg_nat _ (by omega) (by omega)]
    omega

/-! ### a clock -/
structure ClockText (n : Int) (l : List UInt8) : Prop where
  len : l.length ≤ 2000
  head : ∃ c r, l = c :: r ∧ (c.toNat = 45 ∨ (48 ≤ c.toNat ∧ c.toNat ≤ 57))
  off : ∀ rest, Ends rest → rest.length ≤ 100000000 → OffAt (l ++ rest) n rest
def sg (neg : Bool) : List UInt8 := if neg = true then [45] else []
theorem sg_len (neg : Bool) : (sg neg).length ≤ 1 := by cases neg <;> simp [sg]
theorem sg_head (neg : Bool) (hs t : List UInt8) (hd : Digs hs) (h0 : 0 < hs.length) : ∃ c r, sg neg ++ (hs ++ t) = c :: r ∧ (c.toNat = 45 ∨ (48 ≤ c.toNat ∧ c.toNat ≤ 57)) := by
  cases neg with
  | true => exact ⟨45, hs ++ t, rfl, Or.inl (by decide)⟩
  | false =>
    obtain ⟨c, r, e, h1, h2⟩ := dig_head hd h0
    exact ⟨c, r ++ t, by rw [e]; rfl, Or.inr ⟨h1, h2⟩⟩
theorem sg_off (neg : Bool) (hs t : List UInt8) : sg neg ++ (hs ++ t) = offTx neg hs t := by cases neg <;> rfl
theorem clock_text (neg : Bool) (x : Int) (w : Bool) (h0 : 0 ≤ x) (h1 : x ≤ 604799) : ∃ l, Ev (fun k => spec_Clock.j0 k x w (tx (sg neg))) (tx l) ∧ ClockText (offV neg x) l := by
  have hm3 : Int.tmod x 3600 = x % 3600 := Int.tmod_eq_emod_of_nonneg h0
  have hm6 : Int.tmod x 60 = x % 60 := Int.tmod_eq_emod_of_nonneg h0
  have hd3 : Int.tdiv x 3600 = x / 3600 := Int.tdiv_eq_ediv_of_nonneg h0
  have hd6 : Int.tdiv x 60 = x / 60 := Int.tdiv_eq_ediv_of_nonneg h0
  have hm66 : Int.tmod (x / 60) 60 = x / 60 % 60 := Int.tmod_eq_emod_of_nonneg (by omega)
  obtain ⟨hs, ⟨n1, eh⟩, hhd, hhv, hh0, hhl⟩ := decimal (x / 3600) (by omega) (by omega)
  obtain ⟨ms, em, hmd, hmv, hml⟩ := two_digits (x / 60 % 60) (by omega) (by omega)
  obtain ⟨ss, es, hsd, hsv, hsl⟩ := two_digits (x % 60) (by omega) (by omega)
  have hsgl := sg_len neg
  replace eh : ∀ k, n1 ≤ k → spec_Decimal.f k (x / 3600) = some (tx hs) := eh
  have c58 : (⟨#[58]⟩ : ByteArray) = tx [58] := rfl
  have sz1 : (1 : Nat) + (tx ms).size ≤ 9223372036854775807 := by rw [tx_size]; omega
  have sz2 : (1 : Nat) + (tx ss).size ≤ 9223372036854775807 := by rw [tx_size]; omega
  have sz3 : (tx (sg neg ++ hs ++ ([58] ++ ms))).size + (tx ([58] ++ ss)).size ≤ 9223372036854775807 := by rw [tx_size, tx_size]; simp; omega
  have hj0 : ∀ k, n1 ≤ k → spec_Clock.j0 (k + 1) x w (tx (sg neg)) = (if w = true then spec_Clock.j1 k x w (tx (sg neg ++ hs)) true else spec_Clock.j1 k x w (tx (sg neg ++ hs)) (x % 3600 != 0)) := by
    intro k hk
    simp only [spec_Clock.j0]
    rw [hd3, wrap64_small _ (by omega) (by omega), eh k hk, Option.bind_some, if_pos (by rw [tx_size, tx_size]; omega), tx_app, hm3]
  have hj1 : ∀ k, spec_Clock.j1 (k + 1) x w (tx (sg neg ++ hs)) true = if w = true then some (tx ((sg neg ++ hs) ++ ([58] ++ ms) ++ ([58] ++ ss))) else (if x % 60 = 0 then some (tx ((sg neg ++ hs) ++ ([58] ++ ms))) else some (tx ((sg neg ++ hs) ++ ([58] ++ ms) ++ ([58] ++ ss)))) := by
    intro k
    simp only [spec_Clock.j1]
    rw [if_pos trivial, hd6, wrap64_small _ (by omega) (by omega), hm66, em, hm6, es]
    simp only [Option.bind_some]
    rw [if_pos sz1, c58, tx_app, if_pos (by rw [tx_size, tx_size]; simp; omega), if_pos sz2, tx_app, tx_app, if_pos sz3, tx_app]
  -- the three forms
  have fH : x % 3600 = 0 → ClockText (offV neg x) (sg neg ++ hs) := fun hz =>
    ⟨by rw [List.length_append]; omega, by simpa using sg_head neg hs [] hhd hh0, fun rest hr hl w1 => by
      have h := off_h neg hs rest hhd hh0 (by omega) hr (by rw [← sg_off]; simp; omega) w1
      rw [hhv, show x / 3600 * 3600 = x by omega] at h
      rw [List.append_assoc, sg_off]
      exact h⟩
  have fM : x % 60 = 0 → ClockText (offV neg x) ((sg neg ++ hs) ++ ([58] ++ ms)) := fun hz =>
    ⟨by simp; omega, by rw [List.append_assoc]; exact sg_head neg hs _ hhd hh0, fun rest hr hl w1 => by
      have h := off_hm neg hs ms rest hhd hh0 (by omega) hmd (by omega) (by omega) hr (by rw [← sg_off]; simp; omega) w1
      rw [hhv, hmv, show x / 3600 * 3600 + x / 60 % 60 * 60 = x by omega] at h
      rw [show ((sg neg ++ hs) ++ ([58] ++ ms)) ++ rest = sg neg ++ (hs ++ (58 :: (ms ++ rest))) by simp, sg_off]
      exact h⟩
  have fS : ClockText (offV neg x) ((sg neg ++ hs) ++ ([58] ++ ms) ++ ([58] ++ ss)) :=
    ⟨by simp; omega, by rw [List.append_assoc, List.append_assoc]; exact sg_head neg hs _ hhd hh0, fun rest hr hl w1 => by
      have h := off_hms neg hs ms ss rest hhd hh0 (by omega) hmd (by omega) (by omega) hsd (by omega) (by omega) hr (by rw [← sg_off]; simp; omega) w1
      rw [hhv, hmv, hsv, show x / 3600 * 3600 + x / 60 % 60 * 60 + x % 60 = x by omega] at h
      rw [show ((sg neg ++ hs) ++ ([58] ++ ms) ++ ([58] ++ ss)) ++ rest = sg neg ++ (hs ++ (58 :: (ms ++ (58 :: (ss ++ rest))))) by simp, sg_off]
      exact h⟩
  have fuel : ∀ (r : List UInt8), (∀ k, n1 ≤ k → spec_Clock.j0 (k + 2) x w (tx (sg neg)) = some (tx r)) → Ev (fun k => spec_Clock.j0 k x w (tx (sg neg))) (tx r) := fun r h => ⟨n1 + 2, fun k hk => by
    obtain ⟨j, rfl⟩ : ∃ j, k = j + 2 := ⟨k - 2, by omega⟩
    exact h j (by omega)⟩
  cases w with
  | true => exact ⟨_, fuel _ (fun k hk => by rw [hj0 (k + 1) (by omega), if_pos rfl, hj1, if_pos rfl]), fS⟩
  | false =>
    by_cases hz3 : x % 3600 = 0
    · refine ⟨_, fuel _ (fun k hk => ?_), fH hz3⟩
      have hb : (x % 3600 != 0) = false := by simp [hz3]
      rw [hj0 (k + 1) (by omega), if_neg (by decide), hb]
      simp only [spec_Clock.j1]
      rw [if_neg (by decide), if_neg (by decide), hm6, if_pos (by omega)]
    · have hb : (x % 3600 != 0) = true := by simp [hz3]
      by_cases hz6 : x % 60 = 0
      · exact ⟨_, fuel _ (fun k hk => by rw [hj0 (k + 1) (by omega), if_neg (by decide), hb, hj1, if_neg (by decide), if_pos hz6]), fM hz6⟩
      · exact ⟨_, fuel _ (fun k hk => by rw [hj0 (k + 1) (by omega), if_neg (by decide), hb, hj1, if_neg (by decide), if_neg hz6]), fS⟩
theorem clock (n : Int) (w : Bool) (h0 : -604799 ≤ n) (h1 : n ≤ 604799) : ∃ l, Ev (fun k => spec_Clock.f k n w) (tx l) ∧ ClockText n l := by
  by_cases hn : n < 0
  · obtain ⟨l, hl, ht⟩ := clock_text true (-n) w (by omega) (by omega)
    refine ⟨l, Ev.congr hl (fun k => ?_), by have h := ht; rw [show offV true (-n) = n by simp [offV]] at h; exact h⟩
    unfold spec_Clock.f
    rw [if_pos hn, wrap64_small _ (by omega) (by omega)]
    rfl
  · obtain ⟨l, hl, ht⟩ := clock_text false n w (by omega) (by omega)
    refine ⟨l, Ev.congr hl (fun k => ?_), ht⟩
    unfold spec_Clock.f
    rw [if_neg hn]
    rfl
end Go.Proofs.YtjoaeennbfmohaaDoor
