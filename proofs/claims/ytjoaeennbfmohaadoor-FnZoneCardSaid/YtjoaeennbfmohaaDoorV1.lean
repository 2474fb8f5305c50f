/- Plain law: sizes, rules and seasons that the specification takes. No program in sight. -/
import Derived.Test.YtjoaeennbfmohaaDoorC8
import Derived.Outline
namespace Go.Proofs.YtjoaeennbfmohaaDoor
open Go.RowKit Go.Proofs.YtjoaeennbfmohaaDoorW.PrintWords Go.Proofs.YtjoaeennbfmohaaDoor.PFnZone
set_option linter.unusedVariables false
set_option linter.unusedSimpArgs false

/-- With enough fuel the answer is r. -/
def Ev {α : Type} (f : Nat → Option α) (r : α) : Prop := ∃ n, ∀ k, n ≤ k → f k = some r
theorem Ev.of {α : Type} {f : Nat → Option α} {r : α} (h : ∀ k, f k = some r) : Ev f r := ⟨0, fun k _ => h k⟩
theorem Ev.succ {α : Type} {f g : Nat → Option α} {r : α} (hg : Ev g r) (h : ∀ k, f (k + 1) = g k) : Ev f r := by
  obtain ⟨n, hn⟩ := hg
  refine ⟨n + 1, fun k hk => ?_⟩
  obtain ⟨k, rfl⟩ : ∃ j, k = j + 1 := ⟨k - 1, by omega⟩
  rw [h k]
  exact hn k (by omega)
theorem Ev.bind {α β : Type} {f : Nat → Option α} {g : Nat → α → Option β} {a : α} {r : β} (hf : Ev f a) (hg : Ev (fun k => g k a) r) : Ev (fun k => (f k).bind (g k)) r := by
  obtain ⟨n, hn⟩ := hf
  obtain ⟨m, hm⟩ := hg
  refine ⟨n + m, fun k hk => ?_⟩
  show (f k).bind (g k) = some r
  rw [hn k (by omega)]
  exact hm k (by omega)
theorem Ev.congr {α : Type} {f g : Nat → Option α} {r : α} (hg : Ev g r) (h : ∀ k, f k = g k) : Ev f r := by
  obtain ⟨n, hn⟩ := hg
  exact ⟨n, fun k hk => by rw [h k]; exact hn k hk⟩
theorem Ev.get {α : Type} {f : Nat → Option α} {r : α} (h : Ev f r) : ∃ k, f k = some r := by
  obtain ⟨n, hn⟩ := h
  exact ⟨n, hn n (Nat.le_refl _)⟩

theorem wrap64_small (x : Int) (h0 : -9223372036854775808 ≤ x) (h1 : x ≤ 9223372036854775807) : wrap64 x = x := by unfold wrap64; omega

/-! ### sizes -/
theorem fits3 (nm : ByteArray) (o : Int) (d : Bool) : ∃ b, laws_zzFits3.f nm o d = some b ∧ (b = true → nm.size ≤ 2147483647) := by
  unfold laws_zzFits3.f
  split
  · exact ⟨false, rfl, by simp⟩
  · exact ⟨true, rfl, fun _ => by omega⟩
theorem fits2_loop (l : List S27) (hl : l.length ≤ 2147483647) : ∀ d i : Nat, i + d = l.length → ∃ b, Ev (fun k => laws_zzFits2.l0 k l (l.length : Int) (i : Int)) b ∧ (b = true → ∀ j, i ≤ j → (hj : j < l.length) → l[j].f0.size ≤ 2147483647) := by
  intro d
  induction d with
  | zero =>
    intro i hi
    refine ⟨true, Ev.succ (g := fun _ => some true) (Ev.of fun _ => rfl) (fun k => ?_), fun _ j h1 h2 => by omega⟩
    simp only [laws_zzFits2.l0]
    rw [if_neg (by omega)]
  | succ d ih =>
    intro i hi
    obtain ⟨b, hb, hbt⟩ := ih (i + 1) (by omega)
    obtain ⟨c, hc, hct⟩ := fits3 ((rd_T27 l i).f0) ((rd_T27 l i).f1) ((rd_T27 l i).f2)
    have hrd : rd_T27 l i = l[i] := by simp [rd_T27, show i < l.length by omega]
    have hstep : ∀ k, laws_zzFits2.l0 (k + 1) l (l.length : Int) (i : Int) = if c = true then laws_zzFits2.l0 k l (l.length : Int) ((i + 1 : Nat) : Int) else some false := by
      intro k
      simp only [laws_zzFits2.l0]
      rw [if_pos (by omega), if_pos (by omega), if_pos (by omega), hc, wrap64_small _ (by omega) (by omega)]
      rfl
    cases c with
    | false => exact ⟨false, Ev.succ (g := fun _ => some false) (Ev.of fun _ => rfl) hstep, by simp⟩
    | true =>
      refine ⟨b, Ev.succ hb hstep, fun h j h1 h2 => ?_⟩
      rcases Nat.eq_or_lt_of_le h1 with h3 | h3
      · subst h3
        have := hct rfl
        rwa [hrd] at this
      · exact hbt h j h3 h2
theorem fits1 (nm : ByteArray) (zs : List S27) (ts : List S45) (ext : ByteArray) : ∃ b, Ev (fun k => laws_zzFits1.f k nm zs ts ext) b ∧ (b = true → nm.size ≤ 2147483647 ∧ zs.length ≤ 2147483647 ∧ ts.length ≤ 2147483647 ∧ ∀ j (hj : j < zs.length), zs[j].f0.size ≤ 2147483647) := by
  unfold laws_zzFits1.f
  by_cases h1 : (nm.size : Int) > 2147483647
  · exact ⟨false, Ev.of fun k => by rw [if_pos h1], by simp⟩
  by_cases h2 : (zs.length : Int) > 2147483647
  · exact ⟨false, Ev.of fun k => by rw [if_neg h1, laws_zzFits2.f, if_pos h2]; rfl, by simp⟩
  obtain ⟨b, ⟨n, hn⟩, hbt⟩ := fits2_loop zs (by omega) zs.length 0 (by omega)
  have hn2 : ∀ k, n ≤ k → laws_zzFits2.f k zs = some b := fun k hk => by
    rw [laws_zzFits2.f, if_neg h2]
    exact hn k hk
  cases b with
  | false => exact ⟨false, ⟨n, fun k hk => by show ite _ _ _ = _; rw [if_neg h1, hn2 k hk]; rfl⟩, by simp⟩
  | true =>
    by_cases h3 : (ts.length : Int) > 2147483647
    · exact ⟨false, ⟨n, fun k hk => by show ite _ _ _ = _; rw [if_neg h1, hn2 k hk, Option.bind_some, if_pos rfl, if_pos h3]⟩, by simp⟩
    · by_cases h4 : (ext.size : Int) > 2147483647
      · exact ⟨false, ⟨n, fun k hk => by show ite _ _ _ = _; rw [if_neg h1, hn2 k hk, Option.bind_some, if_pos rfl, if_neg h3, if_pos h4]⟩, by simp⟩
      · exact ⟨true, ⟨n, fun k hk => by show ite _ _ _ = _; rw [if_neg h1, hn2 k hk, Option.bind_some, if_pos rfl, if_neg h3, if_neg h4]⟩, fun _ => ⟨by omega, by omega, by omega, fun j hj => hbt rfl j (by omega) hj⟩⟩

/-! ### a season -/
theorem within (a lo hi : Int) : ∃ b, spec_Within.f a lo hi = some b ∧ (b = true ↔ lo ≤ a ∧ a ≤ hi) := by
  unfold spec_Within.f
  split
  · exact ⟨_, rfl, by simp; omega⟩
  · exact ⟨false, rfl, by simp; omega⟩

/-- What may stand in brackets. -/
def Br (c : Int) : Prop := (65 ≤ c ∧ c ≤ 90) ∨ (97 ≤ c ∧ c ≤ 122) ∨ (48 ≤ c ∧ c ≤ 57) ∨ c = 43 ∨ c = 45
instance (c : Int) : Decidable (Br c) := by unfold Br; infer_instance

set_option maxHeartbeats 2000000 in
theorem br_step (k : Nat) (s : ByteArray) (i : Int) (hi : i < s.size) (h0 : 0 ≤ i) : spec_Bracketed.l0 (k + 1) s i = if Br (bt s i) then spec_Bracketed.l0 k s (wrap64 (i + 1)) else some false := by
  simp only [spec_Bracketed.l0]
  rw [if_pos hi, if_pos h0]
  generalize bt s i = c
  generalize spec_Bracketed.l0 k s (wrap64 (i + 1)) = A
  by_cases h : Br c
  · rw [if_pos h]
    unfold Br at h
    repeat' split
    all_goals first | rfl | (exfalso; omega)
  · rw [if_neg h]
    unfold Br at h
    repeat' split
    all_goals first | rfl | (exfalso; omega)
theorem br_loop (s : ByteArray) (hl : s.size ≤ 2147483647) : ∀ d i : Nat, i + d = s.size → ∃ b, Ev (fun k => spec_Bracketed.l0 k s (i : Int)) b ∧ (b = true → (∀ j, i ≤ j → j < s.size → Br (bt s j)) ∧ 3 ≤ s.size ∧ s.size ≤ 100) := by
  intro d
  induction d with
  | zero =>
    intro i hi
    obtain ⟨b, hb, hbt⟩ := within (s.size : Int) 3 100
    refine ⟨b, Ev.succ (g := fun _ => some b) (Ev.of fun _ => rfl) (fun k => ?_), fun h => ⟨fun j h1 h2 => by omega, ?_⟩⟩
    · simp only [spec_Bracketed.l0]
      rw [if_neg (by omega), hb]
      rfl
    · have := hbt.mp h
      omega
  | succ d ih =>
    intro i hi
    obtain ⟨b, hb, hbt⟩ := ih (i + 1) (by omega)
    have hstep : ∀ k, spec_Bracketed.l0 (k + 1) s (i : Int) = if Br (bt s i) then spec_Bracketed.l0 k s ((i + 1 : Nat) : Int) else some false := by
      intro k
      rw [br_step k s i (by omega) (by omega), wrap64_small _ (by omega) (by omega)]
      rfl
    by_cases h : Br (bt s i)
    · refine ⟨b, Ev.succ hb (fun k => by rw [hstep k, if_pos h]), fun ht => ⟨fun j h1 h2 => ?_, (hbt ht).2⟩⟩
      rcases Nat.eq_or_lt_of_le h1 with h3 | h3
      · subst h3; exact h
      · exact (hbt ht).1 j h3 h2
    · exact ⟨false, Ev.succ (g := fun _ => some false) (Ev.of fun _ => rfl) (fun k => by rw [hstep k, if_neg h]), by simp⟩
/-- A name that can stand in brackets. -/
def NameOk (s : ByteArray) : Prop := (∀ j : Nat, j < s.size → Br (bt s j)) ∧ 3 ≤ s.size ∧ s.size ≤ 100
theorem bracketed (s : ByteArray) (hl : s.size ≤ 2147483647) : ∃ b, Ev (fun k => spec_Bracketed.f k s) b ∧ (b = true → NameOk s) := by
  obtain ⟨b, hb, hbt⟩ := br_loop s hl s.size 0 (by omega)
  exact ⟨b, hb, fun h => ⟨fun j hj => (hbt h).1 j (by omega) hj, (hbt h).2⟩⟩
/-- A rule that is one. -/
def RuleGood (kind day week mon time : Int) : Prop :=
  (-604799 ≤ time ∧ time ≤ 604799) ∧ ((kind = 0 ∧ 1 ≤ day ∧ day ≤ 365 ∧ week = 0 ∧ mon = 0) ∨ (kind = 1 ∧ 0 ≤ day ∧ day ≤ 365 ∧ week = 0 ∧ mon = 0) ∨ (kind = 2 ∧ (0 ≤ day ∧ day ≤ 6) ∧ (1 ≤ week ∧ week ≤ 5) ∧ (1 ≤ mon ∧ mon ≤ 12)))
theorem ruleok (kind day week mon time : Int) : ∃ b, spec_RuleOk.f kind day week mon time = some b ∧ (b = true → RuleGood kind day week mon time) := by
  obtain ⟨b1, e1, h1⟩ := within time (-604799) 604799
  obtain ⟨b2, e2, h2⟩ := within day 1 365
  obtain ⟨b3, e3, h3⟩ := within day 0 365
  obtain ⟨b4, e4, h4⟩ := within day 0 6
  obtain ⟨b5, e5, h5⟩ := within week 1 5
  obtain ⟨b6, e6, h6⟩ := within mon 1 12
  unfold spec_RuleOk.f
  simp only [e1, e2, e3, e4, e5, e6, Option.bind_some]
  unfold RuleGood
  by_cases c1 : b1 = true
  · rw [if_pos c1]
    have t1 := h1.mp c1
    by_cases k0 : kind = 0
    · rw [if_pos k0]
      by_cases c2 : b2 = true
      · rw [if_pos c2]
        have t2 := h2.mp c2
        by_cases w0 : week = 0
        · rw [if_pos w0]
          exact ⟨_, rfl, fun h => ⟨t1, Or.inl ⟨k0, t2.1, t2.2, w0, by simpa using h⟩⟩⟩
        · rw [if_neg w0]; exact ⟨_, rfl, by simp⟩
      · rw [if_neg c2]; exact ⟨_, rfl, by simp⟩
    · rw [if_neg k0]
      by_cases k1 : kind = 1
      · rw [if_pos k1]
        by_cases c3 : b3 = true
        · rw [if_pos c3]
          have t3 := h3.mp c3
          by_cases w0 : week = 0
          · rw [if_pos w0]
            exact ⟨_, rfl, fun h => ⟨t1, Or.inr (Or.inl ⟨k1, t3.1, t3.2, w0, by simpa using h⟩)⟩⟩
          · rw [if_neg w0]; exact ⟨_, rfl, by simp⟩
        · rw [if_neg c3]; exact ⟨_, rfl, by simp⟩
      · rw [if_neg k1]
        by_cases k2 : kind = 2
        · rw [if_pos k2]
          by_cases c4 : b4 = true
          · rw [if_pos c4]
            have t4 := h4.mp c4
            by_cases c5 : b5 = true
            · rw [if_pos c5]
              have t5 := h5.mp c5
              exact ⟨_, rfl, fun h => ⟨t1, Or.inr (Or.inr ⟨k2, t4, t5, h6.mp h⟩)⟩⟩
            · rw [if_neg c5]; exact ⟨_, rfl, by simp⟩
          · rw [if_neg c4]; exact ⟨_, rfl, by simp⟩
        · rw [if_neg k2]; exact ⟨_, rfl, by simp⟩
  · rw [if_neg c1]; exact ⟨_, rfl, by simp⟩

/-- A season that is one. -/
structure SeasonGood (n1 : ByteArray) (o1 : Int) (n2 : ByteArray) (o2 : Int) (k1 d1 e1 m1 t1 k2 d2 e2 m2 t2 : Int) : Prop where
  n1 : NameOk n1
  n2 : NameOk n2
  o1 : -86400 ≤ o1 ∧ o1 ≤ 86400
  o2 : -86400 ≤ o2 ∧ o2 ≤ 86400
  r1 : RuleGood k1 d1 e1 m1 t1
  r2 : RuleGood k2 d2 e2 m2 t2
theorem seasonok (n1 : ByteArray) (o1 : Int) (b1 : Bool) (n2 : ByteArray) (o2 : Int) (b2 : Bool) (k1 d1 e1 m1 t1 k2 d2 e2 m2 t2 : Int) (hl1 : n1.size ≤ 2147483647) (hl2 : n2.size ≤ 2147483647) :
    ∃ b, Ev (fun k => spec_SeasonOk.f k n1 o1 b1 n2 o2 b2 k1 d1 e1 m1 t1 k2 d2 e2 m2 t2) b ∧ (b = true → SeasonGood n1 o1 n2 o2 k1 d1 e1 m1 t1 k2 d2 e2 m2 t2) := by
  obtain ⟨c1, ⟨x1, y1⟩, g1⟩ := bracketed n1 hl1
  obtain ⟨c2, ⟨x2, y2⟩, g2⟩ := bracketed n2 hl2
  obtain ⟨c3, y3, g3⟩ := within o1 (-86400) 86400
  obtain ⟨c4, y4, g4⟩ := within o2 (-86400) 86400
  obtain ⟨c5, y5, g5⟩ := ruleok k1 d1 e1 m1 t1
  obtain ⟨c6, y6, g6⟩ := ruleok k2 d2 e2 m2 t2
  replace y1 : ∀ k, x1 ≤ k → spec_Bracketed.f k n1 = some c1 := y1
  replace y2 : ∀ k, x2 ≤ k → spec_Bracketed.f k n2 = some c2 := y2
  have key : ∀ k, x1 + x2 ≤ k → spec_SeasonOk.f k n1 o1 b1 n2 o2 b2 k1 d1 e1 m1 t1 k2 d2 e2 m2 t2 = some (c1 && c2 && c3 && c4 && c5 && c6) := by
    intro k hk
    unfold spec_SeasonOk.f
    rw [y1 k (by omega), Option.bind_some]
    cases c1 with
    | false => rfl
    | true =>
      rw [if_pos rfl, y2 k (by omega), Option.bind_some]
      cases c2 with
      | false => rfl
      | true =>
        simp only [y3, y4, y5, y6, Option.bind_some]
        cases c3 <;> cases c4 <;> cases c5 <;> rfl
  refine ⟨_, ⟨x1 + x2, key⟩, fun h => ?_⟩
  simp only [Bool.and_eq_true] at h
  obtain ⟨⟨⟨⟨⟨h1, h2⟩, h3⟩, h4⟩, h5⟩, h6⟩ := h
  exact ⟨g1 h1, g2 h2, g3.mp h3, g4.mp h4, g5 h5, g6 h6⟩
end Go.Proofs.YtjoaeennbfmohaaDoor
