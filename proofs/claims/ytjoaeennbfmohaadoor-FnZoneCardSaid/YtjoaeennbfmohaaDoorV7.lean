/- What tzset reads in the text that the specification writes of a season. Conditions: the season is one. -/
import Derived.Test.YtjoaeennbfmohaaDoorV6
namespace Go.Proofs.YtjoaeennbfmohaaDoor
open Go.RowKit Go.Proofs.YtjoaeennbfmohaaDoorW.PrintWords Go.Proofs.YtjoaeennbfmohaaDoorW.PrintMore Go.Proofs.YtjoaeennbfmohaaDoor.PFnZone
set_option linter.unusedVariables false
set_option linter.unusedSimpArgs false

/-! ### names -/
def Lt (c : Int) : Prop := (65 ≤ c ∧ c ≤ 90) ∨ (97 ≤ c ∧ c ≤ 122)
instance (c : Int) : Decidable (Lt c) := by unfold Lt; infer_instance
theorem lt_step (k : Nat) (s : ByteArray) (i : Int) (hi : i < s.size) (h0 : 0 ≤ i) : spec_Named.l0 (k + 1) s i = if Lt (bt s i) then spec_Named.l0 k s (wrap64 (i + 1)) else some false := by
  simp only [spec_Named.l0]
  rw [if_pos hi, if_pos h0]
  generalize bt s i = c
  generalize spec_Named.l0 k s (wrap64 (i + 1)) = A
  by_cases h : Lt c
  · rw [if_pos h]
    unfold Lt at h
    repeat' split
    all_goals first | rfl | (exfalso; omega)
  · rw [if_neg h]
    unfold Lt at h
    repeat' split
    all_goals first | rfl | (exfalso; omega)
theorem named_loop (s : ByteArray) (hl : s.size ≤ 100) (h3 : 3 ≤ s.size) : ∀ d i : Nat, i + d = s.size → ∃ b, Ev (fun k => spec_Named.l0 k s (i : Int)) b ∧ (b = true → ∀ j, i ≤ j → j < s.size → Lt (bt s j)) := by
  intro d
  induction d with
  | zero =>
    intro i hi
    obtain ⟨b, hb, hbt⟩ := within (s.size : Int) 3 100
    refine ⟨b, Ev.succ (g := fun _ => some b) (Ev.of fun _ => rfl) (fun k => ?_), fun h j h1 h2 => by omega⟩
    simp only [spec_Named.l0]
    rw [if_neg (by omega), hb]
    rfl
  | succ d ih =>
    intro i hi
    obtain ⟨b, hb, hbt⟩ := ih (i + 1) (by omega)
    have hstep : ∀ k, spec_Named.l0 (k + 1) s (i : Int) = if Lt (bt s i) then spec_Named.l0 k s ((i + 1 : Nat) : Int) else some false := by
      intro k
      rw [lt_step k s i (by omega) (by omega), wrap64_small _ (by omega) (by omega)]
      rfl
    by_cases h : Lt (bt s i)
    · refine ⟨b, Ev.succ hb (fun k => by rw [hstep k, if_pos h]), fun ht j h1 h2 => ?_⟩
      rcases Nat.eq_or_lt_of_le h1 with h3 | h3
      · subst h3; exact h
      · exact hbt ht j h3 h2
    · exact ⟨false, Ev.succ (g := fun _ => some false) (Ev.of fun _ => rfl) (fun k => by rw [hstep k, if_neg h]), by simp⟩
theorem tx_toList (s : ByteArray) : tx s.data.toList = s := by
  apply ByteArray.ext
  simp [tx]
theorem bt_list (s : ByteArray) (j : Nat) (h : j < s.data.toList.length) : bt s j = ((s.data.toList[j]).toNat : Int) := by
  have h' : j < s.size := by rw [data_length] at h; exact h
  unfold bt
  rw [dif_pos (by simpa using h')]
  simp
  rfl
structure NameText (s : ByteArray) (l : List UInt8) : Prop where
  len : l.length ≤ 200
  head : ∃ c r, l = c :: r ∧ ((65 ≤ c.toNat ∧ c.toNat ≤ 90) ∨ (97 ≤ c.toNat ∧ c.toNat ≤ 122) ∨ c.toNat = 60)
  name : ∀ c r, (c.toNat = 45 ∨ (48 ≤ c.toNat ∧ c.toNat ≤ 57)) → r.length ≤ 100000000 → NameAt (l ++ c :: r) s.data.toList (c :: r)
theorem name_text (s : ByteArray) (h : NameOk s) : ∃ l, Ev (fun k => spec_Name.f k s) (tx l) ∧ NameText s l := by
  obtain ⟨hbr, h3, h100⟩ := h
  have hsl : s.data.toList.length = s.size := data_length s
  obtain ⟨b, ⟨n, hn⟩, hbt⟩ := named_loop s h100 h3 s.size 0 (by omega)
  have hn2 : ∀ k, n ≤ k → spec_Named.f k s = some b := hn
  cases b with
  | true =>
    have hlet : Letters s.data.toList := by
      intro d hd
      obtain ⟨j, hj, rfl⟩ := List.getElem_of_mem hd
      have h1 := hbt rfl j (by omega) (by omega)
      rw [bt_list s j hj] at h1
      unfold Lt at h1
      omega
    refine ⟨s.data.toList, ⟨n, fun k hk => ?_⟩, ⟨by omega, ?_, fun c r hc hl w => name_plain s.data.toList c r hlet (by omega) hc (by simp; omega) w⟩⟩
    · show spec_Name.f k s = _
      unfold spec_Name.f
      rw [hn2 k hk, Option.bind_some, if_pos rfl, tx_toList]
    · cases hl : s.data.toList with
      | nil => rw [hl] at hsl; simp at hsl; omega
      | cons c r =>
        refine ⟨c, r, rfl, ?_⟩
        have := hlet c (by rw [hl]; simp)
        omega
  | false =>
    have hne : ∀ d ∈ s.data.toList, d.toNat < 128 ∧ d.toNat ≠ 62 := by
      intro d hd
      obtain ⟨j, hj, rfl⟩ := List.getElem_of_mem hd
      have h1 := hbr j (by omega)
      rw [bt_list s j hj] at h1
      unfold Br at h1
      omega
    refine ⟨60 :: (s.data.toList ++ [62]), ⟨n, fun k hk => ?_⟩, ⟨by simp; omega, ⟨60, _, rfl, Or.inr (Or.inr (by decide))⟩, fun c r hc hl w => ?_⟩⟩
    · show spec_Name.f k s = _
      have q60 : (⟨#[60]⟩ : ByteArray).size = 1 := rfl
      unfold spec_Name.f
      rw [hn2 k hk, Option.bind_some, if_neg (by decide), if_pos (by omega), if_pos (by rw [ByteArray.size_append]; omega)]
      congr 1
    · have h := name_brackets s.data.toList (c :: r) hne (by simp; omega) w
      rw [show (60 :: (s.data.toList ++ [62])) ++ c :: r = 60 :: (s.data.toList ++ 62 :: c :: r) by simp]
      exact h

/-! ### rules -/
structure RuleText (kind day week mon time : Int) (l : List UInt8) : Prop where
  len : l.length ≤ 10000
  rule : ∀ rest, RuleEnds rest → rest.length ≤ 10000000 → RuleAt (l ++ rest) kind day week mon time rest
theorem RuleEnds.ends {rest : List UInt8} (h : RuleEnds rest) : Ends rest := fun c r e => Or.inl (by have := h c r e; omega)
theorem rule_text (kind day week mon time : Int) (w : Bool) (h : RuleGood kind day week mon time) : ∃ l, Ev (fun k => spec_RuleText.f k kind day week mon time w) (tx l) ∧ RuleText kind day week mon time l := by
  obtain ⟨⟨t0, t1⟩, h⟩ := h
  obtain ⟨cl, ⟨nc, hc⟩, hct⟩ := clock time w t0 t1
  have hcl := hct.len
  replace hc : ∀ k, nc ≤ k → spec_Clock.f k time w = some (tx cl) := hc
  have c74 : (⟨#[74]⟩ : ByteArray) = tx [74] := rfl
  have c47 : (⟨#[47]⟩ : ByteArray) = tx [47] := rfl
  have c46 : (⟨#[46]⟩ : ByteArray) = tx [46] := rfl
  have c77 : (⟨#[77]⟩ : ByteArray) = tx [77] := rfl
  have z1 : (1 : Nat) + (tx cl).size ≤ 9223372036854775807 := by rw [tx_size]; omega
  have hoff : ∀ rest, RuleEnds rest → rest.length ≤ 10000000 → OffAt (cl ++ rest) time rest := fun rest hr hl => hct.off rest hr.ends (by omega)
  rcases h with ⟨rfl, d0, d1, rfl, rfl⟩ | ⟨rfl, d0, d1, rfl, rfl⟩ | ⟨rfl, ⟨d0, d1⟩, ⟨e0, e1⟩, ⟨m0, m1⟩⟩
  · obtain ⟨ds, ⟨nd, hd⟩, hdd, hdv, hd0, hdl⟩ := decimal day (by omega) (by omega)
    replace hd : ∀ k, nd ≤ k → spec_Decimal.f k day = some (tx ds) := hd
    have z2 : (1 : Nat) + (tx ds).size ≤ 9223372036854775807 := by rw [tx_size]; omega
    have z3 : (tx ([74] ++ ds)).size + (tx ([47] ++ cl)).size ≤ 9223372036854775807 := by rw [tx_size, tx_size]; simp; omega
    have fA : time = 7200 → RuleText 0 day 0 0 time ([74] ++ ds) := fun ht => ⟨by simp; omega, fun rest hr hl => by
      have g := rule_J ds rest hdd hd0 (by omega) (by omega) hr (by simp; omega)
      rw [hdv] at g
      rw [ht, show ([74] ++ ds) ++ rest = 74 :: (ds ++ rest) by simp]
      exact g⟩
    have fB : RuleText 0 day 0 0 time (([74] ++ ds) ++ ([47] ++ cl)) := ⟨by simp; omega, fun rest hr hl => by
      have g := rule_J_off ds (cl ++ rest) rest hdd hd0 (by omega) (by omega) time (hoff rest hr hl) (by simp; omega)
      rw [hdv] at g
      rw [show (([74] ++ ds) ++ ([47] ++ cl)) ++ rest = 74 :: (ds ++ 47 :: (cl ++ rest)) by simp]
      exact g⟩
    have key : ∀ k, nc + nd ≤ k → spec_RuleText.f k 0 day 0 0 time w = if w = true then some (tx (([74] ++ ds) ++ ([47] ++ cl))) else if time = 7200 then some (tx ([74] ++ ds)) else some (tx (([74] ++ ds) ++ ([47] ++ cl))) := by
      intro k hk
      unfold spec_RuleText.f
      rw [if_pos rfl, hd k (by omega), Option.bind_some, if_pos z2, hc k (by omega)]
      simp only [Option.bind_some]
      rw [if_pos z1, c74, c47, tx_app, tx_app, if_pos z3, tx_app]
    cases w with
    | true => exact ⟨_, ⟨nc + nd, fun k hk => by show spec_RuleText.f k 0 day 0 0 time true = _; rw [key k hk, if_pos rfl]⟩, fB⟩
    | false =>
      by_cases ht : time = 7200
      · exact ⟨_, ⟨nc + nd, fun k hk => by show spec_RuleText.f k 0 day 0 0 time false = _; rw [key k hk, if_neg (by decide), if_pos ht]⟩, fA ht⟩
      · exact ⟨_, ⟨nc + nd, fun k hk => by show spec_RuleText.f k 0 day 0 0 time false = _; rw [key k hk, if_neg (by decide), if_neg ht]⟩, fB⟩
  · obtain ⟨ds, ⟨nd, hd⟩, hdd, hdv, hd0, hdl⟩ := decimal day (by omega) (by omega)
    replace hd : ∀ k, nd ≤ k → spec_Decimal.f k day = some (tx ds) := hd
    have z3 : (tx ds).size + (tx ([47] ++ cl)).size ≤ 9223372036854775807 := by rw [tx_size, tx_size]; simp; omega
    have fA : time = 7200 → RuleText 1 day 0 0 time ds := fun ht => ⟨by omega, fun rest hr hl => by
      have g := rule_D ds rest hdd hd0 (by omega) (by omega) hr (by simp; omega)
      rw [hdv] at g
      rw [ht]
      exact g⟩
    have fB : RuleText 1 day 0 0 time (ds ++ ([47] ++ cl)) := ⟨by simp; omega, fun rest hr hl => by
      have g := rule_D_off ds (cl ++ rest) rest hdd hd0 (by omega) (by omega) time (hoff rest hr hl) (by simp; omega)
      rw [hdv] at g
      rw [show (ds ++ ([47] ++ cl)) ++ rest = ds ++ 47 :: (cl ++ rest) by simp]
      exact g⟩
    have key : ∀ k, nc + nd ≤ k → spec_RuleText.f k 1 day 0 0 time w = if w = true then some (tx (ds ++ ([47] ++ cl))) else if time = 7200 then some (tx ds) else some (tx (ds ++ ([47] ++ cl))) := by
      intro k hk
      unfold spec_RuleText.f
      rw [if_neg (by decide), if_pos rfl, hd k (by omega), Option.bind_some, hc k (by omega)]
      simp only [Option.bind_some]
      rw [if_pos z1, c47, tx_app, if_pos z3, tx_app]
    cases w with
    | true => exact ⟨_, ⟨nc + nd, fun k hk => by show spec_RuleText.f k 1 day 0 0 time true = _; rw [key k hk, if_pos rfl]⟩, fB⟩
    | false =>
      by_cases ht : time = 7200
      · exact ⟨_, ⟨nc + nd, fun k hk => by show spec_RuleText.f k 1 day 0 0 time false = _; rw [key k hk, if_neg (by decide), if_pos ht]⟩, fA ht⟩
      · exact ⟨_, ⟨nc + nd, fun k hk => by show spec_RuleText.f k 1 day 0 0 time false = _; rw [key k hk, if_neg (by decide), if_neg ht]⟩, fB⟩
  · obtain ⟨ds, ⟨nd, hd⟩, hdd, hdv, hd0, hdl⟩ := decimal day (by omega) (by omega)
    obtain ⟨ws, ⟨nw, hw⟩, hwd, hwv, hw0, hwl⟩ := decimal week (by omega) (by omega)
    obtain ⟨ms, ⟨nm, hm⟩, hmd, hmv, hm0, hml⟩ := decimal mon (by omega) (by omega)
    replace hd : ∀ k, nd ≤ k → spec_Decimal.f k day = some (tx ds) := hd
    replace hw : ∀ k, nw ≤ k → spec_Decimal.f k week = some (tx ws) := hw
    replace hm : ∀ k, nm ≤ k → spec_Decimal.f k mon = some (tx ms) := hm
    have q46 : (tx [46]).size = 1 := rfl
    obtain ⟨B, hB⟩ : ∃ B, ([77] ++ ms) ++ [46] ++ ws ++ [46] ++ ds = B := ⟨_, rfl⟩
    have hBl : B.length ≤ 4000 := by rw [← hB]; simp; omega
    have z2 : (1 : Nat) + (tx ms).size ≤ 9223372036854775807 := by rw [tx_size]; omega
    have z4 : (tx ([77] ++ ms)).size + 1 ≤ 9223372036854775807 := by rw [tx_size]; simp; omega
    have z5 : (tx (([77] ++ ms) ++ [46])).size + (tx ws).size ≤ 9223372036854775807 := by rw [tx_size, tx_size]; simp; omega
    have z6 : (tx (([77] ++ ms) ++ [46] ++ ws)).size + 1 ≤ 9223372036854775807 := by rw [tx_size]; simp; omega
    have z7 : (tx (([77] ++ ms) ++ [46] ++ ws ++ [46])).size + (tx ds).size ≤ 9223372036854775807 := by rw [tx_size, tx_size]; simp; omega
    have z3 : (tx B).size + (tx ([47] ++ cl)).size ≤ 9223372036854775807 := by rw [tx_size, tx_size]; simp; omega
    have fA : time = 7200 → RuleText 2 day week mon time B := fun ht => ⟨by omega, fun rest hr hl => by
      have g := rule_M ms ws ds rest hmd hm0 (by omega) (by omega) hwd hw0 (by omega) (by omega) hdd hd0 (by omega) (by omega) hr (by simp; omega)
      rw [hdv, hwv, hmv] at g
      rw [ht, ← hB, show (([77] ++ ms) ++ [46] ++ ws ++ [46] ++ ds) ++ rest = 77 :: (ms ++ 46 :: (ws ++ 46 :: (ds ++ rest))) by simp]
      exact g⟩
    have fB : RuleText 2 day week mon time (B ++ ([47] ++ cl)) := ⟨by simp; omega, fun rest hr hl => by
      have g := rule_M_off ms ws ds (cl ++ rest) rest hmd hm0 (by omega) (by omega) hwd hw0 (by omega) (by omega) hdd hd0 (by omega) (by omega) time (hoff rest hr hl) (by simp; omega)
      rw [hdv, hwv, hmv] at g
      rw [← hB, show ((([77] ++ ms) ++ [46] ++ ws ++ [46] ++ ds) ++ ([47] ++ cl)) ++ rest = 77 :: (ms ++ 46 :: (ws ++ 46 :: (ds ++ 47 :: (cl ++ rest)))) by simp]
      exact g⟩
    have key : ∀ k, nc + nd + nw + nm ≤ k → spec_RuleText.f k 2 day week mon time w = if w = true then some (tx (B ++ ([47] ++ cl))) else if time = 7200 then some (tx B) else some (tx (B ++ ([47] ++ cl))) := by
      intro k hk
      unfold spec_RuleText.f
      rw [if_neg (by decide), if_neg (by decide), hm k (by omega), Option.bind_some, if_pos z2, c77, tx_app, if_pos z4, hw k (by omega), Option.bind_some, c46, tx_app, if_pos z5, tx_app, if_pos z6, hd k (by omega), Option.bind_some, tx_app, if_pos z7, tx_app, hB, hc k (by omega)]
      simp only [Option.bind_some]
      rw [if_pos z1, c47, tx_app, if_pos z3, tx_app]
    cases w with
    | true => exact ⟨_, ⟨nc + nd + nw + nm, fun k hk => by show spec_RuleText.f k 2 day week mon time true = _; rw [key k hk, if_pos rfl]⟩, fB⟩
    | false =>
      by_cases ht : time = 7200
      · exact ⟨_, ⟨nc + nd + nw + nm, fun k hk => by show spec_RuleText.f k 2 day week mon time false = _; rw [key k hk, if_neg (by decide), if_pos ht]⟩, fA ht⟩
      · exact ⟨_, ⟨nc + nd + nw + nm, fun k hk => by show spec_RuleText.f k 2 day week mon time false = _; rw [key k hk, if_neg (by decide), if_neg ht]⟩, fB⟩

/-! ### a season as text -/
/-- The text, and what tzset reads in it. -/
theorem season_text (n1 : ByteArray) (o1 : Int) (b1 : Bool) (n2 : ByteArray) (o2 : Int) (b2 : Bool) (k1 d1 e1 m1 t1 k2 d2 e2 m2 t2 : Int) (w : Bool) (h : SeasonGood n1 o1 n2 o2 k1 d1 e1 m1 t1 k2 d2 e2 m2 t2) :
    ∃ l : List UInt8, Ev (fun k => spec_Text.f k n1 o1 b1 n2 o2 b2 k1 d1 e1 m1 t1 k2 d2 e2 m2 t2 w) (tx l) ∧ 0 < l.length ∧ l.length ≤ 50000 ∧
      ∃ (s1 s2 s3 s4 s5 : List UInt8) (c2 c3 : UInt8), NameAt l n1.data.toList s1 ∧ OffAt s1 (-o1) (c2 :: s2) ∧ c2.toNat ≠ 44 ∧ NameAt (c2 :: s2) n2.data.toList (c3 :: s3) ∧ c3.toNat ≠ 44 ∧ OffAt (c3 :: s3) (-o2) (44 :: s4) ∧
        RuleAt s4 k1 d1 e1 m1 t1 (44 :: s5) ∧ RuleAt s5 k2 d2 e2 m2 t2 [] := by
  obtain ⟨N1, ⟨x1, y1⟩, hN1⟩ := name_text n1 h.n1
  obtain ⟨N2, ⟨x2, y2⟩, hN2⟩ := name_text n2 h.n2
  obtain ⟨o1a, o1b⟩ := h.o1
  obtain ⟨o2a, o2b⟩ := h.o2
  obtain ⟨C1, ⟨x3, y3⟩, hC1⟩ := clock (-o1) w (by omega) (by omega)
  obtain ⟨C2, ⟨x4, y4⟩, hC2⟩ := clock (-o2) w (by omega) (by omega)
  obtain ⟨R1, ⟨x5, y5⟩, hR1⟩ := rule_text k1 d1 e1 m1 t1 w h.r1
  obtain ⟨R2, ⟨x6, y6⟩, hR2⟩ := rule_text k2 d2 e2 m2 t2 w h.r2
  replace y1 : ∀ k, x1 ≤ k → spec_Name.f k n1 = some (tx N1) := y1
  replace y2 : ∀ k, x2 ≤ k → spec_Name.f k n2 = some (tx N2) := y2
  replace y3 : ∀ k, x3 ≤ k → spec_Clock.f k (-o1) w = some (tx C1) := y3
  replace y4 : ∀ k, x4 ≤ k → spec_Clock.f k (-o2) w = some (tx C2) := y4
  replace y5 : ∀ k, x5 ≤ k → spec_RuleText.f k k1 d1 e1 m1 t1 w = some (tx R1) := y5
  replace y6 : ∀ k, x6 ≤ k → spec_RuleText.f k k2 d2 e2 m2 t2 w = some (tx R2) := y6
  have l1 := hN1.len
  have l2 := hN2.len
  have l3 := hC1.len
  have l4 := hC2.len
  have l5 := hR1.len
  have l6 := hR2.len
  obtain ⟨p1, q1, g1, hp1⟩ := hN1.head
  obtain ⟨p2, q2, g2, hp2⟩ := hN2.head
  obtain ⟨p3, q3, g3, hp3⟩ := hC1.head
  obtain ⟨p4, q4, g4, hp4⟩ := hC2.head
  have c44 : (⟨#[44]⟩ : ByteArray) = tx [44] := rfl
  have q44 : (tx [44]).size = 1 := rfl
  have key : ∀ k, x1 + x2 + x3 + x4 + x5 + x6 ≤ k → spec_Text.f k n1 o1 b1 n2 o2 b2 k1 d1 e1 m1 t1 k2 d2 e2 m2 t2 w = some (tx (N1 ++ C1 ++ N2 ++ C2 ++ [44] ++ R1 ++ [44] ++ R2)) := by
    intro k hk
    unfold spec_Text.f
    rw [wrap64_small (-o1) (by omega) (by omega), wrap64_small (-o2) (by omega) (by omega), y1 k (by omega), y2 k (by omega), y3 k (by omega), y4 k (by omega), y5 k (by omega), y6 k (by omega)]
    simp only [Option.bind_some]
    rw [if_pos (by rw [tx_size, tx_size]; omega), tx_app, if_pos (by rw [tx_size, tx_size]; simp; omega), tx_app, if_pos (by rw [tx_size, tx_size]; simp; omega), tx_app, if_pos (by rw [tx_size]; simp; omega), c44, tx_app, if_pos (by rw [tx_size, tx_size]; simp; omega), tx_app, if_pos (by rw [tx_size]; simp; omega), tx_app, if_pos (by rw [tx_size, tx_size]; simp; omega), tx_app]
  refine ⟨_, ⟨x1 + x2 + x3 + x4 + x5 + x6, key⟩, by rw [g1]; simp, by simp; omega, C1 ++ (N2 ++ (C2 ++ (44 :: (R1 ++ (44 :: R2))))), q2 ++ (C2 ++ (44 :: (R1 ++ (44 :: R2)))), q4 ++ (44 :: (R1 ++ (44 :: R2))), R1 ++ (44 :: R2), R2, p2, p4, ?_, ?_, by omega, ?_, by omega, ?_, ?_, ?_⟩
  · have g := hN1.name p3 (q3 ++ (N2 ++ (C2 ++ (44 :: (R1 ++ (44 :: R2)))))) hp3 (by rw [g3] at l3; simp at l3; simp; omega)
    rw [show N1 ++ C1 ++ N2 ++ C2 ++ [44] ++ R1 ++ [44] ++ R2 = N1 ++ (C1 ++ (N2 ++ (C2 ++ (44 :: (R1 ++ (44 :: R2)))))) by simp, g3]
    exact g
  · have g := hC1.off (N2 ++ (C2 ++ (44 :: (R1 ++ (44 :: R2))))) (by rw [g2]; intro c r e; injection e with e1 e2; subst e1; right; omega) (by simp; omega)
    rw [g2] at g ⊢
    exact g
  · have g := hN2.name p4 (q4 ++ (44 :: (R1 ++ (44 :: R2)))) hp4 (by rw [g4] at l4; simp at l4; simp; omega)
    rw [show p2 :: (q2 ++ (C2 ++ (44 :: (R1 ++ (44 :: R2))))) = N2 ++ (C2 ++ (44 :: (R1 ++ (44 :: R2)))) by rw [g2]; rfl, g4]
    exact g
  · have g := hC2.off (44 :: (R1 ++ (44 :: R2))) (by intro c r e; injection e with e1 e2; subst e1; left; decide) (by simp; omega)
    rw [g4] at g
    exact g
  · exact hR1.rule (44 :: R2) (by intro c r e; injection e with e1 e2; subst e1; decide) (by simp; omega)
  · have g := hR2.rule [] (by intro c r e; simp at e) (by simp)
    rw [List.append_nil] at g
    exact g
end Go.Proofs.YtjoaeennbfmohaaDoor
