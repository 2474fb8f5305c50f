/- Plain law: places and files that the specification takes. No program in sight. -/
import Derived.Test.YtjoaeennbfmohaaDoorV1
namespace Go.Proofs.YtjoaeennbfmohaaDoor
open Go.RowKit Go.Proofs.YtjoaeennbfmohaaDoorW.PrintWords Go.Proofs.YtjoaeennbfmohaaDoor.PFnZone
set_option linter.unusedVariables false
set_option linter.unusedSimpArgs false

/-! ### a place -/
def OffsOk (zs : List S27) : Prop := ∀ j (hj : j < zs.length), -2147483647 ≤ zs[j].f1 ∧ zs[j].f1 ≤ 2147483647
def TransOk (zs : List S27) (ts : List S45) : Prop := (∀ j (hj : j < ts.length), ts[j].f1 < zs.length) ∧ ∀ j (hj : j + 1 < ts.length), ts[j].f0 < ts[j + 1].f0
theorem rd27_at (zs : List S27) (i : Nat) (h : i < zs.length) : rd_T27 zs i = zs[i] := by simp [rd_T27, h]
theorem rd45_at (ts : List S45) (i : Nat) (h : i < ts.length) : rd_T45 ts i = ts[i] := by simp [rd_T45, h]

theorem place_l1 (zs : List S27) (ts : List S45) (hts : ts.length ≤ 2147483647) (hu : ∀ t ∈ ts, 0 ≤ t.f1 ∧ t.f1 ≤ 255) (nm ext : ByteArray) : ∀ d i : Nat, i + d = ts.length →
    ∃ b, Ev (fun k => spec_PlaceOk.l1 k ts (ts.length : Int) (i : Int) nm zs ts ext) b ∧ (b = true → (∀ j, i ≤ j → (hj : j < ts.length) → ts[j].f1 < zs.length ∧ ∀ h : 0 < j, (ts[j - 1]'(by omega)).f0 < ts[j].f0) ∧ 1 ≤ zs.length ∧ zs.length ≤ 200 ∧ ts.length ≤ 1000) := by
  intro d
  induction d with
  | zero =>
    intro i hi
    obtain ⟨b, hb, hbt⟩ := within (zs.length : Int) 1 200
    refine ⟨b && decide ((ts.length : Int) ≤ 1000), Ev.succ (g := fun _ => some (b && decide ((ts.length : Int) ≤ 1000))) (Ev.of fun _ => rfl) (fun k => ?_), fun h => ⟨fun j h1 h2 => by omega, ?_⟩⟩
    · simp only [spec_PlaceOk.l1]
      rw [if_neg (by omega), hb]
      cases b <;> rfl
    · simp only [Bool.and_eq_true, decide_eq_true_eq] at h
      have := hbt.mp h.1
      omega
  | succ d ih =>
    intro i hi
    obtain ⟨b, hb, hbt⟩ := ih (i + 1) (by omega)
    have hil : i < ts.length := by omega
    have hw : wrap64 ((i : Int) + 1) = ((i + 1 : Nat) : Int) := by rw [wrap64_small _ (by omega) (by omega)]; rfl
    obtain ⟨u0, u1⟩ := hu ts[i] (List.getElem_mem _)
    by_cases c1 : ts[i].f1 ≥ (zs.length : Int)
    · refine ⟨false, Ev.succ (g := fun _ => some false) (Ev.of fun _ => rfl) (fun k => ?_), by simp⟩
      simp only [spec_PlaceOk.l1]
      rw [if_pos (by omega), if_pos (by omega), if_pos (by omega), rd45_at ts i hil, wrap64_small _ (by omega) (by omega), if_pos c1]
    · rcases Nat.eq_zero_or_pos i with h0 | h0
      · refine ⟨b, Ev.succ hb (fun k => ?_), fun h => ⟨fun j h1 h2 => ?_, (hbt h).2⟩⟩
        · simp only [spec_PlaceOk.l1]
          rw [if_pos (by omega), if_pos (by omega), if_pos (by omega), rd45_at ts i hil, wrap64_small ts[i].f1 (by omega) (by omega), if_neg c1, if_neg (by omega), hw]
        · rcases Nat.eq_or_lt_of_le h1 with h3 | h3
          · subst h3; exact ⟨by omega, fun h => by omega⟩
          · exact (hbt h).1 j h3 h2
      · have hw2 : wrap64 ((i : Int) - 1) = ((i - 1 : Nat) : Int) := by rw [wrap64_small _ (by omega) (by omega)]; omega
        by_cases c2 : (ts[i - 1]'(by omega)).f0 ≥ ts[i].f0
        · refine ⟨false, Ev.succ (g := fun _ => some false) (Ev.of fun _ => rfl) (fun k => ?_), by simp⟩
          simp only [spec_PlaceOk.l1]
          rw [if_pos (by omega), if_pos (by omega), if_pos (by omega), hw2, rd45_at ts i hil, rd45_at ts (i - 1) (by omega), wrap64_small ts[i].f1 (by omega) (by omega), if_neg c1, if_pos (by omega), if_pos (by omega), if_pos (by omega), if_pos c2]
        · refine ⟨b, Ev.succ hb (fun k => ?_), fun h => ⟨fun j h1 h2 => ?_, (hbt h).2⟩⟩
          · simp only [spec_PlaceOk.l1]
            rw [if_pos (by omega), if_pos (by omega), if_pos (by omega), hw2, rd45_at ts i hil, rd45_at ts (i - 1) (by omega), wrap64_small ts[i].f1 (by omega) (by omega), if_neg c1, if_pos (by omega), if_pos (by omega), if_pos (by omega), if_neg c2, hw]
          · rcases Nat.eq_or_lt_of_le h1 with h3 | h3
            · subst h3; exact ⟨by omega, fun h => by omega⟩
            · exact (hbt h).1 j h3 h2
theorem place_l0 (zs : List S27) (ts : List S45) (hzs : zs.length ≤ 2147483647) (hts : ts.length ≤ 2147483647) (hu : ∀ t ∈ ts, 0 ≤ t.f1 ∧ t.f1 ≤ 255) (nm ext : ByteArray) : ∀ d i : Nat, i + d = zs.length →
    ∃ b, Ev (fun k => spec_PlaceOk.l0 k zs (zs.length : Int) (i : Int) nm zs ts ext) b ∧ (b = true → (∀ j, i ≤ j → (hj : j < zs.length) → -2147483647 ≤ zs[j].f1 ∧ zs[j].f1 ≤ 2147483647) ∧ TransOk zs ts ∧ 1 ≤ zs.length ∧ zs.length ≤ 200 ∧ ts.length ≤ 1000) := by
  intro d
  induction d with
  | zero =>
    intro i hi
    obtain ⟨b, hb, hbt⟩ := place_l1 zs ts hts hu nm ext ts.length 0 (by omega)
    refine ⟨b, Ev.succ hb (fun k => ?_), fun h => ⟨fun j h1 h2 => by omega, ⟨fun j hj => ((hbt h).1 j (by omega) hj).1, fun j hj => ?_⟩, (hbt h).2⟩⟩
    · simp only [spec_PlaceOk.l0]
      rw [if_neg (by omega)]
      rfl
    · have := ((hbt h).1 (j + 1) (by omega) hj).2 (by omega)
      simpa using this
  | succ d ih =>
    intro i hi
    obtain ⟨b, hb, hbt⟩ := ih (i + 1) (by omega)
    have hil : i < zs.length := by omega
    have hw : wrap64 ((i : Int) + 1) = ((i + 1 : Nat) : Int) := by rw [wrap64_small _ (by omega) (by omega)]; rfl
    obtain ⟨c, hc, hct⟩ := within zs[i].f1 (-2147483647) 2147483647
    have hstep : ∀ k, spec_PlaceOk.l0 (k + 1) zs (zs.length : Int) (i : Int) nm zs ts ext = if c = true then spec_PlaceOk.l0 k zs (zs.length : Int) ((i + 1 : Nat) : Int) nm zs ts ext else some false := by
      intro k
      simp only [spec_PlaceOk.l0]
      rw [if_pos (by omega), if_pos (by omega), if_pos (by omega), rd27_at zs i hil, hc, hw]
      rfl
    cases c with
    | false => exact ⟨false, Ev.succ (g := fun _ => some false) (Ev.of fun _ => rfl) hstep, by simp⟩
    | true =>
      refine ⟨b, Ev.succ hb hstep, fun h => ⟨fun j h1 h2 => ?_, (hbt h).2⟩⟩
      rcases Nat.eq_or_lt_of_le h1 with h3 | h3
      · subst h3; exact hct.mp rfl
      · exact (hbt h).1 j h3 h2

/-- A place that is one. -/
structure PlaceGood (zs : List S27) (ts : List S45) : Prop where
  offs : OffsOk zs
  trans : TransOk zs ts
  z1 : 1 ≤ zs.length
  z2 : zs.length ≤ 200
  t2 : ts.length ≤ 1000
theorem placeok (zs : List S27) (ts : List S45) (hzs : zs.length ≤ 2147483647) (hts : ts.length ≤ 2147483647) (hu : ∀ t ∈ ts, 0 ≤ t.f1 ∧ t.f1 ≤ 255) (nm ext : ByteArray) :
    ∃ b, Ev (fun k => spec_PlaceOk.f k nm zs ts ext) b ∧ (b = true → PlaceGood zs ts) := by
  obtain ⟨b, hb, hbt⟩ := place_l0 zs ts hzs hts hu nm ext zs.length 0 (by omega)
  exact ⟨b, hb, fun h => ⟨fun j hj => (hbt h).1 j (by omega) hj, (hbt h).2.1, (hbt h).2.2.1, (hbt h).2.2.2.1, (hbt h).2.2.2.2⟩⟩

/-! ### a file -/
def nsum (zs : List S27) : Nat := (zs.map fun z => z.f0.size + 1).sum
def NoNul (s : ByteArray) : Prop := ∀ j : Nat, j < s.size → bt s j ≠ 0

theorem file_l3 (zs : List S27) (ts : List S45) (hzs : zs.length ≤ 2147483647) (hts : ts.length ≤ 2147483647) (hu : ∀ t ∈ ts, 0 ≤ t.f1 ∧ t.f1 ≤ 255) (nm ext : ByteArray) (he : ext.size ≤ 2147483647) (n : Int) : ∀ d i : Nat, i + d = ext.size →
    ∃ b, Ev (fun k => spec_FileOk.l3 k n (i : Int) nm zs ts ext) b ∧ (b = true → n ≤ 255 ∧ PlaceGood zs ts) := by
  intro d
  induction d with
  | zero =>
    intro i hi
    obtain ⟨b, hb, hbt⟩ := placeok zs ts hzs hts hu nm ext
    by_cases hn : n ≤ 255
    · refine ⟨b, Ev.succ hb (fun k => ?_), fun h => ⟨hn, hbt h⟩⟩
      simp only [spec_FileOk.l3]
      rw [if_neg (by omega), if_pos hn]
      cases spec_PlaceOk.f k nm zs ts ext <;> rfl
    · refine ⟨false, Ev.succ (g := fun _ => some false) (Ev.of fun _ => rfl) (fun k => ?_), by simp⟩
      simp only [spec_FileOk.l3]
      rw [if_neg (by omega), if_neg hn]
  | succ d ih =>
    intro i hi
    obtain ⟨b, hb, hbt⟩ := ih (i + 1) (by omega)
    have hw : wrap64 ((i : Int) + 1) = ((i + 1 : Nat) : Int) := by rw [wrap64_small _ (by omega) (by omega)]; rfl
    by_cases hc : bt ext i = 10
    · refine ⟨false, Ev.succ (g := fun _ => some false) (Ev.of fun _ => rfl) (fun k => ?_), by simp⟩
      simp only [spec_FileOk.l3]
      rw [if_pos (by omega), if_pos (by omega), if_pos hc]
    · refine ⟨b, Ev.succ hb (fun k => ?_), hbt⟩
      simp only [spec_FileOk.l3]
      rw [if_pos (by omega), if_pos (by omega), if_neg hc, hw]
theorem file_l2 (zs : List S27) (ts : List S45) (hzs : zs.length ≤ 2147483647) (hts : ts.length ≤ 2147483647) (hu : ∀ t ∈ ts, 0 ≤ t.f1 ∧ t.f1 ≤ 255) (nm ext : ByteArray) (he : ext.size ≤ 2147483647) (n : Int) : ∀ d i : Nat, i + d = ts.length →
    ∃ b, Ev (fun k => spec_FileOk.l2 k false n ts (ts.length : Int) (i : Int) nm zs ts ext) b ∧ (b = true → n ≤ 255 ∧ PlaceGood zs ts) := by
  intro d
  induction d with
  | zero =>
    intro i hi
    obtain ⟨b, hb, hbt⟩ := file_l3 zs ts hzs hts hu nm ext he n ext.size 0 (by omega)
    refine ⟨b, Ev.succ hb (fun k => ?_), hbt⟩
    simp only [spec_FileOk.l2]
    rw [if_neg (by omega)]
    rfl
  | succ d ih =>
    intro i hi
    obtain ⟨b, hb, hbt⟩ := ih (i + 1) (by omega)
    have hw : wrap64 ((i : Int) + 1) = ((i + 1 : Nat) : Int) := by rw [wrap64_small _ (by omega) (by omega)]; rfl
    refine ⟨b, Ev.succ hb (fun k => ?_), hbt⟩
    simp only [spec_FileOk.l2]
    rw [if_pos (by omega), if_pos (by omega), if_pos (by omega), if_neg (by decide), hw]
theorem file_l1 (zs : List S27) (ts : List S45) (nm ext : ByteArray) (n : Int) (z : Nat) (s : ByteArray) (hs : s.size ≤ 2147483647) (o : Int) (dd : Bool) (b : Bool) (hnext : Ev (fun k => spec_FileOk.l0 k false n zs (zs.length : Int) (wrap64 ((z : Int) + 1)) nm zs ts ext) b) : ∀ d i : Nat, i + d = s.size →
    ∃ b', Ev (fun k => spec_FileOk.l1 k false n (i : Int) zs (zs.length : Int) (z : Int) nm zs ts ext s o dd) b' ∧ (b' = true → b = true ∧ ∀ j, i ≤ j → j < s.size → bt s j ≠ 0) := by
  intro d
  induction d with
  | zero =>
    intro i hi
    refine ⟨b, Ev.succ hnext (fun k => ?_), fun h => ⟨h, fun j h1 h2 => by omega⟩⟩
    simp only [spec_FileOk.l1]
    rw [if_neg (by omega)]
  | succ d ih =>
    intro i hi
    obtain ⟨b2, hb, hbt⟩ := ih (i + 1) (by omega)
    have hw : wrap64 ((i : Int) + 1) = ((i + 1 : Nat) : Int) := by rw [wrap64_small _ (by omega) (by omega)]; rfl
    by_cases hc : bt s i = 0
    · refine ⟨false, Ev.succ (g := fun _ => some false) (Ev.of fun _ => rfl) (fun k => ?_), by simp⟩
      simp only [spec_FileOk.l1]
      rw [if_pos (by omega), if_pos (by omega), if_pos hc]
    · refine ⟨b2, Ev.succ hb (fun k => ?_), fun h => ⟨(hbt h).1, fun j h1 h2 => ?_⟩⟩
      · simp only [spec_FileOk.l1]
        rw [if_pos (by omega), if_pos (by omega), if_neg hc, hw]
      · rcases Nat.eq_or_lt_of_le h1 with h3 | h3
        · subst h3; exact hc
        · exact (hbt h).2 j h3 h2
theorem file_l0 (zs : List S27) (ts : List S45) (hzs : zs.length ≤ 2147483647) (hts : ts.length ≤ 2147483647) (hu : ∀ t ∈ ts, 0 ≤ t.f1 ∧ t.f1 ≤ 255) (nm ext : ByteArray) (he : ext.size ≤ 2147483647) (hz : ∀ j (hj : j < zs.length), zs[j].f0.size ≤ 2147483647) : ∀ d i : Nat, i + d = zs.length → ∀ n : Int, 0 ≤ n → n ≤ i * 2147483648 →
    ∃ b, Ev (fun k => spec_FileOk.l0 k false n zs (zs.length : Int) (i : Int) nm zs ts ext) b ∧ (b = true → (∀ j, i ≤ j → (hj : j < zs.length) → NoNul zs[j].f0) ∧ n + (nsum (zs.drop i) : Int) ≤ 255 ∧ PlaceGood zs ts) := by
  intro d
  induction d with
  | zero =>
    intro i hi n hn0 hn1
    obtain ⟨b, hb, hbt⟩ := file_l2 zs ts hzs hts hu nm ext he n ts.length 0 (by omega)
    refine ⟨b, Ev.succ hb (fun k => ?_), fun h => ⟨fun j h1 h2 => by omega, ?_, (hbt h).2⟩⟩
    · simp only [spec_FileOk.l0]
      rw [if_neg (by omega)]
      rfl
    · have := (hbt h).1
      rw [List.drop_of_length_le (by omega)]
      simpa [nsum] using this
  | succ d ih =>
    intro i hi n hn0 hn1
    have hil : i < zs.length := by omega
    have hsz := hz i hil
    have hw1 : wrap64 ((zs[i].f0.size : Int) + 1) = (zs[i].f0.size : Int) + 1 := wrap64_small _ (by omega) (by omega)
    have hw2 : wrap64 (n + ((zs[i].f0.size : Int) + 1)) = n + ((zs[i].f0.size : Int) + 1) := wrap64_small _ (by omega) (by omega)
    have hw : wrap64 ((i : Int) + 1) = ((i + 1 : Nat) : Int) := by rw [wrap64_small _ (by omega) (by omega)]; rfl
    obtain ⟨b, hb, hbt⟩ := ih (i + 1) (by omega) (n + ((zs[i].f0.size : Int) + 1)) (by omega) (by omega)
    rw [← hw] at hb
    obtain ⟨b2, hb2, hbt2⟩ := file_l1 zs ts nm ext (n + ((zs[i].f0.size : Int) + 1)) i zs[i].f0 hsz zs[i].f1 zs[i].f2 b hb zs[i].f0.size 0 (by omega)
    refine ⟨b2, Ev.succ hb2 (fun k => ?_), fun h => ?_⟩
    · simp only [spec_FileOk.l0]
      rw [if_pos (by omega), if_pos (by omega), if_pos (by omega), rd27_at zs i hil, hw1, hw2]
      rfl
    · obtain ⟨h1, h2⟩ := hbt2 h
      obtain ⟨g1, g2, g3⟩ := hbt h1
      refine ⟨fun j h3 h4 => ?_, ?_, g3⟩
      · rcases Nat.eq_or_lt_of_le h3 with h5 | h5
        · subst h5; exact fun j hj => h2 j (by omega) hj
        · exact g1 j h5 h4
      · rw [List.drop_eq_getElem_cons hil]
        simp only [nsum, List.map_cons, List.sum_cons] at g2 ⊢
        push_cast at g2 ⊢
        omega
/-- A place that a file can tell. -/
structure FileGood (zs : List S27) (ts : List S45) : Prop where
  nul : ∀ j (hj : j < zs.length), NoNul zs[j].f0
  sum : nsum zs ≤ 255
  place : PlaceGood zs ts
theorem fileok (zs : List S27) (ts : List S45) (hzs : zs.length ≤ 2147483647) (hts : ts.length ≤ 2147483647) (hu : ∀ t ∈ ts, 0 ≤ t.f1 ∧ t.f1 ≤ 255) (nm ext : ByteArray) (he : ext.size ≤ 2147483647) (hz : ∀ j (hj : j < zs.length), zs[j].f0.size ≤ 2147483647) :
    ∃ b, Ev (fun k => spec_FileOk.f k nm zs ts ext false) b ∧ (b = true → FileGood zs ts) := by
  obtain ⟨b, hb, hbt⟩ := file_l0 zs ts hzs hts hu nm ext he hz zs.length 0 (by omega) 0 (by omega) (by omega)
  refine ⟨b, hb, fun h => ?_⟩
  obtain ⟨h1, h2, h3⟩ := hbt h
  refine ⟨fun j hj => h1 j (by omega) hj, ?_, h3⟩
  rw [List.drop_zero] at h2
  omega
end Go.Proofs.YtjoaeennbfmohaaDoor
