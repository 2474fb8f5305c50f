/- Plain law: the specification's Lookup finds the last transition up to a time. No program in sight. -/
import Derived.Test.YtjoaeennbfmohaaDoorV2
import Derived.Test.YtjoaeennbfmohaaDoorC13
namespace Go.Proofs.YtjoaeennbfmohaaDoor
open Go.RowKit Go.Proofs.YtjoaeennbfmohaaDoorW.PrintWords Go.Proofs.YtjoaeennbfmohaaDoor.PFnZone
set_option linter.unusedVariables false
set_option linter.unusedSimpArgs false

/-! ### spec.Lookup -/
theorem look_end (zs : List S27) (ts : List S45) (nm ext : ByteArray) (sec : Int) (hn : ts.length ≤ 1000) (x7 : Int) (hx0 : 0 ≤ x7) (hx1 : x7 < zs.length) (h : ∀ i, (hi : i < ts.length) → True) (a : ByteArray) (b c : Int) (d : Bool) : ∀ m i : Nat, i + m = ts.length → (∀ j, i ≤ j → (hj : j < ts.length) → sec < ts[j].f0) → ∀ st en : Int,
    ∃ st' en' : Int, Ev (fun k => spec_Lookup.l0 k sec x7 ts (ts.length : Int) (i : Int) nm zs ts ext a b st en d) ((rd_T27 zs x7).f0, (rd_T27 zs x7).f1, st', en', (rd_T27 zs x7).f2) := by
  intro m
  induction m with
  | zero =>
    intro i hi hlt st en
    refine ⟨st, en, Ev.succ (g := fun _ => some _) (Ev.of fun _ => rfl) (fun k => ?_)⟩
    simp only [spec_Lookup.l0]
    rw [if_neg (by omega), if_pos hx0, if_pos hx1]
  | succ m ih =>
    intro i hi hlt st en
    have hil : i < ts.length := by omega
    have hw : wrap64 ((i : Int) + 1) = ((i + 1 : Nat) : Int) := by rw [wrap64_small _ (by omega) (by omega)]; rfl
    have h1 := hlt i (by omega) hil
    by_cases c1 : en = 9223372036854775807
    · obtain ⟨st', en', h2⟩ := ih (i + 1) (by omega) (fun j h3 h4 => hlt j (by omega) h4) st ts[i].f0
      refine ⟨st', en', Ev.succ h2 (fun k => ?_)⟩
      simp only [spec_Lookup.l0]
      rw [if_pos (by omega), if_pos (by omega), if_pos (by omega), rd45_at ts i hil, if_neg (by omega), if_pos c1, hw]
    · obtain ⟨st', en', h2⟩ := ih (i + 1) (by omega) (fun j h3 h4 => hlt j (by omega) h4) st en
      refine ⟨st', en', Ev.succ h2 (fun k => ?_)⟩
      simp only [spec_Lookup.l0]
      rw [if_pos (by omega), if_pos (by omega), if_pos (by omega), rd45_at ts i hil, if_neg (by omega), if_neg c1, hw]
theorem asc {ts : List S45} (h : ∀ j (hj : j + 1 < ts.length), ts[j].f0 < ts[j + 1].f0) : ∀ a b (ha : a < ts.length) (hb : b < ts.length), a < b → ts[a].f0 < ts[b].f0 := by
  intro a b ha hb hab
  induction b with
  | zero => omega
  | succ b ih =>
    have h1 := h b hb
    rcases Nat.eq_or_lt_of_le (Nat.le_of_lt_succ hab) with h2 | h2
    · subst h2; exact h1
    · have := ih (by omega) h2; omega
theorem look_first (zs : List S27) (ts : List S45) (nm ext : ByteArray) (sec : Int) (hn : ts.length ≤ 1000) (h1 : 1 ≤ ts.length) (hord : ∀ a b (ha : a < ts.length) (hb : b < ts.length), a < b → ts[a].f0 < ts[b].f0) (hsec : sec < ts[0].f0) (first : Nat) (hf : first < zs.length) :
    ∃ st en : Int, Ev (fun k => spec_Lookup.f k nm zs ts ext (first : Int) sec) ((zs.getD first z27).f0, (zs.getD first z27).f1, st, en, (zs.getD first z27).f2) := by
  obtain ⟨st, en, h⟩ := look_end zs ts nm ext sec hn (first : Int) (by omega) (by omega) (fun _ _ => trivial) (⟨#[]⟩ : ByteArray) 0 0 false ts.length 0 (by omega) (fun j _ hj => by
    rcases Nat.eq_zero_or_pos j with h | h
    · subst h; exact hsec
    · have := hord 0 j (by omega) hj h; omega) (-9223372036854775808) 9223372036854775807
  exact ⟨st, en, h⟩
theorem look_run (zs : List S27) (ts : List S45) (nm ext : ByteArray) (sec : Int) (hn : ts.length ≤ 1000) (hord : ∀ a b (ha : a < ts.length) (hb : b < ts.length), a < b → ts[a].f0 < ts[b].f0) (j : Nat) (hj : j < ts.length) (hj0 : ts[j].f0 ≤ sec) (hj1 : ∀ h : j + 1 < ts.length, sec < ts[j + 1].f0)
    (hix : ∀ t ∈ ts, 0 ≤ t.f1 ∧ t.f1 ≤ 255 ∧ t.f1 < zs.length) (a : ByteArray) (b : Int) (d : Bool) : ∀ m i : Nat, i + m = j → ∀ x7 st en : Int,
    ∃ st' en' : Int, Ev (fun k => spec_Lookup.l0 k sec x7 ts (ts.length : Int) (i : Int) nm zs ts ext a b st en d) ((rd_T27 zs ts[j].f1).f0, (rd_T27 zs ts[j].f1).f1, st', en', (rd_T27 zs ts[j].f1).f2) := by
  intro m
  induction m with
  | zero =>
    intro i hi x7 st en
    obtain rfl : i = j := by omega
    obtain ⟨u0, u1, u2⟩ := hix ts[i] (List.getElem_mem _)
    have hw : wrap64 ((i : Int) + 1) = ((i + 1 : Nat) : Int) := by rw [wrap64_small _ (by omega) (by omega)]; rfl
    obtain ⟨st', en', h2⟩ := look_end zs ts nm ext sec hn ts[i].f1 u0 u2 (fun _ _ => trivial) a b 0 d (ts.length - (i + 1)) (i + 1) (by omega) (fun q h3 h4 => by
      rcases Nat.eq_or_lt_of_le h3 with h5 | h5
      · subst h5; exact hj1 h4
      · have h6 := hj1 (by omega)
        have := hord (i + 1) q (by omega) h4 h5
        omega) ts[i].f0 en
    refine ⟨st', en', Ev.succ h2 (fun k => ?_)⟩
    simp only [spec_Lookup.l0]
    rw [if_pos (by omega), if_pos (by omega), if_pos (by omega), rd45_at ts i hj, if_pos (by omega), hw, wrap64_small ts[i].f1 (by omega) (by omega)]
  | succ m ih =>
    intro i hi x7 st en
    have hil : i < ts.length := by omega
    have hw : wrap64 ((i : Int) + 1) = ((i + 1 : Nat) : Int) := by rw [wrap64_small _ (by omega) (by omega)]; rfl
    have h0 := hord i j hil hj (by omega)
    obtain ⟨st', en', h2⟩ := ih (i + 1) (by omega) (wrap64 ts[i].f1) ts[i].f0 en
    refine ⟨st', en', Ev.succ h2 (fun k => ?_)⟩
    simp only [spec_Lookup.l0]
    rw [if_pos (by omega), if_pos (by omega), if_pos (by omega), rd45_at ts i hil, if_pos (by omega), hw]
theorem look_found (zs : List S27) (ts : List S45) (nm ext : ByteArray) (sec : Int) (hn : ts.length ≤ 1000) (hord : ∀ a b (ha : a < ts.length) (hb : b < ts.length), a < b → ts[a].f0 < ts[b].f0) (j : Nat) (hj : j < ts.length) (hj0 : ts[j].f0 ≤ sec) (hj1 : ∀ h : j + 1 < ts.length, sec < ts[j + 1].f0)
    (hix : ∀ t ∈ ts, 0 ≤ t.f1 ∧ t.f1 ≤ 255 ∧ t.f1 < zs.length) (first : Int) :
    ∃ st en : Int, Ev (fun k => spec_Lookup.f k nm zs ts ext first sec) ((zs.getD ts[j].f1.toNat z27).f0, (zs.getD ts[j].f1.toNat z27).f1, st, en, (zs.getD ts[j].f1.toNat z27).f2) := by
  obtain ⟨st, en, h⟩ := look_run zs ts nm ext sec hn hord j hj hj0 hj1 hix (⟨#[]⟩ : ByteArray) 0 false j 0 (by omega) first (-9223372036854775808) 9223372036854775807
  exact ⟨st, en, h⟩
theorem find_j (ts : List S45) (sec : Int) (h1 : 1 ≤ ts.length) (h0 : ts[0].f0 ≤ sec) : ∃ j, ∃ hj : j < ts.length, ts[j].f0 ≤ sec ∧ ∀ h : j + 1 < ts.length, sec < ts[j + 1].f0 := by
  have key : ∀ d i : Nat, (hi : i + d + 1 = ts.length) → ts[i].f0 ≤ sec → ∃ j, ∃ hj : j < ts.length, ts[j].f0 ≤ sec ∧ ∀ h : j + 1 < ts.length, sec < ts[j + 1].f0 := by
    intro d
    induction d with
    | zero => exact fun i hi h => ⟨i, by omega, h, fun h2 => by omega⟩
    | succ d ih =>
      intro i hi h
      by_cases h2 : ts[i + 1].f0 ≤ sec
      · exact ih (i + 1) (by omega) h2
      · exact ⟨i, by omega, h, fun _ => by omega⟩
  exact key (ts.length - 1) 0 (by omega) h0
end Go.Proofs.YtjoaeennbfmohaaDoor
