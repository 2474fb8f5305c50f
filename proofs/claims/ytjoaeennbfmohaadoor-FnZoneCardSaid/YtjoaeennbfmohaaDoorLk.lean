/- The walk of (Location).lookup: ahead of the first transition, and from one on. Conditions: the transitions are in order, the place lies in memory. -/
import Derived.Test.YtjoaeennbfmohaaDoorFz
import Derived.Outline
import Derived.Deep.DeepMust
import Derived.Deep.QuietTactic
import Derived.BigQuiet
namespace Go.Proofs.YtjoaeennbfmohaaDoor
open Go.RowKit Go.Proofs.YtjoaeennbfmohaaDoorW.PrintWords Go.Proofs.YtjoaeennbfmohaaDoorW.PrintLast Go.Proofs.YtjoaeennbfmohaaDoorW.PrintMore Go.Proofs.YtjoaeennbfmohaaDoor.PFnZone
set_option linter.unusedVariables false
set_option linter.unusedSimpArgs false

theorem firstZ_lt (zs : List S27) (ts : List S45) (h : 0 < zs.length) (hix : ∀ t ∈ ts, 0 ≤ t.f1 ∧ t.f1 < zs.length) : firstZ zs ts < zs.length := by
  have hu := upZ_lt zs zs.length 0 (by omega) h
  unfold firstZ
  split
  · exact h
  · split
    · exact hu
    · rename_i t r _
      split
      · cases hd : downZ zs t.f1.toNat with
        | none => exact hu
        | some n =>
          have h1 := downZ_lt zs _ _ hd
          have h2 := hix t (by simp)
          show n < zs.length
          omega
      · exact hu
theorem get_calls (g : Nat) (w : World) : Calls Tryd.prog 53 #[.pointer (some ⟨g, 0, none⟩)] w fun e w' => e = .returned (.pointer (some ⟨g, 0, none⟩)) ∧ w' = w := by
  go_enter Tryd.func53, Tryd.ntmps53
  go_wp2
  go_ret
  exact ⟨rfl, rfl⟩

/-- A zone as lookup tells it. -/
def ToldZone (z : S27) (w : World) (e : Ending) (w' : World) : Prop :=
  ∃ st en : Int, e = .returned (.tuple #[.string z.f0, .int .i64 z.f1, .int .i64 st, .int .i64 en, .bool z.f2]) ∧ Below w.heap.size w w'

set_option maxRecDepth 100000 in
set_option maxHeartbeats 4000000 in
theorem lookup_first (g : Nat) (nm : ByteArray) (zs : List S27) (ts : List S45) (ext : ByteArray) (Az : Option Addr) (cz : Nat) (At : Option Addr) (ct : Nat) (w : World) (hL : LocAt w g nm zs ts ext Az cz At ct)
    (hix : ∀ t ∈ ts, 0 ≤ t.f1 ∧ t.f1 < zs.length) (ht1 : 1 ≤ ts.length) (sec : Int) (hsec : sec < ts[0].f0) :
    Calls Tryd.prog 46 #[.pointer (some ⟨g, 0, none⟩), .int .i64 sec] w (ToldZone (zs.getD (firstZ zs ts) z27) w) := by
  have HL := Aside0.mk hL
  have HIX := Aside0.mk hix
  have hzl : zs.length ≤ 9223372036854775807 := hL.rz.2.1
  have htl : ts.length ≤ 9223372036854775807 := hL.rt.2.1
  have hzp : 0 < zs.length := by
    have := hix ts[0] (List.getElem_mem _)
    omega
  obtain ⟨ad, hA, x0, x1, x2, x3⟩ := ReadsRow.at4 hL.rt (Below.refl _ _) 0 (by omega)
  subst hA
  simp only [Nat.zero_mul, add_nought] at x0 x1 x2 x3
  have h2 := hL.c2
  have h3 := hL.c3
  have h7 := hL.c7
  have hzz : ((zs.length : Int) == 0) = false := beq_eq_false_iff_ne.mpr (by omega)
  have htt : ((ts.length : Int) == 0) = false := beq_eq_false_iff_ne.mpr (by omega)
  have htt2 : (0 : Int) < (ts.length : Int) := by omega
  have hlt : decide (sec < ts[0].f0) = true := by simpa using hsec
  clear hL hix
  generalize ts[0].f0 = s0 at x0 hsec hlt
  go_enter Tryd.func46, Tryd.ntmps46
  go_wp2_with fail
  refine (get_calls g w).mono ?_
  rintro e w1 ⟨rfl, rfl⟩
  go_wp2_with fail
  obtain ⟨j, hj⟩ : ∃ j, firstZ zs ts = j := ⟨_, rfl⟩
  have hjl : j < zs.length := by
    rw [← hj]
    exact firstZ_lt zs ts hzp HIX.out
  refine start_ (n := 8) (S := fun w' => w'.cell? ⟨g, 2, none⟩ = some (.slice Az zs.length cz)) (ds := []) #[false, false, false, false, false, false, false, false] (by kernel_rfl) rfl rfl h2 (fun hHeld => ?_)
  refine pure_ (i := 0) (N := some 90) (v := ?_) (a' := ?_) #[true, false, false, false, false, false, false, false] rfl rfl (by kernel_rfl) (fun _ _ _ h => h) (Or.inl ⟨by rfl, ?_⟩) ?_ ?_
  rotate_left
  · intro w'
    go_simp
    with_reducible rfl
  rotate_left
  · simp only [Act.put, List.setIfInBounds_toArray, List.set_cons_zero, List.set_cons_succ, i64_w, i32_w]
    rfl
  refine pure_ (i := 1) (N := some 91) (v := ?_) (a' := ?_) #[true, true, false, false, false, false, false, false] rfl rfl (by kernel_rfl) (fun _ _ _ h => h) (Or.inl ⟨by rfl, ?_⟩) ?_ ?_
  rotate_left
  · intro w'
    go_simp
    with_reducible rfl
  rotate_left
  · simp only [Act.put, List.setIfInBounds_toArray, List.set_cons_zero, List.set_cons_succ, i64_w, i32_w]
    rfl
  refine pure_ (i := 2) (N := some 92) (v := ?_) (a' := ?_) #[true, true, true, false, false, false, false, false] rfl rfl (by kernel_rfl) (fun _ _ _ h => h) (Or.inl ⟨by rfl, ?_⟩) ?_ ?_
  rotate_left
  · intro w'
    go_simp
    with_reducible rfl
  rotate_left
  · simp only [Act.put, List.setIfInBounds_toArray, List.set_cons_zero, List.set_cons_succ, i64_w, i32_w]
    rfl
  refine take_ (i := 3) (N := some 93) (v := ?_) (a' := ?_) #[true, true, true, true, false, false, false, false] rfl rfl (by kernel_rfl) (fun _ _ _ h => h) (Or.inl ⟨by rfl, ?_⟩) hHeld ?_ ?_
  rotate_left
  · rintro w' s0
    go_simp
    with_reducible rfl
  rotate_left
  · simp only [Act.put, List.setIfInBounds_toArray, List.set_cons_zero, List.set_cons_succ, i64_w, i32_w]
    rfl
  refine pure_ (i := 4) (N := some 94) (v := ?_) (a' := ?_) #[true, true, true, true, true, false, false, false] rfl rfl (by kernel_rfl) (fun _ _ _ h => h) (Or.inl ⟨by rfl, ?_⟩) ?_ ?_
  rotate_left
  · intro w'
    go_simp
    with_reducible rfl
  rotate_left
  · simp only [Act.put, List.setIfInBounds_toArray, List.set_cons_zero, List.set_cons_succ, i64_w, i32_w]
    rfl
  refine one_ (i := 5) (N := some 95) #[true, true, true, true, true, true, false, false] rfl rfl (by kernel_rfl) (by decide) (fun K hK => ?_)
  refine goes_ Tryd.func51 (by kernel_rfl) rfl #[.pointer (some ⟨g, 0, none⟩)] (by rfl) rfl rfl (by simp only [List.map_toArray, List.map_cons, List.map_nil]; rfl) ?_
  refine (first_calls g nm zs ts ext Az cz (some ad) ct _ (HL.out.below (pw_below_drewN (Below.refl _ _) 1)) HIX.out ht1).mono ?_
  rintro e w2 ⟨rfl, hb⟩
  refine ⟨_, rfl, ?_⟩
  have HB2 := Aside0.mk ((pw_below_drewN (Below.refl w1.heap.size w1) 1).trans hb)
  have HL2 := Aside0.mk (HL.out.below HB2.out)
  clear hb
  refine hK.out _ _ HL2.out.c2 (fun hHeld => ?_)
  clear hK K h2 h3 h7 x0 x1 x2 x3
  rw [hj]
  obtain ⟨az, hAz, y0, y1, y2⟩ := ReadsRow.at3 HL2.out.rz (Below.refl _ _) j hjl
  subst hAz
  refine norm_ (a' := ?_) ?_ ?_
  rotate_left
  · show Act.put _ _ _ = _
    simp only [Act.put, List.setIfInBounds_toArray, List.set_cons_zero, List.set_cons_succ, i64_w, i32_w]
    rfl
  refine pure_ (i := 6) (N := some 96) (v := ?_) (a' := ?_) #[true, true, true, true, true, true, true, false] rfl rfl (by kernel_rfl) (fun _ _ _ h => h) (Or.inl ⟨by rfl, ?_⟩) ?_ ?_
  rotate_left
  · intro w'
    go_simp
    with_reducible rfl
  rotate_left
  · simp only [Act.put, List.setIfInBounds_toArray, List.set_cons_zero, List.set_cons_succ, i64_w, i32_w]
    rfl
  refine pure_ (i := 7) (N := some 10) (v := ?_) (a' := ?_) #[true, true, true, true, true, true, true, true] rfl rfl (by kernel_rfl) (fun _ _ _ h => h) (Or.inl ⟨by rfl, ?_⟩) ?_ ?_
  rotate_left
  · intro w'
    go_simp
    with_reducible rfl
  rotate_left
  · simp only [Act.put, List.setIfInBounds_toArray, List.set_cons_zero, List.set_cons_succ, i64_w, i32_w]
    rfl
  refine done_ (by kernel_rfl) ?_
  obtain ⟨ad2, hA2, x0, x1, x2, x3⟩ := ReadsRow.at4 HL2.out.rt (Below.refl _ _) 0 (by omega)
  injection hA2 with hA2
  subst hA2
  simp only [Nat.zero_mul, add_nought] at x0 x1 x2 x3
  have h3 := HL2.out.c3
  have hz : zs.getD j z27 = zs[j] := getD_at zs j hjl
  generalize hzj : zs[j] = z at y0 y1 y2 hz
  generalize ts[0].f0 = en at x0
  go_wp2
  exact bodyPost_ret (v := .tuple #[.string z.f0, .int .i64 z.f1, .int .i64 (-9223372036854775808), .int .i64 en, .bool z.f2]) (by simp [results, Tryd.results46, go_sem]) rfl ⟨-9223372036854775808, en, by rw [hj, hz], HB2.out⟩

set_option maxRecDepth 100000 in
set_option maxHeartbeats 4000000 in
theorem lookup_found (g : Nat) (nm : ByteArray) (zs : List S27) (ts : List S45) (ext : ByteArray) (Az : Option Addr) (cz : Nat) (At : Option Addr) (ct : Nat) (w : World) (hL : LocAt w g nm zs ts ext Az cz At ct)
    (hix : ∀ t ∈ ts, 0 ≤ t.f1 ∧ t.f1 < zs.length) (htn : ts.length ≤ 100000) (sec : Int) (hord : ∀ a b (ha : a < ts.length) (hb : b < ts.length), a < b → ts[a].f0 < ts[b].f0) (j : Nat) (hj : j < ts.length) (hj0 : ts[j].f0 ≤ sec) (hj1 : ∀ h : j + 1 < ts.length, sec < ts[j + 1].f0)
    (zr : S27) (hlast : j + 1 < ts.length → zr = zs.getD ts[j].f1.toNat z27)
    (hext : j + 1 = ts.length → ext.toList.isEmpty = false ∧ ∀ w1, Calls Tryd.prog 54 #[.string ext, .int .i64 ts[j].f0, .int .i64 sec] w1 fun e w' => (∃ st en : Int, e = .returned (.tuple #[.string zr.f0, .int .i64 zr.f1, .int .i64 st, .int .i64 en, .bool zr.f2, .bool true])) ∧ Below w1.heap.size w1 w') :
    Calls Tryd.prog 46 #[.pointer (some ⟨g, 0, none⟩), .int .i64 sec] w (ToldZone zr w) := by
  have HL := Aside0.mk hL
  have HIX := Aside0.mk hix
  have HORD := Aside0.mk hord
  have HEXT := Aside0.mk hext
  have HLAST := Aside0.mk hlast
  have hzl : zs.length ≤ 9223372036854775807 := hL.rz.2.1
  have hzp : 0 < zs.length := by
    have := hix ts[j] (List.getElem_mem _)
    omega
  have hs0 : ¬ (sec < ts[0].f0) := by
    rcases Nat.eq_zero_or_pos j with h | h
    · subst h; omega
    · have := hord 0 j (by omega) hj h
      omega
  have hcmp : ∀ m (hm : m < ts.length), sec < ts[m].f0 ↔ j < m := by
    intro m hm
    constructor
    · intro h
      rcases Nat.lt_trichotomy m j with h1 | h1 | h1
      · have := hord m j hm hj h1; omega
      · subst h1; omega
      · exact h1
    · intro h
      rcases Nat.lt_or_ge (j + 1) m with h1 | h1
      · have h2 := hj1 (by omega)
        have h3 := hord (j + 1) m (by omega) hm h1
        omega
      · obtain rfl : m = j + 1 := by omega
        exact hj1 hm
  have HCMP := Aside0.mk hcmp
  clear hcmp hj1 hord hix hext hlast
  have htp : 0 < ts.length := by omega
  obtain ⟨ad, hA, x0, x1, x2, x3⟩ := ReadsRow.at4 hL.rt (Below.refl _ _) 0 htp
  subst hA
  simp only [Nat.zero_mul, add_nought] at x0 x1 x2 x3
  have h2 := hL.c2
  have h3 := hL.c3
  have h7 := hL.c7
  have hzz : ((zs.length : Int) == 0) = false := beq_eq_false_iff_ne.mpr (by omega)
  have htt : ((ts.length : Int) == 0) = false := beq_eq_false_iff_ne.mpr (by omega)
  have htt2 : (0 : Int) < (ts.length : Int) := by omega
  have hlt : decide (sec < ts[0].f0) = false := by simpa using hs0
  clear hL
  generalize ts[0].f0 = s0 at x0 hs0 hlt
  go_enter Tryd.func46, Tryd.ntmps46
  go_wp2_with fail
  refine (get_calls g w).mono ?_
  rintro e w1 ⟨rfl, rfl⟩
  go_wp2_with fail
  clear x0 x1 x2 x3 h2 h3 h7 hlt hzz htt
  go_loopw [7, 12, 13] (fun te tlo thi wr => ∃ (lo hi : Nat) (en : Int), lo ≤ j ∧ j < hi ∧ hi ≤ ts.length ∧ te = .int .i64 en ∧ tlo = .int .i64 lo ∧ thi = .int .i64 hi ∧ wr = w1) (fun te tlo thi _ => (intOf thi - intOf tlo).toNat)
  case atStart => exact ⟨0, ts.length, _, by omega, hj, Nat.le_refl _, rfl, rfl, rfl, rfl⟩
  case round =>
    obtain ⟨lo, hi, en, h1, h2, h3, rfl, rfl, rfl, rfl⟩ := hrel
    by_cases hlt : lo + 1 < hi
    · have hm : (lo + hi) / 2 < ts.length := by omega
      obtain ⟨ad2, hA2, x0, x1, x2, x3⟩ := ReadsRow.at4 HL.out.rt (Below.refl _ _) ((lo + hi) / 2) hm
      injection hA2 with hA2
      subst hA2
      have hc := HCMP.out _ hm
      generalize ts[(lo + hi) / 2].f0 = lim at x0 hc
      have hmid : (((lo + hi) / 2 : Nat) : Int) = ((lo : Int) + (hi : Int)) / 2 := by omega
      by_cases hsl : sec < lim
      · have hd : decide (sec < lim) = true := by simpa using hsl
        have hc2 := hc.mp hsl
        go_wp2
        refine ⟨⟨lo, (lo + hi) / 2, lim, h1, hc2, by omega, rfl, rfl, by rw [hmid], by first | rfl | trivial⟩, ?_⟩
        show (((lo : Int) + (hi : Int)) / 2 - (lo : Int)).toNat < ((hi : Int) - (lo : Int)).toNat
        omega
      · have hd : decide (sec < lim) = false := by simpa using hsl
        have hc2 : (lo + hi) / 2 ≤ j := by
          rcases Nat.lt_or_ge j ((lo + hi) / 2) with h | h
          · exact absurd (hc.mpr h) hsl
          · exact h
        go_wp2
        refine ⟨⟨(lo + hi) / 2, hi, en, hc2, h2, h3, rfl, by rw [hmid], rfl, by first | rfl | trivial⟩, ?_⟩
        show ((hi : Int) - ((lo : Int) + (hi : Int)) / 2).toNat < ((hi : Int) - (lo : Int)).toNat
        omega
    · obtain rfl : lo = j := by omega
      obtain rfl : hi = lo + 1 := by omega
      clear hlt h1 h2 HCMP HORD
      obtain ⟨hi0, hi1⟩ := HIX.out ts[lo] (List.getElem_mem _)
      obtain ⟨n0, hn0⟩ : ∃ n0 : Nat, ts[lo].f1 = n0 := ⟨ts[lo].f1.toNat, by omega⟩
      rw [hn0] at hi0 hi1
      have hn0l : n0 < zs.length := by omega
      obtain ⟨az, hAz, y0, y1, y2⟩ := ReadsRow.at3 HL.out.rz (Below.refl _ _) n0 hn0l
      subst hAz
      obtain ⟨ad2, hA2, x0, x1, x2, x3⟩ := ReadsRow.at4 HL.out.rt (Below.refl _ _) lo hj
      injection hA2 with hA2
      subst hA2
      rw [hn0] at x1
      have k2 := HL.out.c2
      have k4 := HL.out.c4
      generalize hzn : zs[n0] = z at y0 y1 y2
      generalize hts : ts[lo].f0 = s1 at x0 HEXT
      go_wp2_with fail
      go_quiet (fail)
      have HB2 := Aside0.mk (below_drewN' (Below.refl wr.heap.size wr) nq)
      have HL2 := Aside0.mk (HL.out.below HB2.out)
      obtain ⟨w2, hw2⟩ : ∃ w2, wr.drewN nq = w2 := ⟨_, rfl⟩
      rw [hw2] at HB2 HL2 ⊢
      clear hw2
      obtain ⟨az2, hAz2, y0, y1, y2⟩ := ReadsRow.at3 HL2.out.rz (Below.refl _ _) n0 hn0l
      injection hAz2 with hAz2
      subst hAz2
      obtain ⟨ad2, hA2, x0, x1, x2, x3⟩ := ReadsRow.at4 HL2.out.rt (Below.refl _ _) lo hj
      injection hA2 with hA2
      subst hA2
      rw [hzn] at y0 y1 y2
      rw [hts] at x0
      have k2 := HL2.out.c2
      have k4 := HL2.out.c4
      by_cases hlast : lo + 1 = ts.length
      · have hq : ((lo : Int) == (ts.length : Int) - 1) = true := by simp; omega
        obtain ⟨hne, hcall⟩ := HEXT.out hlast
        go_wp2_with fail
        refine (hcall w2).mono ?_
        rintro e w3 ⟨⟨st, en2, rfl⟩, hb3⟩
        have HB3 := Aside0.mk (HB2.out.trans (hb3.mono HB2.out.size))
        clear hb3 hcall
        go_wp2
        exact bodyPost_ret (v := .tuple #[.string zr.f0, .int .i64 zr.f1, .int .i64 st, .int .i64 en2, .bool zr.f2]) (by simp [results, Tryd.results46, go_sem]) rfl ⟨st, en2, rfl, HB3.out⟩
      · have hq : ((lo : Int) == (ts.length : Int) - 1) = false := by simp; omega
        have hzr := HLAST.out (by omega)
        rw [hn0, Int.toNat_natCast, getD_at zs n0 hn0l, hzn] at hzr
        subst hzr
        go_wp2
        exact bodyPost_ret (v := .tuple #[.string zr.f0, .int .i64 zr.f1, .int .i64 s1, .int .i64 en, .bool zr.f2]) (by simp [results, Tryd.results46, go_sem]) rfl ⟨s1, en, rfl, HB2.out⟩
end Go.Proofs.YtjoaeennbfmohaaDoor
