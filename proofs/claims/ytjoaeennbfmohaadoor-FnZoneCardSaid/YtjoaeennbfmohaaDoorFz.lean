/- The walk of firstZoneUsed and lookupFirstZone. Conditions: the place lies in memory. -/
import Derived.Test.YtjoaeennbfmohaaDoorLs
import Derived.Outline
import Derived.Deep.DeepMust
import Derived.Deep.QuietTactic
import Derived.BigQuiet
namespace Go.Proofs.YtjoaeennbfmohaaDoor
open Go.RowKit Go.Proofs.YtjoaeennbfmohaaDoorW.PrintWords Go.Proofs.YtjoaeennbfmohaaDoorW.PrintLast Go.Proofs.YtjoaeennbfmohaaDoorW.PrintMore Go.Proofs.YtjoaeennbfmohaaDoor.PFnZone
set_option linter.unusedVariables false
set_option linter.unusedSimpArgs false

theorem add_nought (a : Addr) : a.add 0 = a := by rfl
/-- Is the first zone used by a transition? -/
def usedZ (ts : List S45) : Bool := ts.any fun t => decide (t.f1 = 0)
theorem usedZ_of (ts : List S45) (k : Nat) (hk : k < ts.length) (h : ts[k].f1 = 0) : usedZ ts = true :=
  List.any_eq_true.mpr ⟨ts[k], List.getElem_mem hk, by simpa using h⟩
theorem usedZ_not (ts : List S45) (h : ∀ k (hk : k < ts.length), ts[k].f1 ≠ 0) : usedZ ts = false := by
  cases hu : usedZ ts with
  | false => rfl
  | true =>
    obtain ⟨t, hm, ht⟩ := List.any_eq_true.mp hu
    obtain ⟨k, hk, rfl⟩ := List.getElem_of_mem hm
    exact absurd (by simpa using ht) (h k hk)

set_option maxRecDepth 100000 in
set_option maxHeartbeats 4000000 in
theorem used_calls (g : Nat) (nm : ByteArray) (zs : List S27) (ts : List S45) (ext : ByteArray) (Az : Option Addr) (cz : Nat) (At : Option Addr) (ct : Nat) (w : World) (hL : LocAt w g nm zs ts ext Az cz At ct) :
    Calls Tryd.prog 55 #[.pointer (some ⟨g, 0, none⟩)] w fun e w' => e = .returned (.bool (usedZ ts)) ∧ Below w.heap.size w w' := by
  have HL := Aside0.mk hL
  have HRT := Aside0.mk hL.rt
  have h3 := hL.c3
  have hlen : ts.length ≤ 9223372036854775807 := hL.rt.2.1
  clear hL
  go_enter Tryd.func55, Tryd.ntmps55
  go_wp2_with fail
  clear h3
  go_loopw [10] (fun t wr => ∃ (k : Nat), k ≤ ts.length ∧ t = .int .i64 k ∧ Aside0 (∀ j (hj : j < ts.length), j < k → ts[j].f1 ≠ 0) ∧ Aside0 (Below w.heap.size w wr)) (fun t _ => ts.length - (intOf t).toNat)
  case atStart => exact ⟨0, by omega, rfl, ⟨fun j _ h => absurd h (by omega)⟩, ⟨Below.refl _ _⟩⟩
  case round =>
    obtain ⟨k, hk, rfl, HN, HB⟩ := hrel
    by_cases hlt : k < ts.length
    · obtain ⟨ad, hA, x0, x1, x2, x3⟩ := ReadsRow.at4 HRT.out HB.out k hlt
      subst hA
      generalize hs : ts[k] = s at x0 x1 x2 x3
      have HS := Aside0.mk hs
      clear hs
      by_cases h0 : s.f1 = 0
      · have h0' : (s.f1 == 0) = true := by simpa using h0
        go_wp2
        go_ret
        exact ⟨by rw [usedZ_of ts k hlt (by rw [HS.out]; exact h0)]; rfl, HB.out.alloc HB.out.size _⟩
      · have h0' : (s.f1 == 0) = false := by simpa using h0
        go_wp2
        go_roundw
        case rel => exact ⟨k + 1, by omega, by go_num, ⟨fun j hj hjk => by
          rcases Nat.lt_or_ge j k with h | h
          · exact HN.out j hj h
          · obtain rfl : j = k := by omega
            rw [HS.out]; exact h0⟩, ⟨HB.out.alloc HB.out.size _⟩⟩
        case measure => simp [intOf]; omega
    · obtain rfl : k = ts.length := by omega
      go_wp2
      go_ret
      exact ⟨by rw [usedZ_not ts (fun j hj => HN.out j hj hj)]; rfl, HB.out⟩

/-- The last zone ahead of n that is not daylight saving time. -/
def downZ (zs : List S27) : Nat → Option Nat
  | 0 => none
  | n + 1 => if (zs.getD n z27).f2 = true then downZ zs n else some n
/-- The first zone from i on that is not daylight saving time, n of them looked at; else 0. -/
def upZ (zs : List S27) : Nat → Nat → Nat
  | _, 0 => 0
  | i, n + 1 => if (zs.getD i z27).f2 = true then upZ zs (i + 1) n else i
/-- The zone ahead of the first transition. -/
def firstZ (zs : List S27) (ts : List S45) : Nat :=
  if usedZ ts = false then 0 else
    match ts with
    | [] => upZ zs 0 zs.length
    | t :: _ => if (zs.getD t.f1.toNat z27).f2 = true then (match downZ zs t.f1.toNat with | some n => n | none => upZ zs 0 zs.length) else upZ zs 0 zs.length

theorem downZ_some (zs : List S27) (n : Nat) (h : (zs.getD n z27).f2 = false) : downZ zs (n + 1) = some n := by simp [downZ, ← List.getD_eq_getElem?_getD, h]
theorem downZ_next (zs : List S27) (n : Nat) (h : (zs.getD n z27).f2 = true) : downZ zs (n + 1) = downZ zs n := by simp [downZ, ← List.getD_eq_getElem?_getD, h]
theorem upZ_here (zs : List S27) (i n : Nat) (h : (zs.getD i z27).f2 = false) : upZ zs i (n + 1) = i := by simp [upZ, ← List.getD_eq_getElem?_getD, h]
theorem upZ_next (zs : List S27) (i n : Nat) (h : (zs.getD i z27).f2 = true) : upZ zs i (n + 1) = upZ zs (i + 1) n := by simp [upZ, ← List.getD_eq_getElem?_getD, h]
theorem getD_at (zs : List S27) (n : Nat) (h : n < zs.length) : zs.getD n z27 = zs[n] := by simp [h]
theorem downZ_lt (zs : List S27) : ∀ n m, downZ zs n = some m → m < n
  | 0, m, h => by simp [downZ] at h
  | n + 1, m, h => by
    unfold downZ at h
    split at h
    · exact Nat.lt_succ_of_lt (downZ_lt zs n m h)
    · injection h with h; omega
theorem upZ_lt (zs : List S27) : ∀ n i, i + n ≤ zs.length → 0 < zs.length → upZ zs i n < zs.length
  | 0, i, _, h => by simpa [upZ] using h
  | n + 1, i, hi, h => by
    unfold upZ
    split
    · exact upZ_lt zs n (i + 1) (by omega) h
    · omega

set_option maxRecDepth 100000 in
set_option maxHeartbeats 4000000 in
theorem first_calls (g : Nat) (nm : ByteArray) (zs : List S27) (ts : List S45) (ext : ByteArray) (Az : Option Addr) (cz : Nat) (At : Option Addr) (ct : Nat) (w : World) (hL : LocAt w g nm zs ts ext Az cz At ct)
    (hix : ∀ t ∈ ts, 0 ≤ t.f1 ∧ t.f1 < zs.length) (ht1 : 1 ≤ ts.length) :
    Calls Tryd.prog 51 #[.pointer (some ⟨g, 0, none⟩)] w fun e w' => e = .returned (.int .i64 (firstZ zs ts : Nat)) ∧ Below w.heap.size w w' := by
  have HL := Aside0.mk hL
  have HIX := Aside0.mk hix
  have hzl : zs.length ≤ 9223372036854775807 := hL.rz.2.1
  have htl : ts.length ≤ 9223372036854775807 := hL.rt.2.1
  clear hL hix
  go_enter Tryd.func51, Tryd.ntmps51
  go_wp2_with fail
  refine (used_calls g nm zs ts ext Az cz At ct w HL.out).mono ?_
  rintro e w1 ⟨rfl, hb1⟩
  have HB1 := Aside0.mk hb1
  have HL1 := Aside0.mk (HL.out.below hb1)
  clear hb1
  cases hu : usedZ ts with
  | false =>
    go_wp2
    go_ret
    exact ⟨by simp [firstZ, hu], HB1.out⟩
  | true =>
    obtain ⟨ad, hA, x0, x1, x2, x3⟩ := ReadsRow.at4 HL1.out.rt (Below.refl _ _) 0 (by omega)
    subst hA
    obtain ⟨t0, tr, rfl⟩ : ∃ t0 tr, ts = t0 :: tr := by
      cases ts with
      | nil => simp at ht1
      | cons a b => exact ⟨a, b, rfl⟩
    obtain ⟨hi0, hi1⟩ := HIX.out t0 (by simp)
    obtain ⟨n0, hn0⟩ : ∃ n0 : Nat, t0.f1 = n0 := ⟨t0.f1.toNat, by omega⟩
    obtain ⟨az, hAz, y0, y1, y2⟩ := ReadsRow.at3 HL1.out.rz (Below.refl _ _) n0 (by omega)
    subst hAz
    have h2 := HL1.out.c2
    have h3 := HL1.out.c3
    have hg : decide ((0 : Int) < ((t0 :: tr).length : Int)) = true := by simp
    have hg2 : (0 : Int) < ((t0 :: tr).length : Int) := by simp
    simp only [Nat.zero_mul, List.getElem_cons_zero, add_nought] at x0 x1 x2 x3
    rw [hn0] at x1 hi0 hi1
    go_wp2_with fail
    go_quiet (fail)
    have HB2 := Aside0.mk (below_drewN' HB1.out nq)
    have HL2 := Aside0.mk (HL1.out.below (below_drewN' (Below.refl _ _) nq))
    clear h2 h3 x0 x1 x2 x3 y0 y1 y2 HL HB1 HL1
    generalize w1.drewN nq = w2 at HB2 HL2 ⊢
    clear w1
    have HL1 := HL2
    have HB1 := HB2
    clear HL2 HB2
    cases hz : zs[n0].f2 with
    | false =>
      have hres : firstZ zs (t0 :: tr) = upZ zs 0 zs.length := by
        have h : (zs.getD n0 z27).f2 = false := by rw [getD_at zs n0 (by omega)]; exact hz
        simp only [firstZ, hu]
        rw [if_neg (by decide)]
        show (if (zs.getD t0.f1.toNat z27).f2 = true then _ else _) = _
        rw [hn0, Int.toNat_natCast, h]
        rfl
      have hcell := HL1.out.c2
      go_wp2_with fail
      clear hcell
      go_loopw [58] (fun t wr => ∃ (m : Nat), m ≤ zs.length ∧ t = .int .i64 m ∧ upZ zs 0 zs.length = upZ zs m (zs.length - m) ∧ wr = w2) (fun t _ => zs.length - (intOf t).toNat)
      case atStart => exact ⟨0, by omega, rfl, rfl, rfl⟩
      case round =>
        obtain ⟨m, hm, rfl, hup, rfl⟩ := hrel
        by_cases hlt : m < zs.length
        · obtain ⟨az, hAz, y0, y1, y2⟩ := ReadsRow.at3 HL1.out.rz (Below.refl _ _) m hlt
          have hcell := HL1.out.c2
          rw [hAz] at hcell
          have hlt' : (m : Int) < (zs.length : Int) := by omega
          cases hd : zs[m].f2 with
          | false =>
            rw [hd] at y2
            go_wp2
            go_ret
            exact ⟨by rw [hres, hup, show zs.length - m = (zs.length - m - 1) + 1 by omega, upZ_here zs m _ (by rw [getD_at zs m hlt]; exact hd)]; rfl, HB1.out⟩
          | true =>
            rw [hd] at y2
            go_wp2
            go_roundw
            case rel => exact ⟨m + 1, by omega, by go_num, by rw [hup, show zs.length - m = (zs.length - (m + 1)) + 1 by omega, upZ_next zs m _ (by rw [getD_at zs m hlt]; exact hd)], by first | rfl | trivial⟩
            case measure => simp [intOf]; omega
        · obtain rfl : m = zs.length := by omega
          go_wp2
          go_ret
          exact ⟨by rw [hres, hup, Nat.sub_self]; rfl, HB1.out⟩
    | true =>
      have hres : firstZ zs (t0 :: tr) = (match downZ zs n0 with | some n => n | none => upZ zs 0 zs.length) := by
        have h : (zs.getD n0 z27).f2 = true := by rw [getD_at zs n0 (by omega)]; exact hz
        simp only [firstZ, hu]
        rw [if_neg (by decide)]
        show (if (zs.getD t0.f1.toNat z27).f2 = true then _ else _) = _
        rw [hn0, Int.toNat_natCast, h]
        rfl
      obtain ⟨ad2, hA2, x0, x1, x2, x3⟩ := ReadsRow.at4 HL1.out.rt (Below.refl _ _) 0 (by simp)
      obtain rfl : ad = ad2 := by injection hA2
      simp only [Nat.zero_mul, List.getElem_cons_zero, add_nought] at x0 x1 x2 x3
      rw [hn0] at x1
      have h3 := HL1.out.c3
      go_wp2_with fail
      clear h3 x0 x1 x2 x3
      go_loopw [3] (fun t wr => ∃ (m : Nat), m ≤ n0 ∧ t = .int .i64 ((m : Int) - 1) ∧ downZ zs n0 = downZ zs m ∧ wr = w2) (fun t _ => (intOf t + 1).toNat)
      case atStart => exact ⟨n0, Nat.le_refl _, rfl, rfl, rfl⟩
      case round =>
        obtain ⟨m, hm, rfl, hdn, rfl⟩ := hrel
        rcases m with _ | m
        · have hres2 : firstZ zs (t0 :: tr) = upZ zs 0 zs.length := by rw [hres, hdn]; rfl
          have hcell := HL1.out.c2
          go_wp2_with fail
          clear hcell
          obtain ⟨w3, hw3⟩ : ∃ w3, w3 = wr := ⟨_, rfl⟩
          rw [← hw3] at HB1 HL1 ⊢
          clear hw3
          go_loopw [58] (fun t wr => ∃ (m : Nat), m ≤ zs.length ∧ t = .int .i64 m ∧ upZ zs 0 zs.length = upZ zs m (zs.length - m) ∧ wr = w3) (fun t _ => zs.length - (intOf t).toNat)
          case atStart => exact ⟨0, by omega, rfl, rfl, rfl⟩
          case round =>
            obtain ⟨m, hm, rfl, hup, rfl⟩ := hrel
            by_cases hlt : m < zs.length
            · obtain ⟨az, hAz, y0, y1, y2⟩ := ReadsRow.at3 HL1.out.rz (Below.refl _ _) m hlt
              have hcell := HL1.out.c2
              rw [hAz] at hcell
              have hlt' : (m : Int) < (zs.length : Int) := by omega
              cases hd : zs[m].f2 with
              | false =>
                rw [hd] at y2
                go_wp2
                go_ret
                exact ⟨by rw [hres2, hup, show zs.length - m = (zs.length - m - 1) + 1 by omega, upZ_here zs m _ (by rw [getD_at zs m hlt]; exact hd)]; rfl, HB1.out⟩
              | true =>
                rw [hd] at y2
                go_wp2
                go_roundw
                case rel => exact ⟨m + 1, by omega, by go_num, by rw [hup, show zs.length - m = (zs.length - (m + 1)) + 1 by omega, upZ_next zs m _ (by rw [getD_at zs m hlt]; exact hd)], by first | rfl | trivial⟩
                case measure => simp [intOf]; omega
            · obtain rfl : m = zs.length := by omega
              go_wp2
              go_ret
              exact ⟨by rw [hres2, hup, Nat.sub_self]; rfl, HB1.out⟩
        · have hlt : m < zs.length := by omega
          rw [show ((m + 1 : Nat) : Int) - 1 = (m : Int) by omega]
          obtain ⟨az, hAz, y0, y1, y2⟩ := ReadsRow.at3 HL1.out.rz (Below.refl _ _) m hlt
          have hcell := HL1.out.c2
          rw [hAz] at hcell
          have hlt' : (m : Int) < (zs.length : Int) := by omega
          cases hd : zs[m].f2 with
          | false =>
            rw [hd] at y2
            go_wp2
            go_ret
            exact ⟨by rw [hres, hdn, downZ_some zs m (by rw [getD_at zs m hlt]; exact hd)]; rfl, HB1.out⟩
          | true =>
            rw [hd] at y2
            go_wp2
            go_roundw
            case rel => exact ⟨m, by omega, by go_num, by rw [hdn, downZ_next zs m (by rw [getD_at zs m hlt]; exact hd)], by first | rfl | trivial⟩
            case measure => simp [intOf]
end Go.Proofs.YtjoaeennbfmohaaDoor
