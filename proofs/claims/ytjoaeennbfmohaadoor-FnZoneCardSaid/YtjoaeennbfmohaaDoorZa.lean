/- The cells of a made row of zones and of a made row of transitions, and what making one does. Conditions: at most a million elements. -/
import Derived.Test.YtjoaeennbfmohaaDoorRd
namespace Go.Proofs.YtjoaeennbfmohaaDoor
open Go.RowKit Go.Proofs.YtjoaeennbfmohaaDoorW.PrintWords Go.Proofs.YtjoaeennbfmohaaDoor.PFnZone
set_option linter.unusedVariables false
set_option linter.unusedSimpArgs false

/-- The cells of a zone (a name, an offset, a mark), and of a transition (a time, a number, two marks). -/
def zc (s : S27) (q : Nat) : Value := if q = 0 then .string s.f0 else if q = 1 then .int .i64 s.f1 else .bool s.f2
def tc (s : S45) (q : Nat) : Value := if q = 0 then .int .i64 s.f0 else if q = 1 then .int .u8 s.f1 else .bool false
/-- z zones, the first i of them filled. -/
def zArr (zn : Nat → S27) (z i : Nat) : Array Value := (Array.range (z * 3)).map fun k => if k / 3 < i then zc (zn (k / 3)) (k % 3) else zc z27 (k % 3)
def tArr (tn : Nat → S45) (m i : Nat) : Array Value := (Array.range (m * 4)).map fun k => if k / 4 < i then tc (tn (k / 4)) (k % 4) else tc z45 (k % 4)

theorem zArr_made (zn : Nat → S27) (z : Nat) : madeCells #[.string ⟨#[]⟩, .int .i64 0, .bool false] (z * 3) = zArr zn z 0 := by
  unfold madeCells zArr
  congr 1
  funext k
  have h3 : k % 3 = 0 ∨ k % 3 = 1 ∨ k % 3 = 2 := by omega
  rw [if_neg (by omega)]
  show (#[Value.string ⟨#[]⟩, .int .i64 0, .bool false] : Array Value)[k % 3]! = _
  rcases h3 with h | h | h <;> rw [h] <;> rfl
theorem tArr_made (tn : Nat → S45) (m : Nat) : madeCells #[.int .i64 0, .int .u8 0, .bool false, .bool false] (m * 4) = tArr tn m 0 := by
  unfold madeCells tArr
  congr 1
  funext k
  have h4 : k % 4 = 0 ∨ k % 4 = 1 ∨ k % 4 = 2 ∨ k % 4 = 3 := by omega
  rw [if_neg (by omega)]
  show (#[Value.int .i64 0, .int .u8 0, .bool false, .bool false] : Array Value)[k % 4]! = _
  rcases h4 with h | h | h | h <;> rw [h] <;> rfl

theorem zArr_get (zn : Nat → S27) (z i k : Nat) (h : k < z * 3) : (zArr zn z i)[k]? = some (if k / 3 < i then zc (zn (k / 3)) (k % 3) else zc z27 (k % 3)) := by
  simp [zArr, h]
theorem zArr_none (zn : Nat → S27) (z i k : Nat) (h : z * 3 ≤ k) : (zArr zn z i)[k]? = none := by
  simp [zArr]; omega
theorem tArr_get (tn : Nat → S45) (m i k : Nat) (h : k < m * 4) : (tArr tn m i)[k]? = some (if k / 4 < i then tc (tn (k / 4)) (k % 4) else tc z45 (k % 4)) := by
  simp [tArr, h]
theorem tArr_none (tn : Nat → S45) (m i k : Nat) (h : m * 4 ≤ k) : (tArr tn m i)[k]? = none := by
  simp [tArr]; omega
theorem zArr_size (zn : Nat → S27) (z i : Nat) : (zArr zn z i).size = z * 3 := by simp [zArr]
theorem tArr_size (tn : Nat → S45) (m i : Nat) : (tArr tn m i).size = m * 4 := by simp [tArr]

theorem zArr_set (zn : Nat → S27) (z i : Nat) (h : i < z) :
    (((zArr zn z i).setIfInBounds (i * 3 + 1) (.int .i64 (zn i).f1)).setIfInBounds (i * 3 + 2) (.bool (zn i).f2)).setIfInBounds (i * 3) (.string (zn i).f0) = zArr zn z (i + 1) := by
  apply Array.ext_getElem?
  intro k
  simp only [Array.getElem?_setIfInBounds, Array.size_setIfInBounds, zArr_size]
  rcases Nat.lt_or_ge k (z * 3) with hk | hk
  · rw [zArr_get zn z i k hk, zArr_get zn z (i + 1) k hk]
    by_cases h0 : i * 3 = k
    · subst h0
      rw [if_pos rfl, if_pos hk, if_pos (by omega), show i * 3 / 3 = i by omega, show i * 3 % 3 = 0 by omega]
      rfl
    · rw [if_neg h0]
      by_cases h2 : i * 3 + 2 = k
      · subst h2
        rw [if_pos rfl, if_pos hk, if_pos (by omega), show (i * 3 + 2) / 3 = i by omega, show (i * 3 + 2) % 3 = 2 by omega]
        rfl
      · rw [if_neg h2]
        by_cases h1 : i * 3 + 1 = k
        · subst h1
          rw [if_pos rfl, if_pos hk, if_pos (by omega), show (i * 3 + 1) / 3 = i by omega, show (i * 3 + 1) % 3 = 1 by omega]
          rfl
        · rw [if_neg h1]
          by_cases hlt : k / 3 < i
          · rw [if_pos hlt, if_pos (by omega)]
          · rw [if_neg hlt, if_neg (by omega)]
  · rw [zArr_none zn z i k hk, zArr_none zn z (i + 1) k hk, if_neg (by omega), if_neg (by omega), if_neg (by omega)]
theorem tArr_set (tn : Nat → S45) (m i : Nat) (h : i < m) :
    ((tArr tn m i).setIfInBounds (i * 4) (.int .i64 (tn i).f0)).setIfInBounds (i * 4 + 1) (.int .u8 (tn i).f1) = tArr tn m (i + 1) := by
  apply Array.ext_getElem?
  intro k
  simp only [Array.getElem?_setIfInBounds, Array.size_setIfInBounds, tArr_size]
  rcases Nat.lt_or_ge k (m * 4) with hk | hk
  · rw [tArr_get tn m i k hk, tArr_get tn m (i + 1) k hk]
    by_cases h1 : i * 4 + 1 = k
    · subst h1
      rw [if_pos rfl, if_pos hk, if_pos (by omega), show (i * 4 + 1) / 4 = i by omega, show (i * 4 + 1) % 4 = 1 by omega]
      rfl
    · rw [if_neg h1]
      by_cases h0 : i * 4 = k
      · subst h0
        rw [if_pos rfl, if_pos hk, if_pos (by omega), show i * 4 / 4 = i by omega, show i * 4 % 4 = 0 by omega]
        rfl
      · rw [if_neg h0]
        by_cases hlt : k / 4 < i
        · rw [if_pos hlt, if_pos (by omega)]
        · rw [if_neg hlt]
          by_cases he : k / 4 < i + 1
          · rw [if_pos he]
            have h4 : k % 4 = 2 ∨ k % 4 = 3 := by omega
            rcases h4 with h4 | h4 <;> rw [h4] <;> rfl
          · rw [if_neg he]
  · rw [tArr_none tn m i k hk, tArr_none tn m (i + 1) k hk, if_neg (by omega), if_neg (by omega)]

/-- The cells that one zone's three stores meet. -/
theorem zArr_meet (zn : Nat → S27) (z i : Nat) (h : i < z) :
    (zArr zn z i)[i * 3 + 1]? = some (.int .i64 0) ∧ (∀ a, ((zArr zn z i).setIfInBounds (i * 3 + 1) a)[i * 3 + 2]? = some (.bool false)) ∧
      ∀ a b, (((zArr zn z i).setIfInBounds (i * 3 + 1) a).setIfInBounds (i * 3 + 2) b)[i * 3]? = some (.string ⟨#[]⟩) := by
  refine ⟨?_, fun a => ?_, fun a b => ?_⟩
  · rw [zArr_get _ _ _ _ (by omega), if_neg (by omega), show (i * 3 + 1) % 3 = 1 by omega]; rfl
  · rw [Array.getElem?_setIfInBounds, if_neg (by omega), zArr_get _ _ _ _ (by omega), if_neg (by omega), show (i * 3 + 2) % 3 = 2 by omega]; rfl
  · rw [Array.getElem?_setIfInBounds, if_neg (by omega), Array.getElem?_setIfInBounds, if_neg (by omega), zArr_get _ _ _ _ (by omega), if_neg (by omega), show (i * 3) % 3 = 0 by omega]; rfl
theorem tArr_meet (tn : Nat → S45) (m i : Nat) (h : i < m) :
    (tArr tn m i)[i * 4]? = some (.int .i64 0) ∧ (∀ a, ((tArr tn m i).setIfInBounds (i * 4) a)[i * 4 + 1]? = some (.int .u8 0)) := by
  refine ⟨?_, fun a => ?_⟩
  · rw [tArr_get _ _ _ _ (by omega), if_neg (by omega), show (i * 4) % 4 = 0 by omega]; rfl
  · rw [Array.getElem?_setIfInBounds, if_neg (by omega), tArr_get _ _ _ _ (by omega), if_neg (by omega), show (i * 4 + 1) % 4 = 1 by omega]; rfl

theorem info83 : (Tryd.prog.info? 83).map (fun i => (i.zero, i.size, i.bytes)) = some (some (.agg #[.string ⟨#[]⟩, .int .i64 0, .bool false]), 3, 32) := by kernel_rfl
theorem info92 : (Tryd.prog.info? 92).map (fun i => (i.zero, i.size, i.bytes)) = some (some (.agg #[.int .i64 0, .int .u8 0, .bool false, .bool false]), 4, 16) := by kernel_rfl
theorem make_zones (zn : Nat → S27) (z : Nat) (hz : z ≤ 1000000) (W : World) : (Instr.makeSlice 81 (.int .i64 (z : Int)) (.int .i64 (z : Int))).run Tryd.prog W = .ok (.slice (some ⟨W.heap.size, 0, none⟩) z z) (W.alloc (.cells (zArr zn z 0) 83)) := by
  obtain ⟨i, hi, hz0, hs, hb⟩ := info_parts info83
  have hr := run_make (P := Tryd.prog) W 81 83 i _ Tryd.underlying81 hi hz0 .i64 .i64 z z (by omega) (Int.le_refl _) (by rw [hb]; omega) (by omega)
  simp only [Int.toNat_natCast] at hr
  rw [hr, hs]
  show Result.ok _ (W.alloc (.cells (madeCells #[.string ⟨#[]⟩, .int .i64 0, .bool false] (z * 3)) 83)) = _
  rw [zArr_made zn]
theorem make_trans (tn : Nat → S45) (m : Nat) (hm : m ≤ 1000000) (W : World) : (Instr.makeSlice 87 (.int .i64 (m : Int)) (.int .i64 (m : Int))).run Tryd.prog W = .ok (.slice (some ⟨W.heap.size, 0, none⟩) m m) (W.alloc (.cells (tArr tn m 0) 92)) := by
  obtain ⟨i, hi, hz0, hs, hb⟩ := info_parts info92
  have hr := run_make (P := Tryd.prog) W 87 92 i _ Tryd.underlying87 hi hz0 .i64 .i64 m m (by omega) (Int.le_refl _) (by rw [hb]; omega) (by omega)
  simp only [Int.toNat_natCast] at hr
  rw [hr, hs]
  show Result.ok _ (W.alloc (.cells (madeCells #[.int .i64 0, .int .u8 0, .bool false, .bool false] (m * 4)) 92)) = _
  rw [tArr_made tn]
end Go.Proofs.YtjoaeennbfmohaaDoor
