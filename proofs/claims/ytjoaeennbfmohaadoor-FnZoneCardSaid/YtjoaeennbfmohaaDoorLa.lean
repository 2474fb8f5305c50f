/- The walk of LoadLocationFromTZData over a file of the second version. Conditions: the header's numbers agree with the file's length. -/
import Derived.Test.YtjoaeennbfmohaaDoorBs
import Derived.Test.YtjoaeennbfmohaaDoorZa
import Derived.Outline
namespace Go.Proofs.YtjoaeennbfmohaaDoor
open Go.RowKit Go.Proofs.YtjoaeennbfmohaaDoorW.PrintWords Go.Proofs.YtjoaeennbfmohaaDoor.PFnZone
set_option linter.unusedVariables false
set_option linter.unusedSimpArgs false

theorem setCell_drewN (w : World) (n : Nat) (a : Addr) (v : Value) : (w.drewN n).setCell a v = (w.setCell a v).drewN n := rfl
theorem alloc_drewN (w : World) (n : Nat) (o : Obj) : (w.drewN n).alloc o = (w.alloc o).drewN n := rfl
/-- The six counts, the first j of them read. -/
def nArr (od cs : Nat → Int) (j : Nat) : Array Value := #[.int .i64 (if 0 < j then cs 0 else od 0), .int .i64 (if 1 < j then cs 1 else od 1), .int .i64 (if 2 < j then cs 2 else od 2), .int .i64 (if 3 < j then cs 3 else od 3), .int .i64 (if 4 < j then cs 4 else od 4), .int .i64 (if 5 < j then cs 5 else od 5)]
def c0 (_ : Nat) : Int := 0
attribute [local go_sem] setCell_drewN alloc_drewN
/-- The counts of the first header of a file of the second version: one zone, no transition. -/
def c1 (a : Nat) (j : Nat) : Int := if j = 4 then 1 else if j = 5 then (a : Int) else 0
theorem nArr6_c1 (a : Nat) : nArr c0 (c1 a) 6 = #[.int .i64 0, .int .i64 0, .int .i64 0, .int .i64 0, .int .i64 1, .int .i64 (a : Int)] := rfl

/-- The counts of the second header: m transitions, z zones, b bytes of names. -/
def c2 (m z b : Nat) (j : Nat) : Int := if j = 3 then (m : Int) else if j = 4 then (z : Int) else if j = 5 then (b : Int) else 0
theorem nArr0_c2 (a m z b : Nat) : nArr (c1 a) (c2 m z b) 0 = #[.int .i64 0, .int .i64 0, .int .i64 0, .int .i64 0, .int .i64 1, .int .i64 (a : Int)] := rfl
theorem nArr6_c2 (a m z b : Nat) : nArr (c1 a) (c2 m z b) 6 = #[.int .i64 0, .int .i64 0, .int .i64 0, .int .i64 (m : Int), .int .i64 (z : Int), .int .i64 (b : Int)] := rfl
theorem six {P : Nat → Prop} (h0 : P 0) (h1 : P 1) (h2 : P 2) (h3 : P 3) (h4 : P 4) (h5 : P 5) : ∀ j, j < 6 → P j
  | 0, _ => h0
  | 1, _ => h1
  | 2, _ => h2
  | 3, _ => h3
  | 4, _ => h4
  | 5, _ => h5
  | _ + 6, h => absurd h (by omega)
theorem nArr_set (od cs : Nat → Int) : ∀ j, j < 6 → (nArr od cs j).setIfInBounds j (.int .i64 (cs j)) = nArr od cs (j + 1) :=
  six rfl rfl rfl rfl rfl rfl
theorem nArr_at (od cs : Nat → Int) : ∀ j, j < 6 → (nArr od cs j)[j]? = some (.int .i64 (od j)) :=
  six rfl rfl rfl rfl rfl rfl

theorem set1 (w : World) (v v' b : Value) (t : TypeId) : (w.alloc (.cells #[v, b] t)).setCell ⟨w.heap.size, 0, none⟩ v' = w.alloc (.cells #[v', b] t) := by
  rw [World.setCell_alloc_at _ _ _ _ _ rfl]; rfl
theorem set2 (w : World) (v v' b : Value) (t : TypeId) (N : Obj) (k : Nat) : (((w.alloc (.cells #[v, b] t)).alloc N).drewN k).setCell ⟨w.heap.size, 0, none⟩ v' = ((w.alloc (.cells #[v', b] t)).alloc N).drewN k := by
  rw [setCell_drewN, World.setCell_alloc_past _ _ _ _ (by simp; try omega), set1]

theorem set3 (w : World) (v v' b : Value) (t : TypeId) (N M : Obj) (k : Nat) : ((((w.alloc (.cells #[v, b] t)).alloc N).alloc M).drewN k).setCell ⟨w.heap.size, 0, none⟩ v' = (((w.alloc (.cells #[v', b] t)).alloc N).alloc M).drewN k := by
  rw [setCell_drewN, World.setCell_alloc_past _ _ _ _ (by simp; try omega), World.setCell_alloc_past _ _ _ _ (by simp; try omega), set1]
theorem set4 (w : World) (v v' b : Value) (t : TypeId) (N M L : Obj) (k : Nat) : (((((w.alloc (.cells #[v, b] t)).alloc N).alloc M).alloc L).drewN k).setCell ⟨w.heap.size, 0, none⟩ v' = ((((w.alloc (.cells #[v', b] t)).alloc N).alloc M).alloc L).drewN k := by
  rw [setCell_drewN, World.setCell_alloc_past _ _ _ _ (by simp; try omega), World.setCell_alloc_past _ _ _ _ (by simp; try omega), World.setCell_alloc_past _ _ _ _ (by simp; try omega), set1]
theorem cutA_zero (A : Option Addr) (c : Nat) : cutA A c 0 = A := by
  unfold cutA
  split
  · rfl
  · exact map_add_zero A

theorem drop4 (xs : List Int) (p j : Nat) : (xs.drop (p + 4 * j)).drop 4 = xs.drop (p + 4 * (j + 1)) := by rw [List.drop_drop]; rfl

/-- What the file says of the zone at i. -/
def ZoneAt (ZD AB : List Int) (b : Nat) (s : S27) (i : Nat) : Prop :=
  wrap32 (be4 (ZD.drop (6 * i))) = s.f1 ∧ ((ZD.drop (6 * i + 4)).getD 0 0 != 0) = s.f2 ∧
    ∃ (ix : Nat) (nmb rest : List Int), (ZD.drop (6 * i + 5)).getD 0 0 = (ix : Int) ∧ ix < b ∧ AB.drop ix = nmb ++ 0 :: rest ∧ (∀ x ∈ nmb, x ≠ 0) ∧ strOfNums nmb = s.f0
/-- What the file says of the transition at i. -/
def TransAt (T8 TI : List Int) (z : Nat) (t : S45) (i : Nat) : Prop :=
  wrap64 (be8 (T8.drop (8 * i))) = t.f0 ∧ TI.getD i 0 = t.f1 ∧ t.f1 < z

theorem setZ (w : World) (v v' b : Value) (D N T : Obj) (arr : Array Value) (k : Nat) : ((((((w.alloc D).alloc N).alloc T).alloc (.cells #[v, b] 74)).alloc (.cells arr 83)).drewN k).setCell ⟨w.heap.size + 1 + 1 + 1, 0, none⟩ v' = (((((w.alloc D).alloc N).alloc T).alloc (.cells #[v', b] 74)).alloc (.cells arr 83)).drewN k := by
  rw [setCell_drewN, World.setCell_alloc_past _ _ _ _ (by simp), World.setCell_alloc_at _ _ _ _ _ (by simp)]
  rfl

theorem setT (w : World) (v v' b : Value) (D N OZ : Obj) (a1 a2 : Array Value) (k : Nat) : (((((((w.alloc D).alloc N).alloc (.cells #[v, b] 74)).alloc OZ).alloc (.cells a1 83)).alloc (.cells a2 92)).drewN k).setCell ⟨w.heap.size + 1 + 1, 0, none⟩ v' = ((((((w.alloc D).alloc N).alloc (.cells #[v', b] 74)).alloc OZ).alloc (.cells a1 83)).alloc (.cells a2 92)).drewN k := by
  rw [setCell_drewN, World.setCell_alloc_past _ _ _ _ (by simp; try omega), World.setCell_alloc_past _ _ _ _ (by simp; try omega), World.setCell_alloc_past _ _ _ _ (by simp; try omega), World.setCell_alloc_at _ _ _ _ _ (by simp)]
  rfl
theorem be8_range {w0 : World} {A : Option Addr} {n c : Nat} {xs : List Int} (h : Src w0 A n c xs) : 0 ≤ be8 xs ∧ be8 xs < 18446744073709551616 := by
  have r1 := be4_range h
  have r2 : 0 ≤ be4 (xs.drop 4) ∧ be4 (xs.drop 4) < 4294967296 := by
    have hb : ∀ j, 0 ≤ (xs.drop 4).getD j 0 ∧ (xs.drop 4).getD j 0 < 256 := fun j => by
      have := h.bounds (4 + j)
      simpa [List.getD_eq_getElem?_getD, List.getElem?_drop] using this
    have b0 := hb 0
    have b1 := hb 1
    have b2 := hb 2
    have b3 := hb 3
    unfold be4
    omega
  unfold be8
  omega
theorem Src.cell_ {w0 : World} {A : Option Addr} {n c : Nat} {xs : List Int} (h : Src w0 A n c xs) (hn : 0 < n) : ∃ ad, A = some ad ∧ ∀ w, Below w0.heap.size w0 w → ∀ j, j < n → w.cell? (ad.add j) = some (.int .u8 (xs.getD j 0)) := by
  obtain ⟨ad, rfl, hc⟩ := h.reads.2.2 hn
  refine ⟨ad, rfl, fun w hb j hj => ?_⟩
  have hlt : (ad.add j).block < w0.heap.size := by
    have := h.old ad rfl
    unfold Addr.add
    split <;> exact this
  rw [hb.cell hlt]
  exact hc j hj

/-- What LoadLocationFromTZData leaves: six blocks, and behind them the place. -/
def Loaded (nm : ByteArray) (zn : Nat → S27) (z : Nat) (tn : Nat → S45) (m : Nat) (ext : ByteArray) (w : World) (e : Ending) (w' : World) : Prop :=
  e = .returned (.tuple #[.pointer (some ⟨w.heap.size + 1 + 1 + 1 + 1 + 1 + 1, 0, none⟩), .nilIface]) ∧
    ∃ (D N T OZ : Obj) (k : Nat), w' = (((((((w.alloc D).alloc N).alloc T).alloc OZ).alloc (.cells (zArr zn z z) 83)).alloc (.cells (tArr tn m m) 92)).alloc
      (.cells #[.bool false, .string nm, .slice (some ⟨w.heap.size + 1 + 1 + 1 + 1, 0, none⟩) z z, .slice (some ⟨w.heap.size + 1 + 1 + 1 + 1 + 1, 0, none⟩) m m, .string ext, .int .i64 0, .int .i64 0, .pointer none] 95)).drewN k

set_option maxRecDepth 100000 in
set_option maxHeartbeats 4000000 in
theorem load2_calls (nm : ByteArray) (A : Option Addr) (n c : Nat) (xs : List Int) (w : World) (hs : Src w A n c xs) (a m z b : Nat) (r : Nat) (hn : 94 + a + 8 * m + m + 6 * z + b + r = n)
    (hmag : xs.take 4 = [84, 90, 105, 102]) (hver : xs.getD 4 0 = 50) (hc1 : ∀ j, j < 6 → be4 (xs.drop (20 + 4 * j)) = c1 a j) (hc2 : ∀ j, j < 6 → be4 (xs.drop (70 + a + 4 * j)) = c2 m z b j)
    (T8 TI ZD AB RS : List Int) (hx : xs.drop (94 + a) = T8 ++ (TI ++ (ZD ++ (AB ++ RS)))) (h8 : T8.length = 8 * m) (hI : TI.length = m) (hZ : ZD.length = 6 * z) (hA : AB.length = b) (ext : List Int) (hR : RS = 10 :: (ext ++ [10])) (hext : 0 < ext.length) (hrl : ext.length + 2 = r)
    (zn : Nat → S27) (tn : Nat → S45) (hz1 : 1 ≤ z) (hz2 : z ≤ 1000) (hm1 : 1 ≤ m) (hm2 : m ≤ 100000)
    (hzd : ∀ i, i < z → ZoneAt ZD AB b (zn i) i) (htd : ∀ i, i < m → TransAt T8 TI z (tn i) i) :
    Calls Tryd.prog 25 #[.string nm, .slice A n c] w (Loaded nm zn z tn m (strOfNums ext) w) := by
  have hnc := hs.cap
  have hle := hs.le
  have S1 := hs.cut 4 (by omega)
  have S2 := S1.cut 16 (by omega)
  have hb1 : Below w.heap.size w (w.alloc (.cells #[.slice (cutA A c 4) (n - 4) (c - 4), .bool false] 74)) := below_alloc (Below.refl w.heap.size w) _
  have hst1 : (convert 62 9 (.slice A 4 c)).run Tryd.prog (w.alloc (.cells #[.slice (cutA A c 4) (n - 4) (c - 4), .bool false] 74)) = .ok (.string ⟨#[84, 90, 105, 102]⟩) ((w.alloc (.cells #[.slice (cutA A c 4) (n - 4) (c - 4), .bool false] 74))) := by
    have h := string_of_reads (P := Tryd.prog) (c := c) Tryd.underlying62 Tryd.underlying5 Tryd.underlying9 ((hs.head 4 (by omega)).reads.below hb1)
    rw [hmag] at h
    exact h
  have hb2 : Below w.heap.size w (w.alloc (.cells #[.slice (cutA (cutA A c 4) (c - 4) 16) (n - 4 - 16) (c - 4 - 16), .bool false] 74)) := below_alloc (Below.refl w.heap.size w) _
  obtain ⟨bk, o, sp, hA1, -, hcell, -⟩ := S1.at_ hb2 (by omega)
  have e20 : (xs.drop 4).drop 16 = xs.drop (20 + 4 * 0) := by rw [List.drop_drop]
  have ev : (xs.drop 4).getD 0 0 = 50 := by simpa [List.getD_eq_getElem?_getD] using hver
  rw [ev] at hcell
  rw [e20] at S2
  rw [hA1] at hst1 S2
  have HS := Aside0.mk hs
  have HS2 := Aside0.mk S2
  have HA1 := Aside0.mk hA1
  have HC1 := Aside0.mk hc1
  have HC2 := Aside0.mk hc2
  have HX := Aside0.mk hx
  have l8 := Aside0.mk h8
  have lI := Aside0.mk hI
  have lZ := Aside0.mk hZ
  have lA := Aside0.mk hA
  have lR := Aside0.mk hR
  have HZD := Aside0.mk hzd
  have HTD := Aside0.mk htd
  clear hx h8 hI hZ hA hR hzd htd
  obtain ⟨A2, hA2⟩ : ∃ A2, cutA (some ⟨bk, o, sp⟩) (c - 4) 16 = A2 := ⟨_, rfl⟩
  rw [hA1, hA2] at hcell
  rw [hA2] at HS2
  have HA2 := Aside0.mk hA2
  clear hs S1 S2 hmag hver e20 ev hA1 hA2 hb1 hb2 hc1 hc2
  go_enter Tryd.func25, Tryd.ntmps25
  go_wp2_with fail
  refine (read_calls w.heap.size A n c 4 (by omega) hnc hle _ ?_ ?_).mono ?_
  · go_simp
  · go_simp
  rintro e w1 ⟨rfl, hw1⟩
  rw [set1, HA1.out] at hw1
  subst hw1
  go_wp2_with fail
  refine (read_calls w.heap.size (some ⟨bk, o, sp⟩) (n - 4) (c - 4) 16 (by omega) (by omega) (by omega) _ ?_ ?_).mono ?_
  · go_simp
  · go_simp
  rintro e w1 ⟨rfl, hw1⟩
  rw [set1, HA2.out] at hw1
  subst hw1
  clear hst1
  go_wp2_with fail
  go_loopw [11] (fun i wr => ∃ (j : Nat) (Aj : Option Addr) (k : Nat), j ≤ 6 ∧ i = .int .i64 j ∧ Aside0 (Src w Aj (n - 4 - 16 - 4 * j) (c - 4 - 16 - 4 * j) (xs.drop (20 + 4 * j))) ∧ wr = (((w.alloc (.cells #[.slice Aj (n - 4 - 16 - 4 * j) (c - 4 - 16 - 4 * j), .bool false] 74)).alloc (.cells (nArr c0 (c1 a) j) 76)).drewN k)) (fun i _ => 6 - (intOf i).toNat)
  case atStart => exact ⟨0, A2, 0, by omega, rfl, HS2, rfl⟩
  case round =>
    obtain ⟨j, Aj, k, hj, rfl, HSj, rfl⟩ := hrel
    by_cases hlt : j < 6
    · have hnat := nArr_at c0 (c1 a) j hlt
      have hset := nArr_set c0 (c1 a) j hlt
      have HSET := Aside0.mk hset
      clear hset
      go_wp2_with fail
      refine (big4_calls w.heap.size Aj _ _ _ w _ HSj.out ?_ ?_ (by omega) ?_ ?_).mono ?_
      · exact below_drewN' (((Below.refl _ _).alloc (Nat.le_refl _) _).alloc (by simp) _) k
      · exact Nat.le_refl _
      · go_simp
      · go_simp
      rintro e w1 ⟨rfl, k1, hw1⟩
      rw [set2, World.drewN_drewN] at hw1
      subst hw1
      rw [HC1.out j hlt]
      have hr := be4_range HSj.out
      rw [HC1.out j hlt] at hr
      obtain ⟨hr0, hr1⟩ := hr
      have hrb : (c1 a j != c1 a j) = false := by simp
      have HSn := Aside0.mk (HSj.out.cut 4 (by omega))
      rw [drop4] at HSn
      have e1 : n - 4 - 16 - 4 * j - 4 = n - 4 - 16 - 4 * (j + 1) := by omega
      have e2 : c - 4 - 16 - 4 * j - 4 = c - 4 - 16 - 4 * (j + 1) := by omega
      unfold cutV
      rw [e1, e2] at HSn ⊢
      generalize cutA Aj (c - 4 - 16 - 4 * j) 4 = Aj' at HSn ⊢
      clear e1 e2 HSj
      generalize c1 a j = x at hr0 hr1 hrb HSET ⊢
      go_wp2
      go_roundw
      case rel => exact ⟨j + 1, Aj', k + k1, by omega, by go_num, HSn, by rw [← HSET.out]⟩
      case measure => simp [intOf]; omega
    · obtain rfl : j = 6 := by omega
      rw [nArr6_c1]
      clear hlt hj
      go_wp2_with fail
      rw [show (6 + (a : Int) + 20) = ((26 + a : Nat) : Int) by omega]
      refine (read_calls w.heap.size Aj (n - 4 - 16 - 24) (c - 4 - 16 - 24) (26 + a) (by omega) (by omega) (by omega) _ ?_ ?_).mono ?_
      · go_simp
      · go_simp
      rintro e w1 ⟨rfl, hw1⟩
      have HSn := Aside0.mk (HSj.out.cut (26 + a) (by omega))
      have e0 : (xs.drop (20 + 4 * 6)).drop (26 + a) = xs.drop (70 + a + 4 * 0) := by rw [List.drop_drop]; congr 1; omega
      have e1 : n - 4 - 16 - 24 - (26 + a) = n - (70 + a) - 4 * 0 := by omega
      have e2 : c - 4 - 16 - 24 - (26 + a) = c - (70 + a) - 4 * 0 := by omega
      have e3 : n - 4 - 16 - 4 * 6 = n - 4 - 16 - 24 := by omega
      have e4 : c - 4 - 16 - 4 * 6 = c - 4 - 16 - 24 := by omega
      rw [e0, e3, e4, e1, e2] at HSn
      rw [set2, e1, e2] at hw1
      obtain ⟨A3, hA3⟩ : ∃ A3, cutA Aj (c - 4 - 16 - 24) (26 + a) = A3 := ⟨_, rfl⟩
      rw [hA3] at HSn hw1
      have HA3 := Aside0.mk hA3
      clear e0 e1 e2 e3 e4 HSj hA3
      subst hw1
      go_wp2_with fail
      go_loopw [16] (fun i wr => ∃ (j : Nat) (Aj : Option Addr) (k : Nat), j ≤ 6 ∧ i = .int .i64 j ∧ Aside0 (Src w Aj (n - (70 + a) - 4 * j) (c - (70 + a) - 4 * j) (xs.drop (70 + a + 4 * j))) ∧ wr = (((w.alloc (.cells #[.slice Aj (n - (70 + a) - 4 * j) (c - (70 + a) - 4 * j), .bool false] 74)).alloc (.cells (nArr (c1 a) (c2 m z b) j) 76)).drewN k)) (fun i _ => 6 - (intOf i).toNat)
      case atStart => exact ⟨0, A3, k, by omega, rfl, HSn, rfl⟩
      case round =>
        clear HSn
        obtain ⟨j, Aj, k, hj, rfl, HSj, rfl⟩ := hrel
        by_cases hlt : j < 6
        · have hnat := nArr_at (c1 a) (c2 m z b) j hlt
          have hset := nArr_set (c1 a) (c2 m z b) j hlt
          have HSET := Aside0.mk hset
          clear hset
          go_wp2_with fail
          refine (big4_calls w.heap.size Aj _ _ _ w _ HSj.out ?_ ?_ (by omega) ?_ ?_).mono ?_
          · exact below_drewN' (((Below.refl _ _).alloc (Nat.le_refl _) _).alloc (by simp) _) k
          · exact Nat.le_refl _
          · go_simp
          · go_simp
          rintro e w1 ⟨rfl, k1, hw1⟩
          rw [set2, World.drewN_drewN] at hw1
          subst hw1
          rw [HC2.out j hlt]
          have hr := be4_range HSj.out
          rw [HC2.out j hlt] at hr
          obtain ⟨hr0, hr1⟩ := hr
          have hrb : (c2 m z b j != c2 m z b j) = false := by simp
          have HSn := Aside0.mk (HSj.out.cut 4 (by omega))
          rw [drop4] at HSn
          have e1 : n - (70 + a) - 4 * j - 4 = n - (70 + a) - 4 * (j + 1) := by omega
          have e2 : c - (70 + a) - 4 * j - 4 = c - (70 + a) - 4 * (j + 1) := by omega
          unfold cutV
          rw [e1, e2] at HSn ⊢
          generalize cutA Aj (c - (70 + a) - 4 * j) 4 = Aj' at HSn ⊢
          clear e1 e2 HSj
          generalize c2 m z b j = x at hr0 hr1 hrb HSET ⊢
          generalize c1 a j = y at hnat
          go_wp2
          go_roundw
          case rel => exact ⟨j + 1, Aj', k + k1, by omega, by go_num, HSn, by rw [← HSET.out]⟩
          case measure => simp [intOf]; omega
        · obtain rfl : j = 6 := by omega
          rw [nArr6_c2]
          clear hlt hj
          go_wp2_with fail
          rw [show ((m : Int) * 8) = ((8 * m : Nat) : Int) by omega]
          -- the times
          have en : n - (70 + a) - 24 = n - (94 + a) := by omega
          have ec : c - (70 + a) - 24 = c - (94 + a) := by omega
          have ex : xs.drop (70 + a + 4 * 6) = T8 ++ (TI ++ (ZD ++ (AB ++ RS))) := by rw [← HX.out]; congr 1; omega
          have P0 := HSj.out
          rw [ex, show n - (70 + a) - 4 * 6 = n - (94 + a) by omega, show c - (70 + a) - 4 * 6 = c - (94 + a) by omega] at P0
          rw [en, ec]
          clear en ec ex HSj HX
          have Q0 := P0.head (8 * m) (by omega)
          have P1 := P0.cut (8 * m) (by omega)
          rw [List.take_left' l8.out] at Q0
          rw [List.drop_left' l8.out] at P1
          have Q0' := Aside0.mk Q0
          clear Q0 P0
          refine (read_calls w.heap.size Aj (n - (94 + a)) (c - (94 + a)) (8 * m) (by omega) (by omega) (by omega) _ ?_ ?_).mono ?_
          · go_simp
          · go_simp
          rintro e w1 ⟨rfl, hw1⟩
          rw [set2] at hw1
          obtain ⟨B1, hB1⟩ : ∃ B1, cutA Aj (c - (94 + a)) (8 * m) = B1 := ⟨_, rfl⟩
          rw [hB1] at P1 hw1
          clear hB1
          subst hw1
          go_wp2_with fail
          -- the numbers of the zones
          have Q1 := P1.head m (by omega)
          have P2 := P1.cut m (by omega)
          rw [List.take_left' lI.out] at Q1
          rw [List.drop_left' lI.out] at P2
          have Q1' := Aside0.mk Q1
          clear Q1 P1
          refine (read_calls w.heap.size B1 (n - (94 + a) - 8 * m) (c - (94 + a) - 8 * m) m (by omega) (by omega) (by omega) _ ?_ ?_).mono ?_
          · go_simp
          · go_simp
          rintro e w1 ⟨rfl, hw1⟩
          rw [set3] at hw1
          obtain ⟨B2, hB2⟩ : ∃ B2, cutA B1 (c - (94 + a) - 8 * m) m = B2 := ⟨_, rfl⟩
          rw [hB2] at P2 hw1
          clear hB2
          subst hw1
          go_wp2_with fail
          rw [show ((z : Int) * 6) = ((6 * z : Nat) : Int) by omega]
          -- the zones
          have Q2 := P2.head (6 * z) (by omega)
          have P3 := P2.cut (6 * z) (by omega)
          rw [List.take_left' lZ.out] at Q2
          rw [List.drop_left' lZ.out] at P3
          have Q2' := Aside0.mk Q2
          clear Q2 P2
          refine (read_calls w.heap.size B2 (n - (94 + a) - 8 * m - m) (c - (94 + a) - 8 * m - m) (6 * z) (by omega) (by omega) (by omega) _ ?_ ?_).mono ?_
          · go_simp
          · go_simp
          rintro e w1 ⟨rfl, hw1⟩
          rw [set3] at hw1
          obtain ⟨B3, hB3⟩ : ∃ B3, cutA B2 (c - (94 + a) - 8 * m - m) (6 * z) = B3 := ⟨_, rfl⟩
          rw [hB3] at P3 hw1
          clear hB3
          subst hw1
          go_wp2_with fail
          -- the names
          have Q3 := P3.head b (by omega)
          have P4 := P3.cut b (by omega)
          rw [List.take_left' lA.out] at Q3
          rw [List.drop_left' lA.out] at P4
          have Q3' := Aside0.mk Q3
          clear Q3 P3
          refine (read_calls w.heap.size B3 (n - (94 + a) - 8 * m - m - 6 * z) (c - (94 + a) - 8 * m - m - 6 * z) b (by omega) (by omega) (by omega) _ ?_ ?_).mono ?_
          · go_simp
          · go_simp
          rintro e w1 ⟨rfl, hw1⟩
          rw [set4] at hw1
          obtain ⟨B4, hB4⟩ : ∃ B4, cutA B3 (c - (94 + a) - 8 * m - m - 6 * z) b = B4 := ⟨_, rfl⟩
          rw [hB4] at P4 hw1
          clear hB4
          have er : n - (94 + a) - 8 * m - m - 6 * z - b = r := by omega
          obtain ⟨cr, hcr⟩ : ∃ cr, c - (94 + a) - 8 * m - m - 6 * z - b = cr := ⟨_, rfl⟩
          rw [er, hcr] at P4 hw1
          have P4' := Aside0.mk P4
          have hrc := P4.cap
          have hrl := P4.le
          clear P4 er hcr
          subst hw1
          go_wp2_with fail
          -- three reads of nothing
          refine (read_calls w.heap.size B4 r cr 0 (by omega) (by omega) (by omega) _ ?_ ?_).mono ?_
          · go_simp
          · go_simp
          rintro e w1 ⟨rfl, hw1⟩
          rw [set4, cutA_zero] at hw1
          subst hw1
          go_wp2_with fail
          refine (read_calls w.heap.size B4 r cr 0 (by omega) (by omega) (by omega) _ ?_ ?_).mono ?_
          · go_simp
          · go_simp
          rintro e w1 ⟨rfl, hw1⟩
          simp only [Nat.sub_zero] at hw1
          rw [set4, cutA_zero] at hw1
          subst hw1
          go_wp2_with fail
          refine (read_calls w.heap.size B4 r cr 0 (by omega) (by omega) (by omega) _ ?_ ?_).mono ?_
          · go_simp
          · go_simp
          rintro e w1 ⟨rfl, hw1⟩
          simp only [Nat.sub_zero] at hw1
          rw [set4, cutA_zero] at hw1
          subst hw1
          go_wp2_with fail
          -- the rest of the file
          have hb5 : Below w.heap.size w (((((w.alloc (.cells #[.slice none 0 0, .bool false] 74)).alloc (.cells #[.int .i64 0, .int .i64 0, .int .i64 0, .int .i64 (m : Int), .int .i64 (z : Int), .int .i64 (b : Int)] 76)).alloc (.cells #[.slice Aj (8 * m) (c - (94 + a)), .bool false] 74)).alloc (.cells #[.slice B2 (6 * z) (c - (94 + a) - 8 * m - m), .bool false] 74)).drewN k) :=
            below_drewN' (((((Below.refl _ _).alloc (Nat.le_refl _) _).alloc (by simp) _).alloc (by simp; try omega) _).alloc (by simp; try omega) _) k
          obtain ⟨gb, go, gs, hB4, -, x0, xj⟩ := P4'.out.at_ hb5 (by omega)
          have xl := xj (r - 1) (by omega) (by omega)
          clear xj
          have eR0 : RS.getD 0 0 = 10 := by rw [lR.out]; rfl
          have eRl : RS.getD (r - 1) 0 = 10 := by
            rw [lR.out, show r - 1 = ext.length + 1 by omega]
            simp [List.getD_eq_getElem?_getD]
          rw [eR0] at x0
          rw [eRl] at xl
          clear eR0 eRl
          subst hB4
          rw [show (⟨gb, go + (r - 1), none⟩ : Addr) = (⟨gb, go, gs⟩ : Addr).add (r - 1) by unfold Addr.add; rw [if_neg (by omega)]] at xl
          have hsl5 : ∀ W, (Instr.slice 62 (.slice (some ⟨gb, go, gs⟩) r cr) (some (.int .i64 1)) (some (.int .i64 ((r : Int) - 1))) none).run Tryd.prog W = .ok (.slice (cutA (some ⟨gb, go, gs⟩) cr 1) (r - 2) (cr - 1)) W := fun W => by
            have hel : Tryd.prog.elem 62 = 5 := by simp [Program.elem, Tryd.underlying62]
            obtain ⟨i0, hi, hz0, hz1, hz2⟩ := info_parts info5s
            have hu : Tryd.prog.underlying 62 = some (.slice (Tryd.prog.elem 62)) := by rw [hel]; exact Tryd.underlying62
            rw [run_slice_lh W 62 _ r cr hu .i64 .i64 1 ((r : Int) - 1) (by omega) (by omega) (by omega), hel]
            simp [sizeOf, typeInfo, hi, hz1, sliced, Result.andThen, cutA]
            omega
          have hcv5 : (convert 62 9 (.slice (cutA (some ⟨gb, go, gs⟩) cr 1) (r - 2) (cr - 1))).run Tryd.prog (((((w.alloc (.cells #[.slice none 0 0, .bool false] 74)).alloc (.cells #[.int .i64 0, .int .i64 0, .int .i64 0, .int .i64 (m : Int), .int .i64 (z : Int), .int .i64 (b : Int)] 76)).alloc (.cells #[.slice Aj (8 * m) (c - (94 + a)), .bool false] 74)).alloc (.cells #[.slice B2 (6 * z) (c - (94 + a) - 8 * m - m), .bool false] 74)).drewN k) = .ok (.string (strOfNums ext)) (((((w.alloc (.cells #[.slice none 0 0, .bool false] 74)).alloc (.cells #[.int .i64 0, .int .i64 0, .int .i64 0, .int .i64 (m : Int), .int .i64 (z : Int), .int .i64 (b : Int)] 76)).alloc (.cells #[.slice Aj (8 * m) (c - (94 + a)), .bool false] 74)).alloc (.cells #[.slice B2 (6 * z) (c - (94 + a) - 8 * m - m), .bool false] 74)).drewN k) := by
            have h := ((P4'.out.cut 1 (by omega)).head (r - 2) (by omega)).reads.below hb5
            have e : ((RS.drop 1).take (r - 2)) = ext := by rw [lR.out, List.drop_one, List.tail_cons, List.take_left' (by omega)]
            rw [e] at h
            exact string_of_reads Tryd.underlying62 Tryd.underlying5 Tryd.underlying9 h
          clear hb5 P4'
          have hw1 : decide ((2 : Int) < (r : Int)) = true := by simp; omega
          have hw2 : (2 : Int) < (r : Int) := by omega
          refine (rest_calls w.heap.size (.slice (some ⟨gb, go, gs⟩) r cr) ⟨_, r, cr, rfl⟩ _ ?_ ?_).mono ?_
          · go_simp
          · go_simp
          rintro e w1 ⟨rfl, hw1⟩
          rw [set4] at hw1
          subst hw1
          obtain ⟨A5, hA5⟩ : ∃ A5, cutA (some ⟨gb, go, gs⟩) cr 1 = A5 := ⟨_, rfl⟩
          rw [hA5] at hcv5 hsl5
          clear hA5
          have hz0 : ((z : Int) == 0) = false := by simp; omega
          have hmkz := make_zones zn z (by omega)
          go_wp2_with fail
          clear hmkz hcv5 hsl5 x0 xl hw1 hw2
          obtain ⟨ck, hck⟩ : ∃ ck, c - (94 + a) - 8 * m - m - 6 * z = ck := ⟨_, rfl⟩
          rw [hck] at Q3'
          obtain ⟨cz, hcz⟩ : ∃ cz, c - (94 + a) - 8 * m - m = cz := ⟨_, rfl⟩
          rw [hcz] at Q2'
          have hcz6 : 6 * z ≤ cz := Q2'.out.cap
          rw [hck, hcz]
          clear hck hcz
          go_loopw [202] (fun t wr => ∃ (i : Nat) (Ai : Option Addr) (k : Nat), i ≤ z ∧ t = .int .i64 i ∧ Aside0 (Src w Ai (6 * z - 6 * i) (cz - 6 * i) (ZD.drop (6 * i))) ∧ wr = ((((((w.alloc (.cells #[.slice none 0 0, .bool false] 74)).alloc (.cells #[.int .i64 0, .int .i64 0, .int .i64 0, .int .i64 (m : Int), .int .i64 (z : Int), .int .i64 (b : Int)] 76)).alloc (.cells #[.slice Aj (8 * m) (c - (94 + a)), .bool false] 74)).alloc (.cells #[.slice Ai (6 * z - 6 * i) (cz - 6 * i), .bool false] 74)).alloc (.cells (zArr zn z i) 83)).drewN k)) (fun t _ => z - (intOf t).toNat)
          case atStart => exact ⟨0, B2, k, by omega, rfl, Q2', rfl⟩
          case round =>
            clear Q2'
            obtain ⟨i, Ai, k, hi, rfl, HSi, rfl⟩ := hrel
            by_cases hlt : i < z
            · obtain ⟨ho, hd, ix, nmb, rest, hix, hixb, hab, hnz, hnm⟩ := HZD.out i hlt
              have HSc := HSi.out
              have r4 := be4_range HSc
              have S4 := HSc.cut 4 (by omega)
              have S5 := S4.cut 1 (by omega)
              have S6 := S5.cut 1 (by omega)
              simp only [List.drop_drop] at S4 S5 S6
              rw [show 6 * i + 4 + 1 = 6 * i + 5 by omega] at S5 S6
              rw [show 6 * i + 5 + 1 = 6 * (i + 1) by omega, show 6 * z - 6 * i - 4 - 1 - 1 = 6 * z - 6 * (i + 1) by omega, show cz - 6 * i - 4 - 1 - 1 = cz - 6 * (i + 1) by omega] at S6
              have e6a : 6 * z - 6 * i - 4 - 1 - 1 = 6 * z - 6 * (i + 1) := by omega
              have e6c : cz - 6 * i - 4 - 1 - 1 = cz - 6 * (i + 1) := by omega
              have b4 := S4.bounds 0
              have b5 := S5.bounds 0
              rw [hix] at b5
              obtain ⟨mt1, mt2, mt3⟩ := zArr_meet zn z i hlt
              have hset := Aside0.mk (zArr_set zn z i hlt)
              have HS4 := Aside0.mk S4
              have HS5 := Aside0.mk S5
              have HS6 := Aside0.mk S6
              have H0 := Aside0.mk HSc
              have HIX := Aside0.mk hix
              have HE := Aside0.mk (And.intro e6a e6c)
              have hsl8 : ∀ W, (Instr.slice 62 (.slice B3 b ck) (some (.int .u8 (ix : Int))) none none).run Tryd.prog W = .ok (.slice (cutA B3 ck ix) (b - ix) (ck - ix)) W := fun W => by
                have hel : Tryd.prog.elem 62 = 5 := by simp [Program.elem, Tryd.underlying62]
                obtain ⟨i0, hi, hz0, hz1, hz2⟩ := info_parts info5s
                have hu : Tryd.prog.underlying 62 = some (.slice (Tryd.prog.elem 62)) := by rw [hel]; exact Tryd.underlying62
                rw [run_slice_l W 62 B3 b ck hu .u8 (ix : Int) (by omega) (by omega), hel]
                simp [sizeOf, typeInfo, hi, hz1, sliced, Result.andThen, cutA]
              have SN := Q3'.out.cut ix (by omega)
              rw [hab] at SN
              have HSN := Aside0.mk SN
              have HNZ := Aside0.mk hnz
              have HNM := Aside0.mk hnm
              clear hab SN hnz hnm S4 S5 S6 HSc HSi hix e6a e6c
              generalize hx4 : be4 (ZD.drop (6 * i)) = x at ho r4
              have HX4 := Aside0.mk hx4
              generalize hx5 : (ZD.drop (6 * i + 4)).getD 0 0 = d at hd b4
              have HX5 := Aside0.mk hx5
              clear hx4 hx5
              obtain ⟨r40, r41⟩ := r4
              obtain ⟨b40, b41⟩ := b4
              obtain ⟨b50, b51⟩ := b5
              have hrb : (x != x) = false := by simp
              have hlo : -2147483648 ≤ (zn i).f1 ∧ (zn i).f1 ≤ 2147483647 := by rw [← ho]; unfold wrap32; omega
              obtain ⟨hlo1, hlo2⟩ := hlo
              generalize (zn i).f0 = f0 at HNM hset
              generalize (zn i).f1 = f1 at ho hlo1 hlo2 hset
              generalize (zn i).f2 = f2 at hd hset
              go_wp2_with fail
              refine (big4_calls (w.heap.size + 1 + 1 + 1) Ai _ _ _ w _ H0.out ?_ ?_ (by omega) ?_ ?_).mono ?_
              · exact below_drewN' ((((((Below.refl _ _).alloc (Nat.le_refl _) _).alloc (by simp) _).alloc (by simp; try omega) _).alloc (by simp; try omega) _).alloc (by simp; try omega) _) k
              · omega
              · go_simp
              · go_simp
              rintro e w1 ⟨rfl, k1, hw1⟩
              rw [setZ, World.drewN_drewN] at hw1
              unfold cutV at hw1
              rw [HX4.out]
              subst hw1
              obtain ⟨C4, hC4⟩ : ∃ C4, cutA Ai (cz - 6 * i) 4 = C4 := ⟨_, rfl⟩
              rw [hC4] at HS4 HS5 HS6 ⊢
              clear hC4 H0 HX4
              go_wp2_with fail
              refine (byte_calls (w.heap.size + 1 + 1 + 1) C4 _ _ _ w _ HS4.out ?_ ?_ (by omega) ?_ ?_).mono ?_
              · exact below_drewN' ((((((Below.refl _ _).alloc (Nat.le_refl _) _).alloc (by simp) _).alloc (by simp; try omega) _).alloc (by simp; try omega) _).alloc (by simp; try omega) _) _
              · omega
              · go_simp
              · go_simp
              rintro e w1 ⟨rfl, hw1⟩
              rw [setZ] at hw1
              unfold cutV at hw1
              rw [HX5.out]
              subst hw1
              obtain ⟨C5, hC5⟩ : ∃ C5, cutA C4 (cz - 6 * i - 4) 1 = C5 := ⟨_, rfl⟩
              rw [hC5] at HS5 HS6 ⊢
              clear hC5 HS4 HX5 ho
              go_wp2_with fail
              refine (byte_calls (w.heap.size + 1 + 1 + 1) C5 _ _ _ w _ HS5.out ?_ ?_ (by omega) ?_ ?_).mono ?_
              · exact below_drewN' ((((((Below.refl _ _).alloc (Nat.le_refl _) _).alloc (by simp) _).alloc (by simp; try omega) _).alloc (by simp; try omega) _).alloc (by simp; try omega) _) _
              · omega
              · go_simp
              · go_simp
              rintro e w1 ⟨rfl, hw1⟩
              rw [setZ] at hw1
              unfold cutV at hw1
              rw [HE.out.1, HE.out.2] at hw1
              rw [HIX.out]
              subst hw1
              obtain ⟨C6, hC6⟩ : ∃ C6, cutA C5 (cz - 6 * i - 4 - 1) 1 = C6 := ⟨_, rfl⟩
              rw [hC6] at HS6 ⊢
              clear hC6 HS5 HIX HE
              have hg1 : decide (b ≤ ix) = false := by simp; omega
              go_wp2_with fail
              refine (byteString_calls (cutA B3 ck ix) (b - ix) (ck - ix) nmb rest w _ HSN.out ?_ HNZ.out).mono ?_
              · exact below_drewN' ((((((Below.refl _ _).alloc (Nat.le_refl _) _).alloc (by simp) _).alloc (by simp; try omega) _).alloc (by simp; try omega) _).alloc (by simp; try omega) _) _
              rintro e w1 ⟨rfl, k2, hw1⟩
              rw [World.drewN_drewN] at hw1
              rw [HNM.out]
              subst hw1
              clear hsl8 HSN HNZ HNM
              go_wp2
              go_roundw
              case rel => exact ⟨i + 1, C6, k + k1 + k2, by omega, by go_num, HS6, by rw [← hset.out]⟩
              case measure => simp [intOf]; omega
            · obtain rfl : i = z := by omega
              clear hlt hi HZD HSi
              obtain ⟨OZ, hOZ⟩ : ∃ OZ : Obj, Obj.cells #[.slice Ai (6 * i - 6 * i) (cz - 6 * i), .bool false] 74 = OZ := ⟨_, rfl⟩
              rw [hOZ]
              clear hOZ
              obtain ⟨ct, hct⟩ : ∃ ct, c - (94 + a) = ct := ⟨_, rfl⟩
              have hct8 : 8 * m ≤ ct := by rw [← hct]; exact Q0'.out.cap
              rw [hct] at Q0' Q1' ⊢
              clear hct
              have hmkt := make_trans tn m (by omega)
              go_wp2_with fail
              clear hmkt
              go_loopw [266] (fun t wr => ∃ (j : Nat) (Ai : Option Addr) (k : Nat), j ≤ m ∧ t = .int .i64 j ∧ Aside0 (Src w Ai (8 * m - 8 * j) (ct - 8 * j) (T8.drop (8 * j))) ∧ wr = (((((((w.alloc (.cells #[.slice none 0 0, .bool false] 74)).alloc (.cells #[.int .i64 0, .int .i64 0, .int .i64 0, .int .i64 (m : Int), .int .i64 (i : Int), .int .i64 (b : Int)] 76)).alloc (.cells #[.slice Ai (8 * m - 8 * j) (ct - 8 * j), .bool false] 74)).alloc OZ).alloc (.cells (zArr zn i i) 83)).alloc (.cells (tArr tn m j) 92)).drewN k)) (fun t _ => m - (intOf t).toNat)
              case atStart => exact ⟨0, Aj, k, by omega, rfl, Q0', rfl⟩
              case round =>
                clear Q0'
                obtain ⟨j, Ai, k, hj, rfl, HSj, rfl⟩ := hrel
                by_cases hlt : j < m
                · obtain ⟨hwh, hti, htz⟩ := HTD.out j hlt
                  have HSc := HSj.out
                  have S4 := HSc.cut 4 (by omega)
                  have S8 := S4.cut 4 (by omega)
                  simp only [List.drop_drop] at S4 S8
                  rw [show 8 * j + 4 + 4 = 8 * (j + 1) by omega, show 8 * m - 8 * j - 4 - 4 = 8 * m - 8 * (j + 1) by omega, show ct - 8 * j - 4 - 4 = ct - 8 * (j + 1) by omega] at S8
                  have e8 : 8 * m - 8 * j - 4 - 4 = 8 * m - 8 * (j + 1) ∧ ct - 8 * j - 4 - 4 = ct - 8 * (j + 1) := by omega
                  have r8 := be8_range HSc
                  obtain ⟨mt1, mt2⟩ := tArr_meet tn m j hlt
                  have hset := Aside0.mk (tArr_set tn m j hlt)
                  have hb1 := Q1'.out.bounds j
                  rw [hti] at hb1
                  obtain ⟨adI, hadI, hcI⟩ := Q1'.out.cell_ (by omega)
                  have hcJ : ∀ (T : Obj) (arr : Array Value), ((((((w.alloc (.cells #[.slice none 0 0, .bool false] 74)).alloc (.cells #[.int .i64 0, .int .i64 0, .int .i64 0, .int .i64 (m : Int), .int .i64 (i : Int), .int .i64 (b : Int)] 76)).alloc T).alloc OZ).alloc (.cells (zArr zn i i) 83)).alloc (.cells arr 92)).cell? (adI.add j) = some (.int .u8 (tn j).f1) := fun T arr => by
                    have h := hcI _ (((((((Below.refl w.heap.size w).alloc (Nat.le_refl _) (.cells #[.slice none 0 0, .bool false] 74)).alloc (by simp) (.cells #[.int .i64 0, .int .i64 0, .int .i64 0, .int .i64 (m : Int), .int .i64 (i : Int), .int .i64 (b : Int)] 76)).alloc (by simp; try omega) T).alloc (by simp; try omega) OZ).alloc (by simp; try omega) (.cells (zArr zn i i) 83)).alloc (by simp; try omega) (.cells arr 92)) j hlt
                    rw [hti] at h
                    exact h
                  have HS8 := Aside0.mk S8
                  have H0 := Aside0.mk HSc
                  have HE := Aside0.mk e8
                  clear S4 S8 HSc HSj e8 hti hcI
                  generalize hx8 : be8 (T8.drop (8 * j)) = x at hwh r8
                  have HX8 := Aside0.mk hx8
                  clear hx8
                  obtain ⟨r80, r81⟩ := r8
                  obtain ⟨hb10, hb11⟩ := hb1
                  have hg1 : decide ((i : Int) ≤ (tn j).f1) = false := by simp; omega
                  generalize (tn j).f0 = f0 at hwh hset
                  generalize (tn j).f1 = f1 at htz hcJ hb10 hb11 hset hg1
                  subst hadI
                  go_wp2_with fail
                  refine (big8_calls (w.heap.size + 1 + 1) Ai _ _ _ w _ H0.out ?_ ?_ (by omega) ?_ ?_).mono ?_
                  · exact below_drewN' (((((((Below.refl _ _).alloc (Nat.le_refl _) _).alloc (by simp) _).alloc (by simp; try omega) _).alloc (by simp; try omega) _).alloc (by simp; try omega) _).alloc (by simp; try omega) _) _
                  · omega
                  · go_simp
                  · go_simp
                  rintro e w1 ⟨rfl, k1, hw1⟩
                  rw [setT, World.drewN_drewN] at hw1
                  unfold cutV at hw1
                  rw [HE.out.1, HE.out.2] at hw1
                  rw [HX8.out]
                  subst hw1
                  obtain ⟨C8, hC8⟩ : ∃ C8, cutA (cutA Ai (ct - 8 * j) 4) (ct - 8 * j - 4) 4 = C8 := ⟨_, rfl⟩
                  rw [hC8] at HS8 ⊢
                  clear hC8 H0 HE HX8
                  go_wp2
                  go_roundw
                  case rel => exact ⟨j + 1, C8, k + k1, by omega, by go_num, HS8, by rw [← hset.out]⟩
                  case measure => simp [intOf]; omega
                · obtain rfl : j = m := by omega
                  clear hlt hj HTD HSj
                  have hm0 : ((j : Int) == 0) = false := by simp; omega
                  go_wp2
                  go_ret2
                  exact ⟨rfl, _, _, _, _, _, rfl⟩
end Go.Proofs.YtjoaeennbfmohaaDoor
