/- The walk of LoadLocationFromTZData over a file of the first version without transitions. Conditions: the header's numbers agree with the file's length. -/
import Derived.Test.YtjoaeennbfmohaaDoorLd
import Derived.Outline
import Derived.Deep.DeepMust
namespace Go.Proofs.YtjoaeennbfmohaaDoor
open Go.RowKit Go.Proofs.YtjoaeennbfmohaaDoorW.PrintWords Go.Proofs.YtjoaeennbfmohaaDoor.PFnZone
set_option linter.unusedVariables false
set_option linter.unusedSimpArgs false
attribute [local go_sem] setCell_drewN alloc_drewN

theorem zrow_arr (zn : Nat → S27) (z : Nat) (W : World) (g : Nat) (hz : z ≤ 1000) (HZ : W.heap[g]? = some (.cells (zArr zn z z) 83 (0, 0))) : ZRow W (some ⟨g, 0, none⟩) ((List.range z).map zn) := by
  have lz : ((List.range z).map zn).length = z := by simp
  refine ⟨rfl, by rw [lz]; omega, fun _ => ⟨_, rfl, fun j p hp => ?_⟩⟩
  rw [List.getElem?_map] at hp
  have hj : j < z := by
    rcases Nat.lt_or_ge j z with h | h
    · exact h
    · rw [List.getElem?_eq_none (by simpa using h)] at hp; simp at hp
  rw [List.getElem?_range hj] at hp
  simp at hp
  subst hp
  refine ⟨_, rfl, rfl, fun i v hi => ?_⟩
  have hi3 : i < 3 := by
    rcases Nat.lt_or_ge i 3 with h | h
    · exact h
    · rw [List.getElem?_eq_none (by simpa using h)] at hi; simp at hi
  rw [add_plain, blk_cell HZ, zArr_get _ _ _ _ (by omega), if_pos (by omega), show (j * 3 + i) / 3 = j by omega, show (j * 3 + i) % 3 = i by omega, ← hi]
  rcases i with _ | _ | _ | i
  · rfl
  · rfl
  · rfl
  · omega

theorem nArr6_c20 (z b : Nat) : nArr c0 (c2 0 z b) 6 = #[.int .i64 0, .int .i64 0, .int .i64 0, .int .i64 0, .int .i64 (z : Int), .int .i64 (b : Int)] := rfl

set_option maxRecDepth 100000 in
set_option maxHeartbeats 4000000 in
theorem load1_calls (nm : ByteArray) (A : Option Addr) (n c : Nat) (xs : List Int) (w : World) (hs : Src w A n c xs) (z b : Nat) (hn : 44 + 6 * z + b = n)
    (hmag : xs.take 4 = [84, 90, 105, 102]) (hver : xs.getD 4 0 = 0) (hc2 : ∀ j, j < 6 → be4 (xs.drop (20 + 4 * j)) = c2 0 z b j)
    (ZD AB : List Int) (hx : xs.drop 44 = ZD ++ AB) (hZ : ZD.length = 6 * z) (hA : AB.length = b)
    (zn : Nat → S27) (hz1 : 1 ≤ z) (hz2 : z ≤ 1000) (hzd : ∀ i, i < z → ZoneAt ZD AB b (zn i) i) :
    Calls Tryd.prog 25 #[.string nm, .slice A n c] w (LoadedAt nm ((List.range z).map zn) [⟨-9223372036854775808, 0⟩] ⟨#[]⟩ w) := by
  have hnc := hs.cap
  have hle := hs.le
  have S1 := hs.cut 4 (by omega)
  have S2 := S1.cut 16 (by omega)
  have hb1 : Below w.heap.size w (w.alloc (.cells #[.slice (cutA A c 4) (n - 4) (c - 4), .bool false] 74)) := below_alloc (Below.refl w.heap.size w) _
  have hst1 : (convert 62 9 (.slice A 4 c)).run Tryd.prog (w.alloc (.cells #[.slice (cutA A c 4) (n - 4) (c - 4), .bool false] 74)) = .ok (.string ⟨#[84, 90, 105, 102]⟩) ((w.alloc (.cells #[.slice (cutA A c 4) (n - 4) (c - 4), .bool false] 74))) := by
    have h := string_of_reads (P := Tryd.prog) (c := c) Tryd.underlying62 Tryd.underlying5 Tryd.underlying9 ((hs.head 4 (by omega)).reads.below hb1)
    rw [hmag] at h
    exact h
  have hb2 : Below w.heap.size w (w.alloc (.cells #[.slice (cutA (cutA A c 4) (c - 4) 16) (n - 4 - 16) (c - 4 - 16), .bool false] 74)) := below_alloc (Below.refl w.heap.size w) _
  obtain ⟨bk, o, sp, hA1, -, hcell, -⟩ := S1.at_ hb2 (by omega)
  have e20 : (xs.drop 4).drop 16 = xs.drop (20 + 4 * 0) := by rw [List.drop_drop]
  have ev : (xs.drop 4).getD 0 0 = 0 := by simpa [List.getD_eq_getElem?_getD] using hver
  rw [ev] at hcell
  rw [e20] at S2
  rw [hA1] at hst1 S2
  have HS := Aside0.mk hs
  have HS2 := Aside0.mk S2
  have HA1 := Aside0.mk hA1
  have HC2 := Aside0.mk hc2
  have HX := Aside0.mk hx
  have lZ := Aside0.mk hZ
  have lA := Aside0.mk hA
  have HZD := Aside0.mk hzd
  clear hx hZ hA hzd
  obtain ⟨A2, hA2⟩ : ∃ A2, cutA (some ⟨bk, o, sp⟩) (c - 4) 16 = A2 := ⟨_, rfl⟩
  rw [hA1, hA2] at hcell
  rw [hA2] at HS2
  have HA2 := Aside0.mk hA2
  clear hs S1 S2 hmag hver e20 ev hA1 hA2 hb1 hb2 hc2
  go_enter Tryd.func25, Tryd.ntmps25
  go_wp2_with fail
  refine (read_calls w.heap.size A n c 4 (by omega) hnc hle _ ?_ ?_).mono ?_
  · go_simp
  · go_simp
  rintro e w1 ⟨rfl, hw1⟩
  rw [set1, HA1.out] at hw1
  subst hw1
  go_wp2_with fail
  refine (read_calls w.heap.size (some ⟨bk, o, sp⟩) (n - 4) (c - 4) 16 (by omega) (by omega) (by omega) _ ?_ ?_).mono ?_
  · go_simp
  · go_simp
  rintro e w1 ⟨rfl, hw1⟩
  rw [set1, HA2.out] at hw1
  subst hw1
  clear hst1
  go_wp2_with fail
  go_loopw [11] (fun i wr => ∃ (j : Nat) (Aj : Option Addr) (k : Nat), j ≤ 6 ∧ i = .int .i64 j ∧ Aside0 (Src w Aj (n - 4 - 16 - 4 * j) (c - 4 - 16 - 4 * j) (xs.drop (20 + 4 * j))) ∧ wr = (((w.alloc (.cells #[.slice Aj (n - 4 - 16 - 4 * j) (c - 4 - 16 - 4 * j), .bool false] 74)).alloc (.cells (nArr c0 (c2 0 z b) j) 76)).drewN k)) (fun i _ => 6 - (intOf i).toNat)
  case atStart => exact ⟨0, A2, 0, by omega, rfl, HS2, rfl⟩
  case round =>
    obtain ⟨j, Aj, k, hj, rfl, HSj, rfl⟩ := hrel
    by_cases hlt : j < 6
    · have hnat := nArr_at c0 (c2 0 z b) j hlt
      have hset := nArr_set c0 (c2 0 z b) j hlt
      have HSET := Aside0.mk hset
      clear hset
      go_wp2_with fail
      refine (big4_calls w.heap.size Aj _ _ _ w _ HSj.out ?_ ?_ (by omega) ?_ ?_).mono ?_
      · exact below_drewN' (((Below.refl _ _).alloc (Nat.le_refl _) _).alloc (by simp) _) k
      · exact Nat.le_refl _
      · go_simp
      · go_simp
      rintro e w1 ⟨rfl, k1, hw1⟩
      rw [set2, World.drewN_drewN] at hw1
      subst hw1
      rw [HC2.out j hlt]
      have hr := be4_range HSj.out
      rw [HC2.out j hlt] at hr
      obtain ⟨hr0, hr1⟩ := hr
      have hrb : (c2 0 z b j != c2 0 z b j) = false := by simp
      have HSn := Aside0.mk (HSj.out.cut 4 (by omega))
      rw [drop4] at HSn
      have e1 : n - 4 - 16 - 4 * j - 4 = n - 4 - 16 - 4 * (j + 1) := by omega
      have e2 : c - 4 - 16 - 4 * j - 4 = c - 4 - 16 - 4 * (j + 1) := by omega
      unfold cutV
      rw [e1, e2] at HSn ⊢
      generalize cutA Aj (c - 4 - 16 - 4 * j) 4 = Aj' at HSn ⊢
      clear e1 e2 HSj
      generalize c2 0 z b j = x at hr0 hr1 hrb HSET ⊢
      go_wp2
      go_roundw
      case rel => exact ⟨j + 1, Aj', k + k1, by omega, by go_num, HSn, by rw [← HSET.out]⟩
      case measure => simp [intOf]; omega
    · obtain rfl : j = 6 := by omega
      rw [nArr6_c20]
      clear hlt hj
      have P0 := HSj.out
      rw [show 20 + 4 * 6 = 44 by omega, HX.out, show n - 4 - 16 - 4 * 6 = n - 44 by omega, show c - 4 - 16 - 4 * 6 = c - 44 by omega] at P0
      rw [show n - 4 - 16 - 4 * 6 = n - 44 by omega, show c - 4 - 16 - 4 * 6 = c - 44 by omega]
      clear HSj HX
      have P0' := Aside0.mk P0
      have P0c := P0.cap
      clear P0
      go_wp2_with fail
      refine (read_calls w.heap.size Aj (n - 44) (c - 44) 0 (by omega) (by omega) (by omega) _ ?_ ?_).mono ?_
      · go_simp
      · go_simp
      rintro e w1 ⟨rfl, hw1⟩
      rw [set2, cutA_zero] at hw1
      simp only [Nat.sub_zero] at hw1
      subst hw1
      go_wp2_with fail
      refine (read_calls w.heap.size Aj (n - 44) (c - 44) 0 (by omega) (by omega) (by omega) _ ?_ ?_).mono ?_
      · go_simp
      · go_simp
      rintro e w1 ⟨rfl, hw1⟩
      rw [set3, cutA_zero] at hw1
      simp only [Nat.sub_zero] at hw1
      subst hw1
      go_wp2_with fail
      rw [show ((z : Int) * 6) = ((6 * z : Nat) : Int) by omega]
      -- the zones
      have P2 := P0'.out
      have Q2 := P2.head (6 * z) (by omega)
      have P3 := P2.cut (6 * z) (by omega)
      rw [List.take_left' lZ.out] at Q2
      rw [List.drop_left' lZ.out] at P3
      have Q2' := Aside0.mk Q2
      clear Q2 P2 P0'
      refine (read_calls w.heap.size Aj (n - 44) (c - 44) (6 * z) (by omega) (by omega) (by omega) _ ?_ ?_).mono ?_
      · go_simp
      · go_simp
      rintro e w1 ⟨rfl, hw1⟩
      rw [set3] at hw1
      obtain ⟨B3, hB3⟩ : ∃ B3, cutA Aj (c - 44) (6 * z) = B3 := ⟨_, rfl⟩
      rw [hB3] at P3 hw1
      clear hB3
      subst hw1
      go_wp2_with fail
      -- the names
      have Q3 := P3.head b (by omega)
      have P4 := P3.cut b (by omega)
      rw [List.take_of_length_le (by rw [lA.out]; exact Nat.le_refl _)] at Q3
      have Q3' := Aside0.mk Q3
      clear Q3 P3
      refine (read_calls w.heap.size B3 (n - 44 - 6 * z) (c - 44 - 6 * z) b (by omega) (by omega) (by omega) _ ?_ ?_).mono ?_
      · go_simp
      · go_simp
      rintro e w1 ⟨rfl, hw1⟩
      rw [set4] at hw1
      obtain ⟨B4, hB4⟩ : ∃ B4, cutA B3 (c - 44 - 6 * z) b = B4 := ⟨_, rfl⟩
      rw [hB4] at P4 hw1
      clear hB4
      have er : n - 44 - 6 * z - b = 0 := by omega
      obtain ⟨cr, hcr⟩ : ∃ cr, c - 44 - 6 * z - b = cr := ⟨_, rfl⟩
      rw [er, hcr] at P4 hw1
      clear P4 er hcr
      subst hw1
      go_wp2_with fail
      -- three reads of nothing
      refine (read_calls w.heap.size B4 0 cr 0 (by omega) (by omega) (by omega) _ ?_ ?_).mono ?_
      · go_simp
      · go_simp
      rintro e w1 ⟨rfl, hw1⟩
      rw [set4, cutA_zero] at hw1
      subst hw1
      go_wp2_with fail
      refine (read_calls w.heap.size B4 0 cr 0 (by omega) (by omega) (by omega) _ ?_ ?_).mono ?_
      · go_simp
      · go_simp
      rintro e w1 ⟨rfl, hw1⟩
      simp only [Nat.sub_zero] at hw1
      rw [set4, cutA_zero] at hw1
      subst hw1
      go_wp2_with fail
      refine (read_calls w.heap.size B4 0 cr 0 (by omega) (by omega) (by omega) _ ?_ ?_).mono ?_
      · go_simp
      · go_simp
      rintro e w1 ⟨rfl, hw1⟩
      simp only [Nat.sub_zero] at hw1
      rw [set4, cutA_zero] at hw1
      subst hw1
      go_wp2_with fail
      refine (rest_calls w.heap.size (.slice B4 0 cr) ⟨_, 0, cr, rfl⟩ _ ?_ ?_).mono ?_
      · go_simp
      · go_simp
      rintro e w1 ⟨rfl, hw1⟩
      rw [set4] at hw1
      subst hw1
      have hz0 : ((z : Int) == 0) = false := by simp; omega
      have hmkz := make_zones zn z (by omega)
      go_wp2_with fail
      clear hmkz
      obtain ⟨ck, hck⟩ : ∃ ck, c - 44 - 6 * z = ck := ⟨_, rfl⟩
      rw [hck] at Q3'
      obtain ⟨cz, hcz⟩ : ∃ cz, c - 44 = cz := ⟨_, rfl⟩
      rw [hcz] at Q2'
      have hcz6 : 6 * z ≤ cz := Q2'.out.cap
      rw [hck, hcz]
      clear hck hcz
      go_loopw [202] (fun t wr => ∃ (i : Nat) (Ai : Option Addr) (k : Nat), i ≤ z ∧ t = .int .i64 i ∧ Aside0 (Src w Ai (6 * z - 6 * i) (cz - 6 * i) (ZD.drop (6 * i))) ∧ wr = ((((((w.alloc (.cells #[.slice none 0 0, .bool false] 74)).alloc (.cells #[.int .i64 0, .int .i64 0, .int .i64 0, .int .i64 0, .int .i64 (z : Int), .int .i64 (b : Int)] 76)).alloc (.cells #[.slice Aj 0 cz, .bool false] 74)).alloc (.cells #[.slice Ai (6 * z - 6 * i) (cz - 6 * i), .bool false] 74)).alloc (.cells (zArr zn z i) 83)).drewN k)) (fun t _ => z - (intOf t).toNat)
      case atStart => exact ⟨0, Aj, k, by omega, rfl, Q2', rfl⟩
      case round =>
        clear Q2'
        obtain ⟨i, Ai, k, hi, rfl, HSi, rfl⟩ := hrel
        by_cases hlt : i < z
        · obtain ⟨ho, hd, ix, nmb, rest, hix, hixb, hab, hnz, hnm⟩ := HZD.out i hlt
          have HSc := HSi.out
          have r4 := be4_range HSc
          have S4 := HSc.cut 4 (by omega)
          have S5 := S4.cut 1 (by omega)
          have S6 := S5.cut 1 (by omega)
          simp only [List.drop_drop] at S4 S5 S6
          rw [show 6 * i + 4 + 1 = 6 * i + 5 by omega] at S5 S6
          rw [show 6 * i + 5 + 1 = 6 * (i + 1) by omega, show 6 * z - 6 * i - 4 - 1 - 1 = 6 * z - 6 * (i + 1) by omega, show cz - 6 * i - 4 - 1 - 1 = cz - 6 * (i + 1) by omega] at S6
          have e6a : 6 * z - 6 * i - 4 - 1 - 1 = 6 * z - 6 * (i + 1) := by omega
          have e6c : cz - 6 * i - 4 - 1 - 1 = cz - 6 * (i + 1) := by omega
          have b4 := S4.bounds 0
          have b5 := S5.bounds 0
          rw [hix] at b5
          obtain ⟨mt1, mt2, mt3⟩ := zArr_meet zn z i hlt
          have hset := Aside0.mk (zArr_set zn z i hlt)
          have HS4 := Aside0.mk S4
          have HS5 := Aside0.mk S5
          have HS6 := Aside0.mk S6
          have H0 := Aside0.mk HSc
          have HIX := Aside0.mk hix
          have HE := Aside0.mk (And.intro e6a e6c)
          have hsl8 : ∀ W, (Instr.slice 62 (.slice B3 b ck) (some (.int .u8 (ix : Int))) none none).run Tryd.prog W = .ok (.slice (cutA B3 ck ix) (b - ix) (ck - ix)) W := fun W => by
            have hel : Tryd.prog.elem 62 = 5 := by simp [Program.elem, Tryd.underlying62]
            obtain ⟨i0, hi, hz0, hz1, hz2⟩ := info_parts info5s
            have hu : Tryd.prog.underlying 62 = some (.slice (Tryd.prog.elem 62)) := by rw [hel]; exact Tryd.underlying62
            rw [run_slice_l W 62 B3 b ck hu .u8 (ix : Int) (by omega) (by omega), hel]
            simp [sizeOf, typeInfo, hi, hz1, sliced, Result.andThen, cutA]
          have SN := Q3'.out.cut ix (by omega)
          rw [hab] at SN
          have HSN := Aside0.mk SN
          have HNZ := Aside0.mk hnz
          have HNM := Aside0.mk hnm
          clear hab SN hnz hnm S4 S5 S6 HSc HSi hix e6a e6c
          generalize hx4 : be4 (ZD.drop (6 * i)) = x at ho r4
          have HX4 := Aside0.mk hx4
          generalize hx5 : (ZD.drop (6 * i + 4)).getD 0 0 = d at hd b4
          have HX5 := Aside0.mk hx5
          clear hx4 hx5
          obtain ⟨r40, r41⟩ := r4
          obtain ⟨b40, b41⟩ := b4
          obtain ⟨b50, b51⟩ := b5
          have hrb : (x != x) = false := by simp
          have hlo : -2147483648 ≤ (zn i).f1 ∧ (zn i).f1 ≤ 2147483647 := by rw [← ho]; unfold wrap32; omega
          obtain ⟨hlo1, hlo2⟩ := hlo
          generalize (zn i).f0 = f0 at HNM hset
          generalize (zn i).f1 = f1 at ho hlo1 hlo2 hset
          generalize (zn i).f2 = f2 at hd hset
          go_wp2_with fail
          refine (big4_calls (w.heap.size + 1 + 1 + 1) Ai _ _ _ w _ H0.out ?_ ?_ (by omega) ?_ ?_).mono ?_
          · exact below_drewN' ((((((Below.refl _ _).alloc (Nat.le_refl _) _).alloc (by simp) _).alloc (by simp; try omega) _).alloc (by simp; try omega) _).alloc (by simp; try omega) _) k
          · omega
          · go_simp
          · go_simp
          rintro e w1 ⟨rfl, k1, hw1⟩
          rw [setZ, World.drewN_drewN] at hw1
          unfold cutV at hw1
          rw [HX4.out]
          subst hw1
          obtain ⟨C4, hC4⟩ : ∃ C4, cutA Ai (cz - 6 * i) 4 = C4 := ⟨_, rfl⟩
          rw [hC4] at HS4 HS5 HS6 ⊢
          clear hC4 H0 HX4
          go_wp2_with fail
          refine (byte_calls (w.heap.size + 1 + 1 + 1) C4 _ _ _ w _ HS4.out ?_ ?_ (by omega) ?_ ?_).mono ?_
          · exact below_drewN' ((((((Below.refl _ _).alloc (Nat.le_refl _) _).alloc (by simp) _).alloc (by simp; try omega) _).alloc (by simp; try omega) _).alloc (by simp; try omega) _) _
          · omega
          · go_simp
          · go_simp
          rintro e w1 ⟨rfl, hw1⟩
          rw [setZ] at hw1
          unfold cutV at hw1
          rw [HX5.out]
          subst hw1
          obtain ⟨C5, hC5⟩ : ∃ C5, cutA C4 (cz - 6 * i - 4) 1 = C5 := ⟨_, rfl⟩
          rw [hC5] at HS5 HS6 ⊢
          clear hC5 HS4 HX5 ho
          go_wp2_with fail
          refine (byte_calls (w.heap.size + 1 + 1 + 1) C5 _ _ _ w _ HS5.out ?_ ?_ (by omega) ?_ ?_).mono ?_
          · exact below_drewN' ((((((Below.refl _ _).alloc (Nat.le_refl _) _).alloc (by simp) _).alloc (by simp; try omega) _).alloc (by simp; try omega) _).alloc (by simp; try omega) _) _
          · omega
          · go_simp
          · go_simp
          rintro e w1 ⟨rfl, hw1⟩
          rw [setZ] at hw1
          unfold cutV at hw1
          rw [HE.out.1, HE.out.2] at hw1
          rw [HIX.out]
          subst hw1
          obtain ⟨C6, hC6⟩ : ∃ C6, cutA C5 (cz - 6 * i - 4 - 1) 1 = C6 := ⟨_, rfl⟩
          rw [hC6] at HS6 ⊢
          clear hC6 HS5 HIX HE
          have hg1 : decide (b ≤ ix) = false := by simp; omega
          go_wp2_with fail
          refine (byteString_calls (cutA B3 ck ix) (b - ix) (ck - ix) nmb rest w _ HSN.out ?_ HNZ.out).mono ?_
          · exact below_drewN' ((((((Below.refl _ _).alloc (Nat.le_refl _) _).alloc (by simp) _).alloc (by simp; try omega) _).alloc (by simp; try omega) _).alloc (by simp; try omega) _) _
          rintro e w1 ⟨rfl, k2, hw1⟩
          rw [World.drewN_drewN] at hw1
          rw [HNM.out]
          subst hw1
          clear hsl8 HSN HNZ HNM
          go_wp2
          go_roundw
          case rel => exact ⟨i + 1, C6, k + k1 + k2, by omega, by go_num, HS6, by rw [← hset.out]⟩
          case measure => simp [intOf]; omega
        · obtain rfl : i = z := by omega
          clear hlt hi HZD HSi
          clear Q3' HS HS2 HC2 lZ lA HA1 HA2 hcell
          have hmkt := make_trans (fun _ => z45) 0 (by omega)
          rw [show ((0 : Nat) : Int) = 0 by rfl, show tArr (fun _ => z45) 0 0 = #[] by simp [tArr]] at hmkt
          go_wp2_with fail
          clear hmkt
          have hz4 : ((((w.alloc (.cells #[.slice none 0 0, .bool false] 74)).alloc (.cells #[.int .i64 0, .int .i64 0, .int .i64 0, .int .i64 0, .int .i64 (i : Int), .int .i64 (b : Int)] 76)).alloc (.cells #[.slice Aj 0 cz, .bool false] 74)).alloc (.cells #[.slice Ai 0 (cz - 6 * i), .bool false] 74)).heap.size = w.heap.size + 1 + 1 + 1 + 1 := by simp
          have hz5 : (((((w.alloc (.cells #[.slice none 0 0, .bool false] 74)).alloc (.cells #[.int .i64 0, .int .i64 0, .int .i64 0, .int .i64 0, .int .i64 (i : Int), .int .i64 (b : Int)] 76)).alloc (.cells #[.slice Aj 0 cz, .bool false] 74)).alloc (.cells #[.slice Ai 0 (cz - 6 * i), .bool false] 74)).alloc (.cells (zArr zn i i) 83)).heap.size = w.heap.size + 1 + 1 + 1 + 1 + 1 := by simp
          have HB := Aside0.mk (below_drewN' ((((((((Below.refl w.heap.size w).alloc (Nat.le_refl _) (.cells #[.slice none 0 0, .bool false] 74)).alloc (by simp) (.cells #[.int .i64 0, .int .i64 0, .int .i64 0, .int .i64 0, .int .i64 (i : Int), .int .i64 (b : Int)] 76)).alloc (by simp; try omega) (.cells #[.slice Aj 0 cz, .bool false] 74)).alloc (by simp; try omega) (.cells #[.slice Ai 0 (cz - 6 * i), .bool false] 74)).alloc (by simp; try omega) (.cells (zArr zn i i) 83)).alloc (by simp; try omega) (.cells #[] 92))) k)
          have HK := Aside0.mk (blk_drewN (blk_alloc (blk_new ((((w.alloc (.cells #[.slice none 0 0, .bool false] 74)).alloc (.cells #[.int .i64 0, .int .i64 0, .int .i64 0, .int .i64 0, .int .i64 (i : Int), .int .i64 (b : Int)] 76)).alloc (.cells #[.slice Aj 0 cz, .bool false] 74)).alloc (.cells #[.slice Ai 0 (cz - 6 * i), .bool false] 74)) (.cells (zArr zn i i) 83)) (.cells #[] 92)) k)
          rw [hz4] at HK
          have HO := Aside0.mk (OwnRow.lit (R := R92) (e := 92) (size := 4) (ps := []) ((((((w.alloc (.cells #[.slice none 0 0, .bool false] 74)).alloc (.cells #[.int .i64 0, .int .i64 0, .int .i64 0, .int .i64 0, .int .i64 (i : Int), .int .i64 (b : Int)] 76)).alloc (.cells #[.slice Aj 0 cz, .bool false] 74)).alloc (.cells #[.slice Ai 0 (cz - 6 * i), .bool false] 74)).alloc (.cells (zArr zn i i) 83)).drewN k) (w.heap.size + 1 + 1 + 1 + 1 + 1) (inner := []) (Reps.none _ _) (by show _ ≤ (((((w.alloc _).alloc _).alloc _).alloc _).alloc _).heap.size; simp) (by decide))
          rw [show ((((((w.alloc (.cells #[.slice none 0 0, .bool false] 74)).alloc (.cells #[.int .i64 0, .int .i64 0, .int .i64 0, .int .i64 0, .int .i64 (i : Int), .int .i64 (b : Int)] 76)).alloc (.cells #[.slice Aj 0 cz, .bool false] 74)).alloc (.cells #[.slice Ai 0 (cz - 6 * i), .bool false] 74)).alloc (.cells (zArr zn i i) 83)).drewN k).heap.size = w.heap.size + 1 + 1 + 1 + 1 + 1 from hz5, alloc_drewN] at HO
          have hs6 : (((((((w.alloc (.cells #[.slice none 0 0, .bool false] 74)).alloc (.cells #[.int .i64 0, .int .i64 0, .int .i64 0, .int .i64 0, .int .i64 (i : Int), .int .i64 (b : Int)] 76)).alloc (.cells #[.slice Aj 0 cz, .bool false] 74)).alloc (.cells #[.slice Ai 0 (cz - 6 * i), .bool false] 74)).alloc (.cells (zArr zn i i) 83)).alloc (.cells #[] 92)).drewN k).heap.size = w.heap.size + 1 + 1 + 1 + 1 + 1 + 1 := by
            show ((((((w.alloc _).alloc _).alloc _).alloc _).alloc _).alloc _).heap.size = _
            simp
          generalize ((((((w.alloc (.cells #[.slice none 0 0, .bool false] 74)).alloc (.cells #[.int .i64 0, .int .i64 0, .int .i64 0, .int .i64 0, .int .i64 (i : Int), .int .i64 (b : Int)] 76)).alloc (.cells #[.slice Aj 0 cz, .bool false] 74)).alloc (.cells #[.slice Ai 0 (cz - 6 * i), .bool false] 74)).alloc (.cells (zArr zn i i) 83)).alloc (.cells #[] 92)).drewN k = W0 at HB HK HO hs6 ⊢
          clear hz4 hz5
          go_loopw [266] (fun t wr => t = .int .i64 0 ∧ wr = W0) (fun t _ => 0)
          case atStart => exact ⟨rfl, rfl⟩
          case round =>
            obtain ⟨rfl, rfl⟩ := hrel
            go_wp2_with (at_builtin; go_must (refine OwnRow.append (R := R92) (w0 := wr) (W := wr) (w.heap.size + 1 + 1 + 1 + 1 + 1) rfl _ _ 87 92 (.agg #[.int .i64 0, .int .u8 0, .bool false, .bool false]) 4 16 rfl Tryd.underlying87 info92' rfl (by decide) (by decide) _ [] ⟨-9223372036854775808, 0⟩ [.int .i64 (-9223372036854775808), .int .u8 0, .bool false, .bool false] rfl (by rw [hs6]; rfl) rfl rfl (one92 ⟨-9223372036854775808, 0⟩) HO.out (Below.refl _ _) (by omega) (by decide) ?_); go_must (intro v1 w2 ho1 hb1 hg1 hat1; have HK1 := Aside0.mk (blk_grown HK.out hg1 (HO.out.ne_block HK.out (by decide))); obtain ⟨Av, cv, rfl, hlv⟩ := ho1.slice_; have HO1 := Aside0.mk ho1; have HB1 := Aside0.mk (HB.out.trans (hb1.mono (by omega))); clear ho1 hb1 hg1 hat1))
            clear HB HK HO hs6
            have hlz : ((List.range i).map zn).length = i := by simp
            have HN := blk_new w2 (.cells #[.bool false, .string nm, .slice (some ⟨w.heap.size + 1 + 1 + 1 + 1, 0, none⟩) i i, .slice Av 1 cv, .string ⟨#[]⟩, .int .i64 0, .int .i64 0, .pointer none] 95)
            have hbl : Below w2.heap.size w2 (w2.alloc (.cells #[.bool false, .string nm, .slice (some ⟨w.heap.size + 1 + 1 + 1 + 1, 0, none⟩) i i, .slice Av 1 cv, .string ⟨#[]⟩, .int .i64 0, .int .i64 0, .pointer none] 95)) := below_alloc (Below.refl _ _) _
            obtain ⟨A9, c9, e9, l9, r9⟩ := (HO1.out.below hbl).reads
            injection e9 with e91 _ e92
            subst e91 e92
            refine bodyPost_ret (v := .tuple #[.pointer (some ⟨w2.heap.size, 0, none⟩), .nilIface]) (by simp [results, Tryd.results25, go_sem]) rfl ⟨w2.heap.size, some ⟨w.heap.size + 1 + 1 + 1 + 1, 0, none⟩, i, Av, cv, rfl, ⟨blk_cell HN 0, blk_cell HN 1, by rw [hlz]; exact blk_cell HN 2, blk_cell HN 3, blk_cell HN 4, blk_cell HN 5, blk_cell HN 6, blk_cell HN 7, ?_, r9, by rw [hlz]; exact Nat.le_refl _, l9⟩, HB1.out.alloc HB1.out.size _⟩
            exact zrow_arr zn i _ _ hz2 (blk_alloc HK1.out _)
end Go.Proofs.YtjoaeennbfmohaaDoor
