/- The walks of some functions. Laid by programs (wip/mkq.py, wip/mkclaim.py) out of the texts that the kit's print.sh wrote for this seat, written shorter. Not written by hand. -/
import Derived.Test.YtjoaeennbfmohaaDoorC0
import Derived.Test.YtjoaeennbfmohaaDoorC7
namespace Go.Proofs.YtjoaeennbfmohaaDoor.PFnZone
open Go.RowKit Go.Proofs.YtjoaeennbfmohaaDoorW.PrintWords Go.Proofs.YtjoaeennbfmohaaDoorW.PrintLast Go.Proofs.YtjoaeennbfmohaaDoorW.PrintMore
attribute [local go_sem] max2_int min2_int max_two min_two max_three min_three max_four min_four   -- for this text's walks alone
set_option linter.unusedVariables false
set_option linter.unusedSimpArgs false
mutual
def spec_FileOk.l0 : Nat → Bool → Int → List (S27) → Int → Int → ByteArray → List (S27) → List (S45) → ByteArray → Option (Bool)
 | 0, _, _, _, _, _, _, _, _, _ => none
 | k + 1, x1, x5, x13, x14, x15, x211000, x211001, x211002, x211003 => if x15 < x14 then (if 0 ≤ x15 then (if x15 < (x13.length : Int) then (spec_FileOk.l1 k x1 (wrap64 (x5 + (wrap64 ((((rd_T27 x13 x15).f0).size : Int) + 1)))) 0 x13 x14 x15 x211000 x211001 x211002 x211003 ((rd_T27 x13 x15).f0) ((rd_T27 x13 x15).f1) ((rd_T27 x13 x15).f2)) else (none)) else (none)) else (spec_FileOk.l2 k x1 x5 x211002 (x211002.length : Int) 0 x211000 x211001 x211002 x211003)
def spec_FileOk.l1 : Nat → Bool → Int → Int → List (S27) → Int → Int → ByteArray → List (S27) → List (S45) → ByteArray → ByteArray → Int → Bool → Option (Bool)
 | 0, _, _, _, _, _, _, _, _, _, _, _, _, _ => none
 | k + 1, x1, x5, x8, x13, x14, x15, x211000, x211001, x211002, x211003, x213000, x213001, x213002 => if x8 < (x213000.size : Int) then (if 0 ≤ x8 then (if (bt x213000 x8) = 0 then (some false) else (spec_FileOk.l1 k x1 x5 (wrap64 (x8 + 1)) x13 x14 x15 x211000 x211001 x211002 x211003 x213000 x213001 x213002)) else (none)) else (spec_FileOk.l0 k x1 x5 x13 x14 (wrap64 (x15 + 1)) x211000 x211001 x211002 x211003)
def spec_FileOk.l2 : Nat → Bool → Int → List (S45) → Int → Int → ByteArray → List (S27) → List (S45) → ByteArray → Option (Bool)
 | 0, _, _, _, _, _, _, _, _, _ => none
 | k + 1, x1, x5, x39, x40, x41, x211000, x211001, x211002, x211003 => if x41 < x40 then (if 0 ≤ x41 then (if x41 < (x39.length : Int) then (if x1 = true then (if ((rd_T45 x39 x41).f0) < (-2147483648) then (some false) else (if ((rd_T45 x39 x41).f0) > 2147483647 then (some false) else (spec_FileOk.l2 k x1 x5 x39 x40 (wrap64 (x41 + 1)) x211000 x211001 x211002 x211003))) else (spec_FileOk.l2 k x1 x5 x39 x40 (wrap64 (x41 + 1)) x211000 x211001 x211002 x211003)) else (none)) else (none)) else (spec_FileOk.l3 k x5 0 x211000 x211001 x211002 x211003)
def spec_FileOk.l3 : Nat → Int → Int → ByteArray → List (S27) → List (S45) → ByteArray → Option (Bool)
 | 0, _, _, _, _, _, _ => none
 | k + 1, x5, x11, x211000, x211001, x211002, x211003 => if x11 < (x211003.size : Int) then (if 0 ≤ x11 then (if (bt x211003 x11) = 10 then (some false) else (spec_FileOk.l3 k x5 (wrap64 (x11 + 1)) x211000 x211001 x211002 x211003)) else (none)) else (if x5 ≤ 255 then ((spec_PlaceOk.f k x211000 x211001 x211002 x211003).bind fun t215 => (some t215)) else (some false))
end
def spec_FileOk.f (k : Nat) (a0_0 : ByteArray) (l0_1 : List (S27)) (l0_2 : List (S45)) (a0_3 : ByteArray) (a1 : Bool) : Option (Bool) := spec_FileOk.l0 k a1 0 l0_1 (l0_1.length : Int) 0 a0_0 l0_1 l0_2 a0_3
set_option maxHeartbeats 8000000 in
set_option maxRecDepth 100000 in
theorem spec_FileOk.calls (k : Nat) (a0_0 : ByteArray) (A0_1 : Option Addr) (c0_1 : Nat) (l0_1 : List (S27)) (A0_2 : Option Addr) (c0_2 : Nat) (l0_2 : List (S45)) (a0_3 : ByteArray) (a1 : Bool) (r : Bool) (w : World) (hr0_1 : Kd.C k27 w A0_1 l0_1.length l0_1) (hc0_1 : l0_1.length ≤ c0_1) (hr0_2 : Kd.C k45 w A0_2 l0_2.length l0_2) (hc0_2 : l0_2.length ≤ c0_2) (h : spec_FileOk.f k a0_0 l0_1 l0_2 a0_3 a1 = some r) :
  Calls Tryd.prog 9 #[.agg #[.string a0_0, .slice A0_1 l0_1.length c0_1, .slice A0_2 l0_2.length c0_2, .string a0_3], .bool a1] w fun e w' => e = .returned (.bool r) ∧ Below w.heap.size w w' := by
 have hu25 := Tryd.underlying25
 have hu27 := Tryd.underlying27
 have hu45 := Tryd.underlying45
 have HR0_1 := Aside0.mk hr0_1
 have HC0_1 := Aside0.mk hc0_1
 clear hr0_1 hc0_1
 have HR0_2 := Aside0.mk hr0_2
 have HC0_2 := Aside0.mk hc0_2
 clear hr0_2 hc0_2
 have HB := Aside0.mk (Below.refl w.heap.size w)
 have H : (spec_FileOk.l0 k a1 0 l0_1 (l0_1.length : Int) 0 a0_0 l0_1 l0_2 a0_3) = some r := h
 clear h
 have H' := Aside0.mk H
 clear H
 go_enter Tryd.func9, Tryd.ntmps9
 go_wp2_with (first | ((with_reducible refine gate_dst (N := 2) rfl ?_); refine box_event ?hg (N := 2) ?hd (cs := #[.string a0_0, .slice A0_1 l0_1.length c0_1, .slice A0_2 l0_2.length c0_2, .string a0_3]) (t := 25) ?hr ?_; (case hd => rfl); (case hg => rfl); (case hr => first | (go_simp; done) | (go_simp; rfl)); intro gb210 hg w3 hbox hb; have n0_ := Aside0.mk (below_step a0_ hb); have n1_ := Aside0.mk (hbox); have n2_ := Aside0.mk ((by rw [hg]; exact (below_size a0_) : w.heap.size ≤ gb210)); have n3_ := Aside0.mk ((by rw [hg]; exact (below_size a0_) : w.heap.size ≤ gb210)); clear HB; have HB := n0_; have BK210 := n1_; have GW210 := n2_; have GE210 := n3_; clear n0_ n1_ n2_ n3_; clear hb hbox hg; obtain ⟨hcz4_0, hcz4_1, hcz4_2, hcz4_3, hfz4_0, hfz4_1, hfz4_2, hfz4_3⟩ := c4f_ BK210.out))
 go_loopg [5, 15] k (fun kq v5 v15 w' => ∃ (x5_1 : Int) (x15_1 : Int), v5 = .int .i64 x5_1 ∧ v15 = .int .i64 x15_1 ∧ Aside0 (spec_FileOk.l0 kq a1 x5_1 l0_1 (l0_1.length : Int) x15_1 a0_0 l0_1 l0_2 a0_3 = some r) ∧ Aside0 (kq ≤ k) ∧ Aside0 (w'.heap[gb210]? = some (.cells #[.string a0_0, (.slice A0_1 l0_1.length c0_1), (.slice A0_2 l0_2.length c0_2), .string a0_3] 25 (0, 0))) ∧ Aside0 (Below w.heap.size w w'))
 case atStart => exact ⟨(0), (0), a5_, a5_, H', ⟨Nat.le_refl _⟩, ⟨by (with_reducible repeat (first | refine blk_drewN ?_ _ | refine blk_drew ?_ | refine blk_alloc ?_ _)); exact BK210.out⟩, ⟨by repeat (first | (with_reducible first | exact HB.out | apply below_alloc | apply pw_below_drewN | apply below_drew1 | refine below_set ?_ GE210.out) | exact HB.out)⟩⟩
 case round =>
  clear H'
  try clear p2
  try clear hcz4_0
  try clear hcz4_1
  try clear hcz4_2
  try clear hcz4_3
  try clear hfz4_0
  try clear hfz4_1
  try clear hfz4_2
  try clear hfz4_3
  obtain ⟨x5_1, x15_1, rfl, rfl, HA, HK1, BK210, HB⟩ := hrel
  cases gk with
  | zero => exact absurd HA.out (by simp [spec_FileOk.l0])
  | succ k1 =>
   have H := HA.out
   clear HA
   simp only [spec_FileOk.l0] at H
   by_cases c5 : x15_1 < (l0_1.length : Int)
   ·rw [if_pos c5] at H
    have c5b0 := decide_eq_true c5
    clear c5
    by_cases c6 : 0 ≤ x15_1
    ·rw [if_pos c6] at H
     have c6b0 := decide_eq_true c6
     clear c6
     by_cases c7 : x15_1 < (l0_1.length : Int)
     ·rw [if_pos c7] at H
      have c7b0 := decide_eq_true c7
      clear c7
      have H' := Aside0.mk H
      clear H
      have p211 : 0 ≤ (x15_1 : Int) := of_decide_eq_true a3_
      have q211 : x15_1 < (l0_1.length : Int) := of_decide_eq_true a3_
      obtain ⟨ad211, e211, hx211_0, hx211_1, hx211_2⟩ := at_T27 HR0_1.out x15_1 p211 q211
      cases e211
      replace hx211_0 := (HB.out.cell (World.block_lt_of_cell? w _ hx211_0)).trans hx211_0
      replace hx211_1 := (HB.out.cell (World.block_lt_of_cell? w _ hx211_1)).trans hx211_1
      replace hx211_2 := (HB.out.cell (World.block_lt_of_cell? w _ hx211_2)).trans hx211_2
      replace p211 := eq_true p211
      replace q211 := eq_true q211
      go_wp2_with (first | ((with_reducible refine gate_dst (N := 7) rfl ?_); refine box_event ?hg (N := 7) ?hd (cs := #[.string (⟨#[]⟩ : ByteArray), .int .i64 0, .bool false]) (t := 27) ?hr ?_; (case hd => rfl); (case hg => rfl); (case hr => first | (go_simp; done) | (go_simp; rfl)); intro gb212 hg w8 hbox hb; have n0_ := Aside0.mk (blk_below (g := gb210) (o := .cells #[.string a0_0, .slice (some ad211) l0_1.length c0_1, .slice A0_2 l0_2.length c0_2, .string a0_3] 25 (0, 0)) a13_ hb); have n1_ := Aside0.mk (below_step a10_ hb); have n2_ := Aside0.mk (hbox); have n3_ := Aside0.mk ((by rw [hg]; exact (below_size a10_) : w.heap.size ≤ gb212)); have n4_ := Aside0.mk ((by rw [hg]; exact (below_size a10_) : w.heap.size ≤ gb212)); have n5_ := Aside0.mk ((by rw [hg]; exact Nat.ne_of_lt (blk_lt (g := gb210) (o := .cells #[.string a0_0, .slice (some ad211) l0_1.length c0_1, .slice A0_2 l0_2.length c0_2, .string a0_3] 25 (0, 0)) a13_) : gb210 ≠ gb212)); have n6_ := Aside0.mk ((by rw [hg]; exact Nat.ne_of_gt (blk_lt (g := gb210) (o := .cells #[.string a0_0, .slice (some ad211) l0_1.length c0_1, .slice A0_2 l0_2.length c0_2, .string a0_3] 25 (0, 0)) a13_) : gb212 ≠ gb210)); clear BK210; clear HB; have BK210 := n0_; have HB := n1_; have BK212 := n2_; have GW212 := n3_; have GE212 := n4_; have NB210_212 := n5_; have NB212_210 := n6_; clear n0_ n1_ n2_ n3_ n4_ n5_ n6_; clear hb hbox hg; have hnb9 := NB212_210.out; have hnc9 := NB210_212.out; obtain ⟨hcz10_0, hcz10_1, hcz10_2, hfz10_0, hfz10_1, hfz10_2⟩ := c3f_ BK212.out))
      go_loopg [8] k1 (fun kq v8 w' => ∃ (x8_2 : Int), v8 = .int .i64 x8_2 ∧ Aside0 (spec_FileOk.l1 kq a1 (wrap64 (x5_1 + (wrap64 ((((rd_T27 l0_1 x15_1).f0).size : Int) + 1)))) x8_2 l0_1 (l0_1.length : Int) x15_1 a0_0 l0_1 l0_2 a0_3 ((rd_T27 l0_1 x15_1).f0) ((rd_T27 l0_1 x15_1).f1) ((rd_T27 l0_1 x15_1).f2) = some r) ∧ Aside0 (kq ≤ k1) ∧ Aside0 (w'.heap[gb210]? = some (.cells #[.string a0_0, (.slice (some ad211) l0_1.length c0_1), (.slice A0_2 l0_2.length c0_2), .string a0_3] 25 (0, 0))) ∧ Aside0 (w'.heap[gb212]? = some (.cells #[.string ((rd_T27 l0_1 x15_1).f0), .int .i64 ((rd_T27 l0_1 x15_1).f1), .bool ((rd_T27 l0_1 x15_1).f2)] 27 (0, 0))) ∧ Aside0 (Below w.heap.size w w'))
      case atStart => exact ⟨(0), a5_, H', ⟨Nat.le_refl _⟩, ⟨by (with_reducible repeat (first | refine blk_drewN ?_ _ | refine blk_drew ?_ | refine blk_alloc ?_ _)); refine blk_far ?_ NB210_212.out _; (with_reducible repeat (first | refine blk_drewN ?_ _ | refine blk_drew ?_ | refine blk_alloc ?_ _)); refine blk_far ?_ NB210_212.out _; (with_reducible repeat (first | refine blk_drewN ?_ _ | refine blk_drew ?_ | refine blk_alloc ?_ _)); refine blk_far ?_ NB210_212.out _; (with_reducible repeat (first | refine blk_drewN ?_ _ | refine blk_drew ?_ | refine blk_alloc ?_ _)); exact BK210.out⟩, ⟨by (with_reducible repeat (first | refine blk_drewN ?_ _ | refine blk_drew ?_ | refine blk_alloc ?_ _)); refine blk_put (cs := #[.string ((rd_T27 l0_1 x15_1).f0), .int .i64 ((rd_T27 l0_1 x15_1).f1), .bool false]) ?_ 2 _ rfl; (with_reducible repeat (first | refine blk_drewN ?_ _ | refine blk_drew ?_ | refine blk_alloc ?_ _)); refine blk_put (cs := #[.string ((rd_T27 l0_1 x15_1).f0), .int .i64 0, .bool false]) ?_ 1 _ rfl; (with_reducible repeat (first | refine blk_drewN ?_ _ | refine blk_drew ?_ | refine blk_alloc ?_ _)); refine blk_put (cs := #[.string (⟨#[]⟩ : ByteArray), .int .i64 0, .bool false]) ?_ 0 _ rfl; (with_reducible repeat (first | refine blk_drewN ?_ _ | refine blk_drew ?_ | refine blk_alloc ?_ _)); exact BK212.out⟩, ⟨by repeat (first | (with_reducible first | exact HB.out | apply below_alloc | apply pw_below_drewN | apply below_drew1 | refine below_set ?_ GE210.out | refine below_set ?_ GE212.out) | exact HB.out)⟩⟩
      case round =>
       clear H'
       try clear p2
       try clear q2
       try clear hx2
       try clear c5
       try clear c5b0
       try clear c6
       try clear c6b0
       try clear p6
       try clear c7
       try clear c7b0
       try clear c9
       try clear hcz10_0
       try clear hcz10_1
       try clear hcz10_2
       try clear hcz4_0
       try clear hcz4_1
       try clear hcz4_2
       try clear hcz4_3
       try clear hfz10_0
       try clear hfz10_1
       try clear hfz10_2
       try clear hfz4_0
       try clear hfz4_1
       try clear hfz4_2
       try clear hfz4_3
       try clear hx211_0
       try clear hx211_1
       try clear hx211_2
       try clear p2
       try clear p211
       try clear q211
       obtain ⟨x8_2, rfl, HA, HK2, BK210, BK212, HB⟩ := hrel
       cases gk with
       | zero => exact absurd HA.out (by simp [spec_FileOk.l1])
       | succ k2 =>
        have H := HA.out
        clear HA
        simp only [spec_FileOk.l1] at H
        by_cases c11 : x8_2 < (((rd_T27 l0_1 x15_1).f0).size : Int)
        ·rw [if_pos c11] at H
         have c11b0 := decide_eq_true c11
         clear c11
         by_cases c12 : 0 ≤ x8_2
         ·rw [if_pos c12] at H
          have c12b0 := decide_eq_true c12
          clear c12
          by_cases c14 : (bt ((rd_T27 l0_1 x15_1).f0) x8_2) = 0
          ·rw [if_pos c14] at H
           have c14b0 : ((bt ((rd_T27 l0_1 x15_1).f0) x8_2) == 0) = true := beq_iff_eq.mpr c14
           have c14b1 : ((bt ((rd_T27 l0_1 x15_1).f0) x8_2) != 0) = false := bne_eq_false_iff_eq.mpr c14
           clear c14
           obtain rfl := Option.some.inj H
           have hnb15 := NB212_210.out
           have hnc15 := NB210_212.out
           obtain ⟨hcz16_0, hcz16_1, hcz16_2, hfz16_0, hfz16_1, hfz16_2⟩ := c3f_ BK212.out
           have p13 : 0 ≤ (x8_2 : Int) := of_decide_eq_true a3_
           have q13 : x8_2 < (((rd_T27 l0_1 x15_1).f0).size : Int) := of_decide_eq_true a3_
           have hx13 := bt_at ((rd_T27 l0_1 x15_1).f0) x8_2
           replace p13 := eq_true p13
           replace q13 := eq_true q13
           go_wp2
           go_ret
           exact ⟨by first | rfl | (simp [errW_none, errW_some] <;> rfl) | (simp [*, errW_none, errW_some] <;> rfl), by repeat (first | (with_reducible first | exact HB.out | apply below_alloc | apply pw_below_drewN | apply below_drew1 | refine below_set ?_ GE210.out | refine below_set ?_ GE212.out) | exact HB.out)⟩
          ·rw [if_neg c14] at H
           have c14b0 : ((bt ((rd_T27 l0_1 x15_1).f0) x8_2) == 0) = false := beq_eq_false_iff_ne.mpr c14
           have c14b1 : ((bt ((rd_T27 l0_1 x15_1).f0) x8_2) != 0) = true := bne_iff_ne.mpr c14
           have H' := Aside0.mk H
           clear H
           have hnb17 := NB212_210.out
           have hnc17 := NB210_212.out
           obtain ⟨hcz18_0, hcz18_1, hcz18_2, hfz18_0, hfz18_1, hfz18_2⟩ := c3f_ BK212.out
           have p13 : 0 ≤ (x8_2 : Int) := of_decide_eq_true a3_
           have q13 : x8_2 < (((rd_T27 l0_1 x15_1).f0).size : Int) := of_decide_eq_true a3_
           have hx13 := bt_at ((rd_T27 l0_1 x15_1).f0) x8_2
           replace p13 := eq_true p13
           replace q13 := eq_true q13
           go_wp2
           go_roundg k2
           case measure => have := HK1.out; have := HK2.out; omega
           case rel => exact ⟨(wrap64 (x8_2 + 1)), a5_, H', ⟨by have := HK1.out; have := HK2.out; omega⟩, ⟨by (with_reducible repeat (first | refine blk_drewN ?_ _ | refine blk_drew ?_ | refine blk_alloc ?_ _)); exact BK210.out⟩, ⟨by (with_reducible repeat (first | refine blk_drewN ?_ _ | refine blk_drew ?_ | refine blk_alloc ?_ _)); exact BK212.out⟩, ⟨by repeat (first | (with_reducible first | exact HB.out | apply below_alloc | apply pw_below_drewN | apply below_drew1 | refine below_set ?_ GE210.out | refine below_set ?_ GE212.out) | exact HB.out)⟩⟩
         ·rw [if_neg c12] at H
          exact absurd H (by simp)
        ·rw [if_neg c11] at H
         have c11b0 := decide_eq_false c11
         clear c11
         have H' := Aside0.mk H
         clear H
         have hnb19 := NB212_210.out
         have hnc19 := NB210_212.out
         obtain ⟨hcz20_0, hcz20_1, hcz20_2, hfz20_0, hfz20_1, hfz20_2⟩ := c3f_ BK212.out
         go_wp2
         go_roundg k2
         case measure => have := HK1.out; have := HK2.out; omega
         case rel => exact ⟨((wrap64 (x5_1 + (wrap64 ((((rd_T27 l0_1 x15_1).f0).size : Int) + 1))))), (wrap64 (x15_1 + 1)), a5_, a5_, H', ⟨by have := HK1.out; have := HK2.out; omega⟩, ⟨by (with_reducible repeat (first | refine blk_drewN ?_ _ | refine blk_drew ?_ | refine blk_alloc ?_ _)); exact BK210.out⟩, ⟨by repeat (first | (with_reducible first | exact HB.out | apply below_alloc | apply pw_below_drewN | apply below_drew1 | refine below_set ?_ GE210.out | refine below_set ?_ GE212.out) | exact HB.out)⟩⟩
     ·rw [if_neg c7] at H
      exact absurd H (by simp)
    ·rw [if_neg c6] at H
     exact absurd H (by simp)
   ·rw [if_neg c5] at H
    have c5b0 := decide_eq_false c5
    clear c5
    have H' := Aside0.mk H
    clear H
    obtain ⟨hcz21_0, hcz21_1, hcz21_2, hcz21_3, hfz21_0, hfz21_1, hfz21_2, hfz21_3⟩ := c4f_ BK210.out
    go_wp2
    go_loopg [41] k1 (fun kq v41 w' => ∃ (x41_2 : Int), v41 = .int .i64 x41_2 ∧ Aside0 (spec_FileOk.l2 kq a1 x5_1 l0_2 (l0_2.length : Int) x41_2 a0_0 l0_1 l0_2 a0_3 = some r) ∧ Aside0 (kq ≤ k1) ∧ Aside0 (w'.heap[gb210]? = some (.cells #[.string a0_0, (.slice A0_1 l0_1.length c0_1), (.slice A0_2 l0_2.length c0_2), .string a0_3] 25 (0, 0))) ∧ Aside0 (Below w.heap.size w w'))
    case atStart => exact ⟨(0), a5_, H', ⟨Nat.le_refl _⟩, ⟨by (with_reducible repeat (first | refine blk_drewN ?_ _ | refine blk_drew ?_ | refine blk_alloc ?_ _)); exact BK210.out⟩, ⟨by repeat (first | (with_reducible first | exact HB.out | apply below_alloc | apply pw_below_drewN | apply below_drew1 | refine below_set ?_ GE210.out) | exact HB.out)⟩⟩
    case round =>
     clear H'
     try clear c1
     try clear p1
     try clear q1
     try clear hx1
     try clear p2
     try clear q2
     try clear hx2
     try clear c5
     try clear c5b0
     try clear c6
     try clear c6b0
     try clear p6
     try clear c7
     try clear c7b0
     try clear c9
     try clear c11
     try clear c11b0
     try clear c12
     try clear c12b0
     try clear p13
     try clear q13
     try clear hx13
     try clear c14
     try clear c14b0
     try clear c14b1
     try clear c15
     try clear c17
     try clear c19
     try clear p21
     try clear q21
     try clear hx21
     try clear hcz10_0
     try clear hcz10_1
     try clear hcz10_2
     try clear hcz16_0
     try clear hcz16_1
     try clear hcz16_2
     try clear hcz18_0
     try clear hcz18_1
     try clear hcz18_2
     try clear hcz20_0
     try clear hcz20_1
     try clear hcz20_2
     try clear hcz21_0
     try clear hcz21_1
     try clear hcz21_2
     try clear hcz21_3
     try clear hcz4_0
     try clear hcz4_1
     try clear hcz4_2
     try clear hcz4_3
     try clear hfz10_0
     try clear hfz10_1
     try clear hfz10_2
     try clear hfz16_0
     try clear hfz16_1
     try clear hfz16_2
     try clear hfz18_0
     try clear hfz18_1
     try clear hfz18_2
     try clear hfz20_0
     try clear hfz20_1
     try clear hfz20_2
     try clear hfz21_0
     try clear hfz21_1
     try clear hfz21_2
     try clear hfz21_3
     try clear hfz4_0
     try clear hfz4_1
     try clear hfz4_2
     try clear hfz4_3
     try clear hx211_0
     try clear hx211_1
     try clear hx211_2
     try clear p13
     try clear p2
     try clear p211
     try clear p6
     try clear q13
     try clear q2
     try clear q211
     obtain ⟨x41_2, rfl, HA, HK2, BK210, HB⟩ := hrel
     cases gk with
     | zero => exact absurd HA.out (by simp [spec_FileOk.l2])
     | succ k2 =>
      have H := HA.out
      clear HA
      simp only [spec_FileOk.l2] at H
      by_cases c22 : x41_2 < (l0_2.length : Int)
      ·rw [if_pos c22] at H
       have c22b0 := decide_eq_true c22
       clear c22
       by_cases c23 : 0 ≤ x41_2
       ·rw [if_pos c23] at H
        have c23b0 := decide_eq_true c23
        clear c23
        by_cases c24 : x41_2 < (l0_2.length : Int)
        ·rw [if_pos c24] at H
         have c24b0 := decide_eq_true c24
         clear c24
         by_cases c25 : a1 = true
         ·subst c25
          have H1 : (if ((rd_T45 l0_2 x41_2).f0) < (-2147483648) then (some false) else (if ((rd_T45 l0_2 x41_2).f0) > 2147483647 then (some false) else (spec_FileOk.l2 k2 true x5_1 l0_2 (l0_2.length : Int) (wrap64 (x41_2 + 1)) a0_0 l0_1 l0_2 a0_3))) = some r := by rw [if_pos rfl] at H; exact H
          clear H
          have H := H1
          clear H1
          by_cases c26 : ((rd_T45 l0_2 x41_2).f0) < (-2147483648)
          ·rw [if_pos c26] at H
           have c26b0 := decide_eq_true c26
           clear c26
           obtain rfl := Option.some.inj H
           have p213 : 0 ≤ (x41_2 : Int) := of_decide_eq_true a3_
           have q213 : x41_2 < (l0_2.length : Int) := of_decide_eq_true a3_
           obtain ⟨ad213, e213, hx213_0, hx213_1⟩ := at_T45 HR0_2.out x41_2 p213 q213
           cases e213
           replace hx213_0 := (HB.out.cell (World.block_lt_of_cell? w _ hx213_0)).trans hx213_0
           replace hx213_1 := (HB.out.cell (World.block_lt_of_cell? w _ hx213_1)).trans hx213_1
           replace p213 := eq_true p213
           replace q213 := eq_true q213
           go_wp2_with (first | ((with_reducible refine gate_dst (N := 10) rfl ?_); refine box_event ?hg (N := 10) ?hd (cs := #[.int .i64 0, .int .u8 0]) (t := 45) ?hr ?_; (case hd => rfl); (case hg => rfl); (case hr => first | (go_simp; done) | (go_simp; rfl)); intro gb214 hg w27 hbox hb; have n0_ := Aside0.mk (blk_below (g := gb210) (o := .cells #[.string a0_0, .slice A0_1 l0_1.length c0_1, .slice (some ad213) l0_2.length c0_2, .string a0_3] 25 (0, 0)) a13_ hb); have n1_ := Aside0.mk (below_step a10_ hb); have n2_ := Aside0.mk (hbox); have n3_ := Aside0.mk ((by rw [hg]; exact (below_size a10_) : w.heap.size ≤ gb214)); have n4_ := Aside0.mk ((by rw [hg]; exact (below_size a10_) : w.heap.size ≤ gb214)); have n5_ := Aside0.mk ((by rw [hg]; exact Nat.ne_of_lt (blk_lt (g := gb210) (o := .cells #[.string a0_0, .slice A0_1 l0_1.length c0_1, .slice (some ad213) l0_2.length c0_2, .string a0_3] 25 (0, 0)) a13_) : gb210 ≠ gb214)); have n6_ := Aside0.mk ((by rw [hg]; exact Nat.ne_of_gt (blk_lt (g := gb210) (o := .cells #[.string a0_0, .slice A0_1 l0_1.length c0_1, .slice (some ad213) l0_2.length c0_2, .string a0_3] 25 (0, 0)) a13_) : gb214 ≠ gb210)); clear BK210; clear HB; have BK210 := n0_; have HB := n1_; have BK214 := n2_; have GW214 := n3_; have GE214 := n4_; have NB210_214 := n5_; have NB214_210 := n6_; clear n0_ n1_ n2_ n3_ n4_ n5_ n6_; clear hb hbox hg; have hnb28 := NB214_210.out; have hnc28 := NB210_214.out; obtain ⟨hcz29_0, hcz29_1, hfz29_0, hfz29_1⟩ := c2f_ BK214.out))
           go_ret
           exact ⟨by first | rfl | (simp [errW_none, errW_some] <;> rfl) | (simp [*, errW_none, errW_some] <;> rfl), by repeat (first | (with_reducible first | exact HB.out | apply below_alloc | apply pw_below_drewN | apply below_drew1 | refine below_set ?_ GE210.out | refine below_set ?_ GE214.out) | exact HB.out)⟩
          ·rw [if_neg c26] at H
           have c26b0 := decide_eq_false c26
           clear c26
           by_cases c30 : ((rd_T45 l0_2 x41_2).f0) > 2147483647
           ·rw [if_pos c30] at H
            have c30b0 : decide (2147483647 < ((rd_T45 l0_2 x41_2).f0)) = true := decide_eq_true c30
            clear c30
            obtain rfl := Option.some.inj H
            have p213 : 0 ≤ (x41_2 : Int) := of_decide_eq_true a3_
            have q213 : x41_2 < (l0_2.length : Int) := of_decide_eq_true a3_
            obtain ⟨ad213, e213, hx213_0, hx213_1⟩ := at_T45 HR0_2.out x41_2 p213 q213
            cases e213
            replace hx213_0 := (HB.out.cell (World.block_lt_of_cell? w _ hx213_0)).trans hx213_0
            replace hx213_1 := (HB.out.cell (World.block_lt_of_cell? w _ hx213_1)).trans hx213_1
            replace p213 := eq_true p213
            replace q213 := eq_true q213
            go_wp2_with (first | ((with_reducible refine gate_dst (N := 10) rfl ?_); refine box_event ?hg (N := 10) ?hd (cs := #[.int .i64 0, .int .u8 0]) (t := 45) ?hr ?_; (case hd => rfl); (case hg => rfl); (case hr => first | (go_simp; done) | (go_simp; rfl)); intro gb214 hg w31 hbox hb; have n0_ := Aside0.mk (blk_below (g := gb210) (o := .cells #[.string a0_0, .slice A0_1 l0_1.length c0_1, .slice (some ad213) l0_2.length c0_2, .string a0_3] 25 (0, 0)) a13_ hb); have n1_ := Aside0.mk (below_step a10_ hb); have n2_ := Aside0.mk (hbox); have n3_ := Aside0.mk ((by rw [hg]; exact (below_size a10_) : w.heap.size ≤ gb214)); have n4_ := Aside0.mk ((by rw [hg]; exact (below_size a10_) : w.heap.size ≤ gb214)); have n5_ := Aside0.mk ((by rw [hg]; exact Nat.ne_of_lt (blk_lt (g := gb210) (o := .cells #[.string a0_0, .slice A0_1 l0_1.length c0_1, .slice (some ad213) l0_2.length c0_2, .string a0_3] 25 (0, 0)) a13_) : gb210 ≠ gb214)); have n6_ := Aside0.mk ((by rw [hg]; exact Nat.ne_of_gt (blk_lt (g := gb210) (o := .cells #[.string a0_0, .slice A0_1 l0_1.length c0_1, .slice (some ad213) l0_2.length c0_2, .string a0_3] 25 (0, 0)) a13_) : gb214 ≠ gb210)); clear BK210; clear HB; have BK210 := n0_; have HB := n1_; have BK214 := n2_; have GW214 := n3_; have GE214 := n4_; have NB210_214 := n5_; have NB214_210 := n6_; clear n0_ n1_ n2_ n3_ n4_ n5_ n6_; clear hb hbox hg; have hnb32 := NB214_210.out; have hnc32 := NB210_214.out; obtain ⟨hcz33_0, hcz33_1, hfz33_0, hfz33_1⟩ := c2f_ BK214.out))
            go_ret
            exact ⟨by first | rfl | (simp [errW_none, errW_some] <;> rfl) | (simp [*, errW_none, errW_some] <;> rfl), by repeat (first | (with_reducible first | exact HB.out | apply below_alloc | apply pw_below_drewN | apply below_drew1 | refine below_set ?_ GE210.out | refine below_set ?_ GE214.out) | exact HB.out)⟩
           ·rw [if_neg c30] at H
            have c30b0 : decide (2147483647 < ((rd_T45 l0_2 x41_2).f0)) = false := decide_eq_false c30
            clear c30
            have H' := Aside0.mk H
            clear H
            have p213 : 0 ≤ (x41_2 : Int) := of_decide_eq_true a3_
            have q213 : x41_2 < (l0_2.length : Int) := of_decide_eq_true a3_
            obtain ⟨ad213, e213, hx213_0, hx213_1⟩ := at_T45 HR0_2.out x41_2 p213 q213
            cases e213
            replace hx213_0 := (HB.out.cell (World.block_lt_of_cell? w _ hx213_0)).trans hx213_0
            replace hx213_1 := (HB.out.cell (World.block_lt_of_cell? w _ hx213_1)).trans hx213_1
            replace p213 := eq_true p213
            replace q213 := eq_true q213
            go_wp2_with (first | ((with_reducible refine gate_dst (N := 10) rfl ?_); refine box_event ?hg (N := 10) ?hd (cs := #[.int .i64 0, .int .u8 0]) (t := 45) ?hr ?_; (case hd => rfl); (case hg => rfl); (case hr => first | (go_simp; done) | (go_simp; rfl)); intro gb214 hg w34 hbox hb; have n0_ := Aside0.mk (blk_below (g := gb210) (o := .cells #[.string a0_0, .slice A0_1 l0_1.length c0_1, .slice (some ad213) l0_2.length c0_2, .string a0_3] 25 (0, 0)) a13_ hb); have n1_ := Aside0.mk (below_step a10_ hb); have n2_ := Aside0.mk (hbox); have n3_ := Aside0.mk ((by rw [hg]; exact (below_size a10_) : w.heap.size ≤ gb214)); have n4_ := Aside0.mk ((by rw [hg]; exact (below_size a10_) : w.heap.size ≤ gb214)); have n5_ := Aside0.mk ((by rw [hg]; exact Nat.ne_of_lt (blk_lt (g := gb210) (o := .cells #[.string a0_0, .slice A0_1 l0_1.length c0_1, .slice (some ad213) l0_2.length c0_2, .string a0_3] 25 (0, 0)) a13_) : gb210 ≠ gb214)); have n6_ := Aside0.mk ((by rw [hg]; exact Nat.ne_of_gt (blk_lt (g := gb210) (o := .cells #[.string a0_0, .slice A0_1 l0_1.length c0_1, .slice (some ad213) l0_2.length c0_2, .string a0_3] 25 (0, 0)) a13_) : gb214 ≠ gb210)); clear BK210; clear HB; have BK210 := n0_; have HB := n1_; have BK214 := n2_; have GW214 := n3_; have GE214 := n4_; have NB210_214 := n5_; have NB214_210 := n6_; clear n0_ n1_ n2_ n3_ n4_ n5_ n6_; clear hb hbox hg; have hnb35 := NB214_210.out; have hnc35 := NB210_214.out; obtain ⟨hcz36_0, hcz36_1, hfz36_0, hfz36_1⟩ := c2f_ BK214.out))
            go_roundg k2
            case measure => have := HK1.out; have := HK2.out; omega
            case rel => exact ⟨(wrap64 (x41_2 + 1)), a5_, H', ⟨by have := HK1.out; have := HK2.out; omega⟩, ⟨by (with_reducible repeat (first | refine blk_drewN ?_ _ | refine blk_drew ?_ | refine blk_alloc ?_ _)); refine blk_far ?_ NB210_214.out _; (with_reducible repeat (first | refine blk_drewN ?_ _ | refine blk_drew ?_ | refine blk_alloc ?_ _)); refine blk_far ?_ NB210_214.out _; (with_reducible repeat (first | refine blk_drewN ?_ _ | refine blk_drew ?_ | refine blk_alloc ?_ _)); exact BK210.out⟩, ⟨by repeat (first | (with_reducible first | exact HB.out | apply below_alloc | apply pw_below_drewN | apply below_drew1 | refine below_set ?_ GE210.out | refine below_set ?_ GE214.out) | exact HB.out)⟩⟩
         ·replace c25 := Bool.eq_false_iff.mpr c25
          subst c25
          have H1 : (spec_FileOk.l2 k2 false x5_1 l0_2 (l0_2.length : Int) (wrap64 (x41_2 + 1)) a0_0 l0_1 l0_2 a0_3) = some r := by rw [if_neg (show ¬ (false = true) by decide)] at H; exact H
          clear H
          have H := H1
          clear H1
          have H' := Aside0.mk H
          clear H
          have p213 : 0 ≤ (x41_2 : Int) := of_decide_eq_true a3_
          have q213 : x41_2 < (l0_2.length : Int) := of_decide_eq_true a3_
          obtain ⟨ad213, e213, hx213_0, hx213_1⟩ := at_T45 HR0_2.out x41_2 p213 q213
          cases e213
          replace hx213_0 := (HB.out.cell (World.block_lt_of_cell? w _ hx213_0)).trans hx213_0
          replace hx213_1 := (HB.out.cell (World.block_lt_of_cell? w _ hx213_1)).trans hx213_1
          replace p213 := eq_true p213
          replace q213 := eq_true q213
          go_wp2_with (first | ((with_reducible refine gate_dst (N := 10) rfl ?_); refine box_event ?hg (N := 10) ?hd (cs := #[.int .i64 0, .int .u8 0]) (t := 45) ?hr ?_; (case hd => rfl); (case hg => rfl); (case hr => first | (go_simp; done) | (go_simp; rfl)); intro gb214 hg w37 hbox hb; have n0_ := Aside0.mk (blk_below (g := gb210) (o := .cells #[.string a0_0, .slice A0_1 l0_1.length c0_1, .slice (some ad213) l0_2.length c0_2, .string a0_3] 25 (0, 0)) a13_ hb); have n1_ := Aside0.mk (below_step a10_ hb); have n2_ := Aside0.mk (hbox); have n3_ := Aside0.mk ((by rw [hg]; exact (below_size a10_) : w.heap.size ≤ gb214)); have n4_ := Aside0.mk ((by rw [hg]; exact (below_size a10_) : w.heap.size ≤ gb214)); have n5_ := Aside0.mk ((by rw [hg]; exact Nat.ne_of_lt (blk_lt (g := gb210) (o := .cells #[.string a0_0, .slice A0_1 l0_1.length c0_1, .slice (some ad213) l0_2.length c0_2, .string a0_3] 25 (0, 0)) a13_) : gb210 ≠ gb214)); have n6_ := Aside0.mk ((by rw [hg]; exact Nat.ne_of_gt (blk_lt (g := gb210) (o := .cells #[.string a0_0, .slice A0_1 l0_1.length c0_1, .slice (some ad213) l0_2.length c0_2, .string a0_3] 25 (0, 0)) a13_) : gb214 ≠ gb210)); clear BK210; clear HB; have BK210 := n0_; have HB := n1_; have BK214 := n2_; have GW214 := n3_; have GE214 := n4_; have NB210_214 := n5_; have NB214_210 := n6_; clear n0_ n1_ n2_ n3_ n4_ n5_ n6_; clear hb hbox hg; have hnb38 := NB214_210.out; have hnc38 := NB210_214.out; obtain ⟨hcz39_0, hcz39_1, hfz39_0, hfz39_1⟩ := c2f_ BK214.out))
          go_roundg k2
          case measure => have := HK1.out; have := HK2.out; omega
          case rel => exact ⟨(wrap64 (x41_2 + 1)), a5_, H', ⟨by have := HK1.out; have := HK2.out; omega⟩, ⟨by (with_reducible repeat (first | refine blk_drewN ?_ _ | refine blk_drew ?_ | refine blk_alloc ?_ _)); refine blk_far ?_ NB210_214.out _; (with_reducible repeat (first | refine blk_drewN ?_ _ | refine blk_drew ?_ | refine blk_alloc ?_ _)); refine blk_far ?_ NB210_214.out _; (with_reducible repeat (first | refine blk_drewN ?_ _ | refine blk_drew ?_ | refine blk_alloc ?_ _)); exact BK210.out⟩, ⟨by repeat (first | (with_reducible first | exact HB.out | apply below_alloc | apply pw_below_drewN | apply below_drew1 | refine below_set ?_ GE210.out | refine below_set ?_ GE214.out) | exact HB.out)⟩⟩
        ·rw [if_neg c24] at H
         exact absurd H (by simp)
       ·rw [if_neg c23] at H
        exact absurd H (by simp)
      ·rw [if_neg c22] at H
       have c22b0 := decide_eq_false c22
       clear c22
       have H' := Aside0.mk H
       clear H
       go_wp2
       go_loopg [11] k2 (fun kq v11 w' => ∃ (x11_3 : Int), v11 = .int .i64 x11_3 ∧ Aside0 (spec_FileOk.l3 kq x5_1 x11_3 a0_0 l0_1 l0_2 a0_3 = some r) ∧ Aside0 (kq ≤ k2) ∧ Aside0 (w'.heap[gb210]? = some (.cells #[.string a0_0, (.slice A0_1 l0_1.length c0_1), (.slice A0_2 l0_2.length c0_2), .string a0_3] 25 (0, 0))) ∧ Aside0 (Below w.heap.size w w'))
       case atStart => exact ⟨(0), a5_, H', ⟨Nat.le_refl _⟩, ⟨by (with_reducible repeat (first | refine blk_drewN ?_ _ | refine blk_drew ?_ | refine blk_alloc ?_ _)); exact BK210.out⟩, ⟨by repeat (first | (with_reducible first | exact HB.out | apply below_alloc | apply pw_below_drewN | apply below_drew1 | refine below_set ?_ GE210.out) | exact HB.out)⟩⟩
       case round =>
        clear H'
        try clear c1
        try clear p1
        try clear q1
        try clear hx1
        try clear c2
        try clear p2
        try clear q2
        try clear hx2
        try clear c3
        try clear c5
        try clear c5b0
        try clear c6
        try clear c6b0
        try clear p6
        try clear c7
        try clear c7b0
        try clear c9
        try clear c11
        try clear c11b0
        try clear c12
        try clear c12b0
        try clear p13
        try clear q13
        try clear hx13
        try clear c14
        try clear c14b0
        try clear c14b1
        try clear c15
        try clear c17
        try clear c19
        try clear p21
        try clear q21
        try clear hx21
        try clear c22
        try clear c22b0
        try clear c23
        try clear c23b0
        try clear c24
        try clear c24b0
        try clear c25
        try clear c26
        try clear c26b0
        try clear c28
        try clear c30
        try clear c30b0
        try clear c32
        try clear c35
        try clear c38
        try clear hcz10_0
        try clear hcz10_1
        try clear hcz10_2
        try clear hcz16_0
        try clear hcz16_1
        try clear hcz16_2
        try clear hcz18_0
        try clear hcz18_1
        try clear hcz18_2
        try clear hcz20_0
        try clear hcz20_1
        try clear hcz20_2
        try clear hcz21_0
        try clear hcz21_1
        try clear hcz21_2
        try clear hcz21_3
        try clear hcz29_0
        try clear hcz29_1
        try clear hcz33_0
        try clear hcz33_1
        try clear hcz36_0
        try clear hcz36_1
        try clear hcz39_0
        try clear hcz39_1
        try clear hcz4_0
        try clear hcz4_1
        try clear hcz4_2
        try clear hcz4_3
        try clear hfz10_0
        try clear hfz10_1
        try clear hfz10_2
        try clear hfz16_0
        try clear hfz16_1
        try clear hfz16_2
        try clear hfz18_0
        try clear hfz18_1
        try clear hfz18_2
        try clear hfz20_0
        try clear hfz20_1
        try clear hfz20_2
        try clear hfz21_0
        try clear hfz21_1
        try clear hfz21_2
        try clear hfz21_3
        try clear hfz29_0
        try clear hfz29_1
        try clear hfz33_0
        try clear hfz33_1
        try clear hfz36_0
        try clear hfz36_1
        try clear hfz39_0
        try clear hfz39_1
        try clear hfz4_0
        try clear hfz4_1
        try clear hfz4_2
        try clear hfz4_3
        try clear hx211_0
        try clear hx211_1
        try clear hx211_2
        try clear hx213_0
        try clear hx213_1
        try clear p1
        try clear p13
        try clear p2
        try clear p21
        try clear p211
        try clear p213
        try clear p6
        try clear q1
        try clear q13
        try clear q2
        try clear q21
        try clear q211
        try clear q213
        obtain ⟨x11_3, rfl, HA, HK3, BK210, HB⟩ := hrel
        cases gk with
        | zero => exact absurd HA.out (by simp [spec_FileOk.l3])
        | succ k3 =>
         have H := HA.out
         clear HA
         simp only [spec_FileOk.l3] at H
         by_cases c40 : x11_3 < (a0_3.size : Int)
         ·rw [if_pos c40] at H
          have c40b0 := decide_eq_true c40
          clear c40
          by_cases c41 : 0 ≤ x11_3
          ·rw [if_pos c41] at H
           have c41b0 := decide_eq_true c41
           clear c41
           by_cases c43 : (bt a0_3 x11_3) = 10
           ·rw [if_pos c43] at H
            have c43b0 : ((bt a0_3 x11_3) == 10) = true := beq_iff_eq.mpr c43
            have c43b1 : ((bt a0_3 x11_3) != 10) = false := bne_eq_false_iff_eq.mpr c43
            clear c43
            obtain rfl := Option.some.inj H
            obtain ⟨hcz44_0, hcz44_1, hcz44_2, hcz44_3, hfz44_0, hfz44_1, hfz44_2, hfz44_3⟩ := c4f_ BK210.out
            have p42 : 0 ≤ (x11_3 : Int) := of_decide_eq_true a3_
            have q42 : x11_3 < (a0_3.size : Int) := of_decide_eq_true a3_
            have hx42 := bt_at a0_3 x11_3
            replace p42 := eq_true p42
            replace q42 := eq_true q42
            go_wp2
            go_ret
            exact ⟨by first | rfl | (simp [errW_none, errW_some] <;> rfl) | (simp [*, errW_none, errW_some] <;> rfl), by repeat (first | (with_reducible first | exact HB.out | apply below_alloc | apply pw_below_drewN | apply below_drew1 | refine below_set ?_ GE210.out) | exact HB.out)⟩
           ·rw [if_neg c43] at H
            have c43b0 : ((bt a0_3 x11_3) == 10) = false := beq_eq_false_iff_ne.mpr c43
            have c43b1 : ((bt a0_3 x11_3) != 10) = true := bne_iff_ne.mpr c43
            have H' := Aside0.mk H
            clear H
            obtain ⟨hcz45_0, hcz45_1, hcz45_2, hcz45_3, hfz45_0, hfz45_1, hfz45_2, hfz45_3⟩ := c4f_ BK210.out
            have p42 : 0 ≤ (x11_3 : Int) := of_decide_eq_true a3_
            have q42 : x11_3 < (a0_3.size : Int) := of_decide_eq_true a3_
            have hx42 := bt_at a0_3 x11_3
            replace p42 := eq_true p42
            replace q42 := eq_true q42
            go_wp2
            go_roundg k3
            case measure => have := HK1.out; have := HK2.out; have := HK3.out; omega
            case rel => exact ⟨(wrap64 (x11_3 + 1)), a5_, H', ⟨by have := HK1.out; have := HK2.out; have := HK3.out; omega⟩, ⟨by (with_reducible repeat (first | refine blk_drewN ?_ _ | refine blk_drew ?_ | refine blk_alloc ?_ _)); exact BK210.out⟩, ⟨by repeat (first | (with_reducible first | exact HB.out | apply below_alloc | apply pw_below_drewN | apply below_drew1 | refine below_set ?_ GE210.out) | exact HB.out)⟩⟩
          ·rw [if_neg c41] at H
           exact absurd H (by simp)
         ·rw [if_neg c40] at H
          have c40b0 := decide_eq_false c40
          clear c40
          by_cases c46 : x5_1 ≤ 255
          ·rw [if_pos c46] at H
           have c46b0 := decide_eq_true c46
           clear c46
           replace H := Option.bind_eq_some_iff.mp H
           obtain ⟨t215, A470, H⟩ := H
           replace H : (some t215) = some r := H
           have A47 := Aside0.mk A470
           clear A470
           obtain rfl := Option.some.inj H
           obtain ⟨hcz48_0, hcz48_1, hcz48_2, hcz48_3, hfz48_0, hfz48_1, hfz48_2, hfz48_3⟩ := c4f_ BK210.out
           go_wp2_with (first | (go_at_call 24; (with_reducible refine (spec_PlaceOk.calls k3 a0_0 _ _ l0_1 _ _ l0_2 a0_3 t215 _ ?side1 ?side2 ?side3 ?side4 A47.out).mono ?_); (case side1 => repeat (first | exact (Kd.C_below HR0_1.out HB.out) | (with_reducible refine Kd.C_alloc ?_ _) | (with_reducible refine Kd.C_drewN ?_ _) | (with_reducible refine Kd.C_drew ?_))); (case side2 => exact HC0_1.out); (case side3 => repeat (first | exact (Kd.C_below HR0_2.out HB.out) | (with_reducible refine Kd.C_alloc ?_ _) | (with_reducible refine Kd.C_drewN ?_ _) | (with_reducible refine Kd.C_drew ?_))); (case side4 => exact HC0_2.out); rintro e w49 ⟨rfl, hb⟩; have n0_ := Aside0.mk (blk_below (g := gb210) (o := .cells #[.string a0_0, .slice A0_1 l0_1.length c0_1, .slice A0_2 l0_2.length c0_2, .string a0_3] 25 (0, 0)) a13_ hb); have n1_ := Aside0.mk (below_step a10_ hb); clear BK210; clear HB; have BK210 := n0_; have HB := n1_; clear n0_ n1_; (try clear hb); (try clear hb2); (try clear hk); (try clear hi)))
           go_ret
           exact ⟨by first | rfl | (simp [errW_none, errW_some] <;> rfl) | (simp [*, errW_none, errW_some] <;> rfl), by repeat (first | (with_reducible first | exact HB.out | apply below_alloc | apply pw_below_drewN | apply below_drew1 | refine below_set ?_ GE210.out) | exact HB.out)⟩
          ·rw [if_neg c46] at H
           have c46b0 := decide_eq_false c46
           clear c46
           obtain rfl := Option.some.inj H
           obtain ⟨hcz50_0, hcz50_1, hcz50_2, hcz50_3, hfz50_0, hfz50_1, hfz50_2, hfz50_3⟩ := c4f_ BK210.out
           go_wp2
           go_ret
           exact ⟨by first | rfl | (simp [errW_none, errW_some] <;> rfl) | (simp [*, errW_none, errW_some] <;> rfl), by repeat (first | (with_reducible first | exact HB.out | apply below_alloc | apply pw_below_drewN | apply below_drew1 | refine below_set ?_ GE210.out) | exact HB.out)⟩
end Go.Proofs.YtjoaeennbfmohaaDoor.PFnZone
