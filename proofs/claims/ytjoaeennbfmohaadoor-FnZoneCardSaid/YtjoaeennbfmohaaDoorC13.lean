/- The walks of some functions. Laid by programs (wip/mkq.py, wip/mkclaim.py) out of the texts that the kit's print.sh wrote for this seat, written shorter. Not written by hand. -/
import Derived.Test.YtjoaeennbfmohaaDoorC0
namespace Go.Proofs.YtjoaeennbfmohaaDoor.PFnZone
open Go.RowKit Go.Proofs.YtjoaeennbfmohaaDoorW.PrintWords Go.Proofs.YtjoaeennbfmohaaDoorW.PrintLast Go.Proofs.YtjoaeennbfmohaaDoorW.PrintMore
attribute [local go_sem] max2_int min2_int max_two min_two max_three min_three max_four min_four   -- for this text's walks alone
set_option linter.unusedVariables false
set_option linter.unusedSimpArgs false
def spec_Lookup.l0 : Nat → Int → Int → List (S45) → Int → Int → ByteArray → List (S27) → List (S45) → ByteArray → ByteArray → Int → Int → Int → Bool → Option (ByteArray × Int × Int × Int × Bool)
 | 0, _, _, _, _, _, _, _, _, _, _, _, _, _, _ => none
 | k + 1, x2, x7, x14, x15, x16, x262000, x262001, x262002, x262003, x264000, x264001, x264002, x264003, x264004 => if x16 < x15 then (if 0 ≤ x16 then (if x16 < (x14.length : Int) then (if ((rd_T45 x14 x16).f0) ≤ x2 then (spec_Lookup.l0 k x2 (wrap64 ((rd_T45 x14 x16).f1)) x14 x15 (wrap64 (x16 + 1)) x262000 x262001 x262002 x262003 x264000 x264001 ((rd_T45 x14 x16).f0) x264003 x264004) else (if x264003 = 9223372036854775807 then (spec_Lookup.l0 k x2 x7 x14 x15 (wrap64 (x16 + 1)) x262000 x262001 x262002 x262003 x264000 x264001 x264002 ((rd_T45 x14 x16).f0) x264004) else (spec_Lookup.l0 k x2 x7 x14 x15 (wrap64 (x16 + 1)) x262000 x262001 x262002 x262003 x264000 x264001 x264002 x264003 x264004))) else (none)) else (none)) else (if 0 ≤ x7 then (if x7 < (x262001.length : Int) then (some ((rd_T27 x262001 x7).f0, (rd_T27 x262001 x7).f1, x264002, x264003, (rd_T27 x262001 x7).f2)) else (none)) else (none))
def spec_Lookup.f (k : Nat) (a0_0 : ByteArray) (l0_1 : List (S27)) (l0_2 : List (S45)) (a0_3 : ByteArray) (a1 : Int) (a2 : Int) : Option (ByteArray × Int × Int × Int × Bool) := spec_Lookup.l0 k a2 a1 l0_2 (l0_2.length : Int) 0 a0_0 l0_1 l0_2 a0_3 (⟨#[]⟩ : ByteArray) 0 (-9223372036854775808) 9223372036854775807 false
def spec_Lookup.T12 : Bool × List (List Nat × List Nat) := (true, [([], []), ([0], [0]), ([], []), ([1, 2], [1, 2]), ([3], [3]), ([4], [4]), ([], []), ([6], [6]), ([], []), ([7, 8], [7, 8]), ([9], [9]), ([10], [10]), ([], []), ([12], [12]), ([], []), ([13, 14], [13, 14]), ([15], [15]), ([16], [16]), ([0, 1, 2, 3, 4, 5], []), ([18, 5, 0, 1, 2, 3, 4, 5], [5, 18]), ([0, 1, 2, 3, 4, 5, 6, 7, 8, 9, 10, 11, 18, 19], []), ([20, 11, 19, 0, 1, 2, 3, 4, 5, 6, 7, 8, 9, 10, 11, 18, 19], [11, 20]), ([0, 1, 2, 3, 4, 5, 6, 7, 8, 9, 10, 11, 12, 13, 14, 15, 16, 17, 18, 19, 20, 21], []), ([22, 17, 21, 0, 1, 2, 3, 4, 5, 6, 7, 8, 9, 10, 11, 12, 13, 14, 15, 16, 17, 18, 19, 20, 21], [17, 22])])
def spec_Lookup.B12 : List Nat := [0, 1, 0, 7, 15, 31, 0, 64, 0, 448, 960, 1984, 0, 4096, 0, 28672, 61440, 126976, 63, 262207, 790527, 1839103, 4194303, 8388607]
theorem spec_Lookup.tab12 : rtab .any (opsOf Tryd.f15 12) = spec_Lookup.T12 := by kernel_rfl
theorem spec_Lookup.bits12 : waitsOk spec_Lookup.T12.2 spec_Lookup.B12 = true := by kernel_rfl
set_option maxHeartbeats 8000000 in
set_option maxRecDepth 100000 in
theorem spec_Lookup.calls (k : Nat) (a0_0 : ByteArray) (A0_1 : Option Addr) (c0_1 : Nat) (l0_1 : List (S27)) (A0_2 : Option Addr) (c0_2 : Nat) (l0_2 : List (S45)) (a0_3 : ByteArray) (a1 : Int) (a2 : Int) (r1 : ByteArray) (r2 : Int) (r3 : Int) (r4 : Int) (r5 : Bool) (w : World) (hr0_1 : Kd.C k27 w A0_1 l0_1.length l0_1) (hc0_1 : l0_1.length ≤ c0_1) (hr0_2 : Kd.C k45 w A0_2 l0_2.length l0_2) (hc0_2 : l0_2.length ≤ c0_2) (h : spec_Lookup.f k a0_0 l0_1 l0_2 a0_3 a1 a2 = some (r1, r2, r3, r4, r5)) :
  Calls Tryd.prog 15 #[.agg #[.string a0_0, .slice A0_1 l0_1.length c0_1, .slice A0_2 l0_2.length c0_2, .string a0_3], .int .i64 a1, .int .i64 a2] w fun e w' => e = .returned (.agg #[.string r1, .int .i64 r2, .int .i64 r3, .int .i64 r4, .bool r5]) ∧ Below w.heap.size w w' := by
 have hu25 := Tryd.underlying25
 have hu42 := Tryd.underlying42
 have hu45 := Tryd.underlying45
 have HR0_1 := Aside0.mk hr0_1
 have HC0_1 := Aside0.mk hc0_1
 clear hr0_1 hc0_1
 have HR0_2 := Aside0.mk hr0_2
 have HC0_2 := Aside0.mk hc0_2
 clear hr0_2 hc0_2
 have HB := Aside0.mk (Below.refl w.heap.size w)
 have H : (spec_Lookup.l0 k a2 a1 l0_2 (l0_2.length : Int) 0 a0_0 l0_1 l0_2 a0_3 (⟨#[]⟩ : ByteArray) 0 (-9223372036854775808) 9223372036854775807 false) = some (r1, r2, r3, r4, r5) := h
 clear h
 have H' := Aside0.mk H
 clear H
 go_enter Tryd.func15, Tryd.ntmps15
 go_wp2_with (first | ((with_reducible refine gate_dst (N := 3) rfl ?_); refine box_event ?hg (N := 3) ?hd (cs := #[.string a0_0, .slice A0_1 l0_1.length c0_1, .slice A0_2 l0_2.length c0_2, .string a0_3]) (t := 25) ?hr ?_; (case hd => rfl); (case hg => rfl); (case hr => first | (go_simp; done) | (go_simp; rfl)); intro gb261 hg w4 hbox hb; have n0_ := Aside0.mk (below_step a0_ hb); have n1_ := Aside0.mk (hbox); have n2_ := Aside0.mk ((by rw [hg]; exact (below_size a0_) : w.heap.size ≤ gb261)); have n3_ := Aside0.mk ((by rw [hg]; exact (below_size a0_) : w.heap.size ≤ gb261)); clear HB; have HB := n0_; have BK261 := n1_; have GW261 := n2_; have GE261 := n3_; clear n0_ n1_ n2_ n3_; clear hb hbox hg) | ((with_reducible refine gate_dst (N := 6) rfl ?_); refine box_event ?hg (N := 6) ?hd (cs := #[.string (⟨#[]⟩ : ByteArray), .int .i64 0, .int .i64 0, .int .i64 0, .bool false]) (t := 42) ?hr ?_; (case hd => rfl); (case hg => rfl); (case hr => first | (go_simp; done) | (go_simp; rfl)); intro gb262 hg w5 hbox hb; have n0_ := Aside0.mk (blk_below (g := gb261) (o := .cells #[.string a0_0, .slice A0_1 l0_1.length c0_1, .slice A0_2 l0_2.length c0_2, .string a0_3] 25 (0, 0)) a15_ hb); have n1_ := Aside0.mk (below_step a44_ hb); have n2_ := Aside0.mk (hbox); have n3_ := Aside0.mk ((by rw [hg]; exact (below_size a44_) : w.heap.size ≤ gb262)); have n4_ := Aside0.mk ((by rw [hg]; exact (below_size a44_) : w.heap.size ≤ gb262)); have n5_ := Aside0.mk ((by rw [hg]; exact Nat.ne_of_lt (blk_lt (g := gb261) (o := .cells #[.string a0_0, .slice A0_1 l0_1.length c0_1, .slice A0_2 l0_2.length c0_2, .string a0_3] 25 (0, 0)) a15_) : gb261 ≠ gb262)); have n6_ := Aside0.mk ((by rw [hg]; exact Nat.ne_of_gt (blk_lt (g := gb261) (o := .cells #[.string a0_0, .slice A0_1 l0_1.length c0_1, .slice A0_2 l0_2.length c0_2, .string a0_3] 25 (0, 0)) a15_) : gb262 ≠ gb261)); clear BK261; clear HB; have BK261 := n0_; have HB := n1_; have BK262 := n2_; have GW262 := n3_; have GE262 := n4_; have NB261_262 := n5_; have NB262_261 := n6_; clear n0_ n1_ n2_ n3_ n4_ n5_ n6_; clear hb hbox hg) | ((with_reducible refine gate_dst (N := 8) rfl ?_); refine box_event ?hg (N := 8) ?hd (cs := #[.string (⟨#[]⟩ : ByteArray), .int .i64 0, .int .i64 0, .int .i64 0, .bool false]) (t := 42) ?hr ?_; (case hd => rfl); (case hg => rfl); (case hr => first | (go_simp; done) | (go_simp; rfl)); intro gb263 hg w6 hbox hb; have n0_ := Aside0.mk (blk_below (g := gb261) (o := .cells #[.string a0_0, .slice A0_1 l0_1.length c0_1, .slice A0_2 l0_2.length c0_2, .string a0_3] 25 (0, 0)) a15_ hb); have n1_ := Aside0.mk (blk_below (g := gb262) (o := .cells #[.string (⟨#[]⟩ : ByteArray), .int .i64 0, .int .i64 0, .int .i64 0, .bool false] 42 (0, 0)) a19_ hb); have n2_ := Aside0.mk (below_step a40_ hb); have n3_ := Aside0.mk (hbox); have n4_ := Aside0.mk ((by rw [hg]; exact (below_size a40_) : w.heap.size ≤ gb263)); have n5_ := Aside0.mk ((by rw [hg]; exact (below_size a40_) : w.heap.size ≤ gb263)); have n6_ := Aside0.mk ((by rw [hg]; exact Nat.ne_of_lt (blk_lt (g := gb261) (o := .cells #[.string a0_0, .slice A0_1 l0_1.length c0_1, .slice A0_2 l0_2.length c0_2, .string a0_3] 25 (0, 0)) a15_) : gb261 ≠ gb263)); have n7_ := Aside0.mk ((by rw [hg]; exact Nat.ne_of_gt (blk_lt (g := gb261) (o := .cells #[.string a0_0, .slice A0_1 l0_1.length c0_1, .slice A0_2 l0_2.length c0_2, .string a0_3] 25 (0, 0)) a15_) : gb263 ≠ gb261)); have n8_ := Aside0.mk ((by rw [hg]; exact Nat.ne_of_lt (blk_lt (g := gb262) (o := .cells #[.string (⟨#[]⟩ : ByteArray), .int .i64 0, .int .i64 0, .int .i64 0, .bool false] 42 (0, 0)) a19_) : gb262 ≠ gb263)); have n9_ := Aside0.mk ((by rw [hg]; exact Nat.ne_of_gt (blk_lt (g := gb262) (o := .cells #[.string (⟨#[]⟩ : ByteArray), .int .i64 0, .int .i64 0, .int .i64 0, .bool false] 42 (0, 0)) a19_) : gb263 ≠ gb262)); clear BK261; clear BK262; clear HB; have BK261 := n0_; have BK262 := n1_; have HB := n2_; have BK263 := n3_; have GW263 := n4_; have GE263 := n5_; have NB261_263 := n6_; have NB263_261 := n7_; have NB262_263 := n8_; have NB263_262 := n9_; clear n0_ n1_ n2_ n3_ n4_ n5_ n6_ n7_ n8_ n9_; clear hb hbox hg; have hnb7 := NB263_261.out; have hnc7 := NB261_263.out; have hnb8 := NB263_262.out; have hnc8 := NB262_263.out; obtain ⟨hcz9_0, hcz9_1, hcz9_2, hcz9_3, hcz9_4, hfz9_0, hfz9_1, hfz9_2, hfz9_3, hfz9_4⟩ := c5f_ BK263.out; have hnb10 := NB261_262.out; have hnc10 := NB262_261.out; obtain ⟨hcz11_0, hcz11_1, hcz11_2, hcz11_3, hfz11_0, hfz11_1, hfz11_2, hfz11_3⟩ := c4f_ BK261.out))
 go_loopg [7, 16] k (fun kq v7 v16 w' => ∃ (x7_1 : Int) (x16_1 : Int) (x264002_1 : Int) (x264003_1 : Int), v7 = .int .i64 x7_1 ∧ v16 = .int .i64 x16_1 ∧ Aside0 (spec_Lookup.l0 kq a2 x7_1 l0_2 (l0_2.length : Int) x16_1 a0_0 l0_1 l0_2 a0_3 (⟨#[]⟩ : ByteArray) 0 x264002_1 x264003_1 false = some (r1, r2, r3, r4, r5)) ∧ Aside0 (kq ≤ k) ∧ Aside0 (w'.heap[gb261]? = some (.cells #[.string a0_0, (.slice A0_1 l0_1.length c0_1), (.slice A0_2 l0_2.length c0_2), .string a0_3] 25 (0, 0))) ∧ Aside0 (w'.heap[gb262]? = some (.cells #[.string (⟨#[]⟩ : ByteArray), .int .i64 0, .int .i64 0, .int .i64 0, .bool false] 42 (0, 0))) ∧ Aside0 (w'.heap[gb263]? = some (.cells #[.string (⟨#[]⟩ : ByteArray), .int .i64 0, .int .i64 x264002_1, .int .i64 x264003_1, .bool false] 42 (0, 0))) ∧ Aside0 (Below w.heap.size w w'))
 case atStart => exact ⟨(a1), (0), ((-9223372036854775808)), (9223372036854775807), a5_, a5_, H', ⟨Nat.le_refl _⟩, ⟨by (with_reducible repeat (first | refine blk_drewN ?_ _ | refine blk_drew ?_ | refine blk_alloc ?_ _)); refine blk_far ?_ NB261_263.out _; (with_reducible repeat (first | refine blk_drewN ?_ _ | refine blk_drew ?_ | refine blk_alloc ?_ _)); refine blk_far ?_ NB261_263.out _; (with_reducible repeat (first | refine blk_drewN ?_ _ | refine blk_drew ?_ | refine blk_alloc ?_ _)); refine blk_far ?_ NB261_263.out _; (with_reducible repeat (first | refine blk_drewN ?_ _ | refine blk_drew ?_ | refine blk_alloc ?_ _)); refine blk_far ?_ NB261_263.out _; (with_reducible repeat (first | refine blk_drewN ?_ _ | refine blk_drew ?_ | refine blk_alloc ?_ _)); refine blk_far ?_ NB261_263.out _; (with_reducible repeat (first | refine blk_drewN ?_ _ | refine blk_drew ?_ | refine blk_alloc ?_ _)); exact BK261.out⟩, ⟨by (with_reducible repeat (first | refine blk_drewN ?_ _ | refine blk_drew ?_ | refine blk_alloc ?_ _)); refine blk_far ?_ NB262_263.out _; (with_reducible repeat (first | refine blk_drewN ?_ _ | refine blk_drew ?_ | refine blk_alloc ?_ _)); refine blk_far ?_ NB262_263.out _; (with_reducible repeat (first | refine blk_drewN ?_ _ | refine blk_drew ?_ | refine blk_alloc ?_ _)); refine blk_far ?_ NB262_263.out _; (with_reducible repeat (first | refine blk_drewN ?_ _ | refine blk_drew ?_ | refine blk_alloc ?_ _)); refine blk_far ?_ NB262_263.out _; (with_reducible repeat (first | refine blk_drewN ?_ _ | refine blk_drew ?_ | refine blk_alloc ?_ _)); refine blk_far ?_ NB262_263.out _; (with_reducible repeat (first | refine blk_drewN ?_ _ | refine blk_drew ?_ | refine blk_alloc ?_ _)); exact BK262.out⟩, ⟨by (with_reducible repeat (first | refine blk_drewN ?_ _ | refine blk_drew ?_ | refine blk_alloc ?_ _)); refine blk_put (cs := #[.string (⟨#[]⟩ : ByteArray), .int .i64 0, .int .i64 (-9223372036854775808), .int .i64 9223372036854775807, .bool false]) ?_ 4 _ rfl; (with_reducible repeat (first | refine blk_drewN ?_ _ | refine blk_drew ?_ | refine blk_alloc ?_ _)); refine blk_put (cs := #[.string (⟨#[]⟩ : ByteArray), .int .i64 0, .int .i64 (-9223372036854775808), .int .i64 0, .bool false]) ?_ 3 _ rfl; (with_reducible repeat (first | refine blk_drewN ?_ _ | refine blk_drew ?_ | refine blk_alloc ?_ _)); refine blk_put (cs := #[.string (⟨#[]⟩ : ByteArray), .int .i64 0, .int .i64 0, .int .i64 0, .bool false]) ?_ 2 _ rfl; (with_reducible repeat (first | refine blk_drewN ?_ _ | refine blk_drew ?_ | refine blk_alloc ?_ _)); refine blk_put (cs := #[.string (⟨#[]⟩ : ByteArray), .int .i64 0, .int .i64 0, .int .i64 0, .bool false]) ?_ 1 _ rfl; (with_reducible repeat (first | refine blk_drewN ?_ _ | refine blk_drew ?_ | refine blk_alloc ?_ _)); refine blk_put (cs := #[.string (⟨#[]⟩ : ByteArray), .int .i64 0, .int .i64 0, .int .i64 0, .bool false]) ?_ 0 _ rfl; (with_reducible repeat (first | refine blk_drewN ?_ _ | refine blk_drew ?_ | refine blk_alloc ?_ _)); exact BK263.out⟩, ⟨by repeat (first | (with_reducible first | exact HB.out | apply below_alloc | apply pw_below_drewN | apply below_drew1 | refine below_set ?_ GE261.out | refine below_set ?_ GE262.out | refine below_set ?_ GE263.out) | exact HB.out)⟩⟩
 case round =>
  clear H'
  try clear c1
  try clear p2
  try clear c7
  try clear c8
  try clear c10
  try clear hcz11_0
  try clear hcz11_1
  try clear hcz11_2
  try clear hcz11_3
  try clear hcz9_0
  try clear hcz9_1
  try clear hcz9_2
  try clear hcz9_3
  try clear hcz9_4
  try clear hfz11_0
  try clear hfz11_1
  try clear hfz11_2
  try clear hfz11_3
  try clear hfz9_0
  try clear hfz9_1
  try clear hfz9_2
  try clear hfz9_3
  try clear hfz9_4
  obtain ⟨x7_1, x16_1, x264002_1, x264003_1, rfl, rfl, HA, HK1, BK261, BK262, BK263, HB⟩ := hrel
  cases gk with
  | zero => exact absurd HA.out (by simp [spec_Lookup.l0])
  | succ k1 =>
   have H := HA.out
   clear HA
   simp only [spec_Lookup.l0] at H
   by_cases c12 : x16_1 < (l0_2.length : Int)
   ·rw [if_pos c12] at H
    have c12b0 := decide_eq_true c12
    clear c12
    by_cases c13 : 0 ≤ x16_1
    ·rw [if_pos c13] at H
     have c13b0 := decide_eq_true c13
     clear c13
     by_cases c14 : x16_1 < (l0_2.length : Int)
     ·rw [if_pos c14] at H
      have c14b0 := decide_eq_true c14
      clear c14
      by_cases c15 : ((rd_T45 l0_2 x16_1).f0) ≤ a2
      ·rw [if_pos c15] at H
       have c15b0 := decide_eq_true c15
       clear c15
       have H' := Aside0.mk H
       clear H
       have p267 : 0 ≤ (x16_1 : Int) := of_decide_eq_true a3_
       have q267 : x16_1 < (l0_2.length : Int) := of_decide_eq_true a3_
       obtain ⟨ad267, e267, hx267_0, hx267_1⟩ := at_T45 HR0_2.out x16_1 p267 q267
       cases e267
       replace hx267_0 := (HB.out.cell (World.block_lt_of_cell? w _ hx267_0)).trans hx267_0
       replace hx267_1 := (HB.out.cell (World.block_lt_of_cell? w _ hx267_1)).trans hx267_1
       replace p267 := eq_true p267
       replace q267 := eq_true q267
       go_wp2_with (first | ((with_reducible refine gate_dst (N := 10) rfl ?_); refine box_event ?hg (N := 10) ?hd (cs := #[.int .i64 0, .int .u8 0]) (t := 45) ?hr ?_; (case hd => rfl); (case hg => rfl); (case hr => first | (go_simp; done) | (go_simp; rfl)); intro gb268 hg w16 hbox hb; have n0_ := Aside0.mk (blk_below (g := gb261) (o := .cells #[.string a0_0, .slice A0_1 l0_1.length c0_1, .slice (some ad267) l0_2.length c0_2, .string a0_3] 25 (0, 0)) a15_ hb); have n1_ := Aside0.mk (blk_below (g := gb262) (o := .cells #[.string (⟨#[]⟩ : ByteArray), .int .i64 0, .int .i64 0, .int .i64 0, .bool false] 42 (0, 0)) a19_ hb); have n2_ := Aside0.mk (blk_below (g := gb263) (o := .cells #[.string (⟨#[]⟩ : ByteArray), .int .i64 0, .int .i64 x264002_1, .int .i64 x264003_1, .bool false] 42 (0, 0)) a30_ hb); have n3_ := Aside0.mk (below_step a12_ hb); have n4_ := Aside0.mk (hbox); have n5_ := Aside0.mk ((by rw [hg]; exact (below_size a12_) : w.heap.size ≤ gb268)); have n6_ := Aside0.mk ((by rw [hg]; exact (below_size a12_) : w.heap.size ≤ gb268)); have n7_ := Aside0.mk ((by rw [hg]; exact Nat.ne_of_lt (blk_lt (g := gb261) (o := .cells #[.string a0_0, .slice A0_1 l0_1.length c0_1, .slice (some ad267) l0_2.length c0_2, .string a0_3] 25 (0, 0)) a15_) : gb261 ≠ gb268)); have n8_ := Aside0.mk ((by rw [hg]; exact Nat.ne_of_gt (blk_lt (g := gb261) (o := .cells #[.string a0_0, .slice A0_1 l0_1.length c0_1, .slice (some ad267) l0_2.length c0_2, .string a0_3] 25 (0, 0)) a15_) : gb268 ≠ gb261)); have n9_ := Aside0.mk ((by rw [hg]; exact Nat.ne_of_lt (blk_lt (g := gb262) (o := .cells #[.string (⟨#[]⟩ : ByteArray), .int .i64 0, .int .i64 0, .int .i64 0, .bool false] 42 (0, 0)) a19_) : gb262 ≠ gb268)); have n10_ := Aside0.mk ((by rw [hg]; exact Nat.ne_of_gt (blk_lt (g := gb262) (o := .cells #[.string (⟨#[]⟩ : ByteArray), .int .i64 0, .int .i64 0, .int .i64 0, .bool false] 42 (0, 0)) a19_) : gb268 ≠ gb262)); have n11_ := Aside0.mk ((by rw [hg]; exact Nat.ne_of_lt (blk_lt (g := gb263) (o := .cells #[.string (⟨#[]⟩ : ByteArray), .int .i64 0, .int .i64 x264002_1, .int .i64 x264003_1, .bool false] 42 (0, 0)) a30_) : gb263 ≠ gb268)); have n12_ := Aside0.mk ((by rw [hg]; exact Nat.ne_of_gt (blk_lt (g := gb263) (o := .cells #[.string (⟨#[]⟩ : ByteArray), .int .i64 0, .int .i64 x264002_1, .int .i64 x264003_1, .bool false] 42 (0, 0)) a30_) : gb268 ≠ gb263)); clear BK261; clear BK262; clear BK263; clear HB; have BK261 := n0_; have BK262 := n1_; have BK263 := n2_; have HB := n3_; have BK268 := n4_; have GW268 := n5_; have GE268 := n6_; have NB261_268 := n7_; have NB268_261 := n8_; have NB262_268 := n9_; have NB268_262 := n10_; have NB263_268 := n11_; have NB268_263 := n12_; clear n0_ n1_ n2_ n3_ n4_ n5_ n6_ n7_ n8_ n9_ n10_ n11_ n12_; clear hb hbox hg; have hnb17 := NB268_261.out; have hnc17 := NB261_268.out; have hnb18 := NB268_262.out; have hnc18 := NB262_268.out; have hnb19 := NB268_263.out; have hnc19 := NB263_268.out; obtain ⟨hcz20_0, hcz20_1, hfz20_0, hfz20_1⟩ := c2f_ BK268.out; have hnb21 := NB263_261.out; have hnc21 := NB261_263.out; have hnb22 := NB263_262.out; have hnc22 := NB262_263.out; obtain ⟨hcz23_0, hcz23_1, hcz23_2, hcz23_3, hcz23_4, hfz23_0, hfz23_1, hfz23_2, hfz23_3, hfz23_4⟩ := c5f_ BK263.out))
       go_roundg k1
       case measure => have := HK1.out; omega
       case rel => exact ⟨(wrap64 ((rd_T45 l0_2 x16_1).f1)), (wrap64 (x16_1 + 1)), ((rd_T45 l0_2 x16_1).f0), (x264003_1), a5_, a5_, H', ⟨by have := HK1.out; omega⟩, ⟨by (with_reducible repeat (first | refine blk_drewN ?_ _ | refine blk_drew ?_ | refine blk_alloc ?_ _)); refine blk_far ?_ NB261_263.out _; (with_reducible repeat (first | refine blk_drewN ?_ _ | refine blk_drew ?_ | refine blk_alloc ?_ _)); refine blk_far ?_ NB261_268.out _; (with_reducible repeat (first | refine blk_drewN ?_ _ | refine blk_drew ?_ | refine blk_alloc ?_ _)); refine blk_far ?_ NB261_268.out _; (with_reducible repeat (first | refine blk_drewN ?_ _ | refine blk_drew ?_ | refine blk_alloc ?_ _)); exact BK261.out⟩, ⟨by (with_reducible repeat (first | refine blk_drewN ?_ _ | refine blk_drew ?_ | refine blk_alloc ?_ _)); refine blk_far ?_ NB262_263.out _; (with_reducible repeat (first | refine blk_drewN ?_ _ | refine blk_drew ?_ | refine blk_alloc ?_ _)); refine blk_far ?_ NB262_268.out _; (with_reducible repeat (first | refine blk_drewN ?_ _ | refine blk_drew ?_ | refine blk_alloc ?_ _)); refine blk_far ?_ NB262_268.out _; (with_reducible repeat (first | refine blk_drewN ?_ _ | refine blk_drew ?_ | refine blk_alloc ?_ _)); exact BK262.out⟩, ⟨by (with_reducible repeat (first | refine blk_drewN ?_ _ | refine blk_drew ?_ | refine blk_alloc ?_ _)); refine blk_put (cs := #[.string (⟨#[]⟩ : ByteArray), .int .i64 0, .int .i64 x264002_1, .int .i64 x264003_1, .bool false]) ?_ 2 _ rfl; (with_reducible repeat (first | refine blk_drewN ?_ _ | refine blk_drew ?_ | refine blk_alloc ?_ _)); refine blk_far ?_ NB263_268.out _; (with_reducible repeat (first | refine blk_drewN ?_ _ | refine blk_drew ?_ | refine blk_alloc ?_ _)); refine blk_far ?_ NB263_268.out _; (with_reducible repeat (first | refine blk_drewN ?_ _ | refine blk_drew ?_ | refine blk_alloc ?_ _)); exact BK263.out⟩, ⟨by repeat (first | (with_reducible first | exact HB.out | apply below_alloc | apply pw_below_drewN | apply below_drew1 | refine below_set ?_ GE261.out | refine below_set ?_ GE262.out | refine below_set ?_ GE263.out | refine below_set ?_ GE268.out) | exact HB.out)⟩⟩
      ·rw [if_neg c15] at H
       have c15b0 := decide_eq_false c15
       clear c15
       by_cases c24 : x264003_1 = 9223372036854775807
       ·rw [if_pos c24] at H
        have c24b0 : (x264003_1 == 9223372036854775807) = true := beq_iff_eq.mpr c24
        have c24b1 : (x264003_1 != 9223372036854775807) = false := bne_eq_false_iff_eq.mpr c24
        clear c24
        have H' := Aside0.mk H
        clear H
        have p267 : 0 ≤ (x16_1 : Int) := of_decide_eq_true a3_
        have q267 : x16_1 < (l0_2.length : Int) := of_decide_eq_true a3_
        obtain ⟨ad267, e267, hx267_0, hx267_1⟩ := at_T45 HR0_2.out x16_1 p267 q267
        cases e267
        replace hx267_0 := (HB.out.cell (World.block_lt_of_cell? w _ hx267_0)).trans hx267_0
        replace hx267_1 := (HB.out.cell (World.block_lt_of_cell? w _ hx267_1)).trans hx267_1
        replace p267 := eq_true p267
        replace q267 := eq_true q267
        go_wp2_with (first | ((with_reducible refine gate_dst (N := 10) rfl ?_); refine box_event ?hg (N := 10) ?hd (cs := #[.int .i64 0, .int .u8 0]) (t := 45) ?hr ?_; (case hd => rfl); (case hg => rfl); (case hr => first | (go_simp; done) | (go_simp; rfl)); intro gb268 hg w25 hbox hb; have n0_ := Aside0.mk (blk_below (g := gb261) (o := .cells #[.string a0_0, .slice A0_1 l0_1.length c0_1, .slice (some ad267) l0_2.length c0_2, .string a0_3] 25 (0, 0)) a15_ hb); have n1_ := Aside0.mk (blk_below (g := gb262) (o := .cells #[.string (⟨#[]⟩ : ByteArray), .int .i64 0, .int .i64 0, .int .i64 0, .bool false] 42 (0, 0)) a19_ hb); have n2_ := Aside0.mk (blk_below (g := gb263) (o := .cells #[.string (⟨#[]⟩ : ByteArray), .int .i64 0, .int .i64 x264002_1, .int .i64 x264003_1, .bool false] 42 (0, 0)) a30_ hb); have n3_ := Aside0.mk (below_step a12_ hb); have n4_ := Aside0.mk (hbox); have n5_ := Aside0.mk ((by rw [hg]; exact (below_size a12_) : w.heap.size ≤ gb268)); have n6_ := Aside0.mk ((by rw [hg]; exact (below_size a12_) : w.heap.size ≤ gb268)); have n7_ := Aside0.mk ((by rw [hg]; exact Nat.ne_of_lt (blk_lt (g := gb261) (o := .cells #[.string a0_0, .slice A0_1 l0_1.length c0_1, .slice (some ad267) l0_2.length c0_2, .string a0_3] 25 (0, 0)) a15_) : gb261 ≠ gb268)); have n8_ := Aside0.mk ((by rw [hg]; exact Nat.ne_of_gt (blk_lt (g := gb261) (o := .cells #[.string a0_0, .slice A0_1 l0_1.length c0_1, .slice (some ad267) l0_2.length c0_2, .string a0_3] 25 (0, 0)) a15_) : gb268 ≠ gb261)); have n9_ := Aside0.mk ((by rw [hg]; exact Nat.ne_of_lt (blk_lt (g := gb262) (o := .cells #[.string (⟨#[]⟩ : ByteArray), .int .i64 0, .int .i64 0, .int .i64 0, .bool false] 42 (0, 0)) a19_) : gb262 ≠ gb268)); have n10_ := Aside0.mk ((by rw [hg]; exact Nat.ne_of_gt (blk_lt (g := gb262) (o := .cells #[.string (⟨#[]⟩ : ByteArray), .int .i64 0, .int .i64 0, .int .i64 0, .bool false] 42 (0, 0)) a19_) : gb268 ≠ gb262)); have n11_ := Aside0.mk ((by rw [hg]; exact Nat.ne_of_lt (blk_lt (g := gb263) (o := .cells #[.string (⟨#[]⟩ : ByteArray), .int .i64 0, .int .i64 x264002_1, .int .i64 x264003_1, .bool false] 42 (0, 0)) a30_) : gb263 ≠ gb268)); have n12_ := Aside0.mk ((by rw [hg]; exact Nat.ne_of_gt (blk_lt (g := gb263) (o := .cells #[.string (⟨#[]⟩ : ByteArray), .int .i64 0, .int .i64 x264002_1, .int .i64 x264003_1, .bool false] 42 (0, 0)) a30_) : gb268 ≠ gb263)); clear BK261; clear BK262; clear BK263; clear HB; have BK261 := n0_; have BK262 := n1_; have BK263 := n2_; have HB := n3_; have BK268 := n4_; have GW268 := n5_; have GE268 := n6_; have NB261_268 := n7_; have NB268_261 := n8_; have NB262_268 := n9_; have NB268_262 := n10_; have NB263_268 := n11_; have NB268_263 := n12_; clear n0_ n1_ n2_ n3_ n4_ n5_ n6_ n7_ n8_ n9_ n10_ n11_ n12_; clear hb hbox hg; have hnb26 := NB268_261.out; have hnc26 := NB261_268.out; have hnb27 := NB268_262.out; have hnc27 := NB262_268.out; have hnb28 := NB268_263.out; have hnc28 := NB263_268.out; obtain ⟨hcz29_0, hcz29_1, hfz29_0, hfz29_1⟩ := c2f_ BK268.out; have hnb30 := NB263_261.out; have hnc30 := NB261_263.out; have hnb31 := NB263_262.out; have hnc31 := NB262_263.out; obtain ⟨hcz32_0, hcz32_1, hcz32_2, hcz32_3, hcz32_4, hfz32_0, hfz32_1, hfz32_2, hfz32_3, hfz32_4⟩ := c5f_ BK263.out))
        go_roundg k1
        case measure => have := HK1.out; omega
        case rel => exact ⟨(x7_1), (wrap64 (x16_1 + 1)), (x264002_1), ((rd_T45 l0_2 x16_1).f0), a5_, a5_, H', ⟨by have := HK1.out; omega⟩, ⟨by (with_reducible repeat (first | refine blk_drewN ?_ _ | refine blk_drew ?_ | refine blk_alloc ?_ _)); refine blk_far ?_ NB261_263.out _; (with_reducible repeat (first | refine blk_drewN ?_ _ | refine blk_drew ?_ | refine blk_alloc ?_ _)); refine blk_far ?_ NB261_268.out _; (with_reducible repeat (first | refine blk_drewN ?_ _ | refine blk_drew ?_ | refine blk_alloc ?_ _)); refine blk_far ?_ NB261_268.out _; (with_reducible repeat (first | refine blk_drewN ?_ _ | refine blk_drew ?_ | refine blk_alloc ?_ _)); exact BK261.out⟩, ⟨by (with_reducible repeat (first | refine blk_drewN ?_ _ | refine blk_drew ?_ | refine blk_alloc ?_ _)); refine blk_far ?_ NB262_263.out _; (with_reducible repeat (first | refine blk_drewN ?_ _ | refine blk_drew ?_ | refine blk_alloc ?_ _)); refine blk_far ?_ NB262_268.out _; (with_reducible repeat (first | refine blk_drewN ?_ _ | refine blk_drew ?_ | refine blk_alloc ?_ _)); refine blk_far ?_ NB262_268.out _; (with_reducible repeat (first | refine blk_drewN ?_ _ | refine blk_drew ?_ | refine blk_alloc ?_ _)); exact BK262.out⟩, ⟨by (with_reducible repeat (first | refine blk_drewN ?_ _ | refine blk_drew ?_ | refine blk_alloc ?_ _)); refine blk_put (cs := #[.string (⟨#[]⟩ : ByteArray), .int .i64 0, .int .i64 x264002_1, .int .i64 x264003_1, .bool false]) ?_ 3 _ rfl; (with_reducible repeat (first | refine blk_drewN ?_ _ | refine blk_drew ?_ | refine blk_alloc ?_ _)); refine blk_far ?_ NB263_268.out _; (with_reducible repeat (first | refine blk_drewN ?_ _ | refine blk_drew ?_ | refine blk_alloc ?_ _)); refine blk_far ?_ NB263_268.out _; (with_reducible repeat (first | refine blk_drewN ?_ _ | refine blk_drew ?_ | refine blk_alloc ?_ _)); exact BK263.out⟩, ⟨by repeat (first | (with_reducible first | exact HB.out | apply below_alloc | apply pw_below_drewN | apply below_drew1 | refine below_set ?_ GE261.out | refine below_set ?_ GE262.out | refine below_set ?_ GE263.out | refine below_set ?_ GE268.out) | exact HB.out)⟩⟩
       ·rw [if_neg c24] at H
        have c24b0 : (x264003_1 == 9223372036854775807) = false := beq_eq_false_iff_ne.mpr c24
        have c24b1 : (x264003_1 != 9223372036854775807) = true := bne_iff_ne.mpr c24
        have H' := Aside0.mk H
        clear H
        have p267 : 0 ≤ (x16_1 : Int) := of_decide_eq_true a3_
        have q267 : x16_1 < (l0_2.length : Int) := of_decide_eq_true a3_
        obtain ⟨ad267, e267, hx267_0, hx267_1⟩ := at_T45 HR0_2.out x16_1 p267 q267
        cases e267
        replace hx267_0 := (HB.out.cell (World.block_lt_of_cell? w _ hx267_0)).trans hx267_0
        replace hx267_1 := (HB.out.cell (World.block_lt_of_cell? w _ hx267_1)).trans hx267_1
        replace p267 := eq_true p267
        replace q267 := eq_true q267
        go_wp2_with (first | ((with_reducible refine gate_dst (N := 10) rfl ?_); refine box_event ?hg (N := 10) ?hd (cs := #[.int .i64 0, .int .u8 0]) (t := 45) ?hr ?_; (case hd => rfl); (case hg => rfl); (case hr => first | (go_simp; done) | (go_simp; rfl)); intro gb268 hg w33 hbox hb; have n0_ := Aside0.mk (blk_below (g := gb261) (o := .cells #[.string a0_0, .slice A0_1 l0_1.length c0_1, .slice (some ad267) l0_2.length c0_2, .string a0_3] 25 (0, 0)) a15_ hb); have n1_ := Aside0.mk (blk_below (g := gb262) (o := .cells #[.string (⟨#[]⟩ : ByteArray), .int .i64 0, .int .i64 0, .int .i64 0, .bool false] 42 (0, 0)) a19_ hb); have n2_ := Aside0.mk (blk_below (g := gb263) (o := .cells #[.string (⟨#[]⟩ : ByteArray), .int .i64 0, .int .i64 x264002_1, .int .i64 x264003_1, .bool false] 42 (0, 0)) a30_ hb); have n3_ := Aside0.mk (below_step a12_ hb); have n4_ := Aside0.mk (hbox); have n5_ := Aside0.mk ((by rw [hg]; exact (below_size a12_) : w.heap.size ≤ gb268)); have n6_ := Aside0.mk ((by rw [hg]; exact (below_size a12_) : w.heap.size ≤ gb268)); have n7_ := Aside0.mk ((by rw [hg]; exact Nat.ne_of_lt (blk_lt (g := gb261) (o := .cells #[.string a0_0, .slice A0_1 l0_1.length c0_1, .slice (some ad267) l0_2.length c0_2, .string a0_3] 25 (0, 0)) a15_) : gb261 ≠ gb268)); have n8_ := Aside0.mk ((by rw [hg]; exact Nat.ne_of_gt (blk_lt (g := gb261) (o := .cells #[.string a0_0, .slice A0_1 l0_1.length c0_1, .slice (some ad267) l0_2.length c0_2, .string a0_3] 25 (0, 0)) a15_) : gb268 ≠ gb261)); have n9_ := Aside0.mk ((by rw [hg]; exact Nat.ne_of_lt (blk_lt (g := gb262) (o := .cells #[.string (⟨#[]⟩ : ByteArray), .int .i64 0, .int .i64 0, .int .i64 0, .bool false] 42 (0, 0)) a19_) : gb262 ≠ gb268)); have n10_ := Aside0.mk ((by rw [hg]; exact Nat.ne_of_gt (blk_lt (g := gb262) (o := .cells #[.string (⟨#[]⟩ : ByteArray), .int .i64 0, .int .i64 0, .int .i64 0, .bool false] 42 (0, 0)) a19_) : gb268 ≠ gb262)); have n11_ := Aside0.mk ((by rw [hg]; exact Nat.ne_of_lt (blk_lt (g := gb263) (o := .cells #[.string (⟨#[]⟩ : ByteArray), .int .i64 0, .int .i64 x264002_1, .int .i64 x264003_1, .bool false] 42 (0, 0)) a30_) : gb263 ≠ gb268)); have n12_ := Aside0.mk ((by rw [hg]; exact Nat.ne_of_gt (blk_lt (g := gb263) (o := .cells #[.string (⟨#[]⟩ : ByteArray), .int .i64 0, .int .i64 x264002_1, .int .i64 x264003_1, .bool false] 42 (0, 0)) a30_) : gb268 ≠ gb263)); clear BK261; clear BK262; clear BK263; clear HB; have BK261 := n0_; have BK262 := n1_; have BK263 := n2_; have HB := n3_; have BK268 := n4_; have GW268 := n5_; have GE268 := n6_; have NB261_268 := n7_; have NB268_261 := n8_; have NB262_268 := n9_; have NB268_262 := n10_; have NB263_268 := n11_; have NB268_263 := n12_; clear n0_ n1_ n2_ n3_ n4_ n5_ n6_ n7_ n8_ n9_ n10_ n11_ n12_; clear hb hbox hg; have hnb34 := NB268_261.out; have hnc34 := NB261_268.out; have hnb35 := NB268_262.out; have hnc35 := NB262_268.out; have hnb36 := NB268_263.out; have hnc36 := NB263_268.out; obtain ⟨hcz37_0, hcz37_1, hfz37_0, hfz37_1⟩ := c2f_ BK268.out; have hnb38 := NB263_261.out; have hnc38 := NB261_263.out; have hnb39 := NB263_262.out; have hnc39 := NB262_263.out; obtain ⟨hcz40_0, hcz40_1, hcz40_2, hcz40_3, hcz40_4, hfz40_0, hfz40_1, hfz40_2, hfz40_3, hfz40_4⟩ := c5f_ BK263.out))
        go_roundg k1
        case measure => have := HK1.out; omega
        case rel => exact ⟨(x7_1), (wrap64 (x16_1 + 1)), (x264002_1), (x264003_1), a5_, a5_, H', ⟨by have := HK1.out; omega⟩, ⟨by (with_reducible repeat (first | refine blk_drewN ?_ _ | refine blk_drew ?_ | refine blk_alloc ?_ _)); refine blk_far ?_ NB261_268.out _; (with_reducible repeat (first | refine blk_drewN ?_ _ | refine blk_drew ?_ | refine blk_alloc ?_ _)); refine blk_far ?_ NB261_268.out _; (with_reducible repeat (first | refine blk_drewN ?_ _ | refine blk_drew ?_ | refine blk_alloc ?_ _)); exact BK261.out⟩, ⟨by (with_reducible repeat (first | refine blk_drewN ?_ _ | refine blk_drew ?_ | refine blk_alloc ?_ _)); refine blk_far ?_ NB262_268.out _; (with_reducible repeat (first | refine blk_drewN ?_ _ | refine blk_drew ?_ | refine blk_alloc ?_ _)); refine blk_far ?_ NB262_268.out _; (with_reducible repeat (first | refine blk_drewN ?_ _ | refine blk_drew ?_ | refine blk_alloc ?_ _)); exact BK262.out⟩, ⟨by (with_reducible repeat (first | refine blk_drewN ?_ _ | refine blk_drew ?_ | refine blk_alloc ?_ _)); refine blk_far ?_ NB263_268.out _; (with_reducible repeat (first | refine blk_drewN ?_ _ | refine blk_drew ?_ | refine blk_alloc ?_ _)); refine blk_far ?_ NB263_268.out _; (with_reducible repeat (first | refine blk_drewN ?_ _ | refine blk_drew ?_ | refine blk_alloc ?_ _)); exact BK263.out⟩, ⟨by repeat (first | (with_reducible first | exact HB.out | apply below_alloc | apply pw_below_drewN | apply below_drew1 | refine below_set ?_ GE261.out | refine below_set ?_ GE262.out | refine below_set ?_ GE263.out | refine below_set ?_ GE268.out) | exact HB.out)⟩⟩
     ·rw [if_neg c14] at H
      exact absurd H (by simp)
    ·rw [if_neg c13] at H
     exact absurd H (by simp)
   ·rw [if_neg c12] at H
    have c12b0 := decide_eq_false c12
    clear c12
    by_cases c41 : 0 ≤ x7_1
    ·rw [if_pos c41] at H
     have c41b0 := decide_eq_true c41
     clear c41
     by_cases c42 : x7_1 < (l0_1.length : Int)
     ·rw [if_pos c42] at H
      have c42b0 := decide_eq_true c42
      clear c42
      simp only [Option.some.injEq, Prod.mk.injEq] at H
      obtain ⟨rfl, rfl, rfl, rfl, rfl⟩ := H
      try go_wp2
      have n0_ := Aside0.mk (blk_drew BK261.out)
      have n1_ := Aside0.mk (blk_drew BK262.out)
      have n2_ := Aside0.mk (blk_drew BK263.out)
      have n3_ := Aside0.mk (below_drew1 HB.out)
      clear BK261
      clear BK262
      clear BK263
      clear HB
      have BK261 := n0_
      have BK262 := n1_
      have BK263 := n2_
      have HB := n3_
      clear n0_ n1_ n2_ n3_
      have p264 : 0 ≤ (x7_1 : Int) := of_decide_eq_true a3_
      have q264 : x7_1 < (l0_1.length : Int) := of_decide_eq_true a3_
      obtain ⟨ad264, e264, hx264_0, hx264_1, hx264_2⟩ := at_T27 HR0_1.out x7_1 p264 q264
      have hw264_2 := hx264_2
      have hw264_1 := hx264_1
      have hw264_0 := hx264_0
      cases e264
      replace hx264_0 := (HB.out.cell (World.block_lt_of_cell? w _ hx264_0)).trans hx264_0
      replace hx264_1 := (HB.out.cell (World.block_lt_of_cell? w _ hx264_1)).trans hx264_1
      replace hx264_2 := (HB.out.cell (World.block_lt_of_cell? w _ hx264_2)).trans hx264_2
      replace p264 := eq_true p264
      replace q264 := eq_true q264
      have p265 : 0 ≤ (x7_1 : Int) := of_decide_eq_true a3_
      have q265 : x7_1 < (l0_1.length : Int) := of_decide_eq_true a3_
      obtain ⟨ad265, e265, hx265_0, hx265_1, hx265_2⟩ := at_T27 HR0_1.out x7_1 p265 q265
      have hw265_2 := hx265_2
      have hw265_1 := hx265_1
      have hw265_0 := hx265_0
      obtain rfl : ad264 = ad265 := (by injection e265)
      replace hx265_0 := (HB.out.cell (World.block_lt_of_cell? w _ hx265_0)).trans hx265_0
      replace hx265_1 := (HB.out.cell (World.block_lt_of_cell? w _ hx265_1)).trans hx265_1
      replace hx265_2 := (HB.out.cell (World.block_lt_of_cell? w _ hx265_2)).trans hx265_2
      replace p265 := eq_true p265
      replace q265 := eq_true q265
      have p266 : 0 ≤ (x7_1 : Int) := of_decide_eq_true a3_
      have q266 : x7_1 < (l0_1.length : Int) := of_decide_eq_true a3_
      obtain ⟨ad266, e266, hx266_0, hx266_1, hx266_2⟩ := at_T27 HR0_1.out x7_1 p266 q266
      have hw266_2 := hx266_2
      have hw266_1 := hx266_1
      have hw266_0 := hx266_0
      obtain rfl : ad264 = ad266 := (by injection e266)
      replace hx266_0 := (HB.out.cell (World.block_lt_of_cell? w _ hx266_0)).trans hx266_0
      replace hx266_1 := (HB.out.cell (World.block_lt_of_cell? w _ hx266_1)).trans hx266_1
      replace hx266_2 := (HB.out.cell (World.block_lt_of_cell? w _ hx266_2)).trans hx266_2
      replace p266 := eq_true p266
      replace q266 := eq_true q266
      refine start_ (n := 24) (S := fun w' => w'.cell? ⟨gb261, 0, none⟩ = some (.string a0_0) ∧ w'.cell? ⟨gb261, 1, none⟩ = some (.slice (some ad264) l0_1.length c0_1) ∧ w'.cell? ⟨gb261, 2, none⟩ = some (.slice A0_2 l0_2.length c0_2) ∧ w'.cell? ⟨gb261, 3, none⟩ = some (.string a0_3) ∧ w'.cell? (ad264.add ((x7_1).toNat * 3)) = some (.string ((rd_T27 l0_1 x7_1).f0)) ∧ w'.cell? ⟨(ad264.add ((x7_1).toNat * 3)).block, (ad264.add ((x7_1).toNat * 3)).off + 1, none⟩ = some (.int .i64 ((rd_T27 l0_1 x7_1).f1)) ∧ w'.cell? ⟨(ad264.add ((x7_1).toNat * 3)).block, (ad264.add ((x7_1).toNat * 3)).off + 2, none⟩ = some (.bool ((rd_T27 l0_1 x7_1).f2)) ∧ w'.cell? (ad264.add ((x7_1).toNat * 3)) = some (.string ((rd_T27 l0_1 x7_1).f0)) ∧ w'.cell? ⟨(ad264.add ((x7_1).toNat * 3)).block, (ad264.add ((x7_1).toNat * 3)).off + 1, none⟩ = some (.int .i64 ((rd_T27 l0_1 x7_1).f1)) ∧ w'.cell? ⟨(ad264.add ((x7_1).toNat * 3)).block, (ad264.add ((x7_1).toNat * 3)).off + 2, none⟩ = some (.bool ((rd_T27 l0_1 x7_1).f2)) ∧ w'.cell? (ad264.add ((x7_1).toNat * 3)) = some (.string ((rd_T27 l0_1 x7_1).f0)) ∧ w'.cell? ⟨(ad264.add ((x7_1).toNat * 3)).block, (ad264.add ((x7_1).toNat * 3)).off + 1, none⟩ = some (.int .i64 ((rd_T27 l0_1 x7_1).f1)) ∧ w'.cell? ⟨(ad264.add ((x7_1).toNat * 3)).block, (ad264.add ((x7_1).toNat * 3)).off + 2, none⟩ = some (.bool ((rd_T27 l0_1 x7_1).f2))) (ds := []) #[false, false, false, false, false, false, false, false, false, false, false, false, false, false, false, false, false, false, false, false, false, false, false, false] (by kernel_rfl) rfl rfl ⟨(blk_cell BK261.out 0).trans rfl, (blk_cell BK261.out 1).trans rfl, (blk_cell BK261.out 2).trans rfl, (blk_cell BK261.out 3).trans rfl, ((HB.out.cell (World.block_lt_of_cell? w _ hw264_0)).trans hw264_0), ((HB.out.cell (World.block_lt_of_cell? w _ hw264_1)).trans hw264_1), ((HB.out.cell (World.block_lt_of_cell? w _ hw264_2)).trans hw264_2), ((HB.out.cell (World.block_lt_of_cell? w _ hw265_0)).trans hw265_0), ((HB.out.cell (World.block_lt_of_cell? w _ hw265_1)).trans hw265_1), ((HB.out.cell (World.block_lt_of_cell? w _ hw265_2)).trans hw265_2), ((HB.out.cell (World.block_lt_of_cell? w _ hw266_0)).trans hw266_0), ((HB.out.cell (World.block_lt_of_cell? w _ hw266_1)).trans hw266_1), ((HB.out.cell (World.block_lt_of_cell? w _ hw266_2)).trans hw266_2)⟩ (fun hHeld => ?_); refine with_tabW spec_Lookup.tab12 spec_Lookup.bits12 (fun HT_ HW_ => ?_)
      generalize wr.drew = w43 at BK261 BK262 BK263 HB hx264_0 hx264_1 hx264_2 hx265_0 hx265_1 hx265_2 hx266_0 hx266_1 hx266_2 hHeld ⊢
      refine pure_ (i := 0) (N := some 37) (v := ?_) (a' := ?_) #[true, false, false, false, false, false, false, false, false, false, false, false, false, false, false, false, false, false, false, false, false, false, false, false] rfl rfl (any_of HT_.out (by kernel_rfl)) (fun _ _ _ h => h) (Or.inl ⟨by rfl, ?_⟩) ?_ ?_
      rotate_left
      ·intro w'
       go_simp
       with_reducible rfl
      rotate_left
      ·simp only [Act.put, List.setIfInBounds_toArray, List.set_cons_zero, List.set_cons_succ, i64_w, i32_w]
       rfl
      refine pure_ (i := 2) (N := some 39) (v := ?_) (a' := ?_) #[true, false, true, false, false, false, false, false, false, false, false, false, false, false, false, false, false, false, false, false, false, false, false, false] rfl rfl (any_of HT_.out (by kernel_rfl)) (fun _ _ _ h => h) (Or.inl ⟨by rfl, ?_⟩) ?_ ?_
      rotate_left
      ·intro w'
       go_simp
       with_reducible rfl
      rotate_left
      ·simp only [Act.put, List.setIfInBounds_toArray, List.set_cons_zero, List.set_cons_succ, i64_w, i32_w]
       rfl
      refine pure_ (i := 6) (N := some 43) (v := ?_) (a' := ?_) #[true, false, true, false, false, false, true, false, false, false, false, false, false, false, false, false, false, false, false, false, false, false, false, false] rfl rfl (any_of HT_.out (by kernel_rfl)) (fun _ _ _ h => h) (Or.inl ⟨by rfl, ?_⟩) ?_ ?_
      rotate_left
      ·intro w'
       go_simp
       with_reducible rfl
      rotate_left
      ·simp only [Act.put, List.setIfInBounds_toArray, List.set_cons_zero, List.set_cons_succ, i64_w, i32_w]
       rfl
      refine pure_ (i := 8) (N := some 45) (v := ?_) (a' := ?_) #[true, false, true, false, false, false, true, false, true, false, false, false, false, false, false, false, false, false, false, false, false, false, false, false] rfl rfl (any_of HT_.out (by kernel_rfl)) (fun _ _ _ h => h) (Or.inl ⟨by rfl, ?_⟩) ?_ ?_
      rotate_left
      ·intro w'
       go_simp
       with_reducible rfl
      rotate_left
      ·simp only [Act.put, List.setIfInBounds_toArray, List.set_cons_zero, List.set_cons_succ, i64_w, i32_w]
       rfl
      refine pure_ (i := 12) (N := some 49) (v := ?_) (a' := ?_) #[true, false, true, false, false, false, true, false, true, false, false, false, true, false, false, false, false, false, false, false, false, false, false, false] rfl rfl (any_of HT_.out (by kernel_rfl)) (fun _ _ _ h => h) (Or.inl ⟨by rfl, ?_⟩) ?_ ?_
      rotate_left
      ·intro w'
       go_simp
       with_reducible rfl
      rotate_left
      ·simp only [Act.put, List.setIfInBounds_toArray, List.set_cons_zero, List.set_cons_succ, i64_w, i32_w]
       rfl
      refine pure_ (i := 14) (N := some 51) (v := ?_) (a' := ?_) #[true, false, true, false, false, false, true, false, true, false, false, false, true, false, true, false, false, false, false, false, false, false, false, false] rfl rfl (any_of HT_.out (by kernel_rfl)) (fun _ _ _ h => h) (Or.inl ⟨by rfl, ?_⟩) ?_ ?_
      rotate_left
      ·intro w'
       go_simp
       with_reducible rfl
      rotate_left
      ·simp only [Act.put, List.setIfInBounds_toArray, List.set_cons_zero, List.set_cons_succ, i64_w, i32_w]
       rfl
      refine take_ (i := 1) (N := some 38) (v := ?_) (a' := ?_) #[true, true, true, false, false, false, true, false, true, false, false, false, true, false, true, false, false, false, false, false, false, false, false, false] rfl rfl (take_ofW HT_.out HW_.out (by kernel_rfl)) (fun _ _ _ h => h) (Or.inl ⟨by rfl, ?_⟩) hHeld ?_ ?_
      rotate_left
      ·rintro w' ⟨s0, s1, s2, s3, s4, s5, s6, s7, s8, s9, s10, s11, s12⟩
       go_simp
       with_reducible rfl
      rotate_left
      ·simp only [Act.put, List.setIfInBounds_toArray, List.set_cons_zero, List.set_cons_succ, i64_w, i32_w]
       rfl
      refine pure_ (i := 3) (N := some 40) (v := ?_) (a' := ?_) #[true, true, true, true, false, false, true, false, true, false, false, false, true, false, true, false, false, false, false, false, false, false, false, false] rfl rfl (any_of HT_.out (by kernel_rfl)) (fun _ _ _ h => h) (Or.inl ⟨by rfl, ?_⟩) ?_ ?_
      rotate_left
      ·intro w'
       go_simp
       with_reducible rfl
      rotate_left
      ·simp only [Act.put, List.setIfInBounds_toArray, List.set_cons_zero, List.set_cons_succ, i64_w, i32_w]
       rfl
      refine pure_ (i := 4) (N := some 41) (v := ?_) (a' := ?_) #[true, true, true, true, true, false, true, false, true, false, false, false, true, false, true, false, false, false, false, false, false, false, false, false] rfl rfl (any_of HT_.out (by kernel_rfl)) (fun _ _ _ h => h) (Or.inl ⟨by rfl, ?_⟩) ?_ ?_
      rotate_left
      ·intro w'
       go_simp
       with_reducible rfl
      rotate_left
      ·simp only [Act.put, List.setIfInBounds_toArray, List.set_cons_zero, List.set_cons_succ, i64_w, i32_w]
       rfl
      refine take_ (i := 5) (N := some 42) (v := ?_) (a' := ?_) #[true, true, true, true, true, true, true, false, true, false, false, false, true, false, true, false, false, false, false, false, false, false, false, false] rfl rfl (take_ofW HT_.out HW_.out (by kernel_rfl)) (fun _ _ _ h => h) (Or.inl ⟨by rfl, ?_⟩) hHeld ?_ ?_
      rotate_left
      ·rintro w' ⟨s0, s1, s2, s3, s4, s5, s6, s7, s8, s9, s10, s11, s12⟩
       go_simp
       with_reducible rfl
      rotate_left
      ·simp only [Act.put, List.setIfInBounds_toArray, List.set_cons_zero, List.set_cons_succ, i64_w, i32_w]
       rfl
      refine pure_ (i := 18) (N := some 55) (v := ?_) (a' := ?_) #[true, true, true, true, true, true, true, false, true, false, false, false, true, false, true, false, false, false, true, false, false, false, false, false] rfl rfl (any_of HT_.out (by kernel_rfl)) (fun _ _ _ h => h) (Or.inl ⟨by rfl, ?_⟩) ?_ ?_
      rotate_left
      ·intro w'
       go_simp
       with_reducible rfl
      rotate_left
      ·simp only [Act.put, List.setIfInBounds_toArray, List.set_cons_zero, List.set_cons_succ, i64_w, i32_w]
       rfl
      refine take_ (i := 7) (N := some 44) (v := ?_) (a' := ?_) #[true, true, true, true, true, true, true, true, true, false, false, false, true, false, true, false, false, false, true, false, false, false, false, false] rfl rfl (take_ofW HT_.out HW_.out (by kernel_rfl)) (fun _ _ _ h => h) (Or.inl ⟨by rfl, ?_⟩) hHeld ?_ ?_
      rotate_left
      ·rintro w' ⟨s0, s1, s2, s3, s4, s5, s6, s7, s8, s9, s10, s11, s12⟩
       go_simp
       with_reducible rfl
      rotate_left
      ·simp only [Act.put, List.setIfInBounds_toArray, List.set_cons_zero, List.set_cons_succ, i64_w, i32_w]
       rfl
      refine pure_ (i := 9) (N := some 46) (v := ?_) (a' := ?_) #[true, true, true, true, true, true, true, true, true, true, false, false, true, false, true, false, false, false, true, false, false, false, false, false] rfl rfl (any_of HT_.out (by kernel_rfl)) (fun _ _ _ h => h) (Or.inl ⟨by rfl, ?_⟩) ?_ ?_
      rotate_left
      ·intro w'
       go_simp
       with_reducible rfl
      rotate_left
      ·simp only [Act.put, List.setIfInBounds_toArray, List.set_cons_zero, List.set_cons_succ, i64_w, i32_w]
       rfl
      refine pure_ (i := 10) (N := some 47) (v := ?_) (a' := ?_) #[true, true, true, true, true, true, true, true, true, true, true, false, true, false, true, false, false, false, true, false, false, false, false, false] rfl rfl (any_of HT_.out (by kernel_rfl)) (fun _ _ _ h => h) (Or.inl ⟨by rfl, ?_⟩) ?_ ?_
      rotate_left
      ·intro w'
       go_simp
       with_reducible rfl
      rotate_left
      ·simp only [Act.put, List.setIfInBounds_toArray, List.set_cons_zero, List.set_cons_succ, i64_w, i32_w]
       rfl
      refine take_ (i := 11) (N := some 48) (v := ?_) (a' := ?_) #[true, true, true, true, true, true, true, true, true, true, true, true, true, false, true, false, false, false, true, false, false, false, false, false] rfl rfl (take_ofW HT_.out HW_.out (by kernel_rfl)) (fun _ _ _ h => h) (Or.inl ⟨by rfl, ?_⟩) hHeld ?_ ?_
      rotate_left
      ·rintro w' ⟨s0, s1, s2, s3, s4, s5, s6, s7, s8, s9, s10, s11, s12⟩
       go_simp
       with_reducible rfl
      rotate_left
      ·simp only [Act.put, List.setIfInBounds_toArray, List.set_cons_zero, List.set_cons_succ, i64_w, i32_w]
       rfl
      refine take_ (i := 13) (N := some 50) (v := ?_) (a' := ?_) #[true, true, true, true, true, true, true, true, true, true, true, true, true, true, true, false, false, false, true, false, false, false, false, false] rfl rfl (take_ofW HT_.out HW_.out (by kernel_rfl)) (fun _ _ _ h => h) (Or.inl ⟨by rfl, ?_⟩) hHeld ?_ ?_
      rotate_left
      ·rintro w' ⟨s0, s1, s2, s3, s4, s5, s6, s7, s8, s9, s10, s11, s12⟩
       go_simp
       with_reducible rfl
      rotate_left
      ·simp only [Act.put, List.setIfInBounds_toArray, List.set_cons_zero, List.set_cons_succ, i64_w, i32_w]
       rfl
      refine pure_ (i := 15) (N := some 52) (v := ?_) (a' := ?_) #[true, true, true, true, true, true, true, true, true, true, true, true, true, true, true, true, false, false, true, false, false, false, false, false] rfl rfl (any_of HT_.out (by kernel_rfl)) (fun _ _ _ h => h) (Or.inl ⟨by rfl, ?_⟩) ?_ ?_
      rotate_left
      ·intro w'
       go_simp
       with_reducible rfl
      rotate_left
      ·simp only [Act.put, List.setIfInBounds_toArray, List.set_cons_zero, List.set_cons_succ, i64_w, i32_w]
       rfl
      refine pure_ (i := 16) (N := some 53) (v := ?_) (a' := ?_) #[true, true, true, true, true, true, true, true, true, true, true, true, true, true, true, true, true, false, true, false, false, false, false, false] rfl rfl (any_of HT_.out (by kernel_rfl)) (fun _ _ _ h => h) (Or.inl ⟨by rfl, ?_⟩) ?_ ?_
      rotate_left
      ·intro w'
       go_simp
       with_reducible rfl
      rotate_left
      ·simp only [Act.put, List.setIfInBounds_toArray, List.set_cons_zero, List.set_cons_succ, i64_w, i32_w]
       rfl
      refine take_ (i := 17) (N := some 54) (v := ?_) (a' := ?_) #[true, true, true, true, true, true, true, true, true, true, true, true, true, true, true, true, true, true, true, false, false, false, false, false] rfl rfl (take_ofW HT_.out HW_.out (by kernel_rfl)) (fun _ _ _ h => h) (Or.inl ⟨by rfl, ?_⟩) hHeld ?_ ?_
      rotate_left
      ·rintro w' ⟨s0, s1, s2, s3, s4, s5, s6, s7, s8, s9, s10, s11, s12⟩
       go_simp
       with_reducible rfl
      rotate_left
      ·simp only [Act.put, List.setIfInBounds_toArray, List.set_cons_zero, List.set_cons_succ, i64_w, i32_w]
       rfl
      refine one_ (i := 19) (N := none) #[true, true, true, true, true, true, true, true, true, true, true, true, true, true, true, true, true, true, true, true, false, false, false, false] rfl rfl (one_of HT_.out (by kernel_rfl)) (by decide) (fun K hK => ?_)
      have hs44 : w43.cell? ⟨gb263, 0, none⟩ = some (.string (⟨#[]⟩ : ByteArray)) := (blk_cell BK263.out 0).trans rfl
      have hfs44 := blk_frozen BK263.out 0
      have hns44_0 := NB261_263.out
      have hns44_1 := NB262_263.out
      have hms44_0 := NB263_261.out
      have hms44_1 := NB263_262.out
      refine skip_ (w1 := ?_) (by rfl) rfl ?_ ?_
      rotate_left
      ·go_simp
       rfl
      refine hK.out _ _ ⟨((cell_far (p := ⟨gb263, _, none⟩) NB261_263.out _).trans (hHeld.1)), ((cell_far (p := ⟨gb263, _, none⟩) NB261_263.out _).trans (hHeld.2.1)), ((cell_far (p := ⟨gb263, _, none⟩) NB261_263.out _).trans (hHeld.2.2.1)), ((cell_far (p := ⟨gb263, _, none⟩) NB261_263.out _).trans (hHeld.2.2.2.1)), ((cell_far (p := ⟨gb263, _, none⟩) a50_ _).trans (hHeld.2.2.2.2.1)), ((cell_far (p := ⟨gb263, _, none⟩) a51_ _).trans (hHeld.2.2.2.2.2.1)), ((cell_far (p := ⟨gb263, _, none⟩) a52_ _).trans (hHeld.2.2.2.2.2.2.1)), ((cell_far (p := ⟨gb263, _, none⟩) a53_ _).trans (hHeld.2.2.2.2.2.2.2.1)), ((cell_far (p := ⟨gb263, _, none⟩) a54_ _).trans (hHeld.2.2.2.2.2.2.2.2.1)), ((cell_far (p := ⟨gb263, _, none⟩) a55_ _).trans (hHeld.2.2.2.2.2.2.2.2.2.1)), ((cell_far (p := ⟨gb263, _, none⟩) a56_ _).trans (hHeld.2.2.2.2.2.2.2.2.2.2.1)), ((cell_far (p := ⟨gb263, _, none⟩) a57_ _).trans (hHeld.2.2.2.2.2.2.2.2.2.2.2.1)), ((cell_far (p := ⟨gb263, _, none⟩) a58_ _).trans (hHeld.2.2.2.2.2.2.2.2.2.2.2.2))⟩ (fun hHeld => ?_)
      clear hK K
      refine pure_ (i := 20) (N := some 56) (v := ?_) (a' := ?_) #[true, true, true, true, true, true, true, true, true, true, true, true, true, true, true, true, true, true, true, true, true, false, false, false] rfl rfl (any_of HT_.out (by kernel_rfl)) (fun _ _ _ h => h) (Or.inl ⟨by rfl, ?_⟩) ?_ ?_
      rotate_left
      ·intro w'
       go_simp
       with_reducible rfl
      rotate_left
      ·simp only [Act.put, List.setIfInBounds_toArray, List.set_cons_zero, List.set_cons_succ, i64_w, i32_w]
       rfl
      refine one_ (i := 21) (N := none) #[true, true, true, true, true, true, true, true, true, true, true, true, true, true, true, true, true, true, true, true, true, true, false, false] rfl rfl (one_of HT_.out (by kernel_rfl)) (by decide) (fun K hK => ?_)
      have hs45 : w43.cell? ⟨gb263, 1, none⟩ = some (.int .i64 0) := (blk_cell BK263.out 1).trans rfl
      have hfs45 := blk_frozen BK263.out 1
      have hns45_0 := NB261_263.out
      have hns45_1 := NB262_263.out
      have hms45_0 := NB263_261.out
      have hms45_1 := NB263_262.out
      refine skip_ (w1 := ?_) (by rfl) rfl ?_ ?_
      rotate_left
      ·go_simp
       rfl
      refine hK.out _ _ ⟨((cell_far (p := ⟨gb263, _, none⟩) NB261_263.out _).trans (hHeld.1)), ((cell_far (p := ⟨gb263, _, none⟩) NB261_263.out _).trans (hHeld.2.1)), ((cell_far (p := ⟨gb263, _, none⟩) NB261_263.out _).trans (hHeld.2.2.1)), ((cell_far (p := ⟨gb263, _, none⟩) NB261_263.out _).trans (hHeld.2.2.2.1)), ((cell_far (p := ⟨gb263, _, none⟩) a50_ _).trans (hHeld.2.2.2.2.1)), ((cell_far (p := ⟨gb263, _, none⟩) a51_ _).trans (hHeld.2.2.2.2.2.1)), ((cell_far (p := ⟨gb263, _, none⟩) a52_ _).trans (hHeld.2.2.2.2.2.2.1)), ((cell_far (p := ⟨gb263, _, none⟩) a53_ _).trans (hHeld.2.2.2.2.2.2.2.1)), ((cell_far (p := ⟨gb263, _, none⟩) a54_ _).trans (hHeld.2.2.2.2.2.2.2.2.1)), ((cell_far (p := ⟨gb263, _, none⟩) a55_ _).trans (hHeld.2.2.2.2.2.2.2.2.2.1)), ((cell_far (p := ⟨gb263, _, none⟩) a56_ _).trans (hHeld.2.2.2.2.2.2.2.2.2.2.1)), ((cell_far (p := ⟨gb263, _, none⟩) a57_ _).trans (hHeld.2.2.2.2.2.2.2.2.2.2.2.1)), ((cell_far (p := ⟨gb263, _, none⟩) a58_ _).trans (hHeld.2.2.2.2.2.2.2.2.2.2.2.2))⟩ (fun hHeld => ?_)
      clear hK K
      refine pure_ (i := 22) (N := some 57) (v := ?_) (a' := ?_) #[true, true, true, true, true, true, true, true, true, true, true, true, true, true, true, true, true, true, true, true, true, true, true, false] rfl rfl (any_of HT_.out (by kernel_rfl)) (fun _ _ _ h => h) (Or.inl ⟨by rfl, ?_⟩) ?_ ?_
      rotate_left
      ·intro w'
       go_simp
       with_reducible rfl
      rotate_left
      ·simp only [Act.put, List.setIfInBounds_toArray, List.set_cons_zero, List.set_cons_succ, i64_w, i32_w]
       rfl
      refine one_ (i := 23) (N := none) #[true, true, true, true, true, true, true, true, true, true, true, true, true, true, true, true, true, true, true, true, true, true, true, true] rfl rfl (one_of HT_.out (by kernel_rfl)) (by decide) (fun K hK => ?_)
      have hs46 : w43.cell? ⟨gb263, 4, none⟩ = some (.bool false) := (blk_cell BK263.out 4).trans rfl
      have hfs46 := blk_frozen BK263.out 4
      have hns46_0 := NB261_263.out
      have hns46_1 := NB262_263.out
      have hms46_0 := NB263_261.out
      have hms46_1 := NB263_262.out
      refine skip_ (w1 := ?_) (by rfl) rfl ?_ ?_
      rotate_left
      ·go_simp
       rfl
      refine hK.out _ _ ⟨((cell_far (p := ⟨gb263, _, none⟩) NB261_263.out _).trans (hHeld.1)), ((cell_far (p := ⟨gb263, _, none⟩) NB261_263.out _).trans (hHeld.2.1)), ((cell_far (p := ⟨gb263, _, none⟩) NB261_263.out _).trans (hHeld.2.2.1)), ((cell_far (p := ⟨gb263, _, none⟩) NB261_263.out _).trans (hHeld.2.2.2.1)), ((cell_far (p := ⟨gb263, _, none⟩) a50_ _).trans (hHeld.2.2.2.2.1)), ((cell_far (p := ⟨gb263, _, none⟩) a51_ _).trans (hHeld.2.2.2.2.2.1)), ((cell_far (p := ⟨gb263, _, none⟩) a52_ _).trans (hHeld.2.2.2.2.2.2.1)), ((cell_far (p := ⟨gb263, _, none⟩) a53_ _).trans (hHeld.2.2.2.2.2.2.2.1)), ((cell_far (p := ⟨gb263, _, none⟩) a54_ _).trans (hHeld.2.2.2.2.2.2.2.2.1)), ((cell_far (p := ⟨gb263, _, none⟩) a55_ _).trans (hHeld.2.2.2.2.2.2.2.2.2.1)), ((cell_far (p := ⟨gb263, _, none⟩) a56_ _).trans (hHeld.2.2.2.2.2.2.2.2.2.2.1)), ((cell_far (p := ⟨gb263, _, none⟩) a57_ _).trans (hHeld.2.2.2.2.2.2.2.2.2.2.2.1)), ((cell_far (p := ⟨gb263, _, none⟩) a58_ _).trans (hHeld.2.2.2.2.2.2.2.2.2.2.2.2))⟩ (fun hHeld => ?_)
      clear hK K
      refine done_ (done_of HT_.out (by kernel_rfl)) ?_
      have hnb47 := NB263_261.out
      have hnc47 := NB261_263.out
      have hnb48 := NB263_262.out
      have hnc48 := NB262_263.out
      obtain ⟨hcz49_0, hcz49_1, hcz49_2, hcz49_3, hcz49_4, hfz49_0, hfz49_1, hfz49_2, hfz49_3, hfz49_4⟩ := c5f_ BK263.out
      have hnb50 := NB262_261.out
      have hnc50 := NB261_262.out
      obtain ⟨hcz51_0, hcz51_1, hcz51_2, hcz51_3, hcz51_4, hfz51_0, hfz51_1, hfz51_2, hfz51_3, hfz51_4⟩ := c5f_ BK262.out
      try go_wp2
      refine bodyPost_ret (results_cell_row rfl _ _ gb262 42 #[.string ((rd_T27 l0_1 x7_1).f0), .int .i64 ((rd_T27 l0_1 x7_1).f1), .int .i64 x264002_1, .int .i64 x264003_1, .bool ((rd_T27 l0_1 x7_1).f2)] (0, 0) _ rfl (by (with_reducible repeat (first | refine blk_drewN ?_ _ | refine blk_drew ?_ | refine blk_alloc ?_ _)); refine blk_put (cs := #[.string ((rd_T27 l0_1 x7_1).f0), .int .i64 ((rd_T27 l0_1 x7_1).f1), .int .i64 x264002_1, .int .i64 x264003_1, .bool false]) ?_ 4 _ rfl; (with_reducible repeat (first | refine blk_drewN ?_ _ | refine blk_drew ?_ | refine blk_alloc ?_ _)); refine blk_put (cs := #[.string ((rd_T27 l0_1 x7_1).f0), .int .i64 ((rd_T27 l0_1 x7_1).f1), .int .i64 x264002_1, .int .i64 0, .bool false]) ?_ 3 _ rfl; (with_reducible repeat (first | refine blk_drewN ?_ _ | refine blk_drew ?_ | refine blk_alloc ?_ _)); refine blk_put (cs := #[.string ((rd_T27 l0_1 x7_1).f0), .int .i64 ((rd_T27 l0_1 x7_1).f1), .int .i64 0, .int .i64 0, .bool false]) ?_ 2 _ rfl; (with_reducible repeat (first | refine blk_drewN ?_ _ | refine blk_drew ?_ | refine blk_alloc ?_ _)); refine blk_put (cs := #[.string ((rd_T27 l0_1 x7_1).f0), .int .i64 0, .int .i64 0, .int .i64 0, .bool false]) ?_ 1 _ rfl; (with_reducible repeat (first | refine blk_drewN ?_ _ | refine blk_drew ?_ | refine blk_alloc ?_ _)); refine blk_put (cs := #[.string (⟨#[]⟩ : ByteArray), .int .i64 0, .int .i64 0, .int .i64 0, .bool false]) ?_ 0 _ rfl; (with_reducible repeat (first | refine blk_drewN ?_ _ | refine blk_drew ?_ | refine blk_alloc ?_ _)); refine blk_far ?_ NB262_263.out _; (with_reducible repeat (first | refine blk_drewN ?_ _ | refine blk_drew ?_ | refine blk_alloc ?_ _)); refine blk_far ?_ NB262_263.out _; (with_reducible repeat (first | refine blk_drewN ?_ _ | refine blk_drew ?_ | refine blk_alloc ?_ _)); refine blk_far ?_ NB262_263.out _; (with_reducible repeat (first | refine blk_drewN ?_ _ | refine blk_drew ?_ | refine blk_alloc ?_ _)); exact BK262.out) Tryd.underlying42 rfl (by kernel_rfl)) rfl ?_
      exact ⟨by first | rfl | (simp [errW_none, errW_some] <;> rfl) | (simp [*, errW_none, errW_some] <;> rfl), by repeat (first | (with_reducible first | exact HB.out | apply below_alloc | apply pw_below_drewN | apply below_drew1 | refine below_set ?_ GE261.out | refine below_set ?_ GE262.out | refine below_set ?_ GE263.out) | exact HB.out)⟩
     ·rw [if_neg c42] at H
      exact absurd H (by simp)
    ·rw [if_neg c41] at H
     exact absurd H (by simp)
end Go.Proofs.YtjoaeennbfmohaaDoor.PFnZone
