/- The walks of some functions. Laid by programs (wip/mkq.py, wip/mkclaim.py) out of the texts that the kit's print.sh wrote for this seat, written shorter. Not written by hand. -/
import Derived.Test.YtjoaeennbfmohaaDoorC0
import Derived.Test.YtjoaeennbfmohaaDoorC3
namespace Go.Proofs.YtjoaeennbfmohaaDoor.PFnZone
open Go.RowKit Go.Proofs.YtjoaeennbfmohaaDoorW.PrintWords Go.Proofs.YtjoaeennbfmohaaDoorW.PrintLast Go.Proofs.YtjoaeennbfmohaaDoorW.PrintMore
attribute [local go_sem] max2_int min2_int max_two min_two max_three min_three max_four min_four   -- for this text's walks alone
set_option linter.unusedVariables false
set_option linter.unusedSimpArgs false
mutual
def spec_block.l0 : Nat → Int → Int → ByteArray → ByteArray → List (S27) → Int → Int → ByteArray → List (S27) → List (S45) → ByteArray → Option (ByteArray)
 | 0, _, _, _, _, _, _, _, _, _, _, _ => none
 | k + 1, x1, x2, x7, x8, x20, x21, x22, x133000, x133001, x133002, x133003 => if x22 < x21 then (if 0 ≤ x22 then (if x22 < (x20.length : Int) then (if (rd_T27 x20 x22).f2 = true then ((spec_Bytes.f k ((rd_T27 x20 x22).f1) 4).bind fun t135 => ((some (([1, ((x7.size : Int)) % 256] : List Int) : List Int)).bind fun y136 => (if t135.size + (strOfNums y136).size ≤ 9223372036854775807 then (if x8.size + (t135 ++ (strOfNums y136)).size ≤ 9223372036854775807 then (if ((rd_T27 x20 x22).f0).size + 1 ≤ 9223372036854775807 then (if x7.size + (((rd_T27 x20 x22).f0) ++ (⟨#[0]⟩ : ByteArray)).size ≤ 9223372036854775807 then (spec_block.l0 k x1 x2 (x7 ++ (((rd_T27 x20 x22).f0) ++ (⟨#[0]⟩ : ByteArray))) (x8 ++ (t135 ++ (strOfNums y136))) x20 x21 (wrap64 (x22 + 1)) x133000 x133001 x133002 x133003) else (none)) else (none)) else (none)) else (none)))) else ((spec_Bytes.f k ((rd_T27 x20 x22).f1) 4).bind fun t139 => ((some (([0, ((x7.size : Int)) % 256] : List Int) : List Int)).bind fun y140 => (if t139.size + (strOfNums y140).size ≤ 9223372036854775807 then (if x8.size + (t139 ++ (strOfNums y140)).size ≤ 9223372036854775807 then (if ((rd_T27 x20 x22).f0).size + 1 ≤ 9223372036854775807 then (if x7.size + (((rd_T27 x20 x22).f0) ++ (⟨#[0]⟩ : ByteArray)).size ≤ 9223372036854775807 then (spec_block.l0 k x1 x2 (x7 ++ (((rd_T27 x20 x22).f0) ++ (⟨#[0]⟩ : ByteArray))) (x8 ++ (t139 ++ (strOfNums y140))) x20 x21 (wrap64 (x22 + 1)) x133000 x133001 x133002 x133003) else (none)) else (none)) else (none)) else (none))))) else (none)) else (none)) else ((some (([x1] : List Int) : List Int)).bind fun y143 => (if 4 + (strOfNums y143).size ≤ 9223372036854775807 then ((spec_Bytes.f k 0 15).bind fun t146 => (if ((⟨#[84, 90, 105, 102]⟩ : ByteArray) ++ (strOfNums y143)).size + t146.size ≤ 9223372036854775807 then ((some (([0, 0, 0, (x133002.length : Int), (x133001.length : Int), (x7.size : Int)] : List Int) : List Int)).bind fun y147 => (spec_block.l1 k x2 x7 x8 (((⟨#[84, 90, 105, 102]⟩ : ByteArray) ++ (strOfNums y143)) ++ t146) y147 (y147.length : Int) 0 x133000 x133001 x133002 x133003)) else (none))) else (none)))
def spec_block.l1 : Nat → Int → ByteArray → ByteArray → ByteArray → List Int → Int → Int → ByteArray → List (S27) → List (S45) → ByteArray → Option (ByteArray)
 | 0, _, _, _, _, _, _, _, _, _, _, _ => none
 | k + 1, x2, x7, x8, x12, x60, x61, x62, x133000, x133001, x133002, x133003 => if x62 < x61 then (if 0 ≤ x62 then (if x62 < (x60.length : Int) then ((spec_Bytes.f k (rd x60 x62) 4).bind fun t151 => (if x12.size + t151.size ≤ 9223372036854775807 then (spec_block.l1 k x2 x7 x8 (x12 ++ t151) x60 x61 (wrap64 (x62 + 1)) x133000 x133001 x133002 x133003) else (none))) else (none)) else (none)) else (spec_block.l2 k x2 x7 x8 x12 x133002 (x133002.length : Int) 0 x133000 x133001 x133002 x133003)
def spec_block.l2 : Nat → Int → ByteArray → ByteArray → ByteArray → List (S45) → Int → Int → ByteArray → List (S27) → List (S45) → ByteArray → Option (ByteArray)
 | 0, _, _, _, _, _, _, _, _, _, _, _ => none
 | k + 1, x2, x7, x8, x12, x72, x73, x74, x133000, x133001, x133002, x133003 => if x74 < x73 then (if 0 ≤ x74 then (if x74 < (x72.length : Int) then ((spec_Bytes.f k ((rd_T45 x72 x74).f0) x2).bind fun t154 => (if x12.size + t154.size ≤ 9223372036854775807 then (spec_block.l2 k x2 x7 x8 (x12 ++ t154) x72 x73 (wrap64 (x74 + 1)) x133000 x133001 x133002 x133003) else (none))) else (none)) else (none)) else (spec_block.l3 k x7 x8 x12 x133002 (x133002.length : Int) 0)
def spec_block.l3 : Nat → ByteArray → ByteArray → ByteArray → List (S45) → Int → Int → Option (ByteArray)
 | 0, _, _, _, _, _, _ => none
 | k + 1, x7, x8, x12, x86, x87, x88 => if x88 < x87 then (if 0 ≤ x88 then (if x88 < (x86.length : Int) then ((some (([(rd_T45 x86 x88).f1] : List Int) : List Int)).bind fun y157 => (if x12.size + (strOfNums y157).size ≤ 9223372036854775807 then (spec_block.l3 k x7 x8 (x12 ++ (strOfNums y157)) x86 x87 (wrap64 (x88 + 1))) else (none))) else (none)) else (none)) else (if x12.size + x8.size ≤ 9223372036854775807 then (if (x12 ++ x8).size + x7.size ≤ 9223372036854775807 then (some ((x12 ++ x8) ++ x7)) else (none)) else (none))
end
def spec_block.f (k : Nat) (a0_0 : ByteArray) (l0_1 : List (S27)) (l0_2 : List (S45)) (a0_3 : ByteArray) (a1 : Int) (a2 : Int) : Option (ByteArray) := spec_block.l0 k a1 a2 (⟨#[]⟩ : ByteArray) (⟨#[]⟩ : ByteArray) l0_1 (l0_1.length : Int) 0 a0_0 l0_1 l0_2 a0_3
def spec_block.T9 : Bool × List (List Nat × List Nat) := (true, [([], []), ([], []), ([1], [1]), ([2], [2]), ([], []), ([], []), ([5], [5]), ([6], [6]), ([4, 7], [4, 7]), ([8], [8]), ([3, 9], [3, 9]), ([0, 10], [0, 10]), ([11, 3, 0, 1, 2, 3, 4, 5, 6, 7, 8, 9, 10, 11], [0, 11])])
def spec_block.B9 : List Nat := [0, 0, 2, 6, 0, 0, 32, 96, 240, 496, 1022, 2047, 4095]
theorem spec_block.tab9 : rtab .any (opsOf Tryd.f27 9) = spec_block.T9 := by kernel_rfl
theorem spec_block.bits9 : waitsOk spec_block.T9.2 spec_block.B9 = true := by kernel_rfl
set_option maxHeartbeats 8000000 in
set_option maxRecDepth 100000 in
theorem spec_block.calls (k : Nat) (a0_0 : ByteArray) (A0_1 : Option Addr) (c0_1 : Nat) (l0_1 : List (S27)) (A0_2 : Option Addr) (c0_2 : Nat) (l0_2 : List (S45)) (a0_3 : ByteArray) (a1 : Int) (a2 : Int) (r : ByteArray) (w : World) (hr0_1 : Kd.C k27 w A0_1 l0_1.length l0_1) (hc0_1 : l0_1.length ≤ c0_1) (hr0_2 : Kd.C k45 w A0_2 l0_2.length l0_2) (hc0_2 : l0_2.length ≤ c0_2) (h : spec_block.f k a0_0 l0_1 l0_2 a0_3 a1 a2 = some r) :
  Calls Tryd.prog 27 #[.agg #[.string a0_0, .slice A0_1 l0_1.length c0_1, .slice A0_2 l0_2.length c0_2, .string a0_3], .int .u8 a1, .int .i64 a2] w fun e w' => e = .returned (.string r) ∧ Below w.heap.size w w' := by
 have hu25 := Tryd.underlying25
 have hu27 := Tryd.underlying27
 have hu45 := Tryd.underlying45
 have HR0_1 := Aside0.mk hr0_1
 have HC0_1 := Aside0.mk hc0_1
 clear hr0_1 hc0_1
 have HR0_2 := Aside0.mk hr0_2
 have HC0_2 := Aside0.mk hc0_2
 clear hr0_2 hc0_2
 have HB := Aside0.mk (Below.refl w.heap.size w)
 have H : (spec_block.l0 k a1 a2 (⟨#[]⟩ : ByteArray) (⟨#[]⟩ : ByteArray) l0_1 (l0_1.length : Int) 0 a0_0 l0_1 l0_2 a0_3) = some r := h
 clear h
 have H' := Aside0.mk H
 clear H
 go_enter Tryd.func27, Tryd.ntmps27
 go_wp2_with (first | ((with_reducible refine gate_dst (N := 3) rfl ?_); refine box_event ?hg (N := 3) ?hd (cs := #[.string a0_0, .slice A0_1 l0_1.length c0_1, .slice A0_2 l0_2.length c0_2, .string a0_3]) (t := 25) ?hr ?_; (case hd => rfl); (case hg => rfl); (case hr => first | (go_simp; done) | (go_simp; rfl)); intro gb132 hg w4 hbox hb; have n0_ := Aside0.mk (below_step a0_ hb); have n1_ := Aside0.mk (hbox); have n2_ := Aside0.mk ((by rw [hg]; exact (below_size a0_) : w.heap.size ≤ gb132)); have n3_ := Aside0.mk ((by rw [hg]; exact (below_size a0_) : w.heap.size ≤ gb132)); clear HB; have HB := n0_; have BK132 := n1_; have GW132 := n2_; have GE132 := n3_; clear n0_ n1_ n2_ n3_; clear hb hbox hg; obtain ⟨hcz5_0, hcz5_1, hcz5_2, hcz5_3, hfz5_0, hfz5_1, hfz5_2, hfz5_3⟩ := c4f_ BK132.out))
 go_loopg [7, 8, 22] k (fun kq v7 v8 v22 w' => ∃ (x7_1 : ByteArray) (x8_1 : ByteArray) (x22_1 : Int), v7 = .string x7_1 ∧ v8 = .string x8_1 ∧ v22 = .int .i64 x22_1 ∧ Aside0 (spec_block.l0 kq a1 a2 x7_1 x8_1 l0_1 (l0_1.length : Int) x22_1 a0_0 l0_1 l0_2 a0_3 = some r) ∧ Aside0 (kq ≤ k) ∧ Aside0 (w'.heap[gb132]? = some (.cells #[.string a0_0, (.slice A0_1 l0_1.length c0_1), (.slice A0_2 l0_2.length c0_2), .string a0_3] 25 (0, 0))) ∧ Aside0 (Below w.heap.size w w'))
 case atStart => exact ⟨((⟨#[]⟩ : ByteArray)), ((⟨#[]⟩ : ByteArray)), (0), a5_, a5_, a5_, H', ⟨Nat.le_refl _⟩, ⟨by (with_reducible repeat (first | refine blk_drewN ?_ _ | refine blk_drew ?_ | refine blk_alloc ?_ _)); exact BK132.out⟩, ⟨by repeat (first | (with_reducible first | exact HB.out | apply below_alloc | apply pw_below_drewN | apply below_drew1 | refine below_set ?_ GE132.out) | exact HB.out)⟩⟩
 case round =>
  clear H'
  try clear c2
  try clear p2
  try clear hcz5_0
  try clear hcz5_1
  try clear hcz5_2
  try clear hcz5_3
  try clear hfz5_0
  try clear hfz5_1
  try clear hfz5_2
  try clear hfz5_3
  obtain ⟨x7_1, x8_1, x22_1, rfl, rfl, rfl, HA, HK1, BK132, HB⟩ := hrel
  cases gk with
  | zero => exact absurd HA.out (by simp [spec_block.l0])
  | succ k1 =>
   have H := HA.out
   clear HA
   simp only [spec_block.l0] at H
   by_cases c6 : x22_1 < (l0_1.length : Int)
   ·rw [if_pos c6] at H
    have c6b0 := decide_eq_true c6
    clear c6
    by_cases c7 : 0 ≤ x22_1
    ·rw [if_pos c7] at H
     have c7b0 := decide_eq_true c7
     clear c7
     by_cases c8 : x22_1 < (l0_1.length : Int)
     ·rw [if_pos c8] at H
      have c8b0 := decide_eq_true c8
      clear c8
      obtain ⟨bq9, hbq9⟩ : ∃ b_ : Bool, b_ = ((rd_T27 l0_1 x22_1).f2) := ⟨_, rfl⟩
      replace H : (if bq9 = true then ((spec_Bytes.f k1 ((rd_T27 l0_1 x22_1).f1) 4).bind fun t135 => ((some (([1, ((x7_1.size : Int)) % 256] : List Int) : List Int)).bind fun y136 => (if t135.size + (strOfNums y136).size ≤ 9223372036854775807 then (if x8_1.size + (t135 ++ (strOfNums y136)).size ≤ 9223372036854775807 then (if ((rd_T27 l0_1 x22_1).f0).size + 1 ≤ 9223372036854775807 then (if x7_1.size + (((rd_T27 l0_1 x22_1).f0) ++ (⟨#[0]⟩ : ByteArray)).size ≤ 9223372036854775807 then (spec_block.l0 k1 a1 a2 (x7_1 ++ (((rd_T27 l0_1 x22_1).f0) ++ (⟨#[0]⟩ : ByteArray))) (x8_1 ++ (t135 ++ (strOfNums y136))) l0_1 (l0_1.length : Int) (wrap64 (x22_1 + 1)) a0_0 l0_1 l0_2 a0_3) else (none)) else (none)) else (none)) else (none)))) else ((spec_Bytes.f k1 ((rd_T27 l0_1 x22_1).f1) 4).bind fun t139 => ((some (([0, ((x7_1.size : Int)) % 256] : List Int) : List Int)).bind fun y140 => (if t139.size + (strOfNums y140).size ≤ 9223372036854775807 then (if x8_1.size + (t139 ++ (strOfNums y140)).size ≤ 9223372036854775807 then (if ((rd_T27 l0_1 x22_1).f0).size + 1 ≤ 9223372036854775807 then (if x7_1.size + (((rd_T27 l0_1 x22_1).f0) ++ (⟨#[0]⟩ : ByteArray)).size ≤ 9223372036854775807 then (spec_block.l0 k1 a1 a2 (x7_1 ++ (((rd_T27 l0_1 x22_1).f0) ++ (⟨#[0]⟩ : ByteArray))) (x8_1 ++ (t139 ++ (strOfNums y140))) l0_1 (l0_1.length : Int) (wrap64 (x22_1 + 1)) a0_0 l0_1 l0_2 a0_3) else (none)) else (none)) else (none)) else (none))))) = some r := by rw [← hbq9] at H; exact H
      have Nbq9 := Aside0.mk hbq9
      clear hbq9
      by_cases c10 : bq9 = true
      ·subst c10
       have H1 : ((spec_Bytes.f k1 ((rd_T27 l0_1 x22_1).f1) 4).bind fun t135 => ((some (([1, ((x7_1.size : Int)) % 256] : List Int) : List Int)).bind fun y136 => (if t135.size + (strOfNums y136).size ≤ 9223372036854775807 then (if x8_1.size + (t135 ++ (strOfNums y136)).size ≤ 9223372036854775807 then (if ((rd_T27 l0_1 x22_1).f0).size + 1 ≤ 9223372036854775807 then (if x7_1.size + (((rd_T27 l0_1 x22_1).f0) ++ (⟨#[0]⟩ : ByteArray)).size ≤ 9223372036854775807 then (spec_block.l0 k1 a1 a2 (x7_1 ++ (((rd_T27 l0_1 x22_1).f0) ++ (⟨#[0]⟩ : ByteArray))) (x8_1 ++ (t135 ++ (strOfNums y136))) l0_1 (l0_1.length : Int) (wrap64 (x22_1 + 1)) a0_0 l0_1 l0_2 a0_3) else (none)) else (none)) else (none)) else (none)))) = some r := by rw [if_pos rfl] at H; exact H
       clear H
       have H := H1
       clear H1
       replace H := Option.bind_eq_some_iff.mp H
       obtain ⟨t135, A110, H⟩ := H
       replace H : ((some (([1, ((x7_1.size : Int)) % 256] : List Int) : List Int)).bind fun y136 => (if t135.size + (strOfNums y136).size ≤ 9223372036854775807 then (if x8_1.size + (t135 ++ (strOfNums y136)).size ≤ 9223372036854775807 then (if ((rd_T27 l0_1 x22_1).f0).size + 1 ≤ 9223372036854775807 then (if x7_1.size + (((rd_T27 l0_1 x22_1).f0) ++ (⟨#[0]⟩ : ByteArray)).size ≤ 9223372036854775807 then (spec_block.l0 k1 a1 a2 (x7_1 ++ (((rd_T27 l0_1 x22_1).f0) ++ (⟨#[0]⟩ : ByteArray))) (x8_1 ++ (t135 ++ (strOfNums y136))) l0_1 (l0_1.length : Int) (wrap64 (x22_1 + 1)) a0_0 l0_1 l0_2 a0_3) else (none)) else (none)) else (none)) else (none))) = some r := H
       have A11 := Aside0.mk A110
       clear A110
       obtain ⟨y136, hy136⟩ : ∃ y_ : List Int, y_ = (([1, ((x7_1.size : Int)) % 256] : List Int)) := ⟨_, rfl⟩
       replace H : (if t135.size + (strOfNums y136).size ≤ 9223372036854775807 then (if x8_1.size + (t135 ++ (strOfNums y136)).size ≤ 9223372036854775807 then (if ((rd_T27 l0_1 x22_1).f0).size + 1 ≤ 9223372036854775807 then (if x7_1.size + (((rd_T27 l0_1 x22_1).f0) ++ (⟨#[0]⟩ : ByteArray)).size ≤ 9223372036854775807 then (spec_block.l0 k1 a1 a2 (x7_1 ++ (((rd_T27 l0_1 x22_1).f0) ++ (⟨#[0]⟩ : ByteArray))) (x8_1 ++ (t135 ++ (strOfNums y136))) l0_1 (l0_1.length : Int) (wrap64 (x22_1 + 1)) a0_0 l0_1 l0_2 a0_3) else (none)) else (none)) else (none)) else (none)) = some r := by first | (rw [hy136]; with_reducible exact H) | (have H2_ := (Option.bind_some _ _).symm.trans H; rw [hy136]; with_reducible exact H2_) | (have H2_ := (Option.bind_some _ _).symm.trans H; with_reducible exact H2_) | with_reducible exact H | (rw [hy136]; exact H) | exact H
       have Ny136 := Aside0.mk hy136
       clear hy136
       by_cases c12 : t135.size + (strOfNums y136).size ≤ 9223372036854775807
       ·rw [if_pos c12] at H
        have c12b0 := eq_true c12
        have c12b1 := decide_eq_true c12
        try have c12b2 := eq_false (Nat.not_lt.2 c12)
        by_cases c13 : x8_1.size + (t135 ++ (strOfNums y136)).size ≤ 9223372036854775807
        ·rw [if_pos c13] at H
         have c13b0 := eq_true c13
         have c13b1 := decide_eq_true c13
         try have c13b2 := eq_false (Nat.not_lt.2 c13)
         try (have c13b9 := c13b2; simp only [ByteArray.size_append] at c13b9)
         by_cases c14 : ((rd_T27 l0_1 x22_1).f0).size + 1 ≤ 9223372036854775807
         ·rw [if_pos c14] at H
          have c14b0 := eq_true c14
          have c14b1 := decide_eq_true c14
          try have c14b2 := eq_false (Nat.not_lt.2 c14)
          by_cases c15 : x7_1.size + (((rd_T27 l0_1 x22_1).f0) ++ (⟨#[0]⟩ : ByteArray)).size ≤ 9223372036854775807
          ·rw [if_pos c15] at H
           have c15b0 := eq_true c15
           have c15b1 := decide_eq_true c15
           try have c15b2 := eq_false (Nat.not_lt.2 c15)
           try (have c15b9 := c15b2; simp only [ByteArray.size_append, show (⟨#[0]⟩ : ByteArray).size = 1 from rfl] at c15b9)
           have H' := Aside0.mk H
           clear H
           have p133 : 0 ≤ (x22_1 : Int) := of_decide_eq_true a3_
           have q133 : x22_1 < (l0_1.length : Int) := of_decide_eq_true a3_
           obtain ⟨ad133, e133, hx133_0, hx133_1, hx133_2⟩ := at_T27 HR0_1.out x22_1 p133 q133
           (try rw [← Nbq9.out] at hx133_2)
           cases e133
           replace hx133_0 := (HB.out.cell (World.block_lt_of_cell? w _ hx133_0)).trans hx133_0
           replace hx133_1 := (HB.out.cell (World.block_lt_of_cell? w _ hx133_1)).trans hx133_1
           replace hx133_2 := (HB.out.cell (World.block_lt_of_cell? w _ hx133_2)).trans hx133_2
           replace p133 := eq_true p133
           replace q133 := eq_true q133
           try go_wp2_with (first | ((with_reducible refine gate_dst (N := 10) rfl ?_); refine box_event ?hg (N := 10) ?hd (cs := #[.string (⟨#[]⟩ : ByteArray), .int .i64 0, .bool false]) (t := 27) ?hr ?_; (case hd => rfl); (case hg => rfl); (case hr => first | (go_simp; done) | (go_simp; rfl)); intro gb134 hg w16 hbox hb; have n0_ := Aside0.mk (blk_below (g := gb132) (o := .cells #[.string a0_0, .slice (some ad133) l0_1.length c0_1, .slice A0_2 l0_2.length c0_2, .string a0_3] 25 (0, 0)) a6_ hb); have n1_ := Aside0.mk (below_step a7_ hb); have n2_ := Aside0.mk (hbox); have n3_ := Aside0.mk ((by rw [hg]; exact (below_size a7_) : w.heap.size ≤ gb134)); have n4_ := Aside0.mk ((by rw [hg]; exact (below_size a7_) : w.heap.size ≤ gb134)); have n5_ := Aside0.mk ((by rw [hg]; exact Nat.ne_of_lt (blk_lt (g := gb132) (o := .cells #[.string a0_0, .slice (some ad133) l0_1.length c0_1, .slice A0_2 l0_2.length c0_2, .string a0_3] 25 (0, 0)) a6_) : gb132 ≠ gb134)); have n6_ := Aside0.mk ((by rw [hg]; exact Nat.ne_of_gt (blk_lt (g := gb132) (o := .cells #[.string a0_0, .slice (some ad133) l0_1.length c0_1, .slice A0_2 l0_2.length c0_2, .string a0_3] 25 (0, 0)) a6_) : gb134 ≠ gb132)); clear BK132; clear HB; have BK132 := n0_; have HB := n1_; have BK134 := n2_; have GW134 := n3_; have GE134 := n4_; have NB132_134 := n5_; have NB134_132 := n6_; clear n0_ n1_ n2_ n3_ n4_ n5_ n6_; clear hb hbox hg; have hnb17 := NB134_132.out; have hnc17 := NB132_134.out; obtain ⟨hcz18_0, hcz18_1, hcz18_2, hfz18_0, hfz18_1, hfz18_2⟩ := c3f_ BK134.out))
           have n0_ : Aside0 ((((w16.setCell ⟨gb134, 0, none⟩ (.string ((rd_T27 l0_1 x22_1).f0))).setCell ⟨gb134, 1, none⟩ (.int .i64 ((rd_T27 l0_1 x22_1).f1))).setCell ⟨gb134, 2, none⟩ (.bool true)).heap[gb132]? = some (.cells #[.string a0_0, .slice (some ad133) l0_1.length c0_1, .slice A0_2 l0_2.length c0_2, .string a0_3] 25 (0, 0))) := ⟨by (with_reducible repeat (first | refine blk_drewN ?_ _ | refine blk_drew ?_ | refine blk_alloc ?_ _)); refine blk_far ?_ NB132_134.out _; (with_reducible repeat (first | refine blk_drewN ?_ _ | refine blk_drew ?_ | refine blk_alloc ?_ _)); refine blk_far ?_ NB132_134.out _; (with_reducible repeat (first | refine blk_drewN ?_ _ | refine blk_drew ?_ | refine blk_alloc ?_ _)); refine blk_far ?_ NB132_134.out _; (with_reducible repeat (first | refine blk_drewN ?_ _ | refine blk_drew ?_ | refine blk_alloc ?_ _)); exact BK132.out⟩
           have n1_ : Aside0 ((((w16.setCell ⟨gb134, 0, none⟩ (.string ((rd_T27 l0_1 x22_1).f0))).setCell ⟨gb134, 1, none⟩ (.int .i64 ((rd_T27 l0_1 x22_1).f1))).setCell ⟨gb134, 2, none⟩ (.bool true)).heap[gb134]? = some (.cells #[.string ((rd_T27 l0_1 x22_1).f0), .int .i64 ((rd_T27 l0_1 x22_1).f1), .bool true] 27 (0, 0))) := ⟨by (with_reducible repeat (first | refine blk_drewN ?_ _ | refine blk_drew ?_ | refine blk_alloc ?_ _)); refine blk_put (cs := #[.string ((rd_T27 l0_1 x22_1).f0), .int .i64 ((rd_T27 l0_1 x22_1).f1), .bool false]) ?_ 2 _ rfl; (with_reducible repeat (first | refine blk_drewN ?_ _ | refine blk_drew ?_ | refine blk_alloc ?_ _)); refine blk_put (cs := #[.string ((rd_T27 l0_1 x22_1).f0), .int .i64 0, .bool false]) ?_ 1 _ rfl; (with_reducible repeat (first | refine blk_drewN ?_ _ | refine blk_drew ?_ | refine blk_alloc ?_ _)); refine blk_put (cs := #[.string (⟨#[]⟩ : ByteArray), .int .i64 0, .bool false]) ?_ 0 _ rfl; (with_reducible repeat (first | refine blk_drewN ?_ _ | refine blk_drew ?_ | refine blk_alloc ?_ _)); exact BK134.out⟩
           have n2_ : Aside0 (Below w.heap.size w (((w16.setCell ⟨gb134, 0, none⟩ (.string ((rd_T27 l0_1 x22_1).f0))).setCell ⟨gb134, 1, none⟩ (.int .i64 ((rd_T27 l0_1 x22_1).f1))).setCell ⟨gb134, 2, none⟩ (.bool true))) := ⟨by repeat (first | (with_reducible first | exact HB.out | apply below_alloc | apply pw_below_drewN | apply below_drew1 | refine below_set ?_ GE132.out | refine below_set ?_ GE134.out) | exact HB.out)⟩
           (try clear BK132)
           (try clear BK134)
           (try clear HB)
           generalize (((w16.setCell ⟨gb134, 0, none⟩ (.string ((rd_T27 l0_1 x22_1).f0))).setCell ⟨gb134, 1, none⟩ (.int .i64 ((rd_T27 l0_1 x22_1).f1))).setCell ⟨gb134, 2, none⟩ (.bool true)) = w19 at n0_ n1_ n2_ ⊢
           have BK132 := n0_
           have BK134 := n1_
           have HB := n2_
           clear n0_ n1_ n2_
           have n0_ := Aside0.mk (blk_drew BK132.out)
           have n1_ := Aside0.mk (blk_drew BK134.out)
           have n2_ := Aside0.mk (below_drew1 HB.out)
           clear BK132
           clear BK134
           clear HB
           have BK132 := n0_
           have BK134 := n1_
           have HB := n2_
           clear n0_ n1_ n2_
           refine start_ (n := 13) (S := fun w' => w'.cell? ⟨gb134, 0, none⟩ = some (.string ((rd_T27 l0_1 x22_1).f0)) ∧ w'.cell? ⟨gb134, 1, none⟩ = some (.int .i64 ((rd_T27 l0_1 x22_1).f1)) ∧ w'.cell? ⟨gb134, 2, none⟩ = some (.bool true)) (ds := []) #[false, false, false, false, false, false, false, false, false, false, false, false, false] (by kernel_rfl) rfl rfl ⟨(blk_cell BK134.out 0).trans rfl, (blk_cell BK134.out 1).trans rfl, (blk_cell BK134.out 2).trans rfl⟩ (fun hHeld => ?_); refine with_tabW spec_block.tab9 spec_block.bits9 (fun HT_ HW_ => ?_)
           generalize w19.drew = w20 at BK132 BK134 HB hHeld ⊢
           refine pure_ (i := 0) (N := some 28) (v := ?_) (a' := ?_) #[true, false, false, false, false, false, false, false, false, false, false, false, false] rfl rfl (any_of HT_.out (by kernel_rfl)) (fun _ _ _ h => h) (Or.inl ⟨by rfl, ?_⟩) ?_ ?_
           rotate_left
           ·intro w'
            go_simp
            with_reducible rfl
           rotate_left
           ·simp only [Act.put, List.setIfInBounds_toArray, List.set_cons_zero, List.set_cons_succ, i64_w, i32_w]
            rfl
           refine pure_ (i := 1) (N := some 29) (v := ?_) (a' := ?_) #[true, true, false, false, false, false, false, false, false, false, false, false, false] rfl rfl (any_of HT_.out (by kernel_rfl)) (fun _ _ _ h => h) (Or.inl ⟨by rfl, ?_⟩) ?_ ?_
           rotate_left
           ·intro w'
            go_simp
            with_reducible rfl
           rotate_left
           ·simp only [Act.put, List.setIfInBounds_toArray, List.set_cons_zero, List.set_cons_succ, i64_w, i32_w]
            rfl
           refine pure_ (i := 4) (N := some 32) (v := ?_) (a' := ?_) #[true, true, false, false, true, false, false, false, false, false, false, false, false] rfl rfl (any_of HT_.out (by kernel_rfl)) (fun _ _ _ h => h) (Or.inl ⟨by rfl, ?_⟩) ?_ ?_
           rotate_left
           ·intro w'
            go_simp
            with_reducible rfl
           rotate_left
           ·simp only [Act.put, List.setIfInBounds_toArray, List.set_cons_zero, List.set_cons_succ, i64_w, i32_w]
            rfl
           refine pure_ (i := 5) (N := some 33) (v := ?_) (a' := ?_) #[true, true, false, false, true, true, false, false, false, false, false, false, false] rfl rfl (any_of HT_.out (by kernel_rfl)) (fun _ _ _ h => h) (Or.inl ⟨by rfl, ?_⟩) ?_ ?_
           rotate_left
           ·intro w'
            go_simp
            with_reducible rfl
           rotate_left
           ·simp only [Act.put, List.setIfInBounds_toArray, List.set_cons_zero, List.set_cons_succ, i64_w, i32_w]
            rfl
           refine pure_ (i := 6) (N := some 34) (v := ?_) (a' := ?_) #[true, true, false, false, true, true, true, false, false, false, false, false, false] rfl rfl (any_of HT_.out (by kernel_rfl)) (fun _ _ _ h => h) (Or.inl ⟨by rfl, ?_⟩) ?_ ?_
           rotate_left
           ·intro w'
            go_simp
            with_reducible rfl
           rotate_left
           ·simp only [Act.put, List.setIfInBounds_toArray, List.set_cons_zero, List.set_cons_succ, i64_w, i32_w]
            rfl
           refine pure_ (i := 7) (N := some 35) (v := ?_) (a' := ?_) #[true, true, false, false, true, true, true, true, false, false, false, false, false] rfl rfl (any_of HT_.out (by kernel_rfl)) (fun _ _ _ h => h) (Or.inl ⟨by rfl, ?_⟩) ?_ ?_
           rotate_left
           ·intro w'
            go_simp
            with_reducible rfl
           rotate_left
           ·simp only [Act.put, List.setIfInBounds_toArray, List.set_cons_zero, List.set_cons_succ, i64_w, i32_w]
            rfl
           refine take_ (i := 2) (N := some 30) (v := ?_) (a' := ?_) #[true, true, true, false, true, true, true, true, false, false, false, false, false] rfl rfl (take_ofW HT_.out HW_.out (by kernel_rfl)) (fun _ _ _ h => h) (Or.inl ⟨by rfl, ?_⟩) hHeld ?_ ?_
           rotate_left
           ·rintro w' ⟨s0, s1, s2⟩
            go_simp
            with_reducible rfl
           rotate_left
           ·simp only [Act.put, List.setIfInBounds_toArray, List.set_cons_zero, List.set_cons_succ, i64_w, i32_w]
            rfl
           refine join_ (σ := Value) 3 #[true, true, true, true, true, true, true, true, true, true, false, false, false] (fun s_ => [(31, .string t135), (36, s_), (37, .string (strOfNums y136))]) (fun s_ w' => (w'.cell? ⟨gb134, 0, none⟩ = some (.string ((rd_T27 l0_1 x22_1).f0)) ∧ w'.cell? ⟨gb134, 1, none⟩ = some (.int .i64 ((rd_T27 l0_1 x22_1).f1)) ∧ w'.cell? ⟨gb134, 2, none⟩ = some (.bool true)) ∧ (Kd.R (Kd.int .u8) 5 w' w.heap.size (fun _ => True) s_ y136) ∧ (w'.heap[gb132]? = some (.cells #[.string a0_0, .slice (some ad133) l0_1.length c0_1, .slice A0_2 l0_2.length c0_2, .string a0_3] 25 (0, 0))) ∧ (w'.heap[gb134]? = some (.cells #[.string ((rd_T27 l0_1 x22_1).f0), .int .i64 ((rd_T27 l0_1 x22_1).f1), .bool true] 27 (0, 0))) ∧ (Below w.heap.size w w')) ?_ ?_
           rotate_left
           ·intro hCont
            refine two_ (i := 3) (j := 8) (Ni := some 31) (Nj := some 36) #[true, true, true, true, true, true, true, true, false, false, false, false, false] #[true, true, true, false, true, true, true, true, true, false, false, false, false] rfl rfl rfl rfl (two_of HT_.out (by kernel_rfl)) (by decide) (by decide) (fun K hK => ?_) (fun K hK => ?_)
            ·skip
             refine goes_ Tryd.func44 (by kernel_rfl) rfl #[.int .i64 ((rd_T27 l0_1 x22_1).f1), .int .i64 4] (by rfl) rfl rfl a1_ ?_
             with_reducible refine (spec_Bytes.calls k1 ((rd_T27 l0_1 x22_1).f1) 4 t135 _ A11.out).mono ?_
             rintro e w21 ⟨rfl, hb⟩
             refine ⟨_, rfl, ?_⟩
             have n0_ := Aside0.mk (blk_below (g := gb132) (o := .cells #[.string a0_0, .slice (some ad133) l0_1.length c0_1, .slice A0_2 l0_2.length c0_2, .string a0_3] 25 (0, 0)) a6_ hb)
             have n1_ := Aside0.mk (blk_below (g := gb134) (o := .cells #[.string ((rd_T27 l0_1 x22_1).f0), .int .i64 ((rd_T27 l0_1 x22_1).f1), .bool true] 27 (0, 0)) a14_ hb)
             have n2_ := Aside0.mk (below_step a8_ hb)
             clear BK132
             clear BK134
             clear HB
             have BK132 := n0_
             have BK134 := n1_
             have HB := n2_
             clear n0_ n1_ n2_
             (try clear hb)
             (try clear hb2)
             (try clear hk)
             (try clear hi)
             refine hK.out _ _ ⟨(blk_cell BK134.out 0).trans rfl, (blk_cell BK134.out 1).trans rfl, (blk_cell BK134.out 2).trans rfl⟩ (fun hHeld => ?_)
             clear hK K
             refine norm_ (a' := ?_) ?_ ?_
             rotate_left
             ·show Act.put _ (some 31) _ = _
              simp only [Act.put, List.setIfInBounds_toArray, List.set_cons_zero, List.set_cons_succ, i64_w, i32_w]
              rfl
             refine one_ (i := 8) (N := some 36) #[true, true, true, true, true, true, true, true, true, false, false, false, false] rfl rfl (one_of HT_.out (by kernel_rfl)) (by decide) (fun K hK => ?_)
             refine Kd.R_lit_step (Kd.int .u8) _ 5 ?hg (N := 36) ?hd (xs := ([1, ((x7_1.size : Int)) % 256] : List Int)) (inner := [.int .u8 1, .int .u8 (((x7_1.size : Int)) % 256)]) (ok := fun _ => True) (okp := fun _ => True) ?hr ?hp (fun _ hk => hk) trivial (Below.refl _ _) (Nat.le_refl _) (by simp) ?_; (case hd => rfl); (case hg => rfl); (case hr => first | (go_simp; done) | (go_simp; rfl)); (case hp => exact (Reps.one (show Kd.M (Kd.int .u8) _ _ _ 1 [.int .u8 1] from rfl) (Reps.one (show Kd.M (Kd.int .u8) _ _ _ (((x7_1.size : Int)) % 256) [.int .u8 (((x7_1.size : Int)) % 256)] from rfl) (Reps.none _ _))))
             intro v137 w22 ho23 hb hg_ hnew_
             clear hg_ hnew_
             (first | rw [← Ny136.out] at ho23 | (simp only [Int.reduceToNat] at ho23; rw [← Ny136.out] at ho23))
             have n0_ := Aside0.mk (Kd.R_lower ho23 (below_size a8_))
             have n1_ := Aside0.mk (blk_below (g := gb132) (o := .cells #[.string a0_0, .slice (some ad133) l0_1.length c0_1, .slice A0_2 l0_2.length c0_2, .string a0_3] 25 (0, 0)) a6_ hb)
             have n2_ := Aside0.mk (blk_below (g := gb134) (o := .cells #[.string ((rd_T27 l0_1 x22_1).f0), .int .i64 ((rd_T27 l0_1 x22_1).f1), .bool true] 27 (0, 0)) a14_ hb)
             have n3_ := Aside0.mk (below_step a8_ hb)
             clear BK132
             clear BK134
             clear HB
             have HO138 := n0_
             have BK132 := n1_
             have BK134 := n2_
             have HB := n3_
             clear n0_ n1_ n2_ n3_
             clear hb ho23
             refine hK.out _ _ ⟨(blk_cell BK134.out 0).trans rfl, (blk_cell BK134.out 1).trans rfl, (blk_cell BK134.out 2).trans rfl⟩ (fun hHeld => ?_)
             clear hK K
             refine norm_ (a' := ?_) ?_ ?_
             rotate_left
             ·show Act.put _ (some 36) _ = _
              simp only [Act.put, List.setIfInBounds_toArray, List.set_cons_zero, List.set_cons_succ, i64_w, i32_w]
              rfl
             refine one_ (i := 9) (N := some 37) #[true, true, true, true, true, true, true, true, true, true, false, false, false] rfl rfl (one_of HT_.out (by kernel_rfl)) (by decide) (fun K hK => ?_)
             have hcv24 := own_string (P := Tryd.prog) Tryd.underlying62 Tryd.underlying5 Tryd.underlying9 (Kd.own_of_R HO138.out)
             refine value_ (w1 := ?_) (v := ?_) (by rfl) rfl ?_ ?_
             rotate_left 2
             ·go_simp
              constructor
              ·rfl
              ·rfl
             clear hcv24
             refine hK.out _ _ ⟨(blk_cell BK134.out 0).trans rfl, (blk_cell BK134.out 1).trans rfl, (blk_cell BK134.out 2).trans rfl⟩ (fun hHeld => ?_)
             clear hK K
             refine norm_ (a' := ?_) ?_ ?_
             rotate_left
             ·show Act.put _ (some 37) _ = _
              simp only [Act.put, List.setIfInBounds_toArray, List.set_cons_zero, List.set_cons_succ, i64_w, i32_w]
              rfl
             exact norm_ a31_ (hCont (v137) _ ⟨hHeld, a39_, a6_, a14_, a8_⟩)
            ·skip
             refine Kd.R_lit_step (Kd.int .u8) _ 5 ?hg (N := 36) ?hd (xs := ([1, ((x7_1.size : Int)) % 256] : List Int)) (inner := [.int .u8 1, .int .u8 (((x7_1.size : Int)) % 256)]) (ok := fun _ => True) (okp := fun _ => True) ?hr ?hp (fun _ hk => hk) trivial (Below.refl _ _) (Nat.le_refl _) (by simp) ?_; (case hd => rfl); (case hg => rfl); (case hr => first | (go_simp; done) | (go_simp; rfl)); (case hp => exact (Reps.one (show Kd.M (Kd.int .u8) _ _ _ 1 [.int .u8 1] from rfl) (Reps.one (show Kd.M (Kd.int .u8) _ _ _ (((x7_1.size : Int)) % 256) [.int .u8 (((x7_1.size : Int)) % 256)] from rfl) (Reps.none _ _))))
             intro v137 w21 ho22 hb hg_ hnew_
             clear hg_ hnew_
             (first | rw [← Ny136.out] at ho22 | (simp only [Int.reduceToNat] at ho22; rw [← Ny136.out] at ho22))
             have n0_ := Aside0.mk (Kd.R_lower ho22 (below_size a8_))
             have n1_ := Aside0.mk (blk_below (g := gb132) (o := .cells #[.string a0_0, .slice (some ad133) l0_1.length c0_1, .slice A0_2 l0_2.length c0_2, .string a0_3] 25 (0, 0)) a6_ hb)
             have n2_ := Aside0.mk (blk_below (g := gb134) (o := .cells #[.string ((rd_T27 l0_1 x22_1).f0), .int .i64 ((rd_T27 l0_1 x22_1).f1), .bool true] 27 (0, 0)) a14_ hb)
             have n3_ := Aside0.mk (below_step a8_ hb)
             clear BK132
             clear BK134
             clear HB
             have HO138 := n0_
             have BK132 := n1_
             have BK134 := n2_
             have HB := n3_
             clear n0_ n1_ n2_ n3_
             clear hb ho22
             refine hK.out _ _ ⟨(blk_cell BK134.out 0).trans rfl, (blk_cell BK134.out 1).trans rfl, (blk_cell BK134.out 2).trans rfl⟩ (fun hHeld => ?_)
             clear hK K
             refine norm_ (a' := ?_) ?_ ?_
             rotate_left
             ·show Act.put _ (some 36) _ = _
              simp only [Act.put, List.setIfInBounds_toArray, List.set_cons_zero, List.set_cons_succ, i64_w, i32_w]
              rfl
             refine two_ (i := 3) (j := 9) (Ni := some 31) (Nj := some 37) #[true, true, true, true, true, true, true, true, true, false, false, false, false] #[true, true, true, false, true, true, true, true, true, true, false, false, false] rfl rfl rfl rfl (two_of HT_.out (by kernel_rfl)) (by decide) (by decide) (fun K hK => ?_) (fun K hK => ?_)
             ·skip
              refine goes_ Tryd.func44 (by kernel_rfl) rfl #[.int .i64 ((rd_T27 l0_1 x22_1).f1), .int .i64 4] (by rfl) rfl rfl a1_ ?_
              with_reducible refine (spec_Bytes.calls k1 ((rd_T27 l0_1 x22_1).f1) 4 t135 _ A11.out).mono ?_
              rintro e w23 ⟨rfl, hb⟩
              refine ⟨_, rfl, ?_⟩
              have n0_ := Aside0.mk (Kd.R_below a39_ hb)
              have n1_ := Aside0.mk (blk_below (g := gb132) (o := .cells #[.string a0_0, .slice (some ad133) l0_1.length c0_1, .slice A0_2 l0_2.length c0_2, .string a0_3] 25 (0, 0)) a6_ hb)
              have n2_ := Aside0.mk (blk_below (g := gb134) (o := .cells #[.string ((rd_T27 l0_1 x22_1).f0), .int .i64 ((rd_T27 l0_1 x22_1).f1), .bool true] 27 (0, 0)) a14_ hb)
              have n3_ := Aside0.mk (below_step a8_ hb)
              clear HO138
              clear BK132
              clear BK134
              clear HB
              have HO138 := n0_
              have BK132 := n1_
              have BK134 := n2_
              have HB := n3_
              clear n0_ n1_ n2_ n3_
              (try clear hb)
              (try clear hb2)
              (try clear hk)
              (try clear hi)
              refine hK.out _ _ ⟨(blk_cell BK134.out 0).trans rfl, (blk_cell BK134.out 1).trans rfl, (blk_cell BK134.out 2).trans rfl⟩ (fun hHeld => ?_)
              clear hK K
              refine norm_ (a' := ?_) ?_ ?_
              rotate_left
              ·show Act.put _ (some 31) _ = _
               simp only [Act.put, List.setIfInBounds_toArray, List.set_cons_zero, List.set_cons_succ, i64_w, i32_w]
               rfl
              refine one_ (i := 9) (N := some 37) #[true, true, true, true, true, true, true, true, true, true, false, false, false] rfl rfl (one_of HT_.out (by kernel_rfl)) (by decide) (fun K hK => ?_)
              have hcv24 := own_string (P := Tryd.prog) Tryd.underlying62 Tryd.underlying5 Tryd.underlying9 (Kd.own_of_R HO138.out)
              refine value_ (w1 := ?_) (v := ?_) (by rfl) rfl ?_ ?_
              rotate_left 2
              ·go_simp
               constructor
               ·rfl
               ·rfl
              clear hcv24
              refine hK.out _ _ ⟨(blk_cell BK134.out 0).trans rfl, (blk_cell BK134.out 1).trans rfl, (blk_cell BK134.out 2).trans rfl⟩ (fun hHeld => ?_)
              clear hK K
              refine norm_ (a' := ?_) ?_ ?_
              rotate_left
              ·show Act.put _ (some 37) _ = _
               simp only [Act.put, List.setIfInBounds_toArray, List.set_cons_zero, List.set_cons_succ, i64_w, i32_w]
               rfl
              exact norm_ a31_ (hCont (v137) _ ⟨hHeld, a39_, a6_, a14_, a8_⟩)
             ·skip
              have hcv23 := own_string (P := Tryd.prog) Tryd.underlying62 Tryd.underlying5 Tryd.underlying9 (Kd.own_of_R HO138.out)
              refine value_ (w1 := ?_) (v := ?_) (by rfl) rfl ?_ ?_
              rotate_left 2
              ·go_simp
               constructor
               ·rfl
               ·rfl
              clear hcv23
              refine hK.out _ _ ⟨(blk_cell BK134.out 0).trans rfl, (blk_cell BK134.out 1).trans rfl, (blk_cell BK134.out 2).trans rfl⟩ (fun hHeld => ?_)
              clear hK K
              refine norm_ (a' := ?_) ?_ ?_
              rotate_left
              ·show Act.put _ (some 37) _ = _
               simp only [Act.put, List.setIfInBounds_toArray, List.set_cons_zero, List.set_cons_succ, i64_w, i32_w]
               rfl
              refine one_ (i := 3) (N := some 31) #[true, true, true, true, true, true, true, true, true, true, false, false, false] rfl rfl (one_of HT_.out (by kernel_rfl)) (by decide) (fun K hK => ?_)
              refine goes_ Tryd.func44 (by kernel_rfl) rfl #[.int .i64 ((rd_T27 l0_1 x22_1).f1), .int .i64 4] (by rfl) rfl rfl a1_ ?_
              with_reducible refine (spec_Bytes.calls k1 ((rd_T27 l0_1 x22_1).f1) 4 t135 _ A11.out).mono ?_
              rintro e w24 ⟨rfl, hb⟩
              refine ⟨_, rfl, ?_⟩
              have n0_ := Aside0.mk (Kd.R_below a39_ hb)
              have n1_ := Aside0.mk (blk_below (g := gb132) (o := .cells #[.string a0_0, .slice (some ad133) l0_1.length c0_1, .slice A0_2 l0_2.length c0_2, .string a0_3] 25 (0, 0)) a6_ hb)
              have n2_ := Aside0.mk (blk_below (g := gb134) (o := .cells #[.string ((rd_T27 l0_1 x22_1).f0), .int .i64 ((rd_T27 l0_1 x22_1).f1), .bool true] 27 (0, 0)) a14_ hb)
              have n3_ := Aside0.mk (below_step a8_ hb)
              clear HO138
              clear BK132
              clear BK134
              clear HB
              have HO138 := n0_
              have BK132 := n1_
              have BK134 := n2_
              have HB := n3_
              clear n0_ n1_ n2_ n3_
              (try clear hb)
              (try clear hb2)
              (try clear hk)
              (try clear hi)
              refine hK.out _ _ ⟨(blk_cell BK134.out 0).trans rfl, (blk_cell BK134.out 1).trans rfl, (blk_cell BK134.out 2).trans rfl⟩ (fun hHeld => ?_)
              clear hK K
              refine norm_ (a' := ?_) ?_ ?_
              rotate_left
              ·show Act.put _ (some 31) _ = _
               simp only [Act.put, List.setIfInBounds_toArray, List.set_cons_zero, List.set_cons_succ, i64_w, i32_w]
               rfl
              exact norm_ a31_ (hCont (v137) _ ⟨hHeld, a39_, a6_, a14_, a8_⟩)
           rintro v137 w25 ⟨hS_, h0_, h1_, h2_, h3_⟩
           have n0_ : Aside0 (Kd.R (Kd.int .u8) 5 w25 w.heap.size (fun _ => True) v137 y136) := ⟨h0_⟩
           have n1_ : Aside0 (w25.heap[gb132]? = some (.cells #[.string a0_0, .slice (some ad133) l0_1.length c0_1, .slice A0_2 l0_2.length c0_2, .string a0_3] 25 (0, 0))) := ⟨h1_⟩
           have n2_ : Aside0 (w25.heap[gb134]? = some (.cells #[.string ((rd_T27 l0_1 x22_1).f0), .int .i64 ((rd_T27 l0_1 x22_1).f1), .bool true] 27 (0, 0))) := ⟨h2_⟩
           have n3_ : Aside0 (Below w.heap.size w w25) := ⟨h3_⟩
           clear BK132
           clear BK134
           clear HB
           clear h0_ h1_ h2_ h3_
           have HO138 := n0_
           have BK132 := n1_
           have BK134 := n2_
           have HB := n3_
           clear n0_ n1_ n2_ n3_
           have hHeld : w25.cell? ⟨gb134, 0, none⟩ = some (.string ((rd_T27 l0_1 x22_1).f0)) ∧ w25.cell? ⟨gb134, 1, none⟩ = some (.int .i64 ((rd_T27 l0_1 x22_1).f1)) ∧ w25.cell? ⟨gb134, 2, none⟩ = some (.bool true) := hS_
           refine norm_ (a' := ?_) ?_ ?_
           rotate_left
           ·simp only [putAll, Act.put, List.setIfInBounds_toArray, List.set_cons_zero, List.set_cons_succ]
            rfl
           refine pure_ (i := 10) (N := some 38) (v := ?_) (a' := ?_) #[true, true, true, true, true, true, true, true, true, true, true, false, false] rfl rfl (any_of HT_.out (by kernel_rfl)) (fun _ _ _ h => h) (Or.inl ⟨by rfl, ?_⟩) ?_ ?_
           rotate_left
           ·intro w'
            go_simp
            with_reducible rfl
           rotate_left
           ·simp only [Act.put, List.setIfInBounds_toArray, List.set_cons_zero, List.set_cons_succ, i64_w, i32_w]
            rfl
           refine pure_ (i := 11) (N := some 39) (v := ?_) (a' := ?_) #[true, true, true, true, true, true, true, true, true, true, true, true, false] rfl rfl (any_of HT_.out (by kernel_rfl)) (fun _ _ _ h => h) (Or.inl ⟨by rfl, ?_⟩) ?_ ?_
           rotate_left
           ·intro w'
            go_simp
            with_reducible rfl
           rotate_left
           ·simp only [Act.put, List.setIfInBounds_toArray, List.set_cons_zero, List.set_cons_succ, i64_w, i32_w]
            rfl
           refine pure_ (i := 12) (N := some 8) (v := ?_) (a' := ?_) #[true, true, true, true, true, true, true, true, true, true, true, true, true] rfl rfl (any_of HT_.out (by kernel_rfl)) (fun _ _ _ h => h) (Or.inl ⟨by rfl, ?_⟩) ?_ ?_
           rotate_left
           ·intro w'
            go_simp
            with_reducible rfl
           rotate_left
           ·simp only [Act.put, List.setIfInBounds_toArray, List.set_cons_zero, List.set_cons_succ, i64_w, i32_w]
            rfl
           refine done_ (done_of HT_.out (by kernel_rfl)) ?_
           obtain ⟨hcz26_0, hcz26_1, hcz26_2, hfz26_0, hfz26_1, hfz26_2⟩ := c3f_ BK134.out
           try go_wp2
           go_roundg k1
           case measure => have := HK1.out; omega
           case rel => exact ⟨(x7_1 ++ (((rd_T27 l0_1 x22_1).f0) ++ (⟨#[0]⟩ : ByteArray))), (x8_1 ++ (t135 ++ (strOfNums y136))), (wrap64 (x22_1 + 1)), a5_, a5_, a5_, H', ⟨by have := HK1.out; omega⟩, ⟨by (with_reducible repeat (first | refine blk_drewN ?_ _ | refine blk_drew ?_ | refine blk_alloc ?_ _)); exact BK132.out⟩, ⟨by repeat (first | (with_reducible first | exact HB.out | apply below_alloc | apply pw_below_drewN | apply below_drew1 | refine below_set ?_ GE132.out | refine below_set ?_ GE134.out) | exact HB.out)⟩⟩
          ·rw [if_neg c15] at H
           exact absurd H (by simp)
         ·rw [if_neg c14] at H
          exact absurd H (by simp)
        ·rw [if_neg c13] at H
         exact absurd H (by simp)
       ·rw [if_neg c12] at H
        exact absurd H (by simp)
      ·replace c10 := Bool.eq_false_iff.mpr c10
       subst c10
       have H1 : ((spec_Bytes.f k1 ((rd_T27 l0_1 x22_1).f1) 4).bind fun t139 => ((some (([0, ((x7_1.size : Int)) % 256] : List Int) : List Int)).bind fun y140 => (if t139.size + (strOfNums y140).size ≤ 9223372036854775807 then (if x8_1.size + (t139 ++ (strOfNums y140)).size ≤ 9223372036854775807 then (if ((rd_T27 l0_1 x22_1).f0).size + 1 ≤ 9223372036854775807 then (if x7_1.size + (((rd_T27 l0_1 x22_1).f0) ++ (⟨#[0]⟩ : ByteArray)).size ≤ 9223372036854775807 then (spec_block.l0 k1 a1 a2 (x7_1 ++ (((rd_T27 l0_1 x22_1).f0) ++ (⟨#[0]⟩ : ByteArray))) (x8_1 ++ (t139 ++ (strOfNums y140))) l0_1 (l0_1.length : Int) (wrap64 (x22_1 + 1)) a0_0 l0_1 l0_2 a0_3) else (none)) else (none)) else (none)) else (none)))) = some r := by rw [if_neg (show ¬ (false = true) by decide)] at H; exact H
       clear H
       have H := H1
       clear H1
       replace H := Option.bind_eq_some_iff.mp H
       obtain ⟨t139, A270, H⟩ := H
       replace H : ((some (([0, ((x7_1.size : Int)) % 256] : List Int) : List Int)).bind fun y140 => (if t139.size + (strOfNums y140).size ≤ 9223372036854775807 then (if x8_1.size + (t139 ++ (strOfNums y140)).size ≤ 9223372036854775807 then (if ((rd_T27 l0_1 x22_1).f0).size + 1 ≤ 9223372036854775807 then (if x7_1.size + (((rd_T27 l0_1 x22_1).f0) ++ (⟨#[0]⟩ : ByteArray)).size ≤ 9223372036854775807 then (spec_block.l0 k1 a1 a2 (x7_1 ++ (((rd_T27 l0_1 x22_1).f0) ++ (⟨#[0]⟩ : ByteArray))) (x8_1 ++ (t139 ++ (strOfNums y140))) l0_1 (l0_1.length : Int) (wrap64 (x22_1 + 1)) a0_0 l0_1 l0_2 a0_3) else (none)) else (none)) else (none)) else (none))) = some r := H
       have A27 := Aside0.mk A270
       clear A270
       obtain ⟨y140, hy140⟩ : ∃ y_ : List Int, y_ = (([0, ((x7_1.size : Int)) % 256] : List Int)) := ⟨_, rfl⟩
       replace H : (if t139.size + (strOfNums y140).size ≤ 9223372036854775807 then (if x8_1.size + (t139 ++ (strOfNums y140)).size ≤ 9223372036854775807 then (if ((rd_T27 l0_1 x22_1).f0).size + 1 ≤ 9223372036854775807 then (if x7_1.size + (((rd_T27 l0_1 x22_1).f0) ++ (⟨#[0]⟩ : ByteArray)).size ≤ 9223372036854775807 then (spec_block.l0 k1 a1 a2 (x7_1 ++ (((rd_T27 l0_1 x22_1).f0) ++ (⟨#[0]⟩ : ByteArray))) (x8_1 ++ (t139 ++ (strOfNums y140))) l0_1 (l0_1.length : Int) (wrap64 (x22_1 + 1)) a0_0 l0_1 l0_2 a0_3) else (none)) else (none)) else (none)) else (none)) = some r := by first | (rw [hy140]; with_reducible exact H) | (have H2_ := (Option.bind_some _ _).symm.trans H; rw [hy140]; with_reducible exact H2_) | (have H2_ := (Option.bind_some _ _).symm.trans H; with_reducible exact H2_) | with_reducible exact H | (rw [hy140]; exact H) | exact H
       have Ny140 := Aside0.mk hy140
       clear hy140
       by_cases c28 : t139.size + (strOfNums y140).size ≤ 9223372036854775807
       ·rw [if_pos c28] at H
        have c28b0 := eq_true c28
        have c28b1 := decide_eq_true c28
        try have c28b2 := eq_false (Nat.not_lt.2 c28)
        by_cases c29 : x8_1.size + (t139 ++ (strOfNums y140)).size ≤ 9223372036854775807
        ·rw [if_pos c29] at H
         have c29b0 := eq_true c29
         have c29b1 := decide_eq_true c29
         try have c29b2 := eq_false (Nat.not_lt.2 c29)
         try (have c29b9 := c29b2; simp only [ByteArray.size_append] at c29b9)
         by_cases c30 : ((rd_T27 l0_1 x22_1).f0).size + 1 ≤ 9223372036854775807
         ·rw [if_pos c30] at H
          have c30b0 := eq_true c30
          have c30b1 := decide_eq_true c30
          try have c30b2 := eq_false (Nat.not_lt.2 c30)
          by_cases c31 : x7_1.size + (((rd_T27 l0_1 x22_1).f0) ++ (⟨#[0]⟩ : ByteArray)).size ≤ 9223372036854775807
          ·rw [if_pos c31] at H
           have c31b0 := eq_true c31
           have c31b1 := decide_eq_true c31
           try have c31b2 := eq_false (Nat.not_lt.2 c31)
           try (have c31b9 := c31b2; simp only [ByteArray.size_append, show (⟨#[0]⟩ : ByteArray).size = 1 from rfl] at c31b9)
           have H' := Aside0.mk H
           clear H
           have p133 : 0 ≤ (x22_1 : Int) := of_decide_eq_true a3_
           have q133 : x22_1 < (l0_1.length : Int) := of_decide_eq_true a3_
           obtain ⟨ad133, e133, hx133_0, hx133_1, hx133_2⟩ := at_T27 HR0_1.out x22_1 p133 q133
           (try rw [← Nbq9.out] at hx133_2)
           cases e133
           replace hx133_0 := (HB.out.cell (World.block_lt_of_cell? w _ hx133_0)).trans hx133_0
           replace hx133_1 := (HB.out.cell (World.block_lt_of_cell? w _ hx133_1)).trans hx133_1
           replace hx133_2 := (HB.out.cell (World.block_lt_of_cell? w _ hx133_2)).trans hx133_2
           replace p133 := eq_true p133
           replace q133 := eq_true q133
           try go_wp2_with (first | ((with_reducible refine gate_dst (N := 10) rfl ?_); refine box_event ?hg (N := 10) ?hd (cs := #[.string (⟨#[]⟩ : ByteArray), .int .i64 0, .bool false]) (t := 27) ?hr ?_; (case hd => rfl); (case hg => rfl); (case hr => first | (go_simp; done) | (go_simp; rfl)); intro gb134 hg w32 hbox hb; have n0_ := Aside0.mk (blk_below (g := gb132) (o := .cells #[.string a0_0, .slice (some ad133) l0_1.length c0_1, .slice A0_2 l0_2.length c0_2, .string a0_3] 25 (0, 0)) a6_ hb); have n1_ := Aside0.mk (below_step a7_ hb); have n2_ := Aside0.mk (hbox); have n3_ := Aside0.mk ((by rw [hg]; exact (below_size a7_) : w.heap.size ≤ gb134)); have n4_ := Aside0.mk ((by rw [hg]; exact (below_size a7_) : w.heap.size ≤ gb134)); have n5_ := Aside0.mk ((by rw [hg]; exact Nat.ne_of_lt (blk_lt (g := gb132) (o := .cells #[.string a0_0, .slice (some ad133) l0_1.length c0_1, .slice A0_2 l0_2.length c0_2, .string a0_3] 25 (0, 0)) a6_) : gb132 ≠ gb134)); have n6_ := Aside0.mk ((by rw [hg]; exact Nat.ne_of_gt (blk_lt (g := gb132) (o := .cells #[.string a0_0, .slice (some ad133) l0_1.length c0_1, .slice A0_2 l0_2.length c0_2, .string a0_3] 25 (0, 0)) a6_) : gb134 ≠ gb132)); clear BK132; clear HB; have BK132 := n0_; have HB := n1_; have BK134 := n2_; have GW134 := n3_; have GE134 := n4_; have NB132_134 := n5_; have NB134_132 := n6_; clear n0_ n1_ n2_ n3_ n4_ n5_ n6_; clear hb hbox hg; have hnb33 := NB134_132.out; have hnc33 := NB132_134.out; obtain ⟨hcz34_0, hcz34_1, hcz34_2, hfz34_0, hfz34_1, hfz34_2⟩ := c3f_ BK134.out))
           have n0_ : Aside0 ((((w32.setCell ⟨gb134, 0, none⟩ (.string ((rd_T27 l0_1 x22_1).f0))).setCell ⟨gb134, 1, none⟩ (.int .i64 ((rd_T27 l0_1 x22_1).f1))).setCell ⟨gb134, 2, none⟩ (.bool false)).heap[gb132]? = some (.cells #[.string a0_0, .slice (some ad133) l0_1.length c0_1, .slice A0_2 l0_2.length c0_2, .string a0_3] 25 (0, 0))) := ⟨by (with_reducible repeat (first | refine blk_drewN ?_ _ | refine blk_drew ?_ | refine blk_alloc ?_ _)); refine blk_far ?_ NB132_134.out _; (with_reducible repeat (first | refine blk_drewN ?_ _ | refine blk_drew ?_ | refine blk_alloc ?_ _)); refine blk_far ?_ NB132_134.out _; (with_reducible repeat (first | refine blk_drewN ?_ _ | refine blk_drew ?_ | refine blk_alloc ?_ _)); refine blk_far ?_ NB132_134.out _; (with_reducible repeat (first | refine blk_drewN ?_ _ | refine blk_drew ?_ | refine blk_alloc ?_ _)); exact BK132.out⟩
           have n1_ : Aside0 ((((w32.setCell ⟨gb134, 0, none⟩ (.string ((rd_T27 l0_1 x22_1).f0))).setCell ⟨gb134, 1, none⟩ (.int .i64 ((rd_T27 l0_1 x22_1).f1))).setCell ⟨gb134, 2, none⟩ (.bool false)).heap[gb134]? = some (.cells #[.string ((rd_T27 l0_1 x22_1).f0), .int .i64 ((rd_T27 l0_1 x22_1).f1), .bool false] 27 (0, 0))) := ⟨by (with_reducible repeat (first | refine blk_drewN ?_ _ | refine blk_drew ?_ | refine blk_alloc ?_ _)); refine blk_put (cs := #[.string ((rd_T27 l0_1 x22_1).f0), .int .i64 ((rd_T27 l0_1 x22_1).f1), .bool false]) ?_ 2 _ rfl; (with_reducible repeat (first | refine blk_drewN ?_ _ | refine blk_drew ?_ | refine blk_alloc ?_ _)); refine blk_put (cs := #[.string ((rd_T27 l0_1 x22_1).f0), .int .i64 0, .bool false]) ?_ 1 _ rfl; (with_reducible repeat (first | refine blk_drewN ?_ _ | refine blk_drew ?_ | refine blk_alloc ?_ _)); refine blk_put (cs := #[.string (⟨#[]⟩ : ByteArray), .int .i64 0, .bool false]) ?_ 0 _ rfl; (with_reducible repeat (first | refine blk_drewN ?_ _ | refine blk_drew ?_ | refine blk_alloc ?_ _)); exact BK134.out⟩
           have n2_ : Aside0 (Below w.heap.size w (((w32.setCell ⟨gb134, 0, none⟩ (.string ((rd_T27 l0_1 x22_1).f0))).setCell ⟨gb134, 1, none⟩ (.int .i64 ((rd_T27 l0_1 x22_1).f1))).setCell ⟨gb134, 2, none⟩ (.bool false))) := ⟨by repeat (first | (with_reducible first | exact HB.out | apply below_alloc | apply pw_below_drewN | apply below_drew1 | refine below_set ?_ GE132.out | refine below_set ?_ GE134.out) | exact HB.out)⟩
           (try clear BK132)
           (try clear BK134)
           (try clear HB)
           generalize (((w32.setCell ⟨gb134, 0, none⟩ (.string ((rd_T27 l0_1 x22_1).f0))).setCell ⟨gb134, 1, none⟩ (.int .i64 ((rd_T27 l0_1 x22_1).f1))).setCell ⟨gb134, 2, none⟩ (.bool false)) = w35 at n0_ n1_ n2_ ⊢
           have BK132 := n0_
           have BK134 := n1_
           have HB := n2_
           clear n0_ n1_ n2_
           have n0_ := Aside0.mk (blk_drew BK132.out)
           have n1_ := Aside0.mk (blk_drew BK134.out)
           have n2_ := Aside0.mk (below_drew1 HB.out)
           clear BK132
           clear BK134
           clear HB
           have BK132 := n0_
           have BK134 := n1_
           have HB := n2_
           clear n0_ n1_ n2_
           refine start_ (n := 13) (S := fun w' => w'.cell? ⟨gb134, 0, none⟩ = some (.string ((rd_T27 l0_1 x22_1).f0)) ∧ w'.cell? ⟨gb134, 1, none⟩ = some (.int .i64 ((rd_T27 l0_1 x22_1).f1)) ∧ w'.cell? ⟨gb134, 2, none⟩ = some (.bool false)) (ds := []) #[false, false, false, false, false, false, false, false, false, false, false, false, false] (by kernel_rfl) rfl rfl ⟨(blk_cell BK134.out 0).trans rfl, (blk_cell BK134.out 1).trans rfl, (blk_cell BK134.out 2).trans rfl⟩ (fun hHeld => ?_); refine with_tabW spec_block.tab9 spec_block.bits9 (fun HT_ HW_ => ?_)
           generalize w35.drew = w36 at BK132 BK134 HB hHeld ⊢
           refine pure_ (i := 0) (N := some 28) (v := ?_) (a' := ?_) #[true, false, false, false, false, false, false, false, false, false, false, false, false] rfl rfl (any_of HT_.out (by kernel_rfl)) (fun _ _ _ h => h) (Or.inl ⟨by rfl, ?_⟩) ?_ ?_
           rotate_left
           ·intro w'
            go_simp
            with_reducible rfl
           rotate_left
           ·simp only [Act.put, List.setIfInBounds_toArray, List.set_cons_zero, List.set_cons_succ, i64_w, i32_w]
            rfl
           refine pure_ (i := 1) (N := some 29) (v := ?_) (a' := ?_) #[true, true, false, false, false, false, false, false, false, false, false, false, false] rfl rfl (any_of HT_.out (by kernel_rfl)) (fun _ _ _ h => h) (Or.inl ⟨by rfl, ?_⟩) ?_ ?_
           rotate_left
           ·intro w'
            go_simp
            with_reducible rfl
           rotate_left
           ·simp only [Act.put, List.setIfInBounds_toArray, List.set_cons_zero, List.set_cons_succ, i64_w, i32_w]
            rfl
           refine pure_ (i := 4) (N := some 32) (v := ?_) (a' := ?_) #[true, true, false, false, true, false, false, false, false, false, false, false, false] rfl rfl (any_of HT_.out (by kernel_rfl)) (fun _ _ _ h => h) (Or.inl ⟨by rfl, ?_⟩) ?_ ?_
           rotate_left
           ·intro w'
            go_simp
            with_reducible rfl
           rotate_left
           ·simp only [Act.put, List.setIfInBounds_toArray, List.set_cons_zero, List.set_cons_succ, i64_w, i32_w]
            rfl
           refine pure_ (i := 5) (N := some 33) (v := ?_) (a' := ?_) #[true, true, false, false, true, true, false, false, false, false, false, false, false] rfl rfl (any_of HT_.out (by kernel_rfl)) (fun _ _ _ h => h) (Or.inl ⟨by rfl, ?_⟩) ?_ ?_
           rotate_left
           ·intro w'
            go_simp
            with_reducible rfl
           rotate_left
           ·simp only [Act.put, List.setIfInBounds_toArray, List.set_cons_zero, List.set_cons_succ, i64_w, i32_w]
            rfl
           refine pure_ (i := 6) (N := some 34) (v := ?_) (a' := ?_) #[true, true, false, false, true, true, true, false, false, false, false, false, false] rfl rfl (any_of HT_.out (by kernel_rfl)) (fun _ _ _ h => h) (Or.inl ⟨by rfl, ?_⟩) ?_ ?_
           rotate_left
           ·intro w'
            go_simp
            with_reducible rfl
           rotate_left
           ·simp only [Act.put, List.setIfInBounds_toArray, List.set_cons_zero, List.set_cons_succ, i64_w, i32_w]
            rfl
           refine pure_ (i := 7) (N := some 35) (v := ?_) (a' := ?_) #[true, true, false, false, true, true, true, true, false, false, false, false, false] rfl rfl (any_of HT_.out (by kernel_rfl)) (fun _ _ _ h => h) (Or.inl ⟨by rfl, ?_⟩) ?_ ?_
           rotate_left
           ·intro w'
            go_simp
            with_reducible rfl
           rotate_left
           ·simp only [Act.put, List.setIfInBounds_toArray, List.set_cons_zero, List.set_cons_succ, i64_w, i32_w]
            rfl
           refine take_ (i := 2) (N := some 30) (v := ?_) (a' := ?_) #[true, true, true, false, true, true, true, true, false, false, false, false, false] rfl rfl (take_ofW HT_.out HW_.out (by kernel_rfl)) (fun _ _ _ h => h) (Or.inl ⟨by rfl, ?_⟩) hHeld ?_ ?_
           rotate_left
           ·rintro w' ⟨s0, s1, s2⟩
            go_simp
            with_reducible rfl
           rotate_left
           ·simp only [Act.put, List.setIfInBounds_toArray, List.set_cons_zero, List.set_cons_succ, i64_w, i32_w]
            rfl
           refine join_ (σ := Value) 3 #[true, true, true, true, true, true, true, true, true, true, false, false, false] (fun s_ => [(31, .string t139), (36, s_), (37, .string (strOfNums y140))]) (fun s_ w' => (w'.cell? ⟨gb134, 0, none⟩ = some (.string ((rd_T27 l0_1 x22_1).f0)) ∧ w'.cell? ⟨gb134, 1, none⟩ = some (.int .i64 ((rd_T27 l0_1 x22_1).f1)) ∧ w'.cell? ⟨gb134, 2, none⟩ = some (.bool false)) ∧ (Kd.R (Kd.int .u8) 5 w' w.heap.size (fun _ => True) s_ y140) ∧ (w'.heap[gb132]? = some (.cells #[.string a0_0, .slice (some ad133) l0_1.length c0_1, .slice A0_2 l0_2.length c0_2, .string a0_3] 25 (0, 0))) ∧ (w'.heap[gb134]? = some (.cells #[.string ((rd_T27 l0_1 x22_1).f0), .int .i64 ((rd_T27 l0_1 x22_1).f1), .bool false] 27 (0, 0))) ∧ (Below w.heap.size w w')) ?_ ?_
           rotate_left
           ·intro hCont
            refine two_ (i := 3) (j := 8) (Ni := some 31) (Nj := some 36) #[true, true, true, true, true, true, true, true, false, false, false, false, false] #[true, true, true, false, true, true, true, true, true, false, false, false, false] rfl rfl rfl rfl (two_of HT_.out (by kernel_rfl)) (by decide) (by decide) (fun K hK => ?_) (fun K hK => ?_)
            ·skip
             refine goes_ Tryd.func44 (by kernel_rfl) rfl #[.int .i64 ((rd_T27 l0_1 x22_1).f1), .int .i64 4] (by rfl) rfl rfl a1_ ?_
             with_reducible refine (spec_Bytes.calls k1 ((rd_T27 l0_1 x22_1).f1) 4 t139 _ A27.out).mono ?_
             rintro e w37 ⟨rfl, hb⟩
             refine ⟨_, rfl, ?_⟩
             have n0_ := Aside0.mk (blk_below (g := gb132) (o := .cells #[.string a0_0, .slice (some ad133) l0_1.length c0_1, .slice A0_2 l0_2.length c0_2, .string a0_3] 25 (0, 0)) a6_ hb)
             have n1_ := Aside0.mk (blk_below (g := gb134) (o := .cells #[.string ((rd_T27 l0_1 x22_1).f0), .int .i64 ((rd_T27 l0_1 x22_1).f1), .bool false] 27 (0, 0)) a14_ hb)
             have n2_ := Aside0.mk (below_step a8_ hb)
             clear BK132
             clear BK134
             clear HB
             have BK132 := n0_
             have BK134 := n1_
             have HB := n2_
             clear n0_ n1_ n2_
             (try clear hb)
             (try clear hb2)
             (try clear hk)
             (try clear hi)
             refine hK.out _ _ ⟨(blk_cell BK134.out 0).trans rfl, (blk_cell BK134.out 1).trans rfl, (blk_cell BK134.out 2).trans rfl⟩ (fun hHeld => ?_)
             clear hK K
             refine norm_ (a' := ?_) ?_ ?_
             rotate_left
             ·show Act.put _ (some 31) _ = _
              simp only [Act.put, List.setIfInBounds_toArray, List.set_cons_zero, List.set_cons_succ, i64_w, i32_w]
              rfl
             refine one_ (i := 8) (N := some 36) #[true, true, true, true, true, true, true, true, true, false, false, false, false] rfl rfl (one_of HT_.out (by kernel_rfl)) (by decide) (fun K hK => ?_)
             refine Kd.R_lit_step (Kd.int .u8) _ 5 ?hg (N := 36) ?hd (xs := ([0, ((x7_1.size : Int)) % 256] : List Int)) (inner := [.int .u8 0, .int .u8 (((x7_1.size : Int)) % 256)]) (ok := fun _ => True) (okp := fun _ => True) ?hr ?hp (fun _ hk => hk) trivial (Below.refl _ _) (Nat.le_refl _) (by simp) ?_; (case hd => rfl); (case hg => rfl); (case hr => first | (go_simp; done) | (go_simp; rfl)); (case hp => exact (Reps.one (show Kd.M (Kd.int .u8) _ _ _ 0 [.int .u8 0] from rfl) (Reps.one (show Kd.M (Kd.int .u8) _ _ _ (((x7_1.size : Int)) % 256) [.int .u8 (((x7_1.size : Int)) % 256)] from rfl) (Reps.none _ _))))
             intro v141 w38 ho39 hb hg_ hnew_
             clear hg_ hnew_
             (first | rw [← Ny140.out] at ho39 | (simp only [Int.reduceToNat] at ho39; rw [← Ny140.out] at ho39))
             have n0_ := Aside0.mk (Kd.R_lower ho39 (below_size a8_))
             have n1_ := Aside0.mk (blk_below (g := gb132) (o := .cells #[.string a0_0, .slice (some ad133) l0_1.length c0_1, .slice A0_2 l0_2.length c0_2, .string a0_3] 25 (0, 0)) a6_ hb)
             have n2_ := Aside0.mk (blk_below (g := gb134) (o := .cells #[.string ((rd_T27 l0_1 x22_1).f0), .int .i64 ((rd_T27 l0_1 x22_1).f1), .bool false] 27 (0, 0)) a14_ hb)
             have n3_ := Aside0.mk (below_step a8_ hb)
             clear BK132
             clear BK134
             clear HB
             have HO142 := n0_
             have BK132 := n1_
             have BK134 := n2_
             have HB := n3_
             clear n0_ n1_ n2_ n3_
             clear hb ho39
             refine hK.out _ _ ⟨(blk_cell BK134.out 0).trans rfl, (blk_cell BK134.out 1).trans rfl, (blk_cell BK134.out 2).trans rfl⟩ (fun hHeld => ?_)
             clear hK K
             refine norm_ (a' := ?_) ?_ ?_
             rotate_left
             ·show Act.put _ (some 36) _ = _
              simp only [Act.put, List.setIfInBounds_toArray, List.set_cons_zero, List.set_cons_succ, i64_w, i32_w]
              rfl
             refine one_ (i := 9) (N := some 37) #[true, true, true, true, true, true, true, true, true, true, false, false, false] rfl rfl (one_of HT_.out (by kernel_rfl)) (by decide) (fun K hK => ?_)
             have hcv40 := own_string (P := Tryd.prog) Tryd.underlying62 Tryd.underlying5 Tryd.underlying9 (Kd.own_of_R HO142.out)
             refine value_ (w1 := ?_) (v := ?_) (by rfl) rfl ?_ ?_
             rotate_left 2
             ·go_simp
              constructor
              ·rfl
              ·rfl
             clear hcv40
             refine hK.out _ _ ⟨(blk_cell BK134.out 0).trans rfl, (blk_cell BK134.out 1).trans rfl, (blk_cell BK134.out 2).trans rfl⟩ (fun hHeld => ?_)
             clear hK K
             refine norm_ (a' := ?_) ?_ ?_
             rotate_left
             ·show Act.put _ (some 37) _ = _
              simp only [Act.put, List.setIfInBounds_toArray, List.set_cons_zero, List.set_cons_succ, i64_w, i32_w]
              rfl
             exact norm_ a31_ (hCont (v141) _ ⟨hHeld, a38_, a6_, a14_, a8_⟩)
            ·skip
             refine Kd.R_lit_step (Kd.int .u8) _ 5 ?hg (N := 36) ?hd (xs := ([0, ((x7_1.size : Int)) % 256] : List Int)) (inner := [.int .u8 0, .int .u8 (((x7_1.size : Int)) % 256)]) (ok := fun _ => True) (okp := fun _ => True) ?hr ?hp (fun _ hk => hk) trivial (Below.refl _ _) (Nat.le_refl _) (by simp) ?_; (case hd => rfl); (case hg => rfl); (case hr => first | (go_simp; done) | (go_simp; rfl)); (case hp => exact (Reps.one (show Kd.M (Kd.int .u8) _ _ _ 0 [.int .u8 0] from rfl) (Reps.one (show Kd.M (Kd.int .u8) _ _ _ (((x7_1.size : Int)) % 256) [.int .u8 (((x7_1.size : Int)) % 256)] from rfl) (Reps.none _ _))))
             intro v141 w37 ho38 hb hg_ hnew_
             clear hg_ hnew_
             (first | rw [← Ny140.out] at ho38 | (simp only [Int.reduceToNat] at ho38; rw [← Ny140.out] at ho38))
             have n0_ := Aside0.mk (Kd.R_lower ho38 (below_size a8_))
             have n1_ := Aside0.mk (blk_below (g := gb132) (o := .cells #[.string a0_0, .slice (some ad133) l0_1.length c0_1, .slice A0_2 l0_2.length c0_2, .string a0_3] 25 (0, 0)) a6_ hb)
             have n2_ := Aside0.mk (blk_below (g := gb134) (o := .cells #[.string ((rd_T27 l0_1 x22_1).f0), .int .i64 ((rd_T27 l0_1 x22_1).f1), .bool false] 27 (0, 0)) a14_ hb)
             have n3_ := Aside0.mk (below_step a8_ hb)
             clear BK132
             clear BK134
             clear HB
             have HO142 := n0_
             have BK132 := n1_
             have BK134 := n2_
             have HB := n3_
             clear n0_ n1_ n2_ n3_
             clear hb ho38
             refine hK.out _ _ ⟨(blk_cell BK134.out 0).trans rfl, (blk_cell BK134.out 1).trans rfl, (blk_cell BK134.out 2).trans rfl⟩ (fun hHeld => ?_)
             clear hK K
             refine norm_ (a' := ?_) ?_ ?_
             rotate_left
             ·show Act.put _ (some 36) _ = _
              simp only [Act.put, List.setIfInBounds_toArray, List.set_cons_zero, List.set_cons_succ, i64_w, i32_w]
              rfl
             refine two_ (i := 3) (j := 9) (Ni := some 31) (Nj := some 37) #[true, true, true, true, true, true, true, true, true, false, false, false, false] #[true, true, true, false, true, true, true, true, true, true, false, false, false] rfl rfl rfl rfl (two_of HT_.out (by kernel_rfl)) (by decide) (by decide) (fun K hK => ?_) (fun K hK => ?_)
             ·skip
              refine goes_ Tryd.func44 (by kernel_rfl) rfl #[.int .i64 ((rd_T27 l0_1 x22_1).f1), .int .i64 4] (by rfl) rfl rfl a1_ ?_
              with_reducible refine (spec_Bytes.calls k1 ((rd_T27 l0_1 x22_1).f1) 4 t139 _ A27.out).mono ?_
              rintro e w39 ⟨rfl, hb⟩
              refine ⟨_, rfl, ?_⟩
              have n0_ := Aside0.mk (Kd.R_below a38_ hb)
              have n1_ := Aside0.mk (blk_below (g := gb132) (o := .cells #[.string a0_0, .slice (some ad133) l0_1.length c0_1, .slice A0_2 l0_2.length c0_2, .string a0_3] 25 (0, 0)) a6_ hb)
              have n2_ := Aside0.mk (blk_below (g := gb134) (o := .cells #[.string ((rd_T27 l0_1 x22_1).f0), .int .i64 ((rd_T27 l0_1 x22_1).f1), .bool false] 27 (0, 0)) a14_ hb)
              have n3_ := Aside0.mk (below_step a8_ hb)
              clear HO142
              clear BK132
              clear BK134
              clear HB
              have HO142 := n0_
              have BK132 := n1_
              have BK134 := n2_
              have HB := n3_
              clear n0_ n1_ n2_ n3_
              (try clear hb)
              (try clear hb2)
              (try clear hk)
              (try clear hi)
              refine hK.out _ _ ⟨(blk_cell BK134.out 0).trans rfl, (blk_cell BK134.out 1).trans rfl, (blk_cell BK134.out 2).trans rfl⟩ (fun hHeld => ?_)
              clear hK K
              refine norm_ (a' := ?_) ?_ ?_
              rotate_left
              ·show Act.put _ (some 31) _ = _
               simp only [Act.put, List.setIfInBounds_toArray, List.set_cons_zero, List.set_cons_succ, i64_w, i32_w]
               rfl
              refine one_ (i := 9) (N := some 37) #[true, true, true, true, true, true, true, true, true, true, false, false, false] rfl rfl (one_of HT_.out (by kernel_rfl)) (by decide) (fun K hK => ?_)
              have hcv40 := own_string (P := Tryd.prog) Tryd.underlying62 Tryd.underlying5 Tryd.underlying9 (Kd.own_of_R HO142.out)
              refine value_ (w1 := ?_) (v := ?_) (by rfl) rfl ?_ ?_
              rotate_left 2
              ·go_simp
               constructor
               ·rfl
               ·rfl
              clear hcv40
              refine hK.out _ _ ⟨(blk_cell BK134.out 0).trans rfl, (blk_cell BK134.out 1).trans rfl, (blk_cell BK134.out 2).trans rfl⟩ (fun hHeld => ?_)
              clear hK K
              refine norm_ (a' := ?_) ?_ ?_
              rotate_left
              ·show Act.put _ (some 37) _ = _
               simp only [Act.put, List.setIfInBounds_toArray, List.set_cons_zero, List.set_cons_succ, i64_w, i32_w]
               rfl
              exact norm_ a31_ (hCont (v141) _ ⟨hHeld, a38_, a6_, a14_, a8_⟩)
             ·skip
              have hcv39 := own_string (P := Tryd.prog) Tryd.underlying62 Tryd.underlying5 Tryd.underlying9 (Kd.own_of_R HO142.out)
              refine value_ (w1 := ?_) (v := ?_) (by rfl) rfl ?_ ?_
              rotate_left 2
              ·go_simp
               constructor
               ·rfl
               ·rfl
              clear hcv39
              refine hK.out _ _ ⟨(blk_cell BK134.out 0).trans rfl, (blk_cell BK134.out 1).trans rfl, (blk_cell BK134.out 2).trans rfl⟩ (fun hHeld => ?_)
              clear hK K
              refine norm_ (a' := ?_) ?_ ?_
              rotate_left
              ·show Act.put _ (some 37) _ = _
               simp only [Act.put, List.setIfInBounds_toArray, List.set_cons_zero, List.set_cons_succ, i64_w, i32_w]
               rfl
              refine one_ (i := 3) (N := some 31) #[true, true, true, true, true, true, true, true, true, true, false, false, false] rfl rfl (one_of HT_.out (by kernel_rfl)) (by decide) (fun K hK => ?_)
              refine goes_ Tryd.func44 (by kernel_rfl) rfl #[.int .i64 ((rd_T27 l0_1 x22_1).f1), .int .i64 4] (by rfl) rfl rfl a1_ ?_
              with_reducible refine (spec_Bytes.calls k1 ((rd_T27 l0_1 x22_1).f1) 4 t139 _ A27.out).mono ?_
              rintro e w40 ⟨rfl, hb⟩
              refine ⟨_, rfl, ?_⟩
              have n0_ := Aside0.mk (Kd.R_below a38_ hb)
              have n1_ := Aside0.mk (blk_below (g := gb132) (o := .cells #[.string a0_0, .slice (some ad133) l0_1.length c0_1, .slice A0_2 l0_2.length c0_2, .string a0_3] 25 (0, 0)) a6_ hb)
              have n2_ := Aside0.mk (blk_below (g := gb134) (o := .cells #[.string ((rd_T27 l0_1 x22_1).f0), .int .i64 ((rd_T27 l0_1 x22_1).f1), .bool false] 27 (0, 0)) a14_ hb)
              have n3_ := Aside0.mk (below_step a8_ hb)
              clear HO142
              clear BK132
              clear BK134
              clear HB
              have HO142 := n0_
              have BK132 := n1_
              have BK134 := n2_
              have HB := n3_
              clear n0_ n1_ n2_ n3_
              (try clear hb)
              (try clear hb2)
              (try clear hk)
              (try clear hi)
              refine hK.out _ _ ⟨(blk_cell BK134.out 0).trans rfl, (blk_cell BK134.out 1).trans rfl, (blk_cell BK134.out 2).trans rfl⟩ (fun hHeld => ?_)
              clear hK K
              refine norm_ (a' := ?_) ?_ ?_
              rotate_left
              ·show Act.put _ (some 31) _ = _
               simp only [Act.put, List.setIfInBounds_toArray, List.set_cons_zero, List.set_cons_succ, i64_w, i32_w]
               rfl
              exact norm_ a31_ (hCont (v141) _ ⟨hHeld, a38_, a6_, a14_, a8_⟩)
           rintro v141 w41 ⟨hS_, h0_, h1_, h2_, h3_⟩
           have n0_ : Aside0 (Kd.R (Kd.int .u8) 5 w41 w.heap.size (fun _ => True) v141 y140) := ⟨h0_⟩
           have n1_ : Aside0 (w41.heap[gb132]? = some (.cells #[.string a0_0, .slice (some ad133) l0_1.length c0_1, .slice A0_2 l0_2.length c0_2, .string a0_3] 25 (0, 0))) := ⟨h1_⟩
           have n2_ : Aside0 (w41.heap[gb134]? = some (.cells #[.string ((rd_T27 l0_1 x22_1).f0), .int .i64 ((rd_T27 l0_1 x22_1).f1), .bool false] 27 (0, 0))) := ⟨h2_⟩
           have n3_ : Aside0 (Below w.heap.size w w41) := ⟨h3_⟩
           clear BK132
           clear BK134
           clear HB
           clear h0_ h1_ h2_ h3_
           have HO142 := n0_
           have BK132 := n1_
           have BK134 := n2_
           have HB := n3_
           clear n0_ n1_ n2_ n3_
           have hHeld : w41.cell? ⟨gb134, 0, none⟩ = some (.string ((rd_T27 l0_1 x22_1).f0)) ∧ w41.cell? ⟨gb134, 1, none⟩ = some (.int .i64 ((rd_T27 l0_1 x22_1).f1)) ∧ w41.cell? ⟨gb134, 2, none⟩ = some (.bool false) := hS_
           refine norm_ (a' := ?_) ?_ ?_
           rotate_left
           ·simp only [putAll, Act.put, List.setIfInBounds_toArray, List.set_cons_zero, List.set_cons_succ]
            rfl
           refine pure_ (i := 10) (N := some 38) (v := ?_) (a' := ?_) #[true, true, true, true, true, true, true, true, true, true, true, false, false] rfl rfl (any_of HT_.out (by kernel_rfl)) (fun _ _ _ h => h) (Or.inl ⟨by rfl, ?_⟩) ?_ ?_
           rotate_left
           ·intro w'
            go_simp
            with_reducible rfl
           rotate_left
           ·simp only [Act.put, List.setIfInBounds_toArray, List.set_cons_zero, List.set_cons_succ, i64_w, i32_w]
            rfl
           refine pure_ (i := 11) (N := some 39) (v := ?_) (a' := ?_) #[true, true, true, true, true, true, true, true, true, true, true, true, false] rfl rfl (any_of HT_.out (by kernel_rfl)) (fun _ _ _ h => h) (Or.inl ⟨by rfl, ?_⟩) ?_ ?_
           rotate_left
           ·intro w'
            go_simp
            with_reducible rfl
           rotate_left
           ·simp only [Act.put, List.setIfInBounds_toArray, List.set_cons_zero, List.set_cons_succ, i64_w, i32_w]
            rfl
           refine pure_ (i := 12) (N := some 8) (v := ?_) (a' := ?_) #[true, true, true, true, true, true, true, true, true, true, true, true, true] rfl rfl (any_of HT_.out (by kernel_rfl)) (fun _ _ _ h => h) (Or.inl ⟨by rfl, ?_⟩) ?_ ?_
           rotate_left
           ·intro w'
            go_simp
            with_reducible rfl
           rotate_left
           ·simp only [Act.put, List.setIfInBounds_toArray, List.set_cons_zero, List.set_cons_succ, i64_w, i32_w]
            rfl
           refine done_ (done_of HT_.out (by kernel_rfl)) ?_
           obtain ⟨hcz42_0, hcz42_1, hcz42_2, hfz42_0, hfz42_1, hfz42_2⟩ := c3f_ BK134.out
           try go_wp2
           go_roundg k1
           case measure => have := HK1.out; omega
           case rel => exact ⟨(x7_1 ++ (((rd_T27 l0_1 x22_1).f0) ++ (⟨#[0]⟩ : ByteArray))), (x8_1 ++ (t139 ++ (strOfNums y140))), (wrap64 (x22_1 + 1)), a5_, a5_, a5_, H', ⟨by have := HK1.out; omega⟩, ⟨by (with_reducible repeat (first | refine blk_drewN ?_ _ | refine blk_drew ?_ | refine blk_alloc ?_ _)); exact BK132.out⟩, ⟨by repeat (first | (with_reducible first | exact HB.out | apply below_alloc | apply pw_below_drewN | apply below_drew1 | refine below_set ?_ GE132.out | refine below_set ?_ GE134.out) | exact HB.out)⟩⟩
          ·rw [if_neg c31] at H
           exact absurd H (by simp)
         ·rw [if_neg c30] at H
          exact absurd H (by simp)
        ·rw [if_neg c29] at H
         exact absurd H (by simp)
       ·rw [if_neg c28] at H
        exact absurd H (by simp)
     ·rw [if_neg c8] at H
      exact absurd H (by simp)
    ·rw [if_neg c7] at H
     exact absurd H (by simp)
   ·rw [if_neg c6] at H
    have c6b0 := decide_eq_false c6
    clear c6
    obtain ⟨y143, hy143⟩ : ∃ y_ : List Int, y_ = (([a1] : List Int)) := ⟨_, rfl⟩
    replace H : (if 4 + (strOfNums y143).size ≤ 9223372036854775807 then ((spec_Bytes.f k1 0 15).bind fun t146 => (if ((⟨#[84, 90, 105, 102]⟩ : ByteArray) ++ (strOfNums y143)).size + t146.size ≤ 9223372036854775807 then ((some (([0, 0, 0, (l0_2.length : Int), (l0_1.length : Int), (x7_1.size : Int)] : List Int) : List Int)).bind fun y147 => (spec_block.l1 k1 a2 x7_1 x8_1 (((⟨#[84, 90, 105, 102]⟩ : ByteArray) ++ (strOfNums y143)) ++ t146) y147 (y147.length : Int) 0 a0_0 l0_1 l0_2 a0_3)) else (none))) else (none)) = some r := by first | (rw [hy143]; with_reducible exact H) | (have H2_ := (Option.bind_some _ _).symm.trans H; rw [hy143]; with_reducible exact H2_) | (have H2_ := (Option.bind_some _ _).symm.trans H; with_reducible exact H2_) | with_reducible exact H | (rw [hy143]; exact H) | exact H
    have Ny143 := Aside0.mk hy143
    clear hy143
    by_cases c43 : 4 + (strOfNums y143).size ≤ 9223372036854775807
    ·rw [if_pos c43] at H
     have c43b0 := eq_true c43
     have c43b1 := decide_eq_true c43
     try have c43b2 := eq_false (Nat.not_lt.2 c43)
     replace H := Option.bind_eq_some_iff.mp H
     obtain ⟨t146, A440, H⟩ := H
     replace H : (if ((⟨#[84, 90, 105, 102]⟩ : ByteArray) ++ (strOfNums y143)).size + t146.size ≤ 9223372036854775807 then ((some (([0, 0, 0, (l0_2.length : Int), (l0_1.length : Int), (x7_1.size : Int)] : List Int) : List Int)).bind fun y147 => (spec_block.l1 k1 a2 x7_1 x8_1 (((⟨#[84, 90, 105, 102]⟩ : ByteArray) ++ (strOfNums y143)) ++ t146) y147 (y147.length : Int) 0 a0_0 l0_1 l0_2 a0_3)) else (none)) = some r := H
     have A44 := Aside0.mk A440
     clear A440
     by_cases c45 : ((⟨#[84, 90, 105, 102]⟩ : ByteArray) ++ (strOfNums y143)).size + t146.size ≤ 9223372036854775807
     ·rw [if_pos c45] at H
      have c45b0 := eq_true c45
      have c45b1 := decide_eq_true c45
      try have c45b2 := eq_false (Nat.not_lt.2 c45)
      try (have c45b9 := c45b2; simp only [ByteArray.size_append, show (⟨#[84, 90, 105, 102]⟩ : ByteArray).size = 4 from rfl] at c45b9)
      obtain ⟨y147, hy147⟩ : ∃ y_ : List Int, y_ = (([0, 0, 0, (l0_2.length : Int), (l0_1.length : Int), (x7_1.size : Int)] : List Int)) := ⟨_, rfl⟩
      replace H : (spec_block.l1 k1 a2 x7_1 x8_1 (((⟨#[84, 90, 105, 102]⟩ : ByteArray) ++ (strOfNums y143)) ++ t146) y147 (y147.length : Int) 0 a0_0 l0_1 l0_2 a0_3) = some r := by first | (rw [hy147]; with_reducible exact H) | (have H2_ := (Option.bind_some _ _).symm.trans H; rw [hy147]; with_reducible exact H2_) | (have H2_ := (Option.bind_some _ _).symm.trans H; with_reducible exact H2_) | with_reducible exact H | (rw [hy147]; exact H) | exact H
      have Ny147 := Aside0.mk hy147
      clear hy147
      have H' := Aside0.mk H
      clear H
      try go_wp2
      have n0_ := Aside0.mk (blk_drew BK132.out)
      have n1_ := Aside0.mk (below_drew1 HB.out)
      clear BK132
      clear HB
      have BK132 := n0_
      have HB := n1_
      clear n0_ n1_
      refine start_ (n := 7) (S := fun w' => True) (ds := []) #[false, false, false, false, false, false, false] (by kernel_rfl) rfl rfl trivial (fun hHeld => ?_)
      generalize wr.drew = w46 at BK132 HB hHeld ⊢
      refine pure_ (i := 0) (N := some 46) (v := ?_) (a' := ?_) #[true, false, false, false, false, false, false] rfl rfl (by kernel_rfl) (fun _ _ _ h => h) (Or.inl ⟨by rfl, ?_⟩) ?_ ?_
      rotate_left
      ·intro w'
       go_simp
       with_reducible rfl
      rotate_left
      ·simp only [Act.put, List.setIfInBounds_toArray, List.set_cons_zero, List.set_cons_succ, i64_w, i32_w]
       rfl
      refine join_ (σ := Value) 2 #[true, true, true, true, true, false, false] (fun s_ => [(47, s_), (48, .string (strOfNums y143)), (50, .string t146), (49, .string ((⟨#[84, 90, 105, 102]⟩ : ByteArray) ++ (strOfNums y143)))]) (fun s_ w' => (Kd.R (Kd.int .u8) 5 w' w.heap.size (fun _ => True) s_ y143) ∧ (w'.heap[gb132]? = some (.cells #[.string a0_0, .slice A0_1 l0_1.length c0_1, .slice A0_2 l0_2.length c0_2, .string a0_3] 25 (0, 0))) ∧ (Below w.heap.size w w')) ?_ ?_
      rotate_left
      ·intro hCont
       refine two_ (i := 1) (j := 4) (Ni := some 47) (Nj := some 50) #[true, true, false, false, false, false, false] #[true, false, false, false, true, false, false] rfl rfl rfl rfl (by kernel_rfl) (by decide) (by decide) (fun K hK => ?_) (fun K hK => ?_)
       ·skip
        refine Kd.R_lit_step (Kd.int .u8) _ 5 ?hg (N := 47) ?hd (xs := ([a1] : List Int)) (inner := [.int .u8 a1]) (ok := fun _ => True) (okp := fun _ => True) ?hr ?hp (fun _ hk => hk) trivial (Below.refl _ _) (Nat.le_refl _) (by simp) ?_; (case hd => rfl); (case hg => rfl); (case hr => first | (go_simp; done) | (go_simp; rfl)); (case hp => exact (Reps.one (show Kd.M (Kd.int .u8) _ _ _ a1 [.int .u8 a1] from rfl) (Reps.none _ _)))
        intro v144 w47 ho48 hb hg_ hnew_
        clear hg_ hnew_
        (first | rw [← Ny143.out] at ho48 | (simp only [Int.reduceToNat] at ho48; rw [← Ny143.out] at ho48))
        have n0_ := Aside0.mk (Kd.R_lower ho48 (below_size a7_))
        have n1_ := Aside0.mk (blk_below (g := gb132) (o := .cells #[.string a0_0, .slice A0_1 l0_1.length c0_1, .slice A0_2 l0_2.length c0_2, .string a0_3] 25 (0, 0)) a6_ hb)
        have n2_ := Aside0.mk (below_step a7_ hb)
        clear BK132
        clear HB
        have HO145 := n0_
        have BK132 := n1_
        have HB := n2_
        clear n0_ n1_ n2_
        clear hb ho48
        refine hK.out _ _ trivial (fun hHeld => ?_)
        clear hK K
        refine norm_ (a' := ?_) ?_ ?_
        rotate_left
        ·show Act.put _ (some 47) _ = _
         simp only [Act.put, List.setIfInBounds_toArray, List.set_cons_zero, List.set_cons_succ, i64_w, i32_w]
         rfl
        refine two_ (i := 2) (j := 4) (Ni := some 48) (Nj := some 50) #[true, true, true, false, false, false, false] #[true, true, false, false, true, false, false] rfl rfl rfl rfl (by kernel_rfl) (by decide) (by decide) (fun K hK => ?_) (fun K hK => ?_)
        ·skip
         have hcv49 := own_string (P := Tryd.prog) Tryd.underlying62 Tryd.underlying5 Tryd.underlying9 (Kd.own_of_R HO145.out)
         refine value_ (w1 := ?_) (v := ?_) (by rfl) rfl ?_ ?_
         rotate_left 2
         ·go_simp
          constructor
          ·rfl
          ·rfl
         clear hcv49
         refine hK.out _ _ trivial (fun hHeld => ?_)
         clear hK K
         refine norm_ (a' := ?_) ?_ ?_
         rotate_left
         ·show Act.put _ (some 48) _ = _
          simp only [Act.put, List.setIfInBounds_toArray, List.set_cons_zero, List.set_cons_succ, i64_w, i32_w]
          rfl
         refine pure_ (i := 3) (N := some 49) (v := ?_) (a' := ?_) #[true, true, true, true, false, false, false] rfl rfl (by kernel_rfl) (fun _ _ _ h => h) (Or.inl ⟨by rfl, ?_⟩) ?_ ?_
         rotate_left
         ·intro w'
          go_simp
          with_reducible rfl
         rotate_left
         ·simp only [Act.put, List.setIfInBounds_toArray, List.set_cons_zero, List.set_cons_succ, i64_w, i32_w]
          rfl
         refine one_ (i := 4) (N := some 50) #[true, true, true, true, true, false, false] rfl rfl (by kernel_rfl) (by decide) (fun K hK => ?_)
         refine goes_ Tryd.func44 (by kernel_rfl) rfl #[.int .i64 0, .int .i64 15] (by rfl) rfl rfl a1_ ?_
         with_reducible refine (spec_Bytes.calls k1 0 15 t146 _ A44.out).mono ?_
         rintro e w50 ⟨rfl, hb⟩
         refine ⟨_, rfl, ?_⟩
         have n0_ := Aside0.mk (Kd.R_below a35_ hb)
         have n1_ := Aside0.mk (blk_below (g := gb132) (o := .cells #[.string a0_0, .slice A0_1 l0_1.length c0_1, .slice A0_2 l0_2.length c0_2, .string a0_3] 25 (0, 0)) a6_ hb)
         have n2_ := Aside0.mk (below_step a7_ hb)
         clear HO145
         clear BK132
         clear HB
         have HO145 := n0_
         have BK132 := n1_
         have HB := n2_
         clear n0_ n1_ n2_
         (try clear hb)
         (try clear hb2)
         (try clear hk)
         (try clear hi)
         refine hK.out _ _ trivial (fun hHeld => ?_)
         clear hK K
         refine norm_ (a' := ?_) ?_ ?_
         rotate_left
         ·show Act.put _ (some 50) _ = _
          simp only [Act.put, List.setIfInBounds_toArray, List.set_cons_zero, List.set_cons_succ, i64_w, i32_w]
          rfl
         exact norm_ a31_ (hCont (v144) _ ⟨a35_, a6_, a7_⟩)
        ·skip
         refine goes_ Tryd.func44 (by kernel_rfl) rfl #[.int .i64 0, .int .i64 15] (by rfl) rfl rfl a1_ ?_
         with_reducible refine (spec_Bytes.calls k1 0 15 t146 _ A44.out).mono ?_
         rintro e w49 ⟨rfl, hb⟩
         refine ⟨_, rfl, ?_⟩
         have n0_ := Aside0.mk (Kd.R_below a35_ hb)
         have n1_ := Aside0.mk (blk_below (g := gb132) (o := .cells #[.string a0_0, .slice A0_1 l0_1.length c0_1, .slice A0_2 l0_2.length c0_2, .string a0_3] 25 (0, 0)) a6_ hb)
         have n2_ := Aside0.mk (below_step a7_ hb)
         clear HO145
         clear BK132
         clear HB
         have HO145 := n0_
         have BK132 := n1_
         have HB := n2_
         clear n0_ n1_ n2_
         (try clear hb)
         (try clear hb2)
         (try clear hk)
         (try clear hi)
         refine hK.out _ _ trivial (fun hHeld => ?_)
         clear hK K
         refine norm_ (a' := ?_) ?_ ?_
         rotate_left
         ·show Act.put _ (some 50) _ = _
          simp only [Act.put, List.setIfInBounds_toArray, List.set_cons_zero, List.set_cons_succ, i64_w, i32_w]
          rfl
         refine one_ (i := 2) (N := some 48) #[true, true, true, false, true, false, false] rfl rfl (by kernel_rfl) (by decide) (fun K hK => ?_)
         have hcv50 := own_string (P := Tryd.prog) Tryd.underlying62 Tryd.underlying5 Tryd.underlying9 (Kd.own_of_R HO145.out)
         refine value_ (w1 := ?_) (v := ?_) (by rfl) rfl ?_ ?_
         rotate_left 2
         ·go_simp
          constructor
          ·rfl
          ·rfl
         clear hcv50
         refine hK.out _ _ trivial (fun hHeld => ?_)
         clear hK K
         refine norm_ (a' := ?_) ?_ ?_
         rotate_left
         ·show Act.put _ (some 48) _ = _
          simp only [Act.put, List.setIfInBounds_toArray, List.set_cons_zero, List.set_cons_succ, i64_w, i32_w]
          rfl
         refine pure_ (i := 3) (N := some 49) (v := ?_) (a' := ?_) #[true, true, true, true, true, false, false] rfl rfl (by kernel_rfl) (fun _ _ _ h => h) (Or.inl ⟨by rfl, ?_⟩) ?_ ?_
         rotate_left
         ·intro w'
          go_simp
          with_reducible rfl
         rotate_left
         ·simp only [Act.put, List.setIfInBounds_toArray, List.set_cons_zero, List.set_cons_succ, i64_w, i32_w]
          rfl
         exact norm_ a31_ (hCont (v144) _ ⟨a35_, a6_, a7_⟩)
       ·skip
        refine goes_ Tryd.func44 (by kernel_rfl) rfl #[.int .i64 0, .int .i64 15] (by rfl) rfl rfl a1_ ?_
        with_reducible refine (spec_Bytes.calls k1 0 15 t146 _ A44.out).mono ?_
        rintro e w47 ⟨rfl, hb⟩
        refine ⟨_, rfl, ?_⟩
        have n0_ := Aside0.mk (blk_below (g := gb132) (o := .cells #[.string a0_0, .slice A0_1 l0_1.length c0_1, .slice A0_2 l0_2.length c0_2, .string a0_3] 25 (0, 0)) a6_ hb)
        have n1_ := Aside0.mk (below_step a7_ hb)
        clear BK132
        clear HB
        have BK132 := n0_
        have HB := n1_
        clear n0_ n1_
        (try clear hb)
        (try clear hb2)
        (try clear hk)
        (try clear hi)
        refine hK.out _ _ trivial (fun hHeld => ?_)
        clear hK K
        refine norm_ (a' := ?_) ?_ ?_
        rotate_left
        ·show Act.put _ (some 50) _ = _
         simp only [Act.put, List.setIfInBounds_toArray, List.set_cons_zero, List.set_cons_succ, i64_w, i32_w]
         rfl
        refine one_ (i := 1) (N := some 47) #[true, true, false, false, true, false, false] rfl rfl (by kernel_rfl) (by decide) (fun K hK => ?_)
        refine Kd.R_lit_step (Kd.int .u8) _ 5 ?hg (N := 47) ?hd (xs := ([a1] : List Int)) (inner := [.int .u8 a1]) (ok := fun _ => True) (okp := fun _ => True) ?hr ?hp (fun _ hk => hk) trivial (Below.refl _ _) (Nat.le_refl _) (by simp) ?_; (case hd => rfl); (case hg => rfl); (case hr => first | (go_simp; done) | (go_simp; rfl)); (case hp => exact (Reps.one (show Kd.M (Kd.int .u8) _ _ _ a1 [.int .u8 a1] from rfl) (Reps.none _ _)))
        intro v144 w48 ho49 hb hg_ hnew_
        clear hg_ hnew_
        (first | rw [← Ny143.out] at ho49 | (simp only [Int.reduceToNat] at ho49; rw [← Ny143.out] at ho49))
        have n0_ := Aside0.mk (Kd.R_lower ho49 (below_size a7_))
        have n1_ := Aside0.mk (blk_below (g := gb132) (o := .cells #[.string a0_0, .slice A0_1 l0_1.length c0_1, .slice A0_2 l0_2.length c0_2, .string a0_3] 25 (0, 0)) a6_ hb)
        have n2_ := Aside0.mk (below_step a7_ hb)
        clear BK132
        clear HB
        have HO145 := n0_
        have BK132 := n1_
        have HB := n2_
        clear n0_ n1_ n2_
        clear hb ho49
        refine hK.out _ _ trivial (fun hHeld => ?_)
        clear hK K
        refine norm_ (a' := ?_) ?_ ?_
        rotate_left
        ·show Act.put _ (some 47) _ = _
         simp only [Act.put, List.setIfInBounds_toArray, List.set_cons_zero, List.set_cons_succ, i64_w, i32_w]
         rfl
        refine one_ (i := 2) (N := some 48) #[true, true, true, false, true, false, false] rfl rfl (by kernel_rfl) (by decide) (fun K hK => ?_)
        have hcv50 := own_string (P := Tryd.prog) Tryd.underlying62 Tryd.underlying5 Tryd.underlying9 (Kd.own_of_R HO145.out)
        refine value_ (w1 := ?_) (v := ?_) (by rfl) rfl ?_ ?_
        rotate_left 2
        ·go_simp
         constructor
         ·rfl
         ·rfl
        clear hcv50
        refine hK.out _ _ trivial (fun hHeld => ?_)
        clear hK K
        refine norm_ (a' := ?_) ?_ ?_
        rotate_left
        ·show Act.put _ (some 48) _ = _
         simp only [Act.put, List.setIfInBounds_toArray, List.set_cons_zero, List.set_cons_succ, i64_w, i32_w]
         rfl
        refine pure_ (i := 3) (N := some 49) (v := ?_) (a' := ?_) #[true, true, true, true, true, false, false] rfl rfl (by kernel_rfl) (fun _ _ _ h => h) (Or.inl ⟨by rfl, ?_⟩) ?_ ?_
        rotate_left
        ·intro w'
         go_simp
         with_reducible rfl
        rotate_left
        ·simp only [Act.put, List.setIfInBounds_toArray, List.set_cons_zero, List.set_cons_succ, i64_w, i32_w]
         rfl
        exact norm_ a31_ (hCont (v144) _ ⟨a35_, a6_, a7_⟩)
      rintro v144 w51 ⟨h0_, h1_, h2_⟩
      have n0_ : Aside0 (Kd.R (Kd.int .u8) 5 w51 w.heap.size (fun _ => True) v144 y143) := ⟨h0_⟩
      have n1_ : Aside0 (w51.heap[gb132]? = some (.cells #[.string a0_0, .slice A0_1 l0_1.length c0_1, .slice A0_2 l0_2.length c0_2, .string a0_3] 25 (0, 0))) := ⟨h1_⟩
      have n2_ : Aside0 (Below w.heap.size w w51) := ⟨h2_⟩
      clear BK132
      clear HB
      clear h0_ h1_ h2_
      have HO145 := n0_
      have BK132 := n1_
      have HB := n2_
      clear n0_ n1_ n2_
      have hHeld := trivial
      refine norm_ (a' := ?_) ?_ ?_
      rotate_left
      ·simp only [putAll, Act.put, List.setIfInBounds_toArray, List.set_cons_zero, List.set_cons_succ]
       rfl
      refine pure_ (i := 5) (N := some 51) (v := ?_) (a' := ?_) #[true, true, true, true, true, true, false] rfl rfl (by kernel_rfl) (fun _ _ _ h => h) (Or.inl ⟨by rfl, ?_⟩) ?_ ?_
      rotate_left
      ·intro w'
       go_simp
       with_reducible rfl
      rotate_left
      ·simp only [Act.put, List.setIfInBounds_toArray, List.set_cons_zero, List.set_cons_succ, i64_w, i32_w]
       rfl
      refine pure_ (i := 6) (N := some 12) (v := ?_) (a' := ?_) #[true, true, true, true, true, true, true] rfl rfl (by kernel_rfl) (fun _ _ _ h => h) (Or.inl ⟨by rfl, ?_⟩) ?_ ?_
      rotate_left
      ·intro w'
       go_simp
       with_reducible rfl
      rotate_left
      ·simp only [Act.put, List.setIfInBounds_toArray, List.set_cons_zero, List.set_cons_succ, i64_w, i32_w]
       rfl
      refine done_ (by kernel_rfl) ?_
      obtain ⟨hcz52_0, hcz52_1, hcz52_2, hcz52_3, hfz52_0, hfz52_1, hfz52_2, hfz52_3⟩ := c4f_ BK132.out
      try go_wp2_with (first | ((with_reducible refine gate_dst (N := 60) rfl ?_); refine Kd.R_lit (Kd.int .i64) _ 3 ?hg (N := 60) ?hd (xs := ([0, 0, 0, (l0_2.length : Int), (l0_1.length : Int), (x7_1.size : Int)] : List Int)) (inner := [.int .i64 0, .int .i64 0, .int .i64 0, .int .i64 (l0_2.length : Int), .int .i64 (l0_1.length : Int), .int .i64 (x7_1.size : Int)]) (ok := fun _ => True) (okp := fun _ => True) ?hr ?hp (fun _ hk => hk) trivial (Below.refl _ _) (Nat.le_refl _) (by simp) ?_; (case hd => rfl); (case hg => rfl); (case hr => first | (go_simp; done) | (go_simp; rfl)); (case hp => exact (Reps.one (show Kd.M (Kd.int .i64) _ _ _ 0 [.int .i64 0] from rfl) (Reps.one (show Kd.M (Kd.int .i64) _ _ _ 0 [.int .i64 0] from rfl) (Reps.one (show Kd.M (Kd.int .i64) _ _ _ 0 [.int .i64 0] from rfl) (Reps.one (show Kd.M (Kd.int .i64) _ _ _ (l0_2.length : Int) [.int .i64 (l0_2.length : Int)] from rfl) (Reps.one (show Kd.M (Kd.int .i64) _ _ _ (l0_1.length : Int) [.int .i64 (l0_1.length : Int)] from rfl) (Reps.one (show Kd.M (Kd.int .i64) _ _ _ (x7_1.size : Int) [.int .i64 (x7_1.size : Int)] from rfl) (Reps.none _ _)))))))); intro v148 w53 ho54 hb hg_ hnew_; clear hg_ hnew_; (first | rw [← Ny147.out] at ho54 | (simp only [Int.reduceToNat] at ho54; rw [← Ny147.out] at ho54)); have n0_ := Aside0.mk (Kd.R_below a35_ hb); have n1_ := Aside0.mk (Kd.R_lower ho54 (below_size a7_)); have n2_ := Aside0.mk (blk_below (g := gb132) (o := .cells #[.string a0_0, .slice A0_1 l0_1.length c0_1, .slice A0_2 l0_2.length c0_2, .string a0_3] 25 (0, 0)) a6_ hb); have n3_ := Aside0.mk (below_step a7_ hb); clear HO145; clear BK132; clear HB; have HO145 := n0_; have HO149 := n1_; have BK132 := n2_; have HB := n3_; clear n0_ n1_ n2_ n3_; clear hb ho54; obtain ⟨Ao55, co55, eo55⟩ := Kd.R_slice HO149.out; subst eo55))
      go_loopg [12, 62] k1 (fun kq v12 v62 w' => ∃ (x12_2 : ByteArray) (x62_2 : Int), v12 = .string x12_2 ∧ v62 = .int .i64 x62_2 ∧ Aside0 (spec_block.l1 kq a2 x7_1 x8_1 x12_2 y147 (y147.length : Int) x62_2 a0_0 l0_1 l0_2 a0_3 = some r) ∧ Aside0 (kq ≤ k1) ∧ Aside0 (Kd.R (Kd.int .i64) 3 w' w.heap.size (fun _ => True) (.slice Ao55 y147.length co55) y147) ∧ Aside0 (w'.heap[gb132]? = some (.cells #[.string a0_0, (.slice A0_1 l0_1.length c0_1), (.slice A0_2 l0_2.length c0_2), .string a0_3] 25 (0, 0))) ∧ Aside0 (Below w.heap.size w w'))
      case atStart => exact ⟨(((⟨#[84, 90, 105, 102]⟩ : ByteArray) ++ (strOfNums y143)) ++ t146), (0), a5_, a5_, H', ⟨Nat.le_refl _⟩, ⟨by (with_reducible repeat (first | apply Kd.R_alloc | apply Kd.R_drewN | apply Kd.R_drew)); exact HO149.out⟩, ⟨by (with_reducible repeat (first | refine blk_drewN ?_ _ | refine blk_drew ?_ | refine blk_alloc ?_ _)); exact BK132.out⟩, ⟨by repeat (first | (with_reducible first | exact HB.out | apply below_alloc | apply pw_below_drewN | apply below_drew1 | refine below_set ?_ GE132.out) | exact HB.out)⟩⟩
      case round =>
       clear H'
       try clear c2
       try clear p2
       try clear c3
       try clear hcv3
       try clear c4
       try clear hcv4
       try clear hcv5
       try clear c6
       try clear c6b0
       try clear p6
       try clear c7
       try clear c8
       try clear c28
       try clear c29
       try clear c30
       try clear c31
       try clear hcv39
       try clear hcv40
       try clear c43
       try clear c43b0
       try clear c43b1
       try clear c43b2
       try clear c44
       try clear c45
       try clear c45b0
       try clear c45b1
       try clear c45b2
       try clear hcv49
       try clear hcv50
       try clear hcz42_0
       try clear hcz42_1
       try clear hcz42_2
       try clear hcz52_0
       try clear hcz52_1
       try clear hcz52_2
       try clear hcz52_3
       try clear hfz42_0
       try clear hfz42_1
       try clear hfz42_2
       try clear hfz52_0
       try clear hfz52_1
       try clear hfz52_2
       try clear hfz52_3
       obtain ⟨x12_2, x62_2, rfl, rfl, HA, HK2, HO_60, BK132, HB⟩ := hrel
       cases gk with
       | zero => exact absurd HA.out (by simp [spec_block.l1])
       | succ k2 =>
        have H := HA.out
        clear HA
        simp only [spec_block.l1] at H
        by_cases c56 : x62_2 < (y147.length : Int)
        ·rw [if_pos c56] at H
         have c56b0 := decide_eq_true c56
         clear c56
         by_cases c57 : 0 ≤ x62_2
         ·rw [if_pos c57] at H
          have c57b0 := decide_eq_true c57
          clear c57
          by_cases c58 : x62_2 < (y147.length : Int)
          ·rw [if_pos c58] at H
           have c58b0 := decide_eq_true c58
           clear c58
           replace H := Option.bind_eq_some_iff.mp H
           obtain ⟨t151, A590, H⟩ := H
           replace H : (if x12_2.size + t151.size ≤ 9223372036854775807 then (spec_block.l1 k2 a2 x7_1 x8_1 (x12_2 ++ t151) y147 (y147.length : Int) (wrap64 (x62_2 + 1)) a0_0 l0_1 l0_2 a0_3) else (none)) = some r := H
           have A59 := Aside0.mk A590
           clear A590
           by_cases c60 : x12_2.size + t151.size ≤ 9223372036854775807
           ·rw [if_pos c60] at H
            have c60b0 := eq_true c60
            have c60b1 := decide_eq_true c60
            try have c60b2 := eq_false (Nat.not_lt.2 c60)
            have H' := Aside0.mk H
            clear H
            have p150 : 0 ≤ (x62_2 : Int) := of_decide_eq_true a3_
            have q150 : x62_2 < (y147.length : Int) := of_decide_eq_true a3_
            obtain ⟨ad150, e150, hx150_0⟩ := Kd.at_int (Kd.R_reads' HO_60.out).2.2 x62_2 p150 q150
            cases e150
            replace p150 := eq_true p150
            replace q150 := eq_true q150
            go_wp2_with (first | ((with_reducible refine gate_callee (f := 44) rfl ?_); refine goesL_ (some 68) rfl rfl Tryd.func44 (by kernel_rfl) rfl #[.int .i64 (rd y147 x62_2), .int .i64 4] rfl a1_ ?_; (with_reducible refine (spec_Bytes.calls k2 (rd y147 x62_2) 4 t151 _ A59.out).mono ?_); rintro e w61 ⟨rfl, hb⟩; refine ⟨_, rfl, ?_⟩; have n0_ := Aside0.mk (Kd.R_below (by (with_reducible repeat (first | apply Kd.R_alloc | apply Kd.R_drewN | apply Kd.R_drew)); exact HO_60.out) hb); have n1_ := Aside0.mk (blk_below (g := gb132) (o := .cells #[.string a0_0, .slice A0_1 l0_1.length c0_1, .slice A0_2 l0_2.length c0_2, .string a0_3] 25 (0, 0)) a6_ hb); have n2_ := Aside0.mk (below_step a7_ hb); clear HO_60; clear BK132; clear HB; have HO_60 := n0_; have BK132 := n1_; have HB := n2_; clear n0_ n1_ n2_; (try clear hb); (try clear hb2); (try clear hk); (try clear hi)))
            go_roundg k2
            case measure => have := HK1.out; have := HK2.out; omega
            case rel => exact ⟨(x12_2 ++ t151), (wrap64 (x62_2 + 1)), a5_, a5_, H', ⟨by have := HK1.out; have := HK2.out; omega⟩, ⟨by (with_reducible repeat (first | apply Kd.R_alloc | apply Kd.R_drewN | apply Kd.R_drew)); exact HO_60.out⟩, ⟨by (with_reducible repeat (first | refine blk_drewN ?_ _ | refine blk_drew ?_ | refine blk_alloc ?_ _)); exact BK132.out⟩, ⟨by repeat (first | (with_reducible first | exact HB.out | apply below_alloc | apply pw_below_drewN | apply below_drew1 | refine below_set ?_ GE132.out) | exact HB.out)⟩⟩
           ·rw [if_neg c60] at H
            exact absurd H (by simp)
          ·rw [if_neg c58] at H
           exact absurd H (by simp)
         ·rw [if_neg c57] at H
          exact absurd H (by simp)
        ·rw [if_neg c56] at H
         have c56b0 := decide_eq_false c56
         clear c56
         have H' := Aside0.mk H
         clear H
         obtain ⟨hcz62_0, hcz62_1, hcz62_2, hcz62_3, hfz62_0, hfz62_1, hfz62_2, hfz62_3⟩ := c4f_ BK132.out
         go_wp2
         go_loopg [12, 74] k2 (fun kq v12 v74 w' => ∃ (x12_3 : ByteArray) (x74_3 : Int), v12 = .string x12_3 ∧ v74 = .int .i64 x74_3 ∧ Aside0 (spec_block.l2 kq a2 x7_1 x8_1 x12_3 l0_2 (l0_2.length : Int) x74_3 a0_0 l0_1 l0_2 a0_3 = some r) ∧ Aside0 (kq ≤ k2) ∧ Aside0 (w'.heap[gb132]? = some (.cells #[.string a0_0, (.slice A0_1 l0_1.length c0_1), (.slice A0_2 l0_2.length c0_2), .string a0_3] 25 (0, 0))) ∧ Aside0 (Below w.heap.size w w'))
         case atStart => exact ⟨(x12_2), (0), a5_, a5_, H', ⟨Nat.le_refl _⟩, ⟨by (with_reducible repeat (first | refine blk_drewN ?_ _ | refine blk_drew ?_ | refine blk_alloc ?_ _)); exact BK132.out⟩, ⟨by repeat (first | (with_reducible first | exact HB.out | apply below_alloc | apply pw_below_drewN | apply below_drew1 | refine below_set ?_ GE132.out) | exact HB.out)⟩⟩
         case round =>
          clear H'
          try clear p1
          try clear q1
          try clear hx1
          try clear c2
          try clear p2
          try clear c3
          try clear hcv3
          try clear c4
          try clear hcv4
          try clear c5
          try clear hcv5
          try clear c6
          try clear c6b0
          try clear p6
          try clear c7
          try clear c8
          try clear p15
          try clear q15
          try clear hx15
          try clear c28
          try clear c29
          try clear c30
          try clear c31
          try clear hcv39
          try clear hcv40
          try clear c43
          try clear c43b0
          try clear c43b1
          try clear c43b2
          try clear c44
          try clear c45
          try clear c45b0
          try clear c45b1
          try clear c45b2
          try clear hcv49
          try clear hcv50
          try clear c56
          try clear c56b0
          try clear c57
          try clear c57b0
          try clear c58
          try clear c58b0
          try clear c60
          try clear c60b0
          try clear c60b1
          try clear c60b2
          try clear hcz42_0
          try clear hcz42_1
          try clear hcz42_2
          try clear hcz52_0
          try clear hcz52_1
          try clear hcz52_2
          try clear hcz52_3
          try clear hcz62_0
          try clear hcz62_1
          try clear hcz62_2
          try clear hcz62_3
          try clear hfz42_0
          try clear hfz42_1
          try clear hfz42_2
          try clear hfz52_0
          try clear hfz52_1
          try clear hfz52_2
          try clear hfz52_3
          try clear hfz62_0
          try clear hfz62_1
          try clear hfz62_2
          try clear hfz62_3
          try clear hx150_0
          try clear p150
          try clear p2
          try clear p6
          try clear q150
          obtain ⟨x12_3, x74_3, rfl, rfl, HA, HK3, BK132, HB⟩ := hrel
          cases gk with
          | zero => exact absurd HA.out (by simp [spec_block.l2])
          | succ k3 =>
           have H := HA.out
           clear HA
           simp only [spec_block.l2] at H
           by_cases c63 : x74_3 < (l0_2.length : Int)
           ·rw [if_pos c63] at H
            have c63b0 := decide_eq_true c63
            clear c63
            by_cases c64 : 0 ≤ x74_3
            ·rw [if_pos c64] at H
             have c64b0 := decide_eq_true c64
             clear c64
             by_cases c65 : x74_3 < (l0_2.length : Int)
             ·rw [if_pos c65] at H
              have c65b0 := decide_eq_true c65
              clear c65
              replace H := Option.bind_eq_some_iff.mp H
              obtain ⟨t154, A660, H⟩ := H
              replace H : (if x12_3.size + t154.size ≤ 9223372036854775807 then (spec_block.l2 k3 a2 x7_1 x8_1 (x12_3 ++ t154) l0_2 (l0_2.length : Int) (wrap64 (x74_3 + 1)) a0_0 l0_1 l0_2 a0_3) else (none)) = some r := H
              have A66 := Aside0.mk A660
              clear A660
              by_cases c67 : x12_3.size + t154.size ≤ 9223372036854775807
              ·rw [if_pos c67] at H
               have c67b0 := eq_true c67
               have c67b1 := decide_eq_true c67
               try have c67b2 := eq_false (Nat.not_lt.2 c67)
               have H' := Aside0.mk H
               clear H
               have p152 : 0 ≤ (x74_3 : Int) := of_decide_eq_true a3_
               have q152 : x74_3 < (l0_2.length : Int) := of_decide_eq_true a3_
               obtain ⟨ad152, e152, hx152_0, hx152_1⟩ := at_T45 HR0_2.out x74_3 p152 q152
               cases e152
               replace hx152_0 := (HB.out.cell (World.block_lt_of_cell? w _ hx152_0)).trans hx152_0
               replace hx152_1 := (HB.out.cell (World.block_lt_of_cell? w _ hx152_1)).trans hx152_1
               replace p152 := eq_true p152
               replace q152 := eq_true q152
               go_wp2_with (first | ((with_reducible refine gate_dst (N := 16) rfl ?_); refine box_event ?hg (N := 16) ?hd (cs := #[.int .i64 0, .int .u8 0]) (t := 45) ?hr ?_; (case hd => rfl); (case hg => rfl); (case hr => first | (go_simp; done) | (go_simp; rfl)); intro gb153 hg w68 hbox hb; have n0_ := Aside0.mk (blk_below (g := gb132) (o := .cells #[.string a0_0, .slice A0_1 l0_1.length c0_1, .slice (some ad152) l0_2.length c0_2, .string a0_3] 25 (0, 0)) a6_ hb); have n1_ := Aside0.mk (below_step a7_ hb); have n2_ := Aside0.mk (hbox); have n3_ := Aside0.mk ((by rw [hg]; exact (below_size a7_) : w.heap.size ≤ gb153)); have n4_ := Aside0.mk ((by rw [hg]; exact (below_size a7_) : w.heap.size ≤ gb153)); have n5_ := Aside0.mk ((by rw [hg]; exact Nat.ne_of_lt (blk_lt (g := gb132) (o := .cells #[.string a0_0, .slice A0_1 l0_1.length c0_1, .slice (some ad152) l0_2.length c0_2, .string a0_3] 25 (0, 0)) a6_) : gb132 ≠ gb153)); have n6_ := Aside0.mk ((by rw [hg]; exact Nat.ne_of_gt (blk_lt (g := gb132) (o := .cells #[.string a0_0, .slice A0_1 l0_1.length c0_1, .slice (some ad152) l0_2.length c0_2, .string a0_3] 25 (0, 0)) a6_) : gb153 ≠ gb132)); clear BK132; clear HB; have BK132 := n0_; have HB := n1_; have BK153 := n2_; have GW153 := n3_; have GE153 := n4_; have NB132_153 := n5_; have NB153_132 := n6_; clear n0_ n1_ n2_ n3_ n4_ n5_ n6_; clear hb hbox hg; have hnb69 := NB153_132.out; have hnc69 := NB132_153.out; obtain ⟨hcz70_0, hcz70_1, hfz70_0, hfz70_1⟩ := c2f_ BK153.out) | ((with_reducible refine gate_callee (f := 44) rfl ?_); refine goesL_ (some 82) rfl rfl Tryd.func44 (by kernel_rfl) rfl #[.int .i64 ((rd_T45 l0_2 x74_3).f0), .int .i64 a2] rfl a1_ ?_; (with_reducible refine (spec_Bytes.calls k3 ((rd_T45 l0_2 x74_3).f0) a2 t154 _ A66.out).mono ?_); rintro e w71 ⟨rfl, hb⟩; refine ⟨_, rfl, ?_⟩; have n0_ := Aside0.mk (blk_below (g := gb132) (o := .cells #[.string a0_0, .slice A0_1 l0_1.length c0_1, .slice (some ad152) l0_2.length c0_2, .string a0_3] 25 (0, 0)) (by (with_reducible repeat (first | refine blk_drewN ?_ _ | refine blk_drew ?_ | refine blk_alloc ?_ _)); refine blk_far ?_ NB132_153.out _; (with_reducible repeat (first | refine blk_drewN ?_ _ | refine blk_drew ?_ | refine blk_alloc ?_ _)); refine blk_far ?_ NB132_153.out _; (with_reducible repeat (first | refine blk_drewN ?_ _ | refine blk_drew ?_ | refine blk_alloc ?_ _)); exact BK132.out) hb); have n1_ := Aside0.mk (blk_below (g := gb153) (o := .cells #[.int .i64 ((rd_T45 l0_2 x74_3).f0), .int .u8 ((rd_T45 l0_2 x74_3).f1)] 45 (0, 0)) (by (with_reducible repeat (first | refine blk_drewN ?_ _ | refine blk_drew ?_ | refine blk_alloc ?_ _)); refine blk_put (cs := #[.int .i64 ((rd_T45 l0_2 x74_3).f0), .int .u8 0]) ?_ 1 _ rfl; (with_reducible repeat (first | refine blk_drewN ?_ _ | refine blk_drew ?_ | refine blk_alloc ?_ _)); refine blk_put (cs := #[.int .i64 0, .int .u8 0]) ?_ 0 _ rfl; (with_reducible repeat (first | refine blk_drewN ?_ _ | refine blk_drew ?_ | refine blk_alloc ?_ _)); exact BK153.out) hb); have n2_ := Aside0.mk (below_step (by repeat (first | (with_reducible first | exact HB.out | apply below_alloc | apply pw_below_drewN | apply below_drew1 | refine below_set ?_ GE132.out | refine below_set ?_ GE153.out) | exact HB.out)) hb); clear BK132; clear BK153; clear HB; have BK132 := n0_; have BK153 := n1_; have HB := n2_; clear n0_ n1_ n2_; (try clear hb); (try clear hb2); (try clear hk); (try clear hi)))
               go_roundg k3
               case measure => have := HK1.out; have := HK2.out; have := HK3.out; omega
               case rel => exact ⟨(x12_3 ++ t154), (wrap64 (x74_3 + 1)), a5_, a5_, H', ⟨by have := HK1.out; have := HK2.out; have := HK3.out; omega⟩, ⟨by (with_reducible repeat (first | refine blk_drewN ?_ _ | refine blk_drew ?_ | refine blk_alloc ?_ _)); exact BK132.out⟩, ⟨by repeat (first | (with_reducible first | exact HB.out | apply below_alloc | apply pw_below_drewN | apply below_drew1 | refine below_set ?_ GE132.out | refine below_set ?_ GE153.out) | exact HB.out)⟩⟩
              ·rw [if_neg c67] at H
               exact absurd H (by simp)
             ·rw [if_neg c65] at H
              exact absurd H (by simp)
            ·rw [if_neg c64] at H
             exact absurd H (by simp)
           ·rw [if_neg c63] at H
            have c63b0 := decide_eq_false c63
            clear c63
            have H' := Aside0.mk H
            clear H
            obtain ⟨hcz72_0, hcz72_1, hcz72_2, hcz72_3, hfz72_0, hfz72_1, hfz72_2, hfz72_3⟩ := c4f_ BK132.out
            go_wp2
            go_loopg [12, 88] k3 (fun kq v12 v88 w' => ∃ (x12_4 : ByteArray) (x88_4 : Int), v12 = .string x12_4 ∧ v88 = .int .i64 x88_4 ∧ Aside0 (spec_block.l3 kq x7_1 x8_1 x12_4 l0_2 (l0_2.length : Int) x88_4 = some r) ∧ Aside0 (kq ≤ k3) ∧ Aside0 (w'.heap[gb132]? = some (.cells #[.string a0_0, (.slice A0_1 l0_1.length c0_1), (.slice A0_2 l0_2.length c0_2), .string a0_3] 25 (0, 0))) ∧ Aside0 (Below w.heap.size w w'))
            case atStart => exact ⟨(x12_3), (0), a5_, a5_, H', ⟨Nat.le_refl _⟩, ⟨by (with_reducible repeat (first | refine blk_drewN ?_ _ | refine blk_drew ?_ | refine blk_alloc ?_ _)); exact BK132.out⟩, ⟨by repeat (first | (with_reducible first | exact HB.out | apply below_alloc | apply pw_below_drewN | apply below_drew1 | refine below_set ?_ GE132.out) | exact HB.out)⟩⟩
            case round =>
             clear H'
             try clear p1
             try clear q1
             try clear hx1
             try clear c2
             try clear p2
             try clear c3
             try clear hcv3
             try clear c4
             try clear hcv4
             try clear c5
             try clear hcv5
             try clear c6
             try clear c6b0
             try clear p6
             try clear c7
             try clear c8
             try clear p15
             try clear q15
             try clear hx15
             try clear c28
             try clear c29
             try clear c30
             try clear c31
             try clear hcv39
             try clear hcv40
             try clear c43
             try clear c43b0
             try clear c43b1
             try clear c43b2
             try clear c44
             try clear c45
             try clear c45b0
             try clear c45b1
             try clear c45b2
             try clear hcv49
             try clear hcv50
             try clear c56
             try clear c56b0
             try clear c57
             try clear c57b0
             try clear c58
             try clear c58b0
             try clear c60
             try clear c60b0
             try clear c60b1
             try clear c60b2
             try clear c63
             try clear c63b0
             try clear c64
             try clear c64b0
             try clear p64
             try clear c65
             try clear c65b0
             try clear c67
             try clear c67b0
             try clear c67b1
             try clear c67b2
             try clear c69
             try clear hcz42_0
             try clear hcz42_1
             try clear hcz42_2
             try clear hcz52_0
             try clear hcz52_1
             try clear hcz52_2
             try clear hcz52_3
             try clear hcz62_0
             try clear hcz62_1
             try clear hcz62_2
             try clear hcz62_3
             try clear hcz70_0
             try clear hcz70_1
             try clear hcz72_0
             try clear hcz72_1
             try clear hcz72_2
             try clear hcz72_3
             try clear hfz42_0
             try clear hfz42_1
             try clear hfz42_2
             try clear hfz52_0
             try clear hfz52_1
             try clear hfz52_2
             try clear hfz52_3
             try clear hfz62_0
             try clear hfz62_1
             try clear hfz62_2
             try clear hfz62_3
             try clear hfz70_0
             try clear hfz70_1
             try clear hfz72_0
             try clear hfz72_1
             try clear hfz72_2
             try clear hfz72_3
             try clear hx150_0
             try clear hx152_0
             try clear hx152_1
             try clear p1
             try clear p15
             try clear p150
             try clear p152
             try clear p2
             try clear p6
             try clear q1
             try clear q15
             try clear q150
             try clear q152
             obtain ⟨x12_4, x88_4, rfl, rfl, HA, HK4, BK132, HB⟩ := hrel
             cases gk with
             | zero => exact absurd HA.out (by simp [spec_block.l3])
             | succ k4 =>
              have H := HA.out
              clear HA
              simp only [spec_block.l3] at H
              by_cases c73 : x88_4 < (l0_2.length : Int)
              ·rw [if_pos c73] at H
               have c73b0 := decide_eq_true c73
               clear c73
               by_cases c74 : 0 ≤ x88_4
               ·rw [if_pos c74] at H
                have c74b0 := decide_eq_true c74
                clear c74
                by_cases c75 : x88_4 < (l0_2.length : Int)
                ·rw [if_pos c75] at H
                 have c75b0 := decide_eq_true c75
                 clear c75
                 obtain ⟨y157, hy157⟩ : ∃ y_ : List Int, y_ = (([(rd_T45 l0_2 x88_4).f1] : List Int)) := ⟨_, rfl⟩
                 replace H : (if x12_4.size + (strOfNums y157).size ≤ 9223372036854775807 then (spec_block.l3 k4 x7_1 x8_1 (x12_4 ++ (strOfNums y157)) l0_2 (l0_2.length : Int) (wrap64 (x88_4 + 1))) else (none)) = some r := by first | (rw [hy157]; with_reducible exact H) | (have H2_ := (Option.bind_some _ _).symm.trans H; rw [hy157]; with_reducible exact H2_) | (have H2_ := (Option.bind_some _ _).symm.trans H; with_reducible exact H2_) | with_reducible exact H | (rw [hy157]; exact H) | exact H
                 have Ny157 := Aside0.mk hy157
                 clear hy157
                 by_cases c76 : x12_4.size + (strOfNums y157).size ≤ 9223372036854775807
                 ·rw [if_pos c76] at H
                  have c76b0 := eq_true c76
                  have c76b1 := decide_eq_true c76
                  try have c76b2 := eq_false (Nat.not_lt.2 c76)
                  have H' := Aside0.mk H
                  clear H
                  have p155 : 0 ≤ (x88_4 : Int) := of_decide_eq_true a3_
                  have q155 : x88_4 < (l0_2.length : Int) := of_decide_eq_true a3_
                  obtain ⟨ad155, e155, hx155_0, hx155_1⟩ := at_T45 HR0_2.out x88_4 p155 q155
                  cases e155
                  replace hx155_0 := (HB.out.cell (World.block_lt_of_cell? w _ hx155_0)).trans hx155_0
                  replace hx155_1 := (HB.out.cell (World.block_lt_of_cell? w _ hx155_1)).trans hx155_1
                  replace p155 := eq_true p155
                  replace q155 := eq_true q155
                  go_wp2_with (first | ((with_reducible refine gate_dst (N := 18) rfl ?_); refine box_event ?hg (N := 18) ?hd (cs := #[.int .i64 0, .int .u8 0]) (t := 45) ?hr ?_; (case hd => rfl); (case hg => rfl); (case hr => first | (go_simp; done) | (go_simp; rfl)); intro gb156 hg w77 hbox hb; have n0_ := Aside0.mk (blk_below (g := gb132) (o := .cells #[.string a0_0, .slice A0_1 l0_1.length c0_1, .slice (some ad155) l0_2.length c0_2, .string a0_3] 25 (0, 0)) a6_ hb); have n1_ := Aside0.mk (below_step a7_ hb); have n2_ := Aside0.mk (hbox); have n3_ := Aside0.mk ((by rw [hg]; exact (below_size a7_) : w.heap.size ≤ gb156)); have n4_ := Aside0.mk ((by rw [hg]; exact (below_size a7_) : w.heap.size ≤ gb156)); have n5_ := Aside0.mk ((by rw [hg]; exact Nat.ne_of_lt (blk_lt (g := gb132) (o := .cells #[.string a0_0, .slice A0_1 l0_1.length c0_1, .slice (some ad155) l0_2.length c0_2, .string a0_3] 25 (0, 0)) a6_) : gb132 ≠ gb156)); have n6_ := Aside0.mk ((by rw [hg]; exact Nat.ne_of_gt (blk_lt (g := gb132) (o := .cells #[.string a0_0, .slice A0_1 l0_1.length c0_1, .slice (some ad155) l0_2.length c0_2, .string a0_3] 25 (0, 0)) a6_) : gb156 ≠ gb132)); clear BK132; clear HB; have BK132 := n0_; have HB := n1_; have BK156 := n2_; have GW156 := n3_; have GE156 := n4_; have NB132_156 := n5_; have NB156_132 := n6_; clear n0_ n1_ n2_ n3_ n4_ n5_ n6_; clear hb hbox hg; have hnb78 := NB156_132.out; have hnc78 := NB132_156.out; obtain ⟨hcz79_0, hcz79_1, hfz79_0, hfz79_1⟩ := c2f_ BK156.out) | ((with_reducible refine gate_dst (N := 95) rfl ?_); refine Kd.R_lit (Kd.int .u8) _ 5 ?hg (N := 95) ?hd (xs := ([(rd_T45 l0_2 x88_4).f1] : List Int)) (inner := [.int .u8 ((rd_T45 l0_2 x88_4).f1)]) (ok := fun _ => True) (okp := fun _ => True) ?hr ?hp (fun _ hk => hk) trivial (Below.refl _ _) (Nat.le_refl _) (by simp) ?_; (case hd => rfl); (case hg => rfl); (case hr => first | (go_simp; done) | (go_simp; rfl)); (case hp => exact (Reps.one (show Kd.M (Kd.int .u8) _ _ _ ((rd_T45 l0_2 x88_4).f1) [.int .u8 ((rd_T45 l0_2 x88_4).f1)] from rfl) (Reps.none _ _))); intro v158 w80 ho81 hb hg_ hnew_; clear hg_ hnew_; (first | rw [← Ny157.out] at ho81 | (simp only [Int.reduceToNat] at ho81; rw [← Ny157.out] at ho81)); have n0_ := Aside0.mk (Kd.R_lower ho81 (below_size a49_)); have n1_ := Aside0.mk (blk_below (g := gb132) (o := .cells #[.string a0_0, .slice A0_1 l0_1.length c0_1, .slice (some ad155) l0_2.length c0_2, .string a0_3] 25 (0, 0)) (by (with_reducible repeat (first | refine blk_drewN ?_ _ | refine blk_drew ?_ | refine blk_alloc ?_ _)); refine blk_far ?_ NB132_156.out _; (with_reducible repeat (first | refine blk_drewN ?_ _ | refine blk_drew ?_ | refine blk_alloc ?_ _)); refine blk_far ?_ NB132_156.out _; (with_reducible repeat (first | refine blk_drewN ?_ _ | refine blk_drew ?_ | refine blk_alloc ?_ _)); exact BK132.out) hb); have n2_ := Aside0.mk (blk_below (g := gb156) (o := .cells #[.int .i64 ((rd_T45 l0_2 x88_4).f0), .int .u8 ((rd_T45 l0_2 x88_4).f1)] 45 (0, 0)) (by (with_reducible repeat (first | refine blk_drewN ?_ _ | refine blk_drew ?_ | refine blk_alloc ?_ _)); refine blk_put (cs := #[.int .i64 ((rd_T45 l0_2 x88_4).f0), .int .u8 0]) ?_ 1 _ rfl; (with_reducible repeat (first | refine blk_drewN ?_ _ | refine blk_drew ?_ | refine blk_alloc ?_ _)); refine blk_put (cs := #[.int .i64 0, .int .u8 0]) ?_ 0 _ rfl; (with_reducible repeat (first | refine blk_drewN ?_ _ | refine blk_drew ?_ | refine blk_alloc ?_ _)); exact BK156.out) hb); have n3_ := Aside0.mk (below_step a49_ hb); clear BK132; clear BK156; clear HB; have HO159 := n0_; have BK132 := n1_; have BK156 := n2_; have HB := n3_; clear n0_ n1_ n2_ n3_; clear hb ho81; have hcv82 := own_string (P := Tryd.prog) Tryd.underlying62 Tryd.underlying5 Tryd.underlying9 (Kd.own_of_R HO159.out)))
                  go_roundg k4
                  case measure => have := HK1.out; have := HK2.out; have := HK3.out; have := HK4.out; omega
                  case rel => exact ⟨(x12_4 ++ (strOfNums y157)), (wrap64 (x88_4 + 1)), a5_, a5_, H', ⟨by have := HK1.out; have := HK2.out; have := HK3.out; have := HK4.out; omega⟩, ⟨by (with_reducible repeat (first | refine blk_drewN ?_ _ | refine blk_drew ?_ | refine blk_alloc ?_ _)); exact BK132.out⟩, ⟨by repeat (first | (with_reducible first | exact HB.out | apply below_alloc | apply pw_below_drewN | apply below_drew1 | refine below_set ?_ GE132.out | refine below_set ?_ GE156.out) | exact HB.out)⟩⟩
                 ·rw [if_neg c76] at H
                  exact absurd H (by simp)
                ·rw [if_neg c75] at H
                 exact absurd H (by simp)
               ·rw [if_neg c74] at H
                exact absurd H (by simp)
              ·rw [if_neg c73] at H
               have c73b0 := decide_eq_false c73
               clear c73
               by_cases c83 : x12_4.size + x8_1.size ≤ 9223372036854775807
               ·rw [if_pos c83] at H
                have c83b0 := eq_true c83
                have c83b1 := decide_eq_true c83
                try have c83b2 := eq_false (Nat.not_lt.2 c83)
                by_cases c84 : (x12_4 ++ x8_1).size + x7_1.size ≤ 9223372036854775807
                ·rw [if_pos c84] at H
                 have c84b0 := eq_true c84
                 have c84b1 := decide_eq_true c84
                 try have c84b2 := eq_false (Nat.not_lt.2 c84)
                 try (have c84b9 := c84b2; simp only [ByteArray.size_append] at c84b9)
                 obtain rfl := Option.some.inj H
                 go_wp2
                 go_ret
                 exact ⟨by first | rfl | (simp [errW_none, errW_some] <;> rfl) | (simp [*, errW_none, errW_some] <;> rfl), by repeat (first | (with_reducible first | exact HB.out | apply below_alloc | apply pw_below_drewN | apply below_drew1 | refine below_set ?_ GE132.out) | exact HB.out)⟩
                ·rw [if_neg c84] at H
                 exact absurd H (by simp)
               ·rw [if_neg c83] at H
                exact absurd H (by simp)
     ·rw [if_neg c45] at H
      exact absurd H (by simp)
    ·rw [if_neg c43] at H
     exact absurd H (by simp)
end Go.Proofs.YtjoaeennbfmohaaDoor.PFnZone
