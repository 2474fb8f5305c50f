/- The walks of some functions. Laid by programs (wip/mkq.py, wip/mkclaim.py) out of the texts that the kit's print.sh wrote for this seat, written shorter. Not written by hand. -/
import Derived.Test.YtjoaeennbfmohaaDoorC0
import Derived.Test.YtjoaeennbfmohaaDoorC1
import Derived.Test.YtjoaeennbfmohaaDoorC4
namespace Go.Proofs.YtjoaeennbfmohaaDoor.PFnZone
open Go.RowKit Go.Proofs.YtjoaeennbfmohaaDoorW.PrintWords Go.Proofs.YtjoaeennbfmohaaDoorW.PrintLast Go.Proofs.YtjoaeennbfmohaaDoorW.PrintMore
attribute [local go_sem] max2_int min2_int max_two min_two max_three min_three max_four min_four   -- for this text's walks alone
set_option linter.unusedVariables false
set_option linter.unusedSimpArgs false
def spec_File1.f (k : Nat) (a0_0 : ByteArray) (l0_1 : List (S27)) (l0_2 : List (S45)) (a0_3 : ByteArray) : Option (ByteArray) := (spec_block.f k a0_0 l0_1 l0_2 a0_3 0 4).bind fun t161 => (some t161)
set_option maxHeartbeats 8000000 in
set_option maxRecDepth 100000 in
theorem spec_File1.calls (k : Nat) (a0_0 : ByteArray) (A0_1 : Option Addr) (c0_1 : Nat) (l0_1 : List (S27)) (A0_2 : Option Addr) (c0_2 : Nat) (l0_2 : List (S45)) (a0_3 : ByteArray) (r : ByteArray) (w : World) (hr0_1 : Kd.C k27 w A0_1 l0_1.length l0_1) (hc0_1 : l0_1.length ≤ c0_1) (hr0_2 : Kd.C k45 w A0_2 l0_2.length l0_2) (hc0_2 : l0_2.length ≤ c0_2) (h : spec_File1.f k a0_0 l0_1 l0_2 a0_3 = some r) :
  Calls Tryd.prog 20 #[.agg #[.string a0_0, .slice A0_1 l0_1.length c0_1, .slice A0_2 l0_2.length c0_2, .string a0_3]] w fun e w' => e = .returned (.string r) ∧ Below w.heap.size w w' := by
 have hu25 := Tryd.underlying25
 have HR0_1 := Aside0.mk hr0_1
 have HC0_1 := Aside0.mk hc0_1
 clear hr0_1 hc0_1
 have HR0_2 := Aside0.mk hr0_2
 have HC0_2 := Aside0.mk hc0_2
 clear hr0_2 hc0_2
 have HB := Aside0.mk (Below.refl w.heap.size w)
 have H : ((spec_block.f k a0_0 l0_1 l0_2 a0_3 0 4).bind fun t161 => (some t161)) = some r := h
 clear h
 replace H := Option.bind_eq_some_iff.mp H
 obtain ⟨t161, A20, H⟩ := H
 replace H : (some t161) = some r := H
 have A2 := Aside0.mk A20
 clear A20
 obtain rfl := Option.some.inj H
 go_enter Tryd.func20, Tryd.ntmps20
 go_wp2_with (first | ((with_reducible refine gate_dst (N := 1) rfl ?_); refine box_event ?hg (N := 1) ?hd (cs := #[.string a0_0, .slice A0_1 l0_1.length c0_1, .slice A0_2 l0_2.length c0_2, .string a0_3]) (t := 25) ?hr ?_; (case hd => rfl); (case hg => rfl); (case hr => first | (go_simp; done) | (go_simp; rfl)); intro gb160 hg w3 hbox hb; have n0_ := Aside0.mk (below_step a0_ hb); have n1_ := Aside0.mk (hbox); have n2_ := Aside0.mk ((by rw [hg]; exact (below_size a0_) : w.heap.size ≤ gb160)); have n3_ := Aside0.mk ((by rw [hg]; exact (below_size a0_) : w.heap.size ≤ gb160)); clear HB; have HB := n0_; have BK160 := n1_; have GW160 := n2_; have GE160 := n3_; clear n0_ n1_ n2_ n3_; clear hb hbox hg; obtain ⟨hcz4_0, hcz4_1, hcz4_2, hcz4_3, hfz4_0, hfz4_1, hfz4_2, hfz4_3⟩ := c4f_ BK160.out) | ((with_reducible refine gate_callee (f := 27) rfl ?_); refine goesL_ (some 4) rfl rfl Tryd.func27 (by kernel_rfl) rfl #[.agg #[.string a0_0, .slice A0_1 l0_1.length c0_1, .slice A0_2 l0_2.length c0_2, .string a0_3], .int .u8 0, .int .i64 4] rfl a1_ ?_; (with_reducible refine (spec_block.calls k a0_0 _ _ l0_1 _ _ l0_2 a0_3 0 4 t161 _ ?side1 ?side2 ?side3 ?side4 A2.out).mono ?_); (case side1 => repeat (first | exact (Kd.C_below HR0_1.out HB.out) | (with_reducible refine Kd.C_alloc ?_ _) | (with_reducible refine Kd.C_drewN ?_ _) | (with_reducible refine Kd.C_drew ?_))); (case side2 => exact HC0_1.out); (case side3 => repeat (first | exact (Kd.C_below HR0_2.out HB.out) | (with_reducible refine Kd.C_alloc ?_ _) | (with_reducible refine Kd.C_drewN ?_ _) | (with_reducible refine Kd.C_drew ?_))); (case side4 => exact HC0_2.out); rintro e w5 ⟨rfl, hb⟩; refine ⟨_, rfl, ?_⟩; have n0_ := Aside0.mk (blk_below (g := gb160) (o := .cells #[.string a0_0, .slice A0_1 l0_1.length c0_1, .slice A0_2 l0_2.length c0_2, .string a0_3] 25 (0, 0)) (by (with_reducible repeat (first | refine blk_drewN ?_ _ | refine blk_drew ?_ | refine blk_alloc ?_ _)); exact BK160.out) hb); have n1_ := Aside0.mk (below_step (by repeat (first | (with_reducible first | exact HB.out | apply below_alloc | apply pw_below_drewN | apply below_drew1 | refine below_set ?_ GE160.out) | exact HB.out)) hb); clear BK160; clear HB; have BK160 := n0_; have HB := n1_; clear n0_ n1_; (try clear hb); (try clear hb2); (try clear hk); (try clear hi)))
 go_ret
 exact ⟨by first | rfl | (simp [errW_none, errW_some] <;> rfl) | (simp [*, errW_none, errW_some] <;> rfl), by repeat (first | (with_reducible first | exact HB.out | apply below_alloc | apply pw_below_drewN | apply below_drew1 | refine below_set ?_ GE160.out) | exact HB.out)⟩
def spec_Named.l0 : Nat → ByteArray → Int → Option (Bool)
 | 0, _, _ => none
 | k + 1, x0, x3 => if x3 < (x0.size : Int) then (if 0 ≤ x3 then (if (bt x0 x3) ≥ 65 then (if (bt x0 x3) ≤ 90 then (spec_Named.l0 k x0 (wrap64 (x3 + 1))) else (if (bt x0 x3) ≥ 97 then (if ((bt x0 x3) ≤ 122) then (spec_Named.l0 k x0 (wrap64 (x3 + 1))) else (some false)) else (some false))) else (if (bt x0 x3) ≥ 97 then (if ((bt x0 x3) ≤ 122) then (spec_Named.l0 k x0 (wrap64 (x3 + 1))) else (some false)) else (some false))) else (none)) else ((spec_Within.f (x0.size : Int) 3 100).bind fun t166 => (some t166))
def spec_Named.f (k : Nat) (a0 : ByteArray) : Option (Bool) := spec_Named.l0 k a0 0
set_option maxHeartbeats 8000000 in
set_option maxRecDepth 100000 in
theorem spec_Named.calls (k : Nat) (a0 : ByteArray) (r : Bool) (w : World) (h : spec_Named.f k a0 = some r) :
  Calls Tryd.prog 34 #[.string a0] w fun e w' => e = .returned (.bool r) ∧ Drawn0 w w' := by
 have H : (spec_Named.l0 k a0 0) = some r := h
 clear h
 have H' := Aside0.mk H
 clear H
 go_enter Tryd.func34, Tryd.ntmps34
 go_wp2
 go_loopg [3] k (fun kq v3 w' => ∃ (x3_1 : Int), v3 = .int .i64 x3_1 ∧ Aside0 (spec_Named.l0 kq a0 x3_1 = some r) ∧ Aside0 (kq ≤ k) ∧ Drawn0 w w')
 case atStart => exact ⟨(0), a5_, H', ⟨Nat.le_refl _⟩, by repeat (first | exact Drawn0.refl _ | apply Drawn0.step)⟩
 case round =>
  clear H'
  obtain ⟨x3_1, rfl, HA, HK1, ⟨m1, rfl⟩⟩ := hrel
  cases gk with
  | zero => exact absurd HA.out (by simp [spec_Named.l0])
  | succ k1 =>
   have H := HA.out
   clear HA
   simp only [spec_Named.l0] at H
   by_cases c2 : x3_1 < (a0.size : Int)
   ·rw [if_pos c2] at H
    have c2b0 := decide_eq_true c2
    clear c2
    by_cases c3 : 0 ≤ x3_1
    ·rw [if_pos c3] at H
     have c3b0 := decide_eq_true c3
     clear c3
     by_cases c5 : (bt a0 x3_1) ≥ 65
     ·rw [if_pos c5] at H
      have c5b0 : decide (65 ≤ (bt a0 x3_1)) = true := decide_eq_true c5
      clear c5
      by_cases c7 : (bt a0 x3_1) ≤ 90
      ·rw [if_pos c7] at H
       have c7b0 := decide_eq_true c7
       clear c7
       have H' := Aside0.mk H
       clear H
       have p4 : 0 ≤ (x3_1 : Int) := of_decide_eq_true a3_
       have q4 : x3_1 < (a0.size : Int) := of_decide_eq_true a3_
       have hx4 := bt_at a0 x3_1
       replace p4 := eq_true p4
       replace q4 := eq_true q4
       have p6 : 0 ≤ (x3_1 : Int) := of_decide_eq_true a3_
       have q6 : x3_1 < (a0.size : Int) := of_decide_eq_true a3_
       have hx6 := bt_at a0 x3_1
       replace p6 := eq_true p6
       replace q6 := eq_true q6
       go_wp2
       go_roundg k1
       case measure => have := HK1.out; omega
       case rel => exact ⟨(wrap64 (x3_1 + 1)), a5_, H', ⟨by have := HK1.out; omega⟩, by repeat (first | exact Drawn0.refl _ | apply Drawn0.step)⟩
      ·rw [if_neg c7] at H
       have c7b0 := decide_eq_false c7
       clear c7
       by_cases c9 : (bt a0 x3_1) ≥ 97
       ·rw [if_pos c9] at H
        have c9b0 : decide (97 ≤ (bt a0 x3_1)) = true := decide_eq_true c9
        clear c9
        by_cases c11 : ((bt a0 x3_1) ≤ 122)
        ·rw [if_pos c11] at H
         have c11b0 := decide_eq_true c11
         clear c11
         have H' := Aside0.mk H
         clear H
         have p4 : 0 ≤ (x3_1 : Int) := of_decide_eq_true a3_
         have q4 : x3_1 < (a0.size : Int) := of_decide_eq_true a3_
         have hx4 := bt_at a0 x3_1
         replace p4 := eq_true p4
         replace q4 := eq_true q4
         have p6 : 0 ≤ (x3_1 : Int) := of_decide_eq_true a3_
         have q6 : x3_1 < (a0.size : Int) := of_decide_eq_true a3_
         have hx6 := bt_at a0 x3_1
         replace p6 := eq_true p6
         replace q6 := eq_true q6
         have p8 : 0 ≤ (x3_1 : Int) := of_decide_eq_true a3_
         have q8 : x3_1 < (a0.size : Int) := of_decide_eq_true a3_
         have hx8 := bt_at a0 x3_1
         replace p8 := eq_true p8
         replace q8 := eq_true q8
         have p10 : 0 ≤ (x3_1 : Int) := of_decide_eq_true a3_
         have q10 : x3_1 < (a0.size : Int) := of_decide_eq_true a3_
         have hx10 := bt_at a0 x3_1
         replace p10 := eq_true p10
         replace q10 := eq_true q10
         go_wp2
         go_roundg k1
         case measure => have := HK1.out; omega
         case rel => exact ⟨(wrap64 (x3_1 + 1)), a5_, H', ⟨by have := HK1.out; omega⟩, by repeat (first | exact Drawn0.refl _ | apply Drawn0.step)⟩
        ·rw [if_neg c11] at H
         have c11b0 := decide_eq_false c11
         clear c11
         obtain rfl := Option.some.inj H
         have p4 : 0 ≤ (x3_1 : Int) := of_decide_eq_true a3_
         have q4 : x3_1 < (a0.size : Int) := of_decide_eq_true a3_
         have hx4 := bt_at a0 x3_1
         replace p4 := eq_true p4
         replace q4 := eq_true q4
         have p6 : 0 ≤ (x3_1 : Int) := of_decide_eq_true a3_
         have q6 : x3_1 < (a0.size : Int) := of_decide_eq_true a3_
         have hx6 := bt_at a0 x3_1
         replace p6 := eq_true p6
         replace q6 := eq_true q6
         have p8 : 0 ≤ (x3_1 : Int) := of_decide_eq_true a3_
         have q8 : x3_1 < (a0.size : Int) := of_decide_eq_true a3_
         have hx8 := bt_at a0 x3_1
         replace p8 := eq_true p8
         replace q8 := eq_true q8
         have p10 : 0 ≤ (x3_1 : Int) := of_decide_eq_true a3_
         have q10 : x3_1 < (a0.size : Int) := of_decide_eq_true a3_
         have hx10 := bt_at a0 x3_1
         replace p10 := eq_true p10
         replace q10 := eq_true q10
         go_wp2
         go_ret
         exact ⟨by first | rfl | (simp; done) | (simp [*]; done), by repeat (first | exact Drawn0.refl _ | apply Drawn0.step)⟩
       ·rw [if_neg c9] at H
        have c9b0 : decide (97 ≤ (bt a0 x3_1)) = false := decide_eq_false c9
        clear c9
        obtain rfl := Option.some.inj H
        have p4 : 0 ≤ (x3_1 : Int) := of_decide_eq_true a3_
        have q4 : x3_1 < (a0.size : Int) := of_decide_eq_true a3_
        have hx4 := bt_at a0 x3_1
        replace p4 := eq_true p4
        replace q4 := eq_true q4
        have p6 : 0 ≤ (x3_1 : Int) := of_decide_eq_true a3_
        have q6 : x3_1 < (a0.size : Int) := of_decide_eq_true a3_
        have hx6 := bt_at a0 x3_1
        replace p6 := eq_true p6
        replace q6 := eq_true q6
        have p8 : 0 ≤ (x3_1 : Int) := of_decide_eq_true a3_
        have q8 : x3_1 < (a0.size : Int) := of_decide_eq_true a3_
        have hx8 := bt_at a0 x3_1
        replace p8 := eq_true p8
        replace q8 := eq_true q8
        go_wp2
        go_ret
        exact ⟨by first | rfl | (simp; done) | (simp [*]; done), by repeat (first | exact Drawn0.refl _ | apply Drawn0.step)⟩
     ·rw [if_neg c5] at H
      have c5b0 : decide (65 ≤ (bt a0 x3_1)) = false := decide_eq_false c5
      clear c5
      by_cases c13 : (bt a0 x3_1) ≥ 97
      ·rw [if_pos c13] at H
       have c13b0 : decide (97 ≤ (bt a0 x3_1)) = true := decide_eq_true c13
       clear c13
       by_cases c15 : ((bt a0 x3_1) ≤ 122)
       ·rw [if_pos c15] at H
        have c15b0 := decide_eq_true c15
        clear c15
        have H' := Aside0.mk H
        clear H
        have p4 : 0 ≤ (x3_1 : Int) := of_decide_eq_true a3_
        have q4 : x3_1 < (a0.size : Int) := of_decide_eq_true a3_
        have hx4 := bt_at a0 x3_1
        replace p4 := eq_true p4
        replace q4 := eq_true q4
        have p12 : 0 ≤ (x3_1 : Int) := of_decide_eq_true a3_
        have q12 : x3_1 < (a0.size : Int) := of_decide_eq_true a3_
        have hx12 := bt_at a0 x3_1
        replace p12 := eq_true p12
        replace q12 := eq_true q12
        have p14 : 0 ≤ (x3_1 : Int) := of_decide_eq_true a3_
        have q14 : x3_1 < (a0.size : Int) := of_decide_eq_true a3_
        have hx14 := bt_at a0 x3_1
        replace p14 := eq_true p14
        replace q14 := eq_true q14
        go_wp2
        go_roundg k1
        case measure => have := HK1.out; omega
        case rel => exact ⟨(wrap64 (x3_1 + 1)), a5_, H', ⟨by have := HK1.out; omega⟩, by repeat (first | exact Drawn0.refl _ | apply Drawn0.step)⟩
       ·rw [if_neg c15] at H
        have c15b0 := decide_eq_false c15
        clear c15
        obtain rfl := Option.some.inj H
        have p4 : 0 ≤ (x3_1 : Int) := of_decide_eq_true a3_
        have q4 : x3_1 < (a0.size : Int) := of_decide_eq_true a3_
        have hx4 := bt_at a0 x3_1
        replace p4 := eq_true p4
        replace q4 := eq_true q4
        have p12 : 0 ≤ (x3_1 : Int) := of_decide_eq_true a3_
        have q12 : x3_1 < (a0.size : Int) := of_decide_eq_true a3_
        have hx12 := bt_at a0 x3_1
        replace p12 := eq_true p12
        replace q12 := eq_true q12
        have p14 : 0 ≤ (x3_1 : Int) := of_decide_eq_true a3_
        have q14 : x3_1 < (a0.size : Int) := of_decide_eq_true a3_
        have hx14 := bt_at a0 x3_1
        replace p14 := eq_true p14
        replace q14 := eq_true q14
        go_wp2
        go_ret
        exact ⟨by first | rfl | (simp; done) | (simp [*]; done), by repeat (first | exact Drawn0.refl _ | apply Drawn0.step)⟩
      ·rw [if_neg c13] at H
       have c13b0 : decide (97 ≤ (bt a0 x3_1)) = false := decide_eq_false c13
       clear c13
       obtain rfl := Option.some.inj H
       have p4 : 0 ≤ (x3_1 : Int) := of_decide_eq_true a3_
       have q4 : x3_1 < (a0.size : Int) := of_decide_eq_true a3_
       have hx4 := bt_at a0 x3_1
       replace p4 := eq_true p4
       replace q4 := eq_true q4
       have p12 : 0 ≤ (x3_1 : Int) := of_decide_eq_true a3_
       have q12 : x3_1 < (a0.size : Int) := of_decide_eq_true a3_
       have hx12 := bt_at a0 x3_1
       replace p12 := eq_true p12
       replace q12 := eq_true q12
       go_wp2
       go_ret
       exact ⟨by first | rfl | (simp; done) | (simp [*]; done), by repeat (first | exact Drawn0.refl _ | apply Drawn0.step)⟩
    ·rw [if_neg c3] at H
     exact absurd H (by simp)
   ·rw [if_neg c2] at H
    have c2b0 := decide_eq_false c2
    clear c2
    replace H := Option.bind_eq_some_iff.mp H
    obtain ⟨t166, A160, H⟩ := H
    replace H : (some t166) = some r := H
    have A16 := Aside0.mk A160
    clear A160
    obtain rfl := Option.some.inj H
    go_wp2_with (first | ((with_reducible refine gate_callee (f := 18) rfl ?_); refine goesL_ (some 35) rfl rfl Tryd.func18 (by kernel_rfl) rfl #[.int .i64 (a0.size : Int), .int .i64 3, .int .i64 100] rfl a1_ ?_; (with_reducible refine (spec_Within.calls (a0.size : Int) 3 100 t166 _ A16.out).mono ?_); rintro e w' ⟨rfl, ⟨nd, rfl⟩⟩; refine ⟨_, rfl, ?_⟩))
    go_ret
    exact ⟨by first | rfl | (simp; done) | (simp [*]; done), by repeat (first | exact Drawn0.refl _ | apply Drawn0.step)⟩
def spec_Name.f (k : Nat) (a0 : ByteArray) : Option (ByteArray) := (spec_Named.f k a0).bind fun t167 => (if t167 = true then (some a0) else (if 1 + a0.size ≤ 9223372036854775807 then (if ((⟨#[60]⟩ : ByteArray) ++ a0).size + 1 ≤ 9223372036854775807 then (some (((⟨#[60]⟩ : ByteArray) ++ a0) ++ (⟨#[62]⟩ : ByteArray))) else (none)) else (none)))
set_option maxHeartbeats 8000000 in
set_option maxRecDepth 100000 in
theorem spec_Name.calls (k : Nat) (a0 : ByteArray) (r : ByteArray) (w : World) (h : spec_Name.f k a0 = some r) :
  Calls Tryd.prog 21 #[.string a0] w fun e w' => e = .returned (.string r) ∧ Drawn0 w w' := by
 have H : ((spec_Named.f k a0).bind fun t167 => (if t167 = true then (some a0) else (if 1 + a0.size ≤ 9223372036854775807 then (if ((⟨#[60]⟩ : ByteArray) ++ a0).size + 1 ≤ 9223372036854775807 then (some (((⟨#[60]⟩ : ByteArray) ++ a0) ++ (⟨#[62]⟩ : ByteArray))) else (none)) else (none)))) = some r := h
 clear h
 replace H := Option.bind_eq_some_iff.mp H
 obtain ⟨t167, A20, H⟩ := H
 replace H : (if t167 = true then (some a0) else (if 1 + a0.size ≤ 9223372036854775807 then (if ((⟨#[60]⟩ : ByteArray) ++ a0).size + 1 ≤ 9223372036854775807 then (some (((⟨#[60]⟩ : ByteArray) ++ a0) ++ (⟨#[62]⟩ : ByteArray))) else (none)) else (none))) = some r := H
 have A2 := Aside0.mk A20
 clear A20
 by_cases c3 : t167 = true
 ·subst c3
  have H1 : (some a0) = some r := by rw [if_pos rfl] at H; exact H
  clear H
  have H := H1
  clear H1
  obtain rfl := Option.some.inj H
  go_enter Tryd.func21, Tryd.ntmps21
  go_wp2_with (first | ((with_reducible refine gate_callee (f := 34) rfl ?_); refine goesL_ (some 4) rfl rfl Tryd.func34 (by kernel_rfl) rfl #[.string a0] rfl a1_ ?_; (with_reducible refine (spec_Named.calls k a0 true _ A2.out).mono ?_); rintro e w' ⟨rfl, ⟨nd, rfl⟩⟩; refine ⟨_, rfl, ?_⟩))
  go_ret
  exact ⟨by first | rfl | (simp; done) | (simp [*]; done), by repeat (first | exact Drawn0.refl _ | apply Drawn0.step)⟩
 ·replace c3 := Bool.eq_false_iff.mpr c3
  subst c3
  have H1 : (if 1 + a0.size ≤ 9223372036854775807 then (if ((⟨#[60]⟩ : ByteArray) ++ a0).size + 1 ≤ 9223372036854775807 then (some (((⟨#[60]⟩ : ByteArray) ++ a0) ++ (⟨#[62]⟩ : ByteArray))) else (none)) else (none)) = some r := by rw [if_neg (show ¬ (false = true) by decide)] at H; exact H
  clear H
  have H := H1
  clear H1
  by_cases c4 : 1 + a0.size ≤ 9223372036854775807
  ·rw [if_pos c4] at H
   have c4b0 := eq_true c4
   have c4b1 := decide_eq_true c4
   try have c4b2 := eq_false (Nat.not_lt.2 c4)
   by_cases c5 : ((⟨#[60]⟩ : ByteArray) ++ a0).size + 1 ≤ 9223372036854775807
   ·rw [if_pos c5] at H
    have c5b0 := eq_true c5
    have c5b1 := decide_eq_true c5
    try have c5b2 := eq_false (Nat.not_lt.2 c5)
    try (have c5b9 := c5b2; simp only [ByteArray.size_append, show (⟨#[60]⟩ : ByteArray).size = 1 from rfl] at c5b9)
    obtain rfl := Option.some.inj H
    go_enter Tryd.func21, Tryd.ntmps21
    go_wp2_with (first | ((with_reducible refine gate_callee (f := 34) rfl ?_); refine goesL_ (some 4) rfl rfl Tryd.func34 (by kernel_rfl) rfl #[.string a0] rfl a1_ ?_; (with_reducible refine (spec_Named.calls k a0 false _ A2.out).mono ?_); rintro e w' ⟨rfl, ⟨nd, rfl⟩⟩; refine ⟨_, rfl, ?_⟩))
    go_ret
    exact ⟨by first | rfl | (simp; done) | (simp [*]; done), by repeat (first | exact Drawn0.refl _ | apply Drawn0.step)⟩
   ·rw [if_neg c5] at H
    exact absurd H (by simp)
  ·rw [if_neg c4] at H
   exact absurd H (by simp)
def spec_Decimal.l0 : Nat → Int → ByteArray → Option (ByteArray)
 | 0, _, _ => none
 | k + 1, x0, x3 => if x0 > 0 then ((some (([(wrap64 (48 + (Int.tmod x0 10))) % 256] : List Int) : List Int)).bind fun y171 => (if (strOfNums y171).size + x3.size ≤ 9223372036854775807 then (spec_Decimal.l0 k (wrap64 (Int.tdiv x0 10)) ((strOfNums y171) ++ x3)) else (none))) else (some x3)
def spec_Decimal.f (k : Nat) (a0 : Int) : Option (ByteArray) := spec_Decimal.l0 k (wrap64 (Int.tdiv a0 10)) (strOfNums (([(wrap64 (48 + (Int.tmod a0 10))) % 256] : List Int)))
set_option maxHeartbeats 8000000 in
set_option maxRecDepth 100000 in
theorem spec_Decimal.calls (k : Nat) (a0 : Int) (r : ByteArray) (w : World) (h : spec_Decimal.f k a0 = some r) :
  Calls Tryd.prog 35 #[.int .i64 a0] w fun e w' => e = .returned (.string r) ∧ Below w.heap.size w w' := by
 have HB := Aside0.mk (Below.refl w.heap.size w)
 have H : (spec_Decimal.l0 k (wrap64 (Int.tdiv a0 10)) (strOfNums (([(wrap64 (48 + (Int.tmod a0 10))) % 256] : List Int)))) = some r := h
 clear h
 obtain ⟨y168, hy168⟩ : ∃ y_ : List Int, y_ = (([(wrap64 (48 + (Int.tmod a0 10))) % 256] : List Int)) := ⟨_, rfl⟩
 replace H : (spec_Decimal.l0 k (wrap64 (Int.tdiv a0 10)) (strOfNums y168)) = some r := by first | (rw [hy168]; with_reducible exact H) | (have H2_ := (Option.bind_some _ _).symm.trans H; rw [hy168]; with_reducible exact H2_) | (have H2_ := (Option.bind_some _ _).symm.trans H; with_reducible exact H2_) | with_reducible exact H | (rw [hy168]; exact H) | exact H
 have Ny168 := Aside0.mk hy168
 clear hy168
 have H' := Aside0.mk H
 clear H
 go_enter Tryd.func35, Tryd.ntmps35
 go_wp2_with (first | ((with_reducible refine gate_dst (N := 8) rfl ?_); refine Kd.R_lit (Kd.int .u8) _ 5 ?hg (N := 8) ?hd (xs := ([(wrap64 (48 + (Int.tmod a0 10))) % 256] : List Int)) (inner := [.int .u8 ((wrap64 (48 + (Int.tmod a0 10))) % 256)]) (ok := fun _ => True) (okp := fun _ => True) ?hr ?hp (fun _ hk => hk) trivial (Below.refl _ _) (Nat.le_refl _) (by simp) ?_; (case hd => rfl); (case hg => rfl); (case hr => first | (go_simp; done) | (go_simp; rfl)); (case hp => exact (Reps.one (show Kd.M (Kd.int .u8) _ _ _ ((wrap64 (48 + (Int.tmod a0 10))) % 256) [.int .u8 ((wrap64 (48 + (Int.tmod a0 10))) % 256)] from rfl) (Reps.none _ _))); intro v169 w2 ho3 hb hg_ hnew_; clear hg_ hnew_; (first | rw [← Ny168.out] at ho3 | (simp only [Int.reduceToNat] at ho3; rw [← Ny168.out] at ho3)); have n0_ := Aside0.mk (Kd.R_lower ho3 (below_size a0_)); have n1_ := Aside0.mk (below_step a0_ hb); clear HB; have HO170 := n0_; have HB := n1_; clear n0_ n1_; clear hb ho3; have hcv4 := own_string (P := Tryd.prog) Tryd.underlying62 Tryd.underlying5 Tryd.underlying9 (Kd.own_of_R HO170.out)))
 go_loopg [0, 3] k (fun kq v0 v3 w' => ∃ (x0_1 : Int) (x3_1 : ByteArray), v0 = .int .i64 x0_1 ∧ v3 = .string x3_1 ∧ Aside0 (spec_Decimal.l0 kq x0_1 x3_1 = some r) ∧ Aside0 (kq ≤ k) ∧ Aside0 (Below w.heap.size w w'))
 case atStart => exact ⟨(wrap64 (Int.tdiv a0 10)), (strOfNums y168), a5_, a5_, H', ⟨Nat.le_refl _⟩, ⟨by repeat (first | (with_reducible first | exact HB.out | apply below_alloc | apply pw_below_drewN | apply below_drew1) | exact HB.out)⟩⟩
 case round =>
  clear H'
  try clear p2
  try clear c3
  try clear hcv4
  obtain ⟨x0_1, x3_1, rfl, rfl, HA, HK1, HB⟩ := hrel
  cases gk with
  | zero => exact absurd HA.out (by simp [spec_Decimal.l0])
  | succ k1 =>
   have H := HA.out
   clear HA
   simp only [spec_Decimal.l0] at H
   by_cases c5 : x0_1 > 0
   ·rw [if_pos c5] at H
    have c5b0 : decide (0 < x0_1) = true := decide_eq_true c5
    clear c5
    obtain ⟨y171, hy171⟩ : ∃ y_ : List Int, y_ = (([(wrap64 (48 + (Int.tmod x0_1 10))) % 256] : List Int)) := ⟨_, rfl⟩
    replace H : (if (strOfNums y171).size + x3_1.size ≤ 9223372036854775807 then (spec_Decimal.l0 k1 (wrap64 (Int.tdiv x0_1 10)) ((strOfNums y171) ++ x3_1)) else (none)) = some r := by first | (rw [hy171]; with_reducible exact H) | (have H2_ := (Option.bind_some _ _).symm.trans H; rw [hy171]; with_reducible exact H2_) | (have H2_ := (Option.bind_some _ _).symm.trans H; with_reducible exact H2_) | with_reducible exact H | (rw [hy171]; exact H) | exact H
    have Ny171 := Aside0.mk hy171
    clear hy171
    by_cases c6 : (strOfNums y171).size + x3_1.size ≤ 9223372036854775807
    ·rw [if_pos c6] at H
     have c6b0 := eq_true c6
     have c6b1 := decide_eq_true c6
     try have c6b2 := eq_false (Nat.not_lt.2 c6)
     have H' := Aside0.mk H
     clear H
     go_wp2_with (first | ((with_reducible refine gate_dst (N := 20) rfl ?_); refine Kd.R_lit (Kd.int .u8) _ 5 ?hg (N := 20) ?hd (xs := ([(wrap64 (48 + (Int.tmod x0_1 10))) % 256] : List Int)) (inner := [.int .u8 ((wrap64 (48 + (Int.tmod x0_1 10))) % 256)]) (ok := fun _ => True) (okp := fun _ => True) ?hr ?hp (fun _ hk => hk) trivial (Below.refl _ _) (Nat.le_refl _) (by simp) ?_; (case hd => rfl); (case hg => rfl); (case hr => first | (go_simp; done) | (go_simp; rfl)); (case hp => exact (Reps.one (show Kd.M (Kd.int .u8) _ _ _ ((wrap64 (48 + (Int.tmod x0_1 10))) % 256) [.int .u8 ((wrap64 (48 + (Int.tmod x0_1 10))) % 256)] from rfl) (Reps.none _ _))); intro v172 w7 ho8 hb hg_ hnew_; clear hg_ hnew_; (first | rw [← Ny171.out] at ho8 | (simp only [Int.reduceToNat] at ho8; rw [← Ny171.out] at ho8)); have n0_ := Aside0.mk (Kd.R_lower ho8 (below_size a0_)); have n1_ := Aside0.mk (below_step a0_ hb); clear HB; have HO173 := n0_; have HB := n1_; clear n0_ n1_; clear hb ho8; have hcv9 := own_string (P := Tryd.prog) Tryd.underlying62 Tryd.underlying5 Tryd.underlying9 (Kd.own_of_R HO173.out)))
     go_roundg k1
     case measure => have := HK1.out; omega
     case rel => exact ⟨(wrap64 (Int.tdiv x0_1 10)), ((strOfNums y171) ++ x3_1), a5_, a5_, H', ⟨by have := HK1.out; omega⟩, ⟨by repeat (first | (with_reducible first | exact HB.out | apply below_alloc | apply pw_below_drewN | apply below_drew1) | exact HB.out)⟩⟩
    ·rw [if_neg c6] at H
     exact absurd H (by simp)
   ·rw [if_neg c5] at H
    have c5b0 : decide (0 < x0_1) = false := decide_eq_false c5
    clear c5
    obtain rfl := Option.some.inj H
    go_wp2
    go_ret
    exact ⟨by first | rfl | (simp [errW_none, errW_some] <;> rfl) | (simp [*, errW_none, errW_some] <;> rfl), by repeat (first | (with_reducible first | exact HB.out | apply below_alloc | apply pw_below_drewN | apply below_drew1) | exact HB.out)⟩
def spec_two.f (a0 : Int) : Option (ByteArray) := some (strOfNums (([(wrap64 (48 + (wrap64 (Int.tdiv a0 10)))) % 256, (wrap64 (48 + (Int.tmod a0 10))) % 256] : List Int)))
set_option maxHeartbeats 8000000 in
set_option maxRecDepth 100000 in
theorem spec_two.calls (a0 : Int) (r : ByteArray) (w : World) (h : spec_two.f a0 = some r) :
  Calls Tryd.prog 36 #[.int .i64 a0] w fun e w' => e = .returned (.string r) ∧ Below w.heap.size w w' := by
 have HB := Aside0.mk (Below.refl w.heap.size w)
 have H : (some (strOfNums (([(wrap64 (48 + (wrap64 (Int.tdiv a0 10)))) % 256, (wrap64 (48 + (Int.tmod a0 10))) % 256] : List Int)))) = some r := h
 clear h
 obtain ⟨y174, hy174⟩ : ∃ y_ : List Int, y_ = (([(wrap64 (48 + (wrap64 (Int.tdiv a0 10)))) % 256, (wrap64 (48 + (Int.tmod a0 10))) % 256] : List Int)) := ⟨_, rfl⟩
 replace H : (some (strOfNums y174)) = some r := by first | (rw [hy174]; with_reducible exact H) | (have H2_ := (Option.bind_some _ _).symm.trans H; rw [hy174]; with_reducible exact H2_) | (have H2_ := (Option.bind_some _ _).symm.trans H; with_reducible exact H2_) | with_reducible exact H | (rw [hy174]; exact H) | exact H
 have Ny174 := Aside0.mk hy174
 clear hy174
 obtain rfl := Option.some.inj H
 go_enter Tryd.func36, Tryd.ntmps36
 go_wp2_with (first | ((with_reducible refine gate_dst (N := 11) rfl ?_); refine Kd.R_lit (Kd.int .u8) _ 5 ?hg (N := 11) ?hd (xs := ([(wrap64 (48 + (wrap64 (Int.tdiv a0 10)))) % 256, (wrap64 (48 + (Int.tmod a0 10))) % 256] : List Int)) (inner := [.int .u8 ((wrap64 (48 + (wrap64 (Int.tdiv a0 10)))) % 256), .int .u8 ((wrap64 (48 + (Int.tmod a0 10))) % 256)]) (ok := fun _ => True) (okp := fun _ => True) ?hr ?hp (fun _ hk => hk) trivial (Below.refl _ _) (Nat.le_refl _) (by simp) ?_; (case hd => rfl); (case hg => rfl); (case hr => first | (go_simp; done) | (go_simp; rfl)); (case hp => exact (Reps.one (show Kd.M (Kd.int .u8) _ _ _ ((wrap64 (48 + (wrap64 (Int.tdiv a0 10)))) % 256) [.int .u8 ((wrap64 (48 + (wrap64 (Int.tdiv a0 10)))) % 256)] from rfl) (Reps.one (show Kd.M (Kd.int .u8) _ _ _ ((wrap64 (48 + (Int.tmod a0 10))) % 256) [.int .u8 ((wrap64 (48 + (Int.tmod a0 10))) % 256)] from rfl) (Reps.none _ _)))); intro v175 w2 ho3 hb hg_ hnew_; clear hg_ hnew_; (first | rw [← Ny174.out] at ho3 | (simp only [Int.reduceToNat] at ho3; rw [← Ny174.out] at ho3)); have n0_ := Aside0.mk (Kd.R_lower ho3 (below_size a0_)); have n1_ := Aside0.mk (below_step a0_ hb); clear HB; have HO176 := n0_; have HB := n1_; clear n0_ n1_; clear hb ho3; have hcv4 := own_string (P := Tryd.prog) Tryd.underlying62 Tryd.underlying5 Tryd.underlying9 (Kd.own_of_R HO176.out)))
 go_ret
 exact ⟨by first | rfl | (simp [errW_none, errW_some] <;> rfl) | (simp [*, errW_none, errW_some] <;> rfl), by repeat (first | (with_reducible first | exact HB.out | apply below_alloc | apply pw_below_drewN | apply below_drew1) | exact HB.out)⟩
mutual
def spec_Clock.j0 : Nat → Int → Bool → ByteArray → Option (ByteArray)
 | 0, _, _, _ => none
 | k + 1, x0, x1, x5 => (spec_Decimal.f k (wrap64 (Int.tdiv x0 3600))).bind fun t177 => (if x5.size + t177.size ≤ 9223372036854775807 then (if x1 = true then (spec_Clock.j1 k x0 x1 (x5 ++ t177) true) else (spec_Clock.j1 k x0 x1 (x5 ++ t177) ((Int.tmod x0 3600) != 0))) else (none))
def spec_Clock.j1 : Nat → Int → Bool → ByteArray → Bool → Option (ByteArray)
 | 0, _, _, _, _ => none
 | k + 1, x0, x1, x5, x20 => if x20 = true then ((spec_two.f (Int.tmod (wrap64 (Int.tdiv x0 60)) 60)).bind fun t178 => (if 1 + t178.size ≤ 9223372036854775807 then (if x5.size + ((⟨#[58]⟩ : ByteArray) ++ t178).size ≤ 9223372036854775807 then (if x1 = true then ((spec_two.f (Int.tmod x0 60)).bind fun t179 => (if 1 + t179.size ≤ 9223372036854775807 then (if (x5 ++ ((⟨#[58]⟩ : ByteArray) ++ t178)).size + ((⟨#[58]⟩ : ByteArray) ++ t179).size ≤ 9223372036854775807 then (some ((x5 ++ ((⟨#[58]⟩ : ByteArray) ++ t178)) ++ ((⟨#[58]⟩ : ByteArray) ++ t179))) else (none)) else (none))) else (if (Int.tmod x0 60) = 0 then (some (x5 ++ ((⟨#[58]⟩ : ByteArray) ++ t178))) else ((spec_two.f (Int.tmod x0 60)).bind fun t180 => (if 1 + t180.size ≤ 9223372036854775807 then (if (x5 ++ ((⟨#[58]⟩ : ByteArray) ++ t178)).size + ((⟨#[58]⟩ : ByteArray) ++ t180).size ≤ 9223372036854775807 then (some ((x5 ++ ((⟨#[58]⟩ : ByteArray) ++ t178)) ++ ((⟨#[58]⟩ : ByteArray) ++ t180))) else (none)) else (none))))) else (none)) else (none))) else (if x1 = true then ((spec_two.f (Int.tmod x0 60)).bind fun t181 => (if 1 + t181.size ≤ 9223372036854775807 then (if x5.size + ((⟨#[58]⟩ : ByteArray) ++ t181).size ≤ 9223372036854775807 then (some (x5 ++ ((⟨#[58]⟩ : ByteArray) ++ t181))) else (none)) else (none))) else (if (Int.tmod x0 60) = 0 then (some x5) else ((spec_two.f (Int.tmod x0 60)).bind fun t182 => (if 1 + t182.size ≤ 9223372036854775807 then (if x5.size + ((⟨#[58]⟩ : ByteArray) ++ t182).size ≤ 9223372036854775807 then (some (x5 ++ ((⟨#[58]⟩ : ByteArray) ++ t182))) else (none)) else (none)))))
end
def spec_Clock.f (k : Nat) (a0 : Int) (a1 : Bool) : Option (ByteArray) := if a0 < 0 then (spec_Clock.j0 k (wrap64 (-a0)) a1 (⟨#[45]⟩ : ByteArray)) else (spec_Clock.j0 k a0 a1 (⟨#[]⟩ : ByteArray))
set_option maxHeartbeats 8000000 in
set_option maxRecDepth 100000 in
theorem spec_Clock.calls (k : Nat) (a0 : Int) (a1 : Bool) (r : ByteArray) (w : World) (h : spec_Clock.f k a0 a1 = some r) :
  Calls Tryd.prog 22 #[.int .i64 a0, .bool a1] w fun e w' => e = .returned (.string r) ∧ Below w.heap.size w w' := by
 have HB := Aside0.mk (Below.refl w.heap.size w)
 have H : (if a0 < 0 then (spec_Clock.j0 k (wrap64 (-a0)) a1 (⟨#[45]⟩ : ByteArray)) else (spec_Clock.j0 k a0 a1 (⟨#[]⟩ : ByteArray))) = some r := h
 clear h
 have HC3 := Aside0.mk H
 clear H
 go_enter Tryd.func22, Tryd.ntmps22
 go_upto_if 7 with (fail)
 go_cut [0, 5] (fun v0 v5 wc => ∃ (kq : Nat) (x0_2 : Int) (x5_2 : ByteArray), v0 = .int .i64 x0_2 ∧ v5 = .string x5_2 ∧ Aside0 (spec_Clock.j0 kq x0_2 a1 x5_2 = some r) ∧ Aside0 (kq ≤ k) ∧ Aside0 (Below w.heap.size w wc))
 case first =>
  have H := HC3.out
  clear HC3
  by_cases c4 : a0 < 0
  ·rw [if_pos c4] at H
   have c4b0 := decide_eq_true c4
   clear c4
   (first | rw [c4b0] | (simp only [i64_w, i32_w]; rw [c4b0]) | skip)
   have H' := Aside0.mk H
   clear H
   go_wp2
   go_meet
   case rel => exact ⟨_, (wrap64 (-a0)), ((⟨#[45]⟩ : ByteArray)), a5_, a5_, H', ⟨by first | omega | exact Nat.le_refl _⟩, ⟨by repeat (first | (with_reducible first | exact HB.out | apply below_alloc | apply pw_below_drewN | apply below_drew1) | exact HB.out)⟩⟩
  ·rw [if_neg c4] at H
   have c4b0 := decide_eq_false c4
   clear c4
   (first | rw [c4b0] | (simp only [i64_w, i32_w]; rw [c4b0]) | skip)
   have H' := Aside0.mk H
   clear H
   go_wp2
   go_meet
   case rel => exact ⟨_, (a0), ((⟨#[]⟩ : ByteArray)), a5_, a5_, H', ⟨by first | omega | exact Nat.le_refl _⟩, ⟨by repeat (first | (with_reducible first | exact HB.out | apply below_alloc | apply pw_below_drewN | apply below_drew1) | exact HB.out)⟩⟩
 case rest =>
  clear HC3
  try clear c2
  try clear p2
  try clear c4
  try clear c4b0
  obtain ⟨kq, x0_2, x5_2, rfl, rfl, HA, HJ2, HB⟩ := hcut
  cases kq with
  | zero => exact absurd HA.out (by simp [spec_Clock.j0])
  | succ kj2 =>
   have H := HA.out
   clear HA
   simp only [spec_Clock.j0] at H
   replace H := Option.bind_eq_some_iff.mp H
   obtain ⟨t177, A50, H⟩ := H
   replace H : (if x5_2.size + t177.size ≤ 9223372036854775807 then (if a1 = true then (spec_Clock.j1 kj2 x0_2 a1 (x5_2 ++ t177) true) else (spec_Clock.j1 kj2 x0_2 a1 (x5_2 ++ t177) ((Int.tmod x0_2 3600) != 0))) else (none)) = some r := H
   have A5 := Aside0.mk A50
   clear A50
   by_cases c6 : x5_2.size + t177.size ≤ 9223372036854775807
   ·rw [if_pos c6] at H
    have c6b0 := eq_true c6
    have c6b1 := decide_eq_true c6
    try have c6b2 := eq_false (Nat.not_lt.2 c6)
    have HC7 := Aside0.mk H
    clear H
    go_upto_region 5 with (first | ((with_reducible refine gate_callee (f := 35) rfl ?_); refine goesL_ (some 13) rfl rfl Tryd.func35 (by kernel_rfl) rfl #[.int .i64 (wrap64 (Int.tdiv x0_2 3600))] rfl a1_ ?_; (with_reducible refine (spec_Decimal.calls kj2 (wrap64 (Int.tdiv x0_2 3600)) t177 _ A5.out).mono ?_); rintro e w8 ⟨rfl, hb⟩; refine ⟨_, rfl, ?_⟩; have n0_ := Aside0.mk (below_step a0_ hb); clear HB; have HB := n0_; clear n0_; (try clear hb); (try clear hb2); (try clear hk); (try clear hi)))
    (try simp only [Act.put, List.setIfInBounds_toArray, List.set_cons_zero, List.set_cons_succ])
    go_cut [20] (fun v20 wc => ∃ (kq : Nat) (x20_6 : Bool), v20 = .bool x20_6 ∧ Aside0 (spec_Clock.j1 kq x0_2 a1 (x5_2 ++ t177) x20_6 = some r) ∧ Aside0 (kq ≤ kj2) ∧ Aside0 (Below w.heap.size w wc))
    case first =>
     have H := HC7.out
     clear HC7
     by_cases c9 : a1 = true
     ·subst c9
      have H1 : (spec_Clock.j1 kj2 x0_2 true (x5_2 ++ t177) true) = some r := by rw [if_pos rfl] at H; exact H
      clear H
      have H := H1
      clear H1
      have H' := Aside0.mk H
      clear H
      go_wp2
      go_meet
      case rel => exact ⟨_, (true), a5_, H', ⟨by have := HJ2.out; first | omega | exact Nat.le_refl _⟩, ⟨by repeat (first | (with_reducible first | exact HB.out | apply below_alloc | apply pw_below_drewN | apply below_drew1) | exact HB.out)⟩⟩
     ·replace c9 := Bool.eq_false_iff.mpr c9
      subst c9
      have H1 : (spec_Clock.j1 kj2 x0_2 false (x5_2 ++ t177) ((Int.tmod x0_2 3600) != 0)) = some r := by rw [if_neg (show ¬ (false = true) by decide)] at H; exact H
      clear H
      have H := H1
      clear H1
      have H' := Aside0.mk H
      clear H
      go_wp2
      go_meet
      case rel => exact ⟨_, (((Int.tmod x0_2 3600) != 0)), a5_, H', ⟨by have := HJ2.out; first | omega | exact Nat.le_refl _⟩, ⟨by repeat (first | (with_reducible first | exact HB.out | apply below_alloc | apply pw_below_drewN | apply below_drew1) | exact HB.out)⟩⟩
    case rest =>
     clear HC7
     try clear c2
     try clear p2
     try clear c3
     try clear c4
     try clear c4b0
     try clear c6
     try clear c6b0
     try clear c6b1
     try clear c6b2
     try clear p6
     try clear c9
     try clear p2
     obtain ⟨kq, x20_6, rfl, HA, HJ6, HB⟩ := hcut
     cases kq with
     | zero => exact absurd HA.out (by simp [spec_Clock.j1])
     | succ kj6 =>
      have H := HA.out
      clear HA
      simp only [spec_Clock.j1] at H
      by_cases c10 : x20_6 = true
      ·subst c10
       have H1 : ((spec_two.f (Int.tmod (wrap64 (Int.tdiv x0_2 60)) 60)).bind fun t178 => (if 1 + t178.size ≤ 9223372036854775807 then (if (x5_2 ++ t177).size + ((⟨#[58]⟩ : ByteArray) ++ t178).size ≤ 9223372036854775807 then (if a1 = true then ((spec_two.f (Int.tmod x0_2 60)).bind fun t179 => (if 1 + t179.size ≤ 9223372036854775807 then (if ((x5_2 ++ t177) ++ ((⟨#[58]⟩ : ByteArray) ++ t178)).size + ((⟨#[58]⟩ : ByteArray) ++ t179).size ≤ 9223372036854775807 then (some (((x5_2 ++ t177) ++ ((⟨#[58]⟩ : ByteArray) ++ t178)) ++ ((⟨#[58]⟩ : ByteArray) ++ t179))) else (none)) else (none))) else (if (Int.tmod x0_2 60) = 0 then (some ((x5_2 ++ t177) ++ ((⟨#[58]⟩ : ByteArray) ++ t178))) else ((spec_two.f (Int.tmod x0_2 60)).bind fun t180 => (if 1 + t180.size ≤ 9223372036854775807 then (if ((x5_2 ++ t177) ++ ((⟨#[58]⟩ : ByteArray) ++ t178)).size + ((⟨#[58]⟩ : ByteArray) ++ t180).size ≤ 9223372036854775807 then (some (((x5_2 ++ t177) ++ ((⟨#[58]⟩ : ByteArray) ++ t178)) ++ ((⟨#[58]⟩ : ByteArray) ++ t180))) else (none)) else (none))))) else (none)) else (none))) = some r := by rw [if_pos rfl] at H; exact H
       clear H
       have H := H1
       clear H1
       replace H := Option.bind_eq_some_iff.mp H
       obtain ⟨t178, A110, H⟩ := H
       replace H : (if 1 + t178.size ≤ 9223372036854775807 then (if (x5_2 ++ t177).size + ((⟨#[58]⟩ : ByteArray) ++ t178).size ≤ 9223372036854775807 then (if a1 = true then ((spec_two.f (Int.tmod x0_2 60)).bind fun t179 => (if 1 + t179.size ≤ 9223372036854775807 then (if ((x5_2 ++ t177) ++ ((⟨#[58]⟩ : ByteArray) ++ t178)).size + ((⟨#[58]⟩ : ByteArray) ++ t179).size ≤ 9223372036854775807 then (some (((x5_2 ++ t177) ++ ((⟨#[58]⟩ : ByteArray) ++ t178)) ++ ((⟨#[58]⟩ : ByteArray) ++ t179))) else (none)) else (none))) else (if (Int.tmod x0_2 60) = 0 then (some ((x5_2 ++ t177) ++ ((⟨#[58]⟩ : ByteArray) ++ t178))) else ((spec_two.f (Int.tmod x0_2 60)).bind fun t180 => (if 1 + t180.size ≤ 9223372036854775807 then (if ((x5_2 ++ t177) ++ ((⟨#[58]⟩ : ByteArray) ++ t178)).size + ((⟨#[58]⟩ : ByteArray) ++ t180).size ≤ 9223372036854775807 then (some (((x5_2 ++ t177) ++ ((⟨#[58]⟩ : ByteArray) ++ t178)) ++ ((⟨#[58]⟩ : ByteArray) ++ t180))) else (none)) else (none))))) else (none)) else (none)) = some r := H
       have A11 := Aside0.mk A110
       clear A110
       by_cases c12 : 1 + t178.size ≤ 9223372036854775807
       ·rw [if_pos c12] at H
        have c12b0 := eq_true c12
        have c12b1 := decide_eq_true c12
        try have c12b2 := eq_false (Nat.not_lt.2 c12)
        by_cases c13 : (x5_2 ++ t177).size + ((⟨#[58]⟩ : ByteArray) ++ t178).size ≤ 9223372036854775807
        ·rw [if_pos c13] at H
         have c13b0 := eq_true c13
         have c13b1 := decide_eq_true c13
         try have c13b2 := eq_false (Nat.not_lt.2 c13)
         try (have c13b9 := c13b2; simp only [ByteArray.size_append, show (⟨#[58]⟩ : ByteArray).size = 1 from rfl] at c13b9)
         by_cases c14 : a1 = true
         ·subst c14
          have H1 : ((spec_two.f (Int.tmod x0_2 60)).bind fun t179 => (if 1 + t179.size ≤ 9223372036854775807 then (if ((x5_2 ++ t177) ++ ((⟨#[58]⟩ : ByteArray) ++ t178)).size + ((⟨#[58]⟩ : ByteArray) ++ t179).size ≤ 9223372036854775807 then (some (((x5_2 ++ t177) ++ ((⟨#[58]⟩ : ByteArray) ++ t178)) ++ ((⟨#[58]⟩ : ByteArray) ++ t179))) else (none)) else (none))) = some r := by rw [if_pos rfl] at H; exact H
          clear H
          have H := H1
          clear H1
          replace H := Option.bind_eq_some_iff.mp H
          obtain ⟨t179, A150, H⟩ := H
          replace H : (if 1 + t179.size ≤ 9223372036854775807 then (if ((x5_2 ++ t177) ++ ((⟨#[58]⟩ : ByteArray) ++ t178)).size + ((⟨#[58]⟩ : ByteArray) ++ t179).size ≤ 9223372036854775807 then (some (((x5_2 ++ t177) ++ ((⟨#[58]⟩ : ByteArray) ++ t178)) ++ ((⟨#[58]⟩ : ByteArray) ++ t179))) else (none)) else (none)) = some r := H
          have A15 := Aside0.mk A150
          clear A150
          by_cases c16 : 1 + t179.size ≤ 9223372036854775807
          ·rw [if_pos c16] at H
           have c16b0 := eq_true c16
           have c16b1 := decide_eq_true c16
           try have c16b2 := eq_false (Nat.not_lt.2 c16)
           by_cases c17 : ((x5_2 ++ t177) ++ ((⟨#[58]⟩ : ByteArray) ++ t178)).size + ((⟨#[58]⟩ : ByteArray) ++ t179).size ≤ 9223372036854775807
           ·rw [if_pos c17] at H
            have c17b0 := eq_true c17
            have c17b1 := decide_eq_true c17
            try have c17b2 := eq_false (Nat.not_lt.2 c17)
            try (have c17b9 := c17b2; simp only [ByteArray.size_append, show (⟨#[58]⟩ : ByteArray).size = 1 from rfl] at c17b9)
            obtain rfl := Option.some.inj H
            go_wp2_with (first | ((with_reducible refine gate_callee (f := 36) rfl ?_); refine goesL_ (some 25) rfl rfl Tryd.func36 (by kernel_rfl) rfl #[.int .i64 (Int.tmod (wrap64 (Int.tdiv x0_2 60)) 60)] rfl a1_ ?_; (with_reducible refine (spec_two.calls (Int.tmod (wrap64 (Int.tdiv x0_2 60)) 60) t178 _ A11.out).mono ?_); rintro e w18 ⟨rfl, hb⟩; refine ⟨_, rfl, ?_⟩; have n0_ := Aside0.mk (below_step a0_ hb); clear HB; have HB := n0_; clear n0_; (try clear hb); (try clear hb2); (try clear hk); (try clear hi)) | ((with_reducible refine gate_callee (f := 36) rfl ?_); refine goesL_ (some 37) rfl rfl Tryd.func36 (by kernel_rfl) rfl #[.int .i64 (Int.tmod x0_2 60)] rfl a1_ ?_; (with_reducible refine (spec_two.calls (Int.tmod x0_2 60) t179 _ A15.out).mono ?_); rintro e w19 ⟨rfl, hb⟩; refine ⟨_, rfl, ?_⟩; have n0_ := Aside0.mk (below_step a0_ hb); clear HB; have HB := n0_; clear n0_; (try clear hb); (try clear hb2); (try clear hk); (try clear hi)))
            go_ret
            exact ⟨by first | rfl | (simp [errW_none, errW_some] <;> rfl) | (simp [*, errW_none, errW_some] <;> rfl), by repeat (first | (with_reducible first | exact HB.out | apply below_alloc | apply pw_below_drewN | apply below_drew1) | exact HB.out)⟩
           ·rw [if_neg c17] at H
            exact absurd H (by simp)
          ·rw [if_neg c16] at H
           exact absurd H (by simp)
         ·replace c14 := Bool.eq_false_iff.mpr c14
          subst c14
          have H1 : (if (Int.tmod x0_2 60) = 0 then (some ((x5_2 ++ t177) ++ ((⟨#[58]⟩ : ByteArray) ++ t178))) else ((spec_two.f (Int.tmod x0_2 60)).bind fun t180 => (if 1 + t180.size ≤ 9223372036854775807 then (if ((x5_2 ++ t177) ++ ((⟨#[58]⟩ : ByteArray) ++ t178)).size + ((⟨#[58]⟩ : ByteArray) ++ t180).size ≤ 9223372036854775807 then (some (((x5_2 ++ t177) ++ ((⟨#[58]⟩ : ByteArray) ++ t178)) ++ ((⟨#[58]⟩ : ByteArray) ++ t180))) else (none)) else (none)))) = some r := by rw [if_neg (show ¬ (false = true) by decide)] at H; exact H
          clear H
          have H := H1
          clear H1
          by_cases c20 : (Int.tmod x0_2 60) = 0
          ·rw [if_pos c20] at H
           have c20b0 : ((Int.tmod x0_2 60) == 0) = true := beq_iff_eq.mpr c20
           have c20b1 : ((Int.tmod x0_2 60) != 0) = false := bne_eq_false_iff_eq.mpr c20
           clear c20
           obtain rfl := Option.some.inj H
           go_wp2_with (first | ((with_reducible refine gate_callee (f := 36) rfl ?_); refine goesL_ (some 25) rfl rfl Tryd.func36 (by kernel_rfl) rfl #[.int .i64 (Int.tmod (wrap64 (Int.tdiv x0_2 60)) 60)] rfl a1_ ?_; (with_reducible refine (spec_two.calls (Int.tmod (wrap64 (Int.tdiv x0_2 60)) 60) t178 _ A11.out).mono ?_); rintro e w21 ⟨rfl, hb⟩; refine ⟨_, rfl, ?_⟩; have n0_ := Aside0.mk (below_step a0_ hb); clear HB; have HB := n0_; clear n0_; (try clear hb); (try clear hb2); (try clear hk); (try clear hi)))
           go_ret
           exact ⟨by first | rfl | (simp [errW_none, errW_some] <;> rfl) | (simp [*, errW_none, errW_some] <;> rfl), by repeat (first | (with_reducible first | exact HB.out | apply below_alloc | apply pw_below_drewN | apply below_drew1) | exact HB.out)⟩
          ·rw [if_neg c20] at H
           have c20b0 : ((Int.tmod x0_2 60) == 0) = false := beq_eq_false_iff_ne.mpr c20
           have c20b1 : ((Int.tmod x0_2 60) != 0) = true := bne_iff_ne.mpr c20
           replace H := Option.bind_eq_some_iff.mp H
           obtain ⟨t180, A220, H⟩ := H
           replace H : (if 1 + t180.size ≤ 9223372036854775807 then (if ((x5_2 ++ t177) ++ ((⟨#[58]⟩ : ByteArray) ++ t178)).size + ((⟨#[58]⟩ : ByteArray) ++ t180).size ≤ 9223372036854775807 then (some (((x5_2 ++ t177) ++ ((⟨#[58]⟩ : ByteArray) ++ t178)) ++ ((⟨#[58]⟩ : ByteArray) ++ t180))) else (none)) else (none)) = some r := H
           have A22 := Aside0.mk A220
           clear A220
           by_cases c23 : 1 + t180.size ≤ 9223372036854775807
           ·rw [if_pos c23] at H
            have c23b0 := eq_true c23
            have c23b1 := decide_eq_true c23
            try have c23b2 := eq_false (Nat.not_lt.2 c23)
            by_cases c24 : ((x5_2 ++ t177) ++ ((⟨#[58]⟩ : ByteArray) ++ t178)).size + ((⟨#[58]⟩ : ByteArray) ++ t180).size ≤ 9223372036854775807
            ·rw [if_pos c24] at H
             have c24b0 := eq_true c24
             have c24b1 := decide_eq_true c24
             try have c24b2 := eq_false (Nat.not_lt.2 c24)
             try (have c24b9 := c24b2; simp only [ByteArray.size_append, show (⟨#[58]⟩ : ByteArray).size = 1 from rfl] at c24b9)
             obtain rfl := Option.some.inj H
             go_wp2_with (first | ((with_reducible refine gate_callee (f := 36) rfl ?_); refine goesL_ (some 25) rfl rfl Tryd.func36 (by kernel_rfl) rfl #[.int .i64 (Int.tmod (wrap64 (Int.tdiv x0_2 60)) 60)] rfl a1_ ?_; (with_reducible refine (spec_two.calls (Int.tmod (wrap64 (Int.tdiv x0_2 60)) 60) t178 _ A11.out).mono ?_); rintro e w25 ⟨rfl, hb⟩; refine ⟨_, rfl, ?_⟩; have n0_ := Aside0.mk (below_step a0_ hb); clear HB; have HB := n0_; clear n0_; (try clear hb); (try clear hb2); (try clear hk); (try clear hi)) | ((with_reducible refine gate_callee (f := 36) rfl ?_); refine goesL_ (some 37) rfl rfl Tryd.func36 (by kernel_rfl) rfl #[.int .i64 (Int.tmod x0_2 60)] rfl a1_ ?_; (with_reducible refine (spec_two.calls (Int.tmod x0_2 60) t180 _ A22.out).mono ?_); rintro e w26 ⟨rfl, hb⟩; refine ⟨_, rfl, ?_⟩; have n0_ := Aside0.mk (below_step a0_ hb); clear HB; have HB := n0_; clear n0_; (try clear hb); (try clear hb2); (try clear hk); (try clear hi)))
             go_ret
             exact ⟨by first | rfl | (simp [errW_none, errW_some] <;> rfl) | (simp [*, errW_none, errW_some] <;> rfl), by repeat (first | (with_reducible first | exact HB.out | apply below_alloc | apply pw_below_drewN | apply below_drew1) | exact HB.out)⟩
            ·rw [if_neg c24] at H
             exact absurd H (by simp)
           ·rw [if_neg c23] at H
            exact absurd H (by simp)
        ·rw [if_neg c13] at H
         exact absurd H (by simp)
       ·rw [if_neg c12] at H
        exact absurd H (by simp)
      ·replace c10 := Bool.eq_false_iff.mpr c10
       subst c10
       have H1 : (if a1 = true then ((spec_two.f (Int.tmod x0_2 60)).bind fun t181 => (if 1 + t181.size ≤ 9223372036854775807 then (if (x5_2 ++ t177).size + ((⟨#[58]⟩ : ByteArray) ++ t181).size ≤ 9223372036854775807 then (some ((x5_2 ++ t177) ++ ((⟨#[58]⟩ : ByteArray) ++ t181))) else (none)) else (none))) else (if (Int.tmod x0_2 60) = 0 then (some (x5_2 ++ t177)) else ((spec_two.f (Int.tmod x0_2 60)).bind fun t182 => (if 1 + t182.size ≤ 9223372036854775807 then (if (x5_2 ++ t177).size + ((⟨#[58]⟩ : ByteArray) ++ t182).size ≤ 9223372036854775807 then (some ((x5_2 ++ t177) ++ ((⟨#[58]⟩ : ByteArray) ++ t182))) else (none)) else (none))))) = some r := by rw [if_neg (show ¬ (false = true) by decide)] at H; exact H
       clear H
       have H := H1
       clear H1
       by_cases c27 : a1 = true
       ·subst c27
        have H1 : ((spec_two.f (Int.tmod x0_2 60)).bind fun t181 => (if 1 + t181.size ≤ 9223372036854775807 then (if (x5_2 ++ t177).size + ((⟨#[58]⟩ : ByteArray) ++ t181).size ≤ 9223372036854775807 then (some ((x5_2 ++ t177) ++ ((⟨#[58]⟩ : ByteArray) ++ t181))) else (none)) else (none))) = some r := by rw [if_pos rfl] at H; exact H
        clear H
        have H := H1
        clear H1
        replace H := Option.bind_eq_some_iff.mp H
        obtain ⟨t181, A280, H⟩ := H
        replace H : (if 1 + t181.size ≤ 9223372036854775807 then (if (x5_2 ++ t177).size + ((⟨#[58]⟩ : ByteArray) ++ t181).size ≤ 9223372036854775807 then (some ((x5_2 ++ t177) ++ ((⟨#[58]⟩ : ByteArray) ++ t181))) else (none)) else (none)) = some r := H
        have A28 := Aside0.mk A280
        clear A280
        by_cases c29 : 1 + t181.size ≤ 9223372036854775807
        ·rw [if_pos c29] at H
         have c29b0 := eq_true c29
         have c29b1 := decide_eq_true c29
         try have c29b2 := eq_false (Nat.not_lt.2 c29)
         by_cases c30 : (x5_2 ++ t177).size + ((⟨#[58]⟩ : ByteArray) ++ t181).size ≤ 9223372036854775807
         ·rw [if_pos c30] at H
          have c30b0 := eq_true c30
          have c30b1 := decide_eq_true c30
          try have c30b2 := eq_false (Nat.not_lt.2 c30)
          try (have c30b9 := c30b2; simp only [ByteArray.size_append, show (⟨#[58]⟩ : ByteArray).size = 1 from rfl] at c30b9)
          obtain rfl := Option.some.inj H
          go_wp2_with (first | ((with_reducible refine gate_callee (f := 36) rfl ?_); refine goesL_ (some 37) rfl rfl Tryd.func36 (by kernel_rfl) rfl #[.int .i64 (Int.tmod x0_2 60)] rfl a1_ ?_; (with_reducible refine (spec_two.calls (Int.tmod x0_2 60) t181 _ A28.out).mono ?_); rintro e w31 ⟨rfl, hb⟩; refine ⟨_, rfl, ?_⟩; have n0_ := Aside0.mk (below_step a0_ hb); clear HB; have HB := n0_; clear n0_; (try clear hb); (try clear hb2); (try clear hk); (try clear hi)))
          go_ret
          exact ⟨by first | rfl | (simp [errW_none, errW_some] <;> rfl) | (simp [*, errW_none, errW_some] <;> rfl), by repeat (first | (with_reducible first | exact HB.out | apply below_alloc | apply pw_below_drewN | apply below_drew1) | exact HB.out)⟩
         ·rw [if_neg c30] at H
          exact absurd H (by simp)
        ·rw [if_neg c29] at H
         exact absurd H (by simp)
       ·replace c27 := Bool.eq_false_iff.mpr c27
        subst c27
        have H1 : (if (Int.tmod x0_2 60) = 0 then (some (x5_2 ++ t177)) else ((spec_two.f (Int.tmod x0_2 60)).bind fun t182 => (if 1 + t182.size ≤ 9223372036854775807 then (if (x5_2 ++ t177).size + ((⟨#[58]⟩ : ByteArray) ++ t182).size ≤ 9223372036854775807 then (some ((x5_2 ++ t177) ++ ((⟨#[58]⟩ : ByteArray) ++ t182))) else (none)) else (none)))) = some r := by rw [if_neg (show ¬ (false = true) by decide)] at H; exact H
        clear H
        have H := H1
        clear H1
        by_cases c32 : (Int.tmod x0_2 60) = 0
        ·rw [if_pos c32] at H
         have c32b0 : ((Int.tmod x0_2 60) == 0) = true := beq_iff_eq.mpr c32
         have c32b1 : ((Int.tmod x0_2 60) != 0) = false := bne_eq_false_iff_eq.mpr c32
         clear c32
         obtain rfl := Option.some.inj H
         go_wp2
         go_ret
         exact ⟨by first | rfl | (simp [errW_none, errW_some] <;> rfl) | (simp [*, errW_none, errW_some] <;> rfl), by repeat (first | (with_reducible first | exact HB.out | apply below_alloc | apply pw_below_drewN | apply below_drew1) | exact HB.out)⟩
        ·rw [if_neg c32] at H
         have c32b0 : ((Int.tmod x0_2 60) == 0) = false := beq_eq_false_iff_ne.mpr c32
         have c32b1 : ((Int.tmod x0_2 60) != 0) = true := bne_iff_ne.mpr c32
         replace H := Option.bind_eq_some_iff.mp H
         obtain ⟨t182, A330, H⟩ := H
         replace H : (if 1 + t182.size ≤ 9223372036854775807 then (if (x5_2 ++ t177).size + ((⟨#[58]⟩ : ByteArray) ++ t182).size ≤ 9223372036854775807 then (some ((x5_2 ++ t177) ++ ((⟨#[58]⟩ : ByteArray) ++ t182))) else (none)) else (none)) = some r := H
         have A33 := Aside0.mk A330
         clear A330
         by_cases c34 : 1 + t182.size ≤ 9223372036854775807
         ·rw [if_pos c34] at H
          have c34b0 := eq_true c34
          have c34b1 := decide_eq_true c34
          try have c34b2 := eq_false (Nat.not_lt.2 c34)
          by_cases c35 : (x5_2 ++ t177).size + ((⟨#[58]⟩ : ByteArray) ++ t182).size ≤ 9223372036854775807
          ·rw [if_pos c35] at H
           have c35b0 := eq_true c35
           have c35b1 := decide_eq_true c35
           try have c35b2 := eq_false (Nat.not_lt.2 c35)
           try (have c35b9 := c35b2; simp only [ByteArray.size_append, show (⟨#[58]⟩ : ByteArray).size = 1 from rfl] at c35b9)
           obtain rfl := Option.some.inj H
           go_wp2_with (first | ((with_reducible refine gate_callee (f := 36) rfl ?_); refine goesL_ (some 37) rfl rfl Tryd.func36 (by kernel_rfl) rfl #[.int .i64 (Int.tmod x0_2 60)] rfl a1_ ?_; (with_reducible refine (spec_two.calls (Int.tmod x0_2 60) t182 _ A33.out).mono ?_); rintro e w36 ⟨rfl, hb⟩; refine ⟨_, rfl, ?_⟩; have n0_ := Aside0.mk (below_step a0_ hb); clear HB; have HB := n0_; clear n0_; (try clear hb); (try clear hb2); (try clear hk); (try clear hi)))
           go_ret
           exact ⟨by first | rfl | (simp [errW_none, errW_some] <;> rfl) | (simp [*, errW_none, errW_some] <;> rfl), by repeat (first | (with_reducible first | exact HB.out | apply below_alloc | apply pw_below_drewN | apply below_drew1) | exact HB.out)⟩
          ·rw [if_neg c35] at H
           exact absurd H (by simp)
         ·rw [if_neg c34] at H
          exact absurd H (by simp)
   ·rw [if_neg c6] at H
    exact absurd H (by simp)
end Go.Proofs.YtjoaeennbfmohaaDoor.PFnZone
