/- The walks of some functions. Laid by programs (wip/mkq.py, wip/mkclaim.py) out of the texts that the kit's print.sh wrote for this seat, written shorter. Not written by hand. -/
import Derived.Test.YtjoaeennbfmohaaDoorC0
import Derived.Test.YtjoaeennbfmohaaDoorC9
namespace Go.Proofs.YtjoaeennbfmohaaDoor.PFnZone
open Go.RowKit Go.Proofs.YtjoaeennbfmohaaDoorW.PrintWords Go.Proofs.YtjoaeennbfmohaaDoorW.PrintLast Go.Proofs.YtjoaeennbfmohaaDoorW.PrintMore
attribute [local go_sem] max2_int min2_int max_two min_two max_three min_three max_four min_four   -- for this text's walks alone
set_option linter.unusedVariables false
set_option linter.unusedSimpArgs false
mutual
def gotimezone_tzruleTime.j0 : Nat → Int → Int → Int → Int → Int → Int → Int → Int → Int → Option (Int)
 | 0, _, _, _, _, _, _, _, _, _ => none
 | k + 1, x0, x2, x8, x9, x236000, x236001, x236002, x236003, x236004 => if (Int.tmod (wrap64 ((wrap64 ((wrap64 ((wrap64 ((wrap64 ((wrap64 (Int.tdiv (wrap64 ((wrap64 (26 * x8)) - 2)) 10)) + 1)) + (Int.tmod x9 100))) + (wrap64 (Int.tdiv (Int.tmod x9 100) 4)))) + (wrap64 (Int.tdiv (wrap64 (Int.tdiv x9 100)) 4)))) - (wrap64 (2 * (wrap64 (Int.tdiv x9 100)))))) 7) < 0 then (gotimezone_tzruleTime.j1 k x0 x2 (wrap64 ((Int.tmod (wrap64 ((wrap64 ((wrap64 ((wrap64 ((wrap64 ((wrap64 (Int.tdiv (wrap64 ((wrap64 (26 * x8)) - 2)) 10)) + 1)) + (Int.tmod x9 100))) + (wrap64 (Int.tdiv (Int.tmod x9 100) 4)))) + (wrap64 (Int.tdiv (wrap64 (Int.tdiv x9 100)) 4)))) - (wrap64 (2 * (wrap64 (Int.tdiv x9 100)))))) 7) + 7)) x236000 x236001 x236002 x236003 x236004) else (gotimezone_tzruleTime.j1 k x0 x2 (Int.tmod (wrap64 ((wrap64 ((wrap64 ((wrap64 ((wrap64 ((wrap64 (Int.tdiv (wrap64 ((wrap64 (26 * x8)) - 2)) 10)) + 1)) + (Int.tmod x9 100))) + (wrap64 (Int.tdiv (Int.tmod x9 100) 4)))) + (wrap64 (Int.tdiv (wrap64 (Int.tdiv x9 100)) 4)))) - (wrap64 (2 * (wrap64 (Int.tdiv x9 100)))))) 7) x236000 x236001 x236002 x236003 x236004)
def gotimezone_tzruleTime.j1 : Nat → Int → Int → Int → Int → Int → Int → Int → Int → Option (Int)
 | 0, _, _, _, _, _, _, _, _ => none
 | k + 1, x0, x2, x12, x236000, x236001, x236002, x236003, x236004 => if (wrap64 (x236001 - x12)) < 0 then (gotimezone_tzruleTime.j2 k x0 x2 (wrap64 ((wrap64 (x236001 - x12)) + 7)) x236000 x236001 x236002 x236003 x236004) else (gotimezone_tzruleTime.j2 k x0 x2 (wrap64 (x236001 - x12)) x236000 x236001 x236002 x236003 x236004)
def gotimezone_tzruleTime.j2 : Nat → Int → Int → Int → Int → Int → Int → Int → Int → Option (Int)
 | 0, _, _, _, _, _, _, _, _ => none
 | k + 1, x0, x2, x13, x236000, x236001, x236002, x236003, x236004 => gotimezone_tzruleTime.l0 k x0 x2 x13 1 x236000 x236001 x236002 x236003 x236004
def gotimezone_tzruleTime.j4 : Nat → Int → Int → Int → Int → Int → Int → Int → Int → Option (Int)
 | 0, _, _, _, _, _, _, _, _ => none
 | k + 1, x0, x2, x13, x236000, x236001, x236002, x236003, x236004 => (gotimezone_daysBefore.f x236003).bind fun t238 => ((gotimezone_isLeap.f x0).bind fun t239 => (if t239 = true then (if x236003 > 2 then (some (wrap64 ((wrap64 ((wrap64 ((wrap64 ((wrap64 (x13 + t238)) + 1)) * 86400)) + x236004)) - x2))) else (some (wrap64 ((wrap64 ((wrap64 ((wrap64 (x13 + t238)) * 86400)) + x236004)) - x2)))) else (some (wrap64 ((wrap64 ((wrap64 ((wrap64 (x13 + t238)) * 86400)) + x236004)) - x2)))))
def gotimezone_tzruleTime.l0 : Nat → Int → Int → Int → Int → Int → Int → Int → Int → Int → Option (Int)
 | 0, _, _, _, _, _, _, _, _, _ => none
 | k + 1, x0, x2, x13, x14, x236000, x236001, x236002, x236003, x236004 => if x14 < x236002 then ((gotimezone_daysIn.f x236003 x0).bind fun t237 => (if (wrap64 (x13 + 7)) ≥ t237 then (gotimezone_tzruleTime.j4 k x0 x2 x13 x236000 x236001 x236002 x236003 x236004) else (gotimezone_tzruleTime.l0 k x0 x2 (wrap64 (x13 + 7)) (wrap64 (x14 + 1)) x236000 x236001 x236002 x236003 x236004))) else (gotimezone_tzruleTime.j4 k x0 x2 x13 x236000 x236001 x236002 x236003 x236004)
end
def gotimezone_tzruleTime.f (k : Nat) (a0 : Int) (a1_0 : Int) (a1_1 : Int) (a1_2 : Int) (a1_3 : Int) (a1_4 : Int) (a2 : Int) : Option (Int) := if a1_0 = 0 then ((gotimezone_isLeap.f a0).bind fun t236 => (if t236 = true then (if a1_1 ≥ 60 then (some (wrap64 ((wrap64 ((wrap64 ((wrap64 ((wrap64 (a1_1 - 1)) * 86400)) + 86400)) + a1_4)) - a2))) else (some (wrap64 ((wrap64 ((wrap64 ((wrap64 (a1_1 - 1)) * 86400)) + a1_4)) - a2)))) else (some (wrap64 ((wrap64 ((wrap64 ((wrap64 (a1_1 - 1)) * 86400)) + a1_4)) - a2))))) else (if a1_0 = 1 then (some (wrap64 ((wrap64 ((wrap64 (a1_1 * 86400)) + a1_4)) - a2))) else (if a1_0 = 2 then (if a1_3 ≤ 2 then (gotimezone_tzruleTime.j0 k a0 a2 (wrap64 ((Int.tmod (wrap64 (a1_3 + 9)) 12) + 1)) (wrap64 (a0 - 1)) a1_0 a1_1 a1_2 a1_3 a1_4) else (gotimezone_tzruleTime.j0 k a0 a2 (wrap64 ((Int.tmod (wrap64 (a1_3 + 9)) 12) + 1)) a0 a1_0 a1_1 a1_2 a1_3 a1_4)) else (some (wrap64 ((wrap64 (0 + a1_4)) - a2)))))
set_option maxHeartbeats 8000000 in
set_option maxRecDepth 100000 in
theorem gotimezone_tzruleTime.calls (k : Nat) (a0 : Int) (a1_0 : Int) (a1_1 : Int) (a1_2 : Int) (a1_3 : Int) (a1_4 : Int) (a2 : Int) (r : Int) (w : World) (h : gotimezone_tzruleTime.f k a0 a1_0 a1_1 a1_2 a1_3 a1_4 a2 = some r) :
  Calls Tryd.prog 62 #[.int .i64 a0, .agg #[.int .i64 a1_0, .int .i64 a1_1, .int .i64 a1_2, .int .i64 a1_3, .int .i64 a1_4], .int .i64 a2] w fun e w' => e = .returned (.int .i64 r) ∧ Below w.heap.size w w' := by
 have hu120 := Tryd.underlying120
 have HB := Aside0.mk (Below.refl w.heap.size w)
 have H : (if a1_0 = 0 then ((gotimezone_isLeap.f a0).bind fun t236 => (if t236 = true then (if a1_1 ≥ 60 then (some (wrap64 ((wrap64 ((wrap64 ((wrap64 ((wrap64 (a1_1 - 1)) * 86400)) + 86400)) + a1_4)) - a2))) else (some (wrap64 ((wrap64 ((wrap64 ((wrap64 (a1_1 - 1)) * 86400)) + a1_4)) - a2)))) else (some (wrap64 ((wrap64 ((wrap64 ((wrap64 (a1_1 - 1)) * 86400)) + a1_4)) - a2))))) else (if a1_0 = 1 then (some (wrap64 ((wrap64 ((wrap64 (a1_1 * 86400)) + a1_4)) - a2))) else (if a1_0 = 2 then (if a1_3 ≤ 2 then (gotimezone_tzruleTime.j0 k a0 a2 (wrap64 ((Int.tmod (wrap64 (a1_3 + 9)) 12) + 1)) (wrap64 (a0 - 1)) a1_0 a1_1 a1_2 a1_3 a1_4) else (gotimezone_tzruleTime.j0 k a0 a2 (wrap64 ((Int.tmod (wrap64 (a1_3 + 9)) 12) + 1)) a0 a1_0 a1_1 a1_2 a1_3 a1_4)) else (some (wrap64 ((wrap64 (0 + a1_4)) - a2)))))) = some r := h
 clear h
 by_cases c4 : a1_0 = 0
 ·rw [if_pos c4] at H
  have c4b0 : (a1_0 == 0) = true := beq_iff_eq.mpr c4
  have c4b1 : (a1_0 != 0) = false := bne_eq_false_iff_eq.mpr c4
  clear c4
  replace H := Option.bind_eq_some_iff.mp H
  obtain ⟨t236, A50, H⟩ := H
  replace H : (if t236 = true then (if a1_1 ≥ 60 then (some (wrap64 ((wrap64 ((wrap64 ((wrap64 ((wrap64 (a1_1 - 1)) * 86400)) + 86400)) + a1_4)) - a2))) else (some (wrap64 ((wrap64 ((wrap64 ((wrap64 (a1_1 - 1)) * 86400)) + a1_4)) - a2)))) else (some (wrap64 ((wrap64 ((wrap64 ((wrap64 (a1_1 - 1)) * 86400)) + a1_4)) - a2)))) = some r := H
  have A5 := Aside0.mk A50
  clear A50
  by_cases c6 : t236 = true
  ·subst c6
   have H1 : (if a1_1 ≥ 60 then (some (wrap64 ((wrap64 ((wrap64 ((wrap64 ((wrap64 (a1_1 - 1)) * 86400)) + 86400)) + a1_4)) - a2))) else (some (wrap64 ((wrap64 ((wrap64 ((wrap64 (a1_1 - 1)) * 86400)) + a1_4)) - a2)))) = some r := by rw [if_pos rfl] at H; exact H
   clear H
   have H := H1
   clear H1
   by_cases c7 : a1_1 ≥ 60
   ·rw [if_pos c7] at H
    have c7b0 : decide (60 ≤ a1_1) = true := decide_eq_true c7
    clear c7
    obtain rfl := Option.some.inj H
    go_enter Tryd.func62, Tryd.ntmps62
    go_wp2_with (first | ((with_reducible refine gate_dst (N := 4) rfl ?_); refine box_event ?hg (N := 4) ?hd (cs := #[.int .i64 a1_0, .int .i64 a1_1, .int .i64 a1_2, .int .i64 a1_3, .int .i64 a1_4]) (t := 120) ?hr ?_; (case hd => rfl); (case hg => rfl); (case hr => first | (go_simp; done) | (go_simp; rfl)); intro gb235 hg w8 hbox hb; have n0_ := Aside0.mk (below_step a0_ hb); have n1_ := Aside0.mk (hbox); have n2_ := Aside0.mk ((by rw [hg]; exact (below_size a0_) : w.heap.size ≤ gb235)); have n3_ := Aside0.mk ((by rw [hg]; exact (below_size a0_) : w.heap.size ≤ gb235)); clear HB; have HB := n0_; have BK235 := n1_; have GW235 := n2_; have GE235 := n3_; clear n0_ n1_ n2_ n3_; clear hb hbox hg; obtain ⟨hcz9_0, hcz9_1, hcz9_2, hcz9_3, hcz9_4, hfz9_0, hfz9_1, hfz9_2, hfz9_3, hfz9_4⟩ := c5f_ BK235.out) | ((with_reducible refine gate_callee (f := 69) rfl ?_); refine goesL_ (some 24) rfl rfl Tryd.func69 (by kernel_rfl) rfl #[.int .i64 a0] rfl a1_ ?_; (with_reducible refine (gotimezone_isLeap.calls a0 true _ A5.out).mono ?_); rintro e w' ⟨rfl, ⟨nd, rfl⟩⟩; refine ⟨_, rfl, ?_⟩))
    go_ret
    exact ⟨by first | rfl | (simp [errW_none, errW_some] <;> rfl) | (simp [*, errW_none, errW_some] <;> rfl), by repeat (first | (with_reducible first | exact HB.out | apply below_alloc | apply pw_below_drewN | apply below_drew1 | refine below_set ?_ GE235.out) | exact HB.out)⟩
   ·rw [if_neg c7] at H
    have c7b0 : decide (60 ≤ a1_1) = false := decide_eq_false c7
    clear c7
    obtain rfl := Option.some.inj H
    go_enter Tryd.func62, Tryd.ntmps62
    go_wp2_with (first | ((with_reducible refine gate_dst (N := 4) rfl ?_); refine box_event ?hg (N := 4) ?hd (cs := #[.int .i64 a1_0, .int .i64 a1_1, .int .i64 a1_2, .int .i64 a1_3, .int .i64 a1_4]) (t := 120) ?hr ?_; (case hd => rfl); (case hg => rfl); (case hr => first | (go_simp; done) | (go_simp; rfl)); intro gb235 hg w10 hbox hb; have n0_ := Aside0.mk (below_step a0_ hb); have n1_ := Aside0.mk (hbox); have n2_ := Aside0.mk ((by rw [hg]; exact (below_size a0_) : w.heap.size ≤ gb235)); have n3_ := Aside0.mk ((by rw [hg]; exact (below_size a0_) : w.heap.size ≤ gb235)); clear HB; have HB := n0_; have BK235 := n1_; have GW235 := n2_; have GE235 := n3_; clear n0_ n1_ n2_ n3_; clear hb hbox hg; obtain ⟨hcz11_0, hcz11_1, hcz11_2, hcz11_3, hcz11_4, hfz11_0, hfz11_1, hfz11_2, hfz11_3, hfz11_4⟩ := c5f_ BK235.out) | ((with_reducible refine gate_callee (f := 69) rfl ?_); refine goesL_ (some 24) rfl rfl Tryd.func69 (by kernel_rfl) rfl #[.int .i64 a0] rfl a1_ ?_; (with_reducible refine (gotimezone_isLeap.calls a0 true _ A5.out).mono ?_); rintro e w' ⟨rfl, ⟨nd, rfl⟩⟩; refine ⟨_, rfl, ?_⟩))
    go_ret
    exact ⟨by first | rfl | (simp [errW_none, errW_some] <;> rfl) | (simp [*, errW_none, errW_some] <;> rfl), by repeat (first | (with_reducible first | exact HB.out | apply below_alloc | apply pw_below_drewN | apply below_drew1 | refine below_set ?_ GE235.out) | exact HB.out)⟩
  ·replace c6 := Bool.eq_false_iff.mpr c6
   subst c6
   have H1 : (some (wrap64 ((wrap64 ((wrap64 ((wrap64 (a1_1 - 1)) * 86400)) + a1_4)) - a2))) = some r := by rw [if_neg (show ¬ (false = true) by decide)] at H; exact H
   clear H
   have H := H1
   clear H1
   obtain rfl := Option.some.inj H
   go_enter Tryd.func62, Tryd.ntmps62
   go_wp2_with (first | ((with_reducible refine gate_dst (N := 4) rfl ?_); refine box_event ?hg (N := 4) ?hd (cs := #[.int .i64 a1_0, .int .i64 a1_1, .int .i64 a1_2, .int .i64 a1_3, .int .i64 a1_4]) (t := 120) ?hr ?_; (case hd => rfl); (case hg => rfl); (case hr => first | (go_simp; done) | (go_simp; rfl)); intro gb235 hg w12 hbox hb; have n0_ := Aside0.mk (below_step a0_ hb); have n1_ := Aside0.mk (hbox); have n2_ := Aside0.mk ((by rw [hg]; exact (below_size a0_) : w.heap.size ≤ gb235)); have n3_ := Aside0.mk ((by rw [hg]; exact (below_size a0_) : w.heap.size ≤ gb235)); clear HB; have HB := n0_; have BK235 := n1_; have GW235 := n2_; have GE235 := n3_; clear n0_ n1_ n2_ n3_; clear hb hbox hg; obtain ⟨hcz13_0, hcz13_1, hcz13_2, hcz13_3, hcz13_4, hfz13_0, hfz13_1, hfz13_2, hfz13_3, hfz13_4⟩ := c5f_ BK235.out) | ((with_reducible refine gate_callee (f := 69) rfl ?_); refine goesL_ (some 24) rfl rfl Tryd.func69 (by kernel_rfl) rfl #[.int .i64 a0] rfl a1_ ?_; (with_reducible refine (gotimezone_isLeap.calls a0 false _ A5.out).mono ?_); rintro e w' ⟨rfl, ⟨nd, rfl⟩⟩; refine ⟨_, rfl, ?_⟩))
   go_ret
   exact ⟨by first | rfl | (simp [errW_none, errW_some] <;> rfl) | (simp [*, errW_none, errW_some] <;> rfl), by repeat (first | (with_reducible first | exact HB.out | apply below_alloc | apply pw_below_drewN | apply below_drew1 | refine below_set ?_ GE235.out) | exact HB.out)⟩
 ·rw [if_neg c4] at H
  have c4b0 : (a1_0 == 0) = false := beq_eq_false_iff_ne.mpr c4
  have c4b1 : (a1_0 != 0) = true := bne_iff_ne.mpr c4
  by_cases c14 : a1_0 = 1
  ·rw [if_pos c14] at H
   have c14b0 : (a1_0 == 1) = true := beq_iff_eq.mpr c14
   have c14b1 : (a1_0 != 1) = false := bne_eq_false_iff_eq.mpr c14
   clear c14
   obtain rfl := Option.some.inj H
   go_enter Tryd.func62, Tryd.ntmps62
   go_wp2_with (first | ((with_reducible refine gate_dst (N := 4) rfl ?_); refine box_event ?hg (N := 4) ?hd (cs := #[.int .i64 a1_0, .int .i64 a1_1, .int .i64 a1_2, .int .i64 a1_3, .int .i64 a1_4]) (t := 120) ?hr ?_; (case hd => rfl); (case hg => rfl); (case hr => first | (go_simp; done) | (go_simp; rfl)); intro gb235 hg w15 hbox hb; have n0_ := Aside0.mk (below_step a0_ hb); have n1_ := Aside0.mk (hbox); have n2_ := Aside0.mk ((by rw [hg]; exact (below_size a0_) : w.heap.size ≤ gb235)); have n3_ := Aside0.mk ((by rw [hg]; exact (below_size a0_) : w.heap.size ≤ gb235)); clear HB; have HB := n0_; have BK235 := n1_; have GW235 := n2_; have GE235 := n3_; clear n0_ n1_ n2_ n3_; clear hb hbox hg; obtain ⟨hcz16_0, hcz16_1, hcz16_2, hcz16_3, hcz16_4, hfz16_0, hfz16_1, hfz16_2, hfz16_3, hfz16_4⟩ := c5f_ BK235.out))
   go_ret
   exact ⟨by first | rfl | (simp [errW_none, errW_some] <;> rfl) | (simp [*, errW_none, errW_some] <;> rfl), by repeat (first | (with_reducible first | exact HB.out | apply below_alloc | apply pw_below_drewN | apply below_drew1 | refine below_set ?_ GE235.out) | exact HB.out)⟩
  ·rw [if_neg c14] at H
   have c14b0 : (a1_0 == 1) = false := beq_eq_false_iff_ne.mpr c14
   have c14b1 : (a1_0 != 1) = true := bne_iff_ne.mpr c14
   by_cases c17 : a1_0 = 2
   ·rw [if_pos c17] at H
    have c17b0 : (a1_0 == 2) = true := beq_iff_eq.mpr c17
    have c17b1 : (a1_0 != 2) = false := bne_eq_false_iff_eq.mpr c17
    clear c17
    have HC18 := Aside0.mk H
    clear H
    go_enter Tryd.func62, Tryd.ntmps62
    go_upto_if 47 with (first | ((with_reducible refine gate_dst (N := 4) rfl ?_); refine box_event ?hg (N := 4) ?hd (cs := #[.int .i64 a1_0, .int .i64 a1_1, .int .i64 a1_2, .int .i64 a1_3, .int .i64 a1_4]) (t := 120) ?hr ?_; (case hd => rfl); (case hg => rfl); (case hr => first | (go_simp; done) | (go_simp; rfl)); intro gb235 hg w19 hbox hb; have n0_ := Aside0.mk (below_step a0_ hb); have n1_ := Aside0.mk (hbox); have n2_ := Aside0.mk ((by rw [hg]; exact (below_size a0_) : w.heap.size ≤ gb235)); have n3_ := Aside0.mk ((by rw [hg]; exact (below_size a0_) : w.heap.size ≤ gb235)); clear HB; have HB := n0_; have BK235 := n1_; have GW235 := n2_; have GE235 := n3_; clear n0_ n1_ n2_ n3_; clear hb hbox hg; obtain ⟨hcz20_0, hcz20_1, hcz20_2, hcz20_3, hcz20_4, hfz20_0, hfz20_1, hfz20_2, hfz20_3, hfz20_4⟩ := c5f_ BK235.out))
    (try simp only [Act.put, List.setIfInBounds_toArray, List.set_cons_zero, List.set_cons_succ])
    go_cut [9] (fun v9 wc => ∃ (kq : Nat) (x9_17 : Int), v9 = .int .i64 x9_17 ∧ Aside0 (gotimezone_tzruleTime.j0 kq a0 a2 (wrap64 ((Int.tmod (wrap64 (a1_3 + 9)) 12) + 1)) x9_17 a1_0 a1_1 a1_2 a1_3 a1_4 = some r) ∧ Aside0 (kq ≤ k) ∧ Aside0 (wc.heap[gb235]? = some (.cells #[.int .i64 a1_0, .int .i64 a1_1, .int .i64 a1_2, .int .i64 a1_3, .int .i64 a1_4] 120 (0, 0))) ∧ Aside0 (Below w.heap.size w wc))
    case first =>
     have H := HC18.out
     clear HC18
     by_cases c21 : a1_3 ≤ 2
     ·rw [if_pos c21] at H
      have c21b0 := decide_eq_true c21
      clear c21
      (first | rw [c21b0] | (simp only [i64_w, i32_w]; rw [c21b0]) | skip)
      have H' := Aside0.mk H
      clear H
      go_wp2
      go_meet
      case rel => exact ⟨_, (wrap64 (a0 - 1)), a5_, H', ⟨by first | omega | exact Nat.le_refl _⟩, ⟨by (with_reducible repeat (first | refine blk_drewN ?_ _ | refine blk_drew ?_ | refine blk_alloc ?_ _)); exact BK235.out⟩, ⟨by repeat (first | (with_reducible first | exact HB.out | apply below_alloc | apply pw_below_drewN | apply below_drew1 | refine below_set ?_ GE235.out) | exact HB.out)⟩⟩
     ·rw [if_neg c21] at H
      have c21b0 := decide_eq_false c21
      clear c21
      (first | rw [c21b0] | (simp only [i64_w, i32_w]; rw [c21b0]) | skip)
      have H' := Aside0.mk H
      clear H
      go_wp2
      go_meet
      case rel => exact ⟨_, (a0), a5_, H', ⟨by first | omega | exact Nat.le_refl _⟩, ⟨by (with_reducible repeat (first | refine blk_drewN ?_ _ | refine blk_drew ?_ | refine blk_alloc ?_ _)); exact BK235.out⟩, ⟨by repeat (first | (with_reducible first | exact HB.out | apply below_alloc | apply pw_below_drewN | apply below_drew1 | refine below_set ?_ GE235.out) | exact HB.out)⟩⟩
    case rest =>
     clear HC18
     try clear c1
     try clear c2
     try clear p2
     try clear c4
     try clear c4b0
     try clear c4b1
     try clear c6
     try clear p6
     try clear c7
     try clear c7b0
     try clear c14
     try clear c14b0
     try clear c14b1
     try clear c17
     try clear c17b0
     try clear c17b1
     try clear c21
     try clear c21b0
     try clear hcz11_0
     try clear hcz11_1
     try clear hcz11_2
     try clear hcz11_3
     try clear hcz11_4
     try clear hcz13_0
     try clear hcz13_1
     try clear hcz13_2
     try clear hcz13_3
     try clear hcz13_4
     try clear hcz16_0
     try clear hcz16_1
     try clear hcz16_2
     try clear hcz16_3
     try clear hcz16_4
     try clear hcz20_0
     try clear hcz20_1
     try clear hcz20_2
     try clear hcz20_3
     try clear hcz20_4
     try clear hcz9_0
     try clear hcz9_1
     try clear hcz9_2
     try clear hcz9_3
     try clear hcz9_4
     try clear hfz11_0
     try clear hfz11_1
     try clear hfz11_2
     try clear hfz11_3
     try clear hfz11_4
     try clear hfz13_0
     try clear hfz13_1
     try clear hfz13_2
     try clear hfz13_3
     try clear hfz13_4
     try clear hfz16_0
     try clear hfz16_1
     try clear hfz16_2
     try clear hfz16_3
     try clear hfz16_4
     try clear hfz20_0
     try clear hfz20_1
     try clear hfz20_2
     try clear hfz20_3
     try clear hfz20_4
     try clear hfz9_0
     try clear hfz9_1
     try clear hfz9_2
     try clear hfz9_3
     try clear hfz9_4
     obtain ⟨kq, x9_17, rfl, HA, HJ17, BK235, HB⟩ := hcut
     cases kq with
     | zero => exact absurd HA.out (by simp [gotimezone_tzruleTime.j0])
     | succ kj17 =>
      have H := HA.out
      clear HA
      simp only [gotimezone_tzruleTime.j0] at H
      have HC22 := Aside0.mk H
      clear H
      go_upto_if 72 with (fail)
      go_cut [12] (fun v12 wc => ∃ (kq : Nat) (x12_21 : Int), v12 = .int .i64 x12_21 ∧ Aside0 (gotimezone_tzruleTime.j1 kq a0 a2 x12_21 a1_0 a1_1 a1_2 a1_3 a1_4 = some r) ∧ Aside0 (kq ≤ kj17) ∧ Aside0 (wc.heap[gb235]? = some (.cells #[.int .i64 a1_0, .int .i64 a1_1, .int .i64 a1_2, .int .i64 a1_3, .int .i64 a1_4] 120 (0, 0))) ∧ Aside0 (Below w.heap.size w wc))
      case first =>
       have H := HC22.out
       clear HC22
       by_cases c23 : (Int.tmod (wrap64 ((wrap64 ((wrap64 ((wrap64 ((wrap64 ((wrap64 (Int.tdiv (wrap64 ((wrap64 (26 * (wrap64 ((Int.tmod (wrap64 (a1_3 + 9)) 12) + 1)))) - 2)) 10)) + 1)) + (Int.tmod x9_17 100))) + (wrap64 (Int.tdiv (Int.tmod x9_17 100) 4)))) + (wrap64 (Int.tdiv (wrap64 (Int.tdiv x9_17 100)) 4)))) - (wrap64 (2 * (wrap64 (Int.tdiv x9_17 100)))))) 7) < 0
       ·rw [if_pos c23] at H
        have c23b0 := decide_eq_true c23
        clear c23
        (first | rw [c23b0] | (simp only [i64_w, i32_w]; rw [c23b0]) | skip)
        have H' := Aside0.mk H
        clear H
        go_wp2
        go_meet
        case rel => exact ⟨_, (wrap64 ((Int.tmod (wrap64 ((wrap64 ((wrap64 ((wrap64 ((wrap64 ((wrap64 (Int.tdiv (wrap64 ((wrap64 (26 * (wrap64 ((Int.tmod (wrap64 (a1_3 + 9)) 12) + 1)))) - 2)) 10)) + 1)) + (Int.tmod x9_17 100))) + (wrap64 (Int.tdiv (Int.tmod x9_17 100) 4)))) + (wrap64 (Int.tdiv (wrap64 (Int.tdiv x9_17 100)) 4)))) - (wrap64 (2 * (wrap64 (Int.tdiv x9_17 100)))))) 7) + 7)), a5_, H', ⟨by have := HJ17.out; first | omega | exact Nat.le_refl _⟩, ⟨by (with_reducible repeat (first | refine blk_drewN ?_ _ | refine blk_drew ?_ | refine blk_alloc ?_ _)); exact BK235.out⟩, ⟨by repeat (first | (with_reducible first | exact HB.out | apply below_alloc | apply pw_below_drewN | apply below_drew1 | refine below_set ?_ GE235.out) | exact HB.out)⟩⟩
       ·rw [if_neg c23] at H
        have c23b0 := decide_eq_false c23
        clear c23
        (first | rw [c23b0] | (simp only [i64_w, i32_w]; rw [c23b0]) | skip)
        have H' := Aside0.mk H
        clear H
        go_wp2
        go_meet
        case rel => exact ⟨_, (Int.tmod (wrap64 ((wrap64 ((wrap64 ((wrap64 ((wrap64 ((wrap64 (Int.tdiv (wrap64 ((wrap64 (26 * (wrap64 ((Int.tmod (wrap64 (a1_3 + 9)) 12) + 1)))) - 2)) 10)) + 1)) + (Int.tmod x9_17 100))) + (wrap64 (Int.tdiv (Int.tmod x9_17 100) 4)))) + (wrap64 (Int.tdiv (wrap64 (Int.tdiv x9_17 100)) 4)))) - (wrap64 (2 * (wrap64 (Int.tdiv x9_17 100)))))) 7), a5_, H', ⟨by have := HJ17.out; first | omega | exact Nat.le_refl _⟩, ⟨by (with_reducible repeat (first | refine blk_drewN ?_ _ | refine blk_drew ?_ | refine blk_alloc ?_ _)); exact BK235.out⟩, ⟨by repeat (first | (with_reducible first | exact HB.out | apply below_alloc | apply pw_below_drewN | apply below_drew1 | refine below_set ?_ GE235.out) | exact HB.out)⟩⟩
      case rest =>
       clear HC22
       try clear c1
       try clear c2
       try clear p2
       try clear c4
       try clear c4b0
       try clear c4b1
       try clear c6
       try clear p6
       try clear c7
       try clear c7b0
       try clear c14
       try clear c14b0
       try clear c14b1
       try clear c17
       try clear c17b0
       try clear c17b1
       try clear c21
       try clear c21b0
       try clear c23
       try clear c23b0
       try clear hcz11_0
       try clear hcz11_1
       try clear hcz11_2
       try clear hcz11_3
       try clear hcz11_4
       try clear hcz13_0
       try clear hcz13_1
       try clear hcz13_2
       try clear hcz13_3
       try clear hcz13_4
       try clear hcz16_0
       try clear hcz16_1
       try clear hcz16_2
       try clear hcz16_3
       try clear hcz16_4
       try clear hcz20_0
       try clear hcz20_1
       try clear hcz20_2
       try clear hcz20_3
       try clear hcz20_4
       try clear hcz9_0
       try clear hcz9_1
       try clear hcz9_2
       try clear hcz9_3
       try clear hcz9_4
       try clear hfz11_0
       try clear hfz11_1
       try clear hfz11_2
       try clear hfz11_3
       try clear hfz11_4
       try clear hfz13_0
       try clear hfz13_1
       try clear hfz13_2
       try clear hfz13_3
       try clear hfz13_4
       try clear hfz16_0
       try clear hfz16_1
       try clear hfz16_2
       try clear hfz16_3
       try clear hfz16_4
       try clear hfz20_0
       try clear hfz20_1
       try clear hfz20_2
       try clear hfz20_3
       try clear hfz20_4
       try clear hfz9_0
       try clear hfz9_1
       try clear hfz9_2
       try clear hfz9_3
       try clear hfz9_4
       try clear p2
       try clear p6
       obtain ⟨kq, x12_21, rfl, HA, HJ21, BK235, HB⟩ := hcut
       cases kq with
       | zero => exact absurd HA.out (by simp [gotimezone_tzruleTime.j1])
       | succ kj21 =>
        have H := HA.out
        clear HA
        simp only [gotimezone_tzruleTime.j1] at H
        have HC24 := Aside0.mk H
        clear H
        obtain ⟨hcz25_0, hcz25_1, hcz25_2, hcz25_3, hcz25_4, hfz25_0, hfz25_1, hfz25_2, hfz25_3, hfz25_4⟩ := c5f_ BK235.out
        go_upto_if 80 with (fail)
        go_cut [13] (fun v13 wc => ∃ (kq : Nat) (x13_23 : Int), v13 = .int .i64 x13_23 ∧ Aside0 (gotimezone_tzruleTime.j2 kq a0 a2 x13_23 a1_0 a1_1 a1_2 a1_3 a1_4 = some r) ∧ Aside0 (kq ≤ kj21) ∧ Aside0 (wc.heap[gb235]? = some (.cells #[.int .i64 a1_0, .int .i64 a1_1, .int .i64 a1_2, .int .i64 a1_3, .int .i64 a1_4] 120 (0, 0))) ∧ Aside0 (Below w.heap.size w wc))
        case first =>
         have H := HC24.out
         clear HC24
         by_cases c26 : (wrap64 (a1_1 - x12_21)) < 0
         ·rw [if_pos c26] at H
          have c26b0 := decide_eq_true c26
          clear c26
          (first | rw [c26b0] | (simp only [i64_w, i32_w]; rw [c26b0]) | skip)
          have H' := Aside0.mk H
          clear H
          go_wp2
          go_meet
          case rel => exact ⟨_, (wrap64 ((wrap64 (a1_1 - x12_21)) + 7)), a5_, H', ⟨by have := HJ17.out; have := HJ21.out; first | omega | exact Nat.le_refl _⟩, ⟨by (with_reducible repeat (first | refine blk_drewN ?_ _ | refine blk_drew ?_ | refine blk_alloc ?_ _)); exact BK235.out⟩, ⟨by repeat (first | (with_reducible first | exact HB.out | apply below_alloc | apply pw_below_drewN | apply below_drew1 | refine below_set ?_ GE235.out) | exact HB.out)⟩⟩
         ·rw [if_neg c26] at H
          have c26b0 := decide_eq_false c26
          clear c26
          (first | rw [c26b0] | (simp only [i64_w, i32_w]; rw [c26b0]) | skip)
          have H' := Aside0.mk H
          clear H
          go_wp2
          go_meet
          case rel => exact ⟨_, (wrap64 (a1_1 - x12_21)), a5_, H', ⟨by have := HJ17.out; have := HJ21.out; first | omega | exact Nat.le_refl _⟩, ⟨by (with_reducible repeat (first | refine blk_drewN ?_ _ | refine blk_drew ?_ | refine blk_alloc ?_ _)); exact BK235.out⟩, ⟨by repeat (first | (with_reducible first | exact HB.out | apply below_alloc | apply pw_below_drewN | apply below_drew1 | refine below_set ?_ GE235.out) | exact HB.out)⟩⟩
        case rest =>
         clear HC24
         try clear c1
         try clear c2
         try clear p2
         try clear c4
         try clear c4b0
         try clear c4b1
         try clear c6
         try clear p6
         try clear c7
         try clear c7b0
         try clear c14
         try clear c14b0
         try clear c14b1
         try clear c17
         try clear c17b0
         try clear c17b1
         try clear c21
         try clear c21b0
         try clear c23
         try clear c23b0
         try clear c26
         try clear c26b0
         try clear hcz11_0
         try clear hcz11_1
         try clear hcz11_2
         try clear hcz11_3
         try clear hcz11_4
         try clear hcz13_0
         try clear hcz13_1
         try clear hcz13_2
         try clear hcz13_3
         try clear hcz13_4
         try clear hcz16_0
         try clear hcz16_1
         try clear hcz16_2
         try clear hcz16_3
         try clear hcz16_4
         try clear hcz20_0
         try clear hcz20_1
         try clear hcz20_2
         try clear hcz20_3
         try clear hcz20_4
         try clear hcz25_0
         try clear hcz25_1
         try clear hcz25_2
         try clear hcz25_3
         try clear hcz25_4
         try clear hcz9_0
         try clear hcz9_1
         try clear hcz9_2
         try clear hcz9_3
         try clear hcz9_4
         try clear hfz11_0
         try clear hfz11_1
         try clear hfz11_2
         try clear hfz11_3
         try clear hfz11_4
         try clear hfz13_0
         try clear hfz13_1
         try clear hfz13_2
         try clear hfz13_3
         try clear hfz13_4
         try clear hfz16_0
         try clear hfz16_1
         try clear hfz16_2
         try clear hfz16_3
         try clear hfz16_4
         try clear hfz20_0
         try clear hfz20_1
         try clear hfz20_2
         try clear hfz20_3
         try clear hfz20_4
         try clear hfz25_0
         try clear hfz25_1
         try clear hfz25_2
         try clear hfz25_3
         try clear hfz25_4
         try clear hfz9_0
         try clear hfz9_1
         try clear hfz9_2
         try clear hfz9_3
         try clear hfz9_4
         try clear p2
         try clear p6
         obtain ⟨kq, x13_23, rfl, HA, HJ23, BK235, HB⟩ := hcut
         cases kq with
         | zero => exact absurd HA.out (by simp [gotimezone_tzruleTime.j2])
         | succ kj23 =>
          have H := HA.out
          clear HA
          simp only [gotimezone_tzruleTime.j2] at H
          have HC27 := Aside0.mk H
          clear H
          go_upto_block 1 with (fail)
          go_cut [13] (fun v13 wc => ∃ (kq : Nat) (x13_26 : Int), v13 = .int .i64 x13_26 ∧ Aside0 (gotimezone_tzruleTime.j4 kq a0 a2 x13_26 a1_0 a1_1 a1_2 a1_3 a1_4 = some r) ∧ Aside0 (kq ≤ kj23) ∧ Aside0 (wc.heap[gb235]? = some (.cells #[.int .i64 a1_0, .int .i64 a1_1, .int .i64 a1_2, .int .i64 a1_3, .int .i64 a1_4] 120 (0, 0))) ∧ Aside0 (Below w.heap.size w wc))
          case first =>
           have H := HC27.out
           clear HC27
           have H' := Aside0.mk H
           clear H
           go_wp2
           go_loopg [13, 14] kj23 (fun kq v13 v14 w' => ∃ (x13_4 : Int) (x14_4 : Int), v13 = .int .i64 x13_4 ∧ v14 = .int .i64 x14_4 ∧ Aside0 (gotimezone_tzruleTime.l0 kq a0 a2 x13_4 x14_4 a1_0 a1_1 a1_2 a1_3 a1_4 = some r) ∧ Aside0 (kq ≤ kj23) ∧ Aside0 (w'.heap[gb235]? = some (.cells #[.int .i64 a1_0, .int .i64 a1_1, .int .i64 a1_2, .int .i64 a1_3, .int .i64 a1_4] 120 (0, 0))) ∧ Aside0 (Below w.heap.size w w'))
           case atStart => exact ⟨(x13_23), (1), a5_, a5_, H', ⟨Nat.le_refl _⟩, ⟨by (with_reducible repeat (first | refine blk_drewN ?_ _ | refine blk_drew ?_ | refine blk_alloc ?_ _)); exact BK235.out⟩, ⟨by repeat (first | (with_reducible first | exact HB.out | apply below_alloc | apply pw_below_drewN | apply below_drew1 | refine below_set ?_ GE235.out) | exact HB.out)⟩⟩
           case round =>
            clear H'
            try clear c1
            try clear c2
            try clear p2
            try clear c4
            try clear c4b0
            try clear c4b1
            try clear c6
            try clear p6
            try clear c7
            try clear c7b0
            try clear c14
            try clear c14b0
            try clear c14b1
            try clear c17
            try clear c17b0
            try clear c17b1
            try clear c21
            try clear c21b0
            try clear c23
            try clear c23b0
            try clear c26
            try clear c26b0
            try clear hcz11_0
            try clear hcz11_1
            try clear hcz11_2
            try clear hcz11_3
            try clear hcz11_4
            try clear hcz13_0
            try clear hcz13_1
            try clear hcz13_2
            try clear hcz13_3
            try clear hcz13_4
            try clear hcz16_0
            try clear hcz16_1
            try clear hcz16_2
            try clear hcz16_3
            try clear hcz16_4
            try clear hcz20_0
            try clear hcz20_1
            try clear hcz20_2
            try clear hcz20_3
            try clear hcz20_4
            try clear hcz25_0
            try clear hcz25_1
            try clear hcz25_2
            try clear hcz25_3
            try clear hcz25_4
            try clear hcz9_0
            try clear hcz9_1
            try clear hcz9_2
            try clear hcz9_3
            try clear hcz9_4
            try clear hfz11_0
            try clear hfz11_1
            try clear hfz11_2
            try clear hfz11_3
            try clear hfz11_4
            try clear hfz13_0
            try clear hfz13_1
            try clear hfz13_2
            try clear hfz13_3
            try clear hfz13_4
            try clear hfz16_0
            try clear hfz16_1
            try clear hfz16_2
            try clear hfz16_3
            try clear hfz16_4
            try clear hfz20_0
            try clear hfz20_1
            try clear hfz20_2
            try clear hfz20_3
            try clear hfz20_4
            try clear hfz25_0
            try clear hfz25_1
            try clear hfz25_2
            try clear hfz25_3
            try clear hfz25_4
            try clear hfz9_0
            try clear hfz9_1
            try clear hfz9_2
            try clear hfz9_3
            try clear hfz9_4
            try clear p2
            try clear p6
            obtain ⟨x13_4, x14_4, rfl, rfl, HA, HK4, BK235, HB⟩ := hrel
            cases gk with
            | zero => exact absurd HA.out (by simp [gotimezone_tzruleTime.l0])
            | succ k4 =>
             have H := HA.out
             clear HA
             simp only [gotimezone_tzruleTime.l0] at H
             by_cases c28 : x14_4 < a1_2
             ·rw [if_pos c28] at H
              have c28b0 := decide_eq_true c28
              clear c28
              (first | rw [c28b0] | (simp only [i64_w, i32_w]; rw [c28b0]) | skip)
              replace H := Option.bind_eq_some_iff.mp H
              obtain ⟨t237, A290, H⟩ := H
              replace H : (if (wrap64 (x13_4 + 7)) ≥ t237 then (gotimezone_tzruleTime.j4 k4 a0 a2 x13_4 a1_0 a1_1 a1_2 a1_3 a1_4) else (gotimezone_tzruleTime.l0 k4 a0 a2 (wrap64 (x13_4 + 7)) (wrap64 (x14_4 + 1)) a1_0 a1_1 a1_2 a1_3 a1_4)) = some r := H
              have A29 := Aside0.mk A290
              clear A290
              by_cases c30 : (wrap64 (x13_4 + 7)) ≥ t237
              ·rw [if_pos c30] at H
               have c30b0 : decide (t237 ≤ (wrap64 (x13_4 + 7))) = true := decide_eq_true c30
               clear c30
               have H' := Aside0.mk H
               clear H
               obtain ⟨hcz31_0, hcz31_1, hcz31_2, hcz31_3, hcz31_4, hfz31_0, hfz31_1, hfz31_2, hfz31_3, hfz31_4⟩ := c5f_ BK235.out
               go_wp2_with (first | ((with_reducible refine gate_callee (f := 70) rfl ?_); refine goesL_ (some 94) rfl rfl Tryd.func70 (by kernel_rfl) rfl #[.int .i64 a1_3, .int .i64 a0] rfl a1_ ?_; (with_reducible refine (gotimezone_daysIn.calls a1_3 a0 t237 _ A29.out).mono ?_); rintro e w' ⟨rfl, ⟨nd, rfl⟩⟩; refine ⟨_, rfl, ?_⟩))
               go_meet
               case rel => exact ⟨_, (x13_4), a5_, H', ⟨by have := HJ17.out; have := HJ21.out; have := HJ23.out; have := HK4.out; first | omega | exact Nat.le_refl _⟩, ⟨by (with_reducible repeat (first | refine blk_drewN ?_ _ | refine blk_drew ?_ | refine blk_alloc ?_ _)); exact BK235.out⟩, ⟨by repeat (first | (with_reducible first | exact HB.out | apply below_alloc | apply pw_below_drewN | apply below_drew1 | refine below_set ?_ GE235.out) | exact HB.out)⟩⟩
              ·rw [if_neg c30] at H
               have c30b0 : decide (t237 ≤ (wrap64 (x13_4 + 7))) = false := decide_eq_false c30
               clear c30
               have H' := Aside0.mk H
               clear H
               obtain ⟨hcz32_0, hcz32_1, hcz32_2, hcz32_3, hcz32_4, hfz32_0, hfz32_1, hfz32_2, hfz32_3, hfz32_4⟩ := c5f_ BK235.out
               go_wp2_with (first | ((with_reducible refine gate_callee (f := 70) rfl ?_); refine goesL_ (some 94) rfl rfl Tryd.func70 (by kernel_rfl) rfl #[.int .i64 a1_3, .int .i64 a0] rfl a1_ ?_; (with_reducible refine (gotimezone_daysIn.calls a1_3 a0 t237 _ A29.out).mono ?_); rintro e w' ⟨rfl, ⟨nd, rfl⟩⟩; refine ⟨_, rfl, ?_⟩))
               go_roundg k4
               case measure => have := HJ17.out; have := HJ21.out; have := HJ23.out; have := HK4.out; omega
               case rel => exact ⟨(wrap64 (x13_4 + 7)), (wrap64 (x14_4 + 1)), a5_, a5_, H', ⟨by have := HJ17.out; have := HJ21.out; have := HJ23.out; have := HK4.out; omega⟩, ⟨by (with_reducible repeat (first | refine blk_drewN ?_ _ | refine blk_drew ?_ | refine blk_alloc ?_ _)); exact BK235.out⟩, ⟨by repeat (first | (with_reducible first | exact HB.out | apply below_alloc | apply pw_below_drewN | apply below_drew1 | refine below_set ?_ GE235.out) | exact HB.out)⟩⟩
             ·rw [if_neg c28] at H
              have c28b0 := decide_eq_false c28
              clear c28
              (first | rw [c28b0] | (simp only [i64_w, i32_w]; rw [c28b0]) | skip)
              have H' := Aside0.mk H
              clear H
              obtain ⟨hcz33_0, hcz33_1, hcz33_2, hcz33_3, hcz33_4, hfz33_0, hfz33_1, hfz33_2, hfz33_3, hfz33_4⟩ := c5f_ BK235.out
              go_wp2
              go_meet
              case rel => exact ⟨_, (x13_4), a5_, H', ⟨by have := HJ17.out; have := HJ21.out; have := HJ23.out; have := HK4.out; first | omega | exact Nat.le_refl _⟩, ⟨by (with_reducible repeat (first | refine blk_drewN ?_ _ | refine blk_drew ?_ | refine blk_alloc ?_ _)); exact BK235.out⟩, ⟨by repeat (first | (with_reducible first | exact HB.out | apply below_alloc | apply pw_below_drewN | apply below_drew1 | refine below_set ?_ GE235.out) | exact HB.out)⟩⟩
          case rest =>
           clear HC27
           try clear c1
           try clear c2
           try clear p2
           try clear c3
           try clear c4
           try clear c4b0
           try clear c4b1
           try clear c6
           try clear p6
           try clear c7
           try clear c7b0
           try clear c14
           try clear c14b0
           try clear c14b1
           try clear c17
           try clear c17b0
           try clear c17b1
           try clear c21
           try clear c21b0
           try clear c23
           try clear c23b0
           try clear c26
           try clear c26b0
           try clear c28
           try clear c28b0
           try clear c30
           try clear c30b0
           try clear hcz11_0
           try clear hcz11_1
           try clear hcz11_2
           try clear hcz11_3
           try clear hcz11_4
           try clear hcz13_0
           try clear hcz13_1
           try clear hcz13_2
           try clear hcz13_3
           try clear hcz13_4
           try clear hcz16_0
           try clear hcz16_1
           try clear hcz16_2
           try clear hcz16_3
           try clear hcz16_4
           try clear hcz20_0
           try clear hcz20_1
           try clear hcz20_2
           try clear hcz20_3
           try clear hcz20_4
           try clear hcz25_0
           try clear hcz25_1
           try clear hcz25_2
           try clear hcz25_3
           try clear hcz25_4
           try clear hcz31_0
           try clear hcz31_1
           try clear hcz31_2
           try clear hcz31_3
           try clear hcz31_4
           try clear hcz32_0
           try clear hcz32_1
           try clear hcz32_2
           try clear hcz32_3
           try clear hcz32_4
           try clear hcz33_0
           try clear hcz33_1
           try clear hcz33_2
           try clear hcz33_3
           try clear hcz33_4
           try clear hcz9_0
           try clear hcz9_1
           try clear hcz9_2
           try clear hcz9_3
           try clear hcz9_4
           try clear hfz11_0
           try clear hfz11_1
           try clear hfz11_2
           try clear hfz11_3
           try clear hfz11_4
           try clear hfz13_0
           try clear hfz13_1
           try clear hfz13_2
           try clear hfz13_3
           try clear hfz13_4
           try clear hfz16_0
           try clear hfz16_1
           try clear hfz16_2
           try clear hfz16_3
           try clear hfz16_4
           try clear hfz20_0
           try clear hfz20_1
           try clear hfz20_2
           try clear hfz20_3
           try clear hfz20_4
           try clear hfz25_0
           try clear hfz25_1
           try clear hfz25_2
           try clear hfz25_3
           try clear hfz25_4
           try clear hfz31_0
           try clear hfz31_1
           try clear hfz31_2
           try clear hfz31_3
           try clear hfz31_4
           try clear hfz32_0
           try clear hfz32_1
           try clear hfz32_2
           try clear hfz32_3
           try clear hfz32_4
           try clear hfz33_0
           try clear hfz33_1
           try clear hfz33_2
           try clear hfz33_3
           try clear hfz33_4
           try clear hfz9_0
           try clear hfz9_1
           try clear hfz9_2
           try clear hfz9_3
           try clear hfz9_4
           try clear p2
           try clear p6
           obtain ⟨kq, x13_26, rfl, HA, HJ26, BK235, HB⟩ := hcut
           cases kq with
           | zero => exact absurd HA.out (by simp [gotimezone_tzruleTime.j4])
           | succ kj26 =>
            have H := HA.out
            clear HA
            simp only [gotimezone_tzruleTime.j4] at H
            replace H := Option.bind_eq_some_iff.mp H
            obtain ⟨t238, A340, H⟩ := H
            replace H : ((gotimezone_isLeap.f a0).bind fun t239 => (if t239 = true then (if a1_3 > 2 then (some (wrap64 ((wrap64 ((wrap64 ((wrap64 ((wrap64 (x13_26 + t238)) + 1)) * 86400)) + a1_4)) - a2))) else (some (wrap64 ((wrap64 ((wrap64 ((wrap64 (x13_26 + t238)) * 86400)) + a1_4)) - a2)))) else (some (wrap64 ((wrap64 ((wrap64 ((wrap64 (x13_26 + t238)) * 86400)) + a1_4)) - a2))))) = some r := H
            have A34 := Aside0.mk A340
            clear A340
            replace H := Option.bind_eq_some_iff.mp H
            obtain ⟨t239, A350, H⟩ := H
            replace H : (if t239 = true then (if a1_3 > 2 then (some (wrap64 ((wrap64 ((wrap64 ((wrap64 ((wrap64 (x13_26 + t238)) + 1)) * 86400)) + a1_4)) - a2))) else (some (wrap64 ((wrap64 ((wrap64 ((wrap64 (x13_26 + t238)) * 86400)) + a1_4)) - a2)))) else (some (wrap64 ((wrap64 ((wrap64 ((wrap64 (x13_26 + t238)) * 86400)) + a1_4)) - a2)))) = some r := H
            have A35 := Aside0.mk A350
            clear A350
            by_cases c36 : t239 = true
            ·subst c36
             have H1 : (if a1_3 > 2 then (some (wrap64 ((wrap64 ((wrap64 ((wrap64 ((wrap64 (x13_26 + t238)) + 1)) * 86400)) + a1_4)) - a2))) else (some (wrap64 ((wrap64 ((wrap64 ((wrap64 (x13_26 + t238)) * 86400)) + a1_4)) - a2)))) = some r := by rw [if_pos rfl] at H; exact H
             clear H
             have H := H1
             clear H1
             by_cases c37 : a1_3 > 2
             ·rw [if_pos c37] at H
              have c37b0 : decide (2 < a1_3) = true := decide_eq_true c37
              clear c37
              obtain rfl := Option.some.inj H
              obtain ⟨hcz38_0, hcz38_1, hcz38_2, hcz38_3, hcz38_4, hfz38_0, hfz38_1, hfz38_2, hfz38_3, hfz38_4⟩ := c5f_ BK235.out
              go_wp2_with (first | ((with_reducible refine gate_callee (f := 71) rfl ?_); refine goesL_ (some 101) rfl rfl Tryd.func71 (by kernel_rfl) rfl #[.int .i64 a1_3] rfl a1_ ?_; (with_reducible refine (gotimezone_daysBefore.calls a1_3 t238 _ A34.out).mono ?_); rintro e w' ⟨rfl, ⟨nd, rfl⟩⟩; refine ⟨_, rfl, ?_⟩) | ((with_reducible refine gate_callee (f := 69) rfl ?_); refine goesL_ (some 104) rfl rfl Tryd.func69 (by kernel_rfl) rfl #[.int .i64 a0] rfl a1_ ?_; (with_reducible refine (gotimezone_isLeap.calls a0 true _ A35.out).mono ?_); rintro e w' ⟨rfl, ⟨nd, rfl⟩⟩; refine ⟨_, rfl, ?_⟩))
              go_ret
              exact ⟨by first | rfl | (simp [errW_none, errW_some] <;> rfl) | (simp [*, errW_none, errW_some] <;> rfl), by repeat (first | (with_reducible first | exact HB.out | apply below_alloc | apply pw_below_drewN | apply below_drew1 | refine below_set ?_ GE235.out) | exact HB.out)⟩
             ·rw [if_neg c37] at H
              have c37b0 : decide (2 < a1_3) = false := decide_eq_false c37
              clear c37
              obtain rfl := Option.some.inj H
              obtain ⟨hcz39_0, hcz39_1, hcz39_2, hcz39_3, hcz39_4, hfz39_0, hfz39_1, hfz39_2, hfz39_3, hfz39_4⟩ := c5f_ BK235.out
              go_wp2_with (first | ((with_reducible refine gate_callee (f := 71) rfl ?_); refine goesL_ (some 101) rfl rfl Tryd.func71 (by kernel_rfl) rfl #[.int .i64 a1_3] rfl a1_ ?_; (with_reducible refine (gotimezone_daysBefore.calls a1_3 t238 _ A34.out).mono ?_); rintro e w' ⟨rfl, ⟨nd, rfl⟩⟩; refine ⟨_, rfl, ?_⟩) | ((with_reducible refine gate_callee (f := 69) rfl ?_); refine goesL_ (some 104) rfl rfl Tryd.func69 (by kernel_rfl) rfl #[.int .i64 a0] rfl a1_ ?_; (with_reducible refine (gotimezone_isLeap.calls a0 true _ A35.out).mono ?_); rintro e w' ⟨rfl, ⟨nd, rfl⟩⟩; refine ⟨_, rfl, ?_⟩))
              go_ret
              exact ⟨by first | rfl | (simp [errW_none, errW_some] <;> rfl) | (simp [*, errW_none, errW_some] <;> rfl), by repeat (first | (with_reducible first | exact HB.out | apply below_alloc | apply pw_below_drewN | apply below_drew1 | refine below_set ?_ GE235.out) | exact HB.out)⟩
            ·replace c36 := Bool.eq_false_iff.mpr c36
             subst c36
             have H1 : (some (wrap64 ((wrap64 ((wrap64 ((wrap64 (x13_26 + t238)) * 86400)) + a1_4)) - a2))) = some r := by rw [if_neg (show ¬ (false = true) by decide)] at H; exact H
             clear H
             have H := H1
             clear H1
             obtain rfl := Option.some.inj H
             obtain ⟨hcz40_0, hcz40_1, hcz40_2, hcz40_3, hcz40_4, hfz40_0, hfz40_1, hfz40_2, hfz40_3, hfz40_4⟩ := c5f_ BK235.out
             go_wp2_with (first | ((with_reducible refine gate_callee (f := 71) rfl ?_); refine goesL_ (some 101) rfl rfl Tryd.func71 (by kernel_rfl) rfl #[.int .i64 a1_3] rfl a1_ ?_; (with_reducible refine (gotimezone_daysBefore.calls a1_3 t238 _ A34.out).mono ?_); rintro e w' ⟨rfl, ⟨nd, rfl⟩⟩; refine ⟨_, rfl, ?_⟩) | ((with_reducible refine gate_callee (f := 69) rfl ?_); refine goesL_ (some 104) rfl rfl Tryd.func69 (by kernel_rfl) rfl #[.int .i64 a0] rfl a1_ ?_; (with_reducible refine (gotimezone_isLeap.calls a0 false _ A35.out).mono ?_); rintro e w' ⟨rfl, ⟨nd, rfl⟩⟩; refine ⟨_, rfl, ?_⟩))
             go_ret
             exact ⟨by first | rfl | (simp [errW_none, errW_some] <;> rfl) | (simp [*, errW_none, errW_some] <;> rfl), by repeat (first | (with_reducible first | exact HB.out | apply below_alloc | apply pw_below_drewN | apply below_drew1 | refine below_set ?_ GE235.out) | exact HB.out)⟩
   ·rw [if_neg c17] at H
    have c17b0 : (a1_0 == 2) = false := beq_eq_false_iff_ne.mpr c17
    have c17b1 : (a1_0 != 2) = true := bne_iff_ne.mpr c17
    obtain rfl := Option.some.inj H
    go_enter Tryd.func62, Tryd.ntmps62
    go_wp2_with (first | ((with_reducible refine gate_dst (N := 4) rfl ?_); refine box_event ?hg (N := 4) ?hd (cs := #[.int .i64 a1_0, .int .i64 a1_1, .int .i64 a1_2, .int .i64 a1_3, .int .i64 a1_4]) (t := 120) ?hr ?_; (case hd => rfl); (case hg => rfl); (case hr => first | (go_simp; done) | (go_simp; rfl)); intro gb235 hg w41 hbox hb; have n0_ := Aside0.mk (below_step a0_ hb); have n1_ := Aside0.mk (hbox); have n2_ := Aside0.mk ((by rw [hg]; exact (below_size a0_) : w.heap.size ≤ gb235)); have n3_ := Aside0.mk ((by rw [hg]; exact (below_size a0_) : w.heap.size ≤ gb235)); clear HB; have HB := n0_; have BK235 := n1_; have GW235 := n2_; have GE235 := n3_; clear n0_ n1_ n2_ n3_; clear hb hbox hg; obtain ⟨hcz42_0, hcz42_1, hcz42_2, hcz42_3, hcz42_4, hfz42_0, hfz42_1, hfz42_2, hfz42_3, hfz42_4⟩ := c5f_ BK235.out))
    go_ret
    exact ⟨by first | rfl | (simp [errW_none, errW_some] <;> rfl) | (simp [*, errW_none, errW_some] <;> rfl), by repeat (first | (with_reducible first | exact HB.out | apply below_alloc | apply pw_below_drewN | apply below_drew1 | refine below_set ?_ GE235.out) | exact HB.out)⟩
end Go.Proofs.YtjoaeennbfmohaaDoor.PFnZone
