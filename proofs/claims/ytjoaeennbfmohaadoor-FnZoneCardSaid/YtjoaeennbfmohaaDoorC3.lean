/- The walks of some functions. Laid by programs (wip/mkq.py, wip/mkclaim.py) out of the texts that the kit's print.sh wrote for this seat, written shorter. Not written by hand. -/
import Derived.Test.YtjoaeennbfmohaaDoorC0
import Derived.Test.YtjoaeennbfmohaaDoorC1
import Derived.Test.YtjoaeennbfmohaaDoorC2
namespace Go.Proofs.YtjoaeennbfmohaaDoor.PFnZone
open Go.RowKit Go.Proofs.YtjoaeennbfmohaaDoorW.PrintWords Go.Proofs.YtjoaeennbfmohaaDoorW.PrintLast Go.Proofs.YtjoaeennbfmohaaDoorW.PrintMore
attribute [local go_sem] max2_int min2_int max_two min_two max_three min_three max_four min_four   -- for this text's walks alone
set_option linter.unusedVariables false
set_option linter.unusedSimpArgs false
def spec_SeasonOk.f (k : Nat) (a0_0 : ByteArray) (a0_1 : Int) (a0_2 : Bool) (a0_3 : ByteArray) (a0_4 : Int) (a0_5 : Bool) (a0_6 : Int) (a0_7 : Int) (a0_8 : Int) (a0_9 : Int) (a0_10 : Int) (a0_11 : Int) (a0_12 : Int) (a0_13 : Int) (a0_14 : Int) (a0_15 : Int) : Option (Bool) := (spec_Bracketed.f k a0_0).bind fun t116 => (if t116 = true then ((spec_Bracketed.f k a0_3).bind fun t117 => (if t117 = true then ((spec_Within.f a0_1 (-86400) 86400).bind fun t118 => (if t118 = true then ((spec_Within.f a0_4 (-86400) 86400).bind fun t119 => (if t119 = true then ((spec_RuleOk.f a0_6 a0_7 a0_8 a0_9 a0_10).bind fun t120 => (if t120 = true then ((spec_RuleOk.f a0_11 a0_12 a0_13 a0_14 a0_15).bind fun t121 => (some t121)) else (some false))) else (some false))) else (some false))) else (some false))) else (some false))
set_option maxHeartbeats 8000000 in
set_option maxRecDepth 100000 in
theorem spec_SeasonOk.calls (k : Nat) (a0_0 : ByteArray) (a0_1 : Int) (a0_2 : Bool) (a0_3 : ByteArray) (a0_4 : Int) (a0_5 : Bool) (a0_6 : Int) (a0_7 : Int) (a0_8 : Int) (a0_9 : Int) (a0_10 : Int) (a0_11 : Int) (a0_12 : Int) (a0_13 : Int) (a0_14 : Int) (a0_15 : Int) (r : Bool) (w : World) (h : spec_SeasonOk.f k a0_0 a0_1 a0_2 a0_3 a0_4 a0_5 a0_6 a0_7 a0_8 a0_9 a0_10 a0_11 a0_12 a0_13 a0_14 a0_15 = some r) :
  Calls Tryd.prog 6 #[.agg #[.string a0_0, .int .i64 a0_1, .bool a0_2, .string a0_3, .int .i64 a0_4, .bool a0_5, .int .i64 a0_6, .int .i64 a0_7, .int .i64 a0_8, .int .i64 a0_9, .int .i64 a0_10, .int .i64 a0_11, .int .i64 a0_12, .int .i64 a0_13, .int .i64 a0_14, .int .i64 a0_15]] w fun e w' => e = .returned (.bool r) ∧ Below w.heap.size w w' := by
 have hu33 := Tryd.underlying33
 have hu29 := Tryd.underlying29
 have HB := Aside0.mk (Below.refl w.heap.size w)
 have H : ((spec_Bracketed.f k a0_0).bind fun t116 => (if t116 = true then ((spec_Bracketed.f k a0_3).bind fun t117 => (if t117 = true then ((spec_Within.f a0_1 (-86400) 86400).bind fun t118 => (if t118 = true then ((spec_Within.f a0_4 (-86400) 86400).bind fun t119 => (if t119 = true then ((spec_RuleOk.f a0_6 a0_7 a0_8 a0_9 a0_10).bind fun t120 => (if t120 = true then ((spec_RuleOk.f a0_11 a0_12 a0_13 a0_14 a0_15).bind fun t121 => (some t121)) else (some false))) else (some false))) else (some false))) else (some false))) else (some false))) = some r := h
 clear h
 replace H := Option.bind_eq_some_iff.mp H
 obtain ⟨t116, A20, H⟩ := H
 replace H : (if t116 = true then ((spec_Bracketed.f k a0_3).bind fun t117 => (if t117 = true then ((spec_Within.f a0_1 (-86400) 86400).bind fun t118 => (if t118 = true then ((spec_Within.f a0_4 (-86400) 86400).bind fun t119 => (if t119 = true then ((spec_RuleOk.f a0_6 a0_7 a0_8 a0_9 a0_10).bind fun t120 => (if t120 = true then ((spec_RuleOk.f a0_11 a0_12 a0_13 a0_14 a0_15).bind fun t121 => (some t121)) else (some false))) else (some false))) else (some false))) else (some false))) else (some false)) = some r := H
 have A2 := Aside0.mk A20
 clear A20
 by_cases c3 : t116 = true
 ·subst c3
  have H1 : ((spec_Bracketed.f k a0_3).bind fun t117 => (if t117 = true then ((spec_Within.f a0_1 (-86400) 86400).bind fun t118 => (if t118 = true then ((spec_Within.f a0_4 (-86400) 86400).bind fun t119 => (if t119 = true then ((spec_RuleOk.f a0_6 a0_7 a0_8 a0_9 a0_10).bind fun t120 => (if t120 = true then ((spec_RuleOk.f a0_11 a0_12 a0_13 a0_14 a0_15).bind fun t121 => (some t121)) else (some false))) else (some false))) else (some false))) else (some false))) = some r := by rw [if_pos rfl] at H; exact H
  clear H
  have H := H1
  clear H1
  replace H := Option.bind_eq_some_iff.mp H
  obtain ⟨t117, A40, H⟩ := H
  replace H : (if t117 = true then ((spec_Within.f a0_1 (-86400) 86400).bind fun t118 => (if t118 = true then ((spec_Within.f a0_4 (-86400) 86400).bind fun t119 => (if t119 = true then ((spec_RuleOk.f a0_6 a0_7 a0_8 a0_9 a0_10).bind fun t120 => (if t120 = true then ((spec_RuleOk.f a0_11 a0_12 a0_13 a0_14 a0_15).bind fun t121 => (some t121)) else (some false))) else (some false))) else (some false))) else (some false)) = some r := H
  have A4 := Aside0.mk A40
  clear A40
  by_cases c5 : t117 = true
  ·subst c5
   have H1 : ((spec_Within.f a0_1 (-86400) 86400).bind fun t118 => (if t118 = true then ((spec_Within.f a0_4 (-86400) 86400).bind fun t119 => (if t119 = true then ((spec_RuleOk.f a0_6 a0_7 a0_8 a0_9 a0_10).bind fun t120 => (if t120 = true then ((spec_RuleOk.f a0_11 a0_12 a0_13 a0_14 a0_15).bind fun t121 => (some t121)) else (some false))) else (some false))) else (some false))) = some r := by rw [if_pos rfl] at H; exact H
   clear H
   have H := H1
   clear H1
   replace H := Option.bind_eq_some_iff.mp H
   obtain ⟨t118, A60, H⟩ := H
   replace H : (if t118 = true then ((spec_Within.f a0_4 (-86400) 86400).bind fun t119 => (if t119 = true then ((spec_RuleOk.f a0_6 a0_7 a0_8 a0_9 a0_10).bind fun t120 => (if t120 = true then ((spec_RuleOk.f a0_11 a0_12 a0_13 a0_14 a0_15).bind fun t121 => (some t121)) else (some false))) else (some false))) else (some false)) = some r := H
   have A6 := Aside0.mk A60
   clear A60
   by_cases c7 : t118 = true
   ·subst c7
    have H1 : ((spec_Within.f a0_4 (-86400) 86400).bind fun t119 => (if t119 = true then ((spec_RuleOk.f a0_6 a0_7 a0_8 a0_9 a0_10).bind fun t120 => (if t120 = true then ((spec_RuleOk.f a0_11 a0_12 a0_13 a0_14 a0_15).bind fun t121 => (some t121)) else (some false))) else (some false))) = some r := by rw [if_pos rfl] at H; exact H
    clear H
    have H := H1
    clear H1
    replace H := Option.bind_eq_some_iff.mp H
    obtain ⟨t119, A80, H⟩ := H
    replace H : (if t119 = true then ((spec_RuleOk.f a0_6 a0_7 a0_8 a0_9 a0_10).bind fun t120 => (if t120 = true then ((spec_RuleOk.f a0_11 a0_12 a0_13 a0_14 a0_15).bind fun t121 => (some t121)) else (some false))) else (some false)) = some r := H
    have A8 := Aside0.mk A80
    clear A80
    by_cases c9 : t119 = true
    ·subst c9
     have H1 : ((spec_RuleOk.f a0_6 a0_7 a0_8 a0_9 a0_10).bind fun t120 => (if t120 = true then ((spec_RuleOk.f a0_11 a0_12 a0_13 a0_14 a0_15).bind fun t121 => (some t121)) else (some false))) = some r := by rw [if_pos rfl] at H; exact H
     clear H
     have H := H1
     clear H1
     replace H := Option.bind_eq_some_iff.mp H
     obtain ⟨t120, A100, H⟩ := H
     replace H : (if t120 = true then ((spec_RuleOk.f a0_11 a0_12 a0_13 a0_14 a0_15).bind fun t121 => (some t121)) else (some false)) = some r := H
     have A10 := Aside0.mk A100
     clear A100
     by_cases c11 : t120 = true
     ·subst c11
      have H1 : ((spec_RuleOk.f a0_11 a0_12 a0_13 a0_14 a0_15).bind fun t121 => (some t121)) = some r := by rw [if_pos rfl] at H; exact H
      clear H
      have H := H1
      clear H1
      replace H := Option.bind_eq_some_iff.mp H
      obtain ⟨t121, A120, H⟩ := H
      replace H : (some t121) = some r := H
      have A12 := Aside0.mk A120
      clear A120
      obtain rfl := Option.some.inj H
      go_enter Tryd.func6, Tryd.ntmps6
      go_wp2_with (first | ((with_reducible refine gate_dst (N := 1) rfl ?_); refine box_event ?hg (N := 1) ?hd (cs := #[.string a0_0, .int .i64 a0_1, .bool a0_2, .string a0_3, .int .i64 a0_4, .bool a0_5, .int .i64 a0_6, .int .i64 a0_7, .int .i64 a0_8, .int .i64 a0_9, .int .i64 a0_10, .int .i64 a0_11, .int .i64 a0_12, .int .i64 a0_13, .int .i64 a0_14, .int .i64 a0_15]) (t := 33) ?hr ?_; (case hd => rfl); (case hg => rfl); (case hr => first | (go_simp; done) | (go_simp; rfl)); intro gb115 hg w13 hbox hb; have n0_ := Aside0.mk (below_step a0_ hb); have n1_ := Aside0.mk (hbox); have n2_ := Aside0.mk ((by rw [hg]; exact (below_size a0_) : w.heap.size ≤ gb115)); have n3_ := Aside0.mk ((by rw [hg]; exact (below_size a0_) : w.heap.size ≤ gb115)); clear HB; have HB := n0_; have BK115 := n1_; have GW115 := n2_; have GE115 := n3_; clear n0_ n1_ n2_ n3_; clear hb hbox hg; obtain ⟨hcz14_0, hcz14_1, hcz14_2, hcz14_3, hcz14_4, hcz14_5, hcz14_6, hcz14_7, hcz14_8, hcz14_9, hcz14_10, hcz14_11, hcz14_12, hcz14_13, hcz14_14, hcz14_15, hfz14_0, hfz14_1, hfz14_2, hfz14_3, hfz14_4, hfz14_5, hfz14_6, hfz14_7, hfz14_8, hfz14_9, hfz14_10, hfz14_11, hfz14_12, hfz14_13, hfz14_14, hfz14_15⟩ := c16f_ BK115.out) | ((with_reducible refine gate_callee (f := 17) rfl ?_); refine goesL_ (some 6) rfl rfl Tryd.func17 (by kernel_rfl) rfl #[.string a0_0] rfl a1_ ?_; (with_reducible refine (spec_Bracketed.calls k a0_0 true _ A2.out).mono ?_); rintro e w' ⟨rfl, ⟨nd, rfl⟩⟩; refine ⟨_, rfl, ?_⟩) | (go_at_call 17; (with_reducible refine (spec_Bracketed.calls k a0_3 true _ A4.out).mono ?_); rintro e w' ⟨rfl, ⟨nd, rfl⟩⟩) | (go_at_call 18; (with_reducible refine (spec_Within.calls a0_1 (-86400) 86400 true _ A6.out).mono ?_); rintro e w' ⟨rfl, ⟨nd, rfl⟩⟩) | (go_at_call 18; (with_reducible refine (spec_Within.calls a0_4 (-86400) 86400 true _ A8.out).mono ?_); rintro e w' ⟨rfl, ⟨nd, rfl⟩⟩) | (go_at_call 19; (with_reducible refine (spec_RuleOk.calls a0_6 a0_7 a0_8 a0_9 a0_10 true _ A10.out).mono ?_); rintro e w15 ⟨rfl, hb⟩; have n0_ := Aside0.mk (blk_below (g := gb115) (o := .cells #[.string a0_0, .int .i64 a0_1, .bool a0_2, .string a0_3, .int .i64 a0_4, .bool a0_5, .int .i64 a0_6, .int .i64 a0_7, .int .i64 a0_8, .int .i64 a0_9, .int .i64 a0_10, .int .i64 a0_11, .int .i64 a0_12, .int .i64 a0_13, .int .i64 a0_14, .int .i64 a0_15] 33 (0, 0)) a48_ hb); have n1_ := Aside0.mk (below_step a46_ hb); clear BK115; clear HB; have BK115 := n0_; have HB := n1_; clear n0_ n1_; (try clear hb); (try clear hb2); (try clear hk); (try clear hi); obtain ⟨hcz16_0, hcz16_1, hcz16_2, hcz16_3, hcz16_4, hcz16_5, hcz16_6, hcz16_7, hcz16_8, hcz16_9, hcz16_10, hcz16_11, hcz16_12, hcz16_13, hcz16_14, hcz16_15, hfz16_0, hfz16_1, hfz16_2, hfz16_3, hfz16_4, hfz16_5, hfz16_6, hfz16_7, hfz16_8, hfz16_9, hfz16_10, hfz16_11, hfz16_12, hfz16_13, hfz16_14, hfz16_15⟩ := c16f_ BK115.out) | (go_at_call 19; (with_reducible refine (spec_RuleOk.calls a0_11 a0_12 a0_13 a0_14 a0_15 t121 _ A12.out).mono ?_); rintro e w17 ⟨rfl, hb⟩; have n0_ := Aside0.mk (blk_below (g := gb115) (o := .cells #[.string a0_0, .int .i64 a0_1, .bool a0_2, .string a0_3, .int .i64 a0_4, .bool a0_5, .int .i64 a0_6, .int .i64 a0_7, .int .i64 a0_8, .int .i64 a0_9, .int .i64 a0_10, .int .i64 a0_11, .int .i64 a0_12, .int .i64 a0_13, .int .i64 a0_14, .int .i64 a0_15] 33 (0, 0)) a48_ hb); have n1_ := Aside0.mk (below_step a46_ hb); clear BK115; clear HB; have BK115 := n0_; have HB := n1_; clear n0_ n1_; (try clear hb); (try clear hb2); (try clear hk); (try clear hi)))
      go_ret
      exact ⟨by first | rfl | (simp [errW_none, errW_some] <;> rfl) | (simp [*, errW_none, errW_some] <;> rfl), by repeat (first | (with_reducible first | exact HB.out | apply below_alloc | apply pw_below_drewN | apply below_drew1 | refine below_set ?_ GE115.out) | exact HB.out)⟩
     ·replace c11 := Bool.eq_false_iff.mpr c11
      subst c11
      have H1 : (some false) = some r := by rw [if_neg (show ¬ (false = true) by decide)] at H; exact H
      clear H
      have H := H1
      clear H1
      obtain rfl := Option.some.inj H
      go_enter Tryd.func6, Tryd.ntmps6
      go_wp2_with (first | ((with_reducible refine gate_dst (N := 1) rfl ?_); refine box_event ?hg (N := 1) ?hd (cs := #[.string a0_0, .int .i64 a0_1, .bool a0_2, .string a0_3, .int .i64 a0_4, .bool a0_5, .int .i64 a0_6, .int .i64 a0_7, .int .i64 a0_8, .int .i64 a0_9, .int .i64 a0_10, .int .i64 a0_11, .int .i64 a0_12, .int .i64 a0_13, .int .i64 a0_14, .int .i64 a0_15]) (t := 33) ?hr ?_; (case hd => rfl); (case hg => rfl); (case hr => first | (go_simp; done) | (go_simp; rfl)); intro gb115 hg w18 hbox hb; have n0_ := Aside0.mk (below_step a0_ hb); have n1_ := Aside0.mk (hbox); have n2_ := Aside0.mk ((by rw [hg]; exact (below_size a0_) : w.heap.size ≤ gb115)); have n3_ := Aside0.mk ((by rw [hg]; exact (below_size a0_) : w.heap.size ≤ gb115)); clear HB; have HB := n0_; have BK115 := n1_; have GW115 := n2_; have GE115 := n3_; clear n0_ n1_ n2_ n3_; clear hb hbox hg; obtain ⟨hcz19_0, hcz19_1, hcz19_2, hcz19_3, hcz19_4, hcz19_5, hcz19_6, hcz19_7, hcz19_8, hcz19_9, hcz19_10, hcz19_11, hcz19_12, hcz19_13, hcz19_14, hcz19_15, hfz19_0, hfz19_1, hfz19_2, hfz19_3, hfz19_4, hfz19_5, hfz19_6, hfz19_7, hfz19_8, hfz19_9, hfz19_10, hfz19_11, hfz19_12, hfz19_13, hfz19_14, hfz19_15⟩ := c16f_ BK115.out) | ((with_reducible refine gate_callee (f := 17) rfl ?_); refine goesL_ (some 6) rfl rfl Tryd.func17 (by kernel_rfl) rfl #[.string a0_0] rfl a1_ ?_; (with_reducible refine (spec_Bracketed.calls k a0_0 true _ A2.out).mono ?_); rintro e w' ⟨rfl, ⟨nd, rfl⟩⟩; refine ⟨_, rfl, ?_⟩) | (go_at_call 17; (with_reducible refine (spec_Bracketed.calls k a0_3 true _ A4.out).mono ?_); rintro e w' ⟨rfl, ⟨nd, rfl⟩⟩) | (go_at_call 18; (with_reducible refine (spec_Within.calls a0_1 (-86400) 86400 true _ A6.out).mono ?_); rintro e w' ⟨rfl, ⟨nd, rfl⟩⟩) | (go_at_call 18; (with_reducible refine (spec_Within.calls a0_4 (-86400) 86400 true _ A8.out).mono ?_); rintro e w' ⟨rfl, ⟨nd, rfl⟩⟩) | (go_at_call 19; (with_reducible refine (spec_RuleOk.calls a0_6 a0_7 a0_8 a0_9 a0_10 false _ A10.out).mono ?_); rintro e w20 ⟨rfl, hb⟩; have n0_ := Aside0.mk (blk_below (g := gb115) (o := .cells #[.string a0_0, .int .i64 a0_1, .bool a0_2, .string a0_3, .int .i64 a0_4, .bool a0_5, .int .i64 a0_6, .int .i64 a0_7, .int .i64 a0_8, .int .i64 a0_9, .int .i64 a0_10, .int .i64 a0_11, .int .i64 a0_12, .int .i64 a0_13, .int .i64 a0_14, .int .i64 a0_15] 33 (0, 0)) a48_ hb); have n1_ := Aside0.mk (below_step a46_ hb); clear BK115; clear HB; have BK115 := n0_; have HB := n1_; clear n0_ n1_; (try clear hb); (try clear hb2); (try clear hk); (try clear hi)))
      go_ret
      exact ⟨by first | rfl | (simp [errW_none, errW_some] <;> rfl) | (simp [*, errW_none, errW_some] <;> rfl), by repeat (first | (with_reducible first | exact HB.out | apply below_alloc | apply pw_below_drewN | apply below_drew1 | refine below_set ?_ GE115.out) | exact HB.out)⟩
    ·replace c9 := Bool.eq_false_iff.mpr c9
     subst c9
     have H1 : (some false) = some r := by rw [if_neg (show ¬ (false = true) by decide)] at H; exact H
     clear H
     have H := H1
     clear H1
     obtain rfl := Option.some.inj H
     go_enter Tryd.func6, Tryd.ntmps6
     go_wp2_with (first | ((with_reducible refine gate_dst (N := 1) rfl ?_); refine box_event ?hg (N := 1) ?hd (cs := #[.string a0_0, .int .i64 a0_1, .bool a0_2, .string a0_3, .int .i64 a0_4, .bool a0_5, .int .i64 a0_6, .int .i64 a0_7, .int .i64 a0_8, .int .i64 a0_9, .int .i64 a0_10, .int .i64 a0_11, .int .i64 a0_12, .int .i64 a0_13, .int .i64 a0_14, .int .i64 a0_15]) (t := 33) ?hr ?_; (case hd => rfl); (case hg => rfl); (case hr => first | (go_simp; done) | (go_simp; rfl)); intro gb115 hg w21 hbox hb; have n0_ := Aside0.mk (below_step a0_ hb); have n1_ := Aside0.mk (hbox); have n2_ := Aside0.mk ((by rw [hg]; exact (below_size a0_) : w.heap.size ≤ gb115)); have n3_ := Aside0.mk ((by rw [hg]; exact (below_size a0_) : w.heap.size ≤ gb115)); clear HB; have HB := n0_; have BK115 := n1_; have GW115 := n2_; have GE115 := n3_; clear n0_ n1_ n2_ n3_; clear hb hbox hg; obtain ⟨hcz22_0, hcz22_1, hcz22_2, hcz22_3, hcz22_4, hcz22_5, hcz22_6, hcz22_7, hcz22_8, hcz22_9, hcz22_10, hcz22_11, hcz22_12, hcz22_13, hcz22_14, hcz22_15, hfz22_0, hfz22_1, hfz22_2, hfz22_3, hfz22_4, hfz22_5, hfz22_6, hfz22_7, hfz22_8, hfz22_9, hfz22_10, hfz22_11, hfz22_12, hfz22_13, hfz22_14, hfz22_15⟩ := c16f_ BK115.out) | ((with_reducible refine gate_callee (f := 17) rfl ?_); refine goesL_ (some 6) rfl rfl Tryd.func17 (by kernel_rfl) rfl #[.string a0_0] rfl a1_ ?_; (with_reducible refine (spec_Bracketed.calls k a0_0 true _ A2.out).mono ?_); rintro e w' ⟨rfl, ⟨nd, rfl⟩⟩; refine ⟨_, rfl, ?_⟩) | (go_at_call 17; (with_reducible refine (spec_Bracketed.calls k a0_3 true _ A4.out).mono ?_); rintro e w' ⟨rfl, ⟨nd, rfl⟩⟩) | (go_at_call 18; (with_reducible refine (spec_Within.calls a0_1 (-86400) 86400 true _ A6.out).mono ?_); rintro e w' ⟨rfl, ⟨nd, rfl⟩⟩) | (go_at_call 18; (with_reducible refine (spec_Within.calls a0_4 (-86400) 86400 false _ A8.out).mono ?_); rintro e w' ⟨rfl, ⟨nd, rfl⟩⟩))
     go_ret
     exact ⟨by first | rfl | (simp [errW_none, errW_some] <;> rfl) | (simp [*, errW_none, errW_some] <;> rfl), by repeat (first | (with_reducible first | exact HB.out | apply below_alloc | apply pw_below_drewN | apply below_drew1 | refine below_set ?_ GE115.out) | exact HB.out)⟩
   ·replace c7 := Bool.eq_false_iff.mpr c7
    subst c7
    have H1 : (some false) = some r := by rw [if_neg (show ¬ (false = true) by decide)] at H; exact H
    clear H
    have H := H1
    clear H1
    obtain rfl := Option.some.inj H
    go_enter Tryd.func6, Tryd.ntmps6
    go_wp2_with (first | ((with_reducible refine gate_dst (N := 1) rfl ?_); refine box_event ?hg (N := 1) ?hd (cs := #[.string a0_0, .int .i64 a0_1, .bool a0_2, .string a0_3, .int .i64 a0_4, .bool a0_5, .int .i64 a0_6, .int .i64 a0_7, .int .i64 a0_8, .int .i64 a0_9, .int .i64 a0_10, .int .i64 a0_11, .int .i64 a0_12, .int .i64 a0_13, .int .i64 a0_14, .int .i64 a0_15]) (t := 33) ?hr ?_; (case hd => rfl); (case hg => rfl); (case hr => first | (go_simp; done) | (go_simp; rfl)); intro gb115 hg w23 hbox hb; have n0_ := Aside0.mk (below_step a0_ hb); have n1_ := Aside0.mk (hbox); have n2_ := Aside0.mk ((by rw [hg]; exact (below_size a0_) : w.heap.size ≤ gb115)); have n3_ := Aside0.mk ((by rw [hg]; exact (below_size a0_) : w.heap.size ≤ gb115)); clear HB; have HB := n0_; have BK115 := n1_; have GW115 := n2_; have GE115 := n3_; clear n0_ n1_ n2_ n3_; clear hb hbox hg; obtain ⟨hcz24_0, hcz24_1, hcz24_2, hcz24_3, hcz24_4, hcz24_5, hcz24_6, hcz24_7, hcz24_8, hcz24_9, hcz24_10, hcz24_11, hcz24_12, hcz24_13, hcz24_14, hcz24_15, hfz24_0, hfz24_1, hfz24_2, hfz24_3, hfz24_4, hfz24_5, hfz24_6, hfz24_7, hfz24_8, hfz24_9, hfz24_10, hfz24_11, hfz24_12, hfz24_13, hfz24_14, hfz24_15⟩ := c16f_ BK115.out) | ((with_reducible refine gate_callee (f := 17) rfl ?_); refine goesL_ (some 6) rfl rfl Tryd.func17 (by kernel_rfl) rfl #[.string a0_0] rfl a1_ ?_; (with_reducible refine (spec_Bracketed.calls k a0_0 true _ A2.out).mono ?_); rintro e w' ⟨rfl, ⟨nd, rfl⟩⟩; refine ⟨_, rfl, ?_⟩) | (go_at_call 17; (with_reducible refine (spec_Bracketed.calls k a0_3 true _ A4.out).mono ?_); rintro e w' ⟨rfl, ⟨nd, rfl⟩⟩) | (go_at_call 18; (with_reducible refine (spec_Within.calls a0_1 (-86400) 86400 false _ A6.out).mono ?_); rintro e w' ⟨rfl, ⟨nd, rfl⟩⟩))
    go_ret
    exact ⟨by first | rfl | (simp [errW_none, errW_some] <;> rfl) | (simp [*, errW_none, errW_some] <;> rfl), by repeat (first | (with_reducible first | exact HB.out | apply below_alloc | apply pw_below_drewN | apply below_drew1 | refine below_set ?_ GE115.out) | exact HB.out)⟩
  ·replace c5 := Bool.eq_false_iff.mpr c5
   subst c5
   have H1 : (some false) = some r := by rw [if_neg (show ¬ (false = true) by decide)] at H; exact H
   clear H
   have H := H1
   clear H1
   obtain rfl := Option.some.inj H
   go_enter Tryd.func6, Tryd.ntmps6
   go_wp2_with (first | ((with_reducible refine gate_dst (N := 1) rfl ?_); refine box_event ?hg (N := 1) ?hd (cs := #[.string a0_0, .int .i64 a0_1, .bool a0_2, .string a0_3, .int .i64 a0_4, .bool a0_5, .int .i64 a0_6, .int .i64 a0_7, .int .i64 a0_8, .int .i64 a0_9, .int .i64 a0_10, .int .i64 a0_11, .int .i64 a0_12, .int .i64 a0_13, .int .i64 a0_14, .int .i64 a0_15]) (t := 33) ?hr ?_; (case hd => rfl); (case hg => rfl); (case hr => first | (go_simp; done) | (go_simp; rfl)); intro gb115 hg w25 hbox hb; have n0_ := Aside0.mk (below_step a0_ hb); have n1_ := Aside0.mk (hbox); have n2_ := Aside0.mk ((by rw [hg]; exact (below_size a0_) : w.heap.size ≤ gb115)); have n3_ := Aside0.mk ((by rw [hg]; exact (below_size a0_) : w.heap.size ≤ gb115)); clear HB; have HB := n0_; have BK115 := n1_; have GW115 := n2_; have GE115 := n3_; clear n0_ n1_ n2_ n3_; clear hb hbox hg; obtain ⟨hcz26_0, hcz26_1, hcz26_2, hcz26_3, hcz26_4, hcz26_5, hcz26_6, hcz26_7, hcz26_8, hcz26_9, hcz26_10, hcz26_11, hcz26_12, hcz26_13, hcz26_14, hcz26_15, hfz26_0, hfz26_1, hfz26_2, hfz26_3, hfz26_4, hfz26_5, hfz26_6, hfz26_7, hfz26_8, hfz26_9, hfz26_10, hfz26_11, hfz26_12, hfz26_13, hfz26_14, hfz26_15⟩ := c16f_ BK115.out) | ((with_reducible refine gate_callee (f := 17) rfl ?_); refine goesL_ (some 6) rfl rfl Tryd.func17 (by kernel_rfl) rfl #[.string a0_0] rfl a1_ ?_; (with_reducible refine (spec_Bracketed.calls k a0_0 true _ A2.out).mono ?_); rintro e w' ⟨rfl, ⟨nd, rfl⟩⟩; refine ⟨_, rfl, ?_⟩) | (go_at_call 17; (with_reducible refine (spec_Bracketed.calls k a0_3 false _ A4.out).mono ?_); rintro e w' ⟨rfl, ⟨nd, rfl⟩⟩))
   go_ret
   exact ⟨by first | rfl | (simp [errW_none, errW_some] <;> rfl) | (simp [*, errW_none, errW_some] <;> rfl), by repeat (first | (with_reducible first | exact HB.out | apply below_alloc | apply pw_below_drewN | apply below_drew1 | refine below_set ?_ GE115.out) | exact HB.out)⟩
 ·replace c3 := Bool.eq_false_iff.mpr c3
  subst c3
  have H1 : (some false) = some r := by rw [if_neg (show ¬ (false = true) by decide)] at H; exact H
  clear H
  have H := H1
  clear H1
  obtain rfl := Option.some.inj H
  go_enter Tryd.func6, Tryd.ntmps6
  go_wp2_with (first | ((with_reducible refine gate_dst (N := 1) rfl ?_); refine box_event ?hg (N := 1) ?hd (cs := #[.string a0_0, .int .i64 a0_1, .bool a0_2, .string a0_3, .int .i64 a0_4, .bool a0_5, .int .i64 a0_6, .int .i64 a0_7, .int .i64 a0_8, .int .i64 a0_9, .int .i64 a0_10, .int .i64 a0_11, .int .i64 a0_12, .int .i64 a0_13, .int .i64 a0_14, .int .i64 a0_15]) (t := 33) ?hr ?_; (case hd => rfl); (case hg => rfl); (case hr => first | (go_simp; done) | (go_simp; rfl)); intro gb115 hg w27 hbox hb; have n0_ := Aside0.mk (below_step a0_ hb); have n1_ := Aside0.mk (hbox); have n2_ := Aside0.mk ((by rw [hg]; exact (below_size a0_) : w.heap.size ≤ gb115)); have n3_ := Aside0.mk ((by rw [hg]; exact (below_size a0_) : w.heap.size ≤ gb115)); clear HB; have HB := n0_; have BK115 := n1_; have GW115 := n2_; have GE115 := n3_; clear n0_ n1_ n2_ n3_; clear hb hbox hg; obtain ⟨hcz28_0, hcz28_1, hcz28_2, hcz28_3, hcz28_4, hcz28_5, hcz28_6, hcz28_7, hcz28_8, hcz28_9, hcz28_10, hcz28_11, hcz28_12, hcz28_13, hcz28_14, hcz28_15, hfz28_0, hfz28_1, hfz28_2, hfz28_3, hfz28_4, hfz28_5, hfz28_6, hfz28_7, hfz28_8, hfz28_9, hfz28_10, hfz28_11, hfz28_12, hfz28_13, hfz28_14, hfz28_15⟩ := c16f_ BK115.out) | ((with_reducible refine gate_callee (f := 17) rfl ?_); refine goesL_ (some 6) rfl rfl Tryd.func17 (by kernel_rfl) rfl #[.string a0_0] rfl a1_ ?_; (with_reducible refine (spec_Bracketed.calls k a0_0 false _ A2.out).mono ?_); rintro e w' ⟨rfl, ⟨nd, rfl⟩⟩; refine ⟨_, rfl, ?_⟩))
  go_ret
  exact ⟨by first | rfl | (simp [errW_none, errW_some] <;> rfl) | (simp [*, errW_none, errW_some] <;> rfl), by repeat (first | (with_reducible first | exact HB.out | apply below_alloc | apply pw_below_drewN | apply below_drew1 | refine below_set ?_ GE115.out) | exact HB.out)⟩
def gotimezone_indexByte.l0 : Nat → Int → List Int → Int → Int → Option (Int)
 | 0, _, _, _, _ => none
 | k + 1, x1, x7, x8, x9 => if x9 < x8 then (if 0 ≤ x9 then (if x9 < (x7.length : Int) then (if (rd x7 x9) = x1 then (some x9) else (gotimezone_indexByte.l0 k x1 x7 x8 (wrap64 (x9 + 1)))) else (none)) else (none)) else (some (-1))
def gotimezone_indexByte.f (k : Nat) (l0 : List Int) (a1 : Int) : Option (Int) := gotimezone_indexByte.l0 k a1 l0 (l0.length : Int) 0
set_option maxHeartbeats 8000000 in
set_option maxRecDepth 100000 in
theorem gotimezone_indexByte.calls (k : Nat) (A0 : Option Addr) (c0 : Nat) (l0 : List Int) (a1 : Int) (r : Int) (w : World) (hr0 : Kd.C (Kd.int .u8) w A0 l0.length l0) (hc0 : l0.length ≤ c0) (h : gotimezone_indexByte.f k l0 a1 = some r) :
  Calls Tryd.prog 52 #[.slice A0 l0.length c0, .int .u8 a1] w fun e w' => e = .returned (.int .i64 r) ∧ Drawn0 w w' := by
 have HR0 := Aside0.mk hr0
 have HC0 := Aside0.mk hc0
 clear hr0 hc0
 have H : (gotimezone_indexByte.l0 k a1 l0 (l0.length : Int) 0) = some r := h
 clear h
 have H' := Aside0.mk H
 clear H
 go_enter Tryd.func52, Tryd.ntmps52
 go_wp2
 go_loopg [9] k (fun kq v9 w' => ∃ (x9_1 : Int), v9 = .int .i64 x9_1 ∧ Aside0 (gotimezone_indexByte.l0 kq a1 l0 (l0.length : Int) x9_1 = some r) ∧ Aside0 (kq ≤ k) ∧ Drawn0 w w')
 case atStart => exact ⟨(0), a5_, H', ⟨Nat.le_refl _⟩, by repeat (first | exact Drawn0.refl _ | apply Drawn0.step)⟩
 case round =>
  clear H'
  try clear p2
  obtain ⟨x9_1, rfl, HA, HK1, ⟨m1, rfl⟩⟩ := hrel
  cases gk with
  | zero => exact absurd HA.out (by simp [gotimezone_indexByte.l0])
  | succ k1 =>
   have H := HA.out
   clear HA
   simp only [gotimezone_indexByte.l0] at H
   by_cases c3 : x9_1 < (l0.length : Int)
   ·rw [if_pos c3] at H
    have c3b0 := decide_eq_true c3
    clear c3
    by_cases c4 : 0 ≤ x9_1
    ·rw [if_pos c4] at H
     have c4b0 := decide_eq_true c4
     clear c4
     by_cases c5 : x9_1 < (l0.length : Int)
     ·rw [if_pos c5] at H
      have c5b0 := decide_eq_true c5
      clear c5
      by_cases c6 : (rd l0 x9_1) = a1
      ·rw [if_pos c6] at H
       have c6b0 : ((rd l0 x9_1) == a1) = true := beq_iff_eq.mpr c6
       have c6b1 : ((rd l0 x9_1) != a1) = false := bne_eq_false_iff_eq.mpr c6
       clear c6
       obtain rfl := Option.some.inj H
       have p122 : 0 ≤ (x9_1 : Int) := of_decide_eq_true a3_
       have q122 : x9_1 < (l0.length : Int) := of_decide_eq_true a3_
       obtain ⟨ad122, e122, hx122_0⟩ := Kd.at_int HR0.out x9_1 p122 q122
       cases e122
       replace p122 := eq_true p122
       replace q122 := eq_true q122
       go_wp2
       go_ret
       exact ⟨by first | rfl | (simp; done) | (simp [*]; done), by repeat (first | exact Drawn0.refl _ | apply Drawn0.step)⟩
      ·rw [if_neg c6] at H
       have c6b0 : ((rd l0 x9_1) == a1) = false := beq_eq_false_iff_ne.mpr c6
       have c6b1 : ((rd l0 x9_1) != a1) = true := bne_iff_ne.mpr c6
       have H' := Aside0.mk H
       clear H
       have p122 : 0 ≤ (x9_1 : Int) := of_decide_eq_true a3_
       have q122 : x9_1 < (l0.length : Int) := of_decide_eq_true a3_
       obtain ⟨ad122, e122, hx122_0⟩ := Kd.at_int HR0.out x9_1 p122 q122
       cases e122
       replace p122 := eq_true p122
       replace q122 := eq_true q122
       go_wp2
       go_roundg k1
       case measure => have := HK1.out; omega
       case rel => exact ⟨(wrap64 (x9_1 + 1)), a5_, H', ⟨by have := HK1.out; omega⟩, by repeat (first | exact Drawn0.refl _ | apply Drawn0.step)⟩
     ·rw [if_neg c5] at H
      exact absurd H (by simp)
    ·rw [if_neg c4] at H
     exact absurd H (by simp)
   ·rw [if_neg c3] at H
    have c3b0 := decide_eq_false c3
    clear c3
    obtain rfl := Option.some.inj H
    go_wp2
    go_ret
    exact ⟨by first | rfl | (simp; done) | (simp [*]; done), by repeat (first | exact Drawn0.refl _ | apply Drawn0.step)⟩
def spec_Bytes.l0 : Nat → Int → List Int → Int → Option (ByteArray)
 | 0, _, _, _ => none
 | k + 1, x0, x5, x6 => if x6 ≥ 0 then (if 0 ≤ (wrap64 (8 * x6)) then (if x5.length < 140737488355328 then (spec_Bytes.l0 k x0 (x5 ++ [(shr .i64 x0 (wrap64 (8 * x6))) % 256]) (wrap64 (x6 - 1))) else (none)) else (none)) else (some (strOfNums x5))
def spec_Bytes.f (k : Nat) (a0 : Int) (a1 : Int) : Option (ByteArray) := spec_Bytes.l0 k a0 (([] : List Int)) (wrap64 (a1 - 1))
set_option maxHeartbeats 8000000 in
set_option maxRecDepth 100000 in
theorem spec_Bytes.calls (k : Nat) (a0 : Int) (a1 : Int) (r : ByteArray) (w : World) (h : spec_Bytes.f k a0 a1 = some r) :
  Calls Tryd.prog 44 #[.int .i64 a0, .int .i64 a1] w fun e w' => e = .returned (.string r) ∧ Below w.heap.size w w' := by
 have HB := Aside0.mk (Below.refl w.heap.size w)
 have H : (spec_Bytes.l0 k a0 (([] : List Int)) (wrap64 (a1 - 1))) = some r := h
 clear h
 obtain ⟨y126, hy126⟩ : ∃ y_ : List Int, y_ = (([] : List Int)) := ⟨_, rfl⟩
 replace H : (spec_Bytes.l0 k a0 y126 (wrap64 (a1 - 1))) = some r := by first | (rw [hy126]; with_reducible exact H) | (have H2_ := (Option.bind_some _ _).symm.trans H; rw [hy126]; with_reducible exact H2_) | (have H2_ := (Option.bind_some _ _).symm.trans H; with_reducible exact H2_) | with_reducible exact H | (rw [hy126]; exact H) | exact H
 have Ny126 := Aside0.mk hy126
 clear hy126
 have H' := Aside0.mk H
 clear H
 go_enter Tryd.func44, Tryd.ntmps44
 go_wp2_with (first | ((with_reducible refine gate_dst (N := 7) rfl ?_); refine Kd.R_lit (Kd.int .u8) _ 5 ?hg (N := 7) ?hd (xs := ([] : List Int)) (inner := []) (ok := fun _ => True) (okp := fun _ => True) ?hr ?hp (fun _ hk => hk) trivial (Below.refl _ _) (Nat.le_refl _) (by simp) ?_; (case hd => rfl); (case hg => rfl); (case hr => first | (go_simp; done) | (go_simp; rfl)); (case hp => exact (Reps.none _ _)); intro v127 w3 ho4 hb hg_ hnew_; clear hg_ hnew_; (first | rw [← Ny126.out] at ho4 | (simp only [Int.reduceToNat] at ho4; rw [← Ny126.out] at ho4)); have n0_ := Aside0.mk (Kd.R_lower ho4 (below_size a0_)); have n1_ := Aside0.mk (below_step a0_ hb); clear HB; have HO128 := n0_; have HB := n1_; clear n0_ n1_; clear hb ho4))
 go_loopg [5, 6] k (fun kq v5 v6 w' => ∃ (x5_1 : List Int) (x6_1 : Int), v6 = .int .i64 x6_1 ∧ Aside0 (spec_Bytes.l0 kq a0 x5_1 x6_1 = some r) ∧ Aside0 (kq ≤ k) ∧ Aside0 (Kd.R (Kd.int .u8) 5 w' w.heap.size (fun _ => True) v5 x5_1) ∧ Aside0 (Below w.heap.size w w'))
 case atStart => exact ⟨(y126), (wrap64 (a1 - 1)), a5_, H', ⟨Nat.le_refl _⟩, ⟨by (with_reducible repeat (first | apply Kd.R_alloc | apply Kd.R_drewN | apply Kd.R_drew)); exact HO128.out⟩, ⟨by repeat (first | (with_reducible first | exact HB.out | apply below_alloc | apply pw_below_drewN | apply below_drew1) | exact HB.out)⟩⟩
 case round =>
  clear H'
  try clear p2
  try clear c4
  obtain ⟨x5_1, x6_1, rfl, HA, HK1, HO_5, HB⟩ := hrel
  cases gk with
  | zero => exact absurd HA.out (by simp [spec_Bytes.l0])
  | succ k1 =>
   have H := HA.out
   clear HA
   simp only [spec_Bytes.l0] at H
   by_cases c5 : x6_1 ≥ 0
   ·rw [if_pos c5] at H
    have c5b0 : decide (0 ≤ x6_1) = true := decide_eq_true c5
    clear c5
    obtain ⟨ji6, hji6⟩ : ∃ j_ : Int, (wrap64 (8 * x6_1)) = j_ := ⟨_, rfl⟩
    replace H : (if 0 ≤ (ji6) then (if x5_1.length < 140737488355328 then (spec_Bytes.l0 k1 a0 (x5_1 ++ [(shr .i64 a0 (ji6)) % 256]) (wrap64 (x6_1 - 1))) else (none)) else (none)) = some r := by first | (rw [hji6] at H; exact H) | (simp only [hji6] at H ⊢; exact H)
    have hji6w : (IntKind.i64.wrap (8 * x6_1)) = ji6 := (i64_w _).trans hji6
    by_cases c7 : 0 ≤ (ji6)
    ·rw [if_pos c7] at H
     have c7b0 := eq_true c7
     have c7b1 := decide_eq_true c7
     clear c7
     obtain ⟨ji8, hji8⟩ : ∃ j_ : Int, (shr .i64 a0 (ji6)) = j_ := ⟨_, rfl⟩
     replace H : (if x5_1.length < 140737488355328 then (spec_Bytes.l0 k1 a0 (x5_1 ++ [(ji8) % 256]) (wrap64 (x6_1 - 1))) else (none)) = some r := by first | (rw [hji8] at H; exact H) | (simp only [hji8] at H ⊢; exact H)
     have hji8_ : (a0 / 2 ^ min (ji6).toNat 64) = ji8 := hji8
     have hji8z : (ji6) ≤ 64 → (a0 / 2 ^ (ji6).toNat) = ji8 := shr_small hji8
     by_cases c9 : x5_1.length < 140737488355328
     ·rw [if_pos c9] at H
      have LMc9 := Aside0.mk c9
      clear c9
      obtain ⟨y129, hy129⟩ : ∃ y_ : List Int, y_ = (x5_1 ++ [(ji8) % 256]) := ⟨_, rfl⟩
      replace H : (spec_Bytes.l0 k1 a0 y129 (wrap64 (x6_1 - 1))) = some r := by first | (rw [hy129]; with_reducible exact H) | (have H2_ := (Option.bind_some _ _).symm.trans H; rw [hy129]; with_reducible exact H2_) | (have H2_ := (Option.bind_some _ _).symm.trans H; with_reducible exact H2_) | with_reducible exact H | (rw [hy129]; exact H) | exact H
      have Ny129 := Aside0.mk hy129
      clear hy129
      have H' := Aside0.mk H
      clear H
      go_wp2_with (first | ((with_reducible refine gate_builtin (b := .append) (xs := #[.tmp 14, .tmp 20]) rfl ?_); at_builtin; refine Kd.R_append (Kd.int .u8) (w0 := w) w.heap.size rfl (.tmp 14) (.tmp 20) 62 5 (.int .u8 0) 1 rfl Tryd.underlying62 info5 rfl (by decide) (by omega) u5 x5_1 ((ji8) % 256) [.int .u8 ((ji8) % 256)] (fun _ => True) (fun _ => False) rfl rfl ?aP (fun _ hk => hk.elim) ?aF ?aO ?aB ?aS ?aL ?_; (case aP => exact rfl); (case aB => exact a0_); (case aF => exact (fun _ _ => trivial)); (case aO => exact (by (with_reducible repeat (first | apply Kd.R_alloc | apply Kd.R_drewN | apply Kd.R_drew)); exact HO_5.out)); (case aS => exact (below_size a0_)); (case aL => have := LMc9.out; omega); intro v130 w10 ho hb hg hat; rw [← Ny129.out] at ho; have n0_ := Aside0.mk (hb); have n1_ := Aside0.mk (ho); clear HB; clear HO_5; have HB := n0_; have HO131 := n1_; clear n0_ n1_; clear ho hb hg hat))
      go_roundg k1
      case measure => have := HK1.out; omega
      case rel => exact ⟨(y129), (wrap64 (x6_1 - 1)), a5_, H', ⟨by have := HK1.out; omega⟩, ⟨by (with_reducible repeat (first | apply Kd.R_alloc | apply Kd.R_drewN | apply Kd.R_drew)); exact HO131.out⟩, ⟨by repeat (first | (with_reducible first | exact HB.out | apply below_alloc | apply pw_below_drewN | apply below_drew1) | exact HB.out)⟩⟩
     ·rw [if_neg c9] at H
      exact absurd H (by simp)
    ·rw [if_neg c7] at H
     exact absurd H (by simp)
   ·rw [if_neg c5] at H
    have c5b0 : decide (0 ≤ x6_1) = false := decide_eq_false c5
    clear c5
    obtain rfl := Option.some.inj H
    have hcv11 := own_string (P := Tryd.prog) Tryd.underlying62 Tryd.underlying5 Tryd.underlying9 (Kd.own_of_R HO_5.out)
    go_wp2
    go_ret
    exact ⟨by first | rfl | (simp [errW_none, errW_some] <;> rfl) | (simp [*, errW_none, errW_some] <;> rfl), by repeat (first | (with_reducible first | exact HB.out | apply below_alloc | apply pw_below_drewN | apply below_drew1) | exact HB.out)⟩
end Go.Proofs.YtjoaeennbfmohaaDoor.PFnZone
