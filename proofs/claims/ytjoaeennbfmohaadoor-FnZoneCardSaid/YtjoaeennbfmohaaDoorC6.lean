/- The walks of some functions. Laid by programs (wip/mkq.py, wip/mkclaim.py) out of the texts that the kit's print.sh wrote for this seat, written shorter. Not written by hand. -/
import Derived.Test.YtjoaeennbfmohaaDoorC0
import Derived.Test.YtjoaeennbfmohaaDoorC5
namespace Go.Proofs.YtjoaeennbfmohaaDoor.PFnZone
open Go.RowKit Go.Proofs.YtjoaeennbfmohaaDoorW.PrintWords Go.Proofs.YtjoaeennbfmohaaDoorW.PrintLast Go.Proofs.YtjoaeennbfmohaaDoorW.PrintMore
attribute [local go_sem] max2_int min2_int max_two min_two max_three min_three max_four min_four   -- for this text's walks alone
set_option linter.unusedVariables false
set_option linter.unusedSimpArgs false
def spec_RuleText.f (k : Nat) (a0_0 : Int) (a0_1 : Int) (a0_2 : Int) (a0_3 : Int) (a0_4 : Int) (a1 : Bool) : Option (ByteArray) := if a0_0 = 0 then ((spec_Decimal.f k a0_1).bind fun t184 => (if 1 + t184.size ≤ 9223372036854775807 then (if a1 = true then ((spec_Clock.f k a0_4 a1).bind fun t185 => (if 1 + t185.size ≤ 9223372036854775807 then (if ((⟨#[74]⟩ : ByteArray) ++ t184).size + ((⟨#[47]⟩ : ByteArray) ++ t185).size ≤ 9223372036854775807 then (some (((⟨#[74]⟩ : ByteArray) ++ t184) ++ ((⟨#[47]⟩ : ByteArray) ++ t185))) else (none)) else (none))) else (if a0_4 = 7200 then (some ((⟨#[74]⟩ : ByteArray) ++ t184)) else ((spec_Clock.f k a0_4 a1).bind fun t186 => (if 1 + t186.size ≤ 9223372036854775807 then (if ((⟨#[74]⟩ : ByteArray) ++ t184).size + ((⟨#[47]⟩ : ByteArray) ++ t186).size ≤ 9223372036854775807 then (some (((⟨#[74]⟩ : ByteArray) ++ t184) ++ ((⟨#[47]⟩ : ByteArray) ++ t186))) else (none)) else (none))))) else (none))) else (if a0_0 = 1 then ((spec_Decimal.f k a0_1).bind fun t187 => (if a1 = true then ((spec_Clock.f k a0_4 a1).bind fun t188 => (if 1 + t188.size ≤ 9223372036854775807 then (if t187.size + ((⟨#[47]⟩ : ByteArray) ++ t188).size ≤ 9223372036854775807 then (some (t187 ++ ((⟨#[47]⟩ : ByteArray) ++ t188))) else (none)) else (none))) else (if a0_4 = 7200 then (some t187) else ((spec_Clock.f k a0_4 a1).bind fun t189 => (if 1 + t189.size ≤ 9223372036854775807 then (if t187.size + ((⟨#[47]⟩ : ByteArray) ++ t189).size ≤ 9223372036854775807 then (some (t187 ++ ((⟨#[47]⟩ : ByteArray) ++ t189))) else (none)) else (none)))))) else ((spec_Decimal.f k a0_3).bind fun t190 => (if 1 + t190.size ≤ 9223372036854775807 then (if ((⟨#[77]⟩ : ByteArray) ++ t190).size + 1 ≤ 9223372036854775807 then ((spec_Decimal.f k a0_2).bind fun t191 => (if (((⟨#[77]⟩ : ByteArray) ++ t190) ++ (⟨#[46]⟩ : ByteArray)).size + t191.size ≤ 9223372036854775807 then (if ((((⟨#[77]⟩ : ByteArray) ++ t190) ++ (⟨#[46]⟩ : ByteArray)) ++ t191).size + 1 ≤ 9223372036854775807 then ((spec_Decimal.f k a0_1).bind fun t192 => (if (((((⟨#[77]⟩ : ByteArray) ++ t190) ++ (⟨#[46]⟩ : ByteArray)) ++ t191) ++ (⟨#[46]⟩ : ByteArray)).size + t192.size ≤ 9223372036854775807 then (if a1 = true then ((spec_Clock.f k a0_4 a1).bind fun t193 => (if 1 + t193.size ≤ 9223372036854775807 then (if ((((((⟨#[77]⟩ : ByteArray) ++ t190) ++ (⟨#[46]⟩ : ByteArray)) ++ t191) ++ (⟨#[46]⟩ : ByteArray)) ++ t192).size + ((⟨#[47]⟩ : ByteArray) ++ t193).size ≤ 9223372036854775807 then (some (((((((⟨#[77]⟩ : ByteArray) ++ t190) ++ (⟨#[46]⟩ : ByteArray)) ++ t191) ++ (⟨#[46]⟩ : ByteArray)) ++ t192) ++ ((⟨#[47]⟩ : ByteArray) ++ t193))) else (none)) else (none))) else (if a0_4 = 7200 then (some ((((((⟨#[77]⟩ : ByteArray) ++ t190) ++ (⟨#[46]⟩ : ByteArray)) ++ t191) ++ (⟨#[46]⟩ : ByteArray)) ++ t192)) else ((spec_Clock.f k a0_4 a1).bind fun t194 => (if 1 + t194.size ≤ 9223372036854775807 then (if ((((((⟨#[77]⟩ : ByteArray) ++ t190) ++ (⟨#[46]⟩ : ByteArray)) ++ t191) ++ (⟨#[46]⟩ : ByteArray)) ++ t192).size + ((⟨#[47]⟩ : ByteArray) ++ t194).size ≤ 9223372036854775807 then (some (((((((⟨#[77]⟩ : ByteArray) ++ t190) ++ (⟨#[46]⟩ : ByteArray)) ++ t191) ++ (⟨#[46]⟩ : ByteArray)) ++ t192) ++ ((⟨#[47]⟩ : ByteArray) ++ t194))) else (none)) else (none))))) else (none))) else (none)) else (none))) else (none)) else (none))))
def spec_RuleText.T3 : Bool × List (List Nat × List Nat) := (true, [([], []), ([0], [0]), ([1], [1]), ([2], [2]), ([3], [3]), ([], []), ([5], [5]), ([6, 2], [6]), ([4, 7], [4, 7]), ([8], [8]), ([], []), ([10], [10]), ([11, 7], [11]), ([9, 12], [9, 12]), ([13, 12, 0, 1, 2, 3, 4, 5, 6, 7, 8, 9, 10, 11, 12, 13], [13])])
def spec_RuleText.B3 : List Nat := [0, 1, 3, 7, 15, 0, 32, 103, 255, 511, 0, 1024, 3303, 8191, 16383]
theorem spec_RuleText.tab3 : rtab .any (opsOf Tryd.f23 3) = spec_RuleText.T3 := by kernel_rfl
theorem spec_RuleText.bits3 : waitsOk spec_RuleText.T3.2 spec_RuleText.B3 = true := by kernel_rfl
set_option maxHeartbeats 8000000 in
set_option maxRecDepth 100000 in
theorem spec_RuleText.calls (k : Nat) (a0_0 : Int) (a0_1 : Int) (a0_2 : Int) (a0_3 : Int) (a0_4 : Int) (a1 : Bool) (r : ByteArray) (w : World) (h : spec_RuleText.f k a0_0 a0_1 a0_2 a0_3 a0_4 a1 = some r) :
  Calls Tryd.prog 23 #[.agg #[.int .i64 a0_0, .int .i64 a0_1, .int .i64 a0_2, .int .i64 a0_3, .int .i64 a0_4], .bool a1] w fun e w' => e = .returned (.string r) ∧ Below w.heap.size w w' := by
 have hu29 := Tryd.underlying29
 have HB := Aside0.mk (Below.refl w.heap.size w)
 have H : (if a0_0 = 0 then ((spec_Decimal.f k a0_1).bind fun t184 => (if 1 + t184.size ≤ 9223372036854775807 then (if a1 = true then ((spec_Clock.f k a0_4 a1).bind fun t185 => (if 1 + t185.size ≤ 9223372036854775807 then (if ((⟨#[74]⟩ : ByteArray) ++ t184).size + ((⟨#[47]⟩ : ByteArray) ++ t185).size ≤ 9223372036854775807 then (some (((⟨#[74]⟩ : ByteArray) ++ t184) ++ ((⟨#[47]⟩ : ByteArray) ++ t185))) else (none)) else (none))) else (if a0_4 = 7200 then (some ((⟨#[74]⟩ : ByteArray) ++ t184)) else ((spec_Clock.f k a0_4 a1).bind fun t186 => (if 1 + t186.size ≤ 9223372036854775807 then (if ((⟨#[74]⟩ : ByteArray) ++ t184).size + ((⟨#[47]⟩ : ByteArray) ++ t186).size ≤ 9223372036854775807 then (some (((⟨#[74]⟩ : ByteArray) ++ t184) ++ ((⟨#[47]⟩ : ByteArray) ++ t186))) else (none)) else (none))))) else (none))) else (if a0_0 = 1 then ((spec_Decimal.f k a0_1).bind fun t187 => (if a1 = true then ((spec_Clock.f k a0_4 a1).bind fun t188 => (if 1 + t188.size ≤ 9223372036854775807 then (if t187.size + ((⟨#[47]⟩ : ByteArray) ++ t188).size ≤ 9223372036854775807 then (some (t187 ++ ((⟨#[47]⟩ : ByteArray) ++ t188))) else (none)) else (none))) else (if a0_4 = 7200 then (some t187) else ((spec_Clock.f k a0_4 a1).bind fun t189 => (if 1 + t189.size ≤ 9223372036854775807 then (if t187.size + ((⟨#[47]⟩ : ByteArray) ++ t189).size ≤ 9223372036854775807 then (some (t187 ++ ((⟨#[47]⟩ : ByteArray) ++ t189))) else (none)) else (none)))))) else ((spec_Decimal.f k a0_3).bind fun t190 => (if 1 + t190.size ≤ 9223372036854775807 then (if ((⟨#[77]⟩ : ByteArray) ++ t190).size + 1 ≤ 9223372036854775807 then ((spec_Decimal.f k a0_2).bind fun t191 => (if (((⟨#[77]⟩ : ByteArray) ++ t190) ++ (⟨#[46]⟩ : ByteArray)).size + t191.size ≤ 9223372036854775807 then (if ((((⟨#[77]⟩ : ByteArray) ++ t190) ++ (⟨#[46]⟩ : ByteArray)) ++ t191).size + 1 ≤ 9223372036854775807 then ((spec_Decimal.f k a0_1).bind fun t192 => (if (((((⟨#[77]⟩ : ByteArray) ++ t190) ++ (⟨#[46]⟩ : ByteArray)) ++ t191) ++ (⟨#[46]⟩ : ByteArray)).size + t192.size ≤ 9223372036854775807 then (if a1 = true then ((spec_Clock.f k a0_4 a1).bind fun t193 => (if 1 + t193.size ≤ 9223372036854775807 then (if ((((((⟨#[77]⟩ : ByteArray) ++ t190) ++ (⟨#[46]⟩ : ByteArray)) ++ t191) ++ (⟨#[46]⟩ : ByteArray)) ++ t192).size + ((⟨#[47]⟩ : ByteArray) ++ t193).size ≤ 9223372036854775807 then (some (((((((⟨#[77]⟩ : ByteArray) ++ t190) ++ (⟨#[46]⟩ : ByteArray)) ++ t191) ++ (⟨#[46]⟩ : ByteArray)) ++ t192) ++ ((⟨#[47]⟩ : ByteArray) ++ t193))) else (none)) else (none))) else (if a0_4 = 7200 then (some ((((((⟨#[77]⟩ : ByteArray) ++ t190) ++ (⟨#[46]⟩ : ByteArray)) ++ t191) ++ (⟨#[46]⟩ : ByteArray)) ++ t192)) else ((spec_Clock.f k a0_4 a1).bind fun t194 => (if 1 + t194.size ≤ 9223372036854775807 then (if ((((((⟨#[77]⟩ : ByteArray) ++ t190) ++ (⟨#[46]⟩ : ByteArray)) ++ t191) ++ (⟨#[46]⟩ : ByteArray)) ++ t192).size + ((⟨#[47]⟩ : ByteArray) ++ t194).size ≤ 9223372036854775807 then (some (((((((⟨#[77]⟩ : ByteArray) ++ t190) ++ (⟨#[46]⟩ : ByteArray)) ++ t191) ++ (⟨#[46]⟩ : ByteArray)) ++ t192) ++ ((⟨#[47]⟩ : ByteArray) ++ t194))) else (none)) else (none))))) else (none))) else (none)) else (none))) else (none)) else (none))))) = some r := h
 clear h
 by_cases c3 : a0_0 = 0
 ·rw [if_pos c3] at H
  have c3b0 : (a0_0 == 0) = true := beq_iff_eq.mpr c3
  have c3b1 : (a0_0 != 0) = false := bne_eq_false_iff_eq.mpr c3
  clear c3
  replace H := Option.bind_eq_some_iff.mp H
  obtain ⟨t184, A40, H⟩ := H
  replace H : (if 1 + t184.size ≤ 9223372036854775807 then (if a1 = true then ((spec_Clock.f k a0_4 a1).bind fun t185 => (if 1 + t185.size ≤ 9223372036854775807 then (if ((⟨#[74]⟩ : ByteArray) ++ t184).size + ((⟨#[47]⟩ : ByteArray) ++ t185).size ≤ 9223372036854775807 then (some (((⟨#[74]⟩ : ByteArray) ++ t184) ++ ((⟨#[47]⟩ : ByteArray) ++ t185))) else (none)) else (none))) else (if a0_4 = 7200 then (some ((⟨#[74]⟩ : ByteArray) ++ t184)) else ((spec_Clock.f k a0_4 a1).bind fun t186 => (if 1 + t186.size ≤ 9223372036854775807 then (if ((⟨#[74]⟩ : ByteArray) ++ t184).size + ((⟨#[47]⟩ : ByteArray) ++ t186).size ≤ 9223372036854775807 then (some (((⟨#[74]⟩ : ByteArray) ++ t184) ++ ((⟨#[47]⟩ : ByteArray) ++ t186))) else (none)) else (none))))) else (none)) = some r := H
  have A4 := Aside0.mk A40
  clear A40
  by_cases c5 : 1 + t184.size ≤ 9223372036854775807
  ·rw [if_pos c5] at H
   have c5b0 := eq_true c5
   have c5b1 := decide_eq_true c5
   try have c5b2 := eq_false (Nat.not_lt.2 c5)
   by_cases c6 : a1 = true
   ·subst c6
    have H1 : ((spec_Clock.f k a0_4 true).bind fun t185 => (if 1 + t185.size ≤ 9223372036854775807 then (if ((⟨#[74]⟩ : ByteArray) ++ t184).size + ((⟨#[47]⟩ : ByteArray) ++ t185).size ≤ 9223372036854775807 then (some (((⟨#[74]⟩ : ByteArray) ++ t184) ++ ((⟨#[47]⟩ : ByteArray) ++ t185))) else (none)) else (none))) = some r := by rw [if_pos rfl] at H; exact H
    clear H
    have H := H1
    clear H1
    replace H := Option.bind_eq_some_iff.mp H
    obtain ⟨t185, A70, H⟩ := H
    replace H : (if 1 + t185.size ≤ 9223372036854775807 then (if ((⟨#[74]⟩ : ByteArray) ++ t184).size + ((⟨#[47]⟩ : ByteArray) ++ t185).size ≤ 9223372036854775807 then (some (((⟨#[74]⟩ : ByteArray) ++ t184) ++ ((⟨#[47]⟩ : ByteArray) ++ t185))) else (none)) else (none)) = some r := H
    have A7 := Aside0.mk A70
    clear A70
    by_cases c8 : 1 + t185.size ≤ 9223372036854775807
    ·rw [if_pos c8] at H
     have c8b0 := eq_true c8
     have c8b1 := decide_eq_true c8
     try have c8b2 := eq_false (Nat.not_lt.2 c8)
     by_cases c9 : ((⟨#[74]⟩ : ByteArray) ++ t184).size + ((⟨#[47]⟩ : ByteArray) ++ t185).size ≤ 9223372036854775807
     ·rw [if_pos c9] at H
      have c9b0 := eq_true c9
      have c9b1 := decide_eq_true c9
      try have c9b2 := eq_false (Nat.not_lt.2 c9)
      try (have c9b9 := c9b2; simp only [ByteArray.size_append, show (⟨#[47]⟩ : ByteArray).size = 1 from rfl, show (⟨#[74]⟩ : ByteArray).size = 1 from rfl] at c9b9)
      obtain rfl := Option.some.inj H
      go_enter Tryd.func23, Tryd.ntmps23
      go_wp2_with (first | ((with_reducible refine gate_dst (N := 2) rfl ?_); refine box_event ?hg (N := 2) ?hd (cs := #[.int .i64 a0_0, .int .i64 a0_1, .int .i64 a0_2, .int .i64 a0_3, .int .i64 a0_4]) (t := 29) ?hr ?_; (case hd => rfl); (case hg => rfl); (case hr => first | (go_simp; done) | (go_simp; rfl)); intro gb183 hg w10 hbox hb; have n0_ := Aside0.mk (below_step a0_ hb); have n1_ := Aside0.mk (hbox); have n2_ := Aside0.mk ((by rw [hg]; exact (below_size a0_) : w.heap.size ≤ gb183)); have n3_ := Aside0.mk ((by rw [hg]; exact (below_size a0_) : w.heap.size ≤ gb183)); clear HB; have HB := n0_; have BK183 := n1_; have GW183 := n2_; have GE183 := n3_; clear n0_ n1_ n2_ n3_; clear hb hbox hg; obtain ⟨hcz11_0, hcz11_1, hcz11_2, hcz11_3, hcz11_4, hfz11_0, hfz11_1, hfz11_2, hfz11_3, hfz11_4⟩ := c5f_ BK183.out) | ((with_reducible refine gate_callee (f := 35) rfl ?_); refine goesL_ (some 26) rfl rfl Tryd.func35 (by kernel_rfl) rfl #[.int .i64 a0_1] rfl a1_ ?_; (with_reducible refine (spec_Decimal.calls k a0_1 t184 _ A4.out).mono ?_); rintro e w12 ⟨rfl, hb⟩; refine ⟨_, rfl, ?_⟩; have n0_ := Aside0.mk (blk_below (g := gb183) (o := .cells #[.int .i64 a0_0, .int .i64 a0_1, .int .i64 a0_2, .int .i64 a0_3, .int .i64 a0_4] 29 (0, 0)) a11_ hb); have n1_ := Aside0.mk (below_step a9_ hb); clear BK183; clear HB; have BK183 := n0_; have HB := n1_; clear n0_ n1_; (try clear hb); (try clear hb2); (try clear hk); (try clear hi); obtain ⟨hcz13_0, hcz13_1, hcz13_2, hcz13_3, hcz13_4, hfz13_0, hfz13_1, hfz13_2, hfz13_3, hfz13_4⟩ := c5f_ BK183.out) | ((with_reducible refine gate_callee (f := 22) rfl ?_); refine goesL_ (some 43) rfl rfl Tryd.func22 (by kernel_rfl) rfl #[.int .i64 a0_4, .bool true] rfl a1_ ?_; (with_reducible refine (spec_Clock.calls k a0_4 true t185 _ A7.out).mono ?_); rintro e w14 ⟨rfl, hb⟩; refine ⟨_, rfl, ?_⟩; have n0_ := Aside0.mk (blk_below (g := gb183) (o := .cells #[.int .i64 a0_0, .int .i64 a0_1, .int .i64 a0_2, .int .i64 a0_3, .int .i64 a0_4] 29 (0, 0)) a11_ hb); have n1_ := Aside0.mk (below_step a9_ hb); clear BK183; clear HB; have BK183 := n0_; have HB := n1_; clear n0_ n1_; (try clear hb); (try clear hb2); (try clear hk); (try clear hi)))
      go_ret
      exact ⟨by first | rfl | (simp [errW_none, errW_some] <;> rfl) | (simp [*, errW_none, errW_some] <;> rfl), by repeat (first | (with_reducible first | exact HB.out | apply below_alloc | apply pw_below_drewN | apply below_drew1 | refine below_set ?_ GE183.out) | exact HB.out)⟩
     ·rw [if_neg c9] at H
      exact absurd H (by simp)
    ·rw [if_neg c8] at H
     exact absurd H (by simp)
   ·replace c6 := Bool.eq_false_iff.mpr c6
    subst c6
    have H1 : (if a0_4 = 7200 then (some ((⟨#[74]⟩ : ByteArray) ++ t184)) else ((spec_Clock.f k a0_4 false).bind fun t186 => (if 1 + t186.size ≤ 9223372036854775807 then (if ((⟨#[74]⟩ : ByteArray) ++ t184).size + ((⟨#[47]⟩ : ByteArray) ++ t186).size ≤ 9223372036854775807 then (some (((⟨#[74]⟩ : ByteArray) ++ t184) ++ ((⟨#[47]⟩ : ByteArray) ++ t186))) else (none)) else (none)))) = some r := by rw [if_neg (show ¬ (false = true) by decide)] at H; exact H
    clear H
    have H := H1
    clear H1
    by_cases c15 : a0_4 = 7200
    ·rw [if_pos c15] at H
     have c15b0 : (a0_4 == 7200) = true := beq_iff_eq.mpr c15
     have c15b1 : (a0_4 != 7200) = false := bne_eq_false_iff_eq.mpr c15
     clear c15
     obtain rfl := Option.some.inj H
     go_enter Tryd.func23, Tryd.ntmps23
     go_wp2_with (first | ((with_reducible refine gate_dst (N := 2) rfl ?_); refine box_event ?hg (N := 2) ?hd (cs := #[.int .i64 a0_0, .int .i64 a0_1, .int .i64 a0_2, .int .i64 a0_3, .int .i64 a0_4]) (t := 29) ?hr ?_; (case hd => rfl); (case hg => rfl); (case hr => first | (go_simp; done) | (go_simp; rfl)); intro gb183 hg w16 hbox hb; have n0_ := Aside0.mk (below_step a0_ hb); have n1_ := Aside0.mk (hbox); have n2_ := Aside0.mk ((by rw [hg]; exact (below_size a0_) : w.heap.size ≤ gb183)); have n3_ := Aside0.mk ((by rw [hg]; exact (below_size a0_) : w.heap.size ≤ gb183)); clear HB; have HB := n0_; have BK183 := n1_; have GW183 := n2_; have GE183 := n3_; clear n0_ n1_ n2_ n3_; clear hb hbox hg; obtain ⟨hcz17_0, hcz17_1, hcz17_2, hcz17_3, hcz17_4, hfz17_0, hfz17_1, hfz17_2, hfz17_3, hfz17_4⟩ := c5f_ BK183.out) | ((with_reducible refine gate_callee (f := 35) rfl ?_); refine goesL_ (some 26) rfl rfl Tryd.func35 (by kernel_rfl) rfl #[.int .i64 a0_1] rfl a1_ ?_; (with_reducible refine (spec_Decimal.calls k a0_1 t184 _ A4.out).mono ?_); rintro e w18 ⟨rfl, hb⟩; refine ⟨_, rfl, ?_⟩; have n0_ := Aside0.mk (blk_below (g := gb183) (o := .cells #[.int .i64 a0_0, .int .i64 a0_1, .int .i64 a0_2, .int .i64 a0_3, .int .i64 a0_4] 29 (0, 0)) a11_ hb); have n1_ := Aside0.mk (below_step a9_ hb); clear BK183; clear HB; have BK183 := n0_; have HB := n1_; clear n0_ n1_; (try clear hb); (try clear hb2); (try clear hk); (try clear hi); obtain ⟨hcz19_0, hcz19_1, hcz19_2, hcz19_3, hcz19_4, hfz19_0, hfz19_1, hfz19_2, hfz19_3, hfz19_4⟩ := c5f_ BK183.out))
     go_ret
     exact ⟨by first | rfl | (simp [errW_none, errW_some] <;> rfl) | (simp [*, errW_none, errW_some] <;> rfl), by repeat (first | (with_reducible first | exact HB.out | apply below_alloc | apply pw_below_drewN | apply below_drew1 | refine below_set ?_ GE183.out) | exact HB.out)⟩
    ·rw [if_neg c15] at H
     have c15b0 : (a0_4 == 7200) = false := beq_eq_false_iff_ne.mpr c15
     have c15b1 : (a0_4 != 7200) = true := bne_iff_ne.mpr c15
     replace H := Option.bind_eq_some_iff.mp H
     obtain ⟨t186, A200, H⟩ := H
     replace H : (if 1 + t186.size ≤ 9223372036854775807 then (if ((⟨#[74]⟩ : ByteArray) ++ t184).size + ((⟨#[47]⟩ : ByteArray) ++ t186).size ≤ 9223372036854775807 then (some (((⟨#[74]⟩ : ByteArray) ++ t184) ++ ((⟨#[47]⟩ : ByteArray) ++ t186))) else (none)) else (none)) = some r := H
     have A20 := Aside0.mk A200
     clear A200
     by_cases c21 : 1 + t186.size ≤ 9223372036854775807
     ·rw [if_pos c21] at H
      have c21b0 := eq_true c21
      have c21b1 := decide_eq_true c21
      try have c21b2 := eq_false (Nat.not_lt.2 c21)
      by_cases c22 : ((⟨#[74]⟩ : ByteArray) ++ t184).size + ((⟨#[47]⟩ : ByteArray) ++ t186).size ≤ 9223372036854775807
      ·rw [if_pos c22] at H
       have c22b0 := eq_true c22
       have c22b1 := decide_eq_true c22
       try have c22b2 := eq_false (Nat.not_lt.2 c22)
       try (have c22b9 := c22b2; simp only [ByteArray.size_append, show (⟨#[47]⟩ : ByteArray).size = 1 from rfl, show (⟨#[74]⟩ : ByteArray).size = 1 from rfl] at c22b9)
       obtain rfl := Option.some.inj H
       go_enter Tryd.func23, Tryd.ntmps23
       go_wp2_with (first | ((with_reducible refine gate_dst (N := 2) rfl ?_); refine box_event ?hg (N := 2) ?hd (cs := #[.int .i64 a0_0, .int .i64 a0_1, .int .i64 a0_2, .int .i64 a0_3, .int .i64 a0_4]) (t := 29) ?hr ?_; (case hd => rfl); (case hg => rfl); (case hr => first | (go_simp; done) | (go_simp; rfl)); intro gb183 hg w23 hbox hb; have n0_ := Aside0.mk (below_step a0_ hb); have n1_ := Aside0.mk (hbox); have n2_ := Aside0.mk ((by rw [hg]; exact (below_size a0_) : w.heap.size ≤ gb183)); have n3_ := Aside0.mk ((by rw [hg]; exact (below_size a0_) : w.heap.size ≤ gb183)); clear HB; have HB := n0_; have BK183 := n1_; have GW183 := n2_; have GE183 := n3_; clear n0_ n1_ n2_ n3_; clear hb hbox hg; obtain ⟨hcz24_0, hcz24_1, hcz24_2, hcz24_3, hcz24_4, hfz24_0, hfz24_1, hfz24_2, hfz24_3, hfz24_4⟩ := c5f_ BK183.out) | ((with_reducible refine gate_callee (f := 35) rfl ?_); refine goesL_ (some 26) rfl rfl Tryd.func35 (by kernel_rfl) rfl #[.int .i64 a0_1] rfl a1_ ?_; (with_reducible refine (spec_Decimal.calls k a0_1 t184 _ A4.out).mono ?_); rintro e w25 ⟨rfl, hb⟩; refine ⟨_, rfl, ?_⟩; have n0_ := Aside0.mk (blk_below (g := gb183) (o := .cells #[.int .i64 a0_0, .int .i64 a0_1, .int .i64 a0_2, .int .i64 a0_3, .int .i64 a0_4] 29 (0, 0)) a11_ hb); have n1_ := Aside0.mk (below_step a9_ hb); clear BK183; clear HB; have BK183 := n0_; have HB := n1_; clear n0_ n1_; (try clear hb); (try clear hb2); (try clear hk); (try clear hi); obtain ⟨hcz26_0, hcz26_1, hcz26_2, hcz26_3, hcz26_4, hfz26_0, hfz26_1, hfz26_2, hfz26_3, hfz26_4⟩ := c5f_ BK183.out) | ((with_reducible refine gate_callee (f := 22) rfl ?_); refine goesL_ (some 43) rfl rfl Tryd.func22 (by kernel_rfl) rfl #[.int .i64 a0_4, .bool false] rfl a1_ ?_; (with_reducible refine (spec_Clock.calls k a0_4 false t186 _ A20.out).mono ?_); rintro e w27 ⟨rfl, hb⟩; refine ⟨_, rfl, ?_⟩; have n0_ := Aside0.mk (blk_below (g := gb183) (o := .cells #[.int .i64 a0_0, .int .i64 a0_1, .int .i64 a0_2, .int .i64 a0_3, .int .i64 a0_4] 29 (0, 0)) a11_ hb); have n1_ := Aside0.mk (below_step a9_ hb); clear BK183; clear HB; have BK183 := n0_; have HB := n1_; clear n0_ n1_; (try clear hb); (try clear hb2); (try clear hk); (try clear hi)))
       go_ret
       exact ⟨by first | rfl | (simp [errW_none, errW_some] <;> rfl) | (simp [*, errW_none, errW_some] <;> rfl), by repeat (first | (with_reducible first | exact HB.out | apply below_alloc | apply pw_below_drewN | apply below_drew1 | refine below_set ?_ GE183.out) | exact HB.out)⟩
      ·rw [if_neg c22] at H
       exact absurd H (by simp)
     ·rw [if_neg c21] at H
      exact absurd H (by simp)
  ·rw [if_neg c5] at H
   exact absurd H (by simp)
 ·rw [if_neg c3] at H
  have c3b0 : (a0_0 == 0) = false := beq_eq_false_iff_ne.mpr c3
  have c3b1 : (a0_0 != 0) = true := bne_iff_ne.mpr c3
  by_cases c28 : a0_0 = 1
  ·rw [if_pos c28] at H
   have c28b0 : (a0_0 == 1) = true := beq_iff_eq.mpr c28
   have c28b1 : (a0_0 != 1) = false := bne_eq_false_iff_eq.mpr c28
   clear c28
   replace H := Option.bind_eq_some_iff.mp H
   obtain ⟨t187, A290, H⟩ := H
   replace H : (if a1 = true then ((spec_Clock.f k a0_4 a1).bind fun t188 => (if 1 + t188.size ≤ 9223372036854775807 then (if t187.size + ((⟨#[47]⟩ : ByteArray) ++ t188).size ≤ 9223372036854775807 then (some (t187 ++ ((⟨#[47]⟩ : ByteArray) ++ t188))) else (none)) else (none))) else (if a0_4 = 7200 then (some t187) else ((spec_Clock.f k a0_4 a1).bind fun t189 => (if 1 + t189.size ≤ 9223372036854775807 then (if t187.size + ((⟨#[47]⟩ : ByteArray) ++ t189).size ≤ 9223372036854775807 then (some (t187 ++ ((⟨#[47]⟩ : ByteArray) ++ t189))) else (none)) else (none))))) = some r := H
   have A29 := Aside0.mk A290
   clear A290
   by_cases c30 : a1 = true
   ·subst c30
    have H1 : ((spec_Clock.f k a0_4 true).bind fun t188 => (if 1 + t188.size ≤ 9223372036854775807 then (if t187.size + ((⟨#[47]⟩ : ByteArray) ++ t188).size ≤ 9223372036854775807 then (some (t187 ++ ((⟨#[47]⟩ : ByteArray) ++ t188))) else (none)) else (none))) = some r := by rw [if_pos rfl] at H; exact H
    clear H
    have H := H1
    clear H1
    replace H := Option.bind_eq_some_iff.mp H
    obtain ⟨t188, A310, H⟩ := H
    replace H : (if 1 + t188.size ≤ 9223372036854775807 then (if t187.size + ((⟨#[47]⟩ : ByteArray) ++ t188).size ≤ 9223372036854775807 then (some (t187 ++ ((⟨#[47]⟩ : ByteArray) ++ t188))) else (none)) else (none)) = some r := H
    have A31 := Aside0.mk A310
    clear A310
    by_cases c32 : 1 + t188.size ≤ 9223372036854775807
    ·rw [if_pos c32] at H
     have c32b0 := eq_true c32
     have c32b1 := decide_eq_true c32
     try have c32b2 := eq_false (Nat.not_lt.2 c32)
     by_cases c33 : t187.size + ((⟨#[47]⟩ : ByteArray) ++ t188).size ≤ 9223372036854775807
     ·rw [if_pos c33] at H
      have c33b0 := eq_true c33
      have c33b1 := decide_eq_true c33
      try have c33b2 := eq_false (Nat.not_lt.2 c33)
      try (have c33b9 := c33b2; simp only [ByteArray.size_append, show (⟨#[47]⟩ : ByteArray).size = 1 from rfl] at c33b9)
      obtain rfl := Option.some.inj H
      go_enter Tryd.func23, Tryd.ntmps23
      go_wp2_with (first | ((with_reducible refine gate_dst (N := 2) rfl ?_); refine box_event ?hg (N := 2) ?hd (cs := #[.int .i64 a0_0, .int .i64 a0_1, .int .i64 a0_2, .int .i64 a0_3, .int .i64 a0_4]) (t := 29) ?hr ?_; (case hd => rfl); (case hg => rfl); (case hr => first | (go_simp; done) | (go_simp; rfl)); intro gb183 hg w34 hbox hb; have n0_ := Aside0.mk (below_step a0_ hb); have n1_ := Aside0.mk (hbox); have n2_ := Aside0.mk ((by rw [hg]; exact (below_size a0_) : w.heap.size ≤ gb183)); have n3_ := Aside0.mk ((by rw [hg]; exact (below_size a0_) : w.heap.size ≤ gb183)); clear HB; have HB := n0_; have BK183 := n1_; have GW183 := n2_; have GE183 := n3_; clear n0_ n1_ n2_ n3_; clear hb hbox hg; obtain ⟨hcz35_0, hcz35_1, hcz35_2, hcz35_3, hcz35_4, hfz35_0, hfz35_1, hfz35_2, hfz35_3, hfz35_4⟩ := c5f_ BK183.out) | ((with_reducible refine gate_callee (f := 35) rfl ?_); refine goesL_ (some 32) rfl rfl Tryd.func35 (by kernel_rfl) rfl #[.int .i64 a0_1] rfl a1_ ?_; (with_reducible refine (spec_Decimal.calls k a0_1 t187 _ A29.out).mono ?_); rintro e w36 ⟨rfl, hb⟩; refine ⟨_, rfl, ?_⟩; have n0_ := Aside0.mk (blk_below (g := gb183) (o := .cells #[.int .i64 a0_0, .int .i64 a0_1, .int .i64 a0_2, .int .i64 a0_3, .int .i64 a0_4] 29 (0, 0)) a11_ hb); have n1_ := Aside0.mk (below_step a9_ hb); clear BK183; clear HB; have BK183 := n0_; have HB := n1_; clear n0_ n1_; (try clear hb); (try clear hb2); (try clear hk); (try clear hi); obtain ⟨hcz37_0, hcz37_1, hcz37_2, hcz37_3, hcz37_4, hfz37_0, hfz37_1, hfz37_2, hfz37_3, hfz37_4⟩ := c5f_ BK183.out) | ((with_reducible refine gate_callee (f := 22) rfl ?_); refine goesL_ (some 43) rfl rfl Tryd.func22 (by kernel_rfl) rfl #[.int .i64 a0_4, .bool true] rfl a1_ ?_; (with_reducible refine (spec_Clock.calls k a0_4 true t188 _ A31.out).mono ?_); rintro e w38 ⟨rfl, hb⟩; refine ⟨_, rfl, ?_⟩; have n0_ := Aside0.mk (blk_below (g := gb183) (o := .cells #[.int .i64 a0_0, .int .i64 a0_1, .int .i64 a0_2, .int .i64 a0_3, .int .i64 a0_4] 29 (0, 0)) a11_ hb); have n1_ := Aside0.mk (below_step a9_ hb); clear BK183; clear HB; have BK183 := n0_; have HB := n1_; clear n0_ n1_; (try clear hb); (try clear hb2); (try clear hk); (try clear hi)))
      go_ret
      exact ⟨by first | rfl | (simp [errW_none, errW_some] <;> rfl) | (simp [*, errW_none, errW_some] <;> rfl), by repeat (first | (with_reducible first | exact HB.out | apply below_alloc | apply pw_below_drewN | apply below_drew1 | refine below_set ?_ GE183.out) | exact HB.out)⟩
     ·rw [if_neg c33] at H
      exact absurd H (by simp)
    ·rw [if_neg c32] at H
     exact absurd H (by simp)
   ·replace c30 := Bool.eq_false_iff.mpr c30
    subst c30
    have H1 : (if a0_4 = 7200 then (some t187) else ((spec_Clock.f k a0_4 false).bind fun t189 => (if 1 + t189.size ≤ 9223372036854775807 then (if t187.size + ((⟨#[47]⟩ : ByteArray) ++ t189).size ≤ 9223372036854775807 then (some (t187 ++ ((⟨#[47]⟩ : ByteArray) ++ t189))) else (none)) else (none)))) = some r := by rw [if_neg (show ¬ (false = true) by decide)] at H; exact H
    clear H
    have H := H1
    clear H1
    by_cases c39 : a0_4 = 7200
    ·rw [if_pos c39] at H
     have c39b0 : (a0_4 == 7200) = true := beq_iff_eq.mpr c39
     have c39b1 : (a0_4 != 7200) = false := bne_eq_false_iff_eq.mpr c39
     clear c39
     obtain rfl := Option.some.inj H
     go_enter Tryd.func23, Tryd.ntmps23
     go_wp2_with (first | ((with_reducible refine gate_dst (N := 2) rfl ?_); refine box_event ?hg (N := 2) ?hd (cs := #[.int .i64 a0_0, .int .i64 a0_1, .int .i64 a0_2, .int .i64 a0_3, .int .i64 a0_4]) (t := 29) ?hr ?_; (case hd => rfl); (case hg => rfl); (case hr => first | (go_simp; done) | (go_simp; rfl)); intro gb183 hg w40 hbox hb; have n0_ := Aside0.mk (below_step a0_ hb); have n1_ := Aside0.mk (hbox); have n2_ := Aside0.mk ((by rw [hg]; exact (below_size a0_) : w.heap.size ≤ gb183)); have n3_ := Aside0.mk ((by rw [hg]; exact (below_size a0_) : w.heap.size ≤ gb183)); clear HB; have HB := n0_; have BK183 := n1_; have GW183 := n2_; have GE183 := n3_; clear n0_ n1_ n2_ n3_; clear hb hbox hg; obtain ⟨hcz41_0, hcz41_1, hcz41_2, hcz41_3, hcz41_4, hfz41_0, hfz41_1, hfz41_2, hfz41_3, hfz41_4⟩ := c5f_ BK183.out) | ((with_reducible refine gate_callee (f := 35) rfl ?_); refine goesL_ (some 32) rfl rfl Tryd.func35 (by kernel_rfl) rfl #[.int .i64 a0_1] rfl a1_ ?_; (with_reducible refine (spec_Decimal.calls k a0_1 t187 _ A29.out).mono ?_); rintro e w42 ⟨rfl, hb⟩; refine ⟨_, rfl, ?_⟩; have n0_ := Aside0.mk (blk_below (g := gb183) (o := .cells #[.int .i64 a0_0, .int .i64 a0_1, .int .i64 a0_2, .int .i64 a0_3, .int .i64 a0_4] 29 (0, 0)) a11_ hb); have n1_ := Aside0.mk (below_step a9_ hb); clear BK183; clear HB; have BK183 := n0_; have HB := n1_; clear n0_ n1_; (try clear hb); (try clear hb2); (try clear hk); (try clear hi); obtain ⟨hcz43_0, hcz43_1, hcz43_2, hcz43_3, hcz43_4, hfz43_0, hfz43_1, hfz43_2, hfz43_3, hfz43_4⟩ := c5f_ BK183.out))
     go_ret
     exact ⟨by first | rfl | (simp [errW_none, errW_some] <;> rfl) | (simp [*, errW_none, errW_some] <;> rfl), by repeat (first | (with_reducible first | exact HB.out | apply below_alloc | apply pw_below_drewN | apply below_drew1 | refine below_set ?_ GE183.out) | exact HB.out)⟩
    ·rw [if_neg c39] at H
     have c39b0 : (a0_4 == 7200) = false := beq_eq_false_iff_ne.mpr c39
     have c39b1 : (a0_4 != 7200) = true := bne_iff_ne.mpr c39
     replace H := Option.bind_eq_some_iff.mp H
     obtain ⟨t189, A440, H⟩ := H
     replace H : (if 1 + t189.size ≤ 9223372036854775807 then (if t187.size + ((⟨#[47]⟩ : ByteArray) ++ t189).size ≤ 9223372036854775807 then (some (t187 ++ ((⟨#[47]⟩ : ByteArray) ++ t189))) else (none)) else (none)) = some r := H
     have A44 := Aside0.mk A440
     clear A440
     by_cases c45 : 1 + t189.size ≤ 9223372036854775807
     ·rw [if_pos c45] at H
      have c45b0 := eq_true c45
      have c45b1 := decide_eq_true c45
      try have c45b2 := eq_false (Nat.not_lt.2 c45)
      by_cases c46 : t187.size + ((⟨#[47]⟩ : ByteArray) ++ t189).size ≤ 9223372036854775807
      ·rw [if_pos c46] at H
       have c46b0 := eq_true c46
       have c46b1 := decide_eq_true c46
       try have c46b2 := eq_false (Nat.not_lt.2 c46)
       try (have c46b9 := c46b2; simp only [ByteArray.size_append, show (⟨#[47]⟩ : ByteArray).size = 1 from rfl] at c46b9)
       obtain rfl := Option.some.inj H
       go_enter Tryd.func23, Tryd.ntmps23
       go_wp2_with (first | ((with_reducible refine gate_dst (N := 2) rfl ?_); refine box_event ?hg (N := 2) ?hd (cs := #[.int .i64 a0_0, .int .i64 a0_1, .int .i64 a0_2, .int .i64 a0_3, .int .i64 a0_4]) (t := 29) ?hr ?_; (case hd => rfl); (case hg => rfl); (case hr => first | (go_simp; done) | (go_simp; rfl)); intro gb183 hg w47 hbox hb; have n0_ := Aside0.mk (below_step a0_ hb); have n1_ := Aside0.mk (hbox); have n2_ := Aside0.mk ((by rw [hg]; exact (below_size a0_) : w.heap.size ≤ gb183)); have n3_ := Aside0.mk ((by rw [hg]; exact (below_size a0_) : w.heap.size ≤ gb183)); clear HB; have HB := n0_; have BK183 := n1_; have GW183 := n2_; have GE183 := n3_; clear n0_ n1_ n2_ n3_; clear hb hbox hg; obtain ⟨hcz48_0, hcz48_1, hcz48_2, hcz48_3, hcz48_4, hfz48_0, hfz48_1, hfz48_2, hfz48_3, hfz48_4⟩ := c5f_ BK183.out) | ((with_reducible refine gate_callee (f := 35) rfl ?_); refine goesL_ (some 32) rfl rfl Tryd.func35 (by kernel_rfl) rfl #[.int .i64 a0_1] rfl a1_ ?_; (with_reducible refine (spec_Decimal.calls k a0_1 t187 _ A29.out).mono ?_); rintro e w49 ⟨rfl, hb⟩; refine ⟨_, rfl, ?_⟩; have n0_ := Aside0.mk (blk_below (g := gb183) (o := .cells #[.int .i64 a0_0, .int .i64 a0_1, .int .i64 a0_2, .int .i64 a0_3, .int .i64 a0_4] 29 (0, 0)) a11_ hb); have n1_ := Aside0.mk (below_step a9_ hb); clear BK183; clear HB; have BK183 := n0_; have HB := n1_; clear n0_ n1_; (try clear hb); (try clear hb2); (try clear hk); (try clear hi); obtain ⟨hcz50_0, hcz50_1, hcz50_2, hcz50_3, hcz50_4, hfz50_0, hfz50_1, hfz50_2, hfz50_3, hfz50_4⟩ := c5f_ BK183.out) | ((with_reducible refine gate_callee (f := 22) rfl ?_); refine goesL_ (some 43) rfl rfl Tryd.func22 (by kernel_rfl) rfl #[.int .i64 a0_4, .bool false] rfl a1_ ?_; (with_reducible refine (spec_Clock.calls k a0_4 false t189 _ A44.out).mono ?_); rintro e w51 ⟨rfl, hb⟩; refine ⟨_, rfl, ?_⟩; have n0_ := Aside0.mk (blk_below (g := gb183) (o := .cells #[.int .i64 a0_0, .int .i64 a0_1, .int .i64 a0_2, .int .i64 a0_3, .int .i64 a0_4] 29 (0, 0)) a11_ hb); have n1_ := Aside0.mk (below_step a9_ hb); clear BK183; clear HB; have BK183 := n0_; have HB := n1_; clear n0_ n1_; (try clear hb); (try clear hb2); (try clear hk); (try clear hi)))
       go_ret
       exact ⟨by first | rfl | (simp [errW_none, errW_some] <;> rfl) | (simp [*, errW_none, errW_some] <;> rfl), by repeat (first | (with_reducible first | exact HB.out | apply below_alloc | apply pw_below_drewN | apply below_drew1 | refine below_set ?_ GE183.out) | exact HB.out)⟩
      ·rw [if_neg c46] at H
       exact absurd H (by simp)
     ·rw [if_neg c45] at H
      exact absurd H (by simp)
  ·rw [if_neg c28] at H
   have c28b0 : (a0_0 == 1) = false := beq_eq_false_iff_ne.mpr c28
   have c28b1 : (a0_0 != 1) = true := bne_iff_ne.mpr c28
   replace H := Option.bind_eq_some_iff.mp H
   obtain ⟨t190, A520, H⟩ := H
   replace H : (if 1 + t190.size ≤ 9223372036854775807 then (if ((⟨#[77]⟩ : ByteArray) ++ t190).size + 1 ≤ 9223372036854775807 then ((spec_Decimal.f k a0_2).bind fun t191 => (if (((⟨#[77]⟩ : ByteArray) ++ t190) ++ (⟨#[46]⟩ : ByteArray)).size + t191.size ≤ 9223372036854775807 then (if ((((⟨#[77]⟩ : ByteArray) ++ t190) ++ (⟨#[46]⟩ : ByteArray)) ++ t191).size + 1 ≤ 9223372036854775807 then ((spec_Decimal.f k a0_1).bind fun t192 => (if (((((⟨#[77]⟩ : ByteArray) ++ t190) ++ (⟨#[46]⟩ : ByteArray)) ++ t191) ++ (⟨#[46]⟩ : ByteArray)).size + t192.size ≤ 9223372036854775807 then (if a1 = true then ((spec_Clock.f k a0_4 a1).bind fun t193 => (if 1 + t193.size ≤ 9223372036854775807 then (if ((((((⟨#[77]⟩ : ByteArray) ++ t190) ++ (⟨#[46]⟩ : ByteArray)) ++ t191) ++ (⟨#[46]⟩ : ByteArray)) ++ t192).size + ((⟨#[47]⟩ : ByteArray) ++ t193).size ≤ 9223372036854775807 then (some (((((((⟨#[77]⟩ : ByteArray) ++ t190) ++ (⟨#[46]⟩ : ByteArray)) ++ t191) ++ (⟨#[46]⟩ : ByteArray)) ++ t192) ++ ((⟨#[47]⟩ : ByteArray) ++ t193))) else (none)) else (none))) else (if a0_4 = 7200 then (some ((((((⟨#[77]⟩ : ByteArray) ++ t190) ++ (⟨#[46]⟩ : ByteArray)) ++ t191) ++ (⟨#[46]⟩ : ByteArray)) ++ t192)) else ((spec_Clock.f k a0_4 a1).bind fun t194 => (if 1 + t194.size ≤ 9223372036854775807 then (if ((((((⟨#[77]⟩ : ByteArray) ++ t190) ++ (⟨#[46]⟩ : ByteArray)) ++ t191) ++ (⟨#[46]⟩ : ByteArray)) ++ t192).size + ((⟨#[47]⟩ : ByteArray) ++ t194).size ≤ 9223372036854775807 then (some (((((((⟨#[77]⟩ : ByteArray) ++ t190) ++ (⟨#[46]⟩ : ByteArray)) ++ t191) ++ (⟨#[46]⟩ : ByteArray)) ++ t192) ++ ((⟨#[47]⟩ : ByteArray) ++ t194))) else (none)) else (none))))) else (none))) else (none)) else (none))) else (none)) else (none)) = some r := H
   have A52 := Aside0.mk A520
   clear A520
   by_cases c53 : 1 + t190.size ≤ 9223372036854775807
   ·rw [if_pos c53] at H
    have c53b0 := eq_true c53
    have c53b1 := decide_eq_true c53
    try have c53b2 := eq_false (Nat.not_lt.2 c53)
    by_cases c54 : ((⟨#[77]⟩ : ByteArray) ++ t190).size + 1 ≤ 9223372036854775807
    ·rw [if_pos c54] at H
     have c54b0 := eq_true c54
     have c54b1 := decide_eq_true c54
     try have c54b2 := eq_false (Nat.not_lt.2 c54)
     try (have c54b9 := c54b2; simp only [ByteArray.size_append, show (⟨#[77]⟩ : ByteArray).size = 1 from rfl] at c54b9)
     replace H := Option.bind_eq_some_iff.mp H
     obtain ⟨t191, A550, H⟩ := H
     replace H : (if (((⟨#[77]⟩ : ByteArray) ++ t190) ++ (⟨#[46]⟩ : ByteArray)).size + t191.size ≤ 9223372036854775807 then (if ((((⟨#[77]⟩ : ByteArray) ++ t190) ++ (⟨#[46]⟩ : ByteArray)) ++ t191).size + 1 ≤ 9223372036854775807 then ((spec_Decimal.f k a0_1).bind fun t192 => (if (((((⟨#[77]⟩ : ByteArray) ++ t190) ++ (⟨#[46]⟩ : ByteArray)) ++ t191) ++ (⟨#[46]⟩ : ByteArray)).size + t192.size ≤ 9223372036854775807 then (if a1 = true then ((spec_Clock.f k a0_4 a1).bind fun t193 => (if 1 + t193.size ≤ 9223372036854775807 then (if ((((((⟨#[77]⟩ : ByteArray) ++ t190) ++ (⟨#[46]⟩ : ByteArray)) ++ t191) ++ (⟨#[46]⟩ : ByteArray)) ++ t192).size + ((⟨#[47]⟩ : ByteArray) ++ t193).size ≤ 9223372036854775807 then (some (((((((⟨#[77]⟩ : ByteArray) ++ t190) ++ (⟨#[46]⟩ : ByteArray)) ++ t191) ++ (⟨#[46]⟩ : ByteArray)) ++ t192) ++ ((⟨#[47]⟩ : ByteArray) ++ t193))) else (none)) else (none))) else (if a0_4 = 7200 then (some ((((((⟨#[77]⟩ : ByteArray) ++ t190) ++ (⟨#[46]⟩ : ByteArray)) ++ t191) ++ (⟨#[46]⟩ : ByteArray)) ++ t192)) else ((spec_Clock.f k a0_4 a1).bind fun t194 => (if 1 + t194.size ≤ 9223372036854775807 then (if ((((((⟨#[77]⟩ : ByteArray) ++ t190) ++ (⟨#[46]⟩ : ByteArray)) ++ t191) ++ (⟨#[46]⟩ : ByteArray)) ++ t192).size + ((⟨#[47]⟩ : ByteArray) ++ t194).size ≤ 9223372036854775807 then (some (((((((⟨#[77]⟩ : ByteArray) ++ t190) ++ (⟨#[46]⟩ : ByteArray)) ++ t191) ++ (⟨#[46]⟩ : ByteArray)) ++ t192) ++ ((⟨#[47]⟩ : ByteArray) ++ t194))) else (none)) else (none))))) else (none))) else (none)) else (none)) = some r := H
     have A55 := Aside0.mk A550
     clear A550
     by_cases c56 : (((⟨#[77]⟩ : ByteArray) ++ t190) ++ (⟨#[46]⟩ : ByteArray)).size + t191.size ≤ 9223372036854775807
     ·rw [if_pos c56] at H
      have c56b0 := eq_true c56
      have c56b1 := decide_eq_true c56
      try have c56b2 := eq_false (Nat.not_lt.2 c56)
      try (have c56b9 := c56b2; simp only [ByteArray.size_append, show (⟨#[46]⟩ : ByteArray).size = 1 from rfl, show (⟨#[77]⟩ : ByteArray).size = 1 from rfl] at c56b9)
      by_cases c57 : ((((⟨#[77]⟩ : ByteArray) ++ t190) ++ (⟨#[46]⟩ : ByteArray)) ++ t191).size + 1 ≤ 9223372036854775807
      ·rw [if_pos c57] at H
       have c57b0 := eq_true c57
       have c57b1 := decide_eq_true c57
       try have c57b2 := eq_false (Nat.not_lt.2 c57)
       try (have c57b9 := c57b2; simp only [ByteArray.size_append, show (⟨#[46]⟩ : ByteArray).size = 1 from rfl, show (⟨#[77]⟩ : ByteArray).size = 1 from rfl] at c57b9)
       replace H := Option.bind_eq_some_iff.mp H
       obtain ⟨t192, A580, H⟩ := H
       replace H : (if (((((⟨#[77]⟩ : ByteArray) ++ t190) ++ (⟨#[46]⟩ : ByteArray)) ++ t191) ++ (⟨#[46]⟩ : ByteArray)).size + t192.size ≤ 9223372036854775807 then (if a1 = true then ((spec_Clock.f k a0_4 a1).bind fun t193 => (if 1 + t193.size ≤ 9223372036854775807 then (if ((((((⟨#[77]⟩ : ByteArray) ++ t190) ++ (⟨#[46]⟩ : ByteArray)) ++ t191) ++ (⟨#[46]⟩ : ByteArray)) ++ t192).size + ((⟨#[47]⟩ : ByteArray) ++ t193).size ≤ 9223372036854775807 then (some (((((((⟨#[77]⟩ : ByteArray) ++ t190) ++ (⟨#[46]⟩ : ByteArray)) ++ t191) ++ (⟨#[46]⟩ : ByteArray)) ++ t192) ++ ((⟨#[47]⟩ : ByteArray) ++ t193))) else (none)) else (none))) else (if a0_4 = 7200 then (some ((((((⟨#[77]⟩ : ByteArray) ++ t190) ++ (⟨#[46]⟩ : ByteArray)) ++ t191) ++ (⟨#[46]⟩ : ByteArray)) ++ t192)) else ((spec_Clock.f k a0_4 a1).bind fun t194 => (if 1 + t194.size ≤ 9223372036854775807 then (if ((((((⟨#[77]⟩ : ByteArray) ++ t190) ++ (⟨#[46]⟩ : ByteArray)) ++ t191) ++ (⟨#[46]⟩ : ByteArray)) ++ t192).size + ((⟨#[47]⟩ : ByteArray) ++ t194).size ≤ 9223372036854775807 then (some (((((((⟨#[77]⟩ : ByteArray) ++ t190) ++ (⟨#[46]⟩ : ByteArray)) ++ t191) ++ (⟨#[46]⟩ : ByteArray)) ++ t192) ++ ((⟨#[47]⟩ : ByteArray) ++ t194))) else (none)) else (none))))) else (none)) = some r := H
       have A58 := Aside0.mk A580
       clear A580
       by_cases c59 : (((((⟨#[77]⟩ : ByteArray) ++ t190) ++ (⟨#[46]⟩ : ByteArray)) ++ t191) ++ (⟨#[46]⟩ : ByteArray)).size + t192.size ≤ 9223372036854775807
       ·rw [if_pos c59] at H
        have c59b0 := eq_true c59
        have c59b1 := decide_eq_true c59
        try have c59b2 := eq_false (Nat.not_lt.2 c59)
        try (have c59b9 := c59b2; simp only [ByteArray.size_append, show (⟨#[46]⟩ : ByteArray).size = 1 from rfl, show (⟨#[77]⟩ : ByteArray).size = 1 from rfl] at c59b9)
        by_cases c60 : a1 = true
        ·subst c60
         have H1 : ((spec_Clock.f k a0_4 true).bind fun t193 => (if 1 + t193.size ≤ 9223372036854775807 then (if ((((((⟨#[77]⟩ : ByteArray) ++ t190) ++ (⟨#[46]⟩ : ByteArray)) ++ t191) ++ (⟨#[46]⟩ : ByteArray)) ++ t192).size + ((⟨#[47]⟩ : ByteArray) ++ t193).size ≤ 9223372036854775807 then (some (((((((⟨#[77]⟩ : ByteArray) ++ t190) ++ (⟨#[46]⟩ : ByteArray)) ++ t191) ++ (⟨#[46]⟩ : ByteArray)) ++ t192) ++ ((⟨#[47]⟩ : ByteArray) ++ t193))) else (none)) else (none))) = some r := by rw [if_pos rfl] at H; exact H
         clear H
         have H := H1
         clear H1
         replace H := Option.bind_eq_some_iff.mp H
         obtain ⟨t193, A610, H⟩ := H
         replace H : (if 1 + t193.size ≤ 9223372036854775807 then (if ((((((⟨#[77]⟩ : ByteArray) ++ t190) ++ (⟨#[46]⟩ : ByteArray)) ++ t191) ++ (⟨#[46]⟩ : ByteArray)) ++ t192).size + ((⟨#[47]⟩ : ByteArray) ++ t193).size ≤ 9223372036854775807 then (some (((((((⟨#[77]⟩ : ByteArray) ++ t190) ++ (⟨#[46]⟩ : ByteArray)) ++ t191) ++ (⟨#[46]⟩ : ByteArray)) ++ t192) ++ ((⟨#[47]⟩ : ByteArray) ++ t193))) else (none)) else (none)) = some r := H
         have A61 := Aside0.mk A610
         clear A610
         by_cases c62 : 1 + t193.size ≤ 9223372036854775807
         ·rw [if_pos c62] at H
          have c62b0 := eq_true c62
          have c62b1 := decide_eq_true c62
          try have c62b2 := eq_false (Nat.not_lt.2 c62)
          by_cases c63 : ((((((⟨#[77]⟩ : ByteArray) ++ t190) ++ (⟨#[46]⟩ : ByteArray)) ++ t191) ++ (⟨#[46]⟩ : ByteArray)) ++ t192).size + ((⟨#[47]⟩ : ByteArray) ++ t193).size ≤ 9223372036854775807
          ·rw [if_pos c63] at H
           have c63b0 := eq_true c63
           have c63b1 := decide_eq_true c63
           try have c63b2 := eq_false (Nat.not_lt.2 c63)
           try (have c63b9 := c63b2; simp only [ByteArray.size_append, show (⟨#[46]⟩ : ByteArray).size = 1 from rfl, show (⟨#[47]⟩ : ByteArray).size = 1 from rfl, show (⟨#[77]⟩ : ByteArray).size = 1 from rfl] at c63b9)
           obtain rfl := Option.some.inj H
           go_enter Tryd.func23, Tryd.ntmps23
           try go_wp2_with (first | ((with_reducible refine gate_dst (N := 2) rfl ?_); refine box_event ?hg (N := 2) ?hd (cs := #[.int .i64 a0_0, .int .i64 a0_1, .int .i64 a0_2, .int .i64 a0_3, .int .i64 a0_4]) (t := 29) ?hr ?_; (case hd => rfl); (case hg => rfl); (case hr => first | (go_simp; done) | (go_simp; rfl)); intro gb183 hg w64 hbox hb; have n0_ := Aside0.mk (below_step a0_ hb); have n1_ := Aside0.mk (hbox); have n2_ := Aside0.mk ((by rw [hg]; exact (below_size a0_) : w.heap.size ≤ gb183)); have n3_ := Aside0.mk ((by rw [hg]; exact (below_size a0_) : w.heap.size ≤ gb183)); clear HB; have HB := n0_; have BK183 := n1_; have GW183 := n2_; have GE183 := n3_; clear n0_ n1_ n2_ n3_; clear hb hbox hg; obtain ⟨hcz65_0, hcz65_1, hcz65_2, hcz65_3, hcz65_4, hfz65_0, hfz65_1, hfz65_2, hfz65_3, hfz65_4⟩ := c5f_ BK183.out))
           have n0_ := Aside0.mk (blk_drew BK183.out)
           have n1_ := Aside0.mk (below_drew1 HB.out)
           clear BK183
           clear HB
           have BK183 := n0_
           have HB := n1_
           clear n0_ n1_
           refine start_ (n := 15) (S := fun w' => w'.cell? ⟨gb183, 0, none⟩ = some (.int .i64 a0_0) ∧ w'.cell? ⟨gb183, 1, none⟩ = some (.int .i64 a0_1) ∧ w'.cell? ⟨gb183, 2, none⟩ = some (.int .i64 a0_2) ∧ w'.cell? ⟨gb183, 3, none⟩ = some (.int .i64 a0_3) ∧ w'.cell? ⟨gb183, 4, none⟩ = some (.int .i64 a0_4)) (ds := []) #[false, false, false, false, false, false, false, false, false, false, false, false, false, false, false] (by kernel_rfl) rfl rfl ⟨(blk_cell BK183.out 0).trans rfl, (blk_cell BK183.out 1).trans rfl, (blk_cell BK183.out 2).trans rfl, (blk_cell BK183.out 3).trans rfl, (blk_cell BK183.out 4).trans rfl⟩ (fun hHeld => ?_); refine with_tabW spec_RuleText.tab3 spec_RuleText.bits3 (fun HT_ HW_ => ?_)
           generalize w64.drew = w66 at BK183 HB hHeld ⊢
           refine pure_ (i := 0) (N := some 8) (v := ?_) (a' := ?_) #[true, false, false, false, false, false, false, false, false, false, false, false, false, false, false] rfl rfl (any_of HT_.out (by kernel_rfl)) (fun _ _ _ h => h) (Or.inl ⟨by rfl, ?_⟩) ?_ ?_
           rotate_left
           ·intro w'
            go_simp
            with_reducible rfl
           rotate_left
           ·simp only [Act.put, List.setIfInBounds_toArray, List.set_cons_zero, List.set_cons_succ, i64_w, i32_w]
            rfl
           refine pure_ (i := 5) (N := some 13) (v := ?_) (a' := ?_) #[true, false, false, false, false, true, false, false, false, false, false, false, false, false, false] rfl rfl (any_of HT_.out (by kernel_rfl)) (fun _ _ _ h => h) (Or.inl ⟨by rfl, ?_⟩) ?_ ?_
           rotate_left
           ·intro w'
            go_simp
            with_reducible rfl
           rotate_left
           ·simp only [Act.put, List.setIfInBounds_toArray, List.set_cons_zero, List.set_cons_succ, i64_w, i32_w]
            rfl
           refine pure_ (i := 10) (N := some 18) (v := ?_) (a' := ?_) #[true, false, false, false, false, true, false, false, false, false, true, false, false, false, false] rfl rfl (any_of HT_.out (by kernel_rfl)) (fun _ _ _ h => h) (Or.inl ⟨by rfl, ?_⟩) ?_ ?_
           rotate_left
           ·intro w'
            go_simp
            with_reducible rfl
           rotate_left
           ·simp only [Act.put, List.setIfInBounds_toArray, List.set_cons_zero, List.set_cons_succ, i64_w, i32_w]
            rfl
           refine take_ (i := 1) (N := some 9) (v := ?_) (a' := ?_) #[true, true, false, false, false, true, false, false, false, false, true, false, false, false, false] rfl rfl (take_ofW HT_.out HW_.out (by kernel_rfl)) (fun _ _ _ h => h) (Or.inl ⟨by rfl, ?_⟩) hHeld ?_ ?_
           rotate_left
           ·rintro w' ⟨s0, s1, s2, s3, s4⟩
            go_simp
            with_reducible rfl
           rotate_left
           ·simp only [Act.put, List.setIfInBounds_toArray, List.set_cons_zero, List.set_cons_succ, i64_w, i32_w]
            rfl
           refine take_ (i := 6) (N := some 14) (v := ?_) (a' := ?_) #[true, true, false, false, false, true, true, false, false, false, true, false, false, false, false] rfl rfl (take_ofW HT_.out HW_.out (by kernel_rfl)) (fun _ _ _ h => h) (Or.inl ⟨by rfl, ?_⟩) hHeld ?_ ?_
           rotate_left
           ·rintro w' ⟨s0, s1, s2, s3, s4⟩
            go_simp
            with_reducible rfl
           rotate_left
           ·simp only [Act.put, List.setIfInBounds_toArray, List.set_cons_zero, List.set_cons_succ, i64_w, i32_w]
            rfl
           refine take_ (i := 11) (N := some 19) (v := ?_) (a' := ?_) #[true, true, false, false, false, true, true, false, false, false, true, true, false, false, false] rfl rfl (take_ofW HT_.out HW_.out (by kernel_rfl)) (fun _ _ _ h => h) (Or.inl ⟨by rfl, ?_⟩) hHeld ?_ ?_
           rotate_left
           ·rintro w' ⟨s0, s1, s2, s3, s4⟩
            go_simp
            with_reducible rfl
           rotate_left
           ·simp only [Act.put, List.setIfInBounds_toArray, List.set_cons_zero, List.set_cons_succ, i64_w, i32_w]
            rfl
           refine one_ (i := 2) (N := some 10) #[true, true, true, false, false, true, true, false, false, false, true, true, false, false, false] rfl rfl (one_of HT_.out (by kernel_rfl)) (by decide) (fun K hK => ?_)
           refine goes_ Tryd.func35 (by kernel_rfl) rfl #[.int .i64 a0_3] (by rfl) rfl rfl a1_ ?_
           with_reducible refine (spec_Decimal.calls k a0_3 t190 _ A52.out).mono ?_
           rintro e w67 ⟨rfl, hb⟩
           refine ⟨_, rfl, ?_⟩
           have n0_ := Aside0.mk (blk_below (g := gb183) (o := .cells #[.int .i64 a0_0, .int .i64 a0_1, .int .i64 a0_2, .int .i64 a0_3, .int .i64 a0_4] 29 (0, 0)) a11_ hb)
           have n1_ := Aside0.mk (below_step a9_ hb)
           clear BK183
           clear HB
           have BK183 := n0_
           have HB := n1_
           clear n0_ n1_
           (try clear hb)
           (try clear hb2)
           (try clear hk)
           (try clear hi)
           refine hK.out _ _ ⟨(blk_cell BK183.out 0).trans rfl, (blk_cell BK183.out 1).trans rfl, (blk_cell BK183.out 2).trans rfl, (blk_cell BK183.out 3).trans rfl, (blk_cell BK183.out 4).trans rfl⟩ (fun hHeld => ?_)
           clear hK K
           refine norm_ (a' := ?_) ?_ ?_
           rotate_left
           ·show Act.put _ (some 10) _ = _
            simp only [Act.put, List.setIfInBounds_toArray, List.set_cons_zero, List.set_cons_succ, i64_w, i32_w]
            rfl
           refine pure_ (i := 3) (N := some 11) (v := ?_) (a' := ?_) #[true, true, true, true, false, true, true, false, false, false, true, true, false, false, false] rfl rfl (any_of HT_.out (by kernel_rfl)) (fun _ _ _ h => h) (Or.inl ⟨by rfl, ?_⟩) ?_ ?_
           rotate_left
           ·intro w'
            go_simp
            with_reducible rfl
           rotate_left
           ·simp only [Act.put, List.setIfInBounds_toArray, List.set_cons_zero, List.set_cons_succ, i64_w, i32_w]
            rfl
           refine pure_ (i := 4) (N := some 12) (v := ?_) (a' := ?_) #[true, true, true, true, true, true, true, false, false, false, true, true, false, false, false] rfl rfl (any_of HT_.out (by kernel_rfl)) (fun _ _ _ h => h) (Or.inl ⟨by rfl, ?_⟩) ?_ ?_
           rotate_left
           ·intro w'
            go_simp
            with_reducible rfl
           rotate_left
           ·simp only [Act.put, List.setIfInBounds_toArray, List.set_cons_zero, List.set_cons_succ, i64_w, i32_w]
            rfl
           refine one_ (i := 7) (N := some 15) #[true, true, true, true, true, true, true, true, false, false, true, true, false, false, false] rfl rfl (one_of HT_.out (by kernel_rfl)) (by decide) (fun K hK => ?_)
           refine goes_ Tryd.func35 (by kernel_rfl) rfl #[.int .i64 a0_2] (by rfl) rfl rfl a1_ ?_
           with_reducible refine (spec_Decimal.calls k a0_2 t191 _ A55.out).mono ?_
           rintro e w68 ⟨rfl, hb⟩
           refine ⟨_, rfl, ?_⟩
           have n0_ := Aside0.mk (blk_below (g := gb183) (o := .cells #[.int .i64 a0_0, .int .i64 a0_1, .int .i64 a0_2, .int .i64 a0_3, .int .i64 a0_4] 29 (0, 0)) a11_ hb)
           have n1_ := Aside0.mk (below_step a9_ hb)
           clear BK183
           clear HB
           have BK183 := n0_
           have HB := n1_
           clear n0_ n1_
           (try clear hb)
           (try clear hb2)
           (try clear hk)
           (try clear hi)
           refine hK.out _ _ ⟨(blk_cell BK183.out 0).trans rfl, (blk_cell BK183.out 1).trans rfl, (blk_cell BK183.out 2).trans rfl, (blk_cell BK183.out 3).trans rfl, (blk_cell BK183.out 4).trans rfl⟩ (fun hHeld => ?_)
           clear hK K
           refine norm_ (a' := ?_) ?_ ?_
           rotate_left
           ·show Act.put _ (some 15) _ = _
            simp only [Act.put, List.setIfInBounds_toArray, List.set_cons_zero, List.set_cons_succ, i64_w, i32_w]
            rfl
           refine pure_ (i := 8) (N := some 16) (v := ?_) (a' := ?_) #[true, true, true, true, true, true, true, true, true, false, true, true, false, false, false] rfl rfl (any_of HT_.out (by kernel_rfl)) (fun _ _ _ h => h) (Or.inl ⟨by rfl, ?_⟩) ?_ ?_
           rotate_left
           ·intro w'
            go_simp
            with_reducible rfl
           rotate_left
           ·simp only [Act.put, List.setIfInBounds_toArray, List.set_cons_zero, List.set_cons_succ, i64_w, i32_w]
            rfl
           refine pure_ (i := 9) (N := some 17) (v := ?_) (a' := ?_) #[true, true, true, true, true, true, true, true, true, true, true, true, false, false, false] rfl rfl (any_of HT_.out (by kernel_rfl)) (fun _ _ _ h => h) (Or.inl ⟨by rfl, ?_⟩) ?_ ?_
           rotate_left
           ·intro w'
            go_simp
            with_reducible rfl
           rotate_left
           ·simp only [Act.put, List.setIfInBounds_toArray, List.set_cons_zero, List.set_cons_succ, i64_w, i32_w]
            rfl
           refine one_ (i := 12) (N := some 20) #[true, true, true, true, true, true, true, true, true, true, true, true, true, false, false] rfl rfl (one_of HT_.out (by kernel_rfl)) (by decide) (fun K hK => ?_)
           refine goes_ Tryd.func35 (by kernel_rfl) rfl #[.int .i64 a0_1] (by rfl) rfl rfl a1_ ?_
           with_reducible refine (spec_Decimal.calls k a0_1 t192 _ A58.out).mono ?_
           rintro e w69 ⟨rfl, hb⟩
           refine ⟨_, rfl, ?_⟩
           have n0_ := Aside0.mk (blk_below (g := gb183) (o := .cells #[.int .i64 a0_0, .int .i64 a0_1, .int .i64 a0_2, .int .i64 a0_3, .int .i64 a0_4] 29 (0, 0)) a11_ hb)
           have n1_ := Aside0.mk (below_step a9_ hb)
           clear BK183
           clear HB
           have BK183 := n0_
           have HB := n1_
           clear n0_ n1_
           (try clear hb)
           (try clear hb2)
           (try clear hk)
           (try clear hi)
           refine hK.out _ _ ⟨(blk_cell BK183.out 0).trans rfl, (blk_cell BK183.out 1).trans rfl, (blk_cell BK183.out 2).trans rfl, (blk_cell BK183.out 3).trans rfl, (blk_cell BK183.out 4).trans rfl⟩ (fun hHeld => ?_)
           clear hK K
           refine norm_ (a' := ?_) ?_ ?_
           rotate_left
           ·show Act.put _ (some 20) _ = _
            simp only [Act.put, List.setIfInBounds_toArray, List.set_cons_zero, List.set_cons_succ, i64_w, i32_w]
            rfl
           refine pure_ (i := 13) (N := some 21) (v := ?_) (a' := ?_) #[true, true, true, true, true, true, true, true, true, true, true, true, true, true, false] rfl rfl (any_of HT_.out (by kernel_rfl)) (fun _ _ _ h => h) (Or.inl ⟨by rfl, ?_⟩) ?_ ?_
           rotate_left
           ·intro w'
            go_simp
            with_reducible rfl
           rotate_left
           ·simp only [Act.put, List.setIfInBounds_toArray, List.set_cons_zero, List.set_cons_succ, i64_w, i32_w]
            rfl
           refine pure_ (i := 14) (N := some 5) (v := ?_) (a' := ?_) #[true, true, true, true, true, true, true, true, true, true, true, true, true, true, true] rfl rfl (any_of HT_.out (by kernel_rfl)) (fun _ _ _ h => h) (Or.inl ⟨by rfl, ?_⟩) ?_ ?_
           rotate_left
           ·intro w'
            go_simp
            with_reducible rfl
           rotate_left
           ·simp only [Act.put, List.setIfInBounds_toArray, List.set_cons_zero, List.set_cons_succ, i64_w, i32_w]
            rfl
           refine done_ (done_of HT_.out (by kernel_rfl)) ?_
           obtain ⟨hcz70_0, hcz70_1, hcz70_2, hcz70_3, hcz70_4, hfz70_0, hfz70_1, hfz70_2, hfz70_3, hfz70_4⟩ := c5f_ BK183.out
           try go_wp2_with (first | ((with_reducible refine gate_callee (f := 22) rfl ?_); refine goesL_ (some 43) rfl rfl Tryd.func22 (by kernel_rfl) rfl #[.int .i64 a0_4, .bool true] rfl a1_ ?_; (with_reducible refine (spec_Clock.calls k a0_4 true t193 _ A61.out).mono ?_); rintro e w71 ⟨rfl, hb⟩; refine ⟨_, rfl, ?_⟩; have n0_ := Aside0.mk (blk_below (g := gb183) (o := .cells #[.int .i64 a0_0, .int .i64 a0_1, .int .i64 a0_2, .int .i64 a0_3, .int .i64 a0_4] 29 (0, 0)) a11_ hb); have n1_ := Aside0.mk (below_step a9_ hb); clear BK183; clear HB; have BK183 := n0_; have HB := n1_; clear n0_ n1_; (try clear hb); (try clear hb2); (try clear hk); (try clear hi)))
           go_ret
           exact ⟨by first | rfl | (simp [errW_none, errW_some] <;> rfl) | (simp [*, errW_none, errW_some] <;> rfl), by repeat (first | (with_reducible first | exact HB.out | apply below_alloc | apply pw_below_drewN | apply below_drew1 | refine below_set ?_ GE183.out) | exact HB.out)⟩
          ·rw [if_neg c63] at H
           exact absurd H (by simp)
         ·rw [if_neg c62] at H
          exact absurd H (by simp)
        ·replace c60 := Bool.eq_false_iff.mpr c60
         subst c60
         have H1 : (if a0_4 = 7200 then (some ((((((⟨#[77]⟩ : ByteArray) ++ t190) ++ (⟨#[46]⟩ : ByteArray)) ++ t191) ++ (⟨#[46]⟩ : ByteArray)) ++ t192)) else ((spec_Clock.f k a0_4 false).bind fun t194 => (if 1 + t194.size ≤ 9223372036854775807 then (if ((((((⟨#[77]⟩ : ByteArray) ++ t190) ++ (⟨#[46]⟩ : ByteArray)) ++ t191) ++ (⟨#[46]⟩ : ByteArray)) ++ t192).size + ((⟨#[47]⟩ : ByteArray) ++ t194).size ≤ 9223372036854775807 then (some (((((((⟨#[77]⟩ : ByteArray) ++ t190) ++ (⟨#[46]⟩ : ByteArray)) ++ t191) ++ (⟨#[46]⟩ : ByteArray)) ++ t192) ++ ((⟨#[47]⟩ : ByteArray) ++ t194))) else (none)) else (none)))) = some r := by rw [if_neg (show ¬ (false = true) by decide)] at H; exact H
         clear H
         have H := H1
         clear H1
         by_cases c72 : a0_4 = 7200
         ·rw [if_pos c72] at H
          have c72b0 : (a0_4 == 7200) = true := beq_iff_eq.mpr c72
          have c72b1 : (a0_4 != 7200) = false := bne_eq_false_iff_eq.mpr c72
          clear c72
          obtain rfl := Option.some.inj H
          go_enter Tryd.func23, Tryd.ntmps23
          try go_wp2_with (first | ((with_reducible refine gate_dst (N := 2) rfl ?_); refine box_event ?hg (N := 2) ?hd (cs := #[.int .i64 a0_0, .int .i64 a0_1, .int .i64 a0_2, .int .i64 a0_3, .int .i64 a0_4]) (t := 29) ?hr ?_; (case hd => rfl); (case hg => rfl); (case hr => first | (go_simp; done) | (go_simp; rfl)); intro gb183 hg w73 hbox hb; have n0_ := Aside0.mk (below_step a0_ hb); have n1_ := Aside0.mk (hbox); have n2_ := Aside0.mk ((by rw [hg]; exact (below_size a0_) : w.heap.size ≤ gb183)); have n3_ := Aside0.mk ((by rw [hg]; exact (below_size a0_) : w.heap.size ≤ gb183)); clear HB; have HB := n0_; have BK183 := n1_; have GW183 := n2_; have GE183 := n3_; clear n0_ n1_ n2_ n3_; clear hb hbox hg; obtain ⟨hcz74_0, hcz74_1, hcz74_2, hcz74_3, hcz74_4, hfz74_0, hfz74_1, hfz74_2, hfz74_3, hfz74_4⟩ := c5f_ BK183.out))
          have n0_ := Aside0.mk (blk_drew BK183.out)
          have n1_ := Aside0.mk (below_drew1 HB.out)
          clear BK183
          clear HB
          have BK183 := n0_
          have HB := n1_
          clear n0_ n1_
          refine start_ (n := 15) (S := fun w' => w'.cell? ⟨gb183, 0, none⟩ = some (.int .i64 a0_0) ∧ w'.cell? ⟨gb183, 1, none⟩ = some (.int .i64 a0_1) ∧ w'.cell? ⟨gb183, 2, none⟩ = some (.int .i64 a0_2) ∧ w'.cell? ⟨gb183, 3, none⟩ = some (.int .i64 a0_3) ∧ w'.cell? ⟨gb183, 4, none⟩ = some (.int .i64 a0_4)) (ds := []) #[false, false, false, false, false, false, false, false, false, false, false, false, false, false, false] (by kernel_rfl) rfl rfl ⟨(blk_cell BK183.out 0).trans rfl, (blk_cell BK183.out 1).trans rfl, (blk_cell BK183.out 2).trans rfl, (blk_cell BK183.out 3).trans rfl, (blk_cell BK183.out 4).trans rfl⟩ (fun hHeld => ?_); refine with_tabW spec_RuleText.tab3 spec_RuleText.bits3 (fun HT_ HW_ => ?_)
          generalize w73.drew = w75 at BK183 HB hHeld ⊢
          refine pure_ (i := 0) (N := some 8) (v := ?_) (a' := ?_) #[true, false, false, false, false, false, false, false, false, false, false, false, false, false, false] rfl rfl (any_of HT_.out (by kernel_rfl)) (fun _ _ _ h => h) (Or.inl ⟨by rfl, ?_⟩) ?_ ?_
          rotate_left
          ·intro w'
           go_simp
           with_reducible rfl
          rotate_left
          ·simp only [Act.put, List.setIfInBounds_toArray, List.set_cons_zero, List.set_cons_succ, i64_w, i32_w]
           rfl
          refine pure_ (i := 5) (N := some 13) (v := ?_) (a' := ?_) #[true, false, false, false, false, true, false, false, false, false, false, false, false, false, false] rfl rfl (any_of HT_.out (by kernel_rfl)) (fun _ _ _ h => h) (Or.inl ⟨by rfl, ?_⟩) ?_ ?_
          rotate_left
          ·intro w'
           go_simp
           with_reducible rfl
          rotate_left
          ·simp only [Act.put, List.setIfInBounds_toArray, List.set_cons_zero, List.set_cons_succ, i64_w, i32_w]
           rfl
          refine pure_ (i := 10) (N := some 18) (v := ?_) (a' := ?_) #[true, false, false, false, false, true, false, false, false, false, true, false, false, false, false] rfl rfl (any_of HT_.out (by kernel_rfl)) (fun _ _ _ h => h) (Or.inl ⟨by rfl, ?_⟩) ?_ ?_
          rotate_left
          ·intro w'
           go_simp
           with_reducible rfl
          rotate_left
          ·simp only [Act.put, List.setIfInBounds_toArray, List.set_cons_zero, List.set_cons_succ, i64_w, i32_w]
           rfl
          refine take_ (i := 1) (N := some 9) (v := ?_) (a' := ?_) #[true, true, false, false, false, true, false, false, false, false, true, false, false, false, false] rfl rfl (take_ofW HT_.out HW_.out (by kernel_rfl)) (fun _ _ _ h => h) (Or.inl ⟨by rfl, ?_⟩) hHeld ?_ ?_
          rotate_left
          ·rintro w' ⟨s0, s1, s2, s3, s4⟩
           go_simp
           with_reducible rfl
          rotate_left
          ·simp only [Act.put, List.setIfInBounds_toArray, List.set_cons_zero, List.set_cons_succ, i64_w, i32_w]
           rfl
          refine take_ (i := 6) (N := some 14) (v := ?_) (a' := ?_) #[true, true, false, false, false, true, true, false, false, false, true, false, false, false, false] rfl rfl (take_ofW HT_.out HW_.out (by kernel_rfl)) (fun _ _ _ h => h) (Or.inl ⟨by rfl, ?_⟩) hHeld ?_ ?_
          rotate_left
          ·rintro w' ⟨s0, s1, s2, s3, s4⟩
           go_simp
           with_reducible rfl
          rotate_left
          ·simp only [Act.put, List.setIfInBounds_toArray, List.set_cons_zero, List.set_cons_succ, i64_w, i32_w]
           rfl
          refine take_ (i := 11) (N := some 19) (v := ?_) (a' := ?_) #[true, true, false, false, false, true, true, false, false, false, true, true, false, false, false] rfl rfl (take_ofW HT_.out HW_.out (by kernel_rfl)) (fun _ _ _ h => h) (Or.inl ⟨by rfl, ?_⟩) hHeld ?_ ?_
          rotate_left
          ·rintro w' ⟨s0, s1, s2, s3, s4⟩
           go_simp
           with_reducible rfl
          rotate_left
          ·simp only [Act.put, List.setIfInBounds_toArray, List.set_cons_zero, List.set_cons_succ, i64_w, i32_w]
           rfl
          refine one_ (i := 2) (N := some 10) #[true, true, true, false, false, true, true, false, false, false, true, true, false, false, false] rfl rfl (one_of HT_.out (by kernel_rfl)) (by decide) (fun K hK => ?_)
          refine goes_ Tryd.func35 (by kernel_rfl) rfl #[.int .i64 a0_3] (by rfl) rfl rfl a1_ ?_
          with_reducible refine (spec_Decimal.calls k a0_3 t190 _ A52.out).mono ?_
          rintro e w76 ⟨rfl, hb⟩
          refine ⟨_, rfl, ?_⟩
          have n0_ := Aside0.mk (blk_below (g := gb183) (o := .cells #[.int .i64 a0_0, .int .i64 a0_1, .int .i64 a0_2, .int .i64 a0_3, .int .i64 a0_4] 29 (0, 0)) a11_ hb)
          have n1_ := Aside0.mk (below_step a9_ hb)
          clear BK183
          clear HB
          have BK183 := n0_
          have HB := n1_
          clear n0_ n1_
          (try clear hb)
          (try clear hb2)
          (try clear hk)
          (try clear hi)
          refine hK.out _ _ ⟨(blk_cell BK183.out 0).trans rfl, (blk_cell BK183.out 1).trans rfl, (blk_cell BK183.out 2).trans rfl, (blk_cell BK183.out 3).trans rfl, (blk_cell BK183.out 4).trans rfl⟩ (fun hHeld => ?_)
          clear hK K
          refine norm_ (a' := ?_) ?_ ?_
          rotate_left
          ·show Act.put _ (some 10) _ = _
           simp only [Act.put, List.setIfInBounds_toArray, List.set_cons_zero, List.set_cons_succ, i64_w, i32_w]
           rfl
          refine pure_ (i := 3) (N := some 11) (v := ?_) (a' := ?_) #[true, true, true, true, false, true, true, false, false, false, true, true, false, false, false] rfl rfl (any_of HT_.out (by kernel_rfl)) (fun _ _ _ h => h) (Or.inl ⟨by rfl, ?_⟩) ?_ ?_
          rotate_left
          ·intro w'
           go_simp
           with_reducible rfl
          rotate_left
          ·simp only [Act.put, List.setIfInBounds_toArray, List.set_cons_zero, List.set_cons_succ, i64_w, i32_w]
           rfl
          refine pure_ (i := 4) (N := some 12) (v := ?_) (a' := ?_) #[true, true, true, true, true, true, true, false, false, false, true, true, false, false, false] rfl rfl (any_of HT_.out (by kernel_rfl)) (fun _ _ _ h => h) (Or.inl ⟨by rfl, ?_⟩) ?_ ?_
          rotate_left
          ·intro w'
           go_simp
           with_reducible rfl
          rotate_left
          ·simp only [Act.put, List.setIfInBounds_toArray, List.set_cons_zero, List.set_cons_succ, i64_w, i32_w]
           rfl
          refine one_ (i := 7) (N := some 15) #[true, true, true, true, true, true, true, true, false, false, true, true, false, false, false] rfl rfl (one_of HT_.out (by kernel_rfl)) (by decide) (fun K hK => ?_)
          refine goes_ Tryd.func35 (by kernel_rfl) rfl #[.int .i64 a0_2] (by rfl) rfl rfl a1_ ?_
          with_reducible refine (spec_Decimal.calls k a0_2 t191 _ A55.out).mono ?_
          rintro e w77 ⟨rfl, hb⟩
          refine ⟨_, rfl, ?_⟩
          have n0_ := Aside0.mk (blk_below (g := gb183) (o := .cells #[.int .i64 a0_0, .int .i64 a0_1, .int .i64 a0_2, .int .i64 a0_3, .int .i64 a0_4] 29 (0, 0)) a11_ hb)
          have n1_ := Aside0.mk (below_step a9_ hb)
          clear BK183
          clear HB
          have BK183 := n0_
          have HB := n1_
          clear n0_ n1_
          (try clear hb)
          (try clear hb2)
          (try clear hk)
          (try clear hi)
          refine hK.out _ _ ⟨(blk_cell BK183.out 0).trans rfl, (blk_cell BK183.out 1).trans rfl, (blk_cell BK183.out 2).trans rfl, (blk_cell BK183.out 3).trans rfl, (blk_cell BK183.out 4).trans rfl⟩ (fun hHeld => ?_)
          clear hK K
          refine norm_ (a' := ?_) ?_ ?_
          rotate_left
          ·show Act.put _ (some 15) _ = _
           simp only [Act.put, List.setIfInBounds_toArray, List.set_cons_zero, List.set_cons_succ, i64_w, i32_w]
           rfl
          refine pure_ (i := 8) (N := some 16) (v := ?_) (a' := ?_) #[true, true, true, true, true, true, true, true, true, false, true, true, false, false, false] rfl rfl (any_of HT_.out (by kernel_rfl)) (fun _ _ _ h => h) (Or.inl ⟨by rfl, ?_⟩) ?_ ?_
          rotate_left
          ·intro w'
           go_simp
           with_reducible rfl
          rotate_left
          ·simp only [Act.put, List.setIfInBounds_toArray, List.set_cons_zero, List.set_cons_succ, i64_w, i32_w]
           rfl
          refine pure_ (i := 9) (N := some 17) (v := ?_) (a' := ?_) #[true, true, true, true, true, true, true, true, true, true, true, true, false, false, false] rfl rfl (any_of HT_.out (by kernel_rfl)) (fun _ _ _ h => h) (Or.inl ⟨by rfl, ?_⟩) ?_ ?_
          rotate_left
          ·intro w'
           go_simp
           with_reducible rfl
          rotate_left
          ·simp only [Act.put, List.setIfInBounds_toArray, List.set_cons_zero, List.set_cons_succ, i64_w, i32_w]
           rfl
          refine one_ (i := 12) (N := some 20) #[true, true, true, true, true, true, true, true, true, true, true, true, true, false, false] rfl rfl (one_of HT_.out (by kernel_rfl)) (by decide) (fun K hK => ?_)
          refine goes_ Tryd.func35 (by kernel_rfl) rfl #[.int .i64 a0_1] (by rfl) rfl rfl a1_ ?_
          with_reducible refine (spec_Decimal.calls k a0_1 t192 _ A58.out).mono ?_
          rintro e w78 ⟨rfl, hb⟩
          refine ⟨_, rfl, ?_⟩
          have n0_ := Aside0.mk (blk_below (g := gb183) (o := .cells #[.int .i64 a0_0, .int .i64 a0_1, .int .i64 a0_2, .int .i64 a0_3, .int .i64 a0_4] 29 (0, 0)) a11_ hb)
          have n1_ := Aside0.mk (below_step a9_ hb)
          clear BK183
          clear HB
          have BK183 := n0_
          have HB := n1_
          clear n0_ n1_
          (try clear hb)
          (try clear hb2)
          (try clear hk)
          (try clear hi)
          refine hK.out _ _ ⟨(blk_cell BK183.out 0).trans rfl, (blk_cell BK183.out 1).trans rfl, (blk_cell BK183.out 2).trans rfl, (blk_cell BK183.out 3).trans rfl, (blk_cell BK183.out 4).trans rfl⟩ (fun hHeld => ?_)
          clear hK K
          refine norm_ (a' := ?_) ?_ ?_
          rotate_left
          ·show Act.put _ (some 20) _ = _
           simp only [Act.put, List.setIfInBounds_toArray, List.set_cons_zero, List.set_cons_succ, i64_w, i32_w]
           rfl
          refine pure_ (i := 13) (N := some 21) (v := ?_) (a' := ?_) #[true, true, true, true, true, true, true, true, true, true, true, true, true, true, false] rfl rfl (any_of HT_.out (by kernel_rfl)) (fun _ _ _ h => h) (Or.inl ⟨by rfl, ?_⟩) ?_ ?_
          rotate_left
          ·intro w'
           go_simp
           with_reducible rfl
          rotate_left
          ·simp only [Act.put, List.setIfInBounds_toArray, List.set_cons_zero, List.set_cons_succ, i64_w, i32_w]
           rfl
          refine pure_ (i := 14) (N := some 5) (v := ?_) (a' := ?_) #[true, true, true, true, true, true, true, true, true, true, true, true, true, true, true] rfl rfl (any_of HT_.out (by kernel_rfl)) (fun _ _ _ h => h) (Or.inl ⟨by rfl, ?_⟩) ?_ ?_
          rotate_left
          ·intro w'
           go_simp
           with_reducible rfl
          rotate_left
          ·simp only [Act.put, List.setIfInBounds_toArray, List.set_cons_zero, List.set_cons_succ, i64_w, i32_w]
           rfl
          refine done_ (done_of HT_.out (by kernel_rfl)) ?_
          obtain ⟨hcz79_0, hcz79_1, hcz79_2, hcz79_3, hcz79_4, hfz79_0, hfz79_1, hfz79_2, hfz79_3, hfz79_4⟩ := c5f_ BK183.out
          try go_wp2
          go_ret
          exact ⟨by first | rfl | (simp [errW_none, errW_some] <;> rfl) | (simp [*, errW_none, errW_some] <;> rfl), by repeat (first | (with_reducible first | exact HB.out | apply below_alloc | apply pw_below_drewN | apply below_drew1 | refine below_set ?_ GE183.out) | exact HB.out)⟩
         ·rw [if_neg c72] at H
          have c72b0 : (a0_4 == 7200) = false := beq_eq_false_iff_ne.mpr c72
          have c72b1 : (a0_4 != 7200) = true := bne_iff_ne.mpr c72
          replace H := Option.bind_eq_some_iff.mp H
          obtain ⟨t194, A800, H⟩ := H
          replace H : (if 1 + t194.size ≤ 9223372036854775807 then (if ((((((⟨#[77]⟩ : ByteArray) ++ t190) ++ (⟨#[46]⟩ : ByteArray)) ++ t191) ++ (⟨#[46]⟩ : ByteArray)) ++ t192).size + ((⟨#[47]⟩ : ByteArray) ++ t194).size ≤ 9223372036854775807 then (some (((((((⟨#[77]⟩ : ByteArray) ++ t190) ++ (⟨#[46]⟩ : ByteArray)) ++ t191) ++ (⟨#[46]⟩ : ByteArray)) ++ t192) ++ ((⟨#[47]⟩ : ByteArray) ++ t194))) else (none)) else (none)) = some r := H
          have A80 := Aside0.mk A800
          clear A800
          by_cases c81 : 1 + t194.size ≤ 9223372036854775807
          ·rw [if_pos c81] at H
           have c81b0 := eq_true c81
           have c81b1 := decide_eq_true c81
           try have c81b2 := eq_false (Nat.not_lt.2 c81)
           by_cases c82 : ((((((⟨#[77]⟩ : ByteArray) ++ t190) ++ (⟨#[46]⟩ : ByteArray)) ++ t191) ++ (⟨#[46]⟩ : ByteArray)) ++ t192).size + ((⟨#[47]⟩ : ByteArray) ++ t194).size ≤ 9223372036854775807
           ·rw [if_pos c82] at H
            have c82b0 := eq_true c82
            have c82b1 := decide_eq_true c82
            try have c82b2 := eq_false (Nat.not_lt.2 c82)
            try (have c82b9 := c82b2; simp only [ByteArray.size_append, show (⟨#[46]⟩ : ByteArray).size = 1 from rfl, show (⟨#[47]⟩ : ByteArray).size = 1 from rfl, show (⟨#[77]⟩ : ByteArray).size = 1 from rfl] at c82b9)
            obtain rfl := Option.some.inj H
            go_enter Tryd.func23, Tryd.ntmps23
            try go_wp2_with (first | ((with_reducible refine gate_dst (N := 2) rfl ?_); refine box_event ?hg (N := 2) ?hd (cs := #[.int .i64 a0_0, .int .i64 a0_1, .int .i64 a0_2, .int .i64 a0_3, .int .i64 a0_4]) (t := 29) ?hr ?_; (case hd => rfl); (case hg => rfl); (case hr => first | (go_simp; done) | (go_simp; rfl)); intro gb183 hg w83 hbox hb; have n0_ := Aside0.mk (below_step a0_ hb); have n1_ := Aside0.mk (hbox); have n2_ := Aside0.mk ((by rw [hg]; exact (below_size a0_) : w.heap.size ≤ gb183)); have n3_ := Aside0.mk ((by rw [hg]; exact (below_size a0_) : w.heap.size ≤ gb183)); clear HB; have HB := n0_; have BK183 := n1_; have GW183 := n2_; have GE183 := n3_; clear n0_ n1_ n2_ n3_; clear hb hbox hg; obtain ⟨hcz84_0, hcz84_1, hcz84_2, hcz84_3, hcz84_4, hfz84_0, hfz84_1, hfz84_2, hfz84_3, hfz84_4⟩ := c5f_ BK183.out))
            have n0_ := Aside0.mk (blk_drew BK183.out)
            have n1_ := Aside0.mk (below_drew1 HB.out)
            clear BK183
            clear HB
            have BK183 := n0_
            have HB := n1_
            clear n0_ n1_
            refine start_ (n := 15) (S := fun w' => w'.cell? ⟨gb183, 0, none⟩ = some (.int .i64 a0_0) ∧ w'.cell? ⟨gb183, 1, none⟩ = some (.int .i64 a0_1) ∧ w'.cell? ⟨gb183, 2, none⟩ = some (.int .i64 a0_2) ∧ w'.cell? ⟨gb183, 3, none⟩ = some (.int .i64 a0_3) ∧ w'.cell? ⟨gb183, 4, none⟩ = some (.int .i64 a0_4)) (ds := []) #[false, false, false, false, false, false, false, false, false, false, false, false, false, false, false] (by kernel_rfl) rfl rfl ⟨(blk_cell BK183.out 0).trans rfl, (blk_cell BK183.out 1).trans rfl, (blk_cell BK183.out 2).trans rfl, (blk_cell BK183.out 3).trans rfl, (blk_cell BK183.out 4).trans rfl⟩ (fun hHeld => ?_); refine with_tabW spec_RuleText.tab3 spec_RuleText.bits3 (fun HT_ HW_ => ?_)
            generalize w83.drew = w85 at BK183 HB hHeld ⊢
            refine pure_ (i := 0) (N := some 8) (v := ?_) (a' := ?_) #[true, false, false, false, false, false, false, false, false, false, false, false, false, false, false] rfl rfl (any_of HT_.out (by kernel_rfl)) (fun _ _ _ h => h) (Or.inl ⟨by rfl, ?_⟩) ?_ ?_
            rotate_left
            ·intro w'
             go_simp
             with_reducible rfl
            rotate_left
            ·simp only [Act.put, List.setIfInBounds_toArray, List.set_cons_zero, List.set_cons_succ, i64_w, i32_w]
             rfl
            refine pure_ (i := 5) (N := some 13) (v := ?_) (a' := ?_) #[true, false, false, false, false, true, false, false, false, false, false, false, false, false, false] rfl rfl (any_of HT_.out (by kernel_rfl)) (fun _ _ _ h => h) (Or.inl ⟨by rfl, ?_⟩) ?_ ?_
            rotate_left
            ·intro w'
             go_simp
             with_reducible rfl
            rotate_left
            ·simp only [Act.put, List.setIfInBounds_toArray, List.set_cons_zero, List.set_cons_succ, i64_w, i32_w]
             rfl
            refine pure_ (i := 10) (N := some 18) (v := ?_) (a' := ?_) #[true, false, false, false, false, true, false, false, false, false, true, false, false, false, false] rfl rfl (any_of HT_.out (by kernel_rfl)) (fun _ _ _ h => h) (Or.inl ⟨by rfl, ?_⟩) ?_ ?_
            rotate_left
            ·intro w'
             go_simp
             with_reducible rfl
            rotate_left
            ·simp only [Act.put, List.setIfInBounds_toArray, List.set_cons_zero, List.set_cons_succ, i64_w, i32_w]
             rfl
            refine take_ (i := 1) (N := some 9) (v := ?_) (a' := ?_) #[true, true, false, false, false, true, false, false, false, false, true, false, false, false, false] rfl rfl (take_ofW HT_.out HW_.out (by kernel_rfl)) (fun _ _ _ h => h) (Or.inl ⟨by rfl, ?_⟩) hHeld ?_ ?_
            rotate_left
            ·rintro w' ⟨s0, s1, s2, s3, s4⟩
             go_simp
             with_reducible rfl
            rotate_left
            ·simp only [Act.put, List.setIfInBounds_toArray, List.set_cons_zero, List.set_cons_succ, i64_w, i32_w]
             rfl
            refine take_ (i := 6) (N := some 14) (v := ?_) (a' := ?_) #[true, true, false, false, false, true, true, false, false, false, true, false, false, false, false] rfl rfl (take_ofW HT_.out HW_.out (by kernel_rfl)) (fun _ _ _ h => h) (Or.inl ⟨by rfl, ?_⟩) hHeld ?_ ?_
            rotate_left
            ·rintro w' ⟨s0, s1, s2, s3, s4⟩
             go_simp
             with_reducible rfl
            rotate_left
            ·simp only [Act.put, List.setIfInBounds_toArray, List.set_cons_zero, List.set_cons_succ, i64_w, i32_w]
             rfl
            refine take_ (i := 11) (N := some 19) (v := ?_) (a' := ?_) #[true, true, false, false, false, true, true, false, false, false, true, true, false, false, false] rfl rfl (take_ofW HT_.out HW_.out (by kernel_rfl)) (fun _ _ _ h => h) (Or.inl ⟨by rfl, ?_⟩) hHeld ?_ ?_
            rotate_left
            ·rintro w' ⟨s0, s1, s2, s3, s4⟩
             go_simp
             with_reducible rfl
            rotate_left
            ·simp only [Act.put, List.setIfInBounds_toArray, List.set_cons_zero, List.set_cons_succ, i64_w, i32_w]
             rfl
            refine one_ (i := 2) (N := some 10) #[true, true, true, false, false, true, true, false, false, false, true, true, false, false, false] rfl rfl (one_of HT_.out (by kernel_rfl)) (by decide) (fun K hK => ?_)
            refine goes_ Tryd.func35 (by kernel_rfl) rfl #[.int .i64 a0_3] (by rfl) rfl rfl a1_ ?_
            with_reducible refine (spec_Decimal.calls k a0_3 t190 _ A52.out).mono ?_
            rintro e w86 ⟨rfl, hb⟩
            refine ⟨_, rfl, ?_⟩
            have n0_ := Aside0.mk (blk_below (g := gb183) (o := .cells #[.int .i64 a0_0, .int .i64 a0_1, .int .i64 a0_2, .int .i64 a0_3, .int .i64 a0_4] 29 (0, 0)) a11_ hb)
            have n1_ := Aside0.mk (below_step a9_ hb)
            clear BK183
            clear HB
            have BK183 := n0_
            have HB := n1_
            clear n0_ n1_
            (try clear hb)
            (try clear hb2)
            (try clear hk)
            (try clear hi)
            refine hK.out _ _ ⟨(blk_cell BK183.out 0).trans rfl, (blk_cell BK183.out 1).trans rfl, (blk_cell BK183.out 2).trans rfl, (blk_cell BK183.out 3).trans rfl, (blk_cell BK183.out 4).trans rfl⟩ (fun hHeld => ?_)
            clear hK K
            refine norm_ (a' := ?_) ?_ ?_
            rotate_left
            ·show Act.put _ (some 10) _ = _
             simp only [Act.put, List.setIfInBounds_toArray, List.set_cons_zero, List.set_cons_succ, i64_w, i32_w]
             rfl
            refine pure_ (i := 3) (N := some 11) (v := ?_) (a' := ?_) #[true, true, true, true, false, true, true, false, false, false, true, true, false, false, false] rfl rfl (any_of HT_.out (by kernel_rfl)) (fun _ _ _ h => h) (Or.inl ⟨by rfl, ?_⟩) ?_ ?_
            rotate_left
            ·intro w'
             go_simp
             with_reducible rfl
            rotate_left
            ·simp only [Act.put, List.setIfInBounds_toArray, List.set_cons_zero, List.set_cons_succ, i64_w, i32_w]
             rfl
            refine pure_ (i := 4) (N := some 12) (v := ?_) (a' := ?_) #[true, true, true, true, true, true, true, false, false, false, true, true, false, false, false] rfl rfl (any_of HT_.out (by kernel_rfl)) (fun _ _ _ h => h) (Or.inl ⟨by rfl, ?_⟩) ?_ ?_
            rotate_left
            ·intro w'
             go_simp
             with_reducible rfl
            rotate_left
            ·simp only [Act.put, List.setIfInBounds_toArray, List.set_cons_zero, List.set_cons_succ, i64_w, i32_w]
             rfl
            refine one_ (i := 7) (N := some 15) #[true, true, true, true, true, true, true, true, false, false, true, true, false, false, false] rfl rfl (one_of HT_.out (by kernel_rfl)) (by decide) (fun K hK => ?_)
            refine goes_ Tryd.func35 (by kernel_rfl) rfl #[.int .i64 a0_2] (by rfl) rfl rfl a1_ ?_
            with_reducible refine (spec_Decimal.calls k a0_2 t191 _ A55.out).mono ?_
            rintro e w87 ⟨rfl, hb⟩
            refine ⟨_, rfl, ?_⟩
            have n0_ := Aside0.mk (blk_below (g := gb183) (o := .cells #[.int .i64 a0_0, .int .i64 a0_1, .int .i64 a0_2, .int .i64 a0_3, .int .i64 a0_4] 29 (0, 0)) a11_ hb)
            have n1_ := Aside0.mk (below_step a9_ hb)
            clear BK183
            clear HB
            have BK183 := n0_
            have HB := n1_
            clear n0_ n1_
            (try clear hb)
            (try clear hb2)
            (try clear hk)
            (try clear hi)
            refine hK.out _ _ ⟨(blk_cell BK183.out 0).trans rfl, (blk_cell BK183.out 1).trans rfl, (blk_cell BK183.out 2).trans rfl, (blk_cell BK183.out 3).trans rfl, (blk_cell BK183.out 4).trans rfl⟩ (fun hHeld => ?_)
            clear hK K
            refine norm_ (a' := ?_) ?_ ?_
            rotate_left
            ·show Act.put _ (some 15) _ = _
             simp only [Act.put, List.setIfInBounds_toArray, List.set_cons_zero, List.set_cons_succ, i64_w, i32_w]
             rfl
            refine pure_ (i := 8) (N := some 16) (v := ?_) (a' := ?_) #[true, true, true, true, true, true, true, true, true, false, true, true, false, false, false] rfl rfl (any_of HT_.out (by kernel_rfl)) (fun _ _ _ h => h) (Or.inl ⟨by rfl, ?_⟩) ?_ ?_
            rotate_left
            ·intro w'
             go_simp
             with_reducible rfl
            rotate_left
            ·simp only [Act.put, List.setIfInBounds_toArray, List.set_cons_zero, List.set_cons_succ, i64_w, i32_w]
             rfl
            refine pure_ (i := 9) (N := some 17) (v := ?_) (a' := ?_) #[true, true, true, true, true, true, true, true, true, true, true, true, false, false, false] rfl rfl (any_of HT_.out (by kernel_rfl)) (fun _ _ _ h => h) (Or.inl ⟨by rfl, ?_⟩) ?_ ?_
            rotate_left
            ·intro w'
             go_simp
             with_reducible rfl
            rotate_left
            ·simp only [Act.put, List.setIfInBounds_toArray, List.set_cons_zero, List.set_cons_succ, i64_w, i32_w]
             rfl
            refine one_ (i := 12) (N := some 20) #[true, true, true, true, true, true, true, true, true, true, true, true, true, false, false] rfl rfl (one_of HT_.out (by kernel_rfl)) (by decide) (fun K hK => ?_)
            refine goes_ Tryd.func35 (by kernel_rfl) rfl #[.int .i64 a0_1] (by rfl) rfl rfl a1_ ?_
            with_reducible refine (spec_Decimal.calls k a0_1 t192 _ A58.out).mono ?_
            rintro e w88 ⟨rfl, hb⟩
            refine ⟨_, rfl, ?_⟩
            have n0_ := Aside0.mk (blk_below (g := gb183) (o := .cells #[.int .i64 a0_0, .int .i64 a0_1, .int .i64 a0_2, .int .i64 a0_3, .int .i64 a0_4] 29 (0, 0)) a11_ hb)
            have n1_ := Aside0.mk (below_step a9_ hb)
            clear BK183
            clear HB
            have BK183 := n0_
            have HB := n1_
            clear n0_ n1_
            (try clear hb)
            (try clear hb2)
            (try clear hk)
            (try clear hi)
            refine hK.out _ _ ⟨(blk_cell BK183.out 0).trans rfl, (blk_cell BK183.out 1).trans rfl, (blk_cell BK183.out 2).trans rfl, (blk_cell BK183.out 3).trans rfl, (blk_cell BK183.out 4).trans rfl⟩ (fun hHeld => ?_)
            clear hK K
            refine norm_ (a' := ?_) ?_ ?_
            rotate_left
            ·show Act.put _ (some 20) _ = _
             simp only [Act.put, List.setIfInBounds_toArray, List.set_cons_zero, List.set_cons_succ, i64_w, i32_w]
             rfl
            refine pure_ (i := 13) (N := some 21) (v := ?_) (a' := ?_) #[true, true, true, true, true, true, true, true, true, true, true, true, true, true, false] rfl rfl (any_of HT_.out (by kernel_rfl)) (fun _ _ _ h => h) (Or.inl ⟨by rfl, ?_⟩) ?_ ?_
            rotate_left
            ·intro w'
             go_simp
             with_reducible rfl
            rotate_left
            ·simp only [Act.put, List.setIfInBounds_toArray, List.set_cons_zero, List.set_cons_succ, i64_w, i32_w]
             rfl
            refine pure_ (i := 14) (N := some 5) (v := ?_) (a' := ?_) #[true, true, true, true, true, true, true, true, true, true, true, true, true, true, true] rfl rfl (any_of HT_.out (by kernel_rfl)) (fun _ _ _ h => h) (Or.inl ⟨by rfl, ?_⟩) ?_ ?_
            rotate_left
            ·intro w'
             go_simp
             with_reducible rfl
            rotate_left
            ·simp only [Act.put, List.setIfInBounds_toArray, List.set_cons_zero, List.set_cons_succ, i64_w, i32_w]
             rfl
            refine done_ (done_of HT_.out (by kernel_rfl)) ?_
            obtain ⟨hcz89_0, hcz89_1, hcz89_2, hcz89_3, hcz89_4, hfz89_0, hfz89_1, hfz89_2, hfz89_3, hfz89_4⟩ := c5f_ BK183.out
            try go_wp2_with (first | ((with_reducible refine gate_callee (f := 22) rfl ?_); refine goesL_ (some 43) rfl rfl Tryd.func22 (by kernel_rfl) rfl #[.int .i64 a0_4, .bool false] rfl a1_ ?_; (with_reducible refine (spec_Clock.calls k a0_4 false t194 _ A80.out).mono ?_); rintro e w90 ⟨rfl, hb⟩; refine ⟨_, rfl, ?_⟩; have n0_ := Aside0.mk (blk_below (g := gb183) (o := .cells #[.int .i64 a0_0, .int .i64 a0_1, .int .i64 a0_2, .int .i64 a0_3, .int .i64 a0_4] 29 (0, 0)) a11_ hb); have n1_ := Aside0.mk (below_step a9_ hb); clear BK183; clear HB; have BK183 := n0_; have HB := n1_; clear n0_ n1_; (try clear hb); (try clear hb2); (try clear hk); (try clear hi)))
            go_ret
            exact ⟨by first | rfl | (simp [errW_none, errW_some] <;> rfl) | (simp [*, errW_none, errW_some] <;> rfl), by repeat (first | (with_reducible first | exact HB.out | apply below_alloc | apply pw_below_drewN | apply below_drew1 | refine below_set ?_ GE183.out) | exact HB.out)⟩
           ·rw [if_neg c82] at H
            exact absurd H (by simp)
          ·rw [if_neg c81] at H
           exact absurd H (by simp)
       ·rw [if_neg c59] at H
        exact absurd H (by simp)
      ·rw [if_neg c57] at H
       exact absurd H (by simp)
     ·rw [if_neg c56] at H
      exact absurd H (by simp)
    ·rw [if_neg c54] at H
     exact absurd H (by simp)
   ·rw [if_neg c53] at H
    exact absurd H (by simp)
end Go.Proofs.YtjoaeennbfmohaaDoor.PFnZone
