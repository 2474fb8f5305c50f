/- The walks of some functions. Laid by programs (wip/mkq.py, wip/mkclaim.py) out of the texts that the kit's print.sh wrote for this seat, written shorter. Not written by hand. -/
import Derived.Test.YtjoaeennbfmohaaDoorC0
import Derived.Test.YtjoaeennbfmohaaDoorC1
import Derived.Test.YtjoaeennbfmohaaDoorC5
import Derived.Test.YtjoaeennbfmohaaDoorC6
namespace Go.Proofs.YtjoaeennbfmohaaDoor.PFnZone
open Go.RowKit Go.Proofs.YtjoaeennbfmohaaDoorW.PrintWords Go.Proofs.YtjoaeennbfmohaaDoorW.PrintLast Go.Proofs.YtjoaeennbfmohaaDoorW.PrintMore
attribute [local go_sem] max2_int min2_int max_two min_two max_three min_three max_four min_four   -- for this text's walks alone
set_option linter.unusedVariables false
set_option linter.unusedSimpArgs false
def spec_Text.f (k : Nat) (a0_0 : ByteArray) (a0_1 : Int) (a0_2 : Bool) (a0_3 : ByteArray) (a0_4 : Int) (a0_5 : Bool) (a0_6 : Int) (a0_7 : Int) (a0_8 : Int) (a0_9 : Int) (a0_10 : Int) (a0_11 : Int) (a0_12 : Int) (a0_13 : Int) (a0_14 : Int) (a0_15 : Int) (a1 : Bool) : Option (ByteArray) := (spec_Name.f k a0_0).bind fun t196 => ((spec_Clock.f k (wrap64 (-a0_1)) a1).bind fun t197 => (if t196.size + t197.size ≤ 9223372036854775807 then ((spec_Name.f k a0_3).bind fun t198 => (if (t196 ++ t197).size + t198.size ≤ 9223372036854775807 then ((spec_Clock.f k (wrap64 (-a0_4)) a1).bind fun t199 => (if ((t196 ++ t197) ++ t198).size + t199.size ≤ 9223372036854775807 then (if (((t196 ++ t197) ++ t198) ++ t199).size + 1 ≤ 9223372036854775807 then ((spec_RuleText.f k a0_6 a0_7 a0_8 a0_9 a0_10 a1).bind fun t200 => (if ((((t196 ++ t197) ++ t198) ++ t199) ++ (⟨#[44]⟩ : ByteArray)).size + t200.size ≤ 9223372036854775807 then (if (((((t196 ++ t197) ++ t198) ++ t199) ++ (⟨#[44]⟩ : ByteArray)) ++ t200).size + 1 ≤ 9223372036854775807 then ((spec_RuleText.f k a0_11 a0_12 a0_13 a0_14 a0_15 a1).bind fun t201 => (if ((((((t196 ++ t197) ++ t198) ++ t199) ++ (⟨#[44]⟩ : ByteArray)) ++ t200) ++ (⟨#[44]⟩ : ByteArray)).size + t201.size ≤ 9223372036854775807 then (some (((((((t196 ++ t197) ++ t198) ++ t199) ++ (⟨#[44]⟩ : ByteArray)) ++ t200) ++ (⟨#[44]⟩ : ByteArray)) ++ t201)) else (none))) else (none)) else (none))) else (none)) else (none))) else (none))) else (none)))
def spec_Text.T1 : Bool × List (List Nat × List Nat) := (true, [([], []), ([0], [0]), ([1], [1]), ([2], [2]), ([], []), ([4], [4]), ([5], [5]), ([6], [6]), ([], []), ([7, 8, 3], [7, 8]), ([3, 9], [3, 9]), ([], []), ([11], [11]), ([12], [12]), ([13, 9], [13]), ([10, 14], [10, 14]), ([], []), ([16], [16]), ([17], [17]), ([18], [18]), ([], []), ([19, 20, 14], [19, 20]), ([15, 21], [15, 21]), ([22], [22]), ([], []), ([24], [24]), ([], []), ([25, 26, 21], [25, 26]), ([23, 27], [23, 27]), ([28], [28]), ([], []), ([30], [30]), ([], []), ([31, 32, 27], [31, 32]), ([29, 33], [29, 33]), ([34, 33, 0, 1, 2, 3, 4, 5, 6, 7, 8, 9, 10, 11, 12, 13, 14, 15, 16, 17, 18, 19, 20, 21, 22, 23, 24, 25, 26, 27, 28, 29, 30, 31, 32, 33, 34], [34])])
def spec_Text.B1 : List Nat := [0, 1, 3, 7, 0, 16, 48, 112, 0, 511, 1023, 0, 2048, 6144, 15359, 32767, 0, 65536, 196608, 458752, 0, 2063359, 4194303, 8388607, 0, 16777216, 0, 121601023, 268435455, 536870911, 0, 1073741824, 0, 7772011519, 17179869183, 34359738367]
theorem spec_Text.tab1 : rtab .any (opsOf Tryd.f8 1) = spec_Text.T1 := by kernel_rfl
theorem spec_Text.bits1 : waitsOk spec_Text.T1.2 spec_Text.B1 = true := by kernel_rfl
set_option maxHeartbeats 8000000 in
set_option maxRecDepth 100000 in
theorem spec_Text.calls (k : Nat) (a0_0 : ByteArray) (a0_1 : Int) (a0_2 : Bool) (a0_3 : ByteArray) (a0_4 : Int) (a0_5 : Bool) (a0_6 : Int) (a0_7 : Int) (a0_8 : Int) (a0_9 : Int) (a0_10 : Int) (a0_11 : Int) (a0_12 : Int) (a0_13 : Int) (a0_14 : Int) (a0_15 : Int) (a1 : Bool) (r : ByteArray) (w : World) (h : spec_Text.f k a0_0 a0_1 a0_2 a0_3 a0_4 a0_5 a0_6 a0_7 a0_8 a0_9 a0_10 a0_11 a0_12 a0_13 a0_14 a0_15 a1 = some r) :
  Calls Tryd.prog 8 #[.agg #[.string a0_0, .int .i64 a0_1, .bool a0_2, .string a0_3, .int .i64 a0_4, .bool a0_5, .int .i64 a0_6, .int .i64 a0_7, .int .i64 a0_8, .int .i64 a0_9, .int .i64 a0_10, .int .i64 a0_11, .int .i64 a0_12, .int .i64 a0_13, .int .i64 a0_14, .int .i64 a0_15], .bool a1] w fun e w' => e = .returned (.string r) ∧ Below w.heap.size w w' := by
 have hu33 := Tryd.underlying33
 have hu29 := Tryd.underlying29
 have HB := Aside0.mk (Below.refl w.heap.size w)
 have H : ((spec_Name.f k a0_0).bind fun t196 => ((spec_Clock.f k (wrap64 (-a0_1)) a1).bind fun t197 => (if t196.size + t197.size ≤ 9223372036854775807 then ((spec_Name.f k a0_3).bind fun t198 => (if (t196 ++ t197).size + t198.size ≤ 9223372036854775807 then ((spec_Clock.f k (wrap64 (-a0_4)) a1).bind fun t199 => (if ((t196 ++ t197) ++ t198).size + t199.size ≤ 9223372036854775807 then (if (((t196 ++ t197) ++ t198) ++ t199).size + 1 ≤ 9223372036854775807 then ((spec_RuleText.f k a0_6 a0_7 a0_8 a0_9 a0_10 a1).bind fun t200 => (if ((((t196 ++ t197) ++ t198) ++ t199) ++ (⟨#[44]⟩ : ByteArray)).size + t200.size ≤ 9223372036854775807 then (if (((((t196 ++ t197) ++ t198) ++ t199) ++ (⟨#[44]⟩ : ByteArray)) ++ t200).size + 1 ≤ 9223372036854775807 then ((spec_RuleText.f k a0_11 a0_12 a0_13 a0_14 a0_15 a1).bind fun t201 => (if ((((((t196 ++ t197) ++ t198) ++ t199) ++ (⟨#[44]⟩ : ByteArray)) ++ t200) ++ (⟨#[44]⟩ : ByteArray)).size + t201.size ≤ 9223372036854775807 then (some (((((((t196 ++ t197) ++ t198) ++ t199) ++ (⟨#[44]⟩ : ByteArray)) ++ t200) ++ (⟨#[44]⟩ : ByteArray)) ++ t201)) else (none))) else (none)) else (none))) else (none)) else (none))) else (none))) else (none)))) = some r := h
 clear h
 replace H := Option.bind_eq_some_iff.mp H
 obtain ⟨t196, A30, H⟩ := H
 replace H : ((spec_Clock.f k (wrap64 (-a0_1)) a1).bind fun t197 => (if t196.size + t197.size ≤ 9223372036854775807 then ((spec_Name.f k a0_3).bind fun t198 => (if (t196 ++ t197).size + t198.size ≤ 9223372036854775807 then ((spec_Clock.f k (wrap64 (-a0_4)) a1).bind fun t199 => (if ((t196 ++ t197) ++ t198).size + t199.size ≤ 9223372036854775807 then (if (((t196 ++ t197) ++ t198) ++ t199).size + 1 ≤ 9223372036854775807 then ((spec_RuleText.f k a0_6 a0_7 a0_8 a0_9 a0_10 a1).bind fun t200 => (if ((((t196 ++ t197) ++ t198) ++ t199) ++ (⟨#[44]⟩ : ByteArray)).size + t200.size ≤ 9223372036854775807 then (if (((((t196 ++ t197) ++ t198) ++ t199) ++ (⟨#[44]⟩ : ByteArray)) ++ t200).size + 1 ≤ 9223372036854775807 then ((spec_RuleText.f k a0_11 a0_12 a0_13 a0_14 a0_15 a1).bind fun t201 => (if ((((((t196 ++ t197) ++ t198) ++ t199) ++ (⟨#[44]⟩ : ByteArray)) ++ t200) ++ (⟨#[44]⟩ : ByteArray)).size + t201.size ≤ 9223372036854775807 then (some (((((((t196 ++ t197) ++ t198) ++ t199) ++ (⟨#[44]⟩ : ByteArray)) ++ t200) ++ (⟨#[44]⟩ : ByteArray)) ++ t201)) else (none))) else (none)) else (none))) else (none)) else (none))) else (none))) else (none))) = some r := H
 have A3 := Aside0.mk A30
 clear A30
 replace H := Option.bind_eq_some_iff.mp H
 obtain ⟨t197, A40, H⟩ := H
 replace H : (if t196.size + t197.size ≤ 9223372036854775807 then ((spec_Name.f k a0_3).bind fun t198 => (if (t196 ++ t197).size + t198.size ≤ 9223372036854775807 then ((spec_Clock.f k (wrap64 (-a0_4)) a1).bind fun t199 => (if ((t196 ++ t197) ++ t198).size + t199.size ≤ 9223372036854775807 then (if (((t196 ++ t197) ++ t198) ++ t199).size + 1 ≤ 9223372036854775807 then ((spec_RuleText.f k a0_6 a0_7 a0_8 a0_9 a0_10 a1).bind fun t200 => (if ((((t196 ++ t197) ++ t198) ++ t199) ++ (⟨#[44]⟩ : ByteArray)).size + t200.size ≤ 9223372036854775807 then (if (((((t196 ++ t197) ++ t198) ++ t199) ++ (⟨#[44]⟩ : ByteArray)) ++ t200).size + 1 ≤ 9223372036854775807 then ((spec_RuleText.f k a0_11 a0_12 a0_13 a0_14 a0_15 a1).bind fun t201 => (if ((((((t196 ++ t197) ++ t198) ++ t199) ++ (⟨#[44]⟩ : ByteArray)) ++ t200) ++ (⟨#[44]⟩ : ByteArray)).size + t201.size ≤ 9223372036854775807 then (some (((((((t196 ++ t197) ++ t198) ++ t199) ++ (⟨#[44]⟩ : ByteArray)) ++ t200) ++ (⟨#[44]⟩ : ByteArray)) ++ t201)) else (none))) else (none)) else (none))) else (none)) else (none))) else (none))) else (none)) = some r := H
 have A4 := Aside0.mk A40
 clear A40
 by_cases c5 : t196.size + t197.size ≤ 9223372036854775807
 ·rw [if_pos c5] at H
  have c5b0 := eq_true c5
  have c5b1 := decide_eq_true c5
  try have c5b2 := eq_false (Nat.not_lt.2 c5)
  replace H := Option.bind_eq_some_iff.mp H
  obtain ⟨t198, A60, H⟩ := H
  replace H : (if (t196 ++ t197).size + t198.size ≤ 9223372036854775807 then ((spec_Clock.f k (wrap64 (-a0_4)) a1).bind fun t199 => (if ((t196 ++ t197) ++ t198).size + t199.size ≤ 9223372036854775807 then (if (((t196 ++ t197) ++ t198) ++ t199).size + 1 ≤ 9223372036854775807 then ((spec_RuleText.f k a0_6 a0_7 a0_8 a0_9 a0_10 a1).bind fun t200 => (if ((((t196 ++ t197) ++ t198) ++ t199) ++ (⟨#[44]⟩ : ByteArray)).size + t200.size ≤ 9223372036854775807 then (if (((((t196 ++ t197) ++ t198) ++ t199) ++ (⟨#[44]⟩ : ByteArray)) ++ t200).size + 1 ≤ 9223372036854775807 then ((spec_RuleText.f k a0_11 a0_12 a0_13 a0_14 a0_15 a1).bind fun t201 => (if ((((((t196 ++ t197) ++ t198) ++ t199) ++ (⟨#[44]⟩ : ByteArray)) ++ t200) ++ (⟨#[44]⟩ : ByteArray)).size + t201.size ≤ 9223372036854775807 then (some (((((((t196 ++ t197) ++ t198) ++ t199) ++ (⟨#[44]⟩ : ByteArray)) ++ t200) ++ (⟨#[44]⟩ : ByteArray)) ++ t201)) else (none))) else (none)) else (none))) else (none)) else (none))) else (none)) = some r := H
  have A6 := Aside0.mk A60
  clear A60
  by_cases c7 : (t196 ++ t197).size + t198.size ≤ 9223372036854775807
  ·rw [if_pos c7] at H
   have c7b0 := eq_true c7
   have c7b1 := decide_eq_true c7
   try have c7b2 := eq_false (Nat.not_lt.2 c7)
   try (have c7b9 := c7b2; simp only [ByteArray.size_append] at c7b9)
   replace H := Option.bind_eq_some_iff.mp H
   obtain ⟨t199, A80, H⟩ := H
   replace H : (if ((t196 ++ t197) ++ t198).size + t199.size ≤ 9223372036854775807 then (if (((t196 ++ t197) ++ t198) ++ t199).size + 1 ≤ 9223372036854775807 then ((spec_RuleText.f k a0_6 a0_7 a0_8 a0_9 a0_10 a1).bind fun t200 => (if ((((t196 ++ t197) ++ t198) ++ t199) ++ (⟨#[44]⟩ : ByteArray)).size + t200.size ≤ 9223372036854775807 then (if (((((t196 ++ t197) ++ t198) ++ t199) ++ (⟨#[44]⟩ : ByteArray)) ++ t200).size + 1 ≤ 9223372036854775807 then ((spec_RuleText.f k a0_11 a0_12 a0_13 a0_14 a0_15 a1).bind fun t201 => (if ((((((t196 ++ t197) ++ t198) ++ t199) ++ (⟨#[44]⟩ : ByteArray)) ++ t200) ++ (⟨#[44]⟩ : ByteArray)).size + t201.size ≤ 9223372036854775807 then (some (((((((t196 ++ t197) ++ t198) ++ t199) ++ (⟨#[44]⟩ : ByteArray)) ++ t200) ++ (⟨#[44]⟩ : ByteArray)) ++ t201)) else (none))) else (none)) else (none))) else (none)) else (none)) = some r := H
   have A8 := Aside0.mk A80
   clear A80
   by_cases c9 : ((t196 ++ t197) ++ t198).size + t199.size ≤ 9223372036854775807
   ·rw [if_pos c9] at H
    have c9b0 := eq_true c9
    have c9b1 := decide_eq_true c9
    try have c9b2 := eq_false (Nat.not_lt.2 c9)
    try (have c9b9 := c9b2; simp only [ByteArray.size_append] at c9b9)
    by_cases c10 : (((t196 ++ t197) ++ t198) ++ t199).size + 1 ≤ 9223372036854775807
    ·rw [if_pos c10] at H
     have c10b0 := eq_true c10
     have c10b1 := decide_eq_true c10
     try have c10b2 := eq_false (Nat.not_lt.2 c10)
     try (have c10b9 := c10b2; simp only [ByteArray.size_append] at c10b9)
     replace H := Option.bind_eq_some_iff.mp H
     obtain ⟨t200, A110, H⟩ := H
     replace H : (if ((((t196 ++ t197) ++ t198) ++ t199) ++ (⟨#[44]⟩ : ByteArray)).size + t200.size ≤ 9223372036854775807 then (if (((((t196 ++ t197) ++ t198) ++ t199) ++ (⟨#[44]⟩ : ByteArray)) ++ t200).size + 1 ≤ 9223372036854775807 then ((spec_RuleText.f k a0_11 a0_12 a0_13 a0_14 a0_15 a1).bind fun t201 => (if ((((((t196 ++ t197) ++ t198) ++ t199) ++ (⟨#[44]⟩ : ByteArray)) ++ t200) ++ (⟨#[44]⟩ : ByteArray)).size + t201.size ≤ 9223372036854775807 then (some (((((((t196 ++ t197) ++ t198) ++ t199) ++ (⟨#[44]⟩ : ByteArray)) ++ t200) ++ (⟨#[44]⟩ : ByteArray)) ++ t201)) else (none))) else (none)) else (none)) = some r := H
     have A11 := Aside0.mk A110
     clear A110
     by_cases c12 : ((((t196 ++ t197) ++ t198) ++ t199) ++ (⟨#[44]⟩ : ByteArray)).size + t200.size ≤ 9223372036854775807
     ·rw [if_pos c12] at H
      have c12b0 := eq_true c12
      have c12b1 := decide_eq_true c12
      try have c12b2 := eq_false (Nat.not_lt.2 c12)
      try (have c12b9 := c12b2; simp only [ByteArray.size_append, show (⟨#[44]⟩ : ByteArray).size = 1 from rfl] at c12b9)
      by_cases c13 : (((((t196 ++ t197) ++ t198) ++ t199) ++ (⟨#[44]⟩ : ByteArray)) ++ t200).size + 1 ≤ 9223372036854775807
      ·rw [if_pos c13] at H
       have c13b0 := eq_true c13
       have c13b1 := decide_eq_true c13
       try have c13b2 := eq_false (Nat.not_lt.2 c13)
       try (have c13b9 := c13b2; simp only [ByteArray.size_append, show (⟨#[44]⟩ : ByteArray).size = 1 from rfl] at c13b9)
       replace H := Option.bind_eq_some_iff.mp H
       obtain ⟨t201, A140, H⟩ := H
       replace H : (if ((((((t196 ++ t197) ++ t198) ++ t199) ++ (⟨#[44]⟩ : ByteArray)) ++ t200) ++ (⟨#[44]⟩ : ByteArray)).size + t201.size ≤ 9223372036854775807 then (some (((((((t196 ++ t197) ++ t198) ++ t199) ++ (⟨#[44]⟩ : ByteArray)) ++ t200) ++ (⟨#[44]⟩ : ByteArray)) ++ t201)) else (none)) = some r := H
       have A14 := Aside0.mk A140
       clear A140
       by_cases c15 : ((((((t196 ++ t197) ++ t198) ++ t199) ++ (⟨#[44]⟩ : ByteArray)) ++ t200) ++ (⟨#[44]⟩ : ByteArray)).size + t201.size ≤ 9223372036854775807
       ·rw [if_pos c15] at H
        have c15b0 := eq_true c15
        have c15b1 := decide_eq_true c15
        try have c15b2 := eq_false (Nat.not_lt.2 c15)
        try (have c15b9 := c15b2; simp only [ByteArray.size_append, show (⟨#[44]⟩ : ByteArray).size = 1 from rfl] at c15b9)
        obtain rfl := Option.some.inj H
        go_enter Tryd.func8, Tryd.ntmps8
        try go_wp2_with (first | ((with_reducible refine gate_dst (N := 2) rfl ?_); refine box_event ?hg (N := 2) ?hd (cs := #[.string a0_0, .int .i64 a0_1, .bool a0_2, .string a0_3, .int .i64 a0_4, .bool a0_5, .int .i64 a0_6, .int .i64 a0_7, .int .i64 a0_8, .int .i64 a0_9, .int .i64 a0_10, .int .i64 a0_11, .int .i64 a0_12, .int .i64 a0_13, .int .i64 a0_14, .int .i64 a0_15]) (t := 33) ?hr ?_; (case hd => rfl); (case hg => rfl); (case hr => first | (go_simp; done) | (go_simp; rfl)); intro gb195 hg w16 hbox hb; have n0_ := Aside0.mk (below_step a0_ hb); have n1_ := Aside0.mk (hbox); have n2_ := Aside0.mk ((by rw [hg]; exact (below_size a0_) : w.heap.size ≤ gb195)); have n3_ := Aside0.mk ((by rw [hg]; exact (below_size a0_) : w.heap.size ≤ gb195)); clear HB; have HB := n0_; have BK195 := n1_; have GW195 := n2_; have GE195 := n3_; clear n0_ n1_ n2_ n3_; clear hb hbox hg))
        have n0_ := Aside0.mk (blk_drew BK195.out)
        have n1_ := Aside0.mk (below_drew1 HB.out)
        clear BK195
        clear HB
        have BK195 := n0_
        have HB := n1_
        clear n0_ n1_
        refine start_ (n := 36) (S := fun w' => w'.cell? ⟨gb195, 0, none⟩ = some (.string a0_0) ∧ w'.cell? ⟨gb195, 1, none⟩ = some (.int .i64 a0_1) ∧ w'.cell? ⟨gb195, 2, none⟩ = some (.bool a0_2) ∧ w'.cell? ⟨gb195, 3, none⟩ = some (.string a0_3) ∧ w'.cell? ⟨gb195, 4, none⟩ = some (.int .i64 a0_4) ∧ w'.cell? ⟨gb195, 5, none⟩ = some (.bool a0_5) ∧ w'.cell? ⟨gb195, 6, none⟩ = some (.int .i64 a0_6) ∧ w'.cell? ⟨gb195, 7, none⟩ = some (.int .i64 a0_7) ∧ w'.cell? ⟨gb195, 8, none⟩ = some (.int .i64 a0_8) ∧ w'.cell? ⟨gb195, 9, none⟩ = some (.int .i64 a0_9) ∧ w'.cell? ⟨gb195, 10, none⟩ = some (.int .i64 a0_10) ∧ w'.cell? ⟨gb195, 11, none⟩ = some (.int .i64 a0_11) ∧ w'.cell? ⟨gb195, 12, none⟩ = some (.int .i64 a0_12) ∧ w'.cell? ⟨gb195, 13, none⟩ = some (.int .i64 a0_13) ∧ w'.cell? ⟨gb195, 14, none⟩ = some (.int .i64 a0_14) ∧ w'.cell? ⟨gb195, 15, none⟩ = some (.int .i64 a0_15)) (ds := []) #[false, false, false, false, false, false, false, false, false, false, false, false, false, false, false, false, false, false, false, false, false, false, false, false, false, false, false, false, false, false, false, false, false, false, false, false] (by kernel_rfl) rfl rfl ⟨(blk_cell BK195.out 0).trans rfl, (blk_cell BK195.out 1).trans rfl, (blk_cell BK195.out 2).trans rfl, (blk_cell BK195.out 3).trans rfl, (blk_cell BK195.out 4).trans rfl, (blk_cell BK195.out 5).trans rfl, (blk_cell BK195.out 6).trans rfl, (blk_cell BK195.out 7).trans rfl, (blk_cell BK195.out 8).trans rfl, (blk_cell BK195.out 9).trans rfl, (blk_cell BK195.out 10).trans rfl, (blk_cell BK195.out 11).trans rfl, (blk_cell BK195.out 12).trans rfl, (blk_cell BK195.out 13).trans rfl, (blk_cell BK195.out 14).trans rfl, (blk_cell BK195.out 15).trans rfl⟩ (fun hHeld => ?_); refine with_tabW spec_Text.tab1 spec_Text.bits1 (fun HT_ HW_ => ?_)
        generalize w16.drew = w17 at BK195 HB hHeld ⊢
        refine pure_ (i := 0) (N := some 5) (v := ?_) (a' := ?_) #[true, false, false, false, false, false, false, false, false, false, false, false, false, false, false, false, false, false, false, false, false, false, false, false, false, false, false, false, false, false, false, false, false, false, false, false] rfl rfl (any_of HT_.out (by kernel_rfl)) (fun _ _ _ h => h) (Or.inl ⟨by rfl, ?_⟩) ?_ ?_
        rotate_left
        ·intro w'
         go_simp
         with_reducible rfl
        rotate_left
        ·simp only [Act.put, List.setIfInBounds_toArray, List.set_cons_zero, List.set_cons_succ, i64_w, i32_w]
         rfl
        refine pure_ (i := 1) (N := some 6) (v := ?_) (a' := ?_) #[true, true, false, false, false, false, false, false, false, false, false, false, false, false, false, false, false, false, false, false, false, false, false, false, false, false, false, false, false, false, false, false, false, false, false, false] rfl rfl (any_of HT_.out (by kernel_rfl)) (fun _ _ _ h => h) (Or.inl ⟨by rfl, ?_⟩) ?_ ?_
        rotate_left
        ·intro w'
         go_simp
         with_reducible rfl
        rotate_left
        ·simp only [Act.put, List.setIfInBounds_toArray, List.set_cons_zero, List.set_cons_succ, i64_w, i32_w]
         rfl
        refine pure_ (i := 4) (N := some 9) (v := ?_) (a' := ?_) #[true, true, false, false, true, false, false, false, false, false, false, false, false, false, false, false, false, false, false, false, false, false, false, false, false, false, false, false, false, false, false, false, false, false, false, false] rfl rfl (any_of HT_.out (by kernel_rfl)) (fun _ _ _ h => h) (Or.inl ⟨by rfl, ?_⟩) ?_ ?_
        rotate_left
        ·intro w'
         go_simp
         with_reducible rfl
        rotate_left
        ·simp only [Act.put, List.setIfInBounds_toArray, List.set_cons_zero, List.set_cons_succ, i64_w, i32_w]
         rfl
        refine pure_ (i := 5) (N := some 10) (v := ?_) (a' := ?_) #[true, true, false, false, true, true, false, false, false, false, false, false, false, false, false, false, false, false, false, false, false, false, false, false, false, false, false, false, false, false, false, false, false, false, false, false] rfl rfl (any_of HT_.out (by kernel_rfl)) (fun _ _ _ h => h) (Or.inl ⟨by rfl, ?_⟩) ?_ ?_
        rotate_left
        ·intro w'
         go_simp
         with_reducible rfl
        rotate_left
        ·simp only [Act.put, List.setIfInBounds_toArray, List.set_cons_zero, List.set_cons_succ, i64_w, i32_w]
         rfl
        refine pure_ (i := 8) (N := some 13) (v := ?_) (a' := ?_) #[true, true, false, false, true, true, false, false, true, false, false, false, false, false, false, false, false, false, false, false, false, false, false, false, false, false, false, false, false, false, false, false, false, false, false, false] rfl rfl (any_of HT_.out (by kernel_rfl)) (fun _ _ _ h => h) (Or.inl ⟨by rfl, ?_⟩) ?_ ?_
        rotate_left
        ·intro w'
         go_simp
         with_reducible rfl
        rotate_left
        ·simp only [Act.put, List.setIfInBounds_toArray, List.set_cons_zero, List.set_cons_succ, i64_w, i32_w]
         rfl
        refine pure_ (i := 11) (N := some 16) (v := ?_) (a' := ?_) #[true, true, false, false, true, true, false, false, true, false, false, true, false, false, false, false, false, false, false, false, false, false, false, false, false, false, false, false, false, false, false, false, false, false, false, false] rfl rfl (any_of HT_.out (by kernel_rfl)) (fun _ _ _ h => h) (Or.inl ⟨by rfl, ?_⟩) ?_ ?_
        rotate_left
        ·intro w'
         go_simp
         with_reducible rfl
        rotate_left
        ·simp only [Act.put, List.setIfInBounds_toArray, List.set_cons_zero, List.set_cons_succ, i64_w, i32_w]
         rfl
        refine pure_ (i := 12) (N := some 17) (v := ?_) (a' := ?_) #[true, true, false, false, true, true, false, false, true, false, false, true, true, false, false, false, false, false, false, false, false, false, false, false, false, false, false, false, false, false, false, false, false, false, false, false] rfl rfl (any_of HT_.out (by kernel_rfl)) (fun _ _ _ h => h) (Or.inl ⟨by rfl, ?_⟩) ?_ ?_
        rotate_left
        ·intro w'
         go_simp
         with_reducible rfl
        rotate_left
        ·simp only [Act.put, List.setIfInBounds_toArray, List.set_cons_zero, List.set_cons_succ, i64_w, i32_w]
         rfl
        refine pure_ (i := 16) (N := some 21) (v := ?_) (a' := ?_) #[true, true, false, false, true, true, false, false, true, false, false, true, true, false, false, false, true, false, false, false, false, false, false, false, false, false, false, false, false, false, false, false, false, false, false, false] rfl rfl (any_of HT_.out (by kernel_rfl)) (fun _ _ _ h => h) (Or.inl ⟨by rfl, ?_⟩) ?_ ?_
        rotate_left
        ·intro w'
         go_simp
         with_reducible rfl
        rotate_left
        ·simp only [Act.put, List.setIfInBounds_toArray, List.set_cons_zero, List.set_cons_succ, i64_w, i32_w]
         rfl
        refine pure_ (i := 17) (N := some 22) (v := ?_) (a' := ?_) #[true, true, false, false, true, true, false, false, true, false, false, true, true, false, false, false, true, true, false, false, false, false, false, false, false, false, false, false, false, false, false, false, false, false, false, false] rfl rfl (any_of HT_.out (by kernel_rfl)) (fun _ _ _ h => h) (Or.inl ⟨by rfl, ?_⟩) ?_ ?_
        rotate_left
        ·intro w'
         go_simp
         with_reducible rfl
        rotate_left
        ·simp only [Act.put, List.setIfInBounds_toArray, List.set_cons_zero, List.set_cons_succ, i64_w, i32_w]
         rfl
        refine pure_ (i := 20) (N := some 25) (v := ?_) (a' := ?_) #[true, true, false, false, true, true, false, false, true, false, false, true, true, false, false, false, true, true, false, false, true, false, false, false, false, false, false, false, false, false, false, false, false, false, false, false] rfl rfl (any_of HT_.out (by kernel_rfl)) (fun _ _ _ h => h) (Or.inl ⟨by rfl, ?_⟩) ?_ ?_
        rotate_left
        ·intro w'
         go_simp
         with_reducible rfl
        rotate_left
        ·simp only [Act.put, List.setIfInBounds_toArray, List.set_cons_zero, List.set_cons_succ, i64_w, i32_w]
         rfl
        refine pure_ (i := 24) (N := some 29) (v := ?_) (a' := ?_) #[true, true, false, false, true, true, false, false, true, false, false, true, true, false, false, false, true, true, false, false, true, false, false, false, true, false, false, false, false, false, false, false, false, false, false, false] rfl rfl (any_of HT_.out (by kernel_rfl)) (fun _ _ _ h => h) (Or.inl ⟨by rfl, ?_⟩) ?_ ?_
        rotate_left
        ·intro w'
         go_simp
         with_reducible rfl
        rotate_left
        ·simp only [Act.put, List.setIfInBounds_toArray, List.set_cons_zero, List.set_cons_succ, i64_w, i32_w]
         rfl
        refine pure_ (i := 26) (N := some 31) (v := ?_) (a' := ?_) #[true, true, false, false, true, true, false, false, true, false, false, true, true, false, false, false, true, true, false, false, true, false, false, false, true, false, true, false, false, false, false, false, false, false, false, false] rfl rfl (any_of HT_.out (by kernel_rfl)) (fun _ _ _ h => h) (Or.inl ⟨by rfl, ?_⟩) ?_ ?_
        rotate_left
        ·intro w'
         go_simp
         with_reducible rfl
        rotate_left
        ·simp only [Act.put, List.setIfInBounds_toArray, List.set_cons_zero, List.set_cons_succ, i64_w, i32_w]
         rfl
        refine pure_ (i := 30) (N := some 35) (v := ?_) (a' := ?_) #[true, true, false, false, true, true, false, false, true, false, false, true, true, false, false, false, true, true, false, false, true, false, false, false, true, false, true, false, false, false, true, false, false, false, false, false] rfl rfl (any_of HT_.out (by kernel_rfl)) (fun _ _ _ h => h) (Or.inl ⟨by rfl, ?_⟩) ?_ ?_
        rotate_left
        ·intro w'
         go_simp
         with_reducible rfl
        rotate_left
        ·simp only [Act.put, List.setIfInBounds_toArray, List.set_cons_zero, List.set_cons_succ, i64_w, i32_w]
         rfl
        refine pure_ (i := 32) (N := some 37) (v := ?_) (a' := ?_) #[true, true, false, false, true, true, false, false, true, false, false, true, true, false, false, false, true, true, false, false, true, false, false, false, true, false, true, false, false, false, true, false, true, false, false, false] rfl rfl (any_of HT_.out (by kernel_rfl)) (fun _ _ _ h => h) (Or.inl ⟨by rfl, ?_⟩) ?_ ?_
        rotate_left
        ·intro w'
         go_simp
         with_reducible rfl
        rotate_left
        ·simp only [Act.put, List.setIfInBounds_toArray, List.set_cons_zero, List.set_cons_succ, i64_w, i32_w]
         rfl
        refine take_ (i := 2) (N := some 7) (v := ?_) (a' := ?_) #[true, true, true, false, true, true, false, false, true, false, false, true, true, false, false, false, true, true, false, false, true, false, false, false, true, false, true, false, false, false, true, false, true, false, false, false] rfl rfl (take_ofW HT_.out HW_.out (by kernel_rfl)) (fun _ _ _ h => h) (Or.inl ⟨by rfl, ?_⟩) hHeld ?_ ?_
        rotate_left
        ·rintro w' ⟨s0, s1, s2, s3, s4, s5, s6, s7, s8, s9, s10, s11, s12, s13, s14, s15⟩
         go_simp
         with_reducible rfl
        rotate_left
        ·simp only [Act.put, List.setIfInBounds_toArray, List.set_cons_zero, List.set_cons_succ, i64_w, i32_w]
         rfl
        refine take_ (i := 6) (N := some 11) (v := ?_) (a' := ?_) #[true, true, true, false, true, true, true, false, true, false, false, true, true, false, false, false, true, true, false, false, true, false, false, false, true, false, true, false, false, false, true, false, true, false, false, false] rfl rfl (take_ofW HT_.out HW_.out (by kernel_rfl)) (fun _ _ _ h => h) (Or.inl ⟨by rfl, ?_⟩) hHeld ?_ ?_
        rotate_left
        ·rintro w' ⟨s0, s1, s2, s3, s4, s5, s6, s7, s8, s9, s10, s11, s12, s13, s14, s15⟩
         go_simp
         with_reducible rfl
        rotate_left
        ·simp only [Act.put, List.setIfInBounds_toArray, List.set_cons_zero, List.set_cons_succ, i64_w, i32_w]
         rfl
        refine pure_ (i := 7) (N := some 12) (v := ?_) (a' := ?_) #[true, true, true, false, true, true, true, true, true, false, false, true, true, false, false, false, true, true, false, false, true, false, false, false, true, false, true, false, false, false, true, false, true, false, false, false] rfl rfl (any_of HT_.out (by kernel_rfl)) (fun _ _ _ h => h) (Or.inl ⟨by rfl, ?_⟩) ?_ ?_
        rotate_left
        ·intro w'
         go_simp
         with_reducible rfl
        rotate_left
        ·simp only [Act.put, List.setIfInBounds_toArray, List.set_cons_zero, List.set_cons_succ, i64_w, i32_w]
         rfl
        refine take_ (i := 13) (N := some 18) (v := ?_) (a' := ?_) #[true, true, true, false, true, true, true, true, true, false, false, true, true, true, false, false, true, true, false, false, true, false, false, false, true, false, true, false, false, false, true, false, true, false, false, false] rfl rfl (take_ofW HT_.out HW_.out (by kernel_rfl)) (fun _ _ _ h => h) (Or.inl ⟨by rfl, ?_⟩) hHeld ?_ ?_
        rotate_left
        ·rintro w' ⟨s0, s1, s2, s3, s4, s5, s6, s7, s8, s9, s10, s11, s12, s13, s14, s15⟩
         go_simp
         with_reducible rfl
        rotate_left
        ·simp only [Act.put, List.setIfInBounds_toArray, List.set_cons_zero, List.set_cons_succ, i64_w, i32_w]
         rfl
        refine take_ (i := 18) (N := some 23) (v := ?_) (a' := ?_) #[true, true, true, false, true, true, true, true, true, false, false, true, true, true, false, false, true, true, true, false, true, false, false, false, true, false, true, false, false, false, true, false, true, false, false, false] rfl rfl (take_ofW HT_.out HW_.out (by kernel_rfl)) (fun _ _ _ h => h) (Or.inl ⟨by rfl, ?_⟩) hHeld ?_ ?_
        rotate_left
        ·rintro w' ⟨s0, s1, s2, s3, s4, s5, s6, s7, s8, s9, s10, s11, s12, s13, s14, s15⟩
         go_simp
         with_reducible rfl
        rotate_left
        ·simp only [Act.put, List.setIfInBounds_toArray, List.set_cons_zero, List.set_cons_succ, i64_w, i32_w]
         rfl
        refine pure_ (i := 19) (N := some 24) (v := ?_) (a' := ?_) #[true, true, true, false, true, true, true, true, true, false, false, true, true, true, false, false, true, true, true, true, true, false, false, false, true, false, true, false, false, false, true, false, true, false, false, false] rfl rfl (any_of HT_.out (by kernel_rfl)) (fun _ _ _ h => h) (Or.inl ⟨by rfl, ?_⟩) ?_ ?_
        rotate_left
        ·intro w'
         go_simp
         with_reducible rfl
        rotate_left
        ·simp only [Act.put, List.setIfInBounds_toArray, List.set_cons_zero, List.set_cons_succ, i64_w, i32_w]
         rfl
        refine take_ (i := 25) (N := some 30) (v := ?_) (a' := ?_) #[true, true, true, false, true, true, true, true, true, false, false, true, true, true, false, false, true, true, true, true, true, false, false, false, true, true, true, false, false, false, true, false, true, false, false, false] rfl rfl (take_ofW HT_.out HW_.out (by kernel_rfl)) (fun _ _ _ h => h) (Or.inl ⟨by rfl, ?_⟩) hHeld ?_ ?_
        rotate_left
        ·rintro w' ⟨s0, s1, s2, s3, s4, s5, s6, s7, s8, s9, s10, s11, s12, s13, s14, s15⟩
         go_simp
         with_reducible rfl
        rotate_left
        ·simp only [Act.put, List.setIfInBounds_toArray, List.set_cons_zero, List.set_cons_succ, i64_w, i32_w]
         rfl
        refine take_ (i := 31) (N := some 36) (v := ?_) (a' := ?_) #[true, true, true, false, true, true, true, true, true, false, false, true, true, true, false, false, true, true, true, true, true, false, false, false, true, true, true, false, false, false, true, true, true, false, false, false] rfl rfl (take_ofW HT_.out HW_.out (by kernel_rfl)) (fun _ _ _ h => h) (Or.inl ⟨by rfl, ?_⟩) hHeld ?_ ?_
        rotate_left
        ·rintro w' ⟨s0, s1, s2, s3, s4, s5, s6, s7, s8, s9, s10, s11, s12, s13, s14, s15⟩
         go_simp
         with_reducible rfl
        rotate_left
        ·simp only [Act.put, List.setIfInBounds_toArray, List.set_cons_zero, List.set_cons_succ, i64_w, i32_w]
         rfl
        refine one_ (i := 3) (N := some 8) #[true, true, true, true, true, true, true, true, true, false, false, true, true, true, false, false, true, true, true, true, true, false, false, false, true, true, true, false, false, false, true, true, true, false, false, false] rfl rfl (one_of HT_.out (by kernel_rfl)) (by decide) (fun K hK => ?_)
        refine goes_ Tryd.func21 (by kernel_rfl) rfl #[.string a0_0] (by rfl) rfl rfl a1_ ?_
        with_reducible refine (spec_Name.calls k a0_0 t196 _ A3.out).mono ?_
        rintro e w' ⟨rfl, ⟨nd, rfl⟩⟩
        refine ⟨_, rfl, ?_⟩
        refine hK.out _ _ ⟨(blk_cell BK195.out 0).trans rfl, (blk_cell BK195.out 1).trans rfl, (blk_cell BK195.out 2).trans rfl, (blk_cell BK195.out 3).trans rfl, (blk_cell BK195.out 4).trans rfl, (blk_cell BK195.out 5).trans rfl, (blk_cell BK195.out 6).trans rfl, (blk_cell BK195.out 7).trans rfl, (blk_cell BK195.out 8).trans rfl, (blk_cell BK195.out 9).trans rfl, (blk_cell BK195.out 10).trans rfl, (blk_cell BK195.out 11).trans rfl, (blk_cell BK195.out 12).trans rfl, (blk_cell BK195.out 13).trans rfl, (blk_cell BK195.out 14).trans rfl, (blk_cell BK195.out 15).trans rfl⟩ (fun hHeld => ?_)
        clear hK K
        refine norm_ (a' := ?_) ?_ ?_
        rotate_left
        ·show Act.put _ (some 8) _ = _
         simp only [Act.put, List.setIfInBounds_toArray, List.set_cons_zero, List.set_cons_succ, i64_w, i32_w]
         rfl
        refine one_ (i := 9) (N := some 14) #[true, true, true, true, true, true, true, true, true, true, false, true, true, true, false, false, true, true, true, true, true, false, false, false, true, true, true, false, false, false, true, true, true, false, false, false] rfl rfl (one_of HT_.out (by kernel_rfl)) (by decide) (fun K hK => ?_)
        refine goes_ Tryd.func22 (by kernel_rfl) rfl #[.int .i64 (wrap64 (-a0_1)), .bool a1] (by rfl) rfl rfl a1_ ?_
        with_reducible refine (spec_Clock.calls k (wrap64 (-a0_1)) a1 t197 _ A4.out).mono ?_
        rintro e w18 ⟨rfl, hb⟩
        refine ⟨_, rfl, ?_⟩
        have n0_ := Aside0.mk (blk_below (g := gb195) (o := .cells #[.string a0_0, .int .i64 a0_1, .bool a0_2, .string a0_3, .int .i64 a0_4, .bool a0_5, .int .i64 a0_6, .int .i64 a0_7, .int .i64 a0_8, .int .i64 a0_9, .int .i64 a0_10, .int .i64 a0_11, .int .i64 a0_12, .int .i64 a0_13, .int .i64 a0_14, .int .i64 a0_15] 33 (0, 0)) a42_ hb)
        have n1_ := Aside0.mk (below_step a36_ hb)
        clear BK195
        clear HB
        have BK195 := n0_
        have HB := n1_
        clear n0_ n1_
        (try clear hb)
        (try clear hb2)
        (try clear hk)
        (try clear hi)
        refine hK.out _ _ ⟨(blk_cell BK195.out 0).trans rfl, (blk_cell BK195.out 1).trans rfl, (blk_cell BK195.out 2).trans rfl, (blk_cell BK195.out 3).trans rfl, (blk_cell BK195.out 4).trans rfl, (blk_cell BK195.out 5).trans rfl, (blk_cell BK195.out 6).trans rfl, (blk_cell BK195.out 7).trans rfl, (blk_cell BK195.out 8).trans rfl, (blk_cell BK195.out 9).trans rfl, (blk_cell BK195.out 10).trans rfl, (blk_cell BK195.out 11).trans rfl, (blk_cell BK195.out 12).trans rfl, (blk_cell BK195.out 13).trans rfl, (blk_cell BK195.out 14).trans rfl, (blk_cell BK195.out 15).trans rfl⟩ (fun hHeld => ?_)
        clear hK K
        refine norm_ (a' := ?_) ?_ ?_
        rotate_left
        ·show Act.put _ (some 14) _ = _
         simp only [Act.put, List.setIfInBounds_toArray, List.set_cons_zero, List.set_cons_succ, i64_w, i32_w]
         rfl
        refine pure_ (i := 10) (N := some 15) (v := ?_) (a' := ?_) #[true, true, true, true, true, true, true, true, true, true, true, true, true, true, false, false, true, true, true, true, true, false, false, false, true, true, true, false, false, false, true, true, true, false, false, false] rfl rfl (any_of HT_.out (by kernel_rfl)) (fun _ _ _ h => h) (Or.inl ⟨by rfl, ?_⟩) ?_ ?_
        rotate_left
        ·intro w'
         go_simp
         with_reducible rfl
        rotate_left
        ·simp only [Act.put, List.setIfInBounds_toArray, List.set_cons_zero, List.set_cons_succ, i64_w, i32_w]
         rfl
        refine one_ (i := 14) (N := some 19) #[true, true, true, true, true, true, true, true, true, true, true, true, true, true, true, false, true, true, true, true, true, false, false, false, true, true, true, false, false, false, true, true, true, false, false, false] rfl rfl (one_of HT_.out (by kernel_rfl)) (by decide) (fun K hK => ?_)
        refine goes_ Tryd.func21 (by kernel_rfl) rfl #[.string a0_3] (by rfl) rfl rfl a1_ ?_
        with_reducible refine (spec_Name.calls k a0_3 t198 _ A6.out).mono ?_
        rintro e w' ⟨rfl, ⟨nd, rfl⟩⟩
        refine ⟨_, rfl, ?_⟩
        refine hK.out _ _ ⟨(blk_cell BK195.out 0).trans rfl, (blk_cell BK195.out 1).trans rfl, (blk_cell BK195.out 2).trans rfl, (blk_cell BK195.out 3).trans rfl, (blk_cell BK195.out 4).trans rfl, (blk_cell BK195.out 5).trans rfl, (blk_cell BK195.out 6).trans rfl, (blk_cell BK195.out 7).trans rfl, (blk_cell BK195.out 8).trans rfl, (blk_cell BK195.out 9).trans rfl, (blk_cell BK195.out 10).trans rfl, (blk_cell BK195.out 11).trans rfl, (blk_cell BK195.out 12).trans rfl, (blk_cell BK195.out 13).trans rfl, (blk_cell BK195.out 14).trans rfl, (blk_cell BK195.out 15).trans rfl⟩ (fun hHeld => ?_)
        clear hK K
        refine norm_ (a' := ?_) ?_ ?_
        rotate_left
        ·show Act.put _ (some 19) _ = _
         simp only [Act.put, List.setIfInBounds_toArray, List.set_cons_zero, List.set_cons_succ, i64_w, i32_w]
         rfl
        refine pure_ (i := 15) (N := some 20) (v := ?_) (a' := ?_) #[true, true, true, true, true, true, true, true, true, true, true, true, true, true, true, true, true, true, true, true, true, false, false, false, true, true, true, false, false, false, true, true, true, false, false, false] rfl rfl (any_of HT_.out (by kernel_rfl)) (fun _ _ _ h => h) (Or.inl ⟨by rfl, ?_⟩) ?_ ?_
        rotate_left
        ·intro w'
         go_simp
         with_reducible rfl
        rotate_left
        ·simp only [Act.put, List.setIfInBounds_toArray, List.set_cons_zero, List.set_cons_succ, i64_w, i32_w]
         rfl
        refine one_ (i := 21) (N := some 26) #[true, true, true, true, true, true, true, true, true, true, true, true, true, true, true, true, true, true, true, true, true, true, false, false, true, true, true, false, false, false, true, true, true, false, false, false] rfl rfl (one_of HT_.out (by kernel_rfl)) (by decide) (fun K hK => ?_)
        refine goes_ Tryd.func22 (by kernel_rfl) rfl #[.int .i64 (wrap64 (-a0_4)), .bool a1] (by rfl) rfl rfl a1_ ?_
        with_reducible refine (spec_Clock.calls k (wrap64 (-a0_4)) a1 t199 _ A8.out).mono ?_
        rintro e w19 ⟨rfl, hb⟩
        refine ⟨_, rfl, ?_⟩
        have n0_ := Aside0.mk (blk_below (g := gb195) (o := .cells #[.string a0_0, .int .i64 a0_1, .bool a0_2, .string a0_3, .int .i64 a0_4, .bool a0_5, .int .i64 a0_6, .int .i64 a0_7, .int .i64 a0_8, .int .i64 a0_9, .int .i64 a0_10, .int .i64 a0_11, .int .i64 a0_12, .int .i64 a0_13, .int .i64 a0_14, .int .i64 a0_15] 33 (0, 0)) a42_ hb)
        have n1_ := Aside0.mk (below_step a36_ hb)
        clear BK195
        clear HB
        have BK195 := n0_
        have HB := n1_
        clear n0_ n1_
        (try clear hb)
        (try clear hb2)
        (try clear hk)
        (try clear hi)
        refine hK.out _ _ ⟨(blk_cell BK195.out 0).trans rfl, (blk_cell BK195.out 1).trans rfl, (blk_cell BK195.out 2).trans rfl, (blk_cell BK195.out 3).trans rfl, (blk_cell BK195.out 4).trans rfl, (blk_cell BK195.out 5).trans rfl, (blk_cell BK195.out 6).trans rfl, (blk_cell BK195.out 7).trans rfl, (blk_cell BK195.out 8).trans rfl, (blk_cell BK195.out 9).trans rfl, (blk_cell BK195.out 10).trans rfl, (blk_cell BK195.out 11).trans rfl, (blk_cell BK195.out 12).trans rfl, (blk_cell BK195.out 13).trans rfl, (blk_cell BK195.out 14).trans rfl, (blk_cell BK195.out 15).trans rfl⟩ (fun hHeld => ?_)
        clear hK K
        refine norm_ (a' := ?_) ?_ ?_
        rotate_left
        ·show Act.put _ (some 26) _ = _
         simp only [Act.put, List.setIfInBounds_toArray, List.set_cons_zero, List.set_cons_succ, i64_w, i32_w]
         rfl
        refine pure_ (i := 22) (N := some 27) (v := ?_) (a' := ?_) #[true, true, true, true, true, true, true, true, true, true, true, true, true, true, true, true, true, true, true, true, true, true, true, false, true, true, true, false, false, false, true, true, true, false, false, false] rfl rfl (any_of HT_.out (by kernel_rfl)) (fun _ _ _ h => h) (Or.inl ⟨by rfl, ?_⟩) ?_ ?_
        rotate_left
        ·intro w'
         go_simp
         with_reducible rfl
        rotate_left
        ·simp only [Act.put, List.setIfInBounds_toArray, List.set_cons_zero, List.set_cons_succ, i64_w, i32_w]
         rfl
        refine pure_ (i := 23) (N := some 28) (v := ?_) (a' := ?_) #[true, true, true, true, true, true, true, true, true, true, true, true, true, true, true, true, true, true, true, true, true, true, true, true, true, true, true, false, false, false, true, true, true, false, false, false] rfl rfl (any_of HT_.out (by kernel_rfl)) (fun _ _ _ h => h) (Or.inl ⟨by rfl, ?_⟩) ?_ ?_
        rotate_left
        ·intro w'
         go_simp
         with_reducible rfl
        rotate_left
        ·simp only [Act.put, List.setIfInBounds_toArray, List.set_cons_zero, List.set_cons_succ, i64_w, i32_w]
         rfl
        refine one_ (i := 27) (N := some 32) #[true, true, true, true, true, true, true, true, true, true, true, true, true, true, true, true, true, true, true, true, true, true, true, true, true, true, true, true, false, false, true, true, true, false, false, false] rfl rfl (one_of HT_.out (by kernel_rfl)) (by decide) (fun K hK => ?_)
        refine goes_ Tryd.func23 (by kernel_rfl) rfl #[.agg #[.int .i64 a0_6, .int .i64 a0_7, .int .i64 a0_8, .int .i64 a0_9, .int .i64 a0_10], .bool a1] (by rfl) rfl rfl a1_ ?_
        with_reducible refine (spec_RuleText.calls k a0_6 a0_7 a0_8 a0_9 a0_10 a1 t200 _ A11.out).mono ?_
        rintro e w20 ⟨rfl, hb⟩
        refine ⟨_, rfl, ?_⟩
        have n0_ := Aside0.mk (blk_below (g := gb195) (o := .cells #[.string a0_0, .int .i64 a0_1, .bool a0_2, .string a0_3, .int .i64 a0_4, .bool a0_5, .int .i64 a0_6, .int .i64 a0_7, .int .i64 a0_8, .int .i64 a0_9, .int .i64 a0_10, .int .i64 a0_11, .int .i64 a0_12, .int .i64 a0_13, .int .i64 a0_14, .int .i64 a0_15] 33 (0, 0)) a42_ hb)
        have n1_ := Aside0.mk (below_step a36_ hb)
        clear BK195
        clear HB
        have BK195 := n0_
        have HB := n1_
        clear n0_ n1_
        (try clear hb)
        (try clear hb2)
        (try clear hk)
        (try clear hi)
        refine hK.out _ _ ⟨(blk_cell BK195.out 0).trans rfl, (blk_cell BK195.out 1).trans rfl, (blk_cell BK195.out 2).trans rfl, (blk_cell BK195.out 3).trans rfl, (blk_cell BK195.out 4).trans rfl, (blk_cell BK195.out 5).trans rfl, (blk_cell BK195.out 6).trans rfl, (blk_cell BK195.out 7).trans rfl, (blk_cell BK195.out 8).trans rfl, (blk_cell BK195.out 9).trans rfl, (blk_cell BK195.out 10).trans rfl, (blk_cell BK195.out 11).trans rfl, (blk_cell BK195.out 12).trans rfl, (blk_cell BK195.out 13).trans rfl, (blk_cell BK195.out 14).trans rfl, (blk_cell BK195.out 15).trans rfl⟩ (fun hHeld => ?_)
        clear hK K
        refine norm_ (a' := ?_) ?_ ?_
        rotate_left
        ·show Act.put _ (some 32) _ = _
         simp only [Act.put, List.setIfInBounds_toArray, List.set_cons_zero, List.set_cons_succ, i64_w, i32_w]
         rfl
        refine pure_ (i := 28) (N := some 33) (v := ?_) (a' := ?_) #[true, true, true, true, true, true, true, true, true, true, true, true, true, true, true, true, true, true, true, true, true, true, true, true, true, true, true, true, true, false, true, true, true, false, false, false] rfl rfl (any_of HT_.out (by kernel_rfl)) (fun _ _ _ h => h) (Or.inl ⟨by rfl, ?_⟩) ?_ ?_
        rotate_left
        ·intro w'
         go_simp
         with_reducible rfl
        rotate_left
        ·simp only [Act.put, List.setIfInBounds_toArray, List.set_cons_zero, List.set_cons_succ, i64_w, i32_w]
         rfl
        refine pure_ (i := 29) (N := some 34) (v := ?_) (a' := ?_) #[true, true, true, true, true, true, true, true, true, true, true, true, true, true, true, true, true, true, true, true, true, true, true, true, true, true, true, true, true, true, true, true, true, false, false, false] rfl rfl (any_of HT_.out (by kernel_rfl)) (fun _ _ _ h => h) (Or.inl ⟨by rfl, ?_⟩) ?_ ?_
        rotate_left
        ·intro w'
         go_simp
         with_reducible rfl
        rotate_left
        ·simp only [Act.put, List.setIfInBounds_toArray, List.set_cons_zero, List.set_cons_succ, i64_w, i32_w]
         rfl
        refine one_ (i := 33) (N := some 38) #[true, true, true, true, true, true, true, true, true, true, true, true, true, true, true, true, true, true, true, true, true, true, true, true, true, true, true, true, true, true, true, true, true, true, false, false] rfl rfl (one_of HT_.out (by kernel_rfl)) (by decide) (fun K hK => ?_)
        refine goes_ Tryd.func23 (by kernel_rfl) rfl #[.agg #[.int .i64 a0_11, .int .i64 a0_12, .int .i64 a0_13, .int .i64 a0_14, .int .i64 a0_15], .bool a1] (by rfl) rfl rfl a1_ ?_
        with_reducible refine (spec_RuleText.calls k a0_11 a0_12 a0_13 a0_14 a0_15 a1 t201 _ A14.out).mono ?_
        rintro e w21 ⟨rfl, hb⟩
        refine ⟨_, rfl, ?_⟩
        have n0_ := Aside0.mk (blk_below (g := gb195) (o := .cells #[.string a0_0, .int .i64 a0_1, .bool a0_2, .string a0_3, .int .i64 a0_4, .bool a0_5, .int .i64 a0_6, .int .i64 a0_7, .int .i64 a0_8, .int .i64 a0_9, .int .i64 a0_10, .int .i64 a0_11, .int .i64 a0_12, .int .i64 a0_13, .int .i64 a0_14, .int .i64 a0_15] 33 (0, 0)) a42_ hb)
        have n1_ := Aside0.mk (below_step a36_ hb)
        clear BK195
        clear HB
        have BK195 := n0_
        have HB := n1_
        clear n0_ n1_
        (try clear hb)
        (try clear hb2)
        (try clear hk)
        (try clear hi)
        refine hK.out _ _ ⟨(blk_cell BK195.out 0).trans rfl, (blk_cell BK195.out 1).trans rfl, (blk_cell BK195.out 2).trans rfl, (blk_cell BK195.out 3).trans rfl, (blk_cell BK195.out 4).trans rfl, (blk_cell BK195.out 5).trans rfl, (blk_cell BK195.out 6).trans rfl, (blk_cell BK195.out 7).trans rfl, (blk_cell BK195.out 8).trans rfl, (blk_cell BK195.out 9).trans rfl, (blk_cell BK195.out 10).trans rfl, (blk_cell BK195.out 11).trans rfl, (blk_cell BK195.out 12).trans rfl, (blk_cell BK195.out 13).trans rfl, (blk_cell BK195.out 14).trans rfl, (blk_cell BK195.out 15).trans rfl⟩ (fun hHeld => ?_)
        clear hK K
        refine norm_ (a' := ?_) ?_ ?_
        rotate_left
        ·show Act.put _ (some 38) _ = _
         simp only [Act.put, List.setIfInBounds_toArray, List.set_cons_zero, List.set_cons_succ, i64_w, i32_w]
         rfl
        refine pure_ (i := 34) (N := some 39) (v := ?_) (a' := ?_) #[true, true, true, true, true, true, true, true, true, true, true, true, true, true, true, true, true, true, true, true, true, true, true, true, true, true, true, true, true, true, true, true, true, true, true, false] rfl rfl (any_of HT_.out (by kernel_rfl)) (fun _ _ _ h => h) (Or.inl ⟨by rfl, ?_⟩) ?_ ?_
        rotate_left
        ·intro w'
         go_simp
         with_reducible rfl
        rotate_left
        ·simp only [Act.put, List.setIfInBounds_toArray, List.set_cons_zero, List.set_cons_succ, i64_w, i32_w]
         rfl
        refine pure_ (i := 35) (N := some 4) (v := ?_) (a' := ?_) #[true, true, true, true, true, true, true, true, true, true, true, true, true, true, true, true, true, true, true, true, true, true, true, true, true, true, true, true, true, true, true, true, true, true, true, true] rfl rfl (any_of HT_.out (by kernel_rfl)) (fun _ _ _ h => h) (Or.inl ⟨by rfl, ?_⟩) ?_ ?_
        rotate_left
        ·intro w'
         go_simp
         with_reducible rfl
        rotate_left
        ·simp only [Act.put, List.setIfInBounds_toArray, List.set_cons_zero, List.set_cons_succ, i64_w, i32_w]
         rfl
        refine done_ (done_of HT_.out (by kernel_rfl)) ?_
        try go_wp2
        go_ret
        exact ⟨by first | rfl | (simp [errW_none, errW_some] <;> rfl) | (simp [*, errW_none, errW_some] <;> rfl), by repeat (first | (with_reducible first | exact HB.out | apply below_alloc | apply pw_below_drewN | apply below_drew1 | refine below_set ?_ GE195.out) | exact HB.out)⟩
       ·rw [if_neg c15] at H
        exact absurd H (by simp)
      ·rw [if_neg c13] at H
       exact absurd H (by simp)
     ·rw [if_neg c12] at H
      exact absurd H (by simp)
    ·rw [if_neg c10] at H
     exact absurd H (by simp)
   ·rw [if_neg c9] at H
    exact absurd H (by simp)
  ·rw [if_neg c7] at H
   exact absurd H (by simp)
 ·rw [if_neg c5] at H
  exact absurd H (by simp)
mutual
def spec_PlaceOk.l0 : Nat → List (S27) → Int → Int → ByteArray → List (S27) → List (S45) → ByteArray → Option (Bool)
 | 0, _, _, _, _, _, _, _ => none
 | k + 1, x8, x9, x10, x203000, x203001, x203002, x203003 => if x10 < x9 then (if 0 ≤ x10 then (if x10 < (x8.length : Int) then ((spec_Within.f ((rd_T27 x8 x10).f1) (-2147483647) 2147483647).bind fun t205 => (if t205 = true then (spec_PlaceOk.l0 k x8 x9 (wrap64 (x10 + 1)) x203000 x203001 x203002 x203003) else (some false))) else (none)) else (none)) else (spec_PlaceOk.l1 k x203002 (x203002.length : Int) 0 x203000 x203001 x203002 x203003)
def spec_PlaceOk.l1 : Nat → List (S45) → Int → Int → ByteArray → List (S27) → List (S45) → ByteArray → Option (Bool)
 | 0, _, _, _, _, _, _, _ => none
 | k + 1, x20, x21, x22, x203000, x203001, x203002, x203003 => if x22 < x21 then (if 0 ≤ x22 then (if x22 < (x20.length : Int) then (if (wrap64 ((rd_T45 x20 x22).f1)) ≥ (x203001.length : Int) then (some false) else (if x22 > 0 then (if 0 ≤ (wrap64 (x22 - 1)) then (if (wrap64 (x22 - 1)) < (x203002.length : Int) then (if ((rd_T45 x203002 (wrap64 (x22 - 1))).f0) ≥ ((rd_T45 x20 x22).f0) then (some false) else (spec_PlaceOk.l1 k x20 x21 (wrap64 (x22 + 1)) x203000 x203001 x203002 x203003)) else (none)) else (none)) else (spec_PlaceOk.l1 k x20 x21 (wrap64 (x22 + 1)) x203000 x203001 x203002 x203003))) else (none)) else (none)) else ((spec_Within.f (x203001.length : Int) 1 200).bind fun t209 => (if t209 = true then (some (decide ((x203002.length : Int) ≤ 1000))) else (some false)))
end
def spec_PlaceOk.f (k : Nat) (a0_0 : ByteArray) (l0_1 : List (S27)) (l0_2 : List (S45)) (a0_3 : ByteArray) : Option (Bool) := spec_PlaceOk.l0 k l0_1 (l0_1.length : Int) 0 a0_0 l0_1 l0_2 a0_3
set_option maxHeartbeats 8000000 in
set_option maxRecDepth 100000 in
theorem spec_PlaceOk.calls (k : Nat) (a0_0 : ByteArray) (A0_1 : Option Addr) (c0_1 : Nat) (l0_1 : List (S27)) (A0_2 : Option Addr) (c0_2 : Nat) (l0_2 : List (S45)) (a0_3 : ByteArray) (r : Bool) (w : World) (hr0_1 : Kd.C k27 w A0_1 l0_1.length l0_1) (hc0_1 : l0_1.length ≤ c0_1) (hr0_2 : Kd.C k45 w A0_2 l0_2.length l0_2) (hc0_2 : l0_2.length ≤ c0_2) (h : spec_PlaceOk.f k a0_0 l0_1 l0_2 a0_3 = some r) :
  Calls Tryd.prog 24 #[.agg #[.string a0_0, .slice A0_1 l0_1.length c0_1, .slice A0_2 l0_2.length c0_2, .string a0_3]] w fun e w' => e = .returned (.bool r) ∧ Below w.heap.size w w' := by
 have hu25 := Tryd.underlying25
 have hu27 := Tryd.underlying27
 have hu45 := Tryd.underlying45
 have HR0_1 := Aside0.mk hr0_1
 have HC0_1 := Aside0.mk hc0_1
 clear hr0_1 hc0_1
 have HR0_2 := Aside0.mk hr0_2
 have HC0_2 := Aside0.mk hc0_2
 clear hr0_2 hc0_2
 have HB := Aside0.mk (Below.refl w.heap.size w)
 have H : (spec_PlaceOk.l0 k l0_1 (l0_1.length : Int) 0 a0_0 l0_1 l0_2 a0_3) = some r := h
 clear h
 have H' := Aside0.mk H
 clear H
 go_enter Tryd.func24, Tryd.ntmps24
 go_wp2_with (first | ((with_reducible refine gate_dst (N := 1) rfl ?_); (try (refine gate_guard (by rfl) ?_; dsimp only)); refine box_event ?hg (N := 1) ?hd (cs := #[.string a0_0, .slice A0_1 l0_1.length c0_1, .slice A0_2 l0_2.length c0_2, .string a0_3]) (t := 25) ?hr ?_; (case hd => rfl); (case hg => rfl); (case hr => first | (go_simp; done) | (go_simp; rfl)); intro gb202 hg w2 hbox hb; have n0_ := Aside0.mk (below_step a0_ hb); have n1_ := Aside0.mk (hbox); have n2_ := Aside0.mk ((by rw [hg]; exact (below_size a0_) : w.heap.size ≤ gb202)); have n3_ := Aside0.mk ((by rw [hg]; exact (below_size a0_) : w.heap.size ≤ gb202)); clear HB; have HB := n0_; have BK202 := n1_; have GW202 := n2_; have GE202 := n3_; clear n0_ n1_ n2_ n3_; clear hb hbox hg; obtain ⟨hcz3_0, hcz3_1, hcz3_2, hcz3_3, hfz3_0, hfz3_1, hfz3_2, hfz3_3⟩ := c4f_ BK202.out))
 repeat (go_quiet (first | ((with_reducible refine gate_dst (N := 1) rfl ?_); (try (refine gate_guard (by rfl) ?_; dsimp only)); refine box_event ?hg (N := 1) ?hd (cs := #[.string a0_0, .slice A0_1 l0_1.length c0_1, .slice A0_2 l0_2.length c0_2, .string a0_3]) (t := 25) ?hr ?_; (case hd => rfl); (case hg => rfl); (case hr => first | (go_simp; done) | (go_simp; rfl)); intro gb202 hg w2 hbox hb; have n0_ := Aside0.mk (below_step a0_ hb); have n1_ := Aside0.mk (hbox); have n2_ := Aside0.mk ((by rw [hg]; exact (below_size a0_) : w.heap.size ≤ gb202)); have n3_ := Aside0.mk ((by rw [hg]; exact (below_size a0_) : w.heap.size ≤ gb202)); clear HB; have HB := n0_; have BK202 := n1_; have GW202 := n2_; have GE202 := n3_; clear n0_ n1_ n2_ n3_; clear hb hbox hg; obtain ⟨hcz3_0, hcz3_1, hcz3_2, hcz3_3, hfz3_0, hfz3_1, hfz3_2, hfz3_3⟩ := c4f_ BK202.out)); try go_wp2_with (first | ((with_reducible refine gate_dst (N := 1) rfl ?_); (try (refine gate_guard (by rfl) ?_; dsimp only)); refine box_event ?hg (N := 1) ?hd (cs := #[.string a0_0, .slice A0_1 l0_1.length c0_1, .slice A0_2 l0_2.length c0_2, .string a0_3]) (t := 25) ?hr ?_; (case hd => rfl); (case hg => rfl); (case hr => first | (go_simp; done) | (go_simp; rfl)); intro gb202 hg w2 hbox hb; have n0_ := Aside0.mk (below_step a0_ hb); have n1_ := Aside0.mk (hbox); have n2_ := Aside0.mk ((by rw [hg]; exact (below_size a0_) : w.heap.size ≤ gb202)); have n3_ := Aside0.mk ((by rw [hg]; exact (below_size a0_) : w.heap.size ≤ gb202)); clear HB; have HB := n0_; have BK202 := n1_; have GW202 := n2_; have GE202 := n3_; clear n0_ n1_ n2_ n3_; clear hb hbox hg; obtain ⟨hcz3_0, hcz3_1, hcz3_2, hcz3_3, hfz3_0, hfz3_1, hfz3_2, hfz3_3⟩ := c4f_ BK202.out)))
 go_loopg [10] k (fun kq v10 w' => ∃ (x10_1 : Int), v10 = .int .i64 x10_1 ∧ Aside0 (spec_PlaceOk.l0 kq l0_1 (l0_1.length : Int) x10_1 a0_0 l0_1 l0_2 a0_3 = some r) ∧ Aside0 (kq ≤ k) ∧ Aside0 (w'.heap[gb202]? = some (.cells #[.string a0_0, (.slice A0_1 l0_1.length c0_1), (.slice A0_2 l0_2.length c0_2), .string a0_3] 25 (0, 0))) ∧ Aside0 (Below w.heap.size w w'))
 case atStart => exact ⟨(0), a5_, H', ⟨Nat.le_refl _⟩, ⟨by (with_reducible repeat (first | refine blk_drewN ?_ _ | refine blk_drew ?_ | refine blk_alloc ?_ _)); exact BK202.out⟩, ⟨by repeat (first | (with_reducible first | exact HB.out | apply below_alloc | apply pw_below_drewN | apply below_drew1 | refine below_set ?_ GE202.out) | exact HB.out)⟩⟩
 case round =>
  clear H'
  try clear c2
  try clear p2
  try clear hcz3_0
  try clear hcz3_1
  try clear hcz3_2
  try clear hcz3_3
  try clear hfz3_0
  try clear hfz3_1
  try clear hfz3_2
  try clear hfz3_3
  obtain ⟨x10_1, rfl, HA, HK1, BK202, HB⟩ := hrel
  cases gk with
  | zero => exact absurd HA.out (by simp [spec_PlaceOk.l0])
  | succ k1 =>
   have H := HA.out
   clear HA
   simp only [spec_PlaceOk.l0] at H
   by_cases c4 : x10_1 < (l0_1.length : Int)
   ·rw [if_pos c4] at H
    have c4b0 := decide_eq_true c4
    clear c4
    by_cases c5 : 0 ≤ x10_1
    ·rw [if_pos c5] at H
     have c5b0 := decide_eq_true c5
     clear c5
     by_cases c6 : x10_1 < (l0_1.length : Int)
     ·rw [if_pos c6] at H
      have c6b0 := decide_eq_true c6
      clear c6
      replace H := Option.bind_eq_some_iff.mp H
      obtain ⟨t205, A70, H⟩ := H
      replace H : (if t205 = true then (spec_PlaceOk.l0 k1 l0_1 (l0_1.length : Int) (wrap64 (x10_1 + 1)) a0_0 l0_1 l0_2 a0_3) else (some false)) = some r := H
      have A7 := Aside0.mk A70
      clear A70
      by_cases c8 : t205 = true
      ·subst c8
       have H1 : (spec_PlaceOk.l0 k1 l0_1 (l0_1.length : Int) (wrap64 (x10_1 + 1)) a0_0 l0_1 l0_2 a0_3) = some r := by rw [if_pos rfl] at H; exact H
       clear H
       have H := H1
       clear H1
       have H' := Aside0.mk H
       clear H
       have p203 : 0 ≤ (x10_1 : Int) := of_decide_eq_true a3_
       have q203 : x10_1 < (l0_1.length : Int) := of_decide_eq_true a3_
       obtain ⟨ad203, e203, hx203_0, hx203_1, hx203_2⟩ := at_T27 HR0_1.out x10_1 p203 q203
       cases e203
       replace hx203_0 := (HB.out.cell (World.block_lt_of_cell? w _ hx203_0)).trans hx203_0
       replace hx203_1 := (HB.out.cell (World.block_lt_of_cell? w _ hx203_1)).trans hx203_1
       replace hx203_2 := (HB.out.cell (World.block_lt_of_cell? w _ hx203_2)).trans hx203_2
       replace p203 := eq_true p203
       replace q203 := eq_true q203
       go_wp2_with (first | ((with_reducible refine gate_dst (N := 4) rfl ?_); (try (refine gate_guard (by rfl) ?_; dsimp only)); refine box_event ?hg (N := 4) ?hd (cs := #[.string (⟨#[]⟩ : ByteArray), .int .i64 0, .bool false]) (t := 27) ?hr ?_; (case hd => rfl); (case hg => rfl); (case hr => first | (go_simp; done) | (go_simp; rfl)); intro gb204 hg w9 hbox hb; have n0_ := Aside0.mk (blk_below (g := gb202) (o := .cells #[.string a0_0, .slice (some ad203) l0_1.length c0_1, .slice A0_2 l0_2.length c0_2, .string a0_3] 25 (0, 0)) a4_ hb); have n1_ := Aside0.mk (below_step a2_ hb); have n2_ := Aside0.mk (hbox); have n3_ := Aside0.mk ((by rw [hg]; exact (below_size a2_) : w.heap.size ≤ gb204)); have n4_ := Aside0.mk ((by rw [hg]; exact (below_size a2_) : w.heap.size ≤ gb204)); have n5_ := Aside0.mk ((by rw [hg]; exact Nat.ne_of_lt (blk_lt (g := gb202) (o := .cells #[.string a0_0, .slice (some ad203) l0_1.length c0_1, .slice A0_2 l0_2.length c0_2, .string a0_3] 25 (0, 0)) a4_) : gb202 ≠ gb204)); have n6_ := Aside0.mk ((by rw [hg]; exact Nat.ne_of_gt (blk_lt (g := gb202) (o := .cells #[.string a0_0, .slice (some ad203) l0_1.length c0_1, .slice A0_2 l0_2.length c0_2, .string a0_3] 25 (0, 0)) a4_) : gb204 ≠ gb202)); clear BK202; clear HB; have BK202 := n0_; have HB := n1_; have BK204 := n2_; have GW204 := n3_; have GE204 := n4_; have NB202_204 := n5_; have NB204_202 := n6_; clear n0_ n1_ n2_ n3_ n4_ n5_ n6_; clear hb hbox hg; have hnb10 := NB204_202.out; have hnc10 := NB202_204.out; obtain ⟨hcz11_0, hcz11_1, hcz11_2, hfz11_0, hfz11_1, hfz11_2⟩ := c3f_ BK204.out) | (go_at_call 18; (with_reducible refine (spec_Within.calls ((rd_T27 l0_1 x10_1).f1) (-2147483647) 2147483647 true _ A7.out).mono ?_); rintro e w' ⟨rfl, ⟨nd, rfl⟩⟩; (try first | exact ⟨rfl, _, World.drewN_drewN _ _ _⟩ | exact ⟨rfl, _, Eq.trans (World.drewN_drewN _ _ _) (congrArg (World.drewN _) (Nat.add_assoc _ _ _))⟩)))
       repeat (go_quiet (first | ((with_reducible refine gate_dst (N := 4) rfl ?_); (try (refine gate_guard (by rfl) ?_; dsimp only)); refine box_event ?hg (N := 4) ?hd (cs := #[.string (⟨#[]⟩ : ByteArray), .int .i64 0, .bool false]) (t := 27) ?hr ?_; (case hd => rfl); (case hg => rfl); (case hr => first | (go_simp; done) | (go_simp; rfl)); intro gb204 hg w9 hbox hb; have n0_ := Aside0.mk (blk_below (g := gb202) (o := .cells #[.string a0_0, .slice (some ad203) l0_1.length c0_1, .slice A0_2 l0_2.length c0_2, .string a0_3] 25 (0, 0)) a4_ hb); have n1_ := Aside0.mk (below_step a2_ hb); have n2_ := Aside0.mk (hbox); have n3_ := Aside0.mk ((by rw [hg]; exact (below_size a2_) : w.heap.size ≤ gb204)); have n4_ := Aside0.mk ((by rw [hg]; exact (below_size a2_) : w.heap.size ≤ gb204)); have n5_ := Aside0.mk ((by rw [hg]; exact Nat.ne_of_lt (blk_lt (g := gb202) (o := .cells #[.string a0_0, .slice (some ad203) l0_1.length c0_1, .slice A0_2 l0_2.length c0_2, .string a0_3] 25 (0, 0)) a4_) : gb202 ≠ gb204)); have n6_ := Aside0.mk ((by rw [hg]; exact Nat.ne_of_gt (blk_lt (g := gb202) (o := .cells #[.string a0_0, .slice (some ad203) l0_1.length c0_1, .slice A0_2 l0_2.length c0_2, .string a0_3] 25 (0, 0)) a4_) : gb204 ≠ gb202)); clear BK202; clear HB; have BK202 := n0_; have HB := n1_; have BK204 := n2_; have GW204 := n3_; have GE204 := n4_; have NB202_204 := n5_; have NB204_202 := n6_; clear n0_ n1_ n2_ n3_ n4_ n5_ n6_; clear hb hbox hg; have hnb10 := NB204_202.out; have hnc10 := NB202_204.out; obtain ⟨hcz11_0, hcz11_1, hcz11_2, hfz11_0, hfz11_1, hfz11_2⟩ := c3f_ BK204.out) | (go_at_call 18; (with_reducible refine (spec_Within.calls ((rd_T27 l0_1 x10_1).f1) (-2147483647) 2147483647 true _ A7.out).mono ?_); rintro e w' ⟨rfl, ⟨nd, rfl⟩⟩; (try first | exact ⟨rfl, _, World.drewN_drewN _ _ _⟩ | exact ⟨rfl, _, Eq.trans (World.drewN_drewN _ _ _) (congrArg (World.drewN _) (Nat.add_assoc _ _ _))⟩))); try go_wp2_with (first | ((with_reducible refine gate_dst (N := 4) rfl ?_); (try (refine gate_guard (by rfl) ?_; dsimp only)); refine box_event ?hg (N := 4) ?hd (cs := #[.string (⟨#[]⟩ : ByteArray), .int .i64 0, .bool false]) (t := 27) ?hr ?_; (case hd => rfl); (case hg => rfl); (case hr => first | (go_simp; done) | (go_simp; rfl)); intro gb204 hg w9 hbox hb; have n0_ := Aside0.mk (blk_below (g := gb202) (o := .cells #[.string a0_0, .slice (some ad203) l0_1.length c0_1, .slice A0_2 l0_2.length c0_2, .string a0_3] 25 (0, 0)) a4_ hb); have n1_ := Aside0.mk (below_step a2_ hb); have n2_ := Aside0.mk (hbox); have n3_ := Aside0.mk ((by rw [hg]; exact (below_size a2_) : w.heap.size ≤ gb204)); have n4_ := Aside0.mk ((by rw [hg]; exact (below_size a2_) : w.heap.size ≤ gb204)); have n5_ := Aside0.mk ((by rw [hg]; exact Nat.ne_of_lt (blk_lt (g := gb202) (o := .cells #[.string a0_0, .slice (some ad203) l0_1.length c0_1, .slice A0_2 l0_2.length c0_2, .string a0_3] 25 (0, 0)) a4_) : gb202 ≠ gb204)); have n6_ := Aside0.mk ((by rw [hg]; exact Nat.ne_of_gt (blk_lt (g := gb202) (o := .cells #[.string a0_0, .slice (some ad203) l0_1.length c0_1, .slice A0_2 l0_2.length c0_2, .string a0_3] 25 (0, 0)) a4_) : gb204 ≠ gb202)); clear BK202; clear HB; have BK202 := n0_; have HB := n1_; have BK204 := n2_; have GW204 := n3_; have GE204 := n4_; have NB202_204 := n5_; have NB204_202 := n6_; clear n0_ n1_ n2_ n3_ n4_ n5_ n6_; clear hb hbox hg; have hnb10 := NB204_202.out; have hnc10 := NB202_204.out; obtain ⟨hcz11_0, hcz11_1, hcz11_2, hfz11_0, hfz11_1, hfz11_2⟩ := c3f_ BK204.out) | (go_at_call 18; (with_reducible refine (spec_Within.calls ((rd_T27 l0_1 x10_1).f1) (-2147483647) 2147483647 true _ A7.out).mono ?_); rintro e w' ⟨rfl, ⟨nd, rfl⟩⟩; (try first | exact ⟨rfl, _, World.drewN_drewN _ _ _⟩ | exact ⟨rfl, _, Eq.trans (World.drewN_drewN _ _ _) (congrArg (World.drewN _) (Nat.add_assoc _ _ _))⟩))))
       go_roundg k1
       case measure => have := HK1.out; omega
       case rel => exact ⟨(wrap64 (x10_1 + 1)), a5_, H', ⟨by have := HK1.out; omega⟩, ⟨by (with_reducible repeat (first | refine blk_drewN ?_ _ | refine blk_drew ?_ | refine blk_alloc ?_ _)); refine blk_far ?_ NB202_204.out _; (with_reducible repeat (first | refine blk_drewN ?_ _ | refine blk_drew ?_ | refine blk_alloc ?_ _)); refine blk_far ?_ NB202_204.out _; (with_reducible repeat (first | refine blk_drewN ?_ _ | refine blk_drew ?_ | refine blk_alloc ?_ _)); refine blk_far ?_ NB202_204.out _; (with_reducible repeat (first | refine blk_drewN ?_ _ | refine blk_drew ?_ | refine blk_alloc ?_ _)); exact BK202.out⟩, ⟨by repeat (first | (with_reducible first | exact HB.out | apply below_alloc | apply pw_below_drewN | apply below_drew1 | refine below_set ?_ GE202.out | refine below_set ?_ GE204.out) | exact HB.out)⟩⟩
      ·replace c8 := Bool.eq_false_iff.mpr c8
       subst c8
       have H1 : (some false) = some r := by rw [if_neg (show ¬ (false = true) by decide)] at H; exact H
       clear H
       have H := H1
       clear H1
       obtain rfl := Option.some.inj H
       have p203 : 0 ≤ (x10_1 : Int) := of_decide_eq_true a3_
       have q203 : x10_1 < (l0_1.length : Int) := of_decide_eq_true a3_
       obtain ⟨ad203, e203, hx203_0, hx203_1, hx203_2⟩ := at_T27 HR0_1.out x10_1 p203 q203
       cases e203
       replace hx203_0 := (HB.out.cell (World.block_lt_of_cell? w _ hx203_0)).trans hx203_0
       replace hx203_1 := (HB.out.cell (World.block_lt_of_cell? w _ hx203_1)).trans hx203_1
       replace hx203_2 := (HB.out.cell (World.block_lt_of_cell? w _ hx203_2)).trans hx203_2
       replace p203 := eq_true p203
       replace q203 := eq_true q203
       go_wp2_with (first | ((with_reducible refine gate_dst (N := 4) rfl ?_); (try (refine gate_guard (by rfl) ?_; dsimp only)); refine box_event ?hg (N := 4) ?hd (cs := #[.string (⟨#[]⟩ : ByteArray), .int .i64 0, .bool false]) (t := 27) ?hr ?_; (case hd => rfl); (case hg => rfl); (case hr => first | (go_simp; done) | (go_simp; rfl)); intro gb204 hg w12 hbox hb; have n0_ := Aside0.mk (blk_below (g := gb202) (o := .cells #[.string a0_0, .slice (some ad203) l0_1.length c0_1, .slice A0_2 l0_2.length c0_2, .string a0_3] 25 (0, 0)) a4_ hb); have n1_ := Aside0.mk (below_step a2_ hb); have n2_ := Aside0.mk (hbox); have n3_ := Aside0.mk ((by rw [hg]; exact (below_size a2_) : w.heap.size ≤ gb204)); have n4_ := Aside0.mk ((by rw [hg]; exact (below_size a2_) : w.heap.size ≤ gb204)); have n5_ := Aside0.mk ((by rw [hg]; exact Nat.ne_of_lt (blk_lt (g := gb202) (o := .cells #[.string a0_0, .slice (some ad203) l0_1.length c0_1, .slice A0_2 l0_2.length c0_2, .string a0_3] 25 (0, 0)) a4_) : gb202 ≠ gb204)); have n6_ := Aside0.mk ((by rw [hg]; exact Nat.ne_of_gt (blk_lt (g := gb202) (o := .cells #[.string a0_0, .slice (some ad203) l0_1.length c0_1, .slice A0_2 l0_2.length c0_2, .string a0_3] 25 (0, 0)) a4_) : gb204 ≠ gb202)); clear BK202; clear HB; have BK202 := n0_; have HB := n1_; have BK204 := n2_; have GW204 := n3_; have GE204 := n4_; have NB202_204 := n5_; have NB204_202 := n6_; clear n0_ n1_ n2_ n3_ n4_ n5_ n6_; clear hb hbox hg; have hnb13 := NB204_202.out; have hnc13 := NB202_204.out; obtain ⟨hcz14_0, hcz14_1, hcz14_2, hfz14_0, hfz14_1, hfz14_2⟩ := c3f_ BK204.out) | (go_at_call 18; (with_reducible refine (spec_Within.calls ((rd_T27 l0_1 x10_1).f1) (-2147483647) 2147483647 false _ A7.out).mono ?_); rintro e w' ⟨rfl, ⟨nd, rfl⟩⟩; (try first | exact ⟨rfl, _, World.drewN_drewN _ _ _⟩ | exact ⟨rfl, _, Eq.trans (World.drewN_drewN _ _ _) (congrArg (World.drewN _) (Nat.add_assoc _ _ _))⟩)))
       repeat (go_quiet (first | ((with_reducible refine gate_dst (N := 4) rfl ?_); (try (refine gate_guard (by rfl) ?_; dsimp only)); refine box_event ?hg (N := 4) ?hd (cs := #[.string (⟨#[]⟩ : ByteArray), .int .i64 0, .bool false]) (t := 27) ?hr ?_; (case hd => rfl); (case hg => rfl); (case hr => first | (go_simp; done) | (go_simp; rfl)); intro gb204 hg w12 hbox hb; have n0_ := Aside0.mk (blk_below (g := gb202) (o := .cells #[.string a0_0, .slice (some ad203) l0_1.length c0_1, .slice A0_2 l0_2.length c0_2, .string a0_3] 25 (0, 0)) a4_ hb); have n1_ := Aside0.mk (below_step a2_ hb); have n2_ := Aside0.mk (hbox); have n3_ := Aside0.mk ((by rw [hg]; exact (below_size a2_) : w.heap.size ≤ gb204)); have n4_ := Aside0.mk ((by rw [hg]; exact (below_size a2_) : w.heap.size ≤ gb204)); have n5_ := Aside0.mk ((by rw [hg]; exact Nat.ne_of_lt (blk_lt (g := gb202) (o := .cells #[.string a0_0, .slice (some ad203) l0_1.length c0_1, .slice A0_2 l0_2.length c0_2, .string a0_3] 25 (0, 0)) a4_) : gb202 ≠ gb204)); have n6_ := Aside0.mk ((by rw [hg]; exact Nat.ne_of_gt (blk_lt (g := gb202) (o := .cells #[.string a0_0, .slice (some ad203) l0_1.length c0_1, .slice A0_2 l0_2.length c0_2, .string a0_3] 25 (0, 0)) a4_) : gb204 ≠ gb202)); clear BK202; clear HB; have BK202 := n0_; have HB := n1_; have BK204 := n2_; have GW204 := n3_; have GE204 := n4_; have NB202_204 := n5_; have NB204_202 := n6_; clear n0_ n1_ n2_ n3_ n4_ n5_ n6_; clear hb hbox hg; have hnb13 := NB204_202.out; have hnc13 := NB202_204.out; obtain ⟨hcz14_0, hcz14_1, hcz14_2, hfz14_0, hfz14_1, hfz14_2⟩ := c3f_ BK204.out) | (go_at_call 18; (with_reducible refine (spec_Within.calls ((rd_T27 l0_1 x10_1).f1) (-2147483647) 2147483647 false _ A7.out).mono ?_); rintro e w' ⟨rfl, ⟨nd, rfl⟩⟩; (try first | exact ⟨rfl, _, World.drewN_drewN _ _ _⟩ | exact ⟨rfl, _, Eq.trans (World.drewN_drewN _ _ _) (congrArg (World.drewN _) (Nat.add_assoc _ _ _))⟩))); try go_wp2_with (first | ((with_reducible refine gate_dst (N := 4) rfl ?_); (try (refine gate_guard (by rfl) ?_; dsimp only)); refine box_event ?hg (N := 4) ?hd (cs := #[.string (⟨#[]⟩ : ByteArray), .int .i64 0, .bool false]) (t := 27) ?hr ?_; (case hd => rfl); (case hg => rfl); (case hr => first | (go_simp; done) | (go_simp; rfl)); intro gb204 hg w12 hbox hb; have n0_ := Aside0.mk (blk_below (g := gb202) (o := .cells #[.string a0_0, .slice (some ad203) l0_1.length c0_1, .slice A0_2 l0_2.length c0_2, .string a0_3] 25 (0, 0)) a4_ hb); have n1_ := Aside0.mk (below_step a2_ hb); have n2_ := Aside0.mk (hbox); have n3_ := Aside0.mk ((by rw [hg]; exact (below_size a2_) : w.heap.size ≤ gb204)); have n4_ := Aside0.mk ((by rw [hg]; exact (below_size a2_) : w.heap.size ≤ gb204)); have n5_ := Aside0.mk ((by rw [hg]; exact Nat.ne_of_lt (blk_lt (g := gb202) (o := .cells #[.string a0_0, .slice (some ad203) l0_1.length c0_1, .slice A0_2 l0_2.length c0_2, .string a0_3] 25 (0, 0)) a4_) : gb202 ≠ gb204)); have n6_ := Aside0.mk ((by rw [hg]; exact Nat.ne_of_gt (blk_lt (g := gb202) (o := .cells #[.string a0_0, .slice (some ad203) l0_1.length c0_1, .slice A0_2 l0_2.length c0_2, .string a0_3] 25 (0, 0)) a4_) : gb204 ≠ gb202)); clear BK202; clear HB; have BK202 := n0_; have HB := n1_; have BK204 := n2_; have GW204 := n3_; have GE204 := n4_; have NB202_204 := n5_; have NB204_202 := n6_; clear n0_ n1_ n2_ n3_ n4_ n5_ n6_; clear hb hbox hg; have hnb13 := NB204_202.out; have hnc13 := NB202_204.out; obtain ⟨hcz14_0, hcz14_1, hcz14_2, hfz14_0, hfz14_1, hfz14_2⟩ := c3f_ BK204.out) | (go_at_call 18; (with_reducible refine (spec_Within.calls ((rd_T27 l0_1 x10_1).f1) (-2147483647) 2147483647 false _ A7.out).mono ?_); rintro e w' ⟨rfl, ⟨nd, rfl⟩⟩; (try first | exact ⟨rfl, _, World.drewN_drewN _ _ _⟩ | exact ⟨rfl, _, Eq.trans (World.drewN_drewN _ _ _) (congrArg (World.drewN _) (Nat.add_assoc _ _ _))⟩))))
       go_ret
       exact ⟨by first | rfl | (simp [errW_none, errW_some] <;> rfl) | (simp [*, errW_none, errW_some] <;> rfl), by repeat (first | (with_reducible first | exact HB.out | apply below_alloc | apply pw_below_drewN | apply below_drew1 | refine below_set ?_ GE202.out | refine below_set ?_ GE204.out) | exact HB.out)⟩
     ·rw [if_neg c6] at H
      exact absurd H (by simp)
    ·rw [if_neg c5] at H
     exact absurd H (by simp)
   ·rw [if_neg c4] at H
    have c4b0 := decide_eq_false c4
    clear c4
    have H' := Aside0.mk H
    clear H
    obtain ⟨hcz15_0, hcz15_1, hcz15_2, hcz15_3, hfz15_0, hfz15_1, hfz15_2, hfz15_3⟩ := c4f_ BK202.out
    go_wp2
    repeat (go_quiet (fail); try go_wp2)
    go_loopg [22] k1 (fun kq v22 w' => ∃ (x22_2 : Int), v22 = .int .i64 x22_2 ∧ Aside0 (spec_PlaceOk.l1 kq l0_2 (l0_2.length : Int) x22_2 a0_0 l0_1 l0_2 a0_3 = some r) ∧ Aside0 (kq ≤ k1) ∧ Aside0 (w'.heap[gb202]? = some (.cells #[.string a0_0, (.slice A0_1 l0_1.length c0_1), (.slice A0_2 l0_2.length c0_2), .string a0_3] 25 (0, 0))) ∧ Aside0 (Below w.heap.size w w'))
    case atStart => exact ⟨(0), a5_, H', ⟨Nat.le_refl _⟩, ⟨by (with_reducible repeat (first | refine blk_drewN ?_ _ | refine blk_drew ?_ | refine blk_alloc ?_ _)); exact BK202.out⟩, ⟨by repeat (first | (with_reducible first | exact HB.out | apply below_alloc | apply pw_below_drewN | apply below_drew1 | refine below_set ?_ GE202.out) | exact HB.out)⟩⟩
    case round =>
     clear H'
     try clear c1
     try clear c2
     try clear p2
     try clear q2
     try clear hx2
     try clear c4
     try clear c4b0
     try clear c5
     try clear c5b0
     try clear c6
     try clear c6b0
     try clear p6
     try clear c8
     try clear c10
     try clear c13
     try clear hcz11_0
     try clear hcz11_1
     try clear hcz11_2
     try clear hcz14_0
     try clear hcz14_1
     try clear hcz14_2
     try clear hcz15_0
     try clear hcz15_1
     try clear hcz15_2
     try clear hcz15_3
     try clear hcz3_0
     try clear hcz3_1
     try clear hcz3_2
     try clear hcz3_3
     try clear hfz11_0
     try clear hfz11_1
     try clear hfz11_2
     try clear hfz14_0
     try clear hfz14_1
     try clear hfz14_2
     try clear hfz15_0
     try clear hfz15_1
     try clear hfz15_2
     try clear hfz15_3
     try clear hfz3_0
     try clear hfz3_1
     try clear hfz3_2
     try clear hfz3_3
     try clear hx203_0
     try clear hx203_1
     try clear hx203_2
     try clear p2
     try clear p203
     try clear q203
     obtain ⟨x22_2, rfl, HA, HK2, BK202, HB⟩ := hrel
     cases gk with
     | zero => exact absurd HA.out (by simp [spec_PlaceOk.l1])
     | succ k2 =>
      have H := HA.out
      clear HA
      simp only [spec_PlaceOk.l1] at H
      by_cases c16 : x22_2 < (l0_2.length : Int)
      ·rw [if_pos c16] at H
       have c16b0 := decide_eq_true c16
       clear c16
       by_cases c17 : 0 ≤ x22_2
       ·rw [if_pos c17] at H
        have c17b0 := decide_eq_true c17
        clear c17
        by_cases c18 : x22_2 < (l0_2.length : Int)
        ·rw [if_pos c18] at H
         have c18b0 := decide_eq_true c18
         clear c18
         by_cases c19 : (wrap64 ((rd_T45 l0_2 x22_2).f1)) ≥ (l0_1.length : Int)
         ·rw [if_pos c19] at H
          have c19b0 : decide ((l0_1.length : Int) ≤ (wrap64 ((rd_T45 l0_2 x22_2).f1))) = true := decide_eq_true c19
          clear c19
          obtain rfl := Option.some.inj H
          have p206 : 0 ≤ (x22_2 : Int) := of_decide_eq_true a3_
          have q206 : x22_2 < (l0_2.length : Int) := of_decide_eq_true a3_
          obtain ⟨ad206, e206, hx206_0, hx206_1⟩ := at_T45 HR0_2.out x22_2 p206 q206
          cases e206
          replace hx206_0 := (HB.out.cell (World.block_lt_of_cell? w _ hx206_0)).trans hx206_0
          replace hx206_1 := (HB.out.cell (World.block_lt_of_cell? w _ hx206_1)).trans hx206_1
          replace p206 := eq_true p206
          replace q206 := eq_true q206
          go_wp2_with (first | ((with_reducible refine gate_dst (N := 6) rfl ?_); (try (refine gate_guard (by rfl) ?_; dsimp only)); refine box_event ?hg (N := 6) ?hd (cs := #[.int .i64 0, .int .u8 0]) (t := 45) ?hr ?_; (case hd => rfl); (case hg => rfl); (case hr => first | (go_simp; done) | (go_simp; rfl)); intro gb207 hg w20 hbox hb; have n0_ := Aside0.mk (blk_below (g := gb202) (o := .cells #[.string a0_0, .slice A0_1 l0_1.length c0_1, .slice (some ad206) l0_2.length c0_2, .string a0_3] 25 (0, 0)) a4_ hb); have n1_ := Aside0.mk (below_step a2_ hb); have n2_ := Aside0.mk (hbox); have n3_ := Aside0.mk ((by rw [hg]; exact (below_size a2_) : w.heap.size ≤ gb207)); have n4_ := Aside0.mk ((by rw [hg]; exact (below_size a2_) : w.heap.size ≤ gb207)); have n5_ := Aside0.mk ((by rw [hg]; exact Nat.ne_of_lt (blk_lt (g := gb202) (o := .cells #[.string a0_0, .slice A0_1 l0_1.length c0_1, .slice (some ad206) l0_2.length c0_2, .string a0_3] 25 (0, 0)) a4_) : gb202 ≠ gb207)); have n6_ := Aside0.mk ((by rw [hg]; exact Nat.ne_of_gt (blk_lt (g := gb202) (o := .cells #[.string a0_0, .slice A0_1 l0_1.length c0_1, .slice (some ad206) l0_2.length c0_2, .string a0_3] 25 (0, 0)) a4_) : gb207 ≠ gb202)); clear BK202; clear HB; have BK202 := n0_; have HB := n1_; have BK207 := n2_; have GW207 := n3_; have GE207 := n4_; have NB202_207 := n5_; have NB207_202 := n6_; clear n0_ n1_ n2_ n3_ n4_ n5_ n6_; clear hb hbox hg; have hnb21 := NB207_202.out; have hnc21 := NB202_207.out; obtain ⟨hcz22_0, hcz22_1, hfz22_0, hfz22_1⟩ := c2f_ BK207.out; obtain ⟨hcz23_0, hcz23_1, hcz23_2, hcz23_3, hfz23_0, hfz23_1, hfz23_2, hfz23_3⟩ := c4f_ BK202.out))
          repeat (go_quiet (first | ((with_reducible refine gate_dst (N := 6) rfl ?_); (try (refine gate_guard (by rfl) ?_; dsimp only)); refine box_event ?hg (N := 6) ?hd (cs := #[.int .i64 0, .int .u8 0]) (t := 45) ?hr ?_; (case hd => rfl); (case hg => rfl); (case hr => first | (go_simp; done) | (go_simp; rfl)); intro gb207 hg w20 hbox hb; have n0_ := Aside0.mk (blk_below (g := gb202) (o := .cells #[.string a0_0, .slice A0_1 l0_1.length c0_1, .slice (some ad206) l0_2.length c0_2, .string a0_3] 25 (0, 0)) a4_ hb); have n1_ := Aside0.mk (below_step a2_ hb); have n2_ := Aside0.mk (hbox); have n3_ := Aside0.mk ((by rw [hg]; exact (below_size a2_) : w.heap.size ≤ gb207)); have n4_ := Aside0.mk ((by rw [hg]; exact (below_size a2_) : w.heap.size ≤ gb207)); have n5_ := Aside0.mk ((by rw [hg]; exact Nat.ne_of_lt (blk_lt (g := gb202) (o := .cells #[.string a0_0, .slice A0_1 l0_1.length c0_1, .slice (some ad206) l0_2.length c0_2, .string a0_3] 25 (0, 0)) a4_) : gb202 ≠ gb207)); have n6_ := Aside0.mk ((by rw [hg]; exact Nat.ne_of_gt (blk_lt (g := gb202) (o := .cells #[.string a0_0, .slice A0_1 l0_1.length c0_1, .slice (some ad206) l0_2.length c0_2, .string a0_3] 25 (0, 0)) a4_) : gb207 ≠ gb202)); clear BK202; clear HB; have BK202 := n0_; have HB := n1_; have BK207 := n2_; have GW207 := n3_; have GE207 := n4_; have NB202_207 := n5_; have NB207_202 := n6_; clear n0_ n1_ n2_ n3_ n4_ n5_ n6_; clear hb hbox hg; have hnb21 := NB207_202.out; have hnc21 := NB202_207.out; obtain ⟨hcz22_0, hcz22_1, hfz22_0, hfz22_1⟩ := c2f_ BK207.out; obtain ⟨hcz23_0, hcz23_1, hcz23_2, hcz23_3, hfz23_0, hfz23_1, hfz23_2, hfz23_3⟩ := c4f_ BK202.out)); try go_wp2_with (first | ((with_reducible refine gate_dst (N := 6) rfl ?_); (try (refine gate_guard (by rfl) ?_; dsimp only)); refine box_event ?hg (N := 6) ?hd (cs := #[.int .i64 0, .int .u8 0]) (t := 45) ?hr ?_; (case hd => rfl); (case hg => rfl); (case hr => first | (go_simp; done) | (go_simp; rfl)); intro gb207 hg w20 hbox hb; have n0_ := Aside0.mk (blk_below (g := gb202) (o := .cells #[.string a0_0, .slice A0_1 l0_1.length c0_1, .slice (some ad206) l0_2.length c0_2, .string a0_3] 25 (0, 0)) a4_ hb); have n1_ := Aside0.mk (below_step a2_ hb); have n2_ := Aside0.mk (hbox); have n3_ := Aside0.mk ((by rw [hg]; exact (below_size a2_) : w.heap.size ≤ gb207)); have n4_ := Aside0.mk ((by rw [hg]; exact (below_size a2_) : w.heap.size ≤ gb207)); have n5_ := Aside0.mk ((by rw [hg]; exact Nat.ne_of_lt (blk_lt (g := gb202) (o := .cells #[.string a0_0, .slice A0_1 l0_1.length c0_1, .slice (some ad206) l0_2.length c0_2, .string a0_3] 25 (0, 0)) a4_) : gb202 ≠ gb207)); have n6_ := Aside0.mk ((by rw [hg]; exact Nat.ne_of_gt (blk_lt (g := gb202) (o := .cells #[.string a0_0, .slice A0_1 l0_1.length c0_1, .slice (some ad206) l0_2.length c0_2, .string a0_3] 25 (0, 0)) a4_) : gb207 ≠ gb202)); clear BK202; clear HB; have BK202 := n0_; have HB := n1_; have BK207 := n2_; have GW207 := n3_; have GE207 := n4_; have NB202_207 := n5_; have NB207_202 := n6_; clear n0_ n1_ n2_ n3_ n4_ n5_ n6_; clear hb hbox hg; have hnb21 := NB207_202.out; have hnc21 := NB202_207.out; obtain ⟨hcz22_0, hcz22_1, hfz22_0, hfz22_1⟩ := c2f_ BK207.out; obtain ⟨hcz23_0, hcz23_1, hcz23_2, hcz23_3, hfz23_0, hfz23_1, hfz23_2, hfz23_3⟩ := c4f_ BK202.out)))
          go_ret
          exact ⟨by first | rfl | (simp [errW_none, errW_some] <;> rfl) | (simp [*, errW_none, errW_some] <;> rfl), by repeat (first | (with_reducible first | exact HB.out | apply below_alloc | apply pw_below_drewN | apply below_drew1 | refine below_set ?_ GE202.out | refine below_set ?_ GE207.out) | exact HB.out)⟩
         ·rw [if_neg c19] at H
          have c19b0 : decide ((l0_1.length : Int) ≤ (wrap64 ((rd_T45 l0_2 x22_2).f1))) = false := decide_eq_false c19
          clear c19
          by_cases c24 : x22_2 > 0
          ·rw [if_pos c24] at H
           have c24b0 : decide (0 < x22_2) = true := decide_eq_true c24
           clear c24
           obtain ⟨ji25, hji25⟩ : ∃ j_ : Int, (wrap64 (x22_2 - 1)) = j_ := ⟨_, rfl⟩
           replace H : (if 0 ≤ (ji25) then (if (ji25) < (l0_2.length : Int) then (if ((rd_T45 l0_2 (ji25)).f0) ≥ ((rd_T45 l0_2 x22_2).f0) then (some false) else (spec_PlaceOk.l1 k2 l0_2 (l0_2.length : Int) (wrap64 (x22_2 + 1)) a0_0 l0_1 l0_2 a0_3)) else (none)) else (none)) = some r := by first | (rw [hji25] at H; exact H) | (simp only [hji25] at H ⊢; exact H)
           have hji25w : (IntKind.i64.wrap (x22_2 - 1)) = ji25 := (i64_w _).trans hji25
           by_cases c26 : 0 ≤ (ji25)
           ·rw [if_pos c26] at H
            have c26b0 := decide_eq_true c26
            clear c26
            by_cases c27 : (ji25) < (l0_2.length : Int)
            ·rw [if_pos c27] at H
             have c27b0 := decide_eq_true c27
             clear c27
             by_cases c28 : ((rd_T45 l0_2 (ji25)).f0) ≥ ((rd_T45 l0_2 x22_2).f0)
             ·rw [if_pos c28] at H
              have c28b0 : decide (((rd_T45 l0_2 x22_2).f0) ≤ ((rd_T45 l0_2 (ji25)).f0)) = true := decide_eq_true c28
              clear c28
              obtain rfl := Option.some.inj H
              have p206 : 0 ≤ (x22_2 : Int) := of_decide_eq_true a3_
              have q206 : x22_2 < (l0_2.length : Int) := of_decide_eq_true a3_
              obtain ⟨ad206, e206, hx206_0, hx206_1⟩ := at_T45 HR0_2.out x22_2 p206 q206
              cases e206
              replace hx206_0 := (HB.out.cell (World.block_lt_of_cell? w _ hx206_0)).trans hx206_0
              replace hx206_1 := (HB.out.cell (World.block_lt_of_cell? w _ hx206_1)).trans hx206_1
              replace p206 := eq_true p206
              replace q206 := eq_true q206
              go_wp2_with (first | ((with_reducible refine gate_dst (N := 6) rfl ?_); (try (refine gate_guard (by rfl) ?_; dsimp only)); refine box_event ?hg (N := 6) ?hd (cs := #[.int .i64 0, .int .u8 0]) (t := 45) ?hr ?_; (case hd => rfl); (case hg => rfl); (case hr => first | (go_simp; done) | (go_simp; rfl)); intro gb207 hg w29 hbox hb; have n0_ := Aside0.mk (blk_below (g := gb202) (o := .cells #[.string a0_0, .slice A0_1 l0_1.length c0_1, .slice (some ad206) l0_2.length c0_2, .string a0_3] 25 (0, 0)) a4_ hb); have n1_ := Aside0.mk (below_step a2_ hb); have n2_ := Aside0.mk (hbox); have n3_ := Aside0.mk ((by rw [hg]; exact (below_size a2_) : w.heap.size ≤ gb207)); have n4_ := Aside0.mk ((by rw [hg]; exact (below_size a2_) : w.heap.size ≤ gb207)); have n5_ := Aside0.mk ((by rw [hg]; exact Nat.ne_of_lt (blk_lt (g := gb202) (o := .cells #[.string a0_0, .slice A0_1 l0_1.length c0_1, .slice (some ad206) l0_2.length c0_2, .string a0_3] 25 (0, 0)) a4_) : gb202 ≠ gb207)); have n6_ := Aside0.mk ((by rw [hg]; exact Nat.ne_of_gt (blk_lt (g := gb202) (o := .cells #[.string a0_0, .slice A0_1 l0_1.length c0_1, .slice (some ad206) l0_2.length c0_2, .string a0_3] 25 (0, 0)) a4_) : gb207 ≠ gb202)); clear BK202; clear HB; have BK202 := n0_; have HB := n1_; have BK207 := n2_; have GW207 := n3_; have GE207 := n4_; have NB202_207 := n5_; have NB207_202 := n6_; clear n0_ n1_ n2_ n3_ n4_ n5_ n6_; clear hb hbox hg; have hnb30 := NB207_202.out; have hnc30 := NB202_207.out; obtain ⟨hcz31_0, hcz31_1, hfz31_0, hfz31_1⟩ := c2f_ BK207.out; obtain ⟨hcz32_0, hcz32_1, hcz32_2, hcz32_3, hfz32_0, hfz32_1, hfz32_2, hfz32_3⟩ := c4f_ BK202.out; have p208 : 0 ≤ ((ji25) : Int) := of_decide_eq_true a3_; have q208 : (ji25) < (l0_2.length : Int) := of_decide_eq_true a3_; obtain ⟨ad208, e208, hx208_0, hx208_1⟩ := at_T45 HR0_2.out (ji25) p208 q208; obtain rfl : ad206 = ad208 := (by injection e208); have hn208_0 : ad206.block ≠ gb207 := Nat.ne_of_lt (Nat.lt_of_lt_of_le a20_ GW207.out); have hn208_1 : ad206.block ≠ gb207 := Nat.ne_of_lt (Nat.lt_of_lt_of_le a20_ GW207.out); replace hx208_0 := (HB.out.cell (World.block_lt_of_cell? w _ hx208_0)).trans hx208_0; replace hx208_1 := (HB.out.cell (World.block_lt_of_cell? w _ hx208_1)).trans hx208_1; replace hx208_0 := (cell_far (p := ⟨gb207, 0, none⟩) a18_ (.int .i64 ((rd_T45 l0_2 x22_2).f0))).trans hx208_0; replace hx208_1 := (cell_far (p := ⟨gb207, 0, none⟩) a18_ (.int .i64 ((rd_T45 l0_2 x22_2).f0))).trans hx208_1; replace hx208_0 := (cell_far (p := ⟨gb207, 1, none⟩) a17_ (.int .u8 ((rd_T45 l0_2 x22_2).f1))).trans hx208_0; replace hx208_1 := (cell_far (p := ⟨gb207, 1, none⟩) a17_ (.int .u8 ((rd_T45 l0_2 x22_2).f1))).trans hx208_1; (try have hy208_0 := fun (n_ : Nat) => (show ((((w29.drewN n_).setCell ⟨gb207, 0, none⟩ (.int .i64 ((rd_T45 l0_2 x22_2).f0))).setCell ⟨gb207, 1, none⟩ (.int .u8 ((rd_T45 l0_2 x22_2).f1)))).cell? _ = some _ from hx208_0)); (try have hy208_1 := fun (n_ : Nat) => (show ((((w29.drewN n_).setCell ⟨gb207, 0, none⟩ (.int .i64 ((rd_T45 l0_2 x22_2).f0))).setCell ⟨gb207, 1, none⟩ (.int .u8 ((rd_T45 l0_2 x22_2).f1)))).cell? _ = some _ from hx208_1)); clear hn208_0; clear hn208_1; replace p208 := eq_true p208; replace q208 := eq_true q208))
              repeat (go_quiet (first | ((with_reducible refine gate_dst (N := 6) rfl ?_); (try (refine gate_guard (by rfl) ?_; dsimp only)); refine box_event ?hg (N := 6) ?hd (cs := #[.int .i64 0, .int .u8 0]) (t := 45) ?hr ?_; (case hd => rfl); (case hg => rfl); (case hr => first | (go_simp; done) | (go_simp; rfl)); intro gb207 hg w29 hbox hb; have n0_ := Aside0.mk (blk_below (g := gb202) (o := .cells #[.string a0_0, .slice A0_1 l0_1.length c0_1, .slice (some ad206) l0_2.length c0_2, .string a0_3] 25 (0, 0)) a4_ hb); have n1_ := Aside0.mk (below_step a2_ hb); have n2_ := Aside0.mk (hbox); have n3_ := Aside0.mk ((by rw [hg]; exact (below_size a2_) : w.heap.size ≤ gb207)); have n4_ := Aside0.mk ((by rw [hg]; exact (below_size a2_) : w.heap.size ≤ gb207)); have n5_ := Aside0.mk ((by rw [hg]; exact Nat.ne_of_lt (blk_lt (g := gb202) (o := .cells #[.string a0_0, .slice A0_1 l0_1.length c0_1, .slice (some ad206) l0_2.length c0_2, .string a0_3] 25 (0, 0)) a4_) : gb202 ≠ gb207)); have n6_ := Aside0.mk ((by rw [hg]; exact Nat.ne_of_gt (blk_lt (g := gb202) (o := .cells #[.string a0_0, .slice A0_1 l0_1.length c0_1, .slice (some ad206) l0_2.length c0_2, .string a0_3] 25 (0, 0)) a4_) : gb207 ≠ gb202)); clear BK202; clear HB; have BK202 := n0_; have HB := n1_; have BK207 := n2_; have GW207 := n3_; have GE207 := n4_; have NB202_207 := n5_; have NB207_202 := n6_; clear n0_ n1_ n2_ n3_ n4_ n5_ n6_; clear hb hbox hg; have hnb30 := NB207_202.out; have hnc30 := NB202_207.out; obtain ⟨hcz31_0, hcz31_1, hfz31_0, hfz31_1⟩ := c2f_ BK207.out; obtain ⟨hcz32_0, hcz32_1, hcz32_2, hcz32_3, hfz32_0, hfz32_1, hfz32_2, hfz32_3⟩ := c4f_ BK202.out; have p208 : 0 ≤ ((ji25) : Int) := of_decide_eq_true a3_; have q208 : (ji25) < (l0_2.length : Int) := of_decide_eq_true a3_; obtain ⟨ad208, e208, hx208_0, hx208_1⟩ := at_T45 HR0_2.out (ji25) p208 q208; obtain rfl : ad206 = ad208 := (by injection e208); have hn208_0 : ad206.block ≠ gb207 := Nat.ne_of_lt (Nat.lt_of_lt_of_le a20_ GW207.out); have hn208_1 : ad206.block ≠ gb207 := Nat.ne_of_lt (Nat.lt_of_lt_of_le a20_ GW207.out); replace hx208_0 := (HB.out.cell (World.block_lt_of_cell? w _ hx208_0)).trans hx208_0; replace hx208_1 := (HB.out.cell (World.block_lt_of_cell? w _ hx208_1)).trans hx208_1; replace hx208_0 := (cell_far (p := ⟨gb207, 0, none⟩) a18_ (.int .i64 ((rd_T45 l0_2 x22_2).f0))).trans hx208_0; replace hx208_1 := (cell_far (p := ⟨gb207, 0, none⟩) a18_ (.int .i64 ((rd_T45 l0_2 x22_2).f0))).trans hx208_1; replace hx208_0 := (cell_far (p := ⟨gb207, 1, none⟩) a17_ (.int .u8 ((rd_T45 l0_2 x22_2).f1))).trans hx208_0; replace hx208_1 := (cell_far (p := ⟨gb207, 1, none⟩) a17_ (.int .u8 ((rd_T45 l0_2 x22_2).f1))).trans hx208_1; (try have hy208_0 := fun (n_ : Nat) => (show ((((w29.drewN n_).setCell ⟨gb207, 0, none⟩ (.int .i64 ((rd_T45 l0_2 x22_2).f0))).setCell ⟨gb207, 1, none⟩ (.int .u8 ((rd_T45 l0_2 x22_2).f1)))).cell? _ = some _ from hx208_0)); (try have hy208_1 := fun (n_ : Nat) => (show ((((w29.drewN n_).setCell ⟨gb207, 0, none⟩ (.int .i64 ((rd_T45 l0_2 x22_2).f0))).setCell ⟨gb207, 1, none⟩ (.int .u8 ((rd_T45 l0_2 x22_2).f1)))).cell? _ = some _ from hx208_1)); clear hn208_0; clear hn208_1; replace p208 := eq_true p208; replace q208 := eq_true q208)); try go_wp2_with (first | ((with_reducible refine gate_dst (N := 6) rfl ?_); (try (refine gate_guard (by rfl) ?_; dsimp only)); refine box_event ?hg (N := 6) ?hd (cs := #[.int .i64 0, .int .u8 0]) (t := 45) ?hr ?_; (case hd => rfl); (case hg => rfl); (case hr => first | (go_simp; done) | (go_simp; rfl)); intro gb207 hg w29 hbox hb; have n0_ := Aside0.mk (blk_below (g := gb202) (o := .cells #[.string a0_0, .slice A0_1 l0_1.length c0_1, .slice (some ad206) l0_2.length c0_2, .string a0_3] 25 (0, 0)) a4_ hb); have n1_ := Aside0.mk (below_step a2_ hb); have n2_ := Aside0.mk (hbox); have n3_ := Aside0.mk ((by rw [hg]; exact (below_size a2_) : w.heap.size ≤ gb207)); have n4_ := Aside0.mk ((by rw [hg]; exact (below_size a2_) : w.heap.size ≤ gb207)); have n5_ := Aside0.mk ((by rw [hg]; exact Nat.ne_of_lt (blk_lt (g := gb202) (o := .cells #[.string a0_0, .slice A0_1 l0_1.length c0_1, .slice (some ad206) l0_2.length c0_2, .string a0_3] 25 (0, 0)) a4_) : gb202 ≠ gb207)); have n6_ := Aside0.mk ((by rw [hg]; exact Nat.ne_of_gt (blk_lt (g := gb202) (o := .cells #[.string a0_0, .slice A0_1 l0_1.length c0_1, .slice (some ad206) l0_2.length c0_2, .string a0_3] 25 (0, 0)) a4_) : gb207 ≠ gb202)); clear BK202; clear HB; have BK202 := n0_; have HB := n1_; have BK207 := n2_; have GW207 := n3_; have GE207 := n4_; have NB202_207 := n5_; have NB207_202 := n6_; clear n0_ n1_ n2_ n3_ n4_ n5_ n6_; clear hb hbox hg; have hnb30 := NB207_202.out; have hnc30 := NB202_207.out; obtain ⟨hcz31_0, hcz31_1, hfz31_0, hfz31_1⟩ := c2f_ BK207.out; obtain ⟨hcz32_0, hcz32_1, hcz32_2, hcz32_3, hfz32_0, hfz32_1, hfz32_2, hfz32_3⟩ := c4f_ BK202.out; have p208 : 0 ≤ ((ji25) : Int) := of_decide_eq_true a3_; have q208 : (ji25) < (l0_2.length : Int) := of_decide_eq_true a3_; obtain ⟨ad208, e208, hx208_0, hx208_1⟩ := at_T45 HR0_2.out (ji25) p208 q208; obtain rfl : ad206 = ad208 := (by injection e208); have hn208_0 : ad206.block ≠ gb207 := Nat.ne_of_lt (Nat.lt_of_lt_of_le a20_ GW207.out); have hn208_1 : ad206.block ≠ gb207 := Nat.ne_of_lt (Nat.lt_of_lt_of_le a20_ GW207.out); replace hx208_0 := (HB.out.cell (World.block_lt_of_cell? w _ hx208_0)).trans hx208_0; replace hx208_1 := (HB.out.cell (World.block_lt_of_cell? w _ hx208_1)).trans hx208_1; replace hx208_0 := (cell_far (p := ⟨gb207, 0, none⟩) a18_ (.int .i64 ((rd_T45 l0_2 x22_2).f0))).trans hx208_0; replace hx208_1 := (cell_far (p := ⟨gb207, 0, none⟩) a18_ (.int .i64 ((rd_T45 l0_2 x22_2).f0))).trans hx208_1; replace hx208_0 := (cell_far (p := ⟨gb207, 1, none⟩) a17_ (.int .u8 ((rd_T45 l0_2 x22_2).f1))).trans hx208_0; replace hx208_1 := (cell_far (p := ⟨gb207, 1, none⟩) a17_ (.int .u8 ((rd_T45 l0_2 x22_2).f1))).trans hx208_1; (try have hy208_0 := fun (n_ : Nat) => (show ((((w29.drewN n_).setCell ⟨gb207, 0, none⟩ (.int .i64 ((rd_T45 l0_2 x22_2).f0))).setCell ⟨gb207, 1, none⟩ (.int .u8 ((rd_T45 l0_2 x22_2).f1)))).cell? _ = some _ from hx208_0)); (try have hy208_1 := fun (n_ : Nat) => (show ((((w29.drewN n_).setCell ⟨gb207, 0, none⟩ (.int .i64 ((rd_T45 l0_2 x22_2).f0))).setCell ⟨gb207, 1, none⟩ (.int .u8 ((rd_T45 l0_2 x22_2).f1)))).cell? _ = some _ from hx208_1)); clear hn208_0; clear hn208_1; replace p208 := eq_true p208; replace q208 := eq_true q208)))
              go_ret
              exact ⟨by first | rfl | (simp [errW_none, errW_some] <;> rfl) | (simp only [← hji25]; first | rfl | (simp [errW_none, errW_some] <;> rfl)) | (simp [*, errW_none, errW_some] <;> rfl), by repeat (first | (with_reducible first | exact HB.out | apply below_alloc | apply pw_below_drewN | apply below_drew1 | refine below_set ?_ GE202.out | refine below_set ?_ GE207.out) | exact HB.out)⟩
             ·rw [if_neg c28] at H
              have c28b0 : decide (((rd_T45 l0_2 x22_2).f0) ≤ ((rd_T45 l0_2 (ji25)).f0)) = false := decide_eq_false c28
              clear c28
              have H' := Aside0.mk H
              clear H
              have p206 : 0 ≤ (x22_2 : Int) := of_decide_eq_true a3_
              have q206 : x22_2 < (l0_2.length : Int) := of_decide_eq_true a3_
              obtain ⟨ad206, e206, hx206_0, hx206_1⟩ := at_T45 HR0_2.out x22_2 p206 q206
              cases e206
              replace hx206_0 := (HB.out.cell (World.block_lt_of_cell? w _ hx206_0)).trans hx206_0
              replace hx206_1 := (HB.out.cell (World.block_lt_of_cell? w _ hx206_1)).trans hx206_1
              replace p206 := eq_true p206
              replace q206 := eq_true q206
              go_wp2_with (first | ((with_reducible refine gate_dst (N := 6) rfl ?_); (try (refine gate_guard (by rfl) ?_; dsimp only)); refine box_event ?hg (N := 6) ?hd (cs := #[.int .i64 0, .int .u8 0]) (t := 45) ?hr ?_; (case hd => rfl); (case hg => rfl); (case hr => first | (go_simp; done) | (go_simp; rfl)); intro gb207 hg w33 hbox hb; have n0_ := Aside0.mk (blk_below (g := gb202) (o := .cells #[.string a0_0, .slice A0_1 l0_1.length c0_1, .slice (some ad206) l0_2.length c0_2, .string a0_3] 25 (0, 0)) a4_ hb); have n1_ := Aside0.mk (below_step a2_ hb); have n2_ := Aside0.mk (hbox); have n3_ := Aside0.mk ((by rw [hg]; exact (below_size a2_) : w.heap.size ≤ gb207)); have n4_ := Aside0.mk ((by rw [hg]; exact (below_size a2_) : w.heap.size ≤ gb207)); have n5_ := Aside0.mk ((by rw [hg]; exact Nat.ne_of_lt (blk_lt (g := gb202) (o := .cells #[.string a0_0, .slice A0_1 l0_1.length c0_1, .slice (some ad206) l0_2.length c0_2, .string a0_3] 25 (0, 0)) a4_) : gb202 ≠ gb207)); have n6_ := Aside0.mk ((by rw [hg]; exact Nat.ne_of_gt (blk_lt (g := gb202) (o := .cells #[.string a0_0, .slice A0_1 l0_1.length c0_1, .slice (some ad206) l0_2.length c0_2, .string a0_3] 25 (0, 0)) a4_) : gb207 ≠ gb202)); clear BK202; clear HB; have BK202 := n0_; have HB := n1_; have BK207 := n2_; have GW207 := n3_; have GE207 := n4_; have NB202_207 := n5_; have NB207_202 := n6_; clear n0_ n1_ n2_ n3_ n4_ n5_ n6_; clear hb hbox hg; have hnb34 := NB207_202.out; have hnc34 := NB202_207.out; obtain ⟨hcz35_0, hcz35_1, hfz35_0, hfz35_1⟩ := c2f_ BK207.out; obtain ⟨hcz36_0, hcz36_1, hcz36_2, hcz36_3, hfz36_0, hfz36_1, hfz36_2, hfz36_3⟩ := c4f_ BK202.out; have p208 : 0 ≤ ((ji25) : Int) := of_decide_eq_true a3_; have q208 : (ji25) < (l0_2.length : Int) := of_decide_eq_true a3_; obtain ⟨ad208, e208, hx208_0, hx208_1⟩ := at_T45 HR0_2.out (ji25) p208 q208; obtain rfl : ad206 = ad208 := (by injection e208); have hn208_0 : ad206.block ≠ gb207 := Nat.ne_of_lt (Nat.lt_of_lt_of_le a20_ GW207.out); have hn208_1 : ad206.block ≠ gb207 := Nat.ne_of_lt (Nat.lt_of_lt_of_le a20_ GW207.out); replace hx208_0 := (HB.out.cell (World.block_lt_of_cell? w _ hx208_0)).trans hx208_0; replace hx208_1 := (HB.out.cell (World.block_lt_of_cell? w _ hx208_1)).trans hx208_1; replace hx208_0 := (cell_far (p := ⟨gb207, 0, none⟩) a18_ (.int .i64 ((rd_T45 l0_2 x22_2).f0))).trans hx208_0; replace hx208_1 := (cell_far (p := ⟨gb207, 0, none⟩) a18_ (.int .i64 ((rd_T45 l0_2 x22_2).f0))).trans hx208_1; replace hx208_0 := (cell_far (p := ⟨gb207, 1, none⟩) a17_ (.int .u8 ((rd_T45 l0_2 x22_2).f1))).trans hx208_0; replace hx208_1 := (cell_far (p := ⟨gb207, 1, none⟩) a17_ (.int .u8 ((rd_T45 l0_2 x22_2).f1))).trans hx208_1; (try have hy208_0 := fun (n_ : Nat) => (show ((((w33.drewN n_).setCell ⟨gb207, 0, none⟩ (.int .i64 ((rd_T45 l0_2 x22_2).f0))).setCell ⟨gb207, 1, none⟩ (.int .u8 ((rd_T45 l0_2 x22_2).f1)))).cell? _ = some _ from hx208_0)); (try have hy208_1 := fun (n_ : Nat) => (show ((((w33.drewN n_).setCell ⟨gb207, 0, none⟩ (.int .i64 ((rd_T45 l0_2 x22_2).f0))).setCell ⟨gb207, 1, none⟩ (.int .u8 ((rd_T45 l0_2 x22_2).f1)))).cell? _ = some _ from hx208_1)); clear hn208_0; clear hn208_1; replace p208 := eq_true p208; replace q208 := eq_true q208))
              repeat (go_quiet (first | ((with_reducible refine gate_dst (N := 6) rfl ?_); (try (refine gate_guard (by rfl) ?_; dsimp only)); refine box_event ?hg (N := 6) ?hd (cs := #[.int .i64 0, .int .u8 0]) (t := 45) ?hr ?_; (case hd => rfl); (case hg => rfl); (case hr => first | (go_simp; done) | (go_simp; rfl)); intro gb207 hg w33 hbox hb; have n0_ := Aside0.mk (blk_below (g := gb202) (o := .cells #[.string a0_0, .slice A0_1 l0_1.length c0_1, .slice (some ad206) l0_2.length c0_2, .string a0_3] 25 (0, 0)) a4_ hb); have n1_ := Aside0.mk (below_step a2_ hb); have n2_ := Aside0.mk (hbox); have n3_ := Aside0.mk ((by rw [hg]; exact (below_size a2_) : w.heap.size ≤ gb207)); have n4_ := Aside0.mk ((by rw [hg]; exact (below_size a2_) : w.heap.size ≤ gb207)); have n5_ := Aside0.mk ((by rw [hg]; exact Nat.ne_of_lt (blk_lt (g := gb202) (o := .cells #[.string a0_0, .slice A0_1 l0_1.length c0_1, .slice (some ad206) l0_2.length c0_2, .string a0_3] 25 (0, 0)) a4_) : gb202 ≠ gb207)); have n6_ := Aside0.mk ((by rw [hg]; exact Nat.ne_of_gt (blk_lt (g := gb202) (o := .cells #[.string a0_0, .slice A0_1 l0_1.length c0_1, .slice (some ad206) l0_2.length c0_2, .string a0_3] 25 (0, 0)) a4_) : gb207 ≠ gb202)); clear BK202; clear HB; have BK202 := n0_; have HB := n1_; have BK207 := n2_; have GW207 := n3_; have GE207 := n4_; have NB202_207 := n5_; have NB207_202 := n6_; clear n0_ n1_ n2_ n3_ n4_ n5_ n6_; clear hb hbox hg; have hnb34 := NB207_202.out; have hnc34 := NB202_207.out; obtain ⟨hcz35_0, hcz35_1, hfz35_0, hfz35_1⟩ := c2f_ BK207.out; obtain ⟨hcz36_0, hcz36_1, hcz36_2, hcz36_3, hfz36_0, hfz36_1, hfz36_2, hfz36_3⟩ := c4f_ BK202.out; have p208 : 0 ≤ ((ji25) : Int) := of_decide_eq_true a3_; have q208 : (ji25) < (l0_2.length : Int) := of_decide_eq_true a3_; obtain ⟨ad208, e208, hx208_0, hx208_1⟩ := at_T45 HR0_2.out (ji25) p208 q208; obtain rfl : ad206 = ad208 := (by injection e208); have hn208_0 : ad206.block ≠ gb207 := Nat.ne_of_lt (Nat.lt_of_lt_of_le a20_ GW207.out); have hn208_1 : ad206.block ≠ gb207 := Nat.ne_of_lt (Nat.lt_of_lt_of_le a20_ GW207.out); replace hx208_0 := (HB.out.cell (World.block_lt_of_cell? w _ hx208_0)).trans hx208_0; replace hx208_1 := (HB.out.cell (World.block_lt_of_cell? w _ hx208_1)).trans hx208_1; replace hx208_0 := (cell_far (p := ⟨gb207, 0, none⟩) a18_ (.int .i64 ((rd_T45 l0_2 x22_2).f0))).trans hx208_0; replace hx208_1 := (cell_far (p := ⟨gb207, 0, none⟩) a18_ (.int .i64 ((rd_T45 l0_2 x22_2).f0))).trans hx208_1; replace hx208_0 := (cell_far (p := ⟨gb207, 1, none⟩) a17_ (.int .u8 ((rd_T45 l0_2 x22_2).f1))).trans hx208_0; replace hx208_1 := (cell_far (p := ⟨gb207, 1, none⟩) a17_ (.int .u8 ((rd_T45 l0_2 x22_2).f1))).trans hx208_1; (try have hy208_0 := fun (n_ : Nat) => (show ((((w33.drewN n_).setCell ⟨gb207, 0, none⟩ (.int .i64 ((rd_T45 l0_2 x22_2).f0))).setCell ⟨gb207, 1, none⟩ (.int .u8 ((rd_T45 l0_2 x22_2).f1)))).cell? _ = some _ from hx208_0)); (try have hy208_1 := fun (n_ : Nat) => (show ((((w33.drewN n_).setCell ⟨gb207, 0, none⟩ (.int .i64 ((rd_T45 l0_2 x22_2).f0))).setCell ⟨gb207, 1, none⟩ (.int .u8 ((rd_T45 l0_2 x22_2).f1)))).cell? _ = some _ from hx208_1)); clear hn208_0; clear hn208_1; replace p208 := eq_true p208; replace q208 := eq_true q208)); try go_wp2_with (first | ((with_reducible refine gate_dst (N := 6) rfl ?_); (try (refine gate_guard (by rfl) ?_; dsimp only)); refine box_event ?hg (N := 6) ?hd (cs := #[.int .i64 0, .int .u8 0]) (t := 45) ?hr ?_; (case hd => rfl); (case hg => rfl); (case hr => first | (go_simp; done) | (go_simp; rfl)); intro gb207 hg w33 hbox hb; have n0_ := Aside0.mk (blk_below (g := gb202) (o := .cells #[.string a0_0, .slice A0_1 l0_1.length c0_1, .slice (some ad206) l0_2.length c0_2, .string a0_3] 25 (0, 0)) a4_ hb); have n1_ := Aside0.mk (below_step a2_ hb); have n2_ := Aside0.mk (hbox); have n3_ := Aside0.mk ((by rw [hg]; exact (below_size a2_) : w.heap.size ≤ gb207)); have n4_ := Aside0.mk ((by rw [hg]; exact (below_size a2_) : w.heap.size ≤ gb207)); have n5_ := Aside0.mk ((by rw [hg]; exact Nat.ne_of_lt (blk_lt (g := gb202) (o := .cells #[.string a0_0, .slice A0_1 l0_1.length c0_1, .slice (some ad206) l0_2.length c0_2, .string a0_3] 25 (0, 0)) a4_) : gb202 ≠ gb207)); have n6_ := Aside0.mk ((by rw [hg]; exact Nat.ne_of_gt (blk_lt (g := gb202) (o := .cells #[.string a0_0, .slice A0_1 l0_1.length c0_1, .slice (some ad206) l0_2.length c0_2, .string a0_3] 25 (0, 0)) a4_) : gb207 ≠ gb202)); clear BK202; clear HB; have BK202 := n0_; have HB := n1_; have BK207 := n2_; have GW207 := n3_; have GE207 := n4_; have NB202_207 := n5_; have NB207_202 := n6_; clear n0_ n1_ n2_ n3_ n4_ n5_ n6_; clear hb hbox hg; have hnb34 := NB207_202.out; have hnc34 := NB202_207.out; obtain ⟨hcz35_0, hcz35_1, hfz35_0, hfz35_1⟩ := c2f_ BK207.out; obtain ⟨hcz36_0, hcz36_1, hcz36_2, hcz36_3, hfz36_0, hfz36_1, hfz36_2, hfz36_3⟩ := c4f_ BK202.out; have p208 : 0 ≤ ((ji25) : Int) := of_decide_eq_true a3_; have q208 : (ji25) < (l0_2.length : Int) := of_decide_eq_true a3_; obtain ⟨ad208, e208, hx208_0, hx208_1⟩ := at_T45 HR0_2.out (ji25) p208 q208; obtain rfl : ad206 = ad208 := (by injection e208); have hn208_0 : ad206.block ≠ gb207 := Nat.ne_of_lt (Nat.lt_of_lt_of_le a20_ GW207.out); have hn208_1 : ad206.block ≠ gb207 := Nat.ne_of_lt (Nat.lt_of_lt_of_le a20_ GW207.out); replace hx208_0 := (HB.out.cell (World.block_lt_of_cell? w _ hx208_0)).trans hx208_0; replace hx208_1 := (HB.out.cell (World.block_lt_of_cell? w _ hx208_1)).trans hx208_1; replace hx208_0 := (cell_far (p := ⟨gb207, 0, none⟩) a18_ (.int .i64 ((rd_T45 l0_2 x22_2).f0))).trans hx208_0; replace hx208_1 := (cell_far (p := ⟨gb207, 0, none⟩) a18_ (.int .i64 ((rd_T45 l0_2 x22_2).f0))).trans hx208_1; replace hx208_0 := (cell_far (p := ⟨gb207, 1, none⟩) a17_ (.int .u8 ((rd_T45 l0_2 x22_2).f1))).trans hx208_0; replace hx208_1 := (cell_far (p := ⟨gb207, 1, none⟩) a17_ (.int .u8 ((rd_T45 l0_2 x22_2).f1))).trans hx208_1; (try have hy208_0 := fun (n_ : Nat) => (show ((((w33.drewN n_).setCell ⟨gb207, 0, none⟩ (.int .i64 ((rd_T45 l0_2 x22_2).f0))).setCell ⟨gb207, 1, none⟩ (.int .u8 ((rd_T45 l0_2 x22_2).f1)))).cell? _ = some _ from hx208_0)); (try have hy208_1 := fun (n_ : Nat) => (show ((((w33.drewN n_).setCell ⟨gb207, 0, none⟩ (.int .i64 ((rd_T45 l0_2 x22_2).f0))).setCell ⟨gb207, 1, none⟩ (.int .u8 ((rd_T45 l0_2 x22_2).f1)))).cell? _ = some _ from hx208_1)); clear hn208_0; clear hn208_1; replace p208 := eq_true p208; replace q208 := eq_true q208)))
              go_roundg k2
              case measure => have := HK1.out; have := HK2.out; omega
              case rel => exact ⟨(wrap64 (x22_2 + 1)), a5_, H', ⟨by have := HK1.out; have := HK2.out; omega⟩, ⟨by (with_reducible repeat (first | refine blk_drewN ?_ _ | refine blk_drew ?_ | refine blk_alloc ?_ _)); refine blk_far ?_ NB202_207.out _; (with_reducible repeat (first | refine blk_drewN ?_ _ | refine blk_drew ?_ | refine blk_alloc ?_ _)); refine blk_far ?_ NB202_207.out _; (with_reducible repeat (first | refine blk_drewN ?_ _ | refine blk_drew ?_ | refine blk_alloc ?_ _)); exact BK202.out⟩, ⟨by repeat (first | (with_reducible first | exact HB.out | apply below_alloc | apply pw_below_drewN | apply below_drew1 | refine below_set ?_ GE202.out | refine below_set ?_ GE207.out) | exact HB.out)⟩⟩
            ·rw [if_neg c27] at H
             exact absurd H (by simp)
           ·rw [if_neg c26] at H
            exact absurd H (by simp)
          ·rw [if_neg c24] at H
           have c24b0 : decide (0 < x22_2) = false := decide_eq_false c24
           clear c24
           have H' := Aside0.mk H
           clear H
           have p206 : 0 ≤ (x22_2 : Int) := of_decide_eq_true a3_
           have q206 : x22_2 < (l0_2.length : Int) := of_decide_eq_true a3_
           obtain ⟨ad206, e206, hx206_0, hx206_1⟩ := at_T45 HR0_2.out x22_2 p206 q206
           cases e206
           replace hx206_0 := (HB.out.cell (World.block_lt_of_cell? w _ hx206_0)).trans hx206_0
           replace hx206_1 := (HB.out.cell (World.block_lt_of_cell? w _ hx206_1)).trans hx206_1
           replace p206 := eq_true p206
           replace q206 := eq_true q206
           go_wp2_with (first | ((with_reducible refine gate_dst (N := 6) rfl ?_); (try (refine gate_guard (by rfl) ?_; dsimp only)); refine box_event ?hg (N := 6) ?hd (cs := #[.int .i64 0, .int .u8 0]) (t := 45) ?hr ?_; (case hd => rfl); (case hg => rfl); (case hr => first | (go_simp; done) | (go_simp; rfl)); intro gb207 hg w37 hbox hb; have n0_ := Aside0.mk (blk_below (g := gb202) (o := .cells #[.string a0_0, .slice A0_1 l0_1.length c0_1, .slice (some ad206) l0_2.length c0_2, .string a0_3] 25 (0, 0)) a4_ hb); have n1_ := Aside0.mk (below_step a2_ hb); have n2_ := Aside0.mk (hbox); have n3_ := Aside0.mk ((by rw [hg]; exact (below_size a2_) : w.heap.size ≤ gb207)); have n4_ := Aside0.mk ((by rw [hg]; exact (below_size a2_) : w.heap.size ≤ gb207)); have n5_ := Aside0.mk ((by rw [hg]; exact Nat.ne_of_lt (blk_lt (g := gb202) (o := .cells #[.string a0_0, .slice A0_1 l0_1.length c0_1, .slice (some ad206) l0_2.length c0_2, .string a0_3] 25 (0, 0)) a4_) : gb202 ≠ gb207)); have n6_ := Aside0.mk ((by rw [hg]; exact Nat.ne_of_gt (blk_lt (g := gb202) (o := .cells #[.string a0_0, .slice A0_1 l0_1.length c0_1, .slice (some ad206) l0_2.length c0_2, .string a0_3] 25 (0, 0)) a4_) : gb207 ≠ gb202)); clear BK202; clear HB; have BK202 := n0_; have HB := n1_; have BK207 := n2_; have GW207 := n3_; have GE207 := n4_; have NB202_207 := n5_; have NB207_202 := n6_; clear n0_ n1_ n2_ n3_ n4_ n5_ n6_; clear hb hbox hg; have hnb38 := NB207_202.out; have hnc38 := NB202_207.out; obtain ⟨hcz39_0, hcz39_1, hfz39_0, hfz39_1⟩ := c2f_ BK207.out; obtain ⟨hcz40_0, hcz40_1, hcz40_2, hcz40_3, hfz40_0, hfz40_1, hfz40_2, hfz40_3⟩ := c4f_ BK202.out))
           repeat (go_quiet (first | ((with_reducible refine gate_dst (N := 6) rfl ?_); (try (refine gate_guard (by rfl) ?_; dsimp only)); refine box_event ?hg (N := 6) ?hd (cs := #[.int .i64 0, .int .u8 0]) (t := 45) ?hr ?_; (case hd => rfl); (case hg => rfl); (case hr => first | (go_simp; done) | (go_simp; rfl)); intro gb207 hg w37 hbox hb; have n0_ := Aside0.mk (blk_below (g := gb202) (o := .cells #[.string a0_0, .slice A0_1 l0_1.length c0_1, .slice (some ad206) l0_2.length c0_2, .string a0_3] 25 (0, 0)) a4_ hb); have n1_ := Aside0.mk (below_step a2_ hb); have n2_ := Aside0.mk (hbox); have n3_ := Aside0.mk ((by rw [hg]; exact (below_size a2_) : w.heap.size ≤ gb207)); have n4_ := Aside0.mk ((by rw [hg]; exact (below_size a2_) : w.heap.size ≤ gb207)); have n5_ := Aside0.mk ((by rw [hg]; exact Nat.ne_of_lt (blk_lt (g := gb202) (o := .cells #[.string a0_0, .slice A0_1 l0_1.length c0_1, .slice (some ad206) l0_2.length c0_2, .string a0_3] 25 (0, 0)) a4_) : gb202 ≠ gb207)); have n6_ := Aside0.mk ((by rw [hg]; exact Nat.ne_of_gt (blk_lt (g := gb202) (o := .cells #[.string a0_0, .slice A0_1 l0_1.length c0_1, .slice (some ad206) l0_2.length c0_2, .string a0_3] 25 (0, 0)) a4_) : gb207 ≠ gb202)); clear BK202; clear HB; have BK202 := n0_; have HB := n1_; have BK207 := n2_; have GW207 := n3_; have GE207 := n4_; have NB202_207 := n5_; have NB207_202 := n6_; clear n0_ n1_ n2_ n3_ n4_ n5_ n6_; clear hb hbox hg; have hnb38 := NB207_202.out; have hnc38 := NB202_207.out; obtain ⟨hcz39_0, hcz39_1, hfz39_0, hfz39_1⟩ := c2f_ BK207.out; obtain ⟨hcz40_0, hcz40_1, hcz40_2, hcz40_3, hfz40_0, hfz40_1, hfz40_2, hfz40_3⟩ := c4f_ BK202.out)); try go_wp2_with (first | ((with_reducible refine gate_dst (N := 6) rfl ?_); (try (refine gate_guard (by rfl) ?_; dsimp only)); refine box_event ?hg (N := 6) ?hd (cs := #[.int .i64 0, .int .u8 0]) (t := 45) ?hr ?_; (case hd => rfl); (case hg => rfl); (case hr => first | (go_simp; done) | (go_simp; rfl)); intro gb207 hg w37 hbox hb; have n0_ := Aside0.mk (blk_below (g := gb202) (o := .cells #[.string a0_0, .slice A0_1 l0_1.length c0_1, .slice (some ad206) l0_2.length c0_2, .string a0_3] 25 (0, 0)) a4_ hb); have n1_ := Aside0.mk (below_step a2_ hb); have n2_ := Aside0.mk (hbox); have n3_ := Aside0.mk ((by rw [hg]; exact (below_size a2_) : w.heap.size ≤ gb207)); have n4_ := Aside0.mk ((by rw [hg]; exact (below_size a2_) : w.heap.size ≤ gb207)); have n5_ := Aside0.mk ((by rw [hg]; exact Nat.ne_of_lt (blk_lt (g := gb202) (o := .cells #[.string a0_0, .slice A0_1 l0_1.length c0_1, .slice (some ad206) l0_2.length c0_2, .string a0_3] 25 (0, 0)) a4_) : gb202 ≠ gb207)); have n6_ := Aside0.mk ((by rw [hg]; exact Nat.ne_of_gt (blk_lt (g := gb202) (o := .cells #[.string a0_0, .slice A0_1 l0_1.length c0_1, .slice (some ad206) l0_2.length c0_2, .string a0_3] 25 (0, 0)) a4_) : gb207 ≠ gb202)); clear BK202; clear HB; have BK202 := n0_; have HB := n1_; have BK207 := n2_; have GW207 := n3_; have GE207 := n4_; have NB202_207 := n5_; have NB207_202 := n6_; clear n0_ n1_ n2_ n3_ n4_ n5_ n6_; clear hb hbox hg; have hnb38 := NB207_202.out; have hnc38 := NB202_207.out; obtain ⟨hcz39_0, hcz39_1, hfz39_0, hfz39_1⟩ := c2f_ BK207.out; obtain ⟨hcz40_0, hcz40_1, hcz40_2, hcz40_3, hfz40_0, hfz40_1, hfz40_2, hfz40_3⟩ := c4f_ BK202.out)))
           go_roundg k2
           case measure => have := HK1.out; have := HK2.out; omega
           case rel => exact ⟨(wrap64 (x22_2 + 1)), a5_, H', ⟨by have := HK1.out; have := HK2.out; omega⟩, ⟨by (with_reducible repeat (first | refine blk_drewN ?_ _ | refine blk_drew ?_ | refine blk_alloc ?_ _)); refine blk_far ?_ NB202_207.out _; (with_reducible repeat (first | refine blk_drewN ?_ _ | refine blk_drew ?_ | refine blk_alloc ?_ _)); refine blk_far ?_ NB202_207.out _; (with_reducible repeat (first | refine blk_drewN ?_ _ | refine blk_drew ?_ | refine blk_alloc ?_ _)); exact BK202.out⟩, ⟨by repeat (first | (with_reducible first | exact HB.out | apply below_alloc | apply pw_below_drewN | apply below_drew1 | refine below_set ?_ GE202.out | refine below_set ?_ GE207.out) | exact HB.out)⟩⟩
        ·rw [if_neg c18] at H
         exact absurd H (by simp)
       ·rw [if_neg c17] at H
        exact absurd H (by simp)
      ·rw [if_neg c16] at H
       have c16b0 := decide_eq_false c16
       clear c16
       replace H := Option.bind_eq_some_iff.mp H
       obtain ⟨t209, A410, H⟩ := H
       replace H : (if t209 = true then (some (decide ((l0_2.length : Int) ≤ 1000))) else (some false)) = some r := H
       have A41 := Aside0.mk A410
       clear A410
       by_cases c42 : t209 = true
       ·subst c42
        have H1 : (some (decide ((l0_2.length : Int) ≤ 1000))) = some r := by rw [if_pos rfl] at H; exact H
        clear H
        have H := H1
        clear H1
        obtain rfl := Option.some.inj H
        obtain ⟨hcz43_0, hcz43_1, hcz43_2, hcz43_3, hfz43_0, hfz43_1, hfz43_2, hfz43_3⟩ := c4f_ BK202.out
        go_wp2_with (first | (go_at_call 18; (with_reducible refine (spec_Within.calls (l0_1.length : Int) 1 200 true _ A41.out).mono ?_); rintro e w' ⟨rfl, ⟨nd, rfl⟩⟩; (try first | exact ⟨rfl, _, World.drewN_drewN _ _ _⟩ | exact ⟨rfl, _, Eq.trans (World.drewN_drewN _ _ _) (congrArg (World.drewN _) (Nat.add_assoc _ _ _))⟩)))
        repeat (go_quiet (first | (go_at_call 18; (with_reducible refine (spec_Within.calls (l0_1.length : Int) 1 200 true _ A41.out).mono ?_); rintro e w' ⟨rfl, ⟨nd, rfl⟩⟩; (try first | exact ⟨rfl, _, World.drewN_drewN _ _ _⟩ | exact ⟨rfl, _, Eq.trans (World.drewN_drewN _ _ _) (congrArg (World.drewN _) (Nat.add_assoc _ _ _))⟩))); try go_wp2_with (first | (go_at_call 18; (with_reducible refine (spec_Within.calls (l0_1.length : Int) 1 200 true _ A41.out).mono ?_); rintro e w' ⟨rfl, ⟨nd, rfl⟩⟩; (try first | exact ⟨rfl, _, World.drewN_drewN _ _ _⟩ | exact ⟨rfl, _, Eq.trans (World.drewN_drewN _ _ _) (congrArg (World.drewN _) (Nat.add_assoc _ _ _))⟩))))
        go_ret
        exact ⟨by first | rfl | (simp [errW_none, errW_some] <;> rfl) | (simp [*, errW_none, errW_some] <;> rfl), by repeat (first | (with_reducible first | exact HB.out | apply below_alloc | apply pw_below_drewN | apply below_drew1 | refine below_set ?_ GE202.out) | exact HB.out)⟩
       ·replace c42 := Bool.eq_false_iff.mpr c42
        subst c42
        have H1 : (some false) = some r := by rw [if_neg (show ¬ (false = true) by decide)] at H; exact H
        clear H
        have H := H1
        clear H1
        obtain rfl := Option.some.inj H
        obtain ⟨hcz44_0, hcz44_1, hcz44_2, hcz44_3, hfz44_0, hfz44_1, hfz44_2, hfz44_3⟩ := c4f_ BK202.out
        go_wp2_with (first | (go_at_call 18; (with_reducible refine (spec_Within.calls (l0_1.length : Int) 1 200 false _ A41.out).mono ?_); rintro e w' ⟨rfl, ⟨nd, rfl⟩⟩; (try first | exact ⟨rfl, _, World.drewN_drewN _ _ _⟩ | exact ⟨rfl, _, Eq.trans (World.drewN_drewN _ _ _) (congrArg (World.drewN _) (Nat.add_assoc _ _ _))⟩)))
        repeat (go_quiet (first | (go_at_call 18; (with_reducible refine (spec_Within.calls (l0_1.length : Int) 1 200 false _ A41.out).mono ?_); rintro e w' ⟨rfl, ⟨nd, rfl⟩⟩; (try first | exact ⟨rfl, _, World.drewN_drewN _ _ _⟩ | exact ⟨rfl, _, Eq.trans (World.drewN_drewN _ _ _) (congrArg (World.drewN _) (Nat.add_assoc _ _ _))⟩))); try go_wp2_with (first | (go_at_call 18; (with_reducible refine (spec_Within.calls (l0_1.length : Int) 1 200 false _ A41.out).mono ?_); rintro e w' ⟨rfl, ⟨nd, rfl⟩⟩; (try first | exact ⟨rfl, _, World.drewN_drewN _ _ _⟩ | exact ⟨rfl, _, Eq.trans (World.drewN_drewN _ _ _) (congrArg (World.drewN _) (Nat.add_assoc _ _ _))⟩))))
        go_ret
        exact ⟨by first | rfl | (simp [errW_none, errW_some] <;> rfl) | (simp [*, errW_none, errW_some] <;> rfl), by repeat (first | (with_reducible first | exact HB.out | apply below_alloc | apply pw_below_drewN | apply below_drew1 | refine below_set ?_ GE202.out) | exact HB.out)⟩
end Go.Proofs.YtjoaeennbfmohaaDoor.PFnZone
