/- The walks of some functions. Laid by programs (wip/mkq.py, wip/mkclaim.py) out of the texts that the kit's print.sh wrote for this seat, written shorter. Not written by hand. -/
import Derived.Test.YtjoaeennbfmohaaDoorC0
namespace Go.Proofs.YtjoaeennbfmohaaDoor.PFnZone
open Go.RowKit Go.Proofs.YtjoaeennbfmohaaDoorW.PrintWords Go.Proofs.YtjoaeennbfmohaaDoorW.PrintLast Go.Proofs.YtjoaeennbfmohaaDoorW.PrintMore
attribute [local go_sem] max2_int min2_int max_two min_two max_three min_three max_four min_four   -- for this text's walks alone
set_option linter.unusedVariables false
set_option linter.unusedSimpArgs false
def spec_Ahead.f (a0 : Int) : Option (Int) := some (wrap64 ((wrap64 ((wrap64 ((wrap64 (365 * (wrap64 (a0 - 1)))) + (wrap64 (Int.tdiv (wrap64 (a0 - 1)) 4)))) - (wrap64 (Int.tdiv (wrap64 (a0 - 1)) 100)))) + (wrap64 (Int.tdiv (wrap64 (a0 - 1)) 400))))
set_option maxHeartbeats 8000000 in
set_option maxRecDepth 100000 in
theorem spec_Ahead.calls (a0 : Int) (r : Int) (w : World) (h : spec_Ahead.f a0 = some r) :
  Calls Tryd.prog 47 #[.int .i64 a0] w fun e w' => e = .returned (.int .i64 r) ∧ Drawn0 w w' := by
 have H : (some (wrap64 ((wrap64 ((wrap64 ((wrap64 (365 * (wrap64 (a0 - 1)))) + (wrap64 (Int.tdiv (wrap64 (a0 - 1)) 4)))) - (wrap64 (Int.tdiv (wrap64 (a0 - 1)) 100)))) + (wrap64 (Int.tdiv (wrap64 (a0 - 1)) 400))))) = some r := h
 clear h
 obtain rfl := Option.some.inj H
 go_enter Tryd.func47, Tryd.ntmps47
 go_wp2
 go_ret
 exact ⟨by first | rfl | (simp; done) | (simp [*]; done), by repeat (first | exact Drawn0.refl _ | apply Drawn0.step)⟩
def spec_YearStart.f (a0 : Int) : Option (Int) := (spec_Ahead.f a0).bind fun t242 => ((spec_Ahead.f 1970).bind fun t243 => (some (wrap64 ((wrap64 (t242 - t243)) * 86400))))
set_option maxHeartbeats 8000000 in
set_option maxRecDepth 100000 in
theorem spec_YearStart.calls (a0 : Int) (r : Int) (w : World) (h : spec_YearStart.f a0 = some r) :
  Calls Tryd.prog 31 #[.int .i64 a0] w fun e w' => e = .returned (.int .i64 r) ∧ Drawn0 w w' := by
 have H : ((spec_Ahead.f a0).bind fun t242 => ((spec_Ahead.f 1970).bind fun t243 => (some (wrap64 ((wrap64 (t242 - t243)) * 86400))))) = some r := h
 clear h
 replace H := Option.bind_eq_some_iff.mp H
 obtain ⟨t242, A20, H⟩ := H
 replace H : ((spec_Ahead.f 1970).bind fun t243 => (some (wrap64 ((wrap64 (t242 - t243)) * 86400)))) = some r := H
 have A2 := Aside0.mk A20
 clear A20
 replace H := Option.bind_eq_some_iff.mp H
 obtain ⟨t243, A30, H⟩ := H
 replace H : (some (wrap64 ((wrap64 (t242 - t243)) * 86400))) = some r := H
 have A3 := Aside0.mk A30
 clear A30
 obtain rfl := Option.some.inj H
 go_enter Tryd.func31, Tryd.ntmps31
 go_wp2_with (first | ((with_reducible refine gate_callee (f := 47) rfl ?_); refine goesL_ (some 4) rfl rfl Tryd.func47 (by kernel_rfl) rfl #[.int .i64 a0] rfl a1_ ?_; (with_reducible refine (spec_Ahead.calls a0 t242 _ A2.out).mono ?_); rintro e w' ⟨rfl, ⟨nd, rfl⟩⟩; refine ⟨_, rfl, ?_⟩) | ((with_reducible refine gate_callee (f := 47) rfl ?_); refine goesL_ (some 5) rfl rfl Tryd.func47 (by kernel_rfl) rfl #[.int .i64 1970] rfl a1_ ?_; (with_reducible refine (spec_Ahead.calls 1970 t243 _ A3.out).mono ?_); rintro e w' ⟨rfl, ⟨nd, rfl⟩⟩; refine ⟨_, rfl, ?_⟩))
 go_ret
 exact ⟨by first | rfl | (simp; done) | (simp [*]; done), by repeat (first | exact Drawn0.refl _ | apply Drawn0.step)⟩
def spec_YearOf.l0 : Nat → Int → Int → Option (Int)
 | 0, _, _ => none
 | k + 1, x0, x3 => (spec_YearStart.f (wrap64 (x3 + 1))).bind fun t244 => (if t244 ≤ x0 then (spec_YearOf.l0 k x0 (wrap64 (x3 + 1))) else (some x3))
def spec_YearOf.f (k : Nat) (a0 : Int) : Option (Int) := spec_YearOf.l0 k a0 (wrap64 (1970 + (wrap64 (Int.tdiv (wrap64 (Int.tdiv a0 86400)) 366))))
set_option maxHeartbeats 8000000 in
set_option maxRecDepth 100000 in
theorem spec_YearOf.calls (k : Nat) (a0 : Int) (r : Int) (w : World) (h : spec_YearOf.f k a0 = some r) :
  Calls Tryd.prog 30 #[.int .i64 a0] w fun e w' => e = .returned (.int .i64 r) ∧ Drawn0 w w' := by
 have H : (spec_YearOf.l0 k a0 (wrap64 (1970 + (wrap64 (Int.tdiv (wrap64 (Int.tdiv a0 86400)) 366))))) = some r := h
 clear h
 have H' := Aside0.mk H
 clear H
 go_enter Tryd.func30, Tryd.ntmps30
 go_wp2
 go_loopg [3] k (fun kq v3 w' => ∃ (x3_1 : Int), v3 = .int .i64 x3_1 ∧ Aside0 (spec_YearOf.l0 kq a0 x3_1 = some r) ∧ Aside0 (kq ≤ k) ∧ Drawn0 w w')
 case atStart => exact ⟨(wrap64 (1970 + (wrap64 (Int.tdiv (wrap64 (Int.tdiv a0 86400)) 366)))), a5_, H', ⟨Nat.le_refl _⟩, by repeat (first | exact Drawn0.refl _ | apply Drawn0.step)⟩
 case round =>
  clear H'
  obtain ⟨x3_1, rfl, HA, HK1, ⟨m1, rfl⟩⟩ := hrel
  cases gk with
  | zero => exact absurd HA.out (by simp [spec_YearOf.l0])
  | succ k1 =>
   have H := HA.out
   clear HA
   simp only [spec_YearOf.l0] at H
   replace H := Option.bind_eq_some_iff.mp H
   obtain ⟨t244, A20, H⟩ := H
   replace H : (if t244 ≤ a0 then (spec_YearOf.l0 k1 a0 (wrap64 (x3_1 + 1))) else (some x3_1)) = some r := H
   have A2 := Aside0.mk A20
   clear A20
   by_cases c3 : t244 ≤ a0
   ·rw [if_pos c3] at H
    have c3b0 := decide_eq_true c3
    clear c3
    have H' := Aside0.mk H
    clear H
    go_wp2_with (first | ((with_reducible refine gate_callee (f := 31) rfl ?_); refine goesL_ (some 10) rfl rfl Tryd.func31 (by kernel_rfl) rfl #[.int .i64 (wrap64 (x3_1 + 1))] rfl a1_ ?_; (with_reducible refine (spec_YearStart.calls (wrap64 (x3_1 + 1)) t244 _ A2.out).mono ?_); rintro e w' ⟨rfl, ⟨nd, rfl⟩⟩; refine ⟨_, rfl, ?_⟩))
    go_roundg k1
    case measure => have := HK1.out; omega
    case rel => exact ⟨(wrap64 (x3_1 + 1)), a5_, H', ⟨by have := HK1.out; omega⟩, by repeat (first | exact Drawn0.refl _ | apply Drawn0.step)⟩
   ·rw [if_neg c3] at H
    have c3b0 := decide_eq_false c3
    clear c3
    obtain rfl := Option.some.inj H
    go_wp2_with (first | ((with_reducible refine gate_callee (f := 31) rfl ?_); refine goesL_ (some 10) rfl rfl Tryd.func31 (by kernel_rfl) rfl #[.int .i64 (wrap64 (x3_1 + 1))] rfl a1_ ?_; (with_reducible refine (spec_YearStart.calls (wrap64 (x3_1 + 1)) t244 _ A2.out).mono ?_); rintro e w' ⟨rfl, ⟨nd, rfl⟩⟩; refine ⟨_, rfl, ?_⟩))
    go_ret
    exact ⟨by first | rfl | (simp; done) | (simp [*]; done), by repeat (first | exact Drawn0.refl _ | apply Drawn0.step)⟩
def spec_Leap.f (a0 : Int) : Option (Bool) := if (Int.tmod a0 4) = 0 then (if (Int.tmod a0 100) = 0 then (some ((Int.tmod a0 400) == 0)) else (some true)) else (some ((Int.tmod a0 400) == 0))
set_option maxHeartbeats 8000000 in
set_option maxRecDepth 100000 in
theorem spec_Leap.calls (a0 : Int) (r : Bool) (w : World) (h : spec_Leap.f a0 = some r) :
  Calls Tryd.prog 48 #[.int .i64 a0] w fun e w' => e = .returned (.bool r) ∧ Drawn0 w w' := by
 have H : (if (Int.tmod a0 4) = 0 then (if (Int.tmod a0 100) = 0 then (some ((Int.tmod a0 400) == 0)) else (some true)) else (some ((Int.tmod a0 400) == 0))) = some r := h
 clear h
 by_cases c2 : (Int.tmod a0 4) = 0
 ·rw [if_pos c2] at H
  have c2b0 : ((Int.tmod a0 4) == 0) = true := beq_iff_eq.mpr c2
  have c2b1 : ((Int.tmod a0 4) != 0) = false := bne_eq_false_iff_eq.mpr c2
  clear c2
  by_cases c3 : (Int.tmod a0 100) = 0
  ·rw [if_pos c3] at H
   have c3b0 : ((Int.tmod a0 100) == 0) = true := beq_iff_eq.mpr c3
   have c3b1 : ((Int.tmod a0 100) != 0) = false := bne_eq_false_iff_eq.mpr c3
   clear c3
   obtain rfl := Option.some.inj H
   go_enter Tryd.func48, Tryd.ntmps48
   go_wp2
   go_ret
   exact ⟨by first | rfl | (simp; done) | (simp [*]; done), by repeat (first | exact Drawn0.refl _ | apply Drawn0.step)⟩
  ·rw [if_neg c3] at H
   have c3b0 : ((Int.tmod a0 100) == 0) = false := beq_eq_false_iff_ne.mpr c3
   have c3b1 : ((Int.tmod a0 100) != 0) = true := bne_iff_ne.mpr c3
   obtain rfl := Option.some.inj H
   go_enter Tryd.func48, Tryd.ntmps48
   go_wp2
   go_ret
   exact ⟨by first | rfl | (simp; done) | (simp [*]; done), by repeat (first | exact Drawn0.refl _ | apply Drawn0.step)⟩
 ·rw [if_neg c2] at H
  have c2b0 : ((Int.tmod a0 4) == 0) = false := beq_eq_false_iff_ne.mpr c2
  have c2b1 : ((Int.tmod a0 4) != 0) = true := bne_iff_ne.mpr c2
  obtain rfl := Option.some.inj H
  go_enter Tryd.func48, Tryd.ntmps48
  go_wp2
  go_ret
  exact ⟨by first | rfl | (simp; done) | (simp [*]; done), by repeat (first | exact Drawn0.refl _ | apply Drawn0.step)⟩
def spec_Days.f (a0 : Int) (a1 : Int) : Option (Int) := if a1 = 2 then ((spec_Leap.f a0).bind fun t245 => (if t245 = true then (some 29) else (some 28))) else (if a1 = 4 then (some 30) else (if a1 = 6 then (some 30) else (if a1 = 9 then (some 30) else (if a1 = 11 then (some 30) else (some 31)))))
set_option maxHeartbeats 8000000 in
set_option maxRecDepth 100000 in
theorem spec_Days.calls (a0 : Int) (a1 : Int) (r : Int) (w : World) (h : spec_Days.f a0 a1 = some r) :
  Calls Tryd.prog 50 #[.int .i64 a0, .int .i64 a1] w fun e w' => e = .returned (.int .i64 r) ∧ Drawn0 w w' := by
 have H : (if a1 = 2 then ((spec_Leap.f a0).bind fun t245 => (if t245 = true then (some 29) else (some 28))) else (if a1 = 4 then (some 30) else (if a1 = 6 then (some 30) else (if a1 = 9 then (some 30) else (if a1 = 11 then (some 30) else (some 31)))))) = some r := h
 clear h
 by_cases c3 : a1 = 2
 ·rw [if_pos c3] at H
  have c3b0 : (a1 == 2) = true := beq_iff_eq.mpr c3
  have c3b1 : (a1 != 2) = false := bne_eq_false_iff_eq.mpr c3
  clear c3
  replace H := Option.bind_eq_some_iff.mp H
  obtain ⟨t245, A40, H⟩ := H
  replace H : (if t245 = true then (some 29) else (some 28)) = some r := H
  have A4 := Aside0.mk A40
  clear A40
  by_cases c5 : t245 = true
  ·subst c5
   have H1 : (some 29) = some r := by rw [if_pos rfl] at H; exact H
   clear H
   have H := H1
   clear H1
   obtain rfl := Option.some.inj H
   go_enter Tryd.func50, Tryd.ntmps50
   go_wp2_with (first | ((with_reducible refine gate_callee (f := 48) rfl ?_); refine goesL_ (some 9) rfl rfl Tryd.func48 (by kernel_rfl) rfl #[.int .i64 a0] rfl a1_ ?_; (with_reducible refine (spec_Leap.calls a0 true _ A4.out).mono ?_); rintro e w' ⟨rfl, ⟨nd, rfl⟩⟩; refine ⟨_, rfl, ?_⟩))
   go_ret
   exact ⟨by first | rfl | (simp; done) | (simp [*]; done), by repeat (first | exact Drawn0.refl _ | apply Drawn0.step)⟩
  ·replace c5 := Bool.eq_false_iff.mpr c5
   subst c5
   have H1 : (some 28) = some r := by rw [if_neg (show ¬ (false = true) by decide)] at H; exact H
   clear H
   have H := H1
   clear H1
   obtain rfl := Option.some.inj H
   go_enter Tryd.func50, Tryd.ntmps50
   go_wp2_with (first | ((with_reducible refine gate_callee (f := 48) rfl ?_); refine goesL_ (some 9) rfl rfl Tryd.func48 (by kernel_rfl) rfl #[.int .i64 a0] rfl a1_ ?_; (with_reducible refine (spec_Leap.calls a0 false _ A4.out).mono ?_); rintro e w' ⟨rfl, ⟨nd, rfl⟩⟩; refine ⟨_, rfl, ?_⟩))
   go_ret
   exact ⟨by first | rfl | (simp; done) | (simp [*]; done), by repeat (first | exact Drawn0.refl _ | apply Drawn0.step)⟩
 ·rw [if_neg c3] at H
  have c3b0 : (a1 == 2) = false := beq_eq_false_iff_ne.mpr c3
  have c3b1 : (a1 != 2) = true := bne_iff_ne.mpr c3
  by_cases c6 : a1 = 4
  ·rw [if_pos c6] at H
   have c6b0 : (a1 == 4) = true := beq_iff_eq.mpr c6
   have c6b1 : (a1 != 4) = false := bne_eq_false_iff_eq.mpr c6
   clear c6
   obtain rfl := Option.some.inj H
   go_enter Tryd.func50, Tryd.ntmps50
   go_wp2
   go_ret
   exact ⟨by first | rfl | (simp; done) | (simp [*]; done), by repeat (first | exact Drawn0.refl _ | apply Drawn0.step)⟩
  ·rw [if_neg c6] at H
   have c6b0 : (a1 == 4) = false := beq_eq_false_iff_ne.mpr c6
   have c6b1 : (a1 != 4) = true := bne_iff_ne.mpr c6
   by_cases c7 : a1 = 6
   ·rw [if_pos c7] at H
    have c7b0 : (a1 == 6) = true := beq_iff_eq.mpr c7
    have c7b1 : (a1 != 6) = false := bne_eq_false_iff_eq.mpr c7
    clear c7
    obtain rfl := Option.some.inj H
    go_enter Tryd.func50, Tryd.ntmps50
    go_wp2
    go_ret
    exact ⟨by first | rfl | (simp; done) | (simp [*]; done), by repeat (first | exact Drawn0.refl _ | apply Drawn0.step)⟩
   ·rw [if_neg c7] at H
    have c7b0 : (a1 == 6) = false := beq_eq_false_iff_ne.mpr c7
    have c7b1 : (a1 != 6) = true := bne_iff_ne.mpr c7
    by_cases c8 : a1 = 9
    ·rw [if_pos c8] at H
     have c8b0 : (a1 == 9) = true := beq_iff_eq.mpr c8
     have c8b1 : (a1 != 9) = false := bne_eq_false_iff_eq.mpr c8
     clear c8
     obtain rfl := Option.some.inj H
     go_enter Tryd.func50, Tryd.ntmps50
     go_wp2
     go_ret
     exact ⟨by first | rfl | (simp; done) | (simp [*]; done), by repeat (first | exact Drawn0.refl _ | apply Drawn0.step)⟩
    ·rw [if_neg c8] at H
     have c8b0 : (a1 == 9) = false := beq_eq_false_iff_ne.mpr c8
     have c8b1 : (a1 != 9) = true := bne_iff_ne.mpr c8
     by_cases c9 : a1 = 11
     ·rw [if_pos c9] at H
      have c9b0 : (a1 == 11) = true := beq_iff_eq.mpr c9
      have c9b1 : (a1 != 11) = false := bne_eq_false_iff_eq.mpr c9
      clear c9
      obtain rfl := Option.some.inj H
      go_enter Tryd.func50, Tryd.ntmps50
      go_wp2
      go_ret
      exact ⟨by first | rfl | (simp; done) | (simp [*]; done), by repeat (first | exact Drawn0.refl _ | apply Drawn0.step)⟩
     ·rw [if_neg c9] at H
      have c9b0 : (a1 == 11) = false := beq_eq_false_iff_ne.mpr c9
      have c9b1 : (a1 != 11) = true := bne_iff_ne.mpr c9
      obtain rfl := Option.some.inj H
      go_enter Tryd.func50, Tryd.ntmps50
      go_wp2
      go_ret
      exact ⟨by first | rfl | (simp; done) | (simp [*]; done), by repeat (first | exact Drawn0.refl _ | apply Drawn0.step)⟩
def spec_Weekday.l0 : Nat → Int → Int → Int → Int → Option (Int)
 | 0, _, _, _, _ => none
 | k + 1, x0, x1, x5, x6 => if x6 < x1 then ((spec_Days.f x0 x6).bind fun t247 => (spec_Weekday.l0 k x0 x1 (wrap64 (x5 + t247)) (wrap64 (x6 + 1)))) else (some (Int.tmod x5 7))
def spec_Weekday.f (k : Nat) (a0 : Int) (a1 : Int) : Option (Int) := (spec_Ahead.f a0).bind fun t246 => (spec_Weekday.l0 k a0 a1 (wrap64 (t246 + 1)) 1)
set_option maxHeartbeats 8000000 in
set_option maxRecDepth 100000 in
theorem spec_Weekday.calls (k : Nat) (a0 : Int) (a1 : Int) (r : Int) (w : World) (h : spec_Weekday.f k a0 a1 = some r) :
  Calls Tryd.prog 49 #[.int .i64 a0, .int .i64 a1] w fun e w' => e = .returned (.int .i64 r) ∧ Drawn0 w w' := by
 have H : ((spec_Ahead.f a0).bind fun t246 => (spec_Weekday.l0 k a0 a1 (wrap64 (t246 + 1)) 1)) = some r := h
 clear h
 replace H := Option.bind_eq_some_iff.mp H
 obtain ⟨t246, A30, H⟩ := H
 replace H : (spec_Weekday.l0 k a0 a1 (wrap64 (t246 + 1)) 1) = some r := H
 have A3 := Aside0.mk A30
 clear A30
 have H' := Aside0.mk H
 clear H
 go_enter Tryd.func49, Tryd.ntmps49
 go_wp2_with (first | ((with_reducible refine gate_callee (f := 47) rfl ?_); refine goesL_ (some 8) rfl rfl Tryd.func47 (by kernel_rfl) rfl #[.int .i64 a0] rfl a1_ ?_; (with_reducible refine (spec_Ahead.calls a0 t246 _ A3.out).mono ?_); rintro e w' ⟨rfl, ⟨nd, rfl⟩⟩; refine ⟨_, rfl, ?_⟩))
 go_loopg [5, 6] k (fun kq v5 v6 w' => ∃ (x5_1 : Int) (x6_1 : Int), v5 = .int .i64 x5_1 ∧ v6 = .int .i64 x6_1 ∧ Aside0 (spec_Weekday.l0 kq a0 a1 x5_1 x6_1 = some r) ∧ Aside0 (kq ≤ k) ∧ Drawn0 w w')
 case atStart => exact ⟨(wrap64 (t246 + 1)), (1), a5_, a5_, H', ⟨Nat.le_refl _⟩, by repeat (first | exact Drawn0.refl _ | apply Drawn0.step)⟩
 case round =>
  clear H'
  try clear p2
  obtain ⟨x5_1, x6_1, rfl, rfl, HA, HK1, ⟨m1, rfl⟩⟩ := hrel
  cases gk with
  | zero => exact absurd HA.out (by simp [spec_Weekday.l0])
  | succ k1 =>
   have H := HA.out
   clear HA
   simp only [spec_Weekday.l0] at H
   by_cases c4 : x6_1 < a1
   ·rw [if_pos c4] at H
    have c4b0 := decide_eq_true c4
    clear c4
    replace H := Option.bind_eq_some_iff.mp H
    obtain ⟨t247, A50, H⟩ := H
    replace H : (spec_Weekday.l0 k1 a0 a1 (wrap64 (x5_1 + t247)) (wrap64 (x6_1 + 1))) = some r := H
    have A5 := Aside0.mk A50
    clear A50
    have H' := Aside0.mk H
    clear H
    go_wp2_with (first | ((with_reducible refine gate_callee (f := 50) rfl ?_); refine goesL_ (some 18) rfl rfl Tryd.func50 (by kernel_rfl) rfl #[.int .i64 a0, .int .i64 x6_1] rfl a1_ ?_; (with_reducible refine (spec_Days.calls a0 x6_1 t247 _ A5.out).mono ?_); rintro e w' ⟨rfl, ⟨nd, rfl⟩⟩; refine ⟨_, rfl, ?_⟩))
    go_roundg k1
    case measure => have := HK1.out; omega
    case rel => exact ⟨(wrap64 (x5_1 + t247)), (wrap64 (x6_1 + 1)), a5_, a5_, H', ⟨by have := HK1.out; omega⟩, by repeat (first | exact Drawn0.refl _ | apply Drawn0.step)⟩
   ·rw [if_neg c4] at H
    have c4b0 := decide_eq_false c4
    clear c4
    obtain rfl := Option.some.inj H
    go_wp2
    go_ret
    exact ⟨by first | rfl | (simp; done) | (simp [*]; done), by repeat (first | exact Drawn0.refl _ | apply Drawn0.step)⟩
mutual
def spec_RuleTime.l0 : Nat → Int → Int → Int → Int → Int → Int → Int → Int → Option (Int)
 | 0, _, _, _, _, _, _, _, _ => none
 | k + 1, x0, x2, x7, x249000, x249001, x249002, x249003, x249004 => (spec_Days.f x0 x249003).bind fun t251 => (if x7 ≥ t251 then (spec_RuleTime.l0 k x0 x2 (wrap64 (x7 - 7)) x249000 x249001 x249002 x249003 x249004) else (spec_RuleTime.l1 k x0 x2 x7 1 x249000 x249001 x249002 x249003 x249004))
def spec_RuleTime.l1 : Nat → Int → Int → Int → Int → Int → Int → Int → Int → Int → Option (Int)
 | 0, _, _, _, _, _, _, _, _, _ => none
 | k + 1, x0, x2, x7, x9, x249000, x249001, x249002, x249003, x249004 => if x9 < x249003 then ((spec_Days.f x0 x9).bind fun t252 => (spec_RuleTime.l1 k x0 x2 (wrap64 (x7 + t252)) (wrap64 (x9 + 1)) x249000 x249001 x249002 x249003 x249004)) else (some (wrap64 ((wrap64 ((wrap64 (x7 * 86400)) + x249004)) - x2)))
end
def spec_RuleTime.f (k : Nat) (a0 : Int) (a1_0 : Int) (a1_1 : Int) (a1_2 : Int) (a1_3 : Int) (a1_4 : Int) (a2 : Int) : Option (Int) := if a1_0 = 0 then ((spec_Leap.f a0).bind fun t249 => (if t249 = true then (if a1_1 > 59 then (some (wrap64 ((wrap64 ((wrap64 ((wrap64 ((wrap64 (a1_1 - 1)) + 1)) * 86400)) + a1_4)) - a2))) else (some (wrap64 ((wrap64 ((wrap64 ((wrap64 (a1_1 - 1)) * 86400)) + a1_4)) - a2)))) else (some (wrap64 ((wrap64 ((wrap64 ((wrap64 (a1_1 - 1)) * 86400)) + a1_4)) - a2))))) else (if a1_0 = 2 then ((spec_Weekday.f k a0 a1_3).bind fun t250 => (spec_RuleTime.l0 k a0 a2 (wrap64 ((Int.tmod (wrap64 ((wrap64 (a1_1 - t250)) + 7)) 7) + (wrap64 (7 * (wrap64 (a1_2 - 1)))))) a1_0 a1_1 a1_2 a1_3 a1_4)) else (some (wrap64 ((wrap64 ((wrap64 (a1_1 * 86400)) + a1_4)) - a2))))
set_option maxHeartbeats 8000000 in
set_option maxRecDepth 100000 in
theorem spec_RuleTime.calls (k : Nat) (a0 : Int) (a1_0 : Int) (a1_1 : Int) (a1_2 : Int) (a1_3 : Int) (a1_4 : Int) (a2 : Int) (r : Int) (w : World) (h : spec_RuleTime.f k a0 a1_0 a1_1 a1_2 a1_3 a1_4 a2 = some r) :
  Calls Tryd.prog 32 #[.int .i64 a0, .agg #[.int .i64 a1_0, .int .i64 a1_1, .int .i64 a1_2, .int .i64 a1_3, .int .i64 a1_4], .int .i64 a2] w fun e w' => e = .returned (.int .i64 r) ∧ Below w.heap.size w w' := by
 have hu29 := Tryd.underlying29
 have HB := Aside0.mk (Below.refl w.heap.size w)
 have H : (if a1_0 = 0 then ((spec_Leap.f a0).bind fun t249 => (if t249 = true then (if a1_1 > 59 then (some (wrap64 ((wrap64 ((wrap64 ((wrap64 ((wrap64 (a1_1 - 1)) + 1)) * 86400)) + a1_4)) - a2))) else (some (wrap64 ((wrap64 ((wrap64 ((wrap64 (a1_1 - 1)) * 86400)) + a1_4)) - a2)))) else (some (wrap64 ((wrap64 ((wrap64 ((wrap64 (a1_1 - 1)) * 86400)) + a1_4)) - a2))))) else (if a1_0 = 2 then ((spec_Weekday.f k a0 a1_3).bind fun t250 => (spec_RuleTime.l0 k a0 a2 (wrap64 ((Int.tmod (wrap64 ((wrap64 (a1_1 - t250)) + 7)) 7) + (wrap64 (7 * (wrap64 (a1_2 - 1)))))) a1_0 a1_1 a1_2 a1_3 a1_4)) else (some (wrap64 ((wrap64 ((wrap64 (a1_1 * 86400)) + a1_4)) - a2))))) = some r := h
 clear h
 by_cases c4 : a1_0 = 0
 ·rw [if_pos c4] at H
  have c4b0 : (a1_0 == 0) = true := beq_iff_eq.mpr c4
  have c4b1 : (a1_0 != 0) = false := bne_eq_false_iff_eq.mpr c4
  clear c4
  replace H := Option.bind_eq_some_iff.mp H
  obtain ⟨t249, A50, H⟩ := H
  replace H : (if t249 = true then (if a1_1 > 59 then (some (wrap64 ((wrap64 ((wrap64 ((wrap64 ((wrap64 (a1_1 - 1)) + 1)) * 86400)) + a1_4)) - a2))) else (some (wrap64 ((wrap64 ((wrap64 ((wrap64 (a1_1 - 1)) * 86400)) + a1_4)) - a2)))) else (some (wrap64 ((wrap64 ((wrap64 ((wrap64 (a1_1 - 1)) * 86400)) + a1_4)) - a2)))) = some r := H
  have A5 := Aside0.mk A50
  clear A50
  by_cases c6 : t249 = true
  ·subst c6
   have H1 : (if a1_1 > 59 then (some (wrap64 ((wrap64 ((wrap64 ((wrap64 ((wrap64 (a1_1 - 1)) + 1)) * 86400)) + a1_4)) - a2))) else (some (wrap64 ((wrap64 ((wrap64 ((wrap64 (a1_1 - 1)) * 86400)) + a1_4)) - a2)))) = some r := by rw [if_pos rfl] at H; exact H
   clear H
   have H := H1
   clear H1
   by_cases c7 : a1_1 > 59
   ·rw [if_pos c7] at H
    have c7b0 : decide (59 < a1_1) = true := decide_eq_true c7
    clear c7
    obtain rfl := Option.some.inj H
    go_enter Tryd.func32, Tryd.ntmps32
    go_wp2_with (first | ((with_reducible refine gate_dst (N := 4) rfl ?_); refine box_event ?hg (N := 4) ?hd (cs := #[.int .i64 a1_0, .int .i64 a1_1, .int .i64 a1_2, .int .i64 a1_3, .int .i64 a1_4]) (t := 29) ?hr ?_; (case hd => rfl); (case hg => rfl); (case hr => first | (go_simp; done) | (go_simp; rfl)); intro gb248 hg w8 hbox hb; have n0_ := Aside0.mk (below_step a0_ hb); have n1_ := Aside0.mk (hbox); have n2_ := Aside0.mk ((by rw [hg]; exact (below_size a0_) : w.heap.size ≤ gb248)); have n3_ := Aside0.mk ((by rw [hg]; exact (below_size a0_) : w.heap.size ≤ gb248)); clear HB; have HB := n0_; have BK248 := n1_; have GW248 := n2_; have GE248 := n3_; clear n0_ n1_ n2_ n3_; clear hb hbox hg; obtain ⟨hcz9_0, hcz9_1, hcz9_2, hcz9_3, hcz9_4, hfz9_0, hfz9_1, hfz9_2, hfz9_3, hfz9_4⟩ := c5f_ BK248.out) | (go_at_call 48; (with_reducible refine (spec_Leap.calls a0 true _ A5.out).mono ?_); rintro e w' ⟨rfl, ⟨nd, rfl⟩⟩; (try first | exact ⟨rfl, _, World.drewN_drewN _ _ _⟩ | exact ⟨rfl, _, Eq.trans (World.drewN_drewN _ _ _) (congrArg (World.drewN _) (Nat.add_assoc _ _ _))⟩)))
    repeat (go_quiet (first | ((with_reducible refine gate_dst (N := 4) rfl ?_); refine box_event ?hg (N := 4) ?hd (cs := #[.int .i64 a1_0, .int .i64 a1_1, .int .i64 a1_2, .int .i64 a1_3, .int .i64 a1_4]) (t := 29) ?hr ?_; (case hd => rfl); (case hg => rfl); (case hr => first | (go_simp; done) | (go_simp; rfl)); intro gb248 hg w8 hbox hb; have n0_ := Aside0.mk (below_step a0_ hb); have n1_ := Aside0.mk (hbox); have n2_ := Aside0.mk ((by rw [hg]; exact (below_size a0_) : w.heap.size ≤ gb248)); have n3_ := Aside0.mk ((by rw [hg]; exact (below_size a0_) : w.heap.size ≤ gb248)); clear HB; have HB := n0_; have BK248 := n1_; have GW248 := n2_; have GE248 := n3_; clear n0_ n1_ n2_ n3_; clear hb hbox hg; obtain ⟨hcz9_0, hcz9_1, hcz9_2, hcz9_3, hcz9_4, hfz9_0, hfz9_1, hfz9_2, hfz9_3, hfz9_4⟩ := c5f_ BK248.out) | (go_at_call 48; (with_reducible refine (spec_Leap.calls a0 true _ A5.out).mono ?_); rintro e w' ⟨rfl, ⟨nd, rfl⟩⟩; (try first | exact ⟨rfl, _, World.drewN_drewN _ _ _⟩ | exact ⟨rfl, _, Eq.trans (World.drewN_drewN _ _ _) (congrArg (World.drewN _) (Nat.add_assoc _ _ _))⟩))); try go_wp2_with (first | ((with_reducible refine gate_dst (N := 4) rfl ?_); refine box_event ?hg (N := 4) ?hd (cs := #[.int .i64 a1_0, .int .i64 a1_1, .int .i64 a1_2, .int .i64 a1_3, .int .i64 a1_4]) (t := 29) ?hr ?_; (case hd => rfl); (case hg => rfl); (case hr => first | (go_simp; done) | (go_simp; rfl)); intro gb248 hg w8 hbox hb; have n0_ := Aside0.mk (below_step a0_ hb); have n1_ := Aside0.mk (hbox); have n2_ := Aside0.mk ((by rw [hg]; exact (below_size a0_) : w.heap.size ≤ gb248)); have n3_ := Aside0.mk ((by rw [hg]; exact (below_size a0_) : w.heap.size ≤ gb248)); clear HB; have HB := n0_; have BK248 := n1_; have GW248 := n2_; have GE248 := n3_; clear n0_ n1_ n2_ n3_; clear hb hbox hg; obtain ⟨hcz9_0, hcz9_1, hcz9_2, hcz9_3, hcz9_4, hfz9_0, hfz9_1, hfz9_2, hfz9_3, hfz9_4⟩ := c5f_ BK248.out) | (go_at_call 48; (with_reducible refine (spec_Leap.calls a0 true _ A5.out).mono ?_); rintro e w' ⟨rfl, ⟨nd, rfl⟩⟩; (try first | exact ⟨rfl, _, World.drewN_drewN _ _ _⟩ | exact ⟨rfl, _, Eq.trans (World.drewN_drewN _ _ _) (congrArg (World.drewN _) (Nat.add_assoc _ _ _))⟩))))
    go_ret
    exact ⟨by first | rfl | (simp [errW_none, errW_some] <;> rfl) | (simp [*, errW_none, errW_some] <;> rfl), by repeat (first | (with_reducible first | exact HB.out | apply below_alloc | apply pw_below_drewN | apply below_drew1 | refine below_set ?_ GE248.out) | exact HB.out)⟩
   ·rw [if_neg c7] at H
    have c7b0 : decide (59 < a1_1) = false := decide_eq_false c7
    clear c7
    obtain rfl := Option.some.inj H
    go_enter Tryd.func32, Tryd.ntmps32
    go_wp2_with (first | ((with_reducible refine gate_dst (N := 4) rfl ?_); refine box_event ?hg (N := 4) ?hd (cs := #[.int .i64 a1_0, .int .i64 a1_1, .int .i64 a1_2, .int .i64 a1_3, .int .i64 a1_4]) (t := 29) ?hr ?_; (case hd => rfl); (case hg => rfl); (case hr => first | (go_simp; done) | (go_simp; rfl)); intro gb248 hg w10 hbox hb; have n0_ := Aside0.mk (below_step a0_ hb); have n1_ := Aside0.mk (hbox); have n2_ := Aside0.mk ((by rw [hg]; exact (below_size a0_) : w.heap.size ≤ gb248)); have n3_ := Aside0.mk ((by rw [hg]; exact (below_size a0_) : w.heap.size ≤ gb248)); clear HB; have HB := n0_; have BK248 := n1_; have GW248 := n2_; have GE248 := n3_; clear n0_ n1_ n2_ n3_; clear hb hbox hg; obtain ⟨hcz11_0, hcz11_1, hcz11_2, hcz11_3, hcz11_4, hfz11_0, hfz11_1, hfz11_2, hfz11_3, hfz11_4⟩ := c5f_ BK248.out) | (go_at_call 48; (with_reducible refine (spec_Leap.calls a0 true _ A5.out).mono ?_); rintro e w' ⟨rfl, ⟨nd, rfl⟩⟩; (try first | exact ⟨rfl, _, World.drewN_drewN _ _ _⟩ | exact ⟨rfl, _, Eq.trans (World.drewN_drewN _ _ _) (congrArg (World.drewN _) (Nat.add_assoc _ _ _))⟩)))
    repeat (go_quiet (first | ((with_reducible refine gate_dst (N := 4) rfl ?_); refine box_event ?hg (N := 4) ?hd (cs := #[.int .i64 a1_0, .int .i64 a1_1, .int .i64 a1_2, .int .i64 a1_3, .int .i64 a1_4]) (t := 29) ?hr ?_; (case hd => rfl); (case hg => rfl); (case hr => first | (go_simp; done) | (go_simp; rfl)); intro gb248 hg w10 hbox hb; have n0_ := Aside0.mk (below_step a0_ hb); have n1_ := Aside0.mk (hbox); have n2_ := Aside0.mk ((by rw [hg]; exact (below_size a0_) : w.heap.size ≤ gb248)); have n3_ := Aside0.mk ((by rw [hg]; exact (below_size a0_) : w.heap.size ≤ gb248)); clear HB; have HB := n0_; have BK248 := n1_; have GW248 := n2_; have GE248 := n3_; clear n0_ n1_ n2_ n3_; clear hb hbox hg; obtain ⟨hcz11_0, hcz11_1, hcz11_2, hcz11_3, hcz11_4, hfz11_0, hfz11_1, hfz11_2, hfz11_3, hfz11_4⟩ := c5f_ BK248.out) | (go_at_call 48; (with_reducible refine (spec_Leap.calls a0 true _ A5.out).mono ?_); rintro e w' ⟨rfl, ⟨nd, rfl⟩⟩; (try first | exact ⟨rfl, _, World.drewN_drewN _ _ _⟩ | exact ⟨rfl, _, Eq.trans (World.drewN_drewN _ _ _) (congrArg (World.drewN _) (Nat.add_assoc _ _ _))⟩))); try go_wp2_with (first | ((with_reducible refine gate_dst (N := 4) rfl ?_); refine box_event ?hg (N := 4) ?hd (cs := #[.int .i64 a1_0, .int .i64 a1_1, .int .i64 a1_2, .int .i64 a1_3, .int .i64 a1_4]) (t := 29) ?hr ?_; (case hd => rfl); (case hg => rfl); (case hr => first | (go_simp; done) | (go_simp; rfl)); intro gb248 hg w10 hbox hb; have n0_ := Aside0.mk (below_step a0_ hb); have n1_ := Aside0.mk (hbox); have n2_ := Aside0.mk ((by rw [hg]; exact (below_size a0_) : w.heap.size ≤ gb248)); have n3_ := Aside0.mk ((by rw [hg]; exact (below_size a0_) : w.heap.size ≤ gb248)); clear HB; have HB := n0_; have BK248 := n1_; have GW248 := n2_; have GE248 := n3_; clear n0_ n1_ n2_ n3_; clear hb hbox hg; obtain ⟨hcz11_0, hcz11_1, hcz11_2, hcz11_3, hcz11_4, hfz11_0, hfz11_1, hfz11_2, hfz11_3, hfz11_4⟩ := c5f_ BK248.out) | (go_at_call 48; (with_reducible refine (spec_Leap.calls a0 true _ A5.out).mono ?_); rintro e w' ⟨rfl, ⟨nd, rfl⟩⟩; (try first | exact ⟨rfl, _, World.drewN_drewN _ _ _⟩ | exact ⟨rfl, _, Eq.trans (World.drewN_drewN _ _ _) (congrArg (World.drewN _) (Nat.add_assoc _ _ _))⟩))))
    go_ret
    exact ⟨by first | rfl | (simp [errW_none, errW_some] <;> rfl) | (simp [*, errW_none, errW_some] <;> rfl), by repeat (first | (with_reducible first | exact HB.out | apply below_alloc | apply pw_below_drewN | apply below_drew1 | refine below_set ?_ GE248.out) | exact HB.out)⟩
  ·replace c6 := Bool.eq_false_iff.mpr c6
   subst c6
   have H1 : (some (wrap64 ((wrap64 ((wrap64 ((wrap64 (a1_1 - 1)) * 86400)) + a1_4)) - a2))) = some r := by rw [if_neg (show ¬ (false = true) by decide)] at H; exact H
   clear H
   have H := H1
   clear H1
   obtain rfl := Option.some.inj H
   go_enter Tryd.func32, Tryd.ntmps32
   go_wp2_with (first | ((with_reducible refine gate_dst (N := 4) rfl ?_); refine box_event ?hg (N := 4) ?hd (cs := #[.int .i64 a1_0, .int .i64 a1_1, .int .i64 a1_2, .int .i64 a1_3, .int .i64 a1_4]) (t := 29) ?hr ?_; (case hd => rfl); (case hg => rfl); (case hr => first | (go_simp; done) | (go_simp; rfl)); intro gb248 hg w12 hbox hb; have n0_ := Aside0.mk (below_step a0_ hb); have n1_ := Aside0.mk (hbox); have n2_ := Aside0.mk ((by rw [hg]; exact (below_size a0_) : w.heap.size ≤ gb248)); have n3_ := Aside0.mk ((by rw [hg]; exact (below_size a0_) : w.heap.size ≤ gb248)); clear HB; have HB := n0_; have BK248 := n1_; have GW248 := n2_; have GE248 := n3_; clear n0_ n1_ n2_ n3_; clear hb hbox hg; obtain ⟨hcz13_0, hcz13_1, hcz13_2, hcz13_3, hcz13_4, hfz13_0, hfz13_1, hfz13_2, hfz13_3, hfz13_4⟩ := c5f_ BK248.out) | (go_at_call 48; (with_reducible refine (spec_Leap.calls a0 false _ A5.out).mono ?_); rintro e w' ⟨rfl, ⟨nd, rfl⟩⟩; (try first | exact ⟨rfl, _, World.drewN_drewN _ _ _⟩ | exact ⟨rfl, _, Eq.trans (World.drewN_drewN _ _ _) (congrArg (World.drewN _) (Nat.add_assoc _ _ _))⟩)))
   repeat (go_quiet (first | ((with_reducible refine gate_dst (N := 4) rfl ?_); refine box_event ?hg (N := 4) ?hd (cs := #[.int .i64 a1_0, .int .i64 a1_1, .int .i64 a1_2, .int .i64 a1_3, .int .i64 a1_4]) (t := 29) ?hr ?_; (case hd => rfl); (case hg => rfl); (case hr => first | (go_simp; done) | (go_simp; rfl)); intro gb248 hg w12 hbox hb; have n0_ := Aside0.mk (below_step a0_ hb); have n1_ := Aside0.mk (hbox); have n2_ := Aside0.mk ((by rw [hg]; exact (below_size a0_) : w.heap.size ≤ gb248)); have n3_ := Aside0.mk ((by rw [hg]; exact (below_size a0_) : w.heap.size ≤ gb248)); clear HB; have HB := n0_; have BK248 := n1_; have GW248 := n2_; have GE248 := n3_; clear n0_ n1_ n2_ n3_; clear hb hbox hg; obtain ⟨hcz13_0, hcz13_1, hcz13_2, hcz13_3, hcz13_4, hfz13_0, hfz13_1, hfz13_2, hfz13_3, hfz13_4⟩ := c5f_ BK248.out) | (go_at_call 48; (with_reducible refine (spec_Leap.calls a0 false _ A5.out).mono ?_); rintro e w' ⟨rfl, ⟨nd, rfl⟩⟩; (try first | exact ⟨rfl, _, World.drewN_drewN _ _ _⟩ | exact ⟨rfl, _, Eq.trans (World.drewN_drewN _ _ _) (congrArg (World.drewN _) (Nat.add_assoc _ _ _))⟩))); try go_wp2_with (first | ((with_reducible refine gate_dst (N := 4) rfl ?_); refine box_event ?hg (N := 4) ?hd (cs := #[.int .i64 a1_0, .int .i64 a1_1, .int .i64 a1_2, .int .i64 a1_3, .int .i64 a1_4]) (t := 29) ?hr ?_; (case hd => rfl); (case hg => rfl); (case hr => first | (go_simp; done) | (go_simp; rfl)); intro gb248 hg w12 hbox hb; have n0_ := Aside0.mk (below_step a0_ hb); have n1_ := Aside0.mk (hbox); have n2_ := Aside0.mk ((by rw [hg]; exact (below_size a0_) : w.heap.size ≤ gb248)); have n3_ := Aside0.mk ((by rw [hg]; exact (below_size a0_) : w.heap.size ≤ gb248)); clear HB; have HB := n0_; have BK248 := n1_; have GW248 := n2_; have GE248 := n3_; clear n0_ n1_ n2_ n3_; clear hb hbox hg; obtain ⟨hcz13_0, hcz13_1, hcz13_2, hcz13_3, hcz13_4, hfz13_0, hfz13_1, hfz13_2, hfz13_3, hfz13_4⟩ := c5f_ BK248.out) | (go_at_call 48; (with_reducible refine (spec_Leap.calls a0 false _ A5.out).mono ?_); rintro e w' ⟨rfl, ⟨nd, rfl⟩⟩; (try first | exact ⟨rfl, _, World.drewN_drewN _ _ _⟩ | exact ⟨rfl, _, Eq.trans (World.drewN_drewN _ _ _) (congrArg (World.drewN _) (Nat.add_assoc _ _ _))⟩))))
   go_ret
   exact ⟨by first | rfl | (simp [errW_none, errW_some] <;> rfl) | (simp [*, errW_none, errW_some] <;> rfl), by repeat (first | (with_reducible first | exact HB.out | apply below_alloc | apply pw_below_drewN | apply below_drew1 | refine below_set ?_ GE248.out) | exact HB.out)⟩
 ·rw [if_neg c4] at H
  have c4b0 : (a1_0 == 0) = false := beq_eq_false_iff_ne.mpr c4
  have c4b1 : (a1_0 != 0) = true := bne_iff_ne.mpr c4
  by_cases c14 : a1_0 = 2
  ·rw [if_pos c14] at H
   have c14b0 : (a1_0 == 2) = true := beq_iff_eq.mpr c14
   have c14b1 : (a1_0 != 2) = false := bne_eq_false_iff_eq.mpr c14
   clear c14
   replace H := Option.bind_eq_some_iff.mp H
   obtain ⟨t250, A150, H⟩ := H
   replace H : (spec_RuleTime.l0 k a0 a2 (wrap64 ((Int.tmod (wrap64 ((wrap64 (a1_1 - t250)) + 7)) 7) + (wrap64 (7 * (wrap64 (a1_2 - 1)))))) a1_0 a1_1 a1_2 a1_3 a1_4) = some r := H
   have A15 := Aside0.mk A150
   clear A150
   have H' := Aside0.mk H
   clear H
   go_enter Tryd.func32, Tryd.ntmps32
   go_wp2_with (first | ((with_reducible refine gate_dst (N := 4) rfl ?_); refine box_event ?hg (N := 4) ?hd (cs := #[.int .i64 a1_0, .int .i64 a1_1, .int .i64 a1_2, .int .i64 a1_3, .int .i64 a1_4]) (t := 29) ?hr ?_; (case hd => rfl); (case hg => rfl); (case hr => first | (go_simp; done) | (go_simp; rfl)); intro gb248 hg w16 hbox hb; have n0_ := Aside0.mk (below_step a0_ hb); have n1_ := Aside0.mk (hbox); have n2_ := Aside0.mk ((by rw [hg]; exact (below_size a0_) : w.heap.size ≤ gb248)); have n3_ := Aside0.mk ((by rw [hg]; exact (below_size a0_) : w.heap.size ≤ gb248)); clear HB; have HB := n0_; have BK248 := n1_; have GW248 := n2_; have GE248 := n3_; clear n0_ n1_ n2_ n3_; clear hb hbox hg; obtain ⟨hcz17_0, hcz17_1, hcz17_2, hcz17_3, hcz17_4, hfz17_0, hfz17_1, hfz17_2, hfz17_3, hfz17_4⟩ := c5f_ BK248.out) | (go_at_call 49; (with_reducible refine (spec_Weekday.calls k a0 a1_3 t250 _ A15.out).mono ?_); rintro e w' ⟨rfl, ⟨nd, rfl⟩⟩; (try first | exact ⟨rfl, _, World.drewN_drewN _ _ _⟩ | exact ⟨rfl, _, Eq.trans (World.drewN_drewN _ _ _) (congrArg (World.drewN _) (Nat.add_assoc _ _ _))⟩)))
   repeat (go_quiet (first | ((with_reducible refine gate_dst (N := 4) rfl ?_); refine box_event ?hg (N := 4) ?hd (cs := #[.int .i64 a1_0, .int .i64 a1_1, .int .i64 a1_2, .int .i64 a1_3, .int .i64 a1_4]) (t := 29) ?hr ?_; (case hd => rfl); (case hg => rfl); (case hr => first | (go_simp; done) | (go_simp; rfl)); intro gb248 hg w16 hbox hb; have n0_ := Aside0.mk (below_step a0_ hb); have n1_ := Aside0.mk (hbox); have n2_ := Aside0.mk ((by rw [hg]; exact (below_size a0_) : w.heap.size ≤ gb248)); have n3_ := Aside0.mk ((by rw [hg]; exact (below_size a0_) : w.heap.size ≤ gb248)); clear HB; have HB := n0_; have BK248 := n1_; have GW248 := n2_; have GE248 := n3_; clear n0_ n1_ n2_ n3_; clear hb hbox hg; obtain ⟨hcz17_0, hcz17_1, hcz17_2, hcz17_3, hcz17_4, hfz17_0, hfz17_1, hfz17_2, hfz17_3, hfz17_4⟩ := c5f_ BK248.out) | (go_at_call 49; (with_reducible refine (spec_Weekday.calls k a0 a1_3 t250 _ A15.out).mono ?_); rintro e w' ⟨rfl, ⟨nd, rfl⟩⟩; (try first | exact ⟨rfl, _, World.drewN_drewN _ _ _⟩ | exact ⟨rfl, _, Eq.trans (World.drewN_drewN _ _ _) (congrArg (World.drewN _) (Nat.add_assoc _ _ _))⟩))); try go_wp2_with (first | ((with_reducible refine gate_dst (N := 4) rfl ?_); refine box_event ?hg (N := 4) ?hd (cs := #[.int .i64 a1_0, .int .i64 a1_1, .int .i64 a1_2, .int .i64 a1_3, .int .i64 a1_4]) (t := 29) ?hr ?_; (case hd => rfl); (case hg => rfl); (case hr => first | (go_simp; done) | (go_simp; rfl)); intro gb248 hg w16 hbox hb; have n0_ := Aside0.mk (below_step a0_ hb); have n1_ := Aside0.mk (hbox); have n2_ := Aside0.mk ((by rw [hg]; exact (below_size a0_) : w.heap.size ≤ gb248)); have n3_ := Aside0.mk ((by rw [hg]; exact (below_size a0_) : w.heap.size ≤ gb248)); clear HB; have HB := n0_; have BK248 := n1_; have GW248 := n2_; have GE248 := n3_; clear n0_ n1_ n2_ n3_; clear hb hbox hg; obtain ⟨hcz17_0, hcz17_1, hcz17_2, hcz17_3, hcz17_4, hfz17_0, hfz17_1, hfz17_2, hfz17_3, hfz17_4⟩ := c5f_ BK248.out) | (go_at_call 49; (with_reducible refine (spec_Weekday.calls k a0 a1_3 t250 _ A15.out).mono ?_); rintro e w' ⟨rfl, ⟨nd, rfl⟩⟩; (try first | exact ⟨rfl, _, World.drewN_drewN _ _ _⟩ | exact ⟨rfl, _, Eq.trans (World.drewN_drewN _ _ _) (congrArg (World.drewN _) (Nat.add_assoc _ _ _))⟩))))
   go_loopg [7] k (fun kq v7 w' => ∃ (x7_1 : Int), v7 = .int .i64 x7_1 ∧ Aside0 (spec_RuleTime.l0 kq a0 a2 x7_1 a1_0 a1_1 a1_2 a1_3 a1_4 = some r) ∧ Aside0 (kq ≤ k) ∧ Aside0 (w'.heap[gb248]? = some (.cells #[.int .i64 a1_0, .int .i64 a1_1, .int .i64 a1_2, .int .i64 a1_3, .int .i64 a1_4] 29 (0, 0))) ∧ Aside0 (Below w.heap.size w w'))
   case atStart => exact ⟨(wrap64 ((Int.tmod (wrap64 ((wrap64 (a1_1 - t250)) + 7)) 7) + (wrap64 (7 * (wrap64 (a1_2 - 1)))))), a5_, H', ⟨Nat.le_refl _⟩, ⟨by (with_reducible repeat (first | refine blk_drewN ?_ _ | refine blk_drew ?_ | refine blk_alloc ?_ _)); exact BK248.out⟩, ⟨by repeat (first | (with_reducible first | exact HB.out | apply below_alloc | apply pw_below_drewN | apply below_drew1 | refine below_set ?_ GE248.out) | exact HB.out)⟩⟩
   case round =>
    clear H'
    try clear c1
    try clear p2
    try clear c3
    try clear c4
    try clear c4b0
    try clear c4b1
    try clear c6
    try clear p6
    try clear c7
    try clear c7b0
    try clear c14
    try clear c14b0
    try clear c14b1
    try clear hcz11_0
    try clear hcz11_1
    try clear hcz11_2
    try clear hcz11_3
    try clear hcz11_4
    try clear hcz13_0
    try clear hcz13_1
    try clear hcz13_2
    try clear hcz13_3
    try clear hcz13_4
    try clear hcz17_0
    try clear hcz17_1
    try clear hcz17_2
    try clear hcz17_3
    try clear hcz17_4
    try clear hcz9_0
    try clear hcz9_1
    try clear hcz9_2
    try clear hcz9_3
    try clear hcz9_4
    try clear hfz11_0
    try clear hfz11_1
    try clear hfz11_2
    try clear hfz11_3
    try clear hfz11_4
    try clear hfz13_0
    try clear hfz13_1
    try clear hfz13_2
    try clear hfz13_3
    try clear hfz13_4
    try clear hfz17_0
    try clear hfz17_1
    try clear hfz17_2
    try clear hfz17_3
    try clear hfz17_4
    try clear hfz9_0
    try clear hfz9_1
    try clear hfz9_2
    try clear hfz9_3
    try clear hfz9_4
    obtain ⟨x7_1, rfl, HA, HK1, BK248, HB⟩ := hrel
    cases gk with
    | zero => exact absurd HA.out (by simp [spec_RuleTime.l0])
    | succ k1 =>
     have H := HA.out
     clear HA
     simp only [spec_RuleTime.l0] at H
     replace H := Option.bind_eq_some_iff.mp H
     obtain ⟨t251, A180, H⟩ := H
     replace H : (if x7_1 ≥ t251 then (spec_RuleTime.l0 k1 a0 a2 (wrap64 (x7_1 - 7)) a1_0 a1_1 a1_2 a1_3 a1_4) else (spec_RuleTime.l1 k1 a0 a2 x7_1 1 a1_0 a1_1 a1_2 a1_3 a1_4)) = some r := H
     have A18 := Aside0.mk A180
     clear A180
     by_cases c19 : x7_1 ≥ t251
     ·rw [if_pos c19] at H
      have c19b0 : decide (t251 ≤ x7_1) = true := decide_eq_true c19
      clear c19
      have H' := Aside0.mk H
      clear H
      obtain ⟨hcz20_0, hcz20_1, hcz20_2, hcz20_3, hcz20_4, hfz20_0, hfz20_1, hfz20_2, hfz20_3, hfz20_4⟩ := c5f_ BK248.out
      go_wp2_with (first | (go_at_call 50; (with_reducible refine (spec_Days.calls a0 a1_3 t251 _ A18.out).mono ?_); rintro e w' ⟨rfl, ⟨nd, rfl⟩⟩; (try first | exact ⟨rfl, _, World.drewN_drewN _ _ _⟩ | exact ⟨rfl, _, Eq.trans (World.drewN_drewN _ _ _) (congrArg (World.drewN _) (Nat.add_assoc _ _ _))⟩)))
      repeat (go_quiet (first | (go_at_call 50; (with_reducible refine (spec_Days.calls a0 a1_3 t251 _ A18.out).mono ?_); rintro e w' ⟨rfl, ⟨nd, rfl⟩⟩; (try first | exact ⟨rfl, _, World.drewN_drewN _ _ _⟩ | exact ⟨rfl, _, Eq.trans (World.drewN_drewN _ _ _) (congrArg (World.drewN _) (Nat.add_assoc _ _ _))⟩))); try go_wp2_with (first | (go_at_call 50; (with_reducible refine (spec_Days.calls a0 a1_3 t251 _ A18.out).mono ?_); rintro e w' ⟨rfl, ⟨nd, rfl⟩⟩; (try first | exact ⟨rfl, _, World.drewN_drewN _ _ _⟩ | exact ⟨rfl, _, Eq.trans (World.drewN_drewN _ _ _) (congrArg (World.drewN _) (Nat.add_assoc _ _ _))⟩))))
      go_roundg k1
      case measure => have := HK1.out; omega
      case rel => exact ⟨(wrap64 (x7_1 - 7)), a5_, H', ⟨by have := HK1.out; omega⟩, ⟨by (with_reducible repeat (first | refine blk_drewN ?_ _ | refine blk_drew ?_ | refine blk_alloc ?_ _)); exact BK248.out⟩, ⟨by repeat (first | (with_reducible first | exact HB.out | apply below_alloc | apply pw_below_drewN | apply below_drew1 | refine below_set ?_ GE248.out) | exact HB.out)⟩⟩
     ·rw [if_neg c19] at H
      have c19b0 : decide (t251 ≤ x7_1) = false := decide_eq_false c19
      clear c19
      have H' := Aside0.mk H
      clear H
      obtain ⟨hcz21_0, hcz21_1, hcz21_2, hcz21_3, hcz21_4, hfz21_0, hfz21_1, hfz21_2, hfz21_3, hfz21_4⟩ := c5f_ BK248.out
      go_wp2_with (first | (go_at_call 50; (with_reducible refine (spec_Days.calls a0 a1_3 t251 _ A18.out).mono ?_); rintro e w' ⟨rfl, ⟨nd, rfl⟩⟩; (try first | exact ⟨rfl, _, World.drewN_drewN _ _ _⟩ | exact ⟨rfl, _, Eq.trans (World.drewN_drewN _ _ _) (congrArg (World.drewN _) (Nat.add_assoc _ _ _))⟩)))
      repeat (go_quiet (first | (go_at_call 50; (with_reducible refine (spec_Days.calls a0 a1_3 t251 _ A18.out).mono ?_); rintro e w' ⟨rfl, ⟨nd, rfl⟩⟩; (try first | exact ⟨rfl, _, World.drewN_drewN _ _ _⟩ | exact ⟨rfl, _, Eq.trans (World.drewN_drewN _ _ _) (congrArg (World.drewN _) (Nat.add_assoc _ _ _))⟩))); try go_wp2_with (first | (go_at_call 50; (with_reducible refine (spec_Days.calls a0 a1_3 t251 _ A18.out).mono ?_); rintro e w' ⟨rfl, ⟨nd, rfl⟩⟩; (try first | exact ⟨rfl, _, World.drewN_drewN _ _ _⟩ | exact ⟨rfl, _, Eq.trans (World.drewN_drewN _ _ _) (congrArg (World.drewN _) (Nat.add_assoc _ _ _))⟩))))
      go_loopg [7, 9] k1 (fun kq v7 v9 w' => ∃ (x7_2 : Int) (x9_2 : Int), v7 = .int .i64 x7_2 ∧ v9 = .int .i64 x9_2 ∧ Aside0 (spec_RuleTime.l1 kq a0 a2 x7_2 x9_2 a1_0 a1_1 a1_2 a1_3 a1_4 = some r) ∧ Aside0 (kq ≤ k1) ∧ Aside0 (w'.heap[gb248]? = some (.cells #[.int .i64 a1_0, .int .i64 a1_1, .int .i64 a1_2, .int .i64 a1_3, .int .i64 a1_4] 29 (0, 0))) ∧ Aside0 (Below w.heap.size w w'))
      case atStart => exact ⟨(x7_1), (1), a5_, a5_, H', ⟨Nat.le_refl _⟩, ⟨by (with_reducible repeat (first | refine blk_drewN ?_ _ | refine blk_drew ?_ | refine blk_alloc ?_ _)); exact BK248.out⟩, ⟨by repeat (first | (with_reducible first | exact HB.out | apply below_alloc | apply pw_below_drewN | apply below_drew1 | refine below_set ?_ GE248.out) | exact HB.out)⟩⟩
      case round =>
       clear H'
       try clear c1
       try clear p2
       try clear c3
       try clear c4
       try clear c4b0
       try clear c4b1
       try clear c6
       try clear p6
       try clear c7
       try clear c7b0
       try clear c14
       try clear c14b0
       try clear c14b1
       try clear c19
       try clear c19b0
       try clear hcz11_0
       try clear hcz11_1
       try clear hcz11_2
       try clear hcz11_3
       try clear hcz11_4
       try clear hcz13_0
       try clear hcz13_1
       try clear hcz13_2
       try clear hcz13_3
       try clear hcz13_4
       try clear hcz17_0
       try clear hcz17_1
       try clear hcz17_2
       try clear hcz17_3
       try clear hcz17_4
       try clear hcz20_0
       try clear hcz20_1
       try clear hcz20_2
       try clear hcz20_3
       try clear hcz20_4
       try clear hcz21_0
       try clear hcz21_1
       try clear hcz21_2
       try clear hcz21_3
       try clear hcz21_4
       try clear hcz9_0
       try clear hcz9_1
       try clear hcz9_2
       try clear hcz9_3
       try clear hcz9_4
       try clear hfz11_0
       try clear hfz11_1
       try clear hfz11_2
       try clear hfz11_3
       try clear hfz11_4
       try clear hfz13_0
       try clear hfz13_1
       try clear hfz13_2
       try clear hfz13_3
       try clear hfz13_4
       try clear hfz17_0
       try clear hfz17_1
       try clear hfz17_2
       try clear hfz17_3
       try clear hfz17_4
       try clear hfz20_0
       try clear hfz20_1
       try clear hfz20_2
       try clear hfz20_3
       try clear hfz20_4
       try clear hfz21_0
       try clear hfz21_1
       try clear hfz21_2
       try clear hfz21_3
       try clear hfz21_4
       try clear hfz9_0
       try clear hfz9_1
       try clear hfz9_2
       try clear hfz9_3
       try clear hfz9_4
       try clear p2
       try clear p6
       obtain ⟨x7_2, x9_2, rfl, rfl, HA, HK2, BK248, HB⟩ := hrel
       cases gk with
       | zero => exact absurd HA.out (by simp [spec_RuleTime.l1])
       | succ k2 =>
        have H := HA.out
        clear HA
        simp only [spec_RuleTime.l1] at H
        by_cases c22 : x9_2 < a1_3
        ·rw [if_pos c22] at H
         have c22b0 := decide_eq_true c22
         clear c22
         replace H := Option.bind_eq_some_iff.mp H
         obtain ⟨t252, A230, H⟩ := H
         replace H : (spec_RuleTime.l1 k2 a0 a2 (wrap64 (x7_2 + t252)) (wrap64 (x9_2 + 1)) a1_0 a1_1 a1_2 a1_3 a1_4) = some r := H
         have A23 := Aside0.mk A230
         clear A230
         have H' := Aside0.mk H
         clear H
         obtain ⟨hcz24_0, hcz24_1, hcz24_2, hcz24_3, hcz24_4, hfz24_0, hfz24_1, hfz24_2, hfz24_3, hfz24_4⟩ := c5f_ BK248.out
         go_wp2_with (first | (go_at_call 50; (with_reducible refine (spec_Days.calls a0 x9_2 t252 _ A23.out).mono ?_); rintro e w' ⟨rfl, ⟨nd, rfl⟩⟩; (try first | exact ⟨rfl, _, World.drewN_drewN _ _ _⟩ | exact ⟨rfl, _, Eq.trans (World.drewN_drewN _ _ _) (congrArg (World.drewN _) (Nat.add_assoc _ _ _))⟩)))
         repeat (go_quiet (first | (go_at_call 50; (with_reducible refine (spec_Days.calls a0 x9_2 t252 _ A23.out).mono ?_); rintro e w' ⟨rfl, ⟨nd, rfl⟩⟩; (try first | exact ⟨rfl, _, World.drewN_drewN _ _ _⟩ | exact ⟨rfl, _, Eq.trans (World.drewN_drewN _ _ _) (congrArg (World.drewN _) (Nat.add_assoc _ _ _))⟩))); try go_wp2_with (first | (go_at_call 50; (with_reducible refine (spec_Days.calls a0 x9_2 t252 _ A23.out).mono ?_); rintro e w' ⟨rfl, ⟨nd, rfl⟩⟩; (try first | exact ⟨rfl, _, World.drewN_drewN _ _ _⟩ | exact ⟨rfl, _, Eq.trans (World.drewN_drewN _ _ _) (congrArg (World.drewN _) (Nat.add_assoc _ _ _))⟩))))
         go_roundg k2
         case measure => have := HK1.out; have := HK2.out; omega
         case rel => exact ⟨(wrap64 (x7_2 + t252)), (wrap64 (x9_2 + 1)), a5_, a5_, H', ⟨by have := HK1.out; have := HK2.out; omega⟩, ⟨by (with_reducible repeat (first | refine blk_drewN ?_ _ | refine blk_drew ?_ | refine blk_alloc ?_ _)); exact BK248.out⟩, ⟨by repeat (first | (with_reducible first | exact HB.out | apply below_alloc | apply pw_below_drewN | apply below_drew1 | refine below_set ?_ GE248.out) | exact HB.out)⟩⟩
        ·rw [if_neg c22] at H
         have c22b0 := decide_eq_false c22
         clear c22
         obtain rfl := Option.some.inj H
         obtain ⟨hcz25_0, hcz25_1, hcz25_2, hcz25_3, hcz25_4, hfz25_0, hfz25_1, hfz25_2, hfz25_3, hfz25_4⟩ := c5f_ BK248.out
         go_wp2
         repeat (go_quiet (fail); try go_wp2)
         go_ret
         exact ⟨by first | rfl | (simp [errW_none, errW_some] <;> rfl) | (simp [*, errW_none, errW_some] <;> rfl), by repeat (first | (with_reducible first | exact HB.out | apply below_alloc | apply pw_below_drewN | apply below_drew1 | refine below_set ?_ GE248.out) | exact HB.out)⟩
  ·rw [if_neg c14] at H
   have c14b0 : (a1_0 == 2) = false := beq_eq_false_iff_ne.mpr c14
   have c14b1 : (a1_0 != 2) = true := bne_iff_ne.mpr c14
   obtain rfl := Option.some.inj H
   go_enter Tryd.func32, Tryd.ntmps32
   go_wp2_with (first | ((with_reducible refine gate_dst (N := 4) rfl ?_); refine box_event ?hg (N := 4) ?hd (cs := #[.int .i64 a1_0, .int .i64 a1_1, .int .i64 a1_2, .int .i64 a1_3, .int .i64 a1_4]) (t := 29) ?hr ?_; (case hd => rfl); (case hg => rfl); (case hr => first | (go_simp; done) | (go_simp; rfl)); intro gb248 hg w26 hbox hb; have n0_ := Aside0.mk (below_step a0_ hb); have n1_ := Aside0.mk (hbox); have n2_ := Aside0.mk ((by rw [hg]; exact (below_size a0_) : w.heap.size ≤ gb248)); have n3_ := Aside0.mk ((by rw [hg]; exact (below_size a0_) : w.heap.size ≤ gb248)); clear HB; have HB := n0_; have BK248 := n1_; have GW248 := n2_; have GE248 := n3_; clear n0_ n1_ n2_ n3_; clear hb hbox hg; obtain ⟨hcz27_0, hcz27_1, hcz27_2, hcz27_3, hcz27_4, hfz27_0, hfz27_1, hfz27_2, hfz27_3, hfz27_4⟩ := c5f_ BK248.out))
   repeat (go_quiet (first | ((with_reducible refine gate_dst (N := 4) rfl ?_); refine box_event ?hg (N := 4) ?hd (cs := #[.int .i64 a1_0, .int .i64 a1_1, .int .i64 a1_2, .int .i64 a1_3, .int .i64 a1_4]) (t := 29) ?hr ?_; (case hd => rfl); (case hg => rfl); (case hr => first | (go_simp; done) | (go_simp; rfl)); intro gb248 hg w26 hbox hb; have n0_ := Aside0.mk (below_step a0_ hb); have n1_ := Aside0.mk (hbox); have n2_ := Aside0.mk ((by rw [hg]; exact (below_size a0_) : w.heap.size ≤ gb248)); have n3_ := Aside0.mk ((by rw [hg]; exact (below_size a0_) : w.heap.size ≤ gb248)); clear HB; have HB := n0_; have BK248 := n1_; have GW248 := n2_; have GE248 := n3_; clear n0_ n1_ n2_ n3_; clear hb hbox hg; obtain ⟨hcz27_0, hcz27_1, hcz27_2, hcz27_3, hcz27_4, hfz27_0, hfz27_1, hfz27_2, hfz27_3, hfz27_4⟩ := c5f_ BK248.out)); try go_wp2_with (first | ((with_reducible refine gate_dst (N := 4) rfl ?_); refine box_event ?hg (N := 4) ?hd (cs := #[.int .i64 a1_0, .int .i64 a1_1, .int .i64 a1_2, .int .i64 a1_3, .int .i64 a1_4]) (t := 29) ?hr ?_; (case hd => rfl); (case hg => rfl); (case hr => first | (go_simp; done) | (go_simp; rfl)); intro gb248 hg w26 hbox hb; have n0_ := Aside0.mk (below_step a0_ hb); have n1_ := Aside0.mk (hbox); have n2_ := Aside0.mk ((by rw [hg]; exact (below_size a0_) : w.heap.size ≤ gb248)); have n3_ := Aside0.mk ((by rw [hg]; exact (below_size a0_) : w.heap.size ≤ gb248)); clear HB; have HB := n0_; have BK248 := n1_; have GW248 := n2_; have GE248 := n3_; clear n0_ n1_ n2_ n3_; clear hb hbox hg; obtain ⟨hcz27_0, hcz27_1, hcz27_2, hcz27_3, hcz27_4, hfz27_0, hfz27_1, hfz27_2, hfz27_3, hfz27_4⟩ := c5f_ BK248.out)))
   go_ret
   exact ⟨by first | rfl | (simp [errW_none, errW_some] <;> rfl) | (simp [*, errW_none, errW_some] <;> rfl), by repeat (first | (with_reducible first | exact HB.out | apply below_alloc | apply pw_below_drewN | apply below_drew1 | refine below_set ?_ GE248.out) | exact HB.out)⟩
end Go.Proofs.YtjoaeennbfmohaaDoor.PFnZone
