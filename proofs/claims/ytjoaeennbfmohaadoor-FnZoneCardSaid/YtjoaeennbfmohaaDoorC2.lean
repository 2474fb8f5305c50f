/- The walks of some functions. Laid by programs (wip/mkq.py, wip/mkclaim.py) out of the texts that the kit's print.sh wrote for this seat, written shorter. Not written by hand. -/
import Derived.Test.YtjoaeennbfmohaaDoorC0
import Derived.Test.YtjoaeennbfmohaaDoorC1
namespace Go.Proofs.YtjoaeennbfmohaaDoor.PFnZone
open Go.RowKit Go.Proofs.YtjoaeennbfmohaaDoorW.PrintWords Go.Proofs.YtjoaeennbfmohaaDoorW.PrintLast Go.Proofs.YtjoaeennbfmohaaDoorW.PrintMore
attribute [local go_sem] max2_int min2_int max_two min_two max_three min_three max_four min_four   -- for this text's walks alone
set_option linter.unusedVariables false
set_option linter.unusedSimpArgs false
def spec_Bracketed.l0 : Nat → ByteArray → Int → Option (Bool)
 | 0, _, _ => none
 | k + 1, x0, x3 => if x3 < (x0.size : Int) then (if 0 ≤ x3 then (if (bt x0 x3) ≥ 65 then (if (bt x0 x3) ≤ 90 then (spec_Bracketed.l0 k x0 (wrap64 (x3 + 1))) else (if (bt x0 x3) ≥ 97 then (if (bt x0 x3) ≤ 122 then (spec_Bracketed.l0 k x0 (wrap64 (x3 + 1))) else (if (bt x0 x3) ≥ 48 then (if (bt x0 x3) ≤ 57 then (spec_Bracketed.l0 k x0 (wrap64 (x3 + 1))) else (if (bt x0 x3) = 43 then (spec_Bracketed.l0 k x0 (wrap64 (x3 + 1))) else (if ((bt x0 x3) = 45) then (spec_Bracketed.l0 k x0 (wrap64 (x3 + 1))) else (some false)))) else (if (bt x0 x3) = 43 then (spec_Bracketed.l0 k x0 (wrap64 (x3 + 1))) else (if ((bt x0 x3) = 45) then (spec_Bracketed.l0 k x0 (wrap64 (x3 + 1))) else (some false))))) else (if (bt x0 x3) ≥ 48 then (if (bt x0 x3) ≤ 57 then (spec_Bracketed.l0 k x0 (wrap64 (x3 + 1))) else (if (bt x0 x3) = 43 then (spec_Bracketed.l0 k x0 (wrap64 (x3 + 1))) else (if ((bt x0 x3) = 45) then (spec_Bracketed.l0 k x0 (wrap64 (x3 + 1))) else (some false)))) else (if (bt x0 x3) = 43 then (spec_Bracketed.l0 k x0 (wrap64 (x3 + 1))) else (if ((bt x0 x3) = 45) then (spec_Bracketed.l0 k x0 (wrap64 (x3 + 1))) else (some false)))))) else (if (bt x0 x3) ≥ 97 then (if (bt x0 x3) ≤ 122 then (spec_Bracketed.l0 k x0 (wrap64 (x3 + 1))) else (if (bt x0 x3) ≥ 48 then (if (bt x0 x3) ≤ 57 then (spec_Bracketed.l0 k x0 (wrap64 (x3 + 1))) else (if (bt x0 x3) = 43 then (spec_Bracketed.l0 k x0 (wrap64 (x3 + 1))) else (if ((bt x0 x3) = 45) then (spec_Bracketed.l0 k x0 (wrap64 (x3 + 1))) else (some false)))) else (if (bt x0 x3) = 43 then (spec_Bracketed.l0 k x0 (wrap64 (x3 + 1))) else (if ((bt x0 x3) = 45) then (spec_Bracketed.l0 k x0 (wrap64 (x3 + 1))) else (some false))))) else (if (bt x0 x3) ≥ 48 then (if (bt x0 x3) ≤ 57 then (spec_Bracketed.l0 k x0 (wrap64 (x3 + 1))) else (if (bt x0 x3) = 43 then (spec_Bracketed.l0 k x0 (wrap64 (x3 + 1))) else (if ((bt x0 x3) = 45) then (spec_Bracketed.l0 k x0 (wrap64 (x3 + 1))) else (some false)))) else (if (bt x0 x3) = 43 then (spec_Bracketed.l0 k x0 (wrap64 (x3 + 1))) else (if ((bt x0 x3) = 45) then (spec_Bracketed.l0 k x0 (wrap64 (x3 + 1))) else (some false)))))) else (none)) else ((spec_Within.f (x0.size : Int) 3 100).bind fun t107 => (some t107))
def spec_Bracketed.f (k : Nat) (a0 : ByteArray) : Option (Bool) := spec_Bracketed.l0 k a0 0
set_option maxHeartbeats 8000000 in
set_option maxRecDepth 100000 in
theorem spec_Bracketed.calls (k : Nat) (a0 : ByteArray) (r : Bool) (w : World) (h : spec_Bracketed.f k a0 = some r) :
  Calls Tryd.prog 17 #[.string a0] w fun e w' => e = .returned (.bool r) ∧ Drawn0 w w' := by
 have H : (spec_Bracketed.l0 k a0 0) = some r := h
 clear h
 have H' := Aside0.mk H
 clear H
 go_enter Tryd.func17, Tryd.ntmps17
 go_wp2
 go_loopg [3] k (fun kq v3 w' => ∃ (x3_1 : Int), v3 = .int .i64 x3_1 ∧ Aside0 (spec_Bracketed.l0 kq a0 x3_1 = some r) ∧ Aside0 (kq ≤ k) ∧ Drawn0 w w')
 case atStart => exact ⟨(0), a5_, H', ⟨Nat.le_refl _⟩, by repeat (first | exact Drawn0.refl _ | apply Drawn0.step)⟩
 case round =>
  clear H'
  try clear c1
  obtain ⟨x3_1, rfl, HA, HK1, ⟨m1, rfl⟩⟩ := hrel
  cases gk with
  | zero => exact absurd HA.out (by simp [spec_Bracketed.l0])
  | succ k1 =>
   have H := HA.out
   clear HA
   simp only [spec_Bracketed.l0] at H
   by_cases c2 : x3_1 < (a0.size : Int)
   ·rw [if_pos c2] at H
    have c2b0 := decide_eq_true c2
    clear c2
    by_cases c3 : 0 ≤ x3_1
    ·rw [if_pos c3] at H
     have c3b0 := decide_eq_true c3
     clear c3
     by_cases c5 : (bt a0 x3_1) ≥ 65
     ·rw [if_pos c5] at H
      have c5b0 : decide (65 ≤ (bt a0 x3_1)) = true := decide_eq_true c5
      clear c5
      by_cases c6 : (bt a0 x3_1) ≤ 90
      ·rw [if_pos c6] at H
       have c6b0 := decide_eq_true c6
       clear c6
       have H' := Aside0.mk H
       clear H
       have p4 : 0 ≤ (x3_1 : Int) := of_decide_eq_true a3_
       have q4 : x3_1 < (a0.size : Int) := of_decide_eq_true a3_
       have hx4 := bt_at a0 x3_1
       replace p4 := eq_true p4
       replace q4 := eq_true q4
       go_wp2
       go_roundg k1
       case measure => have := HK1.out; omega
       case rel => exact ⟨(wrap64 (x3_1 + 1)), a5_, H', ⟨by have := HK1.out; omega⟩, by repeat (first | exact Drawn0.refl _ | apply Drawn0.step)⟩
      ·rw [if_neg c6] at H
       have c6b0 := decide_eq_false c6
       clear c6
       by_cases c7 : (bt a0 x3_1) ≥ 97
       ·rw [if_pos c7] at H
        have c7b0 : decide (97 ≤ (bt a0 x3_1)) = true := decide_eq_true c7
        clear c7
        by_cases c8 : (bt a0 x3_1) ≤ 122
        ·rw [if_pos c8] at H
         have c8b0 := decide_eq_true c8
         clear c8
         have H' := Aside0.mk H
         clear H
         have p4 : 0 ≤ (x3_1 : Int) := of_decide_eq_true a3_
         have q4 : x3_1 < (a0.size : Int) := of_decide_eq_true a3_
         have hx4 := bt_at a0 x3_1
         replace p4 := eq_true p4
         replace q4 := eq_true q4
         go_wp2
         go_roundg k1
         case measure => have := HK1.out; omega
         case rel => exact ⟨(wrap64 (x3_1 + 1)), a5_, H', ⟨by have := HK1.out; omega⟩, by repeat (first | exact Drawn0.refl _ | apply Drawn0.step)⟩
        ·rw [if_neg c8] at H
         have c8b0 := decide_eq_false c8
         clear c8
         by_cases c9 : (bt a0 x3_1) ≥ 48
         ·rw [if_pos c9] at H
          have c9b0 : decide (48 ≤ (bt a0 x3_1)) = true := decide_eq_true c9
          clear c9
          by_cases c10 : (bt a0 x3_1) ≤ 57
          ·rw [if_pos c10] at H
           have c10b0 := decide_eq_true c10
           clear c10
           have H' := Aside0.mk H
           clear H
           have p4 : 0 ≤ (x3_1 : Int) := of_decide_eq_true a3_
           have q4 : x3_1 < (a0.size : Int) := of_decide_eq_true a3_
           have hx4 := bt_at a0 x3_1
           replace p4 := eq_true p4
           replace q4 := eq_true q4
           go_wp2
           go_roundg k1
           case measure => have := HK1.out; omega
           case rel => exact ⟨(wrap64 (x3_1 + 1)), a5_, H', ⟨by have := HK1.out; omega⟩, by repeat (first | exact Drawn0.refl _ | apply Drawn0.step)⟩
          ·rw [if_neg c10] at H
           have c10b0 := decide_eq_false c10
           clear c10
           by_cases c11 : (bt a0 x3_1) = 43
           ·rw [if_pos c11] at H
            have c11b0 : ((bt a0 x3_1) == 43) = true := beq_iff_eq.mpr c11
            have c11b1 : ((bt a0 x3_1) != 43) = false := bne_eq_false_iff_eq.mpr c11
            clear c11
            have H' := Aside0.mk H
            clear H
            have p4 : 0 ≤ (x3_1 : Int) := of_decide_eq_true a3_
            have q4 : x3_1 < (a0.size : Int) := of_decide_eq_true a3_
            have hx4 := bt_at a0 x3_1
            replace p4 := eq_true p4
            replace q4 := eq_true q4
            go_wp2
            go_roundg k1
            case measure => have := HK1.out; omega
            case rel => exact ⟨(wrap64 (x3_1 + 1)), a5_, H', ⟨by have := HK1.out; omega⟩, by repeat (first | exact Drawn0.refl _ | apply Drawn0.step)⟩
           ·rw [if_neg c11] at H
            have c11b0 : ((bt a0 x3_1) == 43) = false := beq_eq_false_iff_ne.mpr c11
            have c11b1 : ((bt a0 x3_1) != 43) = true := bne_iff_ne.mpr c11
            by_cases c12 : ((bt a0 x3_1) = 45)
            ·rw [if_pos c12] at H
             have c12b0 : ((bt a0 x3_1) == 45) = true := beq_iff_eq.mpr c12
             have c12b1 : ((bt a0 x3_1) != 45) = false := bne_eq_false_iff_eq.mpr c12
             clear c12
             have H' := Aside0.mk H
             clear H
             have p4 : 0 ≤ (x3_1 : Int) := of_decide_eq_true a3_
             have q4 : x3_1 < (a0.size : Int) := of_decide_eq_true a3_
             have hx4 := bt_at a0 x3_1
             replace p4 := eq_true p4
             replace q4 := eq_true q4
             go_wp2
             go_roundg k1
             case measure => have := HK1.out; omega
             case rel => exact ⟨(wrap64 (x3_1 + 1)), a5_, H', ⟨by have := HK1.out; omega⟩, by repeat (first | exact Drawn0.refl _ | apply Drawn0.step)⟩
            ·rw [if_neg c12] at H
             have c12b0 : ((bt a0 x3_1) == 45) = false := beq_eq_false_iff_ne.mpr c12
             have c12b1 : ((bt a0 x3_1) != 45) = true := bne_iff_ne.mpr c12
             obtain rfl := Option.some.inj H
             have p4 : 0 ≤ (x3_1 : Int) := of_decide_eq_true a3_
             have q4 : x3_1 < (a0.size : Int) := of_decide_eq_true a3_
             have hx4 := bt_at a0 x3_1
             replace p4 := eq_true p4
             replace q4 := eq_true q4
             go_wp2
             go_ret
             exact ⟨by first | rfl | (simp; done) | (simp [*]; done), by repeat (first | exact Drawn0.refl _ | apply Drawn0.step)⟩
         ·rw [if_neg c9] at H
          have c9b0 : decide (48 ≤ (bt a0 x3_1)) = false := decide_eq_false c9
          clear c9
          by_cases c13 : (bt a0 x3_1) = 43
          ·rw [if_pos c13] at H
           have c13b0 : ((bt a0 x3_1) == 43) = true := beq_iff_eq.mpr c13
           have c13b1 : ((bt a0 x3_1) != 43) = false := bne_eq_false_iff_eq.mpr c13
           clear c13
           have H' := Aside0.mk H
           clear H
           have p4 : 0 ≤ (x3_1 : Int) := of_decide_eq_true a3_
           have q4 : x3_1 < (a0.size : Int) := of_decide_eq_true a3_
           have hx4 := bt_at a0 x3_1
           replace p4 := eq_true p4
           replace q4 := eq_true q4
           go_wp2
           go_roundg k1
           case measure => have := HK1.out; omega
           case rel => exact ⟨(wrap64 (x3_1 + 1)), a5_, H', ⟨by have := HK1.out; omega⟩, by repeat (first | exact Drawn0.refl _ | apply Drawn0.step)⟩
          ·rw [if_neg c13] at H
           have c13b0 : ((bt a0 x3_1) == 43) = false := beq_eq_false_iff_ne.mpr c13
           have c13b1 : ((bt a0 x3_1) != 43) = true := bne_iff_ne.mpr c13
           by_cases c14 : ((bt a0 x3_1) = 45)
           ·rw [if_pos c14] at H
            have c14b0 : ((bt a0 x3_1) == 45) = true := beq_iff_eq.mpr c14
            have c14b1 : ((bt a0 x3_1) != 45) = false := bne_eq_false_iff_eq.mpr c14
            clear c14
            have H' := Aside0.mk H
            clear H
            have p4 : 0 ≤ (x3_1 : Int) := of_decide_eq_true a3_
            have q4 : x3_1 < (a0.size : Int) := of_decide_eq_true a3_
            have hx4 := bt_at a0 x3_1
            replace p4 := eq_true p4
            replace q4 := eq_true q4
            go_wp2
            go_roundg k1
            case measure => have := HK1.out; omega
            case rel => exact ⟨(wrap64 (x3_1 + 1)), a5_, H', ⟨by have := HK1.out; omega⟩, by repeat (first | exact Drawn0.refl _ | apply Drawn0.step)⟩
           ·rw [if_neg c14] at H
            have c14b0 : ((bt a0 x3_1) == 45) = false := beq_eq_false_iff_ne.mpr c14
            have c14b1 : ((bt a0 x3_1) != 45) = true := bne_iff_ne.mpr c14
            obtain rfl := Option.some.inj H
            have p4 : 0 ≤ (x3_1 : Int) := of_decide_eq_true a3_
            have q4 : x3_1 < (a0.size : Int) := of_decide_eq_true a3_
            have hx4 := bt_at a0 x3_1
            replace p4 := eq_true p4
            replace q4 := eq_true q4
            go_wp2
            go_ret
            exact ⟨by first | rfl | (simp; done) | (simp [*]; done), by repeat (first | exact Drawn0.refl _ | apply Drawn0.step)⟩
       ·rw [if_neg c7] at H
        have c7b0 : decide (97 ≤ (bt a0 x3_1)) = false := decide_eq_false c7
        clear c7
        by_cases c15 : (bt a0 x3_1) ≥ 48
        ·rw [if_pos c15] at H
         have c15b0 : decide (48 ≤ (bt a0 x3_1)) = true := decide_eq_true c15
         clear c15
         by_cases c16 : (bt a0 x3_1) ≤ 57
         ·rw [if_pos c16] at H
          have c16b0 := decide_eq_true c16
          clear c16
          have H' := Aside0.mk H
          clear H
          have p4 : 0 ≤ (x3_1 : Int) := of_decide_eq_true a3_
          have q4 : x3_1 < (a0.size : Int) := of_decide_eq_true a3_
          have hx4 := bt_at a0 x3_1
          replace p4 := eq_true p4
          replace q4 := eq_true q4
          go_wp2
          go_roundg k1
          case measure => have := HK1.out; omega
          case rel => exact ⟨(wrap64 (x3_1 + 1)), a5_, H', ⟨by have := HK1.out; omega⟩, by repeat (first | exact Drawn0.refl _ | apply Drawn0.step)⟩
         ·rw [if_neg c16] at H
          have c16b0 := decide_eq_false c16
          clear c16
          by_cases c17 : (bt a0 x3_1) = 43
          ·rw [if_pos c17] at H
           have c17b0 : ((bt a0 x3_1) == 43) = true := beq_iff_eq.mpr c17
           have c17b1 : ((bt a0 x3_1) != 43) = false := bne_eq_false_iff_eq.mpr c17
           clear c17
           have H' := Aside0.mk H
           clear H
           have p4 : 0 ≤ (x3_1 : Int) := of_decide_eq_true a3_
           have q4 : x3_1 < (a0.size : Int) := of_decide_eq_true a3_
           have hx4 := bt_at a0 x3_1
           replace p4 := eq_true p4
           replace q4 := eq_true q4
           go_wp2
           go_roundg k1
           case measure => have := HK1.out; omega
           case rel => exact ⟨(wrap64 (x3_1 + 1)), a5_, H', ⟨by have := HK1.out; omega⟩, by repeat (first | exact Drawn0.refl _ | apply Drawn0.step)⟩
          ·rw [if_neg c17] at H
           have c17b0 : ((bt a0 x3_1) == 43) = false := beq_eq_false_iff_ne.mpr c17
           have c17b1 : ((bt a0 x3_1) != 43) = true := bne_iff_ne.mpr c17
           by_cases c18 : ((bt a0 x3_1) = 45)
           ·rw [if_pos c18] at H
            have c18b0 : ((bt a0 x3_1) == 45) = true := beq_iff_eq.mpr c18
            have c18b1 : ((bt a0 x3_1) != 45) = false := bne_eq_false_iff_eq.mpr c18
            clear c18
            have H' := Aside0.mk H
            clear H
            have p4 : 0 ≤ (x3_1 : Int) := of_decide_eq_true a3_
            have q4 : x3_1 < (a0.size : Int) := of_decide_eq_true a3_
            have hx4 := bt_at a0 x3_1
            replace p4 := eq_true p4
            replace q4 := eq_true q4
            go_wp2
            go_roundg k1
            case measure => have := HK1.out; omega
            case rel => exact ⟨(wrap64 (x3_1 + 1)), a5_, H', ⟨by have := HK1.out; omega⟩, by repeat (first | exact Drawn0.refl _ | apply Drawn0.step)⟩
           ·rw [if_neg c18] at H
            have c18b0 : ((bt a0 x3_1) == 45) = false := beq_eq_false_iff_ne.mpr c18
            have c18b1 : ((bt a0 x3_1) != 45) = true := bne_iff_ne.mpr c18
            obtain rfl := Option.some.inj H
            have p4 : 0 ≤ (x3_1 : Int) := of_decide_eq_true a3_
            have q4 : x3_1 < (a0.size : Int) := of_decide_eq_true a3_
            have hx4 := bt_at a0 x3_1
            replace p4 := eq_true p4
            replace q4 := eq_true q4
            go_wp2
            go_ret
            exact ⟨by first | rfl | (simp; done) | (simp [*]; done), by repeat (first | exact Drawn0.refl _ | apply Drawn0.step)⟩
        ·rw [if_neg c15] at H
         have c15b0 : decide (48 ≤ (bt a0 x3_1)) = false := decide_eq_false c15
         clear c15
         by_cases c19 : (bt a0 x3_1) = 43
         ·rw [if_pos c19] at H
          have c19b0 : ((bt a0 x3_1) == 43) = true := beq_iff_eq.mpr c19
          have c19b1 : ((bt a0 x3_1) != 43) = false := bne_eq_false_iff_eq.mpr c19
          clear c19
          have H' := Aside0.mk H
          clear H
          have p4 : 0 ≤ (x3_1 : Int) := of_decide_eq_true a3_
          have q4 : x3_1 < (a0.size : Int) := of_decide_eq_true a3_
          have hx4 := bt_at a0 x3_1
          replace p4 := eq_true p4
          replace q4 := eq_true q4
          go_wp2
          go_roundg k1
          case measure => have := HK1.out; omega
          case rel => exact ⟨(wrap64 (x3_1 + 1)), a5_, H', ⟨by have := HK1.out; omega⟩, by repeat (first | exact Drawn0.refl _ | apply Drawn0.step)⟩
         ·rw [if_neg c19] at H
          have c19b0 : ((bt a0 x3_1) == 43) = false := beq_eq_false_iff_ne.mpr c19
          have c19b1 : ((bt a0 x3_1) != 43) = true := bne_iff_ne.mpr c19
          by_cases c20 : ((bt a0 x3_1) = 45)
          ·rw [if_pos c20] at H
           have c20b0 : ((bt a0 x3_1) == 45) = true := beq_iff_eq.mpr c20
           have c20b1 : ((bt a0 x3_1) != 45) = false := bne_eq_false_iff_eq.mpr c20
           clear c20
           have H' := Aside0.mk H
           clear H
           have p4 : 0 ≤ (x3_1 : Int) := of_decide_eq_true a3_
           have q4 : x3_1 < (a0.size : Int) := of_decide_eq_true a3_
           have hx4 := bt_at a0 x3_1
           replace p4 := eq_true p4
           replace q4 := eq_true q4
           go_wp2
           go_roundg k1
           case measure => have := HK1.out; omega
           case rel => exact ⟨(wrap64 (x3_1 + 1)), a5_, H', ⟨by have := HK1.out; omega⟩, by repeat (first | exact Drawn0.refl _ | apply Drawn0.step)⟩
          ·rw [if_neg c20] at H
           have c20b0 : ((bt a0 x3_1) == 45) = false := beq_eq_false_iff_ne.mpr c20
           have c20b1 : ((bt a0 x3_1) != 45) = true := bne_iff_ne.mpr c20
           obtain rfl := Option.some.inj H
           have p4 : 0 ≤ (x3_1 : Int) := of_decide_eq_true a3_
           have q4 : x3_1 < (a0.size : Int) := of_decide_eq_true a3_
           have hx4 := bt_at a0 x3_1
           replace p4 := eq_true p4
           replace q4 := eq_true q4
           go_wp2
           go_ret
           exact ⟨by first | rfl | (simp; done) | (simp [*]; done), by repeat (first | exact Drawn0.refl _ | apply Drawn0.step)⟩
     ·rw [if_neg c5] at H
      have c5b0 : decide (65 ≤ (bt a0 x3_1)) = false := decide_eq_false c5
      clear c5
      by_cases c21 : (bt a0 x3_1) ≥ 97
      ·rw [if_pos c21] at H
       have c21b0 : decide (97 ≤ (bt a0 x3_1)) = true := decide_eq_true c21
       clear c21
       by_cases c22 : (bt a0 x3_1) ≤ 122
       ·rw [if_pos c22] at H
        have c22b0 := decide_eq_true c22
        clear c22
        have H' := Aside0.mk H
        clear H
        have p4 : 0 ≤ (x3_1 : Int) := of_decide_eq_true a3_
        have q4 : x3_1 < (a0.size : Int) := of_decide_eq_true a3_
        have hx4 := bt_at a0 x3_1
        replace p4 := eq_true p4
        replace q4 := eq_true q4
        go_wp2
        go_roundg k1
        case measure => have := HK1.out; omega
        case rel => exact ⟨(wrap64 (x3_1 + 1)), a5_, H', ⟨by have := HK1.out; omega⟩, by repeat (first | exact Drawn0.refl _ | apply Drawn0.step)⟩
       ·rw [if_neg c22] at H
        have c22b0 := decide_eq_false c22
        clear c22
        by_cases c23 : (bt a0 x3_1) ≥ 48
        ·rw [if_pos c23] at H
         have c23b0 : decide (48 ≤ (bt a0 x3_1)) = true := decide_eq_true c23
         clear c23
         by_cases c24 : (bt a0 x3_1) ≤ 57
         ·rw [if_pos c24] at H
          have c24b0 := decide_eq_true c24
          clear c24
          have H' := Aside0.mk H
          clear H
          have p4 : 0 ≤ (x3_1 : Int) := of_decide_eq_true a3_
          have q4 : x3_1 < (a0.size : Int) := of_decide_eq_true a3_
          have hx4 := bt_at a0 x3_1
          replace p4 := eq_true p4
          replace q4 := eq_true q4
          go_wp2
          go_roundg k1
          case measure => have := HK1.out; omega
          case rel => exact ⟨(wrap64 (x3_1 + 1)), a5_, H', ⟨by have := HK1.out; omega⟩, by repeat (first | exact Drawn0.refl _ | apply Drawn0.step)⟩
         ·rw [if_neg c24] at H
          have c24b0 := decide_eq_false c24
          clear c24
          by_cases c25 : (bt a0 x3_1) = 43
          ·rw [if_pos c25] at H
           have c25b0 : ((bt a0 x3_1) == 43) = true := beq_iff_eq.mpr c25
           have c25b1 : ((bt a0 x3_1) != 43) = false := bne_eq_false_iff_eq.mpr c25
           clear c25
           have H' := Aside0.mk H
           clear H
           have p4 : 0 ≤ (x3_1 : Int) := of_decide_eq_true a3_
           have q4 : x3_1 < (a0.size : Int) := of_decide_eq_true a3_
           have hx4 := bt_at a0 x3_1
           replace p4 := eq_true p4
           replace q4 := eq_true q4
           go_wp2
           go_roundg k1
           case measure => have := HK1.out; omega
           case rel => exact ⟨(wrap64 (x3_1 + 1)), a5_, H', ⟨by have := HK1.out; omega⟩, by repeat (first | exact Drawn0.refl _ | apply Drawn0.step)⟩
          ·rw [if_neg c25] at H
           have c25b0 : ((bt a0 x3_1) == 43) = false := beq_eq_false_iff_ne.mpr c25
           have c25b1 : ((bt a0 x3_1) != 43) = true := bne_iff_ne.mpr c25
           by_cases c26 : ((bt a0 x3_1) = 45)
           ·rw [if_pos c26] at H
            have c26b0 : ((bt a0 x3_1) == 45) = true := beq_iff_eq.mpr c26
            have c26b1 : ((bt a0 x3_1) != 45) = false := bne_eq_false_iff_eq.mpr c26
            clear c26
            have H' := Aside0.mk H
            clear H
            have p4 : 0 ≤ (x3_1 : Int) := of_decide_eq_true a3_
            have q4 : x3_1 < (a0.size : Int) := of_decide_eq_true a3_
            have hx4 := bt_at a0 x3_1
            replace p4 := eq_true p4
            replace q4 := eq_true q4
            go_wp2
            go_roundg k1
            case measure => have := HK1.out; omega
            case rel => exact ⟨(wrap64 (x3_1 + 1)), a5_, H', ⟨by have := HK1.out; omega⟩, by repeat (first | exact Drawn0.refl _ | apply Drawn0.step)⟩
           ·rw [if_neg c26] at H
            have c26b0 : ((bt a0 x3_1) == 45) = false := beq_eq_false_iff_ne.mpr c26
            have c26b1 : ((bt a0 x3_1) != 45) = true := bne_iff_ne.mpr c26
            obtain rfl := Option.some.inj H
            have p4 : 0 ≤ (x3_1 : Int) := of_decide_eq_true a3_
            have q4 : x3_1 < (a0.size : Int) := of_decide_eq_true a3_
            have hx4 := bt_at a0 x3_1
            replace p4 := eq_true p4
            replace q4 := eq_true q4
            go_wp2
            go_ret
            exact ⟨by first | rfl | (simp; done) | (simp [*]; done), by repeat (first | exact Drawn0.refl _ | apply Drawn0.step)⟩
        ·rw [if_neg c23] at H
         have c23b0 : decide (48 ≤ (bt a0 x3_1)) = false := decide_eq_false c23
         clear c23
         by_cases c27 : (bt a0 x3_1) = 43
         ·rw [if_pos c27] at H
          have c27b0 : ((bt a0 x3_1) == 43) = true := beq_iff_eq.mpr c27
          have c27b1 : ((bt a0 x3_1) != 43) = false := bne_eq_false_iff_eq.mpr c27
          clear c27
          have H' := Aside0.mk H
          clear H
          have p4 : 0 ≤ (x3_1 : Int) := of_decide_eq_true a3_
          have q4 : x3_1 < (a0.size : Int) := of_decide_eq_true a3_
          have hx4 := bt_at a0 x3_1
          replace p4 := eq_true p4
          replace q4 := eq_true q4
          go_wp2
          go_roundg k1
          case measure => have := HK1.out; omega
          case rel => exact ⟨(wrap64 (x3_1 + 1)), a5_, H', ⟨by have := HK1.out; omega⟩, by repeat (first | exact Drawn0.refl _ | apply Drawn0.step)⟩
         ·rw [if_neg c27] at H
          have c27b0 : ((bt a0 x3_1) == 43) = false := beq_eq_false_iff_ne.mpr c27
          have c27b1 : ((bt a0 x3_1) != 43) = true := bne_iff_ne.mpr c27
          by_cases c28 : ((bt a0 x3_1) = 45)
          ·rw [if_pos c28] at H
           have c28b0 : ((bt a0 x3_1) == 45) = true := beq_iff_eq.mpr c28
           have c28b1 : ((bt a0 x3_1) != 45) = false := bne_eq_false_iff_eq.mpr c28
           clear c28
           have H' := Aside0.mk H
           clear H
           have p4 : 0 ≤ (x3_1 : Int) := of_decide_eq_true a3_
           have q4 : x3_1 < (a0.size : Int) := of_decide_eq_true a3_
           have hx4 := bt_at a0 x3_1
           replace p4 := eq_true p4
           replace q4 := eq_true q4
           go_wp2
           go_roundg k1
           case measure => have := HK1.out; omega
           case rel => exact ⟨(wrap64 (x3_1 + 1)), a5_, H', ⟨by have := HK1.out; omega⟩, by repeat (first | exact Drawn0.refl _ | apply Drawn0.step)⟩
          ·rw [if_neg c28] at H
           have c28b0 : ((bt a0 x3_1) == 45) = false := beq_eq_false_iff_ne.mpr c28
           have c28b1 : ((bt a0 x3_1) != 45) = true := bne_iff_ne.mpr c28
           obtain rfl := Option.some.inj H
           have p4 : 0 ≤ (x3_1 : Int) := of_decide_eq_true a3_
           have q4 : x3_1 < (a0.size : Int) := of_decide_eq_true a3_
           have hx4 := bt_at a0 x3_1
           replace p4 := eq_true p4
           replace q4 := eq_true q4
           go_wp2
           go_ret
           exact ⟨by first | rfl | (simp; done) | (simp [*]; done), by repeat (first | exact Drawn0.refl _ | apply Drawn0.step)⟩
      ·rw [if_neg c21] at H
       have c21b0 : decide (97 ≤ (bt a0 x3_1)) = false := decide_eq_false c21
       clear c21
       by_cases c29 : (bt a0 x3_1) ≥ 48
       ·rw [if_pos c29] at H
        have c29b0 : decide (48 ≤ (bt a0 x3_1)) = true := decide_eq_true c29
        clear c29
        by_cases c30 : (bt a0 x3_1) ≤ 57
        ·rw [if_pos c30] at H
         have c30b0 := decide_eq_true c30
         clear c30
         have H' := Aside0.mk H
         clear H
         have p4 : 0 ≤ (x3_1 : Int) := of_decide_eq_true a3_
         have q4 : x3_1 < (a0.size : Int) := of_decide_eq_true a3_
         have hx4 := bt_at a0 x3_1
         replace p4 := eq_true p4
         replace q4 := eq_true q4
         go_wp2
         go_roundg k1
         case measure => have := HK1.out; omega
         case rel => exact ⟨(wrap64 (x3_1 + 1)), a5_, H', ⟨by have := HK1.out; omega⟩, by repeat (first | exact Drawn0.refl _ | apply Drawn0.step)⟩
        ·rw [if_neg c30] at H
         have c30b0 := decide_eq_false c30
         clear c30
         by_cases c31 : (bt a0 x3_1) = 43
         ·rw [if_pos c31] at H
          have c31b0 : ((bt a0 x3_1) == 43) = true := beq_iff_eq.mpr c31
          have c31b1 : ((bt a0 x3_1) != 43) = false := bne_eq_false_iff_eq.mpr c31
          clear c31
          have H' := Aside0.mk H
          clear H
          have p4 : 0 ≤ (x3_1 : Int) := of_decide_eq_true a3_
          have q4 : x3_1 < (a0.size : Int) := of_decide_eq_true a3_
          have hx4 := bt_at a0 x3_1
          replace p4 := eq_true p4
          replace q4 := eq_true q4
          go_wp2
          go_roundg k1
          case measure => have := HK1.out; omega
          case rel => exact ⟨(wrap64 (x3_1 + 1)), a5_, H', ⟨by have := HK1.out; omega⟩, by repeat (first | exact Drawn0.refl _ | apply Drawn0.step)⟩
         ·rw [if_neg c31] at H
          have c31b0 : ((bt a0 x3_1) == 43) = false := beq_eq_false_iff_ne.mpr c31
          have c31b1 : ((bt a0 x3_1) != 43) = true := bne_iff_ne.mpr c31
          by_cases c32 : ((bt a0 x3_1) = 45)
          ·rw [if_pos c32] at H
           have c32b0 : ((bt a0 x3_1) == 45) = true := beq_iff_eq.mpr c32
           have c32b1 : ((bt a0 x3_1) != 45) = false := bne_eq_false_iff_eq.mpr c32
           clear c32
           have H' := Aside0.mk H
           clear H
           have p4 : 0 ≤ (x3_1 : Int) := of_decide_eq_true a3_
           have q4 : x3_1 < (a0.size : Int) := of_decide_eq_true a3_
           have hx4 := bt_at a0 x3_1
           replace p4 := eq_true p4
           replace q4 := eq_true q4
           go_wp2
           go_roundg k1
           case measure => have := HK1.out; omega
           case rel => exact ⟨(wrap64 (x3_1 + 1)), a5_, H', ⟨by have := HK1.out; omega⟩, by repeat (first | exact Drawn0.refl _ | apply Drawn0.step)⟩
          ·rw [if_neg c32] at H
           have c32b0 : ((bt a0 x3_1) == 45) = false := beq_eq_false_iff_ne.mpr c32
           have c32b1 : ((bt a0 x3_1) != 45) = true := bne_iff_ne.mpr c32
           obtain rfl := Option.some.inj H
           have p4 : 0 ≤ (x3_1 : Int) := of_decide_eq_true a3_
           have q4 : x3_1 < (a0.size : Int) := of_decide_eq_true a3_
           have hx4 := bt_at a0 x3_1
           replace p4 := eq_true p4
           replace q4 := eq_true q4
           go_wp2
           go_ret
           exact ⟨by first | rfl | (simp; done) | (simp [*]; done), by repeat (first | exact Drawn0.refl _ | apply Drawn0.step)⟩
       ·rw [if_neg c29] at H
        have c29b0 : decide (48 ≤ (bt a0 x3_1)) = false := decide_eq_false c29
        clear c29
        by_cases c33 : (bt a0 x3_1) = 43
        ·rw [if_pos c33] at H
         have c33b0 : ((bt a0 x3_1) == 43) = true := beq_iff_eq.mpr c33
         have c33b1 : ((bt a0 x3_1) != 43) = false := bne_eq_false_iff_eq.mpr c33
         clear c33
         have H' := Aside0.mk H
         clear H
         have p4 : 0 ≤ (x3_1 : Int) := of_decide_eq_true a3_
         have q4 : x3_1 < (a0.size : Int) := of_decide_eq_true a3_
         have hx4 := bt_at a0 x3_1
         replace p4 := eq_true p4
         replace q4 := eq_true q4
         go_wp2
         go_roundg k1
         case measure => have := HK1.out; omega
         case rel => exact ⟨(wrap64 (x3_1 + 1)), a5_, H', ⟨by have := HK1.out; omega⟩, by repeat (first | exact Drawn0.refl _ | apply Drawn0.step)⟩
        ·rw [if_neg c33] at H
         have c33b0 : ((bt a0 x3_1) == 43) = false := beq_eq_false_iff_ne.mpr c33
         have c33b1 : ((bt a0 x3_1) != 43) = true := bne_iff_ne.mpr c33
         by_cases c34 : ((bt a0 x3_1) = 45)
         ·rw [if_pos c34] at H
          have c34b0 : ((bt a0 x3_1) == 45) = true := beq_iff_eq.mpr c34
          have c34b1 : ((bt a0 x3_1) != 45) = false := bne_eq_false_iff_eq.mpr c34
          clear c34
          have H' := Aside0.mk H
          clear H
          have p4 : 0 ≤ (x3_1 : Int) := of_decide_eq_true a3_
          have q4 : x3_1 < (a0.size : Int) := of_decide_eq_true a3_
          have hx4 := bt_at a0 x3_1
          replace p4 := eq_true p4
          replace q4 := eq_true q4
          go_wp2
          go_roundg k1
          case measure => have := HK1.out; omega
          case rel => exact ⟨(wrap64 (x3_1 + 1)), a5_, H', ⟨by have := HK1.out; omega⟩, by repeat (first | exact Drawn0.refl _ | apply Drawn0.step)⟩
         ·rw [if_neg c34] at H
          have c34b0 : ((bt a0 x3_1) == 45) = false := beq_eq_false_iff_ne.mpr c34
          have c34b1 : ((bt a0 x3_1) != 45) = true := bne_iff_ne.mpr c34
          obtain rfl := Option.some.inj H
          have p4 : 0 ≤ (x3_1 : Int) := of_decide_eq_true a3_
          have q4 : x3_1 < (a0.size : Int) := of_decide_eq_true a3_
          have hx4 := bt_at a0 x3_1
          replace p4 := eq_true p4
          replace q4 := eq_true q4
          go_wp2
          go_ret
          exact ⟨by first | rfl | (simp; done) | (simp [*]; done), by repeat (first | exact Drawn0.refl _ | apply Drawn0.step)⟩
    ·rw [if_neg c3] at H
     exact absurd H (by simp)
   ·rw [if_neg c2] at H
    have c2b0 := decide_eq_false c2
    clear c2
    replace H := Option.bind_eq_some_iff.mp H
    obtain ⟨t107, A350, H⟩ := H
    replace H : (some t107) = some r := H
    have A35 := Aside0.mk A350
    clear A350
    obtain rfl := Option.some.inj H
    go_wp2_with (first | ((with_reducible refine gate_callee (f := 18) rfl ?_); refine goesL_ (some 47) rfl rfl Tryd.func18 (by kernel_rfl) rfl #[.int .i64 (a0.size : Int), .int .i64 3, .int .i64 100] rfl a1_ ?_; (with_reducible refine (spec_Within.calls (a0.size : Int) 3 100 t107 _ A35.out).mono ?_); rintro e w' ⟨rfl, ⟨nd, rfl⟩⟩; refine ⟨_, rfl, ?_⟩))
    go_ret
    exact ⟨by first | rfl | (simp; done) | (simp [*]; done), by repeat (first | exact Drawn0.refl _ | apply Drawn0.step)⟩
def spec_RuleOk.f (a0_0 : Int) (a0_1 : Int) (a0_2 : Int) (a0_3 : Int) (a0_4 : Int) : Option (Bool) := (spec_Within.f a0_4 (-604799) 604799).bind fun t109 => (if t109 = true then (if a0_0 = 0 then ((spec_Within.f a0_1 1 365).bind fun t110 => (if t110 = true then (if a0_2 = 0 then (some (a0_3 == 0)) else (some false)) else (some false))) else (if a0_0 = 1 then ((spec_Within.f a0_1 0 365).bind fun t111 => (if t111 = true then (if a0_2 = 0 then (some (a0_3 == 0)) else (some false)) else (some false))) else (if a0_0 = 2 then ((spec_Within.f a0_1 0 6).bind fun t112 => (if t112 = true then ((spec_Within.f a0_2 1 5).bind fun t113 => (if t113 = true then ((spec_Within.f a0_3 1 12).bind fun t114 => (some t114)) else (some false))) else (some false))) else (some false)))) else (some false))
set_option maxHeartbeats 8000000 in
set_option maxRecDepth 100000 in
theorem spec_RuleOk.calls (a0_0 : Int) (a0_1 : Int) (a0_2 : Int) (a0_3 : Int) (a0_4 : Int) (r : Bool) (w : World) (h : spec_RuleOk.f a0_0 a0_1 a0_2 a0_3 a0_4 = some r) :
  Calls Tryd.prog 19 #[.agg #[.int .i64 a0_0, .int .i64 a0_1, .int .i64 a0_2, .int .i64 a0_3, .int .i64 a0_4]] w fun e w' => e = .returned (.bool r) ∧ Below w.heap.size w w' := by
 have hu29 := Tryd.underlying29
 have HB := Aside0.mk (Below.refl w.heap.size w)
 have H : ((spec_Within.f a0_4 (-604799) 604799).bind fun t109 => (if t109 = true then (if a0_0 = 0 then ((spec_Within.f a0_1 1 365).bind fun t110 => (if t110 = true then (if a0_2 = 0 then (some (a0_3 == 0)) else (some false)) else (some false))) else (if a0_0 = 1 then ((spec_Within.f a0_1 0 365).bind fun t111 => (if t111 = true then (if a0_2 = 0 then (some (a0_3 == 0)) else (some false)) else (some false))) else (if a0_0 = 2 then ((spec_Within.f a0_1 0 6).bind fun t112 => (if t112 = true then ((spec_Within.f a0_2 1 5).bind fun t113 => (if t113 = true then ((spec_Within.f a0_3 1 12).bind fun t114 => (some t114)) else (some false))) else (some false))) else (some false)))) else (some false))) = some r := h
 clear h
 replace H := Option.bind_eq_some_iff.mp H
 obtain ⟨t109, A20, H⟩ := H
 replace H : (if t109 = true then (if a0_0 = 0 then ((spec_Within.f a0_1 1 365).bind fun t110 => (if t110 = true then (if a0_2 = 0 then (some (a0_3 == 0)) else (some false)) else (some false))) else (if a0_0 = 1 then ((spec_Within.f a0_1 0 365).bind fun t111 => (if t111 = true then (if a0_2 = 0 then (some (a0_3 == 0)) else (some false)) else (some false))) else (if a0_0 = 2 then ((spec_Within.f a0_1 0 6).bind fun t112 => (if t112 = true then ((spec_Within.f a0_2 1 5).bind fun t113 => (if t113 = true then ((spec_Within.f a0_3 1 12).bind fun t114 => (some t114)) else (some false))) else (some false))) else (some false)))) else (some false)) = some r := H
 have A2 := Aside0.mk A20
 clear A20
 by_cases c3 : t109 = true
 ·subst c3
  have H1 : (if a0_0 = 0 then ((spec_Within.f a0_1 1 365).bind fun t110 => (if t110 = true then (if a0_2 = 0 then (some (a0_3 == 0)) else (some false)) else (some false))) else (if a0_0 = 1 then ((spec_Within.f a0_1 0 365).bind fun t111 => (if t111 = true then (if a0_2 = 0 then (some (a0_3 == 0)) else (some false)) else (some false))) else (if a0_0 = 2 then ((spec_Within.f a0_1 0 6).bind fun t112 => (if t112 = true then ((spec_Within.f a0_2 1 5).bind fun t113 => (if t113 = true then ((spec_Within.f a0_3 1 12).bind fun t114 => (some t114)) else (some false))) else (some false))) else (some false)))) = some r := by rw [if_pos rfl] at H; exact H
  clear H
  have H := H1
  clear H1
  by_cases c4 : a0_0 = 0
  ·rw [if_pos c4] at H
   have c4b0 : (a0_0 == 0) = true := beq_iff_eq.mpr c4
   have c4b1 : (a0_0 != 0) = false := bne_eq_false_iff_eq.mpr c4
   clear c4
   replace H := Option.bind_eq_some_iff.mp H
   obtain ⟨t110, A50, H⟩ := H
   replace H : (if t110 = true then (if a0_2 = 0 then (some (a0_3 == 0)) else (some false)) else (some false)) = some r := H
   have A5 := Aside0.mk A50
   clear A50
   by_cases c6 : t110 = true
   ·subst c6
    have H1 : (if a0_2 = 0 then (some (a0_3 == 0)) else (some false)) = some r := by rw [if_pos rfl] at H; exact H
    clear H
    have H := H1
    clear H1
    by_cases c7 : a0_2 = 0
    ·rw [if_pos c7] at H
     have c7b0 : (a0_2 == 0) = true := beq_iff_eq.mpr c7
     have c7b1 : (a0_2 != 0) = false := bne_eq_false_iff_eq.mpr c7
     clear c7
     obtain rfl := Option.some.inj H
     go_enter Tryd.func19, Tryd.ntmps19
     go_wp2_with (first | ((with_reducible refine gate_dst (N := 1) rfl ?_); refine box_event ?hg (N := 1) ?hd (cs := #[.int .i64 a0_0, .int .i64 a0_1, .int .i64 a0_2, .int .i64 a0_3, .int .i64 a0_4]) (t := 29) ?hr ?_; (case hd => rfl); (case hg => rfl); (case hr => first | (go_simp; done) | (go_simp; rfl)); intro gb108 hg w8 hbox hb; have n0_ := Aside0.mk (below_step a0_ hb); have n1_ := Aside0.mk (hbox); have n2_ := Aside0.mk ((by rw [hg]; exact (below_size a0_) : w.heap.size ≤ gb108)); have n3_ := Aside0.mk ((by rw [hg]; exact (below_size a0_) : w.heap.size ≤ gb108)); clear HB; have HB := n0_; have BK108 := n1_; have GW108 := n2_; have GE108 := n3_; clear n0_ n1_ n2_ n3_; clear hb hbox hg; obtain ⟨hcz9_0, hcz9_1, hcz9_2, hcz9_3, hcz9_4, hfz9_0, hfz9_1, hfz9_2, hfz9_3, hfz9_4⟩ := c5f_ BK108.out) | ((with_reducible refine gate_callee (f := 18) rfl ?_); refine goesL_ (some 5) rfl rfl Tryd.func18 (by kernel_rfl) rfl #[.int .i64 a0_4, .int .i64 (-604799), .int .i64 604799] rfl a1_ ?_; (with_reducible refine (spec_Within.calls a0_4 (-604799) 604799 true _ A2.out).mono ?_); rintro e w' ⟨rfl, ⟨nd, rfl⟩⟩; refine ⟨_, rfl, ?_⟩) | ((with_reducible refine gate_callee (f := 18) rfl ?_); refine goesL_ (some 13) rfl rfl Tryd.func18 (by kernel_rfl) rfl #[.int .i64 a0_1, .int .i64 1, .int .i64 365] rfl a1_ ?_; (with_reducible refine (spec_Within.calls a0_1 1 365 true _ A5.out).mono ?_); rintro e w' ⟨rfl, ⟨nd, rfl⟩⟩; refine ⟨_, rfl, ?_⟩))
     go_ret
     exact ⟨by first | rfl | (simp [errW_none, errW_some] <;> rfl) | (simp [*, errW_none, errW_some] <;> rfl), by repeat (first | (with_reducible first | exact HB.out | apply below_alloc | apply pw_below_drewN | apply below_drew1 | refine below_set ?_ GE108.out) | exact HB.out)⟩
    ·rw [if_neg c7] at H
     have c7b0 : (a0_2 == 0) = false := beq_eq_false_iff_ne.mpr c7
     have c7b1 : (a0_2 != 0) = true := bne_iff_ne.mpr c7
     obtain rfl := Option.some.inj H
     go_enter Tryd.func19, Tryd.ntmps19
     go_wp2_with (first | ((with_reducible refine gate_dst (N := 1) rfl ?_); refine box_event ?hg (N := 1) ?hd (cs := #[.int .i64 a0_0, .int .i64 a0_1, .int .i64 a0_2, .int .i64 a0_3, .int .i64 a0_4]) (t := 29) ?hr ?_; (case hd => rfl); (case hg => rfl); (case hr => first | (go_simp; done) | (go_simp; rfl)); intro gb108 hg w10 hbox hb; have n0_ := Aside0.mk (below_step a0_ hb); have n1_ := Aside0.mk (hbox); have n2_ := Aside0.mk ((by rw [hg]; exact (below_size a0_) : w.heap.size ≤ gb108)); have n3_ := Aside0.mk ((by rw [hg]; exact (below_size a0_) : w.heap.size ≤ gb108)); clear HB; have HB := n0_; have BK108 := n1_; have GW108 := n2_; have GE108 := n3_; clear n0_ n1_ n2_ n3_; clear hb hbox hg; obtain ⟨hcz11_0, hcz11_1, hcz11_2, hcz11_3, hcz11_4, hfz11_0, hfz11_1, hfz11_2, hfz11_3, hfz11_4⟩ := c5f_ BK108.out) | ((with_reducible refine gate_callee (f := 18) rfl ?_); refine goesL_ (some 5) rfl rfl Tryd.func18 (by kernel_rfl) rfl #[.int .i64 a0_4, .int .i64 (-604799), .int .i64 604799] rfl a1_ ?_; (with_reducible refine (spec_Within.calls a0_4 (-604799) 604799 true _ A2.out).mono ?_); rintro e w' ⟨rfl, ⟨nd, rfl⟩⟩; refine ⟨_, rfl, ?_⟩) | ((with_reducible refine gate_callee (f := 18) rfl ?_); refine goesL_ (some 13) rfl rfl Tryd.func18 (by kernel_rfl) rfl #[.int .i64 a0_1, .int .i64 1, .int .i64 365] rfl a1_ ?_; (with_reducible refine (spec_Within.calls a0_1 1 365 true _ A5.out).mono ?_); rintro e w' ⟨rfl, ⟨nd, rfl⟩⟩; refine ⟨_, rfl, ?_⟩))
     go_ret
     exact ⟨by first | rfl | (simp [errW_none, errW_some] <;> rfl) | (simp [*, errW_none, errW_some] <;> rfl), by repeat (first | (with_reducible first | exact HB.out | apply below_alloc | apply pw_below_drewN | apply below_drew1 | refine below_set ?_ GE108.out) | exact HB.out)⟩
   ·replace c6 := Bool.eq_false_iff.mpr c6
    subst c6
    have H1 : (some false) = some r := by rw [if_neg (show ¬ (false = true) by decide)] at H; exact H
    clear H
    have H := H1
    clear H1
    obtain rfl := Option.some.inj H
    go_enter Tryd.func19, Tryd.ntmps19
    go_wp2_with (first | ((with_reducible refine gate_dst (N := 1) rfl ?_); refine box_event ?hg (N := 1) ?hd (cs := #[.int .i64 a0_0, .int .i64 a0_1, .int .i64 a0_2, .int .i64 a0_3, .int .i64 a0_4]) (t := 29) ?hr ?_; (case hd => rfl); (case hg => rfl); (case hr => first | (go_simp; done) | (go_simp; rfl)); intro gb108 hg w12 hbox hb; have n0_ := Aside0.mk (below_step a0_ hb); have n1_ := Aside0.mk (hbox); have n2_ := Aside0.mk ((by rw [hg]; exact (below_size a0_) : w.heap.size ≤ gb108)); have n3_ := Aside0.mk ((by rw [hg]; exact (below_size a0_) : w.heap.size ≤ gb108)); clear HB; have HB := n0_; have BK108 := n1_; have GW108 := n2_; have GE108 := n3_; clear n0_ n1_ n2_ n3_; clear hb hbox hg; obtain ⟨hcz13_0, hcz13_1, hcz13_2, hcz13_3, hcz13_4, hfz13_0, hfz13_1, hfz13_2, hfz13_3, hfz13_4⟩ := c5f_ BK108.out) | ((with_reducible refine gate_callee (f := 18) rfl ?_); refine goesL_ (some 5) rfl rfl Tryd.func18 (by kernel_rfl) rfl #[.int .i64 a0_4, .int .i64 (-604799), .int .i64 604799] rfl a1_ ?_; (with_reducible refine (spec_Within.calls a0_4 (-604799) 604799 true _ A2.out).mono ?_); rintro e w' ⟨rfl, ⟨nd, rfl⟩⟩; refine ⟨_, rfl, ?_⟩) | ((with_reducible refine gate_callee (f := 18) rfl ?_); refine goesL_ (some 13) rfl rfl Tryd.func18 (by kernel_rfl) rfl #[.int .i64 a0_1, .int .i64 1, .int .i64 365] rfl a1_ ?_; (with_reducible refine (spec_Within.calls a0_1 1 365 false _ A5.out).mono ?_); rintro e w' ⟨rfl, ⟨nd, rfl⟩⟩; refine ⟨_, rfl, ?_⟩))
    go_ret
    exact ⟨by first | rfl | (simp [errW_none, errW_some] <;> rfl) | (simp [*, errW_none, errW_some] <;> rfl), by repeat (first | (with_reducible first | exact HB.out | apply below_alloc | apply pw_below_drewN | apply below_drew1 | refine below_set ?_ GE108.out) | exact HB.out)⟩
  ·rw [if_neg c4] at H
   have c4b0 : (a0_0 == 0) = false := beq_eq_false_iff_ne.mpr c4
   have c4b1 : (a0_0 != 0) = true := bne_iff_ne.mpr c4
   by_cases c14 : a0_0 = 1
   ·rw [if_pos c14] at H
    have c14b0 : (a0_0 == 1) = true := beq_iff_eq.mpr c14
    have c14b1 : (a0_0 != 1) = false := bne_eq_false_iff_eq.mpr c14
    clear c14
    replace H := Option.bind_eq_some_iff.mp H
    obtain ⟨t111, A150, H⟩ := H
    replace H : (if t111 = true then (if a0_2 = 0 then (some (a0_3 == 0)) else (some false)) else (some false)) = some r := H
    have A15 := Aside0.mk A150
    clear A150
    by_cases c16 : t111 = true
    ·subst c16
     have H1 : (if a0_2 = 0 then (some (a0_3 == 0)) else (some false)) = some r := by rw [if_pos rfl] at H; exact H
     clear H
     have H := H1
     clear H1
     by_cases c17 : a0_2 = 0
     ·rw [if_pos c17] at H
      have c17b0 : (a0_2 == 0) = true := beq_iff_eq.mpr c17
      have c17b1 : (a0_2 != 0) = false := bne_eq_false_iff_eq.mpr c17
      clear c17
      obtain rfl := Option.some.inj H
      go_enter Tryd.func19, Tryd.ntmps19
      go_wp2_with (first | ((with_reducible refine gate_dst (N := 1) rfl ?_); refine box_event ?hg (N := 1) ?hd (cs := #[.int .i64 a0_0, .int .i64 a0_1, .int .i64 a0_2, .int .i64 a0_3, .int .i64 a0_4]) (t := 29) ?hr ?_; (case hd => rfl); (case hg => rfl); (case hr => first | (go_simp; done) | (go_simp; rfl)); intro gb108 hg w18 hbox hb; have n0_ := Aside0.mk (below_step a0_ hb); have n1_ := Aside0.mk (hbox); have n2_ := Aside0.mk ((by rw [hg]; exact (below_size a0_) : w.heap.size ≤ gb108)); have n3_ := Aside0.mk ((by rw [hg]; exact (below_size a0_) : w.heap.size ≤ gb108)); clear HB; have HB := n0_; have BK108 := n1_; have GW108 := n2_; have GE108 := n3_; clear n0_ n1_ n2_ n3_; clear hb hbox hg; obtain ⟨hcz19_0, hcz19_1, hcz19_2, hcz19_3, hcz19_4, hfz19_0, hfz19_1, hfz19_2, hfz19_3, hfz19_4⟩ := c5f_ BK108.out) | ((with_reducible refine gate_callee (f := 18) rfl ?_); refine goesL_ (some 5) rfl rfl Tryd.func18 (by kernel_rfl) rfl #[.int .i64 a0_4, .int .i64 (-604799), .int .i64 604799] rfl a1_ ?_; (with_reducible refine (spec_Within.calls a0_4 (-604799) 604799 true _ A2.out).mono ?_); rintro e w' ⟨rfl, ⟨nd, rfl⟩⟩; refine ⟨_, rfl, ?_⟩) | ((with_reducible refine gate_callee (f := 18) rfl ?_); refine goesL_ (some 28) rfl rfl Tryd.func18 (by kernel_rfl) rfl #[.int .i64 a0_1, .int .i64 0, .int .i64 365] rfl a1_ ?_; (with_reducible refine (spec_Within.calls a0_1 0 365 true _ A15.out).mono ?_); rintro e w' ⟨rfl, ⟨nd, rfl⟩⟩; refine ⟨_, rfl, ?_⟩))
      go_ret
      exact ⟨by first | rfl | (simp [errW_none, errW_some] <;> rfl) | (simp [*, errW_none, errW_some] <;> rfl), by repeat (first | (with_reducible first | exact HB.out | apply below_alloc | apply pw_below_drewN | apply below_drew1 | refine below_set ?_ GE108.out) | exact HB.out)⟩
     ·rw [if_neg c17] at H
      have c17b0 : (a0_2 == 0) = false := beq_eq_false_iff_ne.mpr c17
      have c17b1 : (a0_2 != 0) = true := bne_iff_ne.mpr c17
      obtain rfl := Option.some.inj H
      go_enter Tryd.func19, Tryd.ntmps19
      go_wp2_with (first | ((with_reducible refine gate_dst (N := 1) rfl ?_); refine box_event ?hg (N := 1) ?hd (cs := #[.int .i64 a0_0, .int .i64 a0_1, .int .i64 a0_2, .int .i64 a0_3, .int .i64 a0_4]) (t := 29) ?hr ?_; (case hd => rfl); (case hg => rfl); (case hr => first | (go_simp; done) | (go_simp; rfl)); intro gb108 hg w20 hbox hb; have n0_ := Aside0.mk (below_step a0_ hb); have n1_ := Aside0.mk (hbox); have n2_ := Aside0.mk ((by rw [hg]; exact (below_size a0_) : w.heap.size ≤ gb108)); have n3_ := Aside0.mk ((by rw [hg]; exact (below_size a0_) : w.heap.size ≤ gb108)); clear HB; have HB := n0_; have BK108 := n1_; have GW108 := n2_; have GE108 := n3_; clear n0_ n1_ n2_ n3_; clear hb hbox hg; obtain ⟨hcz21_0, hcz21_1, hcz21_2, hcz21_3, hcz21_4, hfz21_0, hfz21_1, hfz21_2, hfz21_3, hfz21_4⟩ := c5f_ BK108.out) | ((with_reducible refine gate_callee (f := 18) rfl ?_); refine goesL_ (some 5) rfl rfl Tryd.func18 (by kernel_rfl) rfl #[.int .i64 a0_4, .int .i64 (-604799), .int .i64 604799] rfl a1_ ?_; (with_reducible refine (spec_Within.calls a0_4 (-604799) 604799 true _ A2.out).mono ?_); rintro e w' ⟨rfl, ⟨nd, rfl⟩⟩; refine ⟨_, rfl, ?_⟩) | ((with_reducible refine gate_callee (f := 18) rfl ?_); refine goesL_ (some 28) rfl rfl Tryd.func18 (by kernel_rfl) rfl #[.int .i64 a0_1, .int .i64 0, .int .i64 365] rfl a1_ ?_; (with_reducible refine (spec_Within.calls a0_1 0 365 true _ A15.out).mono ?_); rintro e w' ⟨rfl, ⟨nd, rfl⟩⟩; refine ⟨_, rfl, ?_⟩))
      go_ret
      exact ⟨by first | rfl | (simp [errW_none, errW_some] <;> rfl) | (simp [*, errW_none, errW_some] <;> rfl), by repeat (first | (with_reducible first | exact HB.out | apply below_alloc | apply pw_below_drewN | apply below_drew1 | refine below_set ?_ GE108.out) | exact HB.out)⟩
    ·replace c16 := Bool.eq_false_iff.mpr c16
     subst c16
     have H1 : (some false) = some r := by rw [if_neg (show ¬ (false = true) by decide)] at H; exact H
     clear H
     have H := H1
     clear H1
     obtain rfl := Option.some.inj H
     go_enter Tryd.func19, Tryd.ntmps19
     go_wp2_with (first | ((with_reducible refine gate_dst (N := 1) rfl ?_); refine box_event ?hg (N := 1) ?hd (cs := #[.int .i64 a0_0, .int .i64 a0_1, .int .i64 a0_2, .int .i64 a0_3, .int .i64 a0_4]) (t := 29) ?hr ?_; (case hd => rfl); (case hg => rfl); (case hr => first | (go_simp; done) | (go_simp; rfl)); intro gb108 hg w22 hbox hb; have n0_ := Aside0.mk (below_step a0_ hb); have n1_ := Aside0.mk (hbox); have n2_ := Aside0.mk ((by rw [hg]; exact (below_size a0_) : w.heap.size ≤ gb108)); have n3_ := Aside0.mk ((by rw [hg]; exact (below_size a0_) : w.heap.size ≤ gb108)); clear HB; have HB := n0_; have BK108 := n1_; have GW108 := n2_; have GE108 := n3_; clear n0_ n1_ n2_ n3_; clear hb hbox hg; obtain ⟨hcz23_0, hcz23_1, hcz23_2, hcz23_3, hcz23_4, hfz23_0, hfz23_1, hfz23_2, hfz23_3, hfz23_4⟩ := c5f_ BK108.out) | ((with_reducible refine gate_callee (f := 18) rfl ?_); refine goesL_ (some 5) rfl rfl Tryd.func18 (by kernel_rfl) rfl #[.int .i64 a0_4, .int .i64 (-604799), .int .i64 604799] rfl a1_ ?_; (with_reducible refine (spec_Within.calls a0_4 (-604799) 604799 true _ A2.out).mono ?_); rintro e w' ⟨rfl, ⟨nd, rfl⟩⟩; refine ⟨_, rfl, ?_⟩) | ((with_reducible refine gate_callee (f := 18) rfl ?_); refine goesL_ (some 28) rfl rfl Tryd.func18 (by kernel_rfl) rfl #[.int .i64 a0_1, .int .i64 0, .int .i64 365] rfl a1_ ?_; (with_reducible refine (spec_Within.calls a0_1 0 365 false _ A15.out).mono ?_); rintro e w' ⟨rfl, ⟨nd, rfl⟩⟩; refine ⟨_, rfl, ?_⟩))
     go_ret
     exact ⟨by first | rfl | (simp [errW_none, errW_some] <;> rfl) | (simp [*, errW_none, errW_some] <;> rfl), by repeat (first | (with_reducible first | exact HB.out | apply below_alloc | apply pw_below_drewN | apply below_drew1 | refine below_set ?_ GE108.out) | exact HB.out)⟩
   ·rw [if_neg c14] at H
    have c14b0 : (a0_0 == 1) = false := beq_eq_false_iff_ne.mpr c14
    have c14b1 : (a0_0 != 1) = true := bne_iff_ne.mpr c14
    by_cases c24 : a0_0 = 2
    ·rw [if_pos c24] at H
     have c24b0 : (a0_0 == 2) = true := beq_iff_eq.mpr c24
     have c24b1 : (a0_0 != 2) = false := bne_eq_false_iff_eq.mpr c24
     clear c24
     replace H := Option.bind_eq_some_iff.mp H
     obtain ⟨t112, A250, H⟩ := H
     replace H : (if t112 = true then ((spec_Within.f a0_2 1 5).bind fun t113 => (if t113 = true then ((spec_Within.f a0_3 1 12).bind fun t114 => (some t114)) else (some false))) else (some false)) = some r := H
     have A25 := Aside0.mk A250
     clear A250
     by_cases c26 : t112 = true
     ·subst c26
      have H1 : ((spec_Within.f a0_2 1 5).bind fun t113 => (if t113 = true then ((spec_Within.f a0_3 1 12).bind fun t114 => (some t114)) else (some false))) = some r := by rw [if_pos rfl] at H; exact H
      clear H
      have H := H1
      clear H1
      replace H := Option.bind_eq_some_iff.mp H
      obtain ⟨t113, A270, H⟩ := H
      replace H : (if t113 = true then ((spec_Within.f a0_3 1 12).bind fun t114 => (some t114)) else (some false)) = some r := H
      have A27 := Aside0.mk A270
      clear A270
      by_cases c28 : t113 = true
      ·subst c28
       have H1 : ((spec_Within.f a0_3 1 12).bind fun t114 => (some t114)) = some r := by rw [if_pos rfl] at H; exact H
       clear H
       have H := H1
       clear H1
       replace H := Option.bind_eq_some_iff.mp H
       obtain ⟨t114, A290, H⟩ := H
       replace H : (some t114) = some r := H
       have A29 := Aside0.mk A290
       clear A290
       obtain rfl := Option.some.inj H
       go_enter Tryd.func19, Tryd.ntmps19
       go_wp2_with (first | ((with_reducible refine gate_dst (N := 1) rfl ?_); refine box_event ?hg (N := 1) ?hd (cs := #[.int .i64 a0_0, .int .i64 a0_1, .int .i64 a0_2, .int .i64 a0_3, .int .i64 a0_4]) (t := 29) ?hr ?_; (case hd => rfl); (case hg => rfl); (case hr => first | (go_simp; done) | (go_simp; rfl)); intro gb108 hg w30 hbox hb; have n0_ := Aside0.mk (below_step a0_ hb); have n1_ := Aside0.mk (hbox); have n2_ := Aside0.mk ((by rw [hg]; exact (below_size a0_) : w.heap.size ≤ gb108)); have n3_ := Aside0.mk ((by rw [hg]; exact (below_size a0_) : w.heap.size ≤ gb108)); clear HB; have HB := n0_; have BK108 := n1_; have GW108 := n2_; have GE108 := n3_; clear n0_ n1_ n2_ n3_; clear hb hbox hg; obtain ⟨hcz31_0, hcz31_1, hcz31_2, hcz31_3, hcz31_4, hfz31_0, hfz31_1, hfz31_2, hfz31_3, hfz31_4⟩ := c5f_ BK108.out) | ((with_reducible refine gate_callee (f := 18) rfl ?_); refine goesL_ (some 5) rfl rfl Tryd.func18 (by kernel_rfl) rfl #[.int .i64 a0_4, .int .i64 (-604799), .int .i64 604799] rfl a1_ ?_; (with_reducible refine (spec_Within.calls a0_4 (-604799) 604799 true _ A2.out).mono ?_); rintro e w' ⟨rfl, ⟨nd, rfl⟩⟩; refine ⟨_, rfl, ?_⟩) | ((with_reducible refine gate_callee (f := 18) rfl ?_); refine goesL_ (some 43) rfl rfl Tryd.func18 (by kernel_rfl) rfl #[.int .i64 a0_1, .int .i64 0, .int .i64 6] rfl a1_ ?_; (with_reducible refine (spec_Within.calls a0_1 0 6 true _ A25.out).mono ?_); rintro e w' ⟨rfl, ⟨nd, rfl⟩⟩; refine ⟨_, rfl, ?_⟩) | (go_at_call 18; (with_reducible refine (spec_Within.calls a0_2 1 5 true _ A27.out).mono ?_); rintro e w' ⟨rfl, ⟨nd, rfl⟩⟩) | (go_at_call 18; (with_reducible refine (spec_Within.calls a0_3 1 12 t114 _ A29.out).mono ?_); rintro e w' ⟨rfl, ⟨nd, rfl⟩⟩))
       go_ret
       exact ⟨by first | rfl | (simp [errW_none, errW_some] <;> rfl) | (simp [*, errW_none, errW_some] <;> rfl), by repeat (first | (with_reducible first | exact HB.out | apply below_alloc | apply pw_below_drewN | apply below_drew1 | refine below_set ?_ GE108.out) | exact HB.out)⟩
      ·replace c28 := Bool.eq_false_iff.mpr c28
       subst c28
       have H1 : (some false) = some r := by rw [if_neg (show ¬ (false = true) by decide)] at H; exact H
       clear H
       have H := H1
       clear H1
       obtain rfl := Option.some.inj H
       go_enter Tryd.func19, Tryd.ntmps19
       go_wp2_with (first | ((with_reducible refine gate_dst (N := 1) rfl ?_); refine box_event ?hg (N := 1) ?hd (cs := #[.int .i64 a0_0, .int .i64 a0_1, .int .i64 a0_2, .int .i64 a0_3, .int .i64 a0_4]) (t := 29) ?hr ?_; (case hd => rfl); (case hg => rfl); (case hr => first | (go_simp; done) | (go_simp; rfl)); intro gb108 hg w32 hbox hb; have n0_ := Aside0.mk (below_step a0_ hb); have n1_ := Aside0.mk (hbox); have n2_ := Aside0.mk ((by rw [hg]; exact (below_size a0_) : w.heap.size ≤ gb108)); have n3_ := Aside0.mk ((by rw [hg]; exact (below_size a0_) : w.heap.size ≤ gb108)); clear HB; have HB := n0_; have BK108 := n1_; have GW108 := n2_; have GE108 := n3_; clear n0_ n1_ n2_ n3_; clear hb hbox hg; obtain ⟨hcz33_0, hcz33_1, hcz33_2, hcz33_3, hcz33_4, hfz33_0, hfz33_1, hfz33_2, hfz33_3, hfz33_4⟩ := c5f_ BK108.out) | ((with_reducible refine gate_callee (f := 18) rfl ?_); refine goesL_ (some 5) rfl rfl Tryd.func18 (by kernel_rfl) rfl #[.int .i64 a0_4, .int .i64 (-604799), .int .i64 604799] rfl a1_ ?_; (with_reducible refine (spec_Within.calls a0_4 (-604799) 604799 true _ A2.out).mono ?_); rintro e w' ⟨rfl, ⟨nd, rfl⟩⟩; refine ⟨_, rfl, ?_⟩) | ((with_reducible refine gate_callee (f := 18) rfl ?_); refine goesL_ (some 43) rfl rfl Tryd.func18 (by kernel_rfl) rfl #[.int .i64 a0_1, .int .i64 0, .int .i64 6] rfl a1_ ?_; (with_reducible refine (spec_Within.calls a0_1 0 6 true _ A25.out).mono ?_); rintro e w' ⟨rfl, ⟨nd, rfl⟩⟩; refine ⟨_, rfl, ?_⟩) | (go_at_call 18; (with_reducible refine (spec_Within.calls a0_2 1 5 false _ A27.out).mono ?_); rintro e w' ⟨rfl, ⟨nd, rfl⟩⟩))
       go_ret
       exact ⟨by first | rfl | (simp [errW_none, errW_some] <;> rfl) | (simp [*, errW_none, errW_some] <;> rfl), by repeat (first | (with_reducible first | exact HB.out | apply below_alloc | apply pw_below_drewN | apply below_drew1 | refine below_set ?_ GE108.out) | exact HB.out)⟩
     ·replace c26 := Bool.eq_false_iff.mpr c26
      subst c26
      have H1 : (some false) = some r := by rw [if_neg (show ¬ (false = true) by decide)] at H; exact H
      clear H
      have H := H1
      clear H1
      obtain rfl := Option.some.inj H
      go_enter Tryd.func19, Tryd.ntmps19
      go_wp2_with (first | ((with_reducible refine gate_dst (N := 1) rfl ?_); refine box_event ?hg (N := 1) ?hd (cs := #[.int .i64 a0_0, .int .i64 a0_1, .int .i64 a0_2, .int .i64 a0_3, .int .i64 a0_4]) (t := 29) ?hr ?_; (case hd => rfl); (case hg => rfl); (case hr => first | (go_simp; done) | (go_simp; rfl)); intro gb108 hg w34 hbox hb; have n0_ := Aside0.mk (below_step a0_ hb); have n1_ := Aside0.mk (hbox); have n2_ := Aside0.mk ((by rw [hg]; exact (below_size a0_) : w.heap.size ≤ gb108)); have n3_ := Aside0.mk ((by rw [hg]; exact (below_size a0_) : w.heap.size ≤ gb108)); clear HB; have HB := n0_; have BK108 := n1_; have GW108 := n2_; have GE108 := n3_; clear n0_ n1_ n2_ n3_; clear hb hbox hg; obtain ⟨hcz35_0, hcz35_1, hcz35_2, hcz35_3, hcz35_4, hfz35_0, hfz35_1, hfz35_2, hfz35_3, hfz35_4⟩ := c5f_ BK108.out) | ((with_reducible refine gate_callee (f := 18) rfl ?_); refine goesL_ (some 5) rfl rfl Tryd.func18 (by kernel_rfl) rfl #[.int .i64 a0_4, .int .i64 (-604799), .int .i64 604799] rfl a1_ ?_; (with_reducible refine (spec_Within.calls a0_4 (-604799) 604799 true _ A2.out).mono ?_); rintro e w' ⟨rfl, ⟨nd, rfl⟩⟩; refine ⟨_, rfl, ?_⟩) | ((with_reducible refine gate_callee (f := 18) rfl ?_); refine goesL_ (some 43) rfl rfl Tryd.func18 (by kernel_rfl) rfl #[.int .i64 a0_1, .int .i64 0, .int .i64 6] rfl a1_ ?_; (with_reducible refine (spec_Within.calls a0_1 0 6 false _ A25.out).mono ?_); rintro e w' ⟨rfl, ⟨nd, rfl⟩⟩; refine ⟨_, rfl, ?_⟩))
      go_ret
      exact ⟨by first | rfl | (simp [errW_none, errW_some] <;> rfl) | (simp [*, errW_none, errW_some] <;> rfl), by repeat (first | (with_reducible first | exact HB.out | apply below_alloc | apply pw_below_drewN | apply below_drew1 | refine below_set ?_ GE108.out) | exact HB.out)⟩
    ·rw [if_neg c24] at H
     have c24b0 : (a0_0 == 2) = false := beq_eq_false_iff_ne.mpr c24
     have c24b1 : (a0_0 != 2) = true := bne_iff_ne.mpr c24
     obtain rfl := Option.some.inj H
     go_enter Tryd.func19, Tryd.ntmps19
     go_wp2_with (first | ((with_reducible refine gate_dst (N := 1) rfl ?_); refine box_event ?hg (N := 1) ?hd (cs := #[.int .i64 a0_0, .int .i64 a0_1, .int .i64 a0_2, .int .i64 a0_3, .int .i64 a0_4]) (t := 29) ?hr ?_; (case hd => rfl); (case hg => rfl); (case hr => first | (go_simp; done) | (go_simp; rfl)); intro gb108 hg w36 hbox hb; have n0_ := Aside0.mk (below_step a0_ hb); have n1_ := Aside0.mk (hbox); have n2_ := Aside0.mk ((by rw [hg]; exact (below_size a0_) : w.heap.size ≤ gb108)); have n3_ := Aside0.mk ((by rw [hg]; exact (below_size a0_) : w.heap.size ≤ gb108)); clear HB; have HB := n0_; have BK108 := n1_; have GW108 := n2_; have GE108 := n3_; clear n0_ n1_ n2_ n3_; clear hb hbox hg; obtain ⟨hcz37_0, hcz37_1, hcz37_2, hcz37_3, hcz37_4, hfz37_0, hfz37_1, hfz37_2, hfz37_3, hfz37_4⟩ := c5f_ BK108.out) | ((with_reducible refine gate_callee (f := 18) rfl ?_); refine goesL_ (some 5) rfl rfl Tryd.func18 (by kernel_rfl) rfl #[.int .i64 a0_4, .int .i64 (-604799), .int .i64 604799] rfl a1_ ?_; (with_reducible refine (spec_Within.calls a0_4 (-604799) 604799 true _ A2.out).mono ?_); rintro e w' ⟨rfl, ⟨nd, rfl⟩⟩; refine ⟨_, rfl, ?_⟩))
     go_ret
     exact ⟨by first | rfl | (simp [errW_none, errW_some] <;> rfl) | (simp [*, errW_none, errW_some] <;> rfl), by repeat (first | (with_reducible first | exact HB.out | apply below_alloc | apply pw_below_drewN | apply below_drew1 | refine below_set ?_ GE108.out) | exact HB.out)⟩
 ·replace c3 := Bool.eq_false_iff.mpr c3
  subst c3
  have H1 : (some false) = some r := by rw [if_neg (show ¬ (false = true) by decide)] at H; exact H
  clear H
  have H := H1
  clear H1
  obtain rfl := Option.some.inj H
  go_enter Tryd.func19, Tryd.ntmps19
  go_wp2_with (first | ((with_reducible refine gate_dst (N := 1) rfl ?_); refine box_event ?hg (N := 1) ?hd (cs := #[.int .i64 a0_0, .int .i64 a0_1, .int .i64 a0_2, .int .i64 a0_3, .int .i64 a0_4]) (t := 29) ?hr ?_; (case hd => rfl); (case hg => rfl); (case hr => first | (go_simp; done) | (go_simp; rfl)); intro gb108 hg w38 hbox hb; have n0_ := Aside0.mk (below_step a0_ hb); have n1_ := Aside0.mk (hbox); have n2_ := Aside0.mk ((by rw [hg]; exact (below_size a0_) : w.heap.size ≤ gb108)); have n3_ := Aside0.mk ((by rw [hg]; exact (below_size a0_) : w.heap.size ≤ gb108)); clear HB; have HB := n0_; have BK108 := n1_; have GW108 := n2_; have GE108 := n3_; clear n0_ n1_ n2_ n3_; clear hb hbox hg; obtain ⟨hcz39_0, hcz39_1, hcz39_2, hcz39_3, hcz39_4, hfz39_0, hfz39_1, hfz39_2, hfz39_3, hfz39_4⟩ := c5f_ BK108.out) | ((with_reducible refine gate_callee (f := 18) rfl ?_); refine goesL_ (some 5) rfl rfl Tryd.func18 (by kernel_rfl) rfl #[.int .i64 a0_4, .int .i64 (-604799), .int .i64 604799] rfl a1_ ?_; (with_reducible refine (spec_Within.calls a0_4 (-604799) 604799 false _ A2.out).mono ?_); rintro e w' ⟨rfl, ⟨nd, rfl⟩⟩; refine ⟨_, rfl, ?_⟩))
  go_ret
  exact ⟨by first | rfl | (simp [errW_none, errW_some] <;> rfl) | (simp [*, errW_none, errW_some] <;> rfl), by repeat (first | (with_reducible first | exact HB.out | apply below_alloc | apply pw_below_drewN | apply below_drew1 | refine below_set ?_ GE108.out) | exact HB.out)⟩
end Go.Proofs.YtjoaeennbfmohaaDoor.PFnZone
