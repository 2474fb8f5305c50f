/- The walks of some functions. Laid by programs (wip/mkq.py, wip/mkclaim.py) out of the texts that the kit's print.sh wrote for this seat, written shorter. Not written by hand. -/
import Derived.Test.YtjoaeennbfmohaaDoorC0
import Derived.Test.YtjoaeennbfmohaaDoorC4
namespace Go.Proofs.YtjoaeennbfmohaaDoor.PFnZone
open Go.RowKit Go.Proofs.YtjoaeennbfmohaaDoorW.PrintWords Go.Proofs.YtjoaeennbfmohaaDoorW.PrintLast Go.Proofs.YtjoaeennbfmohaaDoorW.PrintMore
attribute [local go_sem] max2_int min2_int max_two min_two max_three min_three max_four min_four   -- for this text's walks alone
set_option linter.unusedVariables false
set_option linter.unusedSimpArgs false
def spec_File2.f (k : Nat) (a0_0 : ByteArray) (l0_1 : List (S27)) (l0_2 : List (S45)) (a0_3 : ByteArray) : Option (ByteArray) := if 1 ≤ (l0_1.length : Int) then ((spec_block.f k (⟨#[]⟩ : ByteArray) (l0_1.take 1) ([] : List (S45)) (⟨#[]⟩ : ByteArray) 50 4).bind fun t221 => ((spec_block.f k a0_0 l0_1 l0_2 a0_3 50 8).bind fun t222 => (if t221.size + t222.size ≤ 9223372036854775807 then (if (t221 ++ t222).size + 1 ≤ 9223372036854775807 then (if ((t221 ++ t222) ++ (⟨#[10]⟩ : ByteArray)).size + a0_3.size ≤ 9223372036854775807 then (if (((t221 ++ t222) ++ (⟨#[10]⟩ : ByteArray)) ++ a0_3).size + 1 ≤ 9223372036854775807 then (some ((((t221 ++ t222) ++ (⟨#[10]⟩ : ByteArray)) ++ a0_3) ++ (⟨#[10]⟩ : ByteArray))) else (none)) else (none)) else (none)) else (none)))) else (none)
def spec_File2.T1 : Bool × List (List Nat × List Nat) := (true, [([], []), ([0], [0]), ([1], [1]), ([2], [2]), ([3], [3]), ([], []), ([5, 4], [5]), ([4, 6], [4, 6]), ([7], [7]), ([], []), ([9], [9]), ([8, 10], [8, 10]), ([11], [11]), ([12, 6, 0, 1, 2, 3, 4, 5, 6, 7, 8, 9, 10, 11, 12], [12])])
def spec_File2.B1 : List Nat := [0, 1, 3, 7, 15, 0, 63, 127, 255, 0, 512, 2047, 4095, 8191]
theorem spec_File2.tab1 : rtab .any (opsOf Tryd.f11 1) = spec_File2.T1 := by kernel_rfl
theorem spec_File2.bits1 : waitsOk spec_File2.T1.2 spec_File2.B1 = true := by kernel_rfl
set_option maxHeartbeats 8000000 in
set_option maxRecDepth 100000 in
theorem spec_File2.calls (k : Nat) (a0_0 : ByteArray) (A0_1 : Option Addr) (c0_1 : Nat) (l0_1 : List (S27)) (A0_2 : Option Addr) (c0_2 : Nat) (l0_2 : List (S45)) (a0_3 : ByteArray) (r : ByteArray) (w : World) (hr0_1 : Kd.C k27 w A0_1 l0_1.length l0_1) (hc0_1 : l0_1.length ≤ c0_1) (hr0_2 : Kd.C k45 w A0_2 l0_2.length l0_2) (hc0_2 : l0_2.length ≤ c0_2) (h : spec_File2.f k a0_0 l0_1 l0_2 a0_3 = some r) :
  Calls Tryd.prog 11 #[.agg #[.string a0_0, .slice A0_1 l0_1.length c0_1, .slice A0_2 l0_2.length c0_2, .string a0_3]] w fun e w' => e = .returned (.string r) ∧ Below w.heap.size w w' := by
 have hu25 := Tryd.underlying25
 have HR0_1 := Aside0.mk hr0_1
 have HC0_1 := Aside0.mk hc0_1
 clear hr0_1 hc0_1
 have HR0_2 := Aside0.mk hr0_2
 have HC0_2 := Aside0.mk hc0_2
 clear hr0_2 hc0_2
 have HB := Aside0.mk (Below.refl w.heap.size w)
 have H : (if 1 ≤ (l0_1.length : Int) then ((spec_block.f k (⟨#[]⟩ : ByteArray) (l0_1.take 1) ([] : List (S45)) (⟨#[]⟩ : ByteArray) 50 4).bind fun t221 => ((spec_block.f k a0_0 l0_1 l0_2 a0_3 50 8).bind fun t222 => (if t221.size + t222.size ≤ 9223372036854775807 then (if (t221 ++ t222).size + 1 ≤ 9223372036854775807 then (if ((t221 ++ t222) ++ (⟨#[10]⟩ : ByteArray)).size + a0_3.size ≤ 9223372036854775807 then (if (((t221 ++ t222) ++ (⟨#[10]⟩ : ByteArray)) ++ a0_3).size + 1 ≤ 9223372036854775807 then (some ((((t221 ++ t222) ++ (⟨#[10]⟩ : ByteArray)) ++ a0_3) ++ (⟨#[10]⟩ : ByteArray))) else (none)) else (none)) else (none)) else (none)))) else (none)) = some r := h
 clear h
 by_cases c2 : 1 ≤ (l0_1.length : Int)
 ·rw [if_pos c2] at H
  have c2b0 := eq_true c2
  have c2b1 := decide_eq_true c2
  clear c2
  obtain ⟨y217, hy217⟩ : ∃ y_ : List (S27), y_ = (l0_1.take 1) := ⟨_, rfl⟩
  replace H : ((spec_block.f k (⟨#[]⟩ : ByteArray) y217 ([] : List (S45)) (⟨#[]⟩ : ByteArray) 50 4).bind fun t221 => ((spec_block.f k a0_0 l0_1 l0_2 a0_3 50 8).bind fun t222 => (if t221.size + t222.size ≤ 9223372036854775807 then (if (t221 ++ t222).size + 1 ≤ 9223372036854775807 then (if ((t221 ++ t222) ++ (⟨#[10]⟩ : ByteArray)).size + a0_3.size ≤ 9223372036854775807 then (if (((t221 ++ t222) ++ (⟨#[10]⟩ : ByteArray)) ++ a0_3).size + 1 ≤ 9223372036854775807 then (some ((((t221 ++ t222) ++ (⟨#[10]⟩ : ByteArray)) ++ a0_3) ++ (⟨#[10]⟩ : ByteArray))) else (none)) else (none)) else (none)) else (none)))) = some r := by first | (rw [hy217]; with_reducible exact H) | (have H2_ := (Option.bind_some _ _).symm.trans H; rw [hy217]; with_reducible exact H2_) | (have H2_ := (Option.bind_some _ _).symm.trans H; with_reducible exact H2_) | with_reducible exact H | (rw [hy217]; exact H) | exact H
  have Ny217 := Aside0.mk hy217
  clear hy217
  replace H := Option.bind_eq_some_iff.mp H
  obtain ⟨t221, A30, H⟩ := H
  replace H : ((spec_block.f k a0_0 l0_1 l0_2 a0_3 50 8).bind fun t222 => (if t221.size + t222.size ≤ 9223372036854775807 then (if (t221 ++ t222).size + 1 ≤ 9223372036854775807 then (if ((t221 ++ t222) ++ (⟨#[10]⟩ : ByteArray)).size + a0_3.size ≤ 9223372036854775807 then (if (((t221 ++ t222) ++ (⟨#[10]⟩ : ByteArray)) ++ a0_3).size + 1 ≤ 9223372036854775807 then (some ((((t221 ++ t222) ++ (⟨#[10]⟩ : ByteArray)) ++ a0_3) ++ (⟨#[10]⟩ : ByteArray))) else (none)) else (none)) else (none)) else (none))) = some r := H
  have A3 := Aside0.mk A30
  clear A30
  replace H := Option.bind_eq_some_iff.mp H
  obtain ⟨t222, A40, H⟩ := H
  replace H : (if t221.size + t222.size ≤ 9223372036854775807 then (if (t221 ++ t222).size + 1 ≤ 9223372036854775807 then (if ((t221 ++ t222) ++ (⟨#[10]⟩ : ByteArray)).size + a0_3.size ≤ 9223372036854775807 then (if (((t221 ++ t222) ++ (⟨#[10]⟩ : ByteArray)) ++ a0_3).size + 1 ≤ 9223372036854775807 then (some ((((t221 ++ t222) ++ (⟨#[10]⟩ : ByteArray)) ++ a0_3) ++ (⟨#[10]⟩ : ByteArray))) else (none)) else (none)) else (none)) else (none)) = some r := H
  have A4 := Aside0.mk A40
  clear A40
  by_cases c5 : t221.size + t222.size ≤ 9223372036854775807
  ·rw [if_pos c5] at H
   have c5b0 := eq_true c5
   have c5b1 := decide_eq_true c5
   try have c5b2 := eq_false (Nat.not_lt.2 c5)
   by_cases c6 : (t221 ++ t222).size + 1 ≤ 9223372036854775807
   ·rw [if_pos c6] at H
    have c6b0 := eq_true c6
    have c6b1 := decide_eq_true c6
    try have c6b2 := eq_false (Nat.not_lt.2 c6)
    try (have c6b9 := c6b2; simp only [ByteArray.size_append] at c6b9)
    by_cases c7 : ((t221 ++ t222) ++ (⟨#[10]⟩ : ByteArray)).size + a0_3.size ≤ 9223372036854775807
    ·rw [if_pos c7] at H
     have c7b0 := eq_true c7
     have c7b1 := decide_eq_true c7
     try have c7b2 := eq_false (Nat.not_lt.2 c7)
     try (have c7b9 := c7b2; simp only [ByteArray.size_append, show (⟨#[10]⟩ : ByteArray).size = 1 from rfl] at c7b9)
     by_cases c8 : (((t221 ++ t222) ++ (⟨#[10]⟩ : ByteArray)) ++ a0_3).size + 1 ≤ 9223372036854775807
     ·rw [if_pos c8] at H
      have c8b0 := eq_true c8
      have c8b1 := decide_eq_true c8
      try have c8b2 := eq_false (Nat.not_lt.2 c8)
      try (have c8b9 := c8b2; simp only [ByteArray.size_append, show (⟨#[10]⟩ : ByteArray).size = 1 from rfl] at c8b9)
      obtain rfl := Option.some.inj H
      go_enter Tryd.func11, Tryd.ntmps11
      try go_wp2_with (first | ((with_reducible refine gate_dst (N := 1) rfl ?_); refine box_event ?hg (N := 1) ?hd (cs := #[.string a0_0, .slice A0_1 l0_1.length c0_1, .slice A0_2 l0_2.length c0_2, .string a0_3]) (t := 25) ?hr ?_; (case hd => rfl); (case hg => rfl); (case hr => first | (go_simp; done) | (go_simp; rfl)); intro gb216 hg w9 hbox hb; have n0_ := Aside0.mk (below_step a0_ hb); have n1_ := Aside0.mk (hbox); have n2_ := Aside0.mk ((by rw [hg]; exact (below_size a0_) : w.heap.size ≤ gb216)); have n3_ := Aside0.mk ((by rw [hg]; exact (below_size a0_) : w.heap.size ≤ gb216)); clear HB; have HB := n0_; have BK216 := n1_; have GW216 := n2_; have GE216 := n3_; clear n0_ n1_ n2_ n3_; clear hb hbox hg))
      have n0_ := Aside0.mk (blk_drew BK216.out)
      have n1_ := Aside0.mk (below_drew1 HB.out)
      clear BK216
      clear HB
      have BK216 := n0_
      have HB := n1_
      clear n0_ n1_
      have q11 : (1 : Int) ≤ ((l0_1.length : Int) : Int) := of_decide_eq_true a3_
      obtain ⟨i011, hi011, _, hsz11, _⟩ := info_parts info27
      have hroom11 : l0_1.length ≤ c0_1 := HC0_1.out
      have hC11 : Kd.C k27 _ A0_1 l0_1.length l0_1 := HR0_1.out
      have hcut11 := cut_to (P := Tryd.prog) 22 27 .i64 Tryd.underlying22 hi011 A0_1 l0_1.length c0_1 1 (by omega) q11 hroom11
      have hr11 := Kd.C_take (m := 1) hC11 (by omega)
      have hy11 : y217.length = (1 : Int).toNat := (by rw [Ny217.out, List.length_take]; omega)
      rw [← Ny217.out] at hr11
      rw [← hy11] at hcut11
      have HR220 := Aside0.mk hr11
      have HC220 := Aside0.mk (show y217.length ≤ c0_1 from by omega)
      clear hr11 hC11 hroom11 hi011 hsz11
      have KY11 := Aside0.mk hy11
      clear hy11
      replace q11 := eq_true q11
      refine start_ (n := 14) (S := fun w' => w'.cell? ⟨gb216, 0, none⟩ = some (.string a0_0) ∧ w'.cell? ⟨gb216, 1, none⟩ = some (.slice A0_1 l0_1.length c0_1) ∧ w'.cell? ⟨gb216, 2, none⟩ = some (.slice A0_2 l0_2.length c0_2) ∧ w'.cell? ⟨gb216, 3, none⟩ = some (.string a0_3)) (ds := []) #[false, false, false, false, false, false, false, false, false, false, false, false, false, false] (by kernel_rfl) rfl rfl ⟨(blk_cell BK216.out 0).trans rfl, (blk_cell BK216.out 1).trans rfl, (blk_cell BK216.out 2).trans rfl, (blk_cell BK216.out 3).trans rfl⟩ (fun hHeld => ?_); refine with_tabW spec_File2.tab1 spec_File2.bits1 (fun HT_ HW_ => ?_)
      generalize w9.drew = w10 at BK216 HB HR220 hHeld ⊢
      refine pure_ (i := 0) (N := some 3) (v := ?_) (a' := ?_) #[true, false, false, false, false, false, false, false, false, false, false, false, false, false] rfl rfl (any_of HT_.out (by kernel_rfl)) (fun _ _ _ h => h) (Or.inl ⟨by rfl, ?_⟩) ?_ ?_
      rotate_left
      ·intro w'
       go_simp
       with_reducible rfl
      rotate_left
      ·simp only [Act.put, List.setIfInBounds_toArray, List.set_cons_zero, List.set_cons_succ, i64_w, i32_w]
       rfl
      refine pure_ (i := 9) (N := some 12) (v := ?_) (a' := ?_) #[true, false, false, false, false, false, false, false, false, true, false, false, false, false] rfl rfl (any_of HT_.out (by kernel_rfl)) (fun _ _ _ h => h) (Or.inl ⟨by rfl, ?_⟩) ?_ ?_
      rotate_left
      ·intro w'
       go_simp
       with_reducible rfl
      rotate_left
      ·simp only [Act.put, List.setIfInBounds_toArray, List.set_cons_zero, List.set_cons_succ, i64_w, i32_w]
       rfl
      refine take_ (i := 1) (N := some 4) (v := ?_) (a' := ?_) #[true, true, false, false, false, false, false, false, false, true, false, false, false, false] rfl rfl (take_ofW HT_.out HW_.out (by kernel_rfl)) (fun _ _ _ h => h) (Or.inl ⟨by rfl, ?_⟩) hHeld ?_ ?_
      rotate_left
      ·rintro w' ⟨s0, s1, s2, s3⟩
       go_simp
       with_reducible rfl
      rotate_left
      ·simp only [Act.put, List.setIfInBounds_toArray, List.set_cons_zero, List.set_cons_succ, i64_w, i32_w]
       rfl
      refine pure_ (i := 2) (N := some 5) (v := ?_) (a' := ?_) #[true, true, true, false, false, false, false, false, false, true, false, false, false, false] rfl rfl (any_of HT_.out (by kernel_rfl)) (fun _ _ _ h => h) (Or.inl ⟨by rfl, ?_⟩) ?_ ?_
      rotate_left
      ·intro w'
       go_simp
       with_reducible rfl
      rotate_left
      ·simp only [Act.put, List.setIfInBounds_toArray, List.set_cons_zero, List.set_cons_succ, i64_w, i32_w]
       rfl
      refine pure_ (i := 3) (N := some 6) (v := ?_) (a' := ?_) #[true, true, true, true, false, false, false, false, false, true, false, false, false, false] rfl rfl (any_of HT_.out (by kernel_rfl)) (fun _ _ _ h => h) (Or.inl ⟨by rfl, ?_⟩) ?_ ?_
      rotate_left
      ·intro w'
       go_simp
       with_reducible rfl
      rotate_left
      ·simp only [Act.put, List.setIfInBounds_toArray, List.set_cons_zero, List.set_cons_succ, i64_w, i32_w]
       rfl
      refine take_ (i := 5) (N := some 8) (v := ?_) (a' := ?_) #[true, true, true, true, false, true, false, false, false, true, false, false, false, false] rfl rfl (take_ofW HT_.out HW_.out (by kernel_rfl)) (fun _ _ _ h => h) (Or.inl ⟨by rfl, ?_⟩) hHeld ?_ ?_
      rotate_left
      ·rintro w' ⟨s0, s1, s2, s3⟩
       go_simp
       with_reducible rfl
      rotate_left
      ·simp only [Act.put, List.setIfInBounds_toArray, List.set_cons_zero, List.set_cons_succ, i64_w, i32_w]
       rfl
      refine take_ (i := 10) (N := some 13) (v := ?_) (a' := ?_) #[true, true, true, true, false, true, false, false, false, true, true, false, false, false] rfl rfl (take_ofW HT_.out HW_.out (by kernel_rfl)) (fun _ _ _ h => h) (Or.inl ⟨by rfl, ?_⟩) hHeld ?_ ?_
      rotate_left
      ·rintro w' ⟨s0, s1, s2, s3⟩
       go_simp
       with_reducible rfl
      rotate_left
      ·simp only [Act.put, List.setIfInBounds_toArray, List.set_cons_zero, List.set_cons_succ, i64_w, i32_w]
       rfl
      refine one_ (i := 4) (N := some 7) #[true, true, true, true, true, true, false, false, false, true, true, false, false, false] rfl rfl (one_of HT_.out (by kernel_rfl)) (by decide) (fun K hK => ?_)
      refine goes_ Tryd.func27 (by kernel_rfl) rfl #[.agg #[.string (⟨#[]⟩ : ByteArray), .slice A0_1 y217.length c0_1, .slice none 0 0, .string (⟨#[]⟩ : ByteArray)], .int .u8 50, .int .i64 4] (by rfl) rfl rfl a1_ ?_
      refine (spec_block.calls k (⟨#[]⟩ : ByteArray) _ _ y217 _ _ ([] : List (S45)) (⟨#[]⟩ : ByteArray) 50 4 t221 _ ?side1 ?side2 ?side3 ?side4 A3.out).mono ?_
      (case side1 => repeat (first | exact (Kd.C_below HR220.out HB.out) | (with_reducible refine Kd.C_alloc ?_ _) | (with_reducible refine Kd.C_drewN ?_ _) | (with_reducible refine Kd.C_drew ?_)))
      (case side2 => exact HC220.out)
      (case side3 => exact Kd.C_nil _ _)
      (case side4 => exact Nat.le_refl _)
      rintro e w12 ⟨rfl, hb⟩
      refine ⟨_, rfl, ?_⟩
      have n0_ := Aside0.mk (blk_below (g := gb216) (o := .cells #[.string a0_0, .slice A0_1 l0_1.length c0_1, .slice A0_2 l0_2.length c0_2, .string a0_3] 25 (0, 0)) (by (with_reducible repeat (first | refine blk_drewN ?_ _ | refine blk_drew ?_ | refine blk_alloc ?_ _)); exact BK216.out) hb)
      have n1_ := Aside0.mk (below_step (by repeat (first | (with_reducible first | exact HB.out | apply below_alloc | apply pw_below_drewN | apply below_drew1 | refine below_set ?_ GE216.out) | exact HB.out)) hb)
      clear BK216
      clear HB
      have BK216 := n0_
      have HB := n1_
      clear n0_ n1_
      (try clear hb)
      (try clear hb2)
      (try clear hk)
      (try clear hi)
      refine hK.out _ _ ⟨(blk_cell BK216.out 0).trans rfl, (blk_cell BK216.out 1).trans rfl, (blk_cell BK216.out 2).trans rfl, (blk_cell BK216.out 3).trans rfl⟩ (fun hHeld => ?_)
      clear hK K
      refine norm_ (a' := ?_) ?_ ?_
      rotate_left
      ·show Act.put _ (some 7) _ = _
       simp only [Act.put, List.setIfInBounds_toArray, List.set_cons_zero, List.set_cons_succ, i64_w, i32_w]
       rfl
      refine one_ (i := 6) (N := some 9) #[true, true, true, true, true, true, true, false, false, true, true, false, false, false] rfl rfl (one_of HT_.out (by kernel_rfl)) (by decide) (fun K hK => ?_)
      refine goes_ Tryd.func27 (by kernel_rfl) rfl #[.agg #[.string a0_0, .slice A0_1 l0_1.length c0_1, .slice A0_2 l0_2.length c0_2, .string a0_3], .int .u8 50, .int .i64 8] (by rfl) rfl rfl a1_ ?_
      with_reducible refine (spec_block.calls k a0_0 _ _ l0_1 _ _ l0_2 a0_3 50 8 t222 _ ?side1 ?side2 ?side3 ?side4 A4.out).mono ?_
      (case side1 => repeat (first | exact (Kd.C_below HR0_1.out HB.out) | (with_reducible refine Kd.C_alloc ?_ _) | (with_reducible refine Kd.C_drewN ?_ _) | (with_reducible refine Kd.C_drew ?_)))
      (case side2 => exact HC0_1.out)
      (case side3 => repeat (first | exact (Kd.C_below HR0_2.out HB.out) | (with_reducible refine Kd.C_alloc ?_ _) | (with_reducible refine Kd.C_drewN ?_ _) | (with_reducible refine Kd.C_drew ?_)))
      (case side4 => exact HC0_2.out)
      rintro e w13 ⟨rfl, hb⟩
      refine ⟨_, rfl, ?_⟩
      have n0_ := Aside0.mk (blk_below (g := gb216) (o := .cells #[.string a0_0, .slice A0_1 l0_1.length c0_1, .slice A0_2 l0_2.length c0_2, .string a0_3] 25 (0, 0)) (by (with_reducible repeat (first | refine blk_drewN ?_ _ | refine blk_drew ?_ | refine blk_alloc ?_ _)); exact BK216.out) hb)
      have n1_ := Aside0.mk (below_step (by repeat (first | (with_reducible first | exact HB.out | apply below_alloc | apply pw_below_drewN | apply below_drew1 | refine below_set ?_ GE216.out) | exact HB.out)) hb)
      clear BK216
      clear HB
      have BK216 := n0_
      have HB := n1_
      clear n0_ n1_
      (try clear hb)
      (try clear hb2)
      (try clear hk)
      (try clear hi)
      refine hK.out _ _ ⟨(blk_cell BK216.out 0).trans rfl, (blk_cell BK216.out 1).trans rfl, (blk_cell BK216.out 2).trans rfl, (blk_cell BK216.out 3).trans rfl⟩ (fun hHeld => ?_)
      clear hK K
      refine norm_ (a' := ?_) ?_ ?_
      rotate_left
      ·show Act.put _ (some 9) _ = _
       simp only [Act.put, List.setIfInBounds_toArray, List.set_cons_zero, List.set_cons_succ, i64_w, i32_w]
       rfl
      refine pure_ (i := 7) (N := some 10) (v := ?_) (a' := ?_) #[true, true, true, true, true, true, true, true, false, true, true, false, false, false] rfl rfl (any_of HT_.out (by kernel_rfl)) (fun _ _ _ h => h) (Or.inl ⟨by rfl, ?_⟩) ?_ ?_
      rotate_left
      ·intro w'
       go_simp
       with_reducible rfl
      rotate_left
      ·simp only [Act.put, List.setIfInBounds_toArray, List.set_cons_zero, List.set_cons_succ, i64_w, i32_w]
       rfl
      refine pure_ (i := 8) (N := some 11) (v := ?_) (a' := ?_) #[true, true, true, true, true, true, true, true, true, true, true, false, false, false] rfl rfl (any_of HT_.out (by kernel_rfl)) (fun _ _ _ h => h) (Or.inl ⟨by rfl, ?_⟩) ?_ ?_
      rotate_left
      ·intro w'
       go_simp
       with_reducible rfl
      rotate_left
      ·simp only [Act.put, List.setIfInBounds_toArray, List.set_cons_zero, List.set_cons_succ, i64_w, i32_w]
       rfl
      refine pure_ (i := 11) (N := some 14) (v := ?_) (a' := ?_) #[true, true, true, true, true, true, true, true, true, true, true, true, false, false] rfl rfl (any_of HT_.out (by kernel_rfl)) (fun _ _ _ h => h) (Or.inl ⟨by rfl, ?_⟩) ?_ ?_
      rotate_left
      ·intro w'
       go_simp
       with_reducible rfl
      rotate_left
      ·simp only [Act.put, List.setIfInBounds_toArray, List.set_cons_zero, List.set_cons_succ, i64_w, i32_w]
       rfl
      refine pure_ (i := 12) (N := some 15) (v := ?_) (a' := ?_) #[true, true, true, true, true, true, true, true, true, true, true, true, true, false] rfl rfl (any_of HT_.out (by kernel_rfl)) (fun _ _ _ h => h) (Or.inl ⟨by rfl, ?_⟩) ?_ ?_
      rotate_left
      ·intro w'
       go_simp
       with_reducible rfl
      rotate_left
      ·simp only [Act.put, List.setIfInBounds_toArray, List.set_cons_zero, List.set_cons_succ, i64_w, i32_w]
       rfl
      refine pure_ (i := 13) (N := some 2) (v := ?_) (a' := ?_) #[true, true, true, true, true, true, true, true, true, true, true, true, true, true] rfl rfl (any_of HT_.out (by kernel_rfl)) (fun _ _ _ h => h) (Or.inl ⟨by rfl, ?_⟩) ?_ ?_
      rotate_left
      ·intro w'
       go_simp
       with_reducible rfl
      rotate_left
      ·simp only [Act.put, List.setIfInBounds_toArray, List.set_cons_zero, List.set_cons_succ, i64_w, i32_w]
       rfl
      refine done_ (done_of HT_.out (by kernel_rfl)) ?_
      try go_wp2
      go_ret
      exact ⟨by first | rfl | (simp [errW_none, errW_some] <;> rfl) | (simp [*, errW_none, errW_some] <;> rfl), by repeat (first | (with_reducible first | exact HB.out | apply below_alloc | apply pw_below_drewN | apply below_drew1 | refine below_set ?_ GE216.out) | exact HB.out)⟩
     ·rw [if_neg c8] at H
      exact absurd H (by simp)
    ·rw [if_neg c7] at H
     exact absurd H (by simp)
   ·rw [if_neg c6] at H
    exact absurd H (by simp)
  ·rw [if_neg c5] at H
   exact absurd H (by simp)
 ·rw [if_neg c2] at H
  exact absurd H (by simp)
def gotimezone_absSeconds_days.f (a0 : Int) : Option (Int) := some (IntKind.u64.wrap (Int.tdiv a0 86400))
set_option maxHeartbeats 8000000 in
set_option maxRecDepth 100000 in
theorem gotimezone_absSeconds_days.calls (a0 : Int) (r : Int) (w : World) (h : gotimezone_absSeconds_days.f a0 = some r) :
  Calls Tryd.prog 60 #[.int .u64 a0] w fun e w' => e = .returned (.int .u64 r) ∧ Drawn0 w w' := by
 have H : (some (IntKind.u64.wrap (Int.tdiv a0 86400))) = some r := h
 clear h
 obtain rfl := Option.some.inj H
 go_enter Tryd.func60, Tryd.ntmps60
 go_wp2
 go_ret
 exact ⟨by first | rfl | (simp; done) | (simp [*]; done), by repeat (first | exact Drawn0.refl _ | apply Drawn0.step)⟩
def bits_Mul32.f (a0 : Int) (a1 : Int) : Option (Int × Int) := some (((IntKind.u64.wrap ((IntKind.u64.wrap (a0)) * (IntKind.u64.wrap (a1)))) / 4294967296) % 4294967296, (IntKind.u64.wrap ((IntKind.u64.wrap (a0)) * (IntKind.u64.wrap (a1)))) % 4294967296)
set_option maxHeartbeats 8000000 in
set_option maxRecDepth 100000 in
theorem bits_Mul32.calls (a0 : Int) (a1 : Int) (r1 : Int) (r2 : Int) (w : World) (h : bits_Mul32.f a0 a1 = some (r1, r2)) :
  Calls Tryd.prog 72 #[.int .u32 a0, .int .u32 a1] w fun e w' => e = .returned (.tuple #[.int .u32 r1, .int .u32 r2]) ∧ Drawn0 w w' := by
 have H : (some (((IntKind.u64.wrap ((IntKind.u64.wrap (a0)) * (IntKind.u64.wrap (a1)))) / 4294967296) % 4294967296, (IntKind.u64.wrap ((IntKind.u64.wrap (a0)) * (IntKind.u64.wrap (a1)))) % 4294967296)) = some (r1, r2) := h
 clear h
 simp only [Option.some.injEq, Prod.mk.injEq] at H
 obtain ⟨rfl, rfl⟩ := H
 go_enter Tryd.func72, Tryd.ntmps72
 go_wp2
 go_ret2
 exact ⟨by first | rfl | (simp; done) | (simp [*]; done), by repeat (first | exact Drawn0.refl _ | apply Drawn0.step)⟩
def gotimezone_absDays_split.f (a0 : Int) : Option (Int × Int × Int) := (bits_Mul32.f 2939745 (Go.bits .or .u32 ((Int.tmod (IntKind.u64.wrap ((IntKind.u64.wrap (4 * a0)) + 3)) 146097) % 4294967296) 3)).bind fun bt225 => (some (IntKind.u64.wrap (Int.tdiv (IntKind.u64.wrap ((IntKind.u64.wrap (4 * a0)) + 3)) 146097), wrap64 (bt225.1), ((Int.tdiv bt225.2 2939745) % 4294967296) / 4))
set_option maxHeartbeats 8000000 in
set_option maxRecDepth 100000 in
theorem gotimezone_absDays_split.calls (a0 : Int) (r1 : Int) (r2 : Int) (r3 : Int) (w : World) (h : gotimezone_absDays_split.f a0 = some (r1, r2, r3)) :
  Calls Tryd.prog 64 #[.int .u64 a0] w fun e w' => e = .returned (.tuple #[.int .u64 r1, .int .i64 r2, .int .i64 r3]) ∧ Drawn0 w w' := by
 have H : ((bits_Mul32.f 2939745 (Go.bits .or .u32 ((Int.tmod (IntKind.u64.wrap ((IntKind.u64.wrap (4 * a0)) + 3)) 146097) % 4294967296) 3)).bind fun bt225 => (some (IntKind.u64.wrap (Int.tdiv (IntKind.u64.wrap ((IntKind.u64.wrap (4 * a0)) + 3)) 146097), wrap64 (bt225.1), ((Int.tdiv bt225.2 2939745) % 4294967296) / 4))) = some (r1, r2, r3) := h
 clear h
 replace H := Option.bind_eq_some_iff.mp H
 obtain ⟨⟨t225, t226⟩, A20, H⟩ := H
 replace H : (some (IntKind.u64.wrap (Int.tdiv (IntKind.u64.wrap ((IntKind.u64.wrap (4 * a0)) + 3)) 146097), wrap64 (t225), ((Int.tdiv t226 2939745) % 4294967296) / 4)) = some (r1, r2, r3) := H
 have A2 := Aside0.mk A20
 clear A20
 simp only [Option.some.injEq, Prod.mk.injEq] at H
 obtain ⟨rfl, rfl, rfl⟩ := H
 go_enter Tryd.func64, Tryd.ntmps64
 go_wp2_with (first | ((with_reducible refine gate_callee (f := 72) rfl ?_); refine goesL_ (some 20) rfl rfl Tryd.func72 (by kernel_rfl) rfl #[.int .u32 2939745, .int .u32 (Go.bits .or .u32 ((Int.tmod (IntKind.u64.wrap ((IntKind.u64.wrap (4 * a0)) + 3)) 146097) % 4294967296) 3)] rfl a1_ ?_; (with_reducible refine (bits_Mul32.calls 2939745 (Go.bits .or .u32 ((Int.tmod (IntKind.u64.wrap ((IntKind.u64.wrap (4 * a0)) + 3)) 146097) % 4294967296) 3) t225 t226 _ A2.out).mono ?_); rintro e w' ⟨rfl, ⟨nd, rfl⟩⟩; refine ⟨_, rfl, ?_⟩))
 go_ret3
 exact ⟨by first | rfl | (simp; done) | (simp [*]; done), by repeat (first | exact Drawn0.refl _ | apply Drawn0.step)⟩
def gotimezone_absYday_janFeb.f (a0 : Int) : Option (Int) := if a0 ≥ 306 then (some 1) else (some 0)
set_option maxHeartbeats 8000000 in
set_option maxRecDepth 100000 in
theorem gotimezone_absYday_janFeb.calls (a0 : Int) (r : Int) (w : World) (h : gotimezone_absYday_janFeb.f a0 = some r) :
  Calls Tryd.prog 65 #[.int .i64 a0] w fun e w' => e = .returned (.int .i64 r) ∧ Drawn0 w w' := by
 have H : (if a0 ≥ 306 then (some 1) else (some 0)) = some r := h
 clear h
 by_cases c2 : a0 ≥ 306
 ·rw [if_pos c2] at H
  have c2b0 : decide (306 ≤ a0) = true := decide_eq_true c2
  clear c2
  obtain rfl := Option.some.inj H
  go_enter Tryd.func65, Tryd.ntmps65
  go_wp2
  go_ret
  exact ⟨by first | rfl | (simp; done) | (simp [*]; done), by repeat (first | exact Drawn0.refl _ | apply Drawn0.step)⟩
 ·rw [if_neg c2] at H
  have c2b0 : decide (306 ≤ a0) = false := decide_eq_false c2
  clear c2
  obtain rfl := Option.some.inj H
  go_enter Tryd.func65, Tryd.ntmps65
  go_wp2
  go_ret
  exact ⟨by first | rfl | (simp; done) | (simp [*]; done), by repeat (first | exact Drawn0.refl _ | apply Drawn0.step)⟩
def gotimezone_absCentury_year.f (a0 : Int) (a1 : Int) (a2 : Int) : Option (Int) := some (wrap64 ((wrap64 ((wrap64 (IntKind.u64.wrap ((IntKind.u64.wrap (a0 * 100)) - 292277022400))) + a1)) + a2))
set_option maxHeartbeats 8000000 in
set_option maxRecDepth 100000 in
theorem gotimezone_absCentury_year.calls (a0 : Int) (a1 : Int) (a2 : Int) (r : Int) (w : World) (h : gotimezone_absCentury_year.f a0 a1 a2 = some r) :
  Calls Tryd.prog 66 #[.int .u64 a0, .int .i64 a1, .int .i64 a2] w fun e w' => e = .returned (.int .i64 r) ∧ Drawn0 w w' := by
 have H : (some (wrap64 ((wrap64 ((wrap64 (IntKind.u64.wrap ((IntKind.u64.wrap (a0 * 100)) - 292277022400))) + a1)) + a2))) = some r := h
 clear h
 obtain rfl := Option.some.inj H
 go_enter Tryd.func66, Tryd.ntmps66
 go_wp2
 go_ret
 exact ⟨by first | rfl | (simp; done) | (simp [*]; done), by repeat (first | exact Drawn0.refl _ | apply Drawn0.step)⟩
def gotimezone_absYday_yday.f (a0 : Int) (a1 : Int) (a2 : Int) : Option (Int) := some (wrap64 ((wrap64 ((wrap64 (a0 + 60)) + (Go.bits .andNot .i64 a2 a1))) - (wrap64 (365 * a1))))
set_option maxHeartbeats 8000000 in
set_option maxRecDepth 100000 in
theorem gotimezone_absYday_yday.calls (a0 : Int) (a1 : Int) (a2 : Int) (r : Int) (w : World) (h : gotimezone_absYday_yday.f a0 a1 a2 = some r) :
  Calls Tryd.prog 67 #[.int .i64 a0, .int .i64 a1, .int .i64 a2] w fun e w' => e = .returned (.int .i64 r) ∧ Drawn0 w w' := by
 have H : (some (wrap64 ((wrap64 ((wrap64 (a0 + 60)) + (Go.bits .andNot .i64 a2 a1))) - (wrap64 (365 * a1))))) = some r := h
 clear h
 obtain rfl := Option.some.inj H
 go_enter Tryd.func67, Tryd.ntmps67
 go_wp2
 go_ret
 exact ⟨by first | rfl | (simp; done) | (simp [*]; done), by repeat (first | exact Drawn0.refl _ | apply Drawn0.step)⟩
def gotimezone_absCentury_leap.j0 : Nat → Int → Int → Int → Option (Int)
 | 0, _, _, _ => none
 | k + 1, x0, x1, x5 => if x1 = 0 then (if (Int.tmod x0 4) = 0 then (some (Go.bits .and .i64 x5 (Go.bits .or .i64 0 1))) else (some (Go.bits .and .i64 x5 (Go.bits .or .i64 0 0)))) else (if (Int.tmod x0 4) = 0 then (some (Go.bits .and .i64 x5 (Go.bits .or .i64 1 1))) else (some (Go.bits .and .i64 x5 (Go.bits .or .i64 1 0))))
def gotimezone_absCentury_leap.f (k : Nat) (a0 : Int) (a1 : Int) : Option (Int) := if (Int.tmod a1 4) = 0 then (gotimezone_absCentury_leap.j0 k a0 a1 1) else (gotimezone_absCentury_leap.j0 k a0 a1 0)
set_option maxHeartbeats 8000000 in
set_option maxRecDepth 100000 in
theorem gotimezone_absCentury_leap.calls (k : Nat) (a0 : Int) (a1 : Int) (r : Int) (w : World) (h : gotimezone_absCentury_leap.f k a0 a1 = some r) :
  Calls Tryd.prog 68 #[.int .u64 a0, .int .i64 a1] w fun e w' => e = .returned (.int .i64 r) ∧ Drawn0 w w' := by
 have H : (if (Int.tmod a1 4) = 0 then (gotimezone_absCentury_leap.j0 k a0 a1 1) else (gotimezone_absCentury_leap.j0 k a0 a1 0)) = some r := h
 clear h
 have HC3 := Aside0.mk H
 clear H
 go_enter Tryd.func68, Tryd.ntmps68
 go_upto_if 10 with (fail)
 go_cut [5] (fun v5 wc => ∃ (kq : Nat) (x5_2 : Int), v5 = .int .i64 x5_2 ∧ Aside0 (gotimezone_absCentury_leap.j0 kq a0 a1 x5_2 = some r) ∧ Aside0 (kq ≤ k) ∧ Drawn0 w wc)
 case first =>
  have H := HC3.out
  clear HC3
  by_cases c4 : (Int.tmod a1 4) = 0
  ·rw [if_pos c4] at H
   have c4b0 : ((Int.tmod a1 4) == 0) = true := beq_iff_eq.mpr c4
   have c4b1 : ((Int.tmod a1 4) != 0) = false := bne_eq_false_iff_eq.mpr c4
   clear c4
   (first | rw [c4b0] | (simp only [i64_w, i32_w]; rw [c4b0]) | skip)
   have H' := Aside0.mk H
   clear H
   go_wp2
   go_meet
   case rel => exact ⟨_, (1), a5_, H', ⟨by first | omega | exact Nat.le_refl _⟩, by repeat (first | exact Drawn0.refl _ | apply Drawn0.step)⟩
  ·rw [if_neg c4] at H
   have c4b0 : ((Int.tmod a1 4) == 0) = false := beq_eq_false_iff_ne.mpr c4
   have c4b1 : ((Int.tmod a1 4) != 0) = true := bne_iff_ne.mpr c4
   (first | rw [c4b0] | (simp only [i64_w, i32_w]; rw [c4b0]) | skip)
   have H' := Aside0.mk H
   clear H
   go_wp2
   go_meet
   case rel => exact ⟨_, (0), a5_, H', ⟨by first | omega | exact Nat.le_refl _⟩, by repeat (first | exact Drawn0.refl _ | apply Drawn0.step)⟩
 case rest =>
  clear HC3
  try clear p2
  try clear c4
  try clear c4b0
  try clear c4b1
  obtain ⟨kq, x5_2, rfl, HA, HJ2, ⟨mc2, rfl⟩⟩ := hcut
  cases kq with
  | zero => exact absurd HA.out (by simp [gotimezone_absCentury_leap.j0])
  | succ kj2 =>
   have H := HA.out
   clear HA
   simp only [gotimezone_absCentury_leap.j0] at H
   by_cases c5 : a1 = 0
   ·rw [if_pos c5] at H
    have c5b0 : (a1 == 0) = true := beq_iff_eq.mpr c5
    have c5b1 : (a1 != 0) = false := bne_eq_false_iff_eq.mpr c5
    clear c5
    by_cases c6 : (Int.tmod a0 4) = 0
    ·rw [if_pos c6] at H
     have c6b0 : ((Int.tmod a0 4) == 0) = true := beq_iff_eq.mpr c6
     have c6b1 : ((Int.tmod a0 4) != 0) = false := bne_eq_false_iff_eq.mpr c6
     clear c6
     obtain rfl := Option.some.inj H
     go_wp2
     go_ret
     exact ⟨by first | rfl | (simp; done) | (simp [*]; done), by repeat (first | exact Drawn0.refl _ | apply Drawn0.step)⟩
    ·rw [if_neg c6] at H
     have c6b0 : ((Int.tmod a0 4) == 0) = false := beq_eq_false_iff_ne.mpr c6
     have c6b1 : ((Int.tmod a0 4) != 0) = true := bne_iff_ne.mpr c6
     obtain rfl := Option.some.inj H
     go_wp2
     go_ret
     exact ⟨by first | rfl | (simp; done) | (simp [*]; done), by repeat (first | exact Drawn0.refl _ | apply Drawn0.step)⟩
   ·rw [if_neg c5] at H
    have c5b0 : (a1 == 0) = false := beq_eq_false_iff_ne.mpr c5
    have c5b1 : (a1 != 0) = true := bne_iff_ne.mpr c5
    by_cases c7 : (Int.tmod a0 4) = 0
    ·rw [if_pos c7] at H
     have c7b0 : ((Int.tmod a0 4) == 0) = true := beq_iff_eq.mpr c7
     have c7b1 : ((Int.tmod a0 4) != 0) = false := bne_eq_false_iff_eq.mpr c7
     clear c7
     obtain rfl := Option.some.inj H
     go_wp2
     go_ret
     exact ⟨by first | rfl | (simp; done) | (simp [*]; done), by repeat (first | exact Drawn0.refl _ | apply Drawn0.step)⟩
    ·rw [if_neg c7] at H
     have c7b0 : ((Int.tmod a0 4) == 0) = false := beq_eq_false_iff_ne.mpr c7
     have c7b1 : ((Int.tmod a0 4) != 0) = true := bne_iff_ne.mpr c7
     obtain rfl := Option.some.inj H
     go_wp2
     go_ret
     exact ⟨by first | rfl | (simp; done) | (simp [*]; done), by repeat (first | exact Drawn0.refl _ | apply Drawn0.step)⟩
def gotimezone_absDays_yearYday.f (k : Nat) (a0 : Int) : Option (Int × Int) := (gotimezone_absDays_split.f a0).bind fun bt227 => ((gotimezone_absYday_janFeb.f bt227.2.2).bind fun t230 => ((gotimezone_absCentury_year.f bt227.1 bt227.2.1 t230).bind fun t231 => ((gotimezone_absCentury_leap.f k bt227.1 bt227.2.1).bind fun t232 => ((gotimezone_absYday_yday.f bt227.2.2 t230 t232).bind fun t233 => (some (t231, t233))))))
set_option maxHeartbeats 8000000 in
set_option maxRecDepth 100000 in
theorem gotimezone_absDays_yearYday.calls (k : Nat) (a0 : Int) (r1 : Int) (r2 : Int) (w : World) (h : gotimezone_absDays_yearYday.f k a0 = some (r1, r2)) :
  Calls Tryd.prog 61 #[.int .u64 a0] w fun e w' => e = .returned (.tuple #[.int .i64 r1, .int .i64 r2]) ∧ Drawn0 w w' := by
 have H : ((gotimezone_absDays_split.f a0).bind fun bt227 => ((gotimezone_absYday_janFeb.f bt227.2.2).bind fun t230 => ((gotimezone_absCentury_year.f bt227.1 bt227.2.1 t230).bind fun t231 => ((gotimezone_absCentury_leap.f k bt227.1 bt227.2.1).bind fun t232 => ((gotimezone_absYday_yday.f bt227.2.2 t230 t232).bind fun t233 => (some (t231, t233))))))) = some (r1, r2) := h
 clear h
 replace H := Option.bind_eq_some_iff.mp H
 obtain ⟨⟨t227, t228, t229⟩, A20, H⟩ := H
 replace H : ((gotimezone_absYday_janFeb.f t229).bind fun t230 => ((gotimezone_absCentury_year.f t227 t228 t230).bind fun t231 => ((gotimezone_absCentury_leap.f k t227 t228).bind fun t232 => ((gotimezone_absYday_yday.f t229 t230 t232).bind fun t233 => (some (t231, t233)))))) = some (r1, r2) := H
 have A2 := Aside0.mk A20
 clear A20
 replace H := Option.bind_eq_some_iff.mp H
 obtain ⟨t230, A30, H⟩ := H
 replace H : ((gotimezone_absCentury_year.f t227 t228 t230).bind fun t231 => ((gotimezone_absCentury_leap.f k t227 t228).bind fun t232 => ((gotimezone_absYday_yday.f t229 t230 t232).bind fun t233 => (some (t231, t233))))) = some (r1, r2) := H
 have A3 := Aside0.mk A30
 clear A30
 replace H := Option.bind_eq_some_iff.mp H
 obtain ⟨t231, A40, H⟩ := H
 replace H : ((gotimezone_absCentury_leap.f k t227 t228).bind fun t232 => ((gotimezone_absYday_yday.f t229 t230 t232).bind fun t233 => (some (t231, t233)))) = some (r1, r2) := H
 have A4 := Aside0.mk A40
 clear A40
 replace H := Option.bind_eq_some_iff.mp H
 obtain ⟨t232, A50, H⟩ := H
 replace H : ((gotimezone_absYday_yday.f t229 t230 t232).bind fun t233 => (some (t231, t233))) = some (r1, r2) := H
 have A5 := Aside0.mk A50
 clear A50
 replace H := Option.bind_eq_some_iff.mp H
 obtain ⟨t233, A60, H⟩ := H
 replace H : (some (t231, t233)) = some (r1, r2) := H
 have A6 := Aside0.mk A60
 clear A60
 simp only [Option.some.injEq, Prod.mk.injEq] at H
 obtain ⟨rfl, rfl⟩ := H
 go_enter Tryd.func61, Tryd.ntmps61
 go_wp2_with (first | ((with_reducible refine gate_callee (f := 64) rfl ?_); refine goesL_ (some 10) rfl rfl Tryd.func64 (by kernel_rfl) rfl #[.int .u64 a0] rfl a1_ ?_; (with_reducible refine (gotimezone_absDays_split.calls a0 t227 t228 t229 _ A2.out).mono ?_); rintro e w' ⟨rfl, ⟨nd, rfl⟩⟩; refine ⟨_, rfl, ?_⟩) | ((with_reducible refine gate_callee (f := 65) rfl ?_); refine goesL_ (some 15) rfl rfl Tryd.func65 (by kernel_rfl) rfl #[.int .i64 t229] rfl a1_ ?_; (with_reducible refine (gotimezone_absYday_janFeb.calls t229 t230 _ A3.out).mono ?_); rintro e w' ⟨rfl, ⟨nd, rfl⟩⟩; refine ⟨_, rfl, ?_⟩) | ((with_reducible refine gate_callee (f := 66) rfl ?_); refine goesL_ (some 19) rfl rfl Tryd.func66 (by kernel_rfl) rfl #[.int .u64 t227, .int .i64 t228, .int .i64 t230] rfl a1_ ?_; (with_reducible refine (gotimezone_absCentury_year.calls t227 t228 t230 t231 _ A4.out).mono ?_); rintro e w' ⟨rfl, ⟨nd, rfl⟩⟩; refine ⟨_, rfl, ?_⟩) | ((with_reducible refine gate_callee (f := 68) rfl ?_); refine goesL_ (some 24) rfl rfl Tryd.func68 (by kernel_rfl) rfl #[.int .u64 t227, .int .i64 t228] rfl a1_ ?_; (with_reducible refine (gotimezone_absCentury_leap.calls k t227 t228 t232 _ A5.out).mono ?_); rintro e w' ⟨rfl, ⟨nd, rfl⟩⟩; refine ⟨_, rfl, ?_⟩) | ((with_reducible refine gate_callee (f := 67) rfl ?_); refine goesL_ (some 25) rfl rfl Tryd.func67 (by kernel_rfl) rfl #[.int .i64 t229, .int .i64 t230, .int .i64 t232] rfl a1_ ?_; (with_reducible refine (gotimezone_absYday_yday.calls t229 t230 t232 t233 _ A6.out).mono ?_); rintro e w' ⟨rfl, ⟨nd, rfl⟩⟩; refine ⟨_, rfl, ?_⟩))
 go_ret2
 exact ⟨by first | rfl | (simp; done) | (simp [*]; done), by repeat (first | exact Drawn0.refl _ | apply Drawn0.step)⟩
def gotimezone_isLeap.f (a0 : Int) : Option (Bool) := if (Int.tmod a0 25) = 0 then (some ((Go.bits .and .i64 a0 15) == 0)) else (some ((Go.bits .and .i64 a0 3) == 0))
set_option maxHeartbeats 8000000 in
set_option maxRecDepth 100000 in
theorem gotimezone_isLeap.calls (a0 : Int) (r : Bool) (w : World) (h : gotimezone_isLeap.f a0 = some r) :
  Calls Tryd.prog 69 #[.int .i64 a0] w fun e w' => e = .returned (.bool r) ∧ Drawn0 w w' := by
 have H : (if (Int.tmod a0 25) = 0 then (some ((Go.bits .and .i64 a0 15) == 0)) else (some ((Go.bits .and .i64 a0 3) == 0))) = some r := h
 clear h
 by_cases c2 : (Int.tmod a0 25) = 0
 ·rw [if_pos c2] at H
  have c2b0 : ((Int.tmod a0 25) == 0) = true := beq_iff_eq.mpr c2
  have c2b1 : ((Int.tmod a0 25) != 0) = false := bne_eq_false_iff_eq.mpr c2
  clear c2
  obtain rfl := Option.some.inj H
  go_enter Tryd.func69, Tryd.ntmps69
  go_wp2
  go_ret
  exact ⟨by first | rfl | (simp; done) | (simp [*]; done), by repeat (first | exact Drawn0.refl _ | apply Drawn0.step)⟩
 ·rw [if_neg c2] at H
  have c2b0 : ((Int.tmod a0 25) == 0) = false := beq_eq_false_iff_ne.mpr c2
  have c2b1 : ((Int.tmod a0 25) != 0) = true := bne_iff_ne.mpr c2
  obtain rfl := Option.some.inj H
  go_enter Tryd.func69, Tryd.ntmps69
  go_wp2
  go_ret
  exact ⟨by first | rfl | (simp; done) | (simp [*]; done), by repeat (first | exact Drawn0.refl _ | apply Drawn0.step)⟩
def gotimezone_daysIn.f (a0 : Int) (a1 : Int) : Option (Int) := if a0 = 2 then ((gotimezone_isLeap.f a1).bind fun t234 => (if t234 = true then (some 29) else (some 28))) else (some (wrap64 (30 + (Go.bits .and .i64 (wrap64 (a0 + (a0 / 8))) 1))))
set_option maxHeartbeats 8000000 in
set_option maxRecDepth 100000 in
theorem gotimezone_daysIn.calls (a0 : Int) (a1 : Int) (r : Int) (w : World) (h : gotimezone_daysIn.f a0 a1 = some r) :
  Calls Tryd.prog 70 #[.int .i64 a0, .int .i64 a1] w fun e w' => e = .returned (.int .i64 r) ∧ Drawn0 w w' := by
 have H : (if a0 = 2 then ((gotimezone_isLeap.f a1).bind fun t234 => (if t234 = true then (some 29) else (some 28))) else (some (wrap64 (30 + (Go.bits .and .i64 (wrap64 (a0 + (a0 / 8))) 1))))) = some r := h
 clear h
 by_cases c3 : a0 = 2
 ·rw [if_pos c3] at H
  have c3b0 : (a0 == 2) = true := beq_iff_eq.mpr c3
  have c3b1 : (a0 != 2) = false := bne_eq_false_iff_eq.mpr c3
  clear c3
  replace H := Option.bind_eq_some_iff.mp H
  obtain ⟨t234, A40, H⟩ := H
  replace H : (if t234 = true then (some 29) else (some 28)) = some r := H
  have A4 := Aside0.mk A40
  clear A40
  by_cases c5 : t234 = true
  ·subst c5
   have H1 : (some 29) = some r := by rw [if_pos rfl] at H; exact H
   clear H
   have H := H1
   clear H1
   obtain rfl := Option.some.inj H
   go_enter Tryd.func70, Tryd.ntmps70
   go_wp2_with (first | ((with_reducible refine gate_callee (f := 69) rfl ?_); refine goesL_ (some 8) rfl rfl Tryd.func69 (by kernel_rfl) rfl #[.int .i64 a1] rfl a1_ ?_; (with_reducible refine (gotimezone_isLeap.calls a1 true _ A4.out).mono ?_); rintro e w' ⟨rfl, ⟨nd, rfl⟩⟩; refine ⟨_, rfl, ?_⟩))
   go_ret
   exact ⟨by first | rfl | (simp; done) | (simp [*]; done), by repeat (first | exact Drawn0.refl _ | apply Drawn0.step)⟩
  ·replace c5 := Bool.eq_false_iff.mpr c5
   subst c5
   have H1 : (some 28) = some r := by rw [if_neg (show ¬ (false = true) by decide)] at H; exact H
   clear H
   have H := H1
   clear H1
   obtain rfl := Option.some.inj H
   go_enter Tryd.func70, Tryd.ntmps70
   go_wp2_with (first | ((with_reducible refine gate_callee (f := 69) rfl ?_); refine goesL_ (some 8) rfl rfl Tryd.func69 (by kernel_rfl) rfl #[.int .i64 a1] rfl a1_ ?_; (with_reducible refine (gotimezone_isLeap.calls a1 false _ A4.out).mono ?_); rintro e w' ⟨rfl, ⟨nd, rfl⟩⟩; refine ⟨_, rfl, ?_⟩))
   go_ret
   exact ⟨by first | rfl | (simp; done) | (simp [*]; done), by repeat (first | exact Drawn0.refl _ | apply Drawn0.step)⟩
 ·rw [if_neg c3] at H
  have c3b0 : (a0 == 2) = false := beq_eq_false_iff_ne.mpr c3
  have c3b1 : (a0 != 2) = true := bne_iff_ne.mpr c3
  obtain rfl := Option.some.inj H
  go_enter Tryd.func70, Tryd.ntmps70
  go_wp2
  go_ret
  exact ⟨by first | rfl | (simp; done) | (simp [*]; done), by repeat (first | exact Drawn0.refl _ | apply Drawn0.step)⟩
def gotimezone_daysBefore.f (a0 : Int) : Option (Int) := if a0 ≥ 3 then (some (wrap64 ((wrap64 (Int.tdiv (wrap64 ((wrap64 (214 * a0)) - 211)) 7)) + (-2)))) else (some (wrap64 ((wrap64 (Int.tdiv (wrap64 ((wrap64 (214 * a0)) - 211)) 7)) + 0)))
set_option maxHeartbeats 8000000 in
set_option maxRecDepth 100000 in
theorem gotimezone_daysBefore.calls (a0 : Int) (r : Int) (w : World) (h : gotimezone_daysBefore.f a0 = some r) :
  Calls Tryd.prog 71 #[.int .i64 a0] w fun e w' => e = .returned (.int .i64 r) ∧ Drawn0 w w' := by
 have H : (if a0 ≥ 3 then (some (wrap64 ((wrap64 (Int.tdiv (wrap64 ((wrap64 (214 * a0)) - 211)) 7)) + (-2)))) else (some (wrap64 ((wrap64 (Int.tdiv (wrap64 ((wrap64 (214 * a0)) - 211)) 7)) + 0)))) = some r := h
 clear h
 by_cases c2 : a0 ≥ 3
 ·rw [if_pos c2] at H
  have c2b0 : decide (3 ≤ a0) = true := decide_eq_true c2
  clear c2
  obtain rfl := Option.some.inj H
  go_enter Tryd.func71, Tryd.ntmps71
  go_wp2
  go_ret
  exact ⟨by first | rfl | (simp; done) | (simp [*]; done), by repeat (first | exact Drawn0.refl _ | apply Drawn0.step)⟩
 ·rw [if_neg c2] at H
  have c2b0 : decide (3 ≤ a0) = false := decide_eq_false c2
  clear c2
  obtain rfl := Option.some.inj H
  go_enter Tryd.func71, Tryd.ntmps71
  go_wp2
  go_ret
  exact ⟨by first | rfl | (simp; done) | (simp [*]; done), by repeat (first | exact Drawn0.refl _ | apply Drawn0.step)⟩
end Go.Proofs.YtjoaeennbfmohaaDoor.PFnZone
