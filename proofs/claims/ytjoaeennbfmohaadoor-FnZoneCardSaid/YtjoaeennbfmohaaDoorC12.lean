/- The walks of some functions. Laid by programs (wip/mkq.py, wip/mkclaim.py) out of the texts that the kit's print.sh wrote for this seat, written shorter. Not written by hand. -/
import Derived.Test.YtjoaeennbfmohaaDoorC0
import Derived.Test.YtjoaeennbfmohaaDoorC11
namespace Go.Proofs.YtjoaeennbfmohaaDoor.PFnZone
open Go.RowKit Go.Proofs.YtjoaeennbfmohaaDoorW.PrintWords Go.Proofs.YtjoaeennbfmohaaDoorW.PrintLast Go.Proofs.YtjoaeennbfmohaaDoorW.PrintMore
attribute [local go_sem] max2_int min2_int max_two min_two max_three min_three max_four min_four   -- for this text's walks alone
set_option linter.unusedVariables false
set_option linter.unusedSimpArgs false
def spec_At.j0 : Nat → Int → Int → Int → Bool → ByteArray → Int → Bool → ByteArray → Int → Bool → Int → Int → Int → Int → Int → Int → Int → Int → Int → Int → Option (ByteArray × Int × Bool)
 | 0, _, _, _, _, _, _, _, _, _, _, _, _, _, _, _, _, _, _, _, _ => none
 | k + 1, x1, x6, x7, x8, x254000, x254001, x254002, x254003, x254004, x254005, x254006, x254007, x254008, x254009, x254010, x254011, x254012, x254013, x254014, x254015 => if x7 < x6 then (if x1 ≥ x6 then (some (x254003, x254004, true)) else (if x1 < x7 then (some (x254003, x254004, true)) else (some (x254000, x254001, false)))) else (if x8 = true then (some (x254003, x254004, true)) else (some (x254000, x254001, false)))
def spec_At.f (k : Nat) (a0_0 : ByteArray) (a0_1 : Int) (a0_2 : Bool) (a0_3 : ByteArray) (a0_4 : Int) (a0_5 : Bool) (a0_6 : Int) (a0_7 : Int) (a0_8 : Int) (a0_9 : Int) (a0_10 : Int) (a0_11 : Int) (a0_12 : Int) (a0_13 : Int) (a0_14 : Int) (a0_15 : Int) (a1 : Int) : Option (ByteArray × Int × Bool) := (spec_YearOf.f k a1).bind fun t255 => ((spec_YearStart.f t255).bind fun t256 => ((spec_RuleTime.f k t255 a0_6 a0_7 a0_8 a0_9 a0_10 a0_1).bind fun t257 => ((spec_YearStart.f t255).bind fun t258 => ((spec_RuleTime.f k t255 a0_11 a0_12 a0_13 a0_14 a0_15 a0_4).bind fun t259 => (if a1 ≥ (wrap64 (t256 + t257)) then (spec_At.j0 k a1 (wrap64 (t256 + t257)) (wrap64 (t258 + t259)) (decide (a1 < (wrap64 (t258 + t259)))) a0_0 a0_1 a0_2 a0_3 a0_4 a0_5 a0_6 a0_7 a0_8 a0_9 a0_10 a0_11 a0_12 a0_13 a0_14 a0_15) else (spec_At.j0 k a1 (wrap64 (t256 + t257)) (wrap64 (t258 + t259)) false a0_0 a0_1 a0_2 a0_3 a0_4 a0_5 a0_6 a0_7 a0_8 a0_9 a0_10 a0_11 a0_12 a0_13 a0_14 a0_15))))))
def spec_At.T2 : Bool × List (List Nat × List Nat) := (true, [([], []), ([0], [0]), ([], []), ([], []), ([3], [3]), ([], []), ([5], [5]), ([6], [6]), ([2, 4, 7, 1], [2, 4, 7]), ([1, 8], [1, 8]), ([9, 8, 0, 1, 2, 3, 4, 5, 6, 7, 8, 9], [9])])
def spec_At.B2 : List Nat := [0, 1, 0, 0, 8, 0, 32, 96, 255, 511, 1023]
theorem spec_At.tab2 : rtab .any (opsOf Tryd.f13 2) = spec_At.T2 := by kernel_rfl
theorem spec_At.bits2 : waitsOk spec_At.T2.2 spec_At.B2 = true := by kernel_rfl
def spec_At.T3 : Bool × List (List Nat × List Nat) := (true, [([], []), ([0], [0]), ([], []), ([], []), ([3], [3]), ([], []), ([5], [5]), ([6], [6]), ([2, 4, 7, 1], [2, 4, 7]), ([1, 8], [1, 8]), ([9, 8, 0, 1, 2, 3, 4, 5, 6, 7, 8, 9], [9])])
def spec_At.B3 : List Nat := [0, 1, 0, 0, 8, 0, 32, 96, 255, 511, 1023]
theorem spec_At.tab3 : rtab .any (opsOf Tryd.f13 3) = spec_At.T3 := by kernel_rfl
theorem spec_At.bits3 : waitsOk spec_At.T3.2 spec_At.B3 = true := by kernel_rfl
set_option maxHeartbeats 8000000 in
set_option maxRecDepth 100000 in
theorem spec_At.calls (k : Nat) (a0_0 : ByteArray) (a0_1 : Int) (a0_2 : Bool) (a0_3 : ByteArray) (a0_4 : Int) (a0_5 : Bool) (a0_6 : Int) (a0_7 : Int) (a0_8 : Int) (a0_9 : Int) (a0_10 : Int) (a0_11 : Int) (a0_12 : Int) (a0_13 : Int) (a0_14 : Int) (a0_15 : Int) (a1 : Int) (r1 : ByteArray) (r2 : Int) (r3 : Bool) (w : World) (h : spec_At.f k a0_0 a0_1 a0_2 a0_3 a0_4 a0_5 a0_6 a0_7 a0_8 a0_9 a0_10 a0_11 a0_12 a0_13 a0_14 a0_15 a1 = some (r1, r2, r3)) :
  Calls Tryd.prog 13 #[.agg #[.string a0_0, .int .i64 a0_1, .bool a0_2, .string a0_3, .int .i64 a0_4, .bool a0_5, .int .i64 a0_6, .int .i64 a0_7, .int .i64 a0_8, .int .i64 a0_9, .int .i64 a0_10, .int .i64 a0_11, .int .i64 a0_12, .int .i64 a0_13, .int .i64 a0_14, .int .i64 a0_15], .int .i64 a1] w fun e w' => e = .returned (.agg #[.string r1, .int .i64 r2, .bool r3]) ∧ Below w.heap.size w w' := by
 have hu33 := Tryd.underlying33
 have hu27 := Tryd.underlying27
 have hu29 := Tryd.underlying29
 have HB := Aside0.mk (Below.refl w.heap.size w)
 have H : ((spec_YearOf.f k a1).bind fun t255 => ((spec_YearStart.f t255).bind fun t256 => ((spec_RuleTime.f k t255 a0_6 a0_7 a0_8 a0_9 a0_10 a0_1).bind fun t257 => ((spec_YearStart.f t255).bind fun t258 => ((spec_RuleTime.f k t255 a0_11 a0_12 a0_13 a0_14 a0_15 a0_4).bind fun t259 => (if a1 ≥ (wrap64 (t256 + t257)) then (spec_At.j0 k a1 (wrap64 (t256 + t257)) (wrap64 (t258 + t259)) (decide (a1 < (wrap64 (t258 + t259)))) a0_0 a0_1 a0_2 a0_3 a0_4 a0_5 a0_6 a0_7 a0_8 a0_9 a0_10 a0_11 a0_12 a0_13 a0_14 a0_15) else (spec_At.j0 k a1 (wrap64 (t256 + t257)) (wrap64 (t258 + t259)) false a0_0 a0_1 a0_2 a0_3 a0_4 a0_5 a0_6 a0_7 a0_8 a0_9 a0_10 a0_11 a0_12 a0_13 a0_14 a0_15))))))) = some (r1, r2, r3) := h
 clear h
 replace H := Option.bind_eq_some_iff.mp H
 obtain ⟨t255, A30, H⟩ := H
 replace H : ((spec_YearStart.f t255).bind fun t256 => ((spec_RuleTime.f k t255 a0_6 a0_7 a0_8 a0_9 a0_10 a0_1).bind fun t257 => ((spec_YearStart.f t255).bind fun t258 => ((spec_RuleTime.f k t255 a0_11 a0_12 a0_13 a0_14 a0_15 a0_4).bind fun t259 => (if a1 ≥ (wrap64 (t256 + t257)) then (spec_At.j0 k a1 (wrap64 (t256 + t257)) (wrap64 (t258 + t259)) (decide (a1 < (wrap64 (t258 + t259)))) a0_0 a0_1 a0_2 a0_3 a0_4 a0_5 a0_6 a0_7 a0_8 a0_9 a0_10 a0_11 a0_12 a0_13 a0_14 a0_15) else (spec_At.j0 k a1 (wrap64 (t256 + t257)) (wrap64 (t258 + t259)) false a0_0 a0_1 a0_2 a0_3 a0_4 a0_5 a0_6 a0_7 a0_8 a0_9 a0_10 a0_11 a0_12 a0_13 a0_14 a0_15)))))) = some (r1, r2, r3) := H
 have A3 := Aside0.mk A30
 clear A30
 replace H := Option.bind_eq_some_iff.mp H
 obtain ⟨t256, A40, H⟩ := H
 replace H : ((spec_RuleTime.f k t255 a0_6 a0_7 a0_8 a0_9 a0_10 a0_1).bind fun t257 => ((spec_YearStart.f t255).bind fun t258 => ((spec_RuleTime.f k t255 a0_11 a0_12 a0_13 a0_14 a0_15 a0_4).bind fun t259 => (if a1 ≥ (wrap64 (t256 + t257)) then (spec_At.j0 k a1 (wrap64 (t256 + t257)) (wrap64 (t258 + t259)) (decide (a1 < (wrap64 (t258 + t259)))) a0_0 a0_1 a0_2 a0_3 a0_4 a0_5 a0_6 a0_7 a0_8 a0_9 a0_10 a0_11 a0_12 a0_13 a0_14 a0_15) else (spec_At.j0 k a1 (wrap64 (t256 + t257)) (wrap64 (t258 + t259)) false a0_0 a0_1 a0_2 a0_3 a0_4 a0_5 a0_6 a0_7 a0_8 a0_9 a0_10 a0_11 a0_12 a0_13 a0_14 a0_15))))) = some (r1, r2, r3) := H
 have A4 := Aside0.mk A40
 clear A40
 replace H := Option.bind_eq_some_iff.mp H
 obtain ⟨t257, A50, H⟩ := H
 replace H : ((spec_YearStart.f t255).bind fun t258 => ((spec_RuleTime.f k t255 a0_11 a0_12 a0_13 a0_14 a0_15 a0_4).bind fun t259 => (if a1 ≥ (wrap64 (t256 + t257)) then (spec_At.j0 k a1 (wrap64 (t256 + t257)) (wrap64 (t258 + t259)) (decide (a1 < (wrap64 (t258 + t259)))) a0_0 a0_1 a0_2 a0_3 a0_4 a0_5 a0_6 a0_7 a0_8 a0_9 a0_10 a0_11 a0_12 a0_13 a0_14 a0_15) else (spec_At.j0 k a1 (wrap64 (t256 + t257)) (wrap64 (t258 + t259)) false a0_0 a0_1 a0_2 a0_3 a0_4 a0_5 a0_6 a0_7 a0_8 a0_9 a0_10 a0_11 a0_12 a0_13 a0_14 a0_15)))) = some (r1, r2, r3) := H
 have A5 := Aside0.mk A50
 clear A50
 replace H := Option.bind_eq_some_iff.mp H
 obtain ⟨t258, A60, H⟩ := H
 replace H : ((spec_RuleTime.f k t255 a0_11 a0_12 a0_13 a0_14 a0_15 a0_4).bind fun t259 => (if a1 ≥ (wrap64 (t256 + t257)) then (spec_At.j0 k a1 (wrap64 (t256 + t257)) (wrap64 (t258 + t259)) (decide (a1 < (wrap64 (t258 + t259)))) a0_0 a0_1 a0_2 a0_3 a0_4 a0_5 a0_6 a0_7 a0_8 a0_9 a0_10 a0_11 a0_12 a0_13 a0_14 a0_15) else (spec_At.j0 k a1 (wrap64 (t256 + t257)) (wrap64 (t258 + t259)) false a0_0 a0_1 a0_2 a0_3 a0_4 a0_5 a0_6 a0_7 a0_8 a0_9 a0_10 a0_11 a0_12 a0_13 a0_14 a0_15))) = some (r1, r2, r3) := H
 have A6 := Aside0.mk A60
 clear A60
 replace H := Option.bind_eq_some_iff.mp H
 obtain ⟨t259, A70, H⟩ := H
 replace H : (if a1 ≥ (wrap64 (t256 + t257)) then (spec_At.j0 k a1 (wrap64 (t256 + t257)) (wrap64 (t258 + t259)) (decide (a1 < (wrap64 (t258 + t259)))) a0_0 a0_1 a0_2 a0_3 a0_4 a0_5 a0_6 a0_7 a0_8 a0_9 a0_10 a0_11 a0_12 a0_13 a0_14 a0_15) else (spec_At.j0 k a1 (wrap64 (t256 + t257)) (wrap64 (t258 + t259)) false a0_0 a0_1 a0_2 a0_3 a0_4 a0_5 a0_6 a0_7 a0_8 a0_9 a0_10 a0_11 a0_12 a0_13 a0_14 a0_15)) = some (r1, r2, r3) := H
 have A7 := Aside0.mk A70
 clear A70
 have HC8 := Aside0.mk H
 clear H
 go_enter Tryd.func13, Tryd.ntmps13
 try go_wp2_with (first | ((with_reducible refine gate_dst (N := 2) rfl ?_); refine box_event ?hg (N := 2) ?hd (cs := #[.string a0_0, .int .i64 a0_1, .bool a0_2, .string a0_3, .int .i64 a0_4, .bool a0_5, .int .i64 a0_6, .int .i64 a0_7, .int .i64 a0_8, .int .i64 a0_9, .int .i64 a0_10, .int .i64 a0_11, .int .i64 a0_12, .int .i64 a0_13, .int .i64 a0_14, .int .i64 a0_15]) (t := 33) ?hr ?_; (case hd => rfl); (case hg => rfl); (case hr => first | (go_simp; done) | (go_simp; rfl)); intro gb253 hg w9 hbox hb; have n0_ := Aside0.mk (below_step a0_ hb); have n1_ := Aside0.mk (hbox); have n2_ := Aside0.mk ((by rw [hg]; exact (below_size a0_) : w.heap.size ≤ gb253)); have n3_ := Aside0.mk ((by rw [hg]; exact (below_size a0_) : w.heap.size ≤ gb253)); clear HB; have HB := n0_; have BK253 := n1_; have GW253 := n2_; have GE253 := n3_; clear n0_ n1_ n2_ n3_; clear hb hbox hg) | ((with_reducible refine gate_dst (N := 4) rfl ?_); refine box_event ?hg (N := 4) ?hd (cs := #[.string (⟨#[]⟩ : ByteArray), .int .i64 0, .bool false]) (t := 27) ?hr ?_; (case hd => rfl); (case hg => rfl); (case hr => first | (go_simp; done) | (go_simp; rfl)); intro gb254 hg w10 hbox hb; have n0_ := Aside0.mk (blk_below (g := gb253) (o := .cells #[.string a0_0, .int .i64 a0_1, .bool a0_2, .string a0_3, .int .i64 a0_4, .bool a0_5, .int .i64 a0_6, .int .i64 a0_7, .int .i64 a0_8, .int .i64 a0_9, .int .i64 a0_10, .int .i64 a0_11, .int .i64 a0_12, .int .i64 a0_13, .int .i64 a0_14, .int .i64 a0_15] 33 (0, 0)) a34_ hb); have n1_ := Aside0.mk (below_step a45_ hb); have n2_ := Aside0.mk (hbox); have n3_ := Aside0.mk ((by rw [hg]; exact (below_size a45_) : w.heap.size ≤ gb254)); have n4_ := Aside0.mk ((by rw [hg]; exact (below_size a45_) : w.heap.size ≤ gb254)); have n5_ := Aside0.mk ((by rw [hg]; exact Nat.ne_of_lt (blk_lt (g := gb253) (o := .cells #[.string a0_0, .int .i64 a0_1, .bool a0_2, .string a0_3, .int .i64 a0_4, .bool a0_5, .int .i64 a0_6, .int .i64 a0_7, .int .i64 a0_8, .int .i64 a0_9, .int .i64 a0_10, .int .i64 a0_11, .int .i64 a0_12, .int .i64 a0_13, .int .i64 a0_14, .int .i64 a0_15] 33 (0, 0)) a34_) : gb253 ≠ gb254)); have n6_ := Aside0.mk ((by rw [hg]; exact Nat.ne_of_gt (blk_lt (g := gb253) (o := .cells #[.string a0_0, .int .i64 a0_1, .bool a0_2, .string a0_3, .int .i64 a0_4, .bool a0_5, .int .i64 a0_6, .int .i64 a0_7, .int .i64 a0_8, .int .i64 a0_9, .int .i64 a0_10, .int .i64 a0_11, .int .i64 a0_12, .int .i64 a0_13, .int .i64 a0_14, .int .i64 a0_15] 33 (0, 0)) a34_) : gb254 ≠ gb253)); clear BK253; clear HB; have BK253 := n0_; have HB := n1_; have BK254 := n2_; have GW254 := n3_; have GE254 := n4_; have NB253_254 := n5_; have NB254_253 := n6_; clear n0_ n1_ n2_ n3_ n4_ n5_ n6_; clear hb hbox hg) | ((with_reducible refine gate_callee (f := 30) rfl ?_); refine goesL_ (some 10) rfl rfl Tryd.func30 (by kernel_rfl) rfl #[.int .i64 a1] rfl a1_ ?_; (with_reducible refine (spec_YearOf.calls k a1 t255 _ A3.out).mono ?_); rintro e w' ⟨rfl, ⟨nd, rfl⟩⟩; refine ⟨_, rfl, ?_⟩))
 (try (rw [drewN_self w10]; generalize hq_ : World.drewN w10 _ = w10; have n0_ : Aside0 (w10.heap[gb253]? = some (.cells #[.string a0_0, .int .i64 a0_1, .bool a0_2, .string a0_3, .int .i64 a0_4, .bool a0_5, .int .i64 a0_6, .int .i64 a0_7, .int .i64 a0_8, .int .i64 a0_9, .int .i64 a0_10, .int .i64 a0_11, .int .i64 a0_12, .int .i64 a0_13, .int .i64 a0_14, .int .i64 a0_15] 33 (0, 0))) := ⟨by rw [← hq_]; exact a34_⟩; have n1_ : Aside0 (w10.heap[gb254]? = some (.cells #[.string (⟨#[]⟩ : ByteArray), .int .i64 0, .bool false] 27 (0, 0))) := ⟨by rw [← hq_]; exact a47_⟩; have n2_ : Aside0 (Below w.heap.size w w10) := ⟨by rw [← hq_]; exact a41_⟩; clear BK253 BK254 HB hq_; have BK253 := n0_; have BK254 := n1_; have HB := n2_; clear n0_ n1_ n2_))
 have n0_ := Aside0.mk (blk_drew BK253.out)
 have n1_ := Aside0.mk (blk_drew BK254.out)
 have n2_ := Aside0.mk (below_drew1 HB.out)
 clear BK253
 clear BK254
 clear HB
 have BK253 := n0_
 have BK254 := n1_
 have HB := n2_
 clear n0_ n1_ n2_
 refine start_ (n := 11) (S := fun w' => w'.cell? ⟨gb253, 0, none⟩ = some (.string a0_0) ∧ w'.cell? ⟨gb253, 1, none⟩ = some (.int .i64 a0_1) ∧ w'.cell? ⟨gb253, 2, none⟩ = some (.bool a0_2) ∧ w'.cell? ⟨gb253, 3, none⟩ = some (.string a0_3) ∧ w'.cell? ⟨gb253, 4, none⟩ = some (.int .i64 a0_4) ∧ w'.cell? ⟨gb253, 5, none⟩ = some (.bool a0_5) ∧ w'.cell? ⟨gb253, 6, none⟩ = some (.int .i64 a0_6) ∧ w'.cell? ⟨gb253, 7, none⟩ = some (.int .i64 a0_7) ∧ w'.cell? ⟨gb253, 8, none⟩ = some (.int .i64 a0_8) ∧ w'.cell? ⟨gb253, 9, none⟩ = some (.int .i64 a0_9) ∧ w'.cell? ⟨gb253, 10, none⟩ = some (.int .i64 a0_10) ∧ w'.cell? ⟨gb253, 11, none⟩ = some (.int .i64 a0_11) ∧ w'.cell? ⟨gb253, 12, none⟩ = some (.int .i64 a0_12) ∧ w'.cell? ⟨gb253, 13, none⟩ = some (.int .i64 a0_13) ∧ w'.cell? ⟨gb253, 14, none⟩ = some (.int .i64 a0_14) ∧ w'.cell? ⟨gb253, 15, none⟩ = some (.int .i64 a0_15)) (ds := []) #[false, false, false, false, false, false, false, false, false, false, false] (by kernel_rfl) rfl rfl ⟨(blk_cell BK253.out 0).trans rfl, (blk_cell BK253.out 1).trans rfl, (blk_cell BK253.out 2).trans rfl, (blk_cell BK253.out 3).trans rfl, (blk_cell BK253.out 4).trans rfl, (blk_cell BK253.out 5).trans rfl, (blk_cell BK253.out 6).trans rfl, (blk_cell BK253.out 7).trans rfl, (blk_cell BK253.out 8).trans rfl, (blk_cell BK253.out 9).trans rfl, (blk_cell BK253.out 10).trans rfl, (blk_cell BK253.out 11).trans rfl, (blk_cell BK253.out 12).trans rfl, (blk_cell BK253.out 13).trans rfl, (blk_cell BK253.out 14).trans rfl, (blk_cell BK253.out 15).trans rfl⟩ (fun hHeld => ?_); refine with_tabW spec_At.tab2 spec_At.bits2 (fun HT_ HW_ => ?_)
 generalize w10.drew = w11 at BK253 BK254 HB hHeld ⊢
 refine pure_ (i := 0) (N := some 11) (v := ?_) (a' := ?_) #[true, false, false, false, false, false, false, false, false, false, false] rfl rfl (any_of HT_.out (by kernel_rfl)) (fun _ _ _ h => h) (Or.inl ⟨by rfl, ?_⟩) ?_ ?_
 rotate_left
 ·intro w'
  go_simp
  with_reducible rfl
 rotate_left
 ·simp only [Act.put, List.setIfInBounds_toArray, List.set_cons_zero, List.set_cons_succ, i64_w, i32_w]
  rfl
 refine pure_ (i := 2) (N := some 13) (v := ?_) (a' := ?_) #[true, false, true, false, false, false, false, false, false, false, false] rfl rfl (any_of HT_.out (by kernel_rfl)) (fun _ _ _ h => h) (Or.inl ⟨by rfl, ?_⟩) ?_ ?_
 rotate_left
 ·intro w'
  go_simp
  with_reducible rfl
 rotate_left
 ·simp only [Act.put, List.setIfInBounds_toArray, List.set_cons_zero, List.set_cons_succ, i64_w, i32_w]
  rfl
 refine pure_ (i := 3) (N := some 14) (v := ?_) (a' := ?_) #[true, false, true, true, false, false, false, false, false, false, false] rfl rfl (any_of HT_.out (by kernel_rfl)) (fun _ _ _ h => h) (Or.inl ⟨by rfl, ?_⟩) ?_ ?_
 rotate_left
 ·intro w'
  go_simp
  with_reducible rfl
 rotate_left
 ·simp only [Act.put, List.setIfInBounds_toArray, List.set_cons_zero, List.set_cons_succ, i64_w, i32_w]
  rfl
 refine pure_ (i := 5) (N := some 16) (v := ?_) (a' := ?_) #[true, false, true, true, false, true, false, false, false, false, false] rfl rfl (any_of HT_.out (by kernel_rfl)) (fun _ _ _ h => h) (Or.inl ⟨by rfl, ?_⟩) ?_ ?_
 rotate_left
 ·intro w'
  go_simp
  with_reducible rfl
 rotate_left
 ·simp only [Act.put, List.setIfInBounds_toArray, List.set_cons_zero, List.set_cons_succ, i64_w, i32_w]
  rfl
 refine pure_ (i := 6) (N := some 17) (v := ?_) (a' := ?_) #[true, false, true, true, false, true, true, false, false, false, false] rfl rfl (any_of HT_.out (by kernel_rfl)) (fun _ _ _ h => h) (Or.inl ⟨by rfl, ?_⟩) ?_ ?_
 rotate_left
 ·intro w'
  go_simp
  with_reducible rfl
 rotate_left
 ·simp only [Act.put, List.setIfInBounds_toArray, List.set_cons_zero, List.set_cons_succ, i64_w, i32_w]
  rfl
 refine take_ (i := 4) (N := some 15) (v := ?_) (a' := ?_) #[true, false, true, true, true, true, true, false, false, false, false] rfl rfl (take_ofW HT_.out HW_.out (by kernel_rfl)) (fun _ _ _ h => h) (Or.inl ⟨by rfl, ?_⟩) hHeld ?_ ?_
 rotate_left
 ·rintro w' ⟨s0, s1, s2, s3, s4, s5, s6, s7, s8, s9, s10, s11, s12, s13, s14, s15⟩
  go_simp
  with_reducible rfl
 rotate_left
 ·simp only [Act.put, List.setIfInBounds_toArray, List.set_cons_zero, List.set_cons_succ, i64_w, i32_w]
  rfl
 refine take_ (i := 7) (N := some 18) (v := ?_) (a' := ?_) #[true, false, true, true, true, true, true, true, false, false, false] rfl rfl (take_ofW HT_.out HW_.out (by kernel_rfl)) (fun _ _ _ h => h) (Or.inl ⟨by rfl, ?_⟩) hHeld ?_ ?_
 rotate_left
 ·rintro w' ⟨s0, s1, s2, s3, s4, s5, s6, s7, s8, s9, s10, s11, s12, s13, s14, s15⟩
  go_simp
  with_reducible rfl
 rotate_left
 ·simp only [Act.put, List.setIfInBounds_toArray, List.set_cons_zero, List.set_cons_succ, i64_w, i32_w]
  rfl
 refine one_ (i := 1) (N := some 12) #[true, true, true, true, true, true, true, true, false, false, false] rfl rfl (one_of HT_.out (by kernel_rfl)) (by decide) (fun K hK => ?_)
 refine goes_ Tryd.func31 (by kernel_rfl) rfl #[.int .i64 t255] (by rfl) rfl rfl a1_ ?_
 with_reducible refine (spec_YearStart.calls t255 t256 _ A4.out).mono ?_
 rintro e w' ⟨rfl, ⟨nd, rfl⟩⟩
 refine ⟨_, rfl, ?_⟩
 refine hK.out _ _ ⟨(blk_cell BK253.out 0).trans rfl, (blk_cell BK253.out 1).trans rfl, (blk_cell BK253.out 2).trans rfl, (blk_cell BK253.out 3).trans rfl, (blk_cell BK253.out 4).trans rfl, (blk_cell BK253.out 5).trans rfl, (blk_cell BK253.out 6).trans rfl, (blk_cell BK253.out 7).trans rfl, (blk_cell BK253.out 8).trans rfl, (blk_cell BK253.out 9).trans rfl, (blk_cell BK253.out 10).trans rfl, (blk_cell BK253.out 11).trans rfl, (blk_cell BK253.out 12).trans rfl, (blk_cell BK253.out 13).trans rfl, (blk_cell BK253.out 14).trans rfl, (blk_cell BK253.out 15).trans rfl⟩ (fun hHeld => ?_)
 clear hK K
 refine norm_ (a' := ?_) ?_ ?_
 rotate_left
 ·show Act.put _ (some 12) _ = _
  simp only [Act.put, List.setIfInBounds_toArray, List.set_cons_zero, List.set_cons_succ, i64_w, i32_w]
  rfl
 refine one_ (i := 8) (N := some 19) #[true, true, true, true, true, true, true, true, true, false, false] rfl rfl (one_of HT_.out (by kernel_rfl)) (by decide) (fun K hK => ?_)
 refine goes_ Tryd.func32 (by kernel_rfl) rfl #[.int .i64 t255, .agg #[.int .i64 a0_6, .int .i64 a0_7, .int .i64 a0_8, .int .i64 a0_9, .int .i64 a0_10], .int .i64 a0_1] (by rfl) rfl rfl a1_ ?_
 with_reducible refine (spec_RuleTime.calls k t255 a0_6 a0_7 a0_8 a0_9 a0_10 a0_1 t257 _ A5.out).mono ?_
 rintro e w12 ⟨rfl, hb⟩
 refine ⟨_, rfl, ?_⟩
 have n0_ := Aside0.mk (blk_below (g := gb253) (o := .cells #[.string a0_0, .int .i64 a0_1, .bool a0_2, .string a0_3, .int .i64 a0_4, .bool a0_5, .int .i64 a0_6, .int .i64 a0_7, .int .i64 a0_8, .int .i64 a0_9, .int .i64 a0_10, .int .i64 a0_11, .int .i64 a0_12, .int .i64 a0_13, .int .i64 a0_14, .int .i64 a0_15] 33 (0, 0)) a34_ hb)
 have n1_ := Aside0.mk (blk_below (g := gb254) (o := .cells #[.string (⟨#[]⟩ : ByteArray), .int .i64 0, .bool false] 27 (0, 0)) a47_ hb)
 have n2_ := Aside0.mk (below_step a41_ hb)
 clear BK253
 clear BK254
 clear HB
 have BK253 := n0_
 have BK254 := n1_
 have HB := n2_
 clear n0_ n1_ n2_
 (try clear hb)
 (try clear hb2)
 (try clear hk)
 (try clear hi)
 refine hK.out _ _ ⟨(blk_cell BK253.out 0).trans rfl, (blk_cell BK253.out 1).trans rfl, (blk_cell BK253.out 2).trans rfl, (blk_cell BK253.out 3).trans rfl, (blk_cell BK253.out 4).trans rfl, (blk_cell BK253.out 5).trans rfl, (blk_cell BK253.out 6).trans rfl, (blk_cell BK253.out 7).trans rfl, (blk_cell BK253.out 8).trans rfl, (blk_cell BK253.out 9).trans rfl, (blk_cell BK253.out 10).trans rfl, (blk_cell BK253.out 11).trans rfl, (blk_cell BK253.out 12).trans rfl, (blk_cell BK253.out 13).trans rfl, (blk_cell BK253.out 14).trans rfl, (blk_cell BK253.out 15).trans rfl⟩ (fun hHeld => ?_)
 clear hK K
 refine norm_ (a' := ?_) ?_ ?_
 rotate_left
 ·show Act.put _ (some 19) _ = _
  simp only [Act.put, List.setIfInBounds_toArray, List.set_cons_zero, List.set_cons_succ, i64_w, i32_w]
  rfl
 refine pure_ (i := 9) (N := some 20) (v := ?_) (a' := ?_) #[true, true, true, true, true, true, true, true, true, true, false] rfl rfl (any_of HT_.out (by kernel_rfl)) (fun _ _ _ h => h) (Or.inl ⟨by rfl, ?_⟩) ?_ ?_
 rotate_left
 ·intro w'
  go_simp
  with_reducible rfl
 rotate_left
 ·simp only [Act.put, List.setIfInBounds_toArray, List.set_cons_zero, List.set_cons_succ, i64_w, i32_w]
  rfl
 refine pure_ (i := 10) (N := some 6) (v := ?_) (a' := ?_) #[true, true, true, true, true, true, true, true, true, true, true] rfl rfl (any_of HT_.out (by kernel_rfl)) (fun _ _ _ h => h) (Or.inl ⟨by rfl, ?_⟩) ?_ ?_
 rotate_left
 ·intro w'
  go_simp
  with_reducible rfl
 rotate_left
 ·simp only [Act.put, List.setIfInBounds_toArray, List.set_cons_zero, List.set_cons_succ, i64_w, i32_w]
  rfl
 refine done_ (done_of HT_.out (by kernel_rfl)) ?_
 try go_wp2
 have n0_ := Aside0.mk (blk_drew BK253.out)
 have n1_ := Aside0.mk (blk_drew BK254.out)
 have n2_ := Aside0.mk (below_drew1 HB.out)
 clear BK253
 clear BK254
 clear HB
 have BK253 := n0_
 have BK254 := n1_
 have HB := n2_
 clear n0_ n1_ n2_
 refine start_ (n := 11) (S := fun w' => w'.cell? ⟨gb253, 0, none⟩ = some (.string a0_0) ∧ w'.cell? ⟨gb253, 1, none⟩ = some (.int .i64 a0_1) ∧ w'.cell? ⟨gb253, 2, none⟩ = some (.bool a0_2) ∧ w'.cell? ⟨gb253, 3, none⟩ = some (.string a0_3) ∧ w'.cell? ⟨gb253, 4, none⟩ = some (.int .i64 a0_4) ∧ w'.cell? ⟨gb253, 5, none⟩ = some (.bool a0_5) ∧ w'.cell? ⟨gb253, 6, none⟩ = some (.int .i64 a0_6) ∧ w'.cell? ⟨gb253, 7, none⟩ = some (.int .i64 a0_7) ∧ w'.cell? ⟨gb253, 8, none⟩ = some (.int .i64 a0_8) ∧ w'.cell? ⟨gb253, 9, none⟩ = some (.int .i64 a0_9) ∧ w'.cell? ⟨gb253, 10, none⟩ = some (.int .i64 a0_10) ∧ w'.cell? ⟨gb253, 11, none⟩ = some (.int .i64 a0_11) ∧ w'.cell? ⟨gb253, 12, none⟩ = some (.int .i64 a0_12) ∧ w'.cell? ⟨gb253, 13, none⟩ = some (.int .i64 a0_13) ∧ w'.cell? ⟨gb253, 14, none⟩ = some (.int .i64 a0_14) ∧ w'.cell? ⟨gb253, 15, none⟩ = some (.int .i64 a0_15)) (ds := []) #[false, false, false, false, false, false, false, false, false, false, false] (by kernel_rfl) rfl rfl ⟨(blk_cell BK253.out 0).trans rfl, (blk_cell BK253.out 1).trans rfl, (blk_cell BK253.out 2).trans rfl, (blk_cell BK253.out 3).trans rfl, (blk_cell BK253.out 4).trans rfl, (blk_cell BK253.out 5).trans rfl, (blk_cell BK253.out 6).trans rfl, (blk_cell BK253.out 7).trans rfl, (blk_cell BK253.out 8).trans rfl, (blk_cell BK253.out 9).trans rfl, (blk_cell BK253.out 10).trans rfl, (blk_cell BK253.out 11).trans rfl, (blk_cell BK253.out 12).trans rfl, (blk_cell BK253.out 13).trans rfl, (blk_cell BK253.out 14).trans rfl, (blk_cell BK253.out 15).trans rfl⟩ (fun hHeld => ?_); refine with_tabW spec_At.tab3 spec_At.bits3 (fun HT_ HW_ => ?_)
 generalize w12.drew = w13 at BK253 BK254 HB hHeld ⊢
 refine pure_ (i := 0) (N := some 21) (v := ?_) (a' := ?_) #[true, false, false, false, false, false, false, false, false, false, false] rfl rfl (any_of HT_.out (by kernel_rfl)) (fun _ _ _ h => h) (Or.inl ⟨by rfl, ?_⟩) ?_ ?_
 rotate_left
 ·intro w'
  go_simp
  with_reducible rfl
 rotate_left
 ·simp only [Act.put, List.setIfInBounds_toArray, List.set_cons_zero, List.set_cons_succ, i64_w, i32_w]
  rfl
 refine pure_ (i := 2) (N := some 23) (v := ?_) (a' := ?_) #[true, false, true, false, false, false, false, false, false, false, false] rfl rfl (any_of HT_.out (by kernel_rfl)) (fun _ _ _ h => h) (Or.inl ⟨by rfl, ?_⟩) ?_ ?_
 rotate_left
 ·intro w'
  go_simp
  with_reducible rfl
 rotate_left
 ·simp only [Act.put, List.setIfInBounds_toArray, List.set_cons_zero, List.set_cons_succ, i64_w, i32_w]
  rfl
 refine pure_ (i := 3) (N := some 24) (v := ?_) (a' := ?_) #[true, false, true, true, false, false, false, false, false, false, false] rfl rfl (any_of HT_.out (by kernel_rfl)) (fun _ _ _ h => h) (Or.inl ⟨by rfl, ?_⟩) ?_ ?_
 rotate_left
 ·intro w'
  go_simp
  with_reducible rfl
 rotate_left
 ·simp only [Act.put, List.setIfInBounds_toArray, List.set_cons_zero, List.set_cons_succ, i64_w, i32_w]
  rfl
 refine pure_ (i := 5) (N := some 26) (v := ?_) (a' := ?_) #[true, false, true, true, false, true, false, false, false, false, false] rfl rfl (any_of HT_.out (by kernel_rfl)) (fun _ _ _ h => h) (Or.inl ⟨by rfl, ?_⟩) ?_ ?_
 rotate_left
 ·intro w'
  go_simp
  with_reducible rfl
 rotate_left
 ·simp only [Act.put, List.setIfInBounds_toArray, List.set_cons_zero, List.set_cons_succ, i64_w, i32_w]
  rfl
 refine pure_ (i := 6) (N := some 27) (v := ?_) (a' := ?_) #[true, false, true, true, false, true, true, false, false, false, false] rfl rfl (any_of HT_.out (by kernel_rfl)) (fun _ _ _ h => h) (Or.inl ⟨by rfl, ?_⟩) ?_ ?_
 rotate_left
 ·intro w'
  go_simp
  with_reducible rfl
 rotate_left
 ·simp only [Act.put, List.setIfInBounds_toArray, List.set_cons_zero, List.set_cons_succ, i64_w, i32_w]
  rfl
 refine take_ (i := 4) (N := some 25) (v := ?_) (a' := ?_) #[true, false, true, true, true, true, true, false, false, false, false] rfl rfl (take_ofW HT_.out HW_.out (by kernel_rfl)) (fun _ _ _ h => h) (Or.inl ⟨by rfl, ?_⟩) hHeld ?_ ?_
 rotate_left
 ·rintro w' ⟨s0, s1, s2, s3, s4, s5, s6, s7, s8, s9, s10, s11, s12, s13, s14, s15⟩
  go_simp
  with_reducible rfl
 rotate_left
 ·simp only [Act.put, List.setIfInBounds_toArray, List.set_cons_zero, List.set_cons_succ, i64_w, i32_w]
  rfl
 refine take_ (i := 7) (N := some 28) (v := ?_) (a' := ?_) #[true, false, true, true, true, true, true, true, false, false, false] rfl rfl (take_ofW HT_.out HW_.out (by kernel_rfl)) (fun _ _ _ h => h) (Or.inl ⟨by rfl, ?_⟩) hHeld ?_ ?_
 rotate_left
 ·rintro w' ⟨s0, s1, s2, s3, s4, s5, s6, s7, s8, s9, s10, s11, s12, s13, s14, s15⟩
  go_simp
  with_reducible rfl
 rotate_left
 ·simp only [Act.put, List.setIfInBounds_toArray, List.set_cons_zero, List.set_cons_succ, i64_w, i32_w]
  rfl
 refine one_ (i := 1) (N := some 22) #[true, true, true, true, true, true, true, true, false, false, false] rfl rfl (one_of HT_.out (by kernel_rfl)) (by decide) (fun K hK => ?_)
 refine goes_ Tryd.func31 (by kernel_rfl) rfl #[.int .i64 t255] (by rfl) rfl rfl a1_ ?_
 with_reducible refine (spec_YearStart.calls t255 t258 _ A6.out).mono ?_
 rintro e w' ⟨rfl, ⟨nd, rfl⟩⟩
 refine ⟨_, rfl, ?_⟩
 refine hK.out _ _ ⟨(blk_cell BK253.out 0).trans rfl, (blk_cell BK253.out 1).trans rfl, (blk_cell BK253.out 2).trans rfl, (blk_cell BK253.out 3).trans rfl, (blk_cell BK253.out 4).trans rfl, (blk_cell BK253.out 5).trans rfl, (blk_cell BK253.out 6).trans rfl, (blk_cell BK253.out 7).trans rfl, (blk_cell BK253.out 8).trans rfl, (blk_cell BK253.out 9).trans rfl, (blk_cell BK253.out 10).trans rfl, (blk_cell BK253.out 11).trans rfl, (blk_cell BK253.out 12).trans rfl, (blk_cell BK253.out 13).trans rfl, (blk_cell BK253.out 14).trans rfl, (blk_cell BK253.out 15).trans rfl⟩ (fun hHeld => ?_)
 clear hK K
 refine norm_ (a' := ?_) ?_ ?_
 rotate_left
 ·show Act.put _ (some 22) _ = _
  simp only [Act.put, List.setIfInBounds_toArray, List.set_cons_zero, List.set_cons_succ, i64_w, i32_w]
  rfl
 refine one_ (i := 8) (N := some 29) #[true, true, true, true, true, true, true, true, true, false, false] rfl rfl (one_of HT_.out (by kernel_rfl)) (by decide) (fun K hK => ?_)
 refine goes_ Tryd.func32 (by kernel_rfl) rfl #[.int .i64 t255, .agg #[.int .i64 a0_11, .int .i64 a0_12, .int .i64 a0_13, .int .i64 a0_14, .int .i64 a0_15], .int .i64 a0_4] (by rfl) rfl rfl a1_ ?_
 with_reducible refine (spec_RuleTime.calls k t255 a0_11 a0_12 a0_13 a0_14 a0_15 a0_4 t259 _ A7.out).mono ?_
 rintro e w14 ⟨rfl, hb⟩
 refine ⟨_, rfl, ?_⟩
 have n0_ := Aside0.mk (blk_below (g := gb253) (o := .cells #[.string a0_0, .int .i64 a0_1, .bool a0_2, .string a0_3, .int .i64 a0_4, .bool a0_5, .int .i64 a0_6, .int .i64 a0_7, .int .i64 a0_8, .int .i64 a0_9, .int .i64 a0_10, .int .i64 a0_11, .int .i64 a0_12, .int .i64 a0_13, .int .i64 a0_14, .int .i64 a0_15] 33 (0, 0)) a34_ hb)
 have n1_ := Aside0.mk (blk_below (g := gb254) (o := .cells #[.string (⟨#[]⟩ : ByteArray), .int .i64 0, .bool false] 27 (0, 0)) a47_ hb)
 have n2_ := Aside0.mk (below_step a41_ hb)
 clear BK253
 clear BK254
 clear HB
 have BK253 := n0_
 have BK254 := n1_
 have HB := n2_
 clear n0_ n1_ n2_
 (try clear hb)
 (try clear hb2)
 (try clear hk)
 (try clear hi)
 refine hK.out _ _ ⟨(blk_cell BK253.out 0).trans rfl, (blk_cell BK253.out 1).trans rfl, (blk_cell BK253.out 2).trans rfl, (blk_cell BK253.out 3).trans rfl, (blk_cell BK253.out 4).trans rfl, (blk_cell BK253.out 5).trans rfl, (blk_cell BK253.out 6).trans rfl, (blk_cell BK253.out 7).trans rfl, (blk_cell BK253.out 8).trans rfl, (blk_cell BK253.out 9).trans rfl, (blk_cell BK253.out 10).trans rfl, (blk_cell BK253.out 11).trans rfl, (blk_cell BK253.out 12).trans rfl, (blk_cell BK253.out 13).trans rfl, (blk_cell BK253.out 14).trans rfl, (blk_cell BK253.out 15).trans rfl⟩ (fun hHeld => ?_)
 clear hK K
 refine norm_ (a' := ?_) ?_ ?_
 rotate_left
 ·show Act.put _ (some 29) _ = _
  simp only [Act.put, List.setIfInBounds_toArray, List.set_cons_zero, List.set_cons_succ, i64_w, i32_w]
  rfl
 refine pure_ (i := 9) (N := some 30) (v := ?_) (a' := ?_) #[true, true, true, true, true, true, true, true, true, true, false] rfl rfl (any_of HT_.out (by kernel_rfl)) (fun _ _ _ h => h) (Or.inl ⟨by rfl, ?_⟩) ?_ ?_
 rotate_left
 ·intro w'
  go_simp
  with_reducible rfl
 rotate_left
 ·simp only [Act.put, List.setIfInBounds_toArray, List.set_cons_zero, List.set_cons_succ, i64_w, i32_w]
  rfl
 refine pure_ (i := 10) (N := some 7) (v := ?_) (a' := ?_) #[true, true, true, true, true, true, true, true, true, true, true] rfl rfl (any_of HT_.out (by kernel_rfl)) (fun _ _ _ h => h) (Or.inl ⟨by rfl, ?_⟩) ?_ ?_
 rotate_left
 ·intro w'
  go_simp
  with_reducible rfl
 rotate_left
 ·simp only [Act.put, List.setIfInBounds_toArray, List.set_cons_zero, List.set_cons_succ, i64_w, i32_w]
  rfl
 refine done_ (done_of HT_.out (by kernel_rfl)) ?_
 go_upto_region 4 with (fail)
 go_cut [8] (fun v8 wc => ∃ (kq : Nat) (x8_7 : Bool), v8 = .bool x8_7 ∧ Aside0 (spec_At.j0 kq a1 (wrap64 (t256 + t257)) (wrap64 (t258 + t259)) x8_7 a0_0 a0_1 a0_2 a0_3 a0_4 a0_5 a0_6 a0_7 a0_8 a0_9 a0_10 a0_11 a0_12 a0_13 a0_14 a0_15 = some (r1, r2, r3)) ∧ Aside0 (kq ≤ k) ∧ Aside0 (wc.heap[gb253]? = some (.cells #[.string a0_0, .int .i64 a0_1, .bool a0_2, .string a0_3, .int .i64 a0_4, .bool a0_5, .int .i64 a0_6, .int .i64 a0_7, .int .i64 a0_8, .int .i64 a0_9, .int .i64 a0_10, .int .i64 a0_11, .int .i64 a0_12, .int .i64 a0_13, .int .i64 a0_14, .int .i64 a0_15] 33 (0, 0))) ∧ Aside0 (wc.heap[gb254]? = some (.cells #[.string (⟨#[]⟩ : ByteArray), .int .i64 0, .bool false] 27 (0, 0))) ∧ Aside0 (Below w.heap.size w wc))
 case first =>
  have H := HC8.out
  clear HC8
  by_cases c15 : a1 ≥ (wrap64 (t256 + t257))
  ·rw [if_pos c15] at H
   have c15b0 : decide ((wrap64 (t256 + t257)) ≤ a1) = true := decide_eq_true c15
   clear c15
   (first | rw [c15b0] | (simp only [i64_w, i32_w]; rw [c15b0]) | skip)
   have H' := Aside0.mk H
   clear H
   go_wp2
   go_meet
   case rel => exact ⟨_, (decide (a1 < (wrap64 (t258 + t259)))), a5_, H', ⟨by first | omega | exact Nat.le_refl _⟩, ⟨by (with_reducible repeat (first | refine blk_drewN ?_ _ | refine blk_drew ?_ | refine blk_alloc ?_ _)); exact BK253.out⟩, ⟨by (with_reducible repeat (first | refine blk_drewN ?_ _ | refine blk_drew ?_ | refine blk_alloc ?_ _)); exact BK254.out⟩, ⟨by repeat (first | (with_reducible first | exact HB.out | apply below_alloc | apply pw_below_drewN | apply below_drew1 | refine below_set ?_ GE253.out | refine below_set ?_ GE254.out) | exact HB.out)⟩⟩
  ·rw [if_neg c15] at H
   have c15b0 : decide ((wrap64 (t256 + t257)) ≤ a1) = false := decide_eq_false c15
   clear c15
   (first | rw [c15b0] | (simp only [i64_w, i32_w]; rw [c15b0]) | skip)
   have H' := Aside0.mk H
   clear H
   go_wp2
   go_meet
   case rel => exact ⟨_, (false), a5_, H', ⟨by first | omega | exact Nat.le_refl _⟩, ⟨by (with_reducible repeat (first | refine blk_drewN ?_ _ | refine blk_drew ?_ | refine blk_alloc ?_ _)); exact BK253.out⟩, ⟨by (with_reducible repeat (first | refine blk_drewN ?_ _ | refine blk_drew ?_ | refine blk_alloc ?_ _)); exact BK254.out⟩, ⟨by repeat (first | (with_reducible first | exact HB.out | apply below_alloc | apply pw_below_drewN | apply below_drew1 | refine below_set ?_ GE253.out | refine below_set ?_ GE254.out) | exact HB.out)⟩⟩
 case rest =>
  clear HC8
  try clear c1
  try clear p2
  try clear c3
  try clear p6
  try clear c13
  try clear c15
  try clear c15b0
  obtain ⟨kq, x8_7, rfl, HA, HJ7, BK253, BK254, HB⟩ := hcut
  cases kq with
  | zero => exact absurd HA.out (by simp [spec_At.j0])
  | succ kj7 =>
   have H := HA.out
   clear HA
   simp only [spec_At.j0] at H
   by_cases c16 : (wrap64 (t258 + t259)) < (wrap64 (t256 + t257))
   ·rw [if_pos c16] at H
    have c16b0 := decide_eq_true c16
    clear c16
    by_cases c17 : a1 ≥ (wrap64 (t256 + t257))
    ·rw [if_pos c17] at H
     have c17b0 : decide ((wrap64 (t256 + t257)) ≤ a1) = true := decide_eq_true c17
     clear c17
     simp only [Option.some.injEq, Prod.mk.injEq] at H
     obtain ⟨rfl, rfl, rfl⟩ := H
     have hnb18 := NB253_254.out
     have hnc18 := NB254_253.out
     obtain ⟨hcz19_0, hcz19_1, hcz19_2, hcz19_3, hcz19_4, hcz19_5, hcz19_6, hcz19_7, hcz19_8, hcz19_9, hcz19_10, hcz19_11, hcz19_12, hcz19_13, hcz19_14, hcz19_15, hfz19_0, hfz19_1, hfz19_2, hfz19_3, hfz19_4, hfz19_5, hfz19_6, hfz19_7, hfz19_8, hfz19_9, hfz19_10, hfz19_11, hfz19_12, hfz19_13, hfz19_14, hfz19_15⟩ := c16f_ BK253.out
     obtain ⟨hcz20_0, hcz20_1, hcz20_2, hfz20_0, hfz20_1, hfz20_2⟩ := c3f_ BK254.out
     go_wp2
     refine bodyPost_ret (results_cell_row rfl _ _ gb254 27 #[.string a0_3, .int .i64 a0_4, .bool true] (0, 0) _ rfl a16_ Tryd.underlying27 rfl (by kernel_rfl)) rfl ?_
     exact ⟨by first | rfl | (simp [errW_none, errW_some] <;> rfl) | (simp [*, errW_none, errW_some] <;> rfl), by repeat (first | (with_reducible first | exact HB.out | apply below_alloc | apply pw_below_drewN | apply below_drew1 | refine below_set ?_ GE253.out | refine below_set ?_ GE254.out) | exact HB.out)⟩
    ·rw [if_neg c17] at H
     have c17b0 : decide ((wrap64 (t256 + t257)) ≤ a1) = false := decide_eq_false c17
     clear c17
     by_cases c21 : a1 < (wrap64 (t258 + t259))
     ·rw [if_pos c21] at H
      have c21b0 := decide_eq_true c21
      clear c21
      simp only [Option.some.injEq, Prod.mk.injEq] at H
      obtain ⟨rfl, rfl, rfl⟩ := H
      have hnb22 := NB253_254.out
      have hnc22 := NB254_253.out
      obtain ⟨hcz23_0, hcz23_1, hcz23_2, hcz23_3, hcz23_4, hcz23_5, hcz23_6, hcz23_7, hcz23_8, hcz23_9, hcz23_10, hcz23_11, hcz23_12, hcz23_13, hcz23_14, hcz23_15, hfz23_0, hfz23_1, hfz23_2, hfz23_3, hfz23_4, hfz23_5, hfz23_6, hfz23_7, hfz23_8, hfz23_9, hfz23_10, hfz23_11, hfz23_12, hfz23_13, hfz23_14, hfz23_15⟩ := c16f_ BK253.out
      obtain ⟨hcz24_0, hcz24_1, hcz24_2, hfz24_0, hfz24_1, hfz24_2⟩ := c3f_ BK254.out
      go_wp2
      refine bodyPost_ret (results_cell_row rfl _ _ gb254 27 #[.string a0_3, .int .i64 a0_4, .bool true] (0, 0) _ rfl a16_ Tryd.underlying27 rfl (by kernel_rfl)) rfl ?_
      exact ⟨by first | rfl | (simp [errW_none, errW_some] <;> rfl) | (simp [*, errW_none, errW_some] <;> rfl), by repeat (first | (with_reducible first | exact HB.out | apply below_alloc | apply pw_below_drewN | apply below_drew1 | refine below_set ?_ GE253.out | refine below_set ?_ GE254.out) | exact HB.out)⟩
     ·rw [if_neg c21] at H
      have c21b0 := decide_eq_false c21
      clear c21
      simp only [Option.some.injEq, Prod.mk.injEq] at H
      obtain ⟨rfl, rfl, rfl⟩ := H
      have hnb25 := NB253_254.out
      have hnc25 := NB254_253.out
      obtain ⟨hcz26_0, hcz26_1, hcz26_2, hcz26_3, hcz26_4, hcz26_5, hcz26_6, hcz26_7, hcz26_8, hcz26_9, hcz26_10, hcz26_11, hcz26_12, hcz26_13, hcz26_14, hcz26_15, hfz26_0, hfz26_1, hfz26_2, hfz26_3, hfz26_4, hfz26_5, hfz26_6, hfz26_7, hfz26_8, hfz26_9, hfz26_10, hfz26_11, hfz26_12, hfz26_13, hfz26_14, hfz26_15⟩ := c16f_ BK253.out
      obtain ⟨hcz27_0, hcz27_1, hcz27_2, hfz27_0, hfz27_1, hfz27_2⟩ := c3f_ BK254.out
      go_wp2
      refine bodyPost_ret (results_cell_row rfl _ _ gb254 27 #[.string a0_0, .int .i64 a0_1, .bool false] (0, 0) _ rfl a33_ Tryd.underlying27 rfl (by kernel_rfl)) rfl ?_
      exact ⟨by first | rfl | (simp [errW_none, errW_some] <;> rfl) | (simp [*, errW_none, errW_some] <;> rfl), by repeat (first | (with_reducible first | exact HB.out | apply below_alloc | apply pw_below_drewN | apply below_drew1 | refine below_set ?_ GE253.out | refine below_set ?_ GE254.out) | exact HB.out)⟩
   ·rw [if_neg c16] at H
    have c16b0 := decide_eq_false c16
    clear c16
    by_cases c28 : x8_7 = true
    ·subst c28
     have H1 : (some (a0_3, a0_4, true)) = some (r1, r2, r3) := by rw [if_pos rfl] at H; exact H
     clear H
     have H := H1
     clear H1
     simp only [Option.some.injEq, Prod.mk.injEq] at H
     obtain ⟨rfl, rfl, rfl⟩ := H
     have hnb29 := NB253_254.out
     have hnc29 := NB254_253.out
     obtain ⟨hcz30_0, hcz30_1, hcz30_2, hcz30_3, hcz30_4, hcz30_5, hcz30_6, hcz30_7, hcz30_8, hcz30_9, hcz30_10, hcz30_11, hcz30_12, hcz30_13, hcz30_14, hcz30_15, hfz30_0, hfz30_1, hfz30_2, hfz30_3, hfz30_4, hfz30_5, hfz30_6, hfz30_7, hfz30_8, hfz30_9, hfz30_10, hfz30_11, hfz30_12, hfz30_13, hfz30_14, hfz30_15⟩ := c16f_ BK253.out
     obtain ⟨hcz31_0, hcz31_1, hcz31_2, hfz31_0, hfz31_1, hfz31_2⟩ := c3f_ BK254.out
     go_wp2
     refine bodyPost_ret (results_cell_row rfl _ _ gb254 27 #[.string a0_3, .int .i64 a0_4, .bool true] (0, 0) _ rfl a16_ Tryd.underlying27 rfl (by kernel_rfl)) rfl ?_
     exact ⟨by first | rfl | (simp [errW_none, errW_some] <;> rfl) | (simp [*, errW_none, errW_some] <;> rfl), by repeat (first | (with_reducible first | exact HB.out | apply below_alloc | apply pw_below_drewN | apply below_drew1 | refine below_set ?_ GE253.out | refine below_set ?_ GE254.out) | exact HB.out)⟩
    ·replace c28 := Bool.eq_false_iff.mpr c28
     subst c28
     have H1 : (some (a0_0, a0_1, false)) = some (r1, r2, r3) := by rw [if_neg (show ¬ (false = true) by decide)] at H; exact H
     clear H
     have H := H1
     clear H1
     simp only [Option.some.injEq, Prod.mk.injEq] at H
     obtain ⟨rfl, rfl, rfl⟩ := H
     have hnb32 := NB253_254.out
     have hnc32 := NB254_253.out
     obtain ⟨hcz33_0, hcz33_1, hcz33_2, hcz33_3, hcz33_4, hcz33_5, hcz33_6, hcz33_7, hcz33_8, hcz33_9, hcz33_10, hcz33_11, hcz33_12, hcz33_13, hcz33_14, hcz33_15, hfz33_0, hfz33_1, hfz33_2, hfz33_3, hfz33_4, hfz33_5, hfz33_6, hfz33_7, hfz33_8, hfz33_9, hfz33_10, hfz33_11, hfz33_12, hfz33_13, hfz33_14, hfz33_15⟩ := c16f_ BK253.out
     obtain ⟨hcz34_0, hcz34_1, hcz34_2, hfz34_0, hfz34_1, hfz34_2⟩ := c3f_ BK254.out
     go_wp2
     refine bodyPost_ret (results_cell_row rfl _ _ gb254 27 #[.string a0_0, .int .i64 a0_1, .bool false] (0, 0) _ rfl a33_ Tryd.underlying27 rfl (by kernel_rfl)) rfl ?_
     exact ⟨by first | rfl | (simp [errW_none, errW_some] <;> rfl) | (simp [*, errW_none, errW_some] <;> rfl), by repeat (first | (with_reducible first | exact HB.out | apply below_alloc | apply pw_below_drewN | apply below_drew1 | refine below_set ?_ GE253.out | refine below_set ?_ GE254.out) | exact HB.out)⟩
end Go.Proofs.YtjoaeennbfmohaaDoor.PFnZone
