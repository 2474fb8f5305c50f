/- The walk of tzset: the zone that a text of two names, two offsets and two rules tells at a time. Conditions: the text is such a one. -/
import Derived.Test.YtjoaeennbfmohaaDoorTr
import Derived.Test.YtjoaeennbfmohaaDoorC9
import Derived.Test.YtjoaeennbfmohaaDoorC10
import Derived.Outline
import Derived.Deep.DeepMust
namespace Go.Proofs.YtjoaeennbfmohaaDoor
open Go.RowKit Go.Proofs.YtjoaeennbfmohaaDoorW.PrintWords Go.Proofs.YtjoaeennbfmohaaDoorW.PrintLast Go.Proofs.YtjoaeennbfmohaaDoorW.PrintMore Go.Proofs.YtjoaeennbfmohaaDoor.PFnZone
set_option linter.unusedVariables false
set_option linter.unusedSimpArgs false

/-- A text whose head is a name. -/
def NameAt (l nm rest : List UInt8) : Prop :=
  ∀ w, Calls Tryd.prog 57 #[.string (tx l)] w fun e w' => e = .returned (.tuple #[.string (tx nm), .string (tx rest), .bool true]) ∧ Below w.heap.size w w'
/-- The zone that two rules tell, x seconds into a year. -/
def ruled (std dst : ByteArray) (o1 o2 S E x : Int) : S27 :=
  if (if E < S then S ≤ x ∨ x < E else S ≤ x ∧ x < E) then ⟨dst, o2, true⟩ else ⟨std, o1, false⟩

set_option maxRecDepth 100000 in
set_option maxHeartbeats 8000000 in
theorem tzset_calls (l0 std dst s1 s2 s3 s4 s5 : List UInt8) (c2 c3 : UInt8) (o1 o2 k1 d1 e1 m1 t1 k2 d2 e2 m2 t2 : Int)
    (hn1 : NameAt l0 std s1) (ho1 : OffAt s1 o1 (c2 :: s2)) (hc2 : c2.toNat ≠ 44) (hn2 : NameAt (c2 :: s2) dst (c3 :: s3)) (hc3 : c3.toNat ≠ 44) (ho2 : OffAt (c3 :: s3) o2 (44 :: s4))
    (hr1 : RuleAt s4 k1 d1 e1 m1 t1 (44 :: s5)) (hr2 : RuleAt s5 k2 d2 e2 m2 t2 [])
    (ho1b : -1000000 ≤ o1 ∧ o1 ≤ 1000000) (ho2b : -1000000 ≤ o2 ∧ o2 ≤ 1000000)
    (last sec : Int) (hs0 : 0 ≤ sec) (hs1 : sec ≤ 253402300799) (A D year yday S E : Int) (k : Nat)
    (hA : sec + 9223372028741760000 = A) (hD : gotimezone_absSeconds_days.f A = some D) (hY : gotimezone_absDays_yearYday.f k D = some (year, yday)) (hy0 : 1 ≤ yday) (hy1 : yday ≤ 366)
    (hS : gotimezone_tzruleTime.f k year k1 d1 e1 m1 t1 (-o1) = some S) (hE : gotimezone_tzruleTime.f k year k2 d2 e2 m2 t2 (-o2) = some E) (hSb : -1000000000 ≤ S ∧ S ≤ 1000000000) (hEb : -1000000000 ≤ E ∧ E ≤ 1000000000) (w : World) :
    Calls Tryd.prog 54 #[.string (tx l0), .int .i64 last, .int .i64 sec] w fun e w' => (∃ st en : Int, e = .returned (.tuple #[.string (ruled (tx std) (tx dst) (-o1) (-o2) S E ((yday - 1) * 86400 + sec % 86400)).f0, .int .i64 (ruled (tx std) (tx dst) (-o1) (-o2) S E ((yday - 1) * 86400 + sec % 86400)).f1, .int .i64 st, .int .i64 en, .bool (ruled (tx std) (tx dst) (-o1) (-o2) S E ((yday - 1) * 86400 + sec % 86400)).f2, .bool true])) ∧ Below w.heap.size w w' := by
  obtain ⟨o1a, o1b⟩ := ho1b
  obtain ⟨o2a, o2b⟩ := ho2b
  obtain ⟨Sa, Sb⟩ := hSb
  obtain ⟨Ea, Eb⟩ := hEb
  have hlnA := fun W ty => len_tx W ty (c2 :: s2)
  have hixA := fun W => index_tx0 W c2 s2
  have hlA : (((c2 :: s2).length : Int) == 0) = false := beq_eq_false_iff_ne.mpr (by rw [List.length_cons]; omega)
  have qA : ((c2.toNat : Int) == 44) = false := by simp; omega
  have hlnB := fun W ty => len_tx W ty (c3 :: s3)
  have hixB := fun W => index_tx0 W c3 s3
  have hlB : (((c3 :: s3).length : Int) == 0) = false := beq_eq_false_iff_ne.mpr (by rw [List.length_cons]; omega)
  have qB : ((c3.toNat : Int) == 44) = false := by simp; omega
  have hlnC := fun W ty => len_tx W ty (44 :: s4)
  have hixC := fun W => index_tx0 W 44 s4
  have hslC := fun W => from_tx1 W 44 s4
  have hlC : (((44 :: s4).length : Int) == 0) = false := beq_eq_false_iff_ne.mpr (by rw [List.length_cons]; omega)
  have hlnD := fun W ty => len_tx W ty (44 :: s5)
  have hixD := fun W => index_tx0 W 44 s5
  have hslD := fun W => from_tx1 W 44 s5
  have hlD : (((44 :: s5).length : Int) == 0) = false := beq_eq_false_iff_ne.mpr (by rw [List.length_cons]; omega)
  generalize (c2.toNat : Nat) = n2 at hixA qA hc2
  generalize (c3.toNat : Nat) = n3 at hixB qB hc3
  generalize (c2 :: s2) = A2 at ho1 hn2 hlnA hixA hlA
  generalize (c3 :: s3) = A3 at hn2 ho2 hlnB hixB hlB
  generalize (44 :: s4) = A4 at ho2 hlnC hixC hslC hlC
  generalize (44 :: s5) = A5 at hr1 hlnD hixD hslD hlD
  obtain ⟨A6, hnilE⟩ : ∃ A, ([] : List UInt8) = A := ⟨_, rfl⟩
  rw [hnilE] at hr2
  have HNIL := Aside0.mk hnilE
  have hlnE := fun W ty => len_tx W ty A6
  have hlE : ((A6.length : Int)) = 0 := by rw [← hnilE]; rfl
  clear hnilE
  go_enter Tryd.func54, Tryd.ntmps54
  go_wp2_with fail
  refine (hn1 _).mono ?_
  rintro e w1 ⟨rfl, hb1⟩
  go_wp2_with fail
  refine (ho1 _).mono ?_
  rintro e w2 ⟨rfl, hb2⟩
  have hB2 := hb1.trans (hb2.mono hb1.size)
  clear hb1 hb2
  go_wp2_with fail
  refine (hn2 _).mono ?_
  rintro e w3 ⟨rfl, hb3⟩
  have hB3 := hB2.trans (hb3.mono hB2.size)
  clear hB2 hb3
  go_wp2_with fail
  refine (ho2 _).mono ?_
  rintro e w4 ⟨rfl, hb4⟩
  have hB4 := hB3.trans (hb4.mono hB3.size)
  clear hB3 hb4
  go_wp2_with fail
  refine (hr1 _).mono ?_
  rintro e w5 ⟨rfl, hb5⟩
  obtain ⟨hr, hq, hb6, hsz⟩ := two_blocks hb5
  have hB6 := hB4.trans (hb6.mono hB4.size)
  have hB4s := hB4.size
  clear hb5 hb6 hB4
  obtain ⟨⟨p0, p1, p2, p3, p4⟩, f0, f1, f2, f3, f4⟩ := five_cells hr
  go_wp2_with fail
  have HR6 := Aside0.mk (blk_set (blk_set (blk_set (blk_set (blk_set hr 0 (.int .i64 k1)) 1 (.int .i64 d1)) 2 (.int .i64 e1)) 3 (.int .i64 m1)) 4 (.int .i64 t1))
  have HQ6 : Aside0 ((((((w5.setCell ⟨w4.heap.size, 0, none⟩ (.int .i64 k1)).setCell ⟨w4.heap.size, 1, none⟩ (.int .i64 d1)).setCell ⟨w4.heap.size, 2, none⟩ (.int .i64 e1)).setCell ⟨w4.heap.size, 3, none⟩ (.int .i64 m1)).setCell ⟨w4.heap.size, 4, none⟩ (.int .i64 t1)).heap[w4.heap.size + 1]? = some (.cells #[.int .i64 0, .int .i64 0, .int .i64 0, .int .i64 0, .int .i64 0] 120 (0, 0))) :=
    ⟨((Below.heap_setCell _ _ _ (w4.heap.size + 1) (by simp)).trans ((Below.heap_setCell _ _ _ (w4.heap.size + 1) (by simp)).trans ((Below.heap_setCell _ _ _ (w4.heap.size + 1) (by simp)).trans ((Below.heap_setCell _ _ _ (w4.heap.size + 1) (by simp)).trans ((Below.heap_setCell _ _ _ (w4.heap.size + 1) (by simp)).trans hq)))))⟩
  have HB6 := Aside0.mk (below_cell (below_cell (below_cell (below_cell (below_cell hB6 w4.heap.size 0 (.int .i64 k1) hB4s) w4.heap.size 1 (.int .i64 d1) hB4s) w4.heap.size 2 (.int .i64 e1) hB4s) w4.heap.size 3 (.int .i64 m1) hB4s) w4.heap.size 4 (.int .i64 t1) hB4s)
  generalize hW6 : ((((w5.setCell ⟨w4.heap.size, 0, none⟩ (.int .i64 k1)).setCell ⟨w4.heap.size, 1, none⟩ (.int .i64 d1)).setCell ⟨w4.heap.size, 2, none⟩ (.int .i64 e1)).setCell ⟨w4.heap.size, 3, none⟩ (.int .i64 m1)).setCell ⟨w4.heap.size, 4, none⟩ (.int .i64 t1) = w6 at HR6 HQ6 HB6 ⊢
  have hsz6 : w4.heap.size + 2 ≤ w6.heap.size := by rw [← hW6]; simpa using hsz
  clear hW6 hr hq hB6 hsz p0 p1 p2 p3 p4 f0 f1 f2 f3 f4
  refine (hr2 _).mono ?_
  rintro e w7 ⟨rfl, hb7⟩
  have hr7 := (hb7.block w4.heap.size (by omega)).trans HR6.out
  have hq7 := (hb7.block (w4.heap.size + 1) (by omega)).trans HQ6.out
  have HB7 := Aside0.mk (HB6.out.trans (hb7.mono HB6.out.size))
  have hsz7 := hb7.size
  clear hb7 HR6 HQ6 HB6
  obtain ⟨⟨p0, p1, p2, p3, p4⟩, f0, f1, f2, f3, f4⟩ := five_cells hq7
  have hw1 : IntKind.u64.wrap (wrap64 (sec + 62135596800 + 9223371966606163200)) = A := by
    rw [← hA, IntKind.wrap_u64]; unfold wrap64; omega
  go_wp2_with fail
  have HQ8 := Aside0.mk (blk_set (blk_set (blk_set (blk_set (blk_set hq7 0 (.int .i64 k2)) 1 (.int .i64 d2)) 2 (.int .i64 e2)) 3 (.int .i64 m2)) 4 (.int .i64 t2))
  have HR8 : Aside0 ((((((w7.setCell ⟨w4.heap.size + 1, 0, none⟩ (.int .i64 k2)).setCell ⟨w4.heap.size + 1, 1, none⟩ (.int .i64 d2)).setCell ⟨w4.heap.size + 1, 2, none⟩ (.int .i64 e2)).setCell ⟨w4.heap.size + 1, 3, none⟩ (.int .i64 m2)).setCell ⟨w4.heap.size + 1, 4, none⟩ (.int .i64 t2)).heap[w4.heap.size]? = some (.cells #[.int .i64 k1, .int .i64 d1, .int .i64 e1, .int .i64 m1, .int .i64 t1] 120 (0, 0))) :=
    ⟨((Below.heap_setCell _ _ _ w4.heap.size (by simp)).trans ((Below.heap_setCell _ _ _ w4.heap.size (by simp)).trans ((Below.heap_setCell _ _ _ w4.heap.size (by simp)).trans ((Below.heap_setCell _ _ _ w4.heap.size (by simp)).trans ((Below.heap_setCell _ _ _ w4.heap.size (by simp)).trans hr7)))))⟩
  have hB4t : w.heap.size ≤ w4.heap.size + 1 := Nat.le_succ_of_le hB4s
  have HB8 := Aside0.mk (below_cell (below_cell (below_cell (below_cell (below_cell HB7.out (w4.heap.size + 1) 0 (.int .i64 k2) hB4t) (w4.heap.size + 1) 1 (.int .i64 d2) hB4t) (w4.heap.size + 1) 2 (.int .i64 e2) hB4t) (w4.heap.size + 1) 3 (.int .i64 m2) hB4t) (w4.heap.size + 1) 4 (.int .i64 t2) hB4t)
  generalize hW8 : ((((w7.setCell ⟨w4.heap.size + 1, 0, none⟩ (.int .i64 k2)).setCell ⟨w4.heap.size + 1, 1, none⟩ (.int .i64 d2)).setCell ⟨w4.heap.size + 1, 2, none⟩ (.int .i64 e2)).setCell ⟨w4.heap.size + 1, 3, none⟩ (.int .i64 m2)).setCell ⟨w4.heap.size + 1, 4, none⟩ (.int .i64 t2) = w8 at HR8 HQ8 HB8 ⊢
  have hsz8 : w4.heap.size + 2 ≤ w8.heap.size := by
    rw [← hW8]
    have h : w4.heap.size + 2 ≤ w7.heap.size := Nat.le_trans hsz6 hsz7
    simpa using h
  clear hW8 hr7 hq7 hsz7 hsz6 p0 p1 p2 p3 p4 f0 f1 f2 f3 f4 HB7 hlnA hlnB hlnC hlnD hlnE hixA hixB hixC hixD hslC hslD hlA hlB hlC hlD hlE hw1
  refine (gotimezone_absSeconds_days.calls A D _ hD).mono ?_
  rintro e w9 ⟨rfl, hb9⟩
  have hb9' := hb9.below
  have HR9 := Aside0.mk ((hb9'.block w4.heap.size (by omega)).trans HR8.out)
  have HQ9 := Aside0.mk ((hb9'.block (w4.heap.size + 1) (by omega)).trans HQ8.out)
  have HB9 := Aside0.mk (HB8.out.trans (hb9'.mono HB8.out.size))
  have hsz9 : w4.heap.size + 2 ≤ w9.heap.size := Nat.le_trans hsz8 hb9'.size
  clear hb9 hb9' HR8 HQ8 HB8 hsz8
  go_wp2_with fail
  refine (gotimezone_absDays_yearYday.calls k D year yday _ hY).mono ?_
  rintro e w10 ⟨rfl, hb10⟩
  have hb10' := hb10.below
  have hr10 := (hb10'.block w4.heap.size (by omega)).trans HR9.out
  have hq10 := (hb10'.block (w4.heap.size + 1) (by omega)).trans HQ9.out
  have HB10 := Aside0.mk (HB9.out.trans (hb10'.mono HB9.out.size))
  have hsz10 : w4.heap.size + 2 ≤ w10.heap.size := Nat.le_trans hsz9 hb10'.size
  clear hb10 hb10' HR9 HQ9 HB9 hsz9
  have hrem : Int.tmod sec 86400 = sec % 86400 := Int.tmod_eq_emod_of_nonneg hs0
  have hx0 : 0 ≤ sec % 86400 := by omega
  have hx1 : sec % 86400 < 86400 := by omega
  obtain ⟨⟨p0, p1, p2, p3, p4⟩, f0, f1, f2, f3, f4⟩ := five_cells hr10
  go_wp2_with fail
  refine (gotimezone_tzruleTime.calls k year k1 d1 e1 m1 t1 (-o1) S _ hS).mono ?_
  rintro e w11 ⟨rfl, hb11⟩
  have HB11 := Aside0.mk (HB10.out.trans (hb11.mono HB10.out.size))
  have hq11 := (hb11.block (w4.heap.size + 1) (by omega)).trans hq10
  clear hb11 HB10 hr10 hq10 p0 p1 p2 p3 p4 f0 f1 f2 f3 f4
  obtain ⟨⟨p0, p1, p2, p3, p4⟩, f0, f1, f2, f3, f4⟩ := five_cells hq11
  go_wp2_with fail
  refine (gotimezone_tzruleTime.calls k year k2 d2 e2 m2 t2 (-o2) E _ hE).mono ?_
  rintro e w12 ⟨rfl, hb12⟩
  have HB12 := Aside0.mk (HB11.out.trans (hb12.mono HB11.out.size))
  clear hb12 HB11 hq11 p0 p1 p2 p3 p4 f0 f1 f2 f3 f4
  by_cases hES : E < S
  · by_cases h1 : ((yday - 1) * 86400 + sec % 86400) < E
    · have hz : ruled (tx std) (tx dst) (-o1) (-o2) S E ((yday - 1) * 86400 + sec % 86400) = ⟨tx dst, -o2, true⟩ := by
        unfold ruled
        rw [if_pos (by rw [if_pos hES]; omega)]
      go_wp2
      exact bodyPost_ret (v := .tuple #[.string (tx dst), .int .i64 (-o2), .int .i64 ((sec - ((yday - 1) * 86400 + sec % 86400))), .int .i64 (E + (sec - ((yday - 1) * 86400 + sec % 86400))), .bool true, .bool true]) (by simp [results, Tryd.results54, go_sem]) rfl ⟨⟨(sec - ((yday - 1) * 86400 + sec % 86400)), E + (sec - ((yday - 1) * 86400 + sec % 86400)), by rw [hz]⟩, HB12.out⟩
    · by_cases h2 : S ≤ ((yday - 1) * 86400 + sec % 86400)
      · have hz : ruled (tx std) (tx dst) (-o1) (-o2) S E ((yday - 1) * 86400 + sec % 86400) = ⟨tx dst, -o2, true⟩ := by
          unfold ruled
          rw [if_pos (by rw [if_pos hES]; omega)]
        go_wp2
        exact bodyPost_ret (v := .tuple #[.string (tx dst), .int .i64 (-o2), .int .i64 (S + (sec - ((yday - 1) * 86400 + sec % 86400))), .int .i64 ((sec - ((yday - 1) * 86400 + sec % 86400)) + 31536000), .bool true, .bool true]) (by simp [results, Tryd.results54, go_sem]) rfl ⟨⟨S + (sec - ((yday - 1) * 86400 + sec % 86400)), (sec - ((yday - 1) * 86400 + sec % 86400)) + 31536000, by rw [hz]⟩, HB12.out⟩
      · have hz : ruled (tx std) (tx dst) (-o1) (-o2) S E ((yday - 1) * 86400 + sec % 86400) = ⟨tx std, -o1, false⟩ := by
          unfold ruled
          rw [if_neg (by rw [if_pos hES]; omega)]
        go_wp2
        exact bodyPost_ret (v := .tuple #[.string (tx std), .int .i64 (-o1), .int .i64 (E + (sec - ((yday - 1) * 86400 + sec % 86400))), .int .i64 (S + (sec - ((yday - 1) * 86400 + sec % 86400))), .bool false, .bool true]) (by simp [results, Tryd.results54, go_sem]) rfl ⟨⟨E + (sec - ((yday - 1) * 86400 + sec % 86400)), S + (sec - ((yday - 1) * 86400 + sec % 86400)), by rw [hz]⟩, HB12.out⟩
  · by_cases h1 : ((yday - 1) * 86400 + sec % 86400) < S
    · have hz : ruled (tx std) (tx dst) (-o1) (-o2) S E ((yday - 1) * 86400 + sec % 86400) = ⟨tx std, -o1, false⟩ := by
        unfold ruled
        rw [if_neg (by rw [if_neg hES]; omega)]
      go_wp2
      exact bodyPost_ret (v := .tuple #[.string (tx std), .int .i64 (-o1), .int .i64 ((sec - ((yday - 1) * 86400 + sec % 86400))), .int .i64 (S + (sec - ((yday - 1) * 86400 + sec % 86400))), .bool false, .bool true]) (by simp [results, Tryd.results54, go_sem]) rfl ⟨⟨(sec - ((yday - 1) * 86400 + sec % 86400)), S + (sec - ((yday - 1) * 86400 + sec % 86400)), by rw [hz]⟩, HB12.out⟩
    · by_cases h2 : E ≤ ((yday - 1) * 86400 + sec % 86400)
      · have hz : ruled (tx std) (tx dst) (-o1) (-o2) S E ((yday - 1) * 86400 + sec % 86400) = ⟨tx std, -o1, false⟩ := by
          unfold ruled
          rw [if_neg (by rw [if_neg hES]; omega)]
        go_wp2
        exact bodyPost_ret (v := .tuple #[.string (tx std), .int .i64 (-o1), .int .i64 (E + (sec - ((yday - 1) * 86400 + sec % 86400))), .int .i64 ((sec - ((yday - 1) * 86400 + sec % 86400)) + 31536000), .bool false, .bool true]) (by simp [results, Tryd.results54, go_sem]) rfl ⟨⟨E + (sec - ((yday - 1) * 86400 + sec % 86400)), (sec - ((yday - 1) * 86400 + sec % 86400)) + 31536000, by rw [hz]⟩, HB12.out⟩
      · have hz : ruled (tx std) (tx dst) (-o1) (-o2) S E ((yday - 1) * 86400 + sec % 86400) = ⟨tx dst, -o2, true⟩ := by
          unfold ruled
          rw [if_pos (by rw [if_neg hES]; omega)]
        go_wp2
        exact bodyPost_ret (v := .tuple #[.string (tx dst), .int .i64 (-o2), .int .i64 (S + (sec - ((yday - 1) * 86400 + sec % 86400))), .int .i64 (E + (sec - ((yday - 1) * 86400 + sec % 86400))), .bool true, .bool true]) (by simp [results, Tryd.results54, go_sem]) rfl ⟨⟨S + (sec - ((yday - 1) * 86400 + sec % 86400)), E + (sec - ((yday - 1) * 86400 + sec % 86400)), by rw [hz]⟩, HB12.out⟩
end Go.Proofs.YtjoaeennbfmohaaDoor
