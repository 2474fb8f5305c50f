/- The walk of tzsetRule: the three kinds of a rule, with and without a time. Conditions: each number inside its bounds. -/
import Derived.Test.YtjoaeennbfmohaaDoorTo
import Derived.Outline
import Derived.Deep.DeepMust
namespace Go.Proofs.YtjoaeennbfmohaaDoor
open Go.RowKit Go.Proofs.YtjoaeennbfmohaaDoorW.PrintWords Go.Proofs.YtjoaeennbfmohaaDoorW.PrintLast Go.Proofs.YtjoaeennbfmohaaDoorW.PrintMore Go.Proofs.YtjoaeennbfmohaaDoor.PFnZone
set_option linter.unusedVariables false
set_option linter.unusedSimpArgs false

/-- A text whose head is an offset. -/
def OffAt (l : List UInt8) (v : Int) (rest : List UInt8) : Prop :=
  ∀ w, Calls Tryd.prog 58 #[.string (tx l)] w fun e w' => e = .returned (.tuple #[.int .i64 v, .string (tx rest), .bool true]) ∧ Below w.heap.size w w'
/-- A text whose head is a rule. -/
def RuleAt (l : List UInt8) (kind day week mon time : Int) (rest : List UInt8) : Prop :=
  ∀ w, Calls Tryd.prog 59 #[.string (tx l)] w fun e w' => e = .returned (.tuple #[.agg #[.int .i64 kind, .int .i64 day, .int .i64 week, .int .i64 mon, .int .i64 time], .string (tx rest), .bool true]) ∧ Below w.heap.size w w'
/-- What ends a rule without a time. -/
def RuleEnds (rest : List UInt8) : Prop := ∀ c r, rest = c :: r → c.toNat < 47
theorem RuleEnds.stops {rest : List UInt8} (h : RuleEnds rest) : Stops rest := fun c r e => Or.inl (by have := h c r e; omega)
theorem stops_slash (l : List UInt8) : Stops (47 :: l) := fun c r e => by
  injection e with e1 e2
  subst e1
  exact Or.inl (by decide)
theorem stops_dot (l : List UInt8) : Stops (46 :: l) := fun c r e => by
  injection e with e1 e2
  subst e1
  exact Or.inl (by decide)

theorem two_blocks {w w1 : World} {A B : Obj} (hb1 : Below ((w.alloc A).alloc B).heap.size ((w.alloc A).alloc B) w1) : w1.heap[w.heap.size]? = some A ∧ w1.heap[w.heap.size + 1]? = some B ∧ Below w.heap.size w w1 ∧ w.heap.size + 2 ≤ w1.heap.size := by
  have hs : ((w.alloc A).alloc B).heap.size = w.heap.size + 2 := by simp
  refine ⟨(hb1.block _ (by omega)).trans (blk_alloc (blk_new w A) B), (hb1.block _ (by omega)).trans ?_, ((below_alloc (Below.refl _ _) _).alloc (by simp) _).trans (hb1.mono (by omega)), by have := hb1.size; omega⟩
  have h := blk_new (w.alloc A) B
  rw [World.size_alloc] at h
  exact h
theorem five_cells {w : World} {g : Nat} {t : TypeId} {a b c d e : Value} (h : w.heap[g]? = some (.cells #[a, b, c, d, e] t (0, 0))) :
    (w.cell? ⟨g, 0, none⟩ = some a ∧ w.cell? ⟨g, 1, none⟩ = some b ∧ w.cell? ⟨g, 2, none⟩ = some c ∧ w.cell? ⟨g, 3, none⟩ = some d ∧ w.cell? ⟨g, 4, none⟩ = some e) ∧
    (w.frozen? ⟨g, 0, none⟩ = false ∧ w.frozen? ⟨g, 1, none⟩ = false ∧ w.frozen? ⟨g, 2, none⟩ = false ∧ w.frozen? ⟨g, 3, none⟩ = false ∧ w.frozen? ⟨g, 4, none⟩ = false) :=
  ⟨⟨blk_cell h 0, blk_cell h 1, blk_cell h 2, blk_cell h 3, blk_cell h 4⟩, blk_frozen h 0, blk_frozen h 1, blk_frozen h 2, blk_frozen h 3, blk_frozen h 4⟩

set_option maxRecDepth 100000 in
set_option maxHeartbeats 4000000 in
theorem rule_J_off (ds ot rest : List UInt8) (hd : Digs ds) (hd0 : 0 < ds.length) (h1 : 1 ≤ val ds) (h2 : val ds ≤ 365) (v : Int) (ho : OffAt ot v rest) (hl : (ds ++ 47 :: ot).length ≤ 1000000000) : RuleAt (74 :: (ds ++ 47 :: ot)) 0 (val ds) 0 0 v rest := by
  intro w
  have hln9 := fun W ty => len_tx W ty (47 :: ot)
  have hix9 := fun W => index_tx0 W 47 (ot)
  have hsl9 := fun W => from_tx1 W 47 (ot)
  have hl9 : (((47 :: ot).length : Int) == 0) = false := beq_eq_false_iff_ne.mpr (by rw [List.length_cons]; omega)
  skip
  obtain ⟨l9, hl9e⟩ : ∃ l, (47 :: ot) = l := ⟨_, rfl⟩
  rw [hl9e] at hln9 hix9 hl9 hsl9 hl ⊢
  have hsp : Stops l9 := by rw [← hl9e]; exact stops_slash ot
  have hln1 := fun W ty => len_tx W ty (74 :: (ds ++ l9))
  have hix1 := fun W => index_tx0 W 74 ((ds ++ l9))
  have hsl1 := fun W => from_tx1 W 74 ((ds ++ l9))
  have hl1 : (((74 :: (ds ++ l9)).length : Int) == 0) = false := beq_eq_false_iff_ne.mpr (by rw [List.length_cons]; omega)
  obtain ⟨T1, hT1⟩ : ∃ T, ds ++ l9 = T := ⟨_, rfl⟩
  rw [hT1] at hsl1 hln1 hix1 hl1 ⊢
  generalize (74 :: T1) = l1 at hsl1 hln1 hix1 hl1 ⊢
  go_enter Tryd.func59, Tryd.ntmps59
  go_wp2_with fail
  rw [← hT1]
  refine (num_calls ds l9 1 365 hd hd0 (by omega) h1 h2 (by omega) hsp hl _).mono ?_
  rintro e w1 ⟨rfl, hb1⟩
  obtain ⟨hr, hq, hb2, hsz⟩ := two_blocks hb1
  clear hb1
  obtain ⟨⟨q0, q1, q2, q3, q4⟩, f0, f1, f2, f3, f4⟩ := five_cells hq
  go_wp2_with fail
  have HQ2 := Aside0.mk (blk_set (blk_set hq 0 (.int .i64 0)) 1 (.int .i64 (val ds)))
  have HR2 : Aside0 (((w1.setCell ⟨w.heap.size + 1, 0, none⟩ (.int .i64 0)).setCell ⟨w.heap.size + 1, 1, none⟩ (.int .i64 (val ds))).heap[w.heap.size]? = some (.cells #[.int .i64 0, .int .i64 0, .int .i64 0, .int .i64 0, .int .i64 0] 120 (0, 0))) := ⟨((Below.heap_setCell _ _ _ w.heap.size (by simp)).trans ((Below.heap_setCell _ _ _ w.heap.size (by simp)).trans hr))⟩
  have HB2 := Aside0.mk (below_cell (below_cell hb2 (w.heap.size + 1) 0 (.int .i64 0) (Nat.le_succ _)) (w.heap.size + 1) 1 (.int .i64 (val ds)) (Nat.le_succ _))
  skip
  generalize hW2 : ((w1.setCell ⟨w.heap.size + 1, 0, none⟩ (.int .i64 0)).setCell ⟨w.heap.size + 1, 1, none⟩ (.int .i64 (val ds))) = w2 at HQ2 HR2 HB2 ⊢
  have hs2 : w.heap.size + 2 ≤ w2.heap.size := by rw [← hW2]; simpa using hsz
  clear hW2 q0 q1 q2 q3 q4 f0 f1 f2 f3 f4 hr hq hb2
  refine (ho w2).mono ?_
  rintro e w3 ⟨rfl, hb3⟩
  have hr3 := (hb3.block w.heap.size (by omega)).trans HR2.out
  have hq3 := (hb3.block (w.heap.size + 1) (by omega)).trans HQ2.out
  have hb4 := HB2.out.trans (hb3.mono HB2.out.size)
  clear hb3 HR2 HQ2 HB2
  obtain ⟨⟨q0, q1, q2, q3, q4⟩, f0, f1, f2, f3, f4⟩ := five_cells hq3
  obtain ⟨⟨p0, p1, p2, p3, p4⟩, k0, k1, k2, k3, k4⟩ := five_cells hr3
  go_wp2
  refine bodyPost_ret (results_ctt rfl _ _ w.heap.size 120 #[.int .i64 0, .int .i64 (val ds), .int .i64 0, .int .i64 0, .int .i64 v] (0, 0) _ rfl (blk_set (blk_set (blk_set (blk_set (blk_set ((Below.heap_setCell _ _ _ w.heap.size (by simp)).trans hr3) 0 (.int .i64 0)) 1 (.int .i64 (val ds))) 2 (.int .i64 0)) 3 (.int .i64 0)) 4 (.int .i64 v)) Tryd.underlying120 rfl (by kernel_rfl)) rfl ⟨?_, (below_cell (below_cell (below_cell (below_cell (below_cell (below_cell hb4 (w.heap.size + 1) 4 (.int .i64 v) (Nat.le_succ _)) w.heap.size 0 (.int .i64 0) (Nat.le_refl _)) w.heap.size 1 (.int .i64 (val ds)) (Nat.le_refl _)) w.heap.size 2 (.int .i64 0) (Nat.le_refl _)) w.heap.size 3 (.int .i64 0) (Nat.le_refl _)) w.heap.size 4 (.int .i64 v) (Nat.le_refl _))⟩
  rfl

set_option maxRecDepth 100000 in
set_option maxHeartbeats 4000000 in
theorem rule_J (ds rest : List UInt8) (hd : Digs ds) (hd0 : 0 < ds.length) (h1 : 1 ≤ val ds) (h2 : val ds ≤ 365) (he : RuleEnds rest) (hl : (ds ++ rest).length ≤ 1000000000) : RuleAt (74 :: (ds ++ rest)) 0 (val ds) 0 0 7200 rest := by
  cases rest with
  | nil =>
    intro w
    have hln9 := fun W ty => len_tx W ty ([] : List UInt8)
    have hl9 : ((([] : List UInt8).length : Int) == 0) = true := rfl
    obtain ⟨l9, hl9e⟩ : ∃ l, ([] : List UInt8) = l := ⟨_, rfl⟩
    rw [hl9e] at hln9 hl9 hl ⊢
    have hsp : Stops l9 := by rw [← hl9e]; exact he.stops
    have hln1 := fun W ty => len_tx W ty (74 :: (ds ++ l9))
    have hix1 := fun W => index_tx0 W 74 ((ds ++ l9))
    have hsl1 := fun W => from_tx1 W 74 ((ds ++ l9))
    have hl1 : (((74 :: (ds ++ l9)).length : Int) == 0) = false := beq_eq_false_iff_ne.mpr (by rw [List.length_cons]; omega)
    obtain ⟨T1, hT1⟩ : ∃ T, ds ++ l9 = T := ⟨_, rfl⟩
    rw [hT1] at hsl1 hln1 hix1 hl1 ⊢
    generalize (74 :: T1) = l1 at hsl1 hln1 hix1 hl1 ⊢
    go_enter Tryd.func59, Tryd.ntmps59
    go_wp2_with fail
    rw [← hT1]
    refine (num_calls ds l9 1 365 hd hd0 (by omega) h1 h2 (by omega) hsp hl _).mono ?_
    rintro e w1 ⟨rfl, hb1⟩
    obtain ⟨hr, hq, hb2, hsz⟩ := two_blocks hb1
    clear hb1
    obtain ⟨⟨q0, q1, q2, q3, q4⟩, f0, f1, f2, f3, f4⟩ := five_cells hq
    obtain ⟨⟨p0, p1, p2, p3, p4⟩, k0, k1, k2, k3, k4⟩ := five_cells hr
    go_wp2
    refine bodyPost_ret (results_ctt rfl _ _ w.heap.size 120 #[.int .i64 0, .int .i64 (val ds), .int .i64 0, .int .i64 0, .int .i64 7200] (0, 0) _ rfl (blk_set (blk_set (blk_set (blk_set (blk_set ((Below.heap_setCell _ _ _ w.heap.size (by simp)).trans ((Below.heap_setCell _ _ _ w.heap.size (by simp)).trans ((Below.heap_setCell _ _ _ w.heap.size (by simp)).trans hr))) 0 (.int .i64 0)) 1 (.int .i64 (val ds))) 2 (.int .i64 0)) 3 (.int .i64 0)) 4 (.int .i64 7200)) Tryd.underlying120 rfl (by kernel_rfl)) rfl ⟨?_, (below_cell (below_cell (below_cell (below_cell (below_cell (below_cell (below_cell (below_cell hb2 (w.heap.size + 1) 0 (.int .i64 0) (Nat.le_succ _)) (w.heap.size + 1) 1 (.int .i64 (val ds)) (Nat.le_succ _)) (w.heap.size + 1) 4 (.int .i64 7200) (Nat.le_succ _)) w.heap.size 0 (.int .i64 0) (Nat.le_refl _)) w.heap.size 1 (.int .i64 (val ds)) (Nat.le_refl _)) w.heap.size 2 (.int .i64 0) (Nat.le_refl _)) w.heap.size 3 (.int .i64 0) (Nat.le_refl _)) w.heap.size 4 (.int .i64 7200) (Nat.le_refl _))⟩
    rfl
  | cons rc rr =>
    intro w
    have hne := he rc rr rfl
    have hln9 := fun W ty => len_tx W ty (rc :: rr)
    have hix9 := fun W => index_tx0 W rc rr
    have hl9 : (((rc :: rr).length : Int) == 0) = false := beq_eq_false_iff_ne.mpr (by rw [List.length_cons]; omega)
    have q47 : ((rc.toNat : Int) != 47) = true := by simp; omega
    have q47b : ((rc.toNat : Int) == 47) = false := by simp; omega
    generalize (rc.toNat : Nat) = d9 at hix9 q47 q47b
    obtain ⟨l9, hl9e⟩ : ∃ l, (rc :: rr) = l := ⟨_, rfl⟩
    rw [hl9e] at hln9 hix9 hl9 hl ⊢
    have hsp : Stops l9 := by rw [← hl9e]; exact he.stops
    have hln1 := fun W ty => len_tx W ty (74 :: (ds ++ l9))
    have hix1 := fun W => index_tx0 W 74 ((ds ++ l9))
    have hsl1 := fun W => from_tx1 W 74 ((ds ++ l9))
    have hl1 : (((74 :: (ds ++ l9)).length : Int) == 0) = false := beq_eq_false_iff_ne.mpr (by rw [List.length_cons]; omega)
    obtain ⟨T1, hT1⟩ : ∃ T, ds ++ l9 = T := ⟨_, rfl⟩
    rw [hT1] at hsl1 hln1 hix1 hl1 ⊢
    generalize (74 :: T1) = l1 at hsl1 hln1 hix1 hl1 ⊢
    go_enter Tryd.func59, Tryd.ntmps59
    go_wp2_with fail
    rw [← hT1]
    refine (num_calls ds l9 1 365 hd hd0 (by omega) h1 h2 (by omega) hsp hl _).mono ?_
    rintro e w1 ⟨rfl, hb1⟩
    obtain ⟨hr, hq, hb2, hsz⟩ := two_blocks hb1
    clear hb1
    obtain ⟨⟨q0, q1, q2, q3, q4⟩, f0, f1, f2, f3, f4⟩ := five_cells hq
    obtain ⟨⟨p0, p1, p2, p3, p4⟩, k0, k1, k2, k3, k4⟩ := five_cells hr
    go_wp2
    refine bodyPost_ret (results_ctt rfl _ _ w.heap.size 120 #[.int .i64 0, .int .i64 (val ds), .int .i64 0, .int .i64 0, .int .i64 7200] (0, 0) _ rfl (blk_set (blk_set (blk_set (blk_set (blk_set ((Below.heap_setCell _ _ _ w.heap.size (by simp)).trans ((Below.heap_setCell _ _ _ w.heap.size (by simp)).trans ((Below.heap_setCell _ _ _ w.heap.size (by simp)).trans hr))) 0 (.int .i64 0)) 1 (.int .i64 (val ds))) 2 (.int .i64 0)) 3 (.int .i64 0)) 4 (.int .i64 7200)) Tryd.underlying120 rfl (by kernel_rfl)) rfl ⟨?_, (below_cell (below_cell (below_cell (below_cell (below_cell (below_cell (below_cell (below_cell hb2 (w.heap.size + 1) 0 (.int .i64 0) (Nat.le_succ _)) (w.heap.size + 1) 1 (.int .i64 (val ds)) (Nat.le_succ _)) (w.heap.size + 1) 4 (.int .i64 7200) (Nat.le_succ _)) w.heap.size 0 (.int .i64 0) (Nat.le_refl _)) w.heap.size 1 (.int .i64 (val ds)) (Nat.le_refl _)) w.heap.size 2 (.int .i64 0) (Nat.le_refl _)) w.heap.size 3 (.int .i64 0) (Nat.le_refl _)) w.heap.size 4 (.int .i64 7200) (Nat.le_refl _))⟩
    rfl

set_option maxRecDepth 100000 in
set_option maxHeartbeats 4000000 in
theorem rule_D_off (ds ot rest : List UInt8) (hd : Digs ds) (hd0 : 0 < ds.length) (h1 : 0 ≤ val ds) (h2 : val ds ≤ 365) (v : Int) (ho : OffAt ot v rest) (hl : (ds ++ 47 :: ot).length ≤ 1000000000) : RuleAt (ds ++ 47 :: ot) 1 (val ds) 0 0 v rest := by
  intro w
  have hln9 := fun W ty => len_tx W ty (47 :: ot)
  have hix9 := fun W => index_tx0 W 47 (ot)
  have hsl9 := fun W => from_tx1 W 47 (ot)
  have hl9 : (((47 :: ot).length : Int) == 0) = false := beq_eq_false_iff_ne.mpr (by rw [List.length_cons]; omega)
  skip
  obtain ⟨l9, hl9e⟩ : ∃ l, (47 :: ot) = l := ⟨_, rfl⟩
  rw [hl9e] at hln9 hix9 hl9 hsl9 hl ⊢
  have hsp : Stops l9 := by rw [← hl9e]; exact stops_slash ot
  have hln1 := fun W ty => len_tx W ty (ds ++ l9)
  have hl1 : (((ds ++ l9).length : Int) == 0) = false := beq_eq_false_iff_ne.mpr (by rw [List.length_append]; omega)
  have hix1 : ∀ W, (Instr.index 9 (.string (tx (ds ++ l9))) (.int .i64 0)).run Tryd.prog W = _ := fun W => index_tx W (ds ++ l9) 0 (by rw [List.length_append]; omega)
  obtain ⟨hc, hr0, hcr, hc1, hc2⟩ := dig_head hd hd0
  have hgc : (ds ++ l9)[0]'(by rw [List.length_append]; omega) = hc := by simp only [hcr]; rfl
  rw [hgc] at hix1
  have q74 : ((hc.toNat : Int) == 74) = false := by simp; omega
  have q77 : ((hc.toNat : Int) == 77) = false := by simp; omega
  clear hcr hgc
  generalize (hc.toNat : Nat) = dd at hix1 q74 q77 hc1 hc2
  obtain ⟨T1, hT1⟩ : ∃ T, ds ++ l9 = T := ⟨_, rfl⟩
  rw [hT1] at hln1 hix1 hl1 ⊢
  go_enter Tryd.func59, Tryd.ntmps59
  go_wp2_with fail
  rw [← hT1]
  refine (num_calls ds l9 0 365 hd hd0 (by omega) h1 h2 (by omega) hsp hl _).mono ?_
  rintro e w1 ⟨rfl, hb1⟩
  obtain ⟨hr, hq, hb2, hsz⟩ := two_blocks hb1
  clear hb1
  obtain ⟨⟨q0, q1, q2, q3, q4⟩, f0, f1, f2, f3, f4⟩ := five_cells hq
  go_wp2_with fail
  have HQ2 := Aside0.mk (blk_set (blk_set hq 0 (.int .i64 1)) 1 (.int .i64 (val ds)))
  have HR2 : Aside0 (((w1.setCell ⟨w.heap.size + 1, 0, none⟩ (.int .i64 1)).setCell ⟨w.heap.size + 1, 1, none⟩ (.int .i64 (val ds))).heap[w.heap.size]? = some (.cells #[.int .i64 0, .int .i64 0, .int .i64 0, .int .i64 0, .int .i64 0] 120 (0, 0))) := ⟨((Below.heap_setCell _ _ _ w.heap.size (by simp)).trans ((Below.heap_setCell _ _ _ w.heap.size (by simp)).trans hr))⟩
  have HB2 := Aside0.mk (below_cell (below_cell hb2 (w.heap.size + 1) 0 (.int .i64 1) (Nat.le_succ _)) (w.heap.size + 1) 1 (.int .i64 (val ds)) (Nat.le_succ _))
  skip
  generalize hW2 : ((w1.setCell ⟨w.heap.size + 1, 0, none⟩ (.int .i64 1)).setCell ⟨w.heap.size + 1, 1, none⟩ (.int .i64 (val ds))) = w2 at HQ2 HR2 HB2 ⊢
  have hs2 : w.heap.size + 2 ≤ w2.heap.size := by rw [← hW2]; simpa using hsz
  clear hW2 q0 q1 q2 q3 q4 f0 f1 f2 f3 f4 hr hq hb2
  refine (ho w2).mono ?_
  rintro e w3 ⟨rfl, hb3⟩
  have hr3 := (hb3.block w.heap.size (by omega)).trans HR2.out
  have hq3 := (hb3.block (w.heap.size + 1) (by omega)).trans HQ2.out
  have hb4 := HB2.out.trans (hb3.mono HB2.out.size)
  clear hb3 HR2 HQ2 HB2
  obtain ⟨⟨q0, q1, q2, q3, q4⟩, f0, f1, f2, f3, f4⟩ := five_cells hq3
  obtain ⟨⟨p0, p1, p2, p3, p4⟩, k0, k1, k2, k3, k4⟩ := five_cells hr3
  go_wp2
  refine bodyPost_ret (results_ctt rfl _ _ w.heap.size 120 #[.int .i64 1, .int .i64 (val ds), .int .i64 0, .int .i64 0, .int .i64 v] (0, 0) _ rfl (blk_set (blk_set (blk_set (blk_set (blk_set ((Below.heap_setCell _ _ _ w.heap.size (by simp)).trans hr3) 0 (.int .i64 1)) 1 (.int .i64 (val ds))) 2 (.int .i64 0)) 3 (.int .i64 0)) 4 (.int .i64 v)) Tryd.underlying120 rfl (by kernel_rfl)) rfl ⟨?_, (below_cell (below_cell (below_cell (below_cell (below_cell (below_cell hb4 (w.heap.size + 1) 4 (.int .i64 v) (Nat.le_succ _)) w.heap.size 0 (.int .i64 1) (Nat.le_refl _)) w.heap.size 1 (.int .i64 (val ds)) (Nat.le_refl _)) w.heap.size 2 (.int .i64 0) (Nat.le_refl _)) w.heap.size 3 (.int .i64 0) (Nat.le_refl _)) w.heap.size 4 (.int .i64 v) (Nat.le_refl _))⟩
  rfl

set_option maxRecDepth 100000 in
set_option maxHeartbeats 4000000 in
theorem rule_D (ds rest : List UInt8) (hd : Digs ds) (hd0 : 0 < ds.length) (h1 : 0 ≤ val ds) (h2 : val ds ≤ 365) (he : RuleEnds rest) (hl : (ds ++ rest).length ≤ 1000000000) : RuleAt (ds ++ rest) 1 (val ds) 0 0 7200 rest := by
  cases rest with
  | nil =>
    intro w
    have hln9 := fun W ty => len_tx W ty ([] : List UInt8)
    have hl9 : ((([] : List UInt8).length : Int) == 0) = true := rfl
    obtain ⟨l9, hl9e⟩ : ∃ l, ([] : List UInt8) = l := ⟨_, rfl⟩
    rw [hl9e] at hln9 hl9 hl ⊢
    have hsp : Stops l9 := by rw [← hl9e]; exact he.stops
    have hln1 := fun W ty => len_tx W ty (ds ++ l9)
    have hl1 : (((ds ++ l9).length : Int) == 0) = false := beq_eq_false_iff_ne.mpr (by rw [List.length_append]; omega)
    have hix1 : ∀ W, (Instr.index 9 (.string (tx (ds ++ l9))) (.int .i64 0)).run Tryd.prog W = _ := fun W => index_tx W (ds ++ l9) 0 (by rw [List.length_append]; omega)
    obtain ⟨hc, hr0, hcr, hc1, hc2⟩ := dig_head hd hd0
    have hgc : (ds ++ l9)[0]'(by rw [List.length_append]; omega) = hc := by simp only [hcr]; rfl
    rw [hgc] at hix1
    have q74 : ((hc.toNat : Int) == 74) = false := by simp; omega
    have q77 : ((hc.toNat : Int) == 77) = false := by simp; omega
    clear hcr hgc
    generalize (hc.toNat : Nat) = dd at hix1 q74 q77 hc1 hc2
    obtain ⟨T1, hT1⟩ : ∃ T, ds ++ l9 = T := ⟨_, rfl⟩
    rw [hT1] at hln1 hix1 hl1 ⊢
    go_enter Tryd.func59, Tryd.ntmps59
    go_wp2_with fail
    rw [← hT1]
    refine (num_calls ds l9 0 365 hd hd0 (by omega) h1 h2 (by omega) hsp hl _).mono ?_
    rintro e w1 ⟨rfl, hb1⟩
    obtain ⟨hr, hq, hb2, hsz⟩ := two_blocks hb1
    clear hb1
    obtain ⟨⟨q0, q1, q2, q3, q4⟩, f0, f1, f2, f3, f4⟩ := five_cells hq
    obtain ⟨⟨p0, p1, p2, p3, p4⟩, k0, k1, k2, k3, k4⟩ := five_cells hr
    go_wp2
    refine bodyPost_ret (results_ctt rfl _ _ w.heap.size 120 #[.int .i64 1, .int .i64 (val ds), .int .i64 0, .int .i64 0, .int .i64 7200] (0, 0) _ rfl (blk_set (blk_set (blk_set (blk_set (blk_set ((Below.heap_setCell _ _ _ w.heap.size (by simp)).trans ((Below.heap_setCell _ _ _ w.heap.size (by simp)).trans ((Below.heap_setCell _ _ _ w.heap.size (by simp)).trans hr))) 0 (.int .i64 1)) 1 (.int .i64 (val ds))) 2 (.int .i64 0)) 3 (.int .i64 0)) 4 (.int .i64 7200)) Tryd.underlying120 rfl (by kernel_rfl)) rfl ⟨?_, (below_cell (below_cell (below_cell (below_cell (below_cell (below_cell (below_cell (below_cell hb2 (w.heap.size + 1) 0 (.int .i64 1) (Nat.le_succ _)) (w.heap.size + 1) 1 (.int .i64 (val ds)) (Nat.le_succ _)) (w.heap.size + 1) 4 (.int .i64 7200) (Nat.le_succ _)) w.heap.size 0 (.int .i64 1) (Nat.le_refl _)) w.heap.size 1 (.int .i64 (val ds)) (Nat.le_refl _)) w.heap.size 2 (.int .i64 0) (Nat.le_refl _)) w.heap.size 3 (.int .i64 0) (Nat.le_refl _)) w.heap.size 4 (.int .i64 7200) (Nat.le_refl _))⟩
    rfl
  | cons rc rr =>
    intro w
    have hne := he rc rr rfl
    have hln9 := fun W ty => len_tx W ty (rc :: rr)
    have hix9 := fun W => index_tx0 W rc rr
    have hl9 : (((rc :: rr).length : Int) == 0) = false := beq_eq_false_iff_ne.mpr (by rw [List.length_cons]; omega)
    have q47 : ((rc.toNat : Int) != 47) = true := by simp; omega
    have q47b : ((rc.toNat : Int) == 47) = false := by simp; omega
    generalize (rc.toNat : Nat) = d9 at hix9 q47 q47b
    obtain ⟨l9, hl9e⟩ : ∃ l, (rc :: rr) = l := ⟨_, rfl⟩
    rw [hl9e] at hln9 hix9 hl9 hl ⊢
    have hsp : Stops l9 := by rw [← hl9e]; exact he.stops
    have hln1 := fun W ty => len_tx W ty (ds ++ l9)
    have hl1 : (((ds ++ l9).length : Int) == 0) = false := beq_eq_false_iff_ne.mpr (by rw [List.length_append]; omega)
    have hix1 : ∀ W, (Instr.index 9 (.string (tx (ds ++ l9))) (.int .i64 0)).run Tryd.prog W = _ := fun W => index_tx W (ds ++ l9) 0 (by rw [List.length_append]; omega)
    obtain ⟨hc, hr0, hcr, hc1, hc2⟩ := dig_head hd hd0
    have hgc : (ds ++ l9)[0]'(by rw [List.length_append]; omega) = hc := by simp only [hcr]; rfl
    rw [hgc] at hix1
    have q74 : ((hc.toNat : Int) == 74) = false := by simp; omega
    have q77 : ((hc.toNat : Int) == 77) = false := by simp; omega
    clear hcr hgc
    generalize (hc.toNat : Nat) = dd at hix1 q74 q77 hc1 hc2
    obtain ⟨T1, hT1⟩ : ∃ T, ds ++ l9 = T := ⟨_, rfl⟩
    rw [hT1] at hln1 hix1 hl1 ⊢
    go_enter Tryd.func59, Tryd.ntmps59
    go_wp2_with fail
    rw [← hT1]
    refine (num_calls ds l9 0 365 hd hd0 (by omega) h1 h2 (by omega) hsp hl _).mono ?_
    rintro e w1 ⟨rfl, hb1⟩
    obtain ⟨hr, hq, hb2, hsz⟩ := two_blocks hb1
    clear hb1
    obtain ⟨⟨q0, q1, q2, q3, q4⟩, f0, f1, f2, f3, f4⟩ := five_cells hq
    obtain ⟨⟨p0, p1, p2, p3, p4⟩, k0, k1, k2, k3, k4⟩ := five_cells hr
    go_wp2
    refine bodyPost_ret (results_ctt rfl _ _ w.heap.size 120 #[.int .i64 1, .int .i64 (val ds), .int .i64 0, .int .i64 0, .int .i64 7200] (0, 0) _ rfl (blk_set (blk_set (blk_set (blk_set (blk_set ((Below.heap_setCell _ _ _ w.heap.size (by simp)).trans ((Below.heap_setCell _ _ _ w.heap.size (by simp)).trans ((Below.heap_setCell _ _ _ w.heap.size (by simp)).trans hr))) 0 (.int .i64 1)) 1 (.int .i64 (val ds))) 2 (.int .i64 0)) 3 (.int .i64 0)) 4 (.int .i64 7200)) Tryd.underlying120 rfl (by kernel_rfl)) rfl ⟨?_, (below_cell (below_cell (below_cell (below_cell (below_cell (below_cell (below_cell (below_cell hb2 (w.heap.size + 1) 0 (.int .i64 1) (Nat.le_succ _)) (w.heap.size + 1) 1 (.int .i64 (val ds)) (Nat.le_succ _)) (w.heap.size + 1) 4 (.int .i64 7200) (Nat.le_succ _)) w.heap.size 0 (.int .i64 1) (Nat.le_refl _)) w.heap.size 1 (.int .i64 (val ds)) (Nat.le_refl _)) w.heap.size 2 (.int .i64 0) (Nat.le_refl _)) w.heap.size 3 (.int .i64 0) (Nat.le_refl _)) w.heap.size 4 (.int .i64 7200) (Nat.le_refl _))⟩
    rfl

set_option maxRecDepth 100000 in
set_option maxHeartbeats 4000000 in
theorem rule_M_off (ms ws ds ot rest : List UInt8) (hm : Digs ms) (hm0 : 0 < ms.length) (hm1 : 1 ≤ val ms) (hm2 : val ms ≤ 12) (hw : Digs ws) (hw0 : 0 < ws.length) (hw1 : 1 ≤ val ws) (hw2 : val ws ≤ 5) (hd : Digs ds) (hd0 : 0 < ds.length) (h1 : 0 ≤ val ds) (h2 : val ds ≤ 6) (v : Int) (ho : OffAt ot v rest) (hl : (ms ++ 46 :: (ws ++ 46 :: (ds ++ 47 :: ot))).length ≤ 1000000000) : RuleAt (77 :: (ms ++ 46 :: (ws ++ 46 :: (ds ++ 47 :: ot)))) 2 (val ds) (val ws) (val ms) v rest := by
  intro w
  have hln9 := fun W ty => len_tx W ty (47 :: ot)
  have hix9 := fun W => index_tx0 W 47 (ot)
  have hsl9 := fun W => from_tx1 W 47 (ot)
  have hl9 : (((47 :: ot).length : Int) == 0) = false := beq_eq_false_iff_ne.mpr (by rw [List.length_cons]; omega)
  skip
  obtain ⟨l9, hl9e⟩ : ∃ l, (47 :: ot) = l := ⟨_, rfl⟩
  rw [hl9e] at hln9 hix9 hl9 hsl9 hl ⊢
  have hsp : Stops l9 := by rw [← hl9e]; exact stops_slash ot
  have hl3a : (ds ++ l9).length ≤ 1000000000 := by have h := hl; simp only [List.length_append, List.length_cons] at h ⊢; omega
  have hl2a : (ws ++ 46 :: (ds ++ l9)).length ≤ 1000000000 := by have h := hl; simp only [List.length_append, List.length_cons] at h ⊢; omega
  have hln3 := fun W ty => len_tx W ty (46 :: (ds ++ l9))
  have hix3 := fun W => index_tx0 W 46 ((ds ++ l9))
  have hsl3 := fun W => from_tx1 W 46 ((ds ++ l9))
  have hl3 : (((46 :: (ds ++ l9)).length : Int) == 0) = false := beq_eq_false_iff_ne.mpr (by rw [List.length_cons]; omega)
  obtain ⟨T3, hT3⟩ : ∃ T, ds ++ l9 = T := ⟨_, rfl⟩
  rw [hT3] at hsl3 hln3 hix3 hl3 hl hl2a ⊢
  obtain ⟨l3, hl3e⟩ : ∃ l, (46 :: T3) = l := ⟨_, rfl⟩
  rw [hl3e] at hsl3 hln3 hix3 hl3 hl hl2a ⊢
  have hln2 := fun W ty => len_tx W ty (46 :: (ws ++ l3))
  have hix2 := fun W => index_tx0 W 46 ((ws ++ l3))
  have hsl2 := fun W => from_tx1 W 46 ((ws ++ l3))
  have hl2 : (((46 :: (ws ++ l3)).length : Int) == 0) = false := beq_eq_false_iff_ne.mpr (by rw [List.length_cons]; omega)
  obtain ⟨T2, hT2⟩ : ∃ T, ws ++ l3 = T := ⟨_, rfl⟩
  rw [hT2] at hsl2 hln2 hix2 hl2 hl ⊢
  obtain ⟨l2, hl2e⟩ : ∃ l, (46 :: T2) = l := ⟨_, rfl⟩
  rw [hl2e] at hsl2 hln2 hix2 hl2 hl ⊢
  have hln1 := fun W ty => len_tx W ty (77 :: (ms ++ l2))
  have hix1 := fun W => index_tx0 W 77 ((ms ++ l2))
  have hsl1 := fun W => from_tx1 W 77 ((ms ++ l2))
  have hl1 : (((77 :: (ms ++ l2)).length : Int) == 0) = false := beq_eq_false_iff_ne.mpr (by rw [List.length_cons]; omega)
  obtain ⟨T1, hT1⟩ : ∃ T, ms ++ l2 = T := ⟨_, rfl⟩
  rw [hT1] at hsl1 hln1 hix1 hl1 ⊢
  generalize (77 :: T1) = l1 at hsl1 hln1 hix1 hl1 ⊢
  go_enter Tryd.func59, Tryd.ntmps59
  go_wp2_with fail
  rw [← hT1]
  refine (num_calls ms l2 1 12 hm hm0 (by omega) hm1 hm2 (by omega) (by rw [← hl2e]; exact stops_dot _) hl _).mono ?_
  rintro e wa ⟨rfl, hba⟩
  go_wp2_with fail
  rw [← hT2]
  refine (num_calls ws l3 1 5 hw hw0 (by omega) hw1 hw2 (by omega) (by rw [← hl3e]; exact stops_dot _) hl2a _).mono ?_
  rintro e wb ⟨rfl, hbb⟩
  have hbc := hba.trans (hbb.mono hba.size)
  clear hba hbb
  go_wp2_with fail
  rw [← hT3]
  refine (num_calls ds l9 0 6 hd hd0 (by omega) h1 h2 (by omega) hsp hl3a _).mono ?_
  rintro e w1 ⟨rfl, hbd⟩
  have hb1 := hbc.trans (hbd.mono hbc.size)
  clear hbc hbd
  obtain ⟨hr, hq, hb2, hsz⟩ := two_blocks hb1
  clear hb1
  obtain ⟨⟨q0, q1, q2, q3, q4⟩, f0, f1, f2, f3, f4⟩ := five_cells hq
  go_wp2_with fail
  have HQ2 := Aside0.mk (blk_set (blk_set (blk_set (blk_set hq 0 (.int .i64 2)) 1 (.int .i64 (val ds))) 2 (.int .i64 (val ws))) 3 (.int .i64 (val ms)))
  have HR2 : Aside0 (((((w1.setCell ⟨w.heap.size + 1, 0, none⟩ (.int .i64 2)).setCell ⟨w.heap.size + 1, 1, none⟩ (.int .i64 (val ds))).setCell ⟨w.heap.size + 1, 2, none⟩ (.int .i64 (val ws))).setCell ⟨w.heap.size + 1, 3, none⟩ (.int .i64 (val ms))).heap[w.heap.size]? = some (.cells #[.int .i64 0, .int .i64 0, .int .i64 0, .int .i64 0, .int .i64 0] 120 (0, 0))) := ⟨((Below.heap_setCell _ _ _ w.heap.size (by simp)).trans ((Below.heap_setCell _ _ _ w.heap.size (by simp)).trans ((Below.heap_setCell _ _ _ w.heap.size (by simp)).trans ((Below.heap_setCell _ _ _ w.heap.size (by simp)).trans hr))))⟩
  have HB2 := Aside0.mk (below_cell (below_cell (below_cell (below_cell hb2 (w.heap.size + 1) 0 (.int .i64 2) (Nat.le_succ _)) (w.heap.size + 1) 1 (.int .i64 (val ds)) (Nat.le_succ _)) (w.heap.size + 1) 2 (.int .i64 (val ws)) (Nat.le_succ _)) (w.heap.size + 1) 3 (.int .i64 (val ms)) (Nat.le_succ _))
  skip
  generalize hW2 : ((((w1.setCell ⟨w.heap.size + 1, 0, none⟩ (.int .i64 2)).setCell ⟨w.heap.size + 1, 1, none⟩ (.int .i64 (val ds))).setCell ⟨w.heap.size + 1, 2, none⟩ (.int .i64 (val ws))).setCell ⟨w.heap.size + 1, 3, none⟩ (.int .i64 (val ms))) = w2 at HQ2 HR2 HB2 ⊢
  have hs2 : w.heap.size + 2 ≤ w2.heap.size := by rw [← hW2]; simpa using hsz
  clear hW2 q0 q1 q2 q3 q4 f0 f1 f2 f3 f4 hr hq hb2
  refine (ho w2).mono ?_
  rintro e w3 ⟨rfl, hb3⟩
  have hr3 := (hb3.block w.heap.size (by omega)).trans HR2.out
  have hq3 := (hb3.block (w.heap.size + 1) (by omega)).trans HQ2.out
  have hb4 := HB2.out.trans (hb3.mono HB2.out.size)
  clear hb3 HR2 HQ2 HB2
  obtain ⟨⟨q0, q1, q2, q3, q4⟩, f0, f1, f2, f3, f4⟩ := five_cells hq3
  obtain ⟨⟨p0, p1, p2, p3, p4⟩, k0, k1, k2, k3, k4⟩ := five_cells hr3
  go_wp2
  refine bodyPost_ret (results_ctt rfl _ _ w.heap.size 120 #[.int .i64 2, .int .i64 (val ds), .int .i64 (val ws), .int .i64 (val ms), .int .i64 v] (0, 0) _ rfl (blk_set (blk_set (blk_set (blk_set (blk_set ((Below.heap_setCell _ _ _ w.heap.size (by simp)).trans hr3) 0 (.int .i64 2)) 1 (.int .i64 (val ds))) 2 (.int .i64 (val ws))) 3 (.int .i64 (val ms))) 4 (.int .i64 v)) Tryd.underlying120 rfl (by kernel_rfl)) rfl ⟨?_, (below_cell (below_cell (below_cell (below_cell (below_cell (below_cell hb4 (w.heap.size + 1) 4 (.int .i64 v) (Nat.le_succ _)) w.heap.size 0 (.int .i64 2) (Nat.le_refl _)) w.heap.size 1 (.int .i64 (val ds)) (Nat.le_refl _)) w.heap.size 2 (.int .i64 (val ws)) (Nat.le_refl _)) w.heap.size 3 (.int .i64 (val ms)) (Nat.le_refl _)) w.heap.size 4 (.int .i64 v) (Nat.le_refl _))⟩
  rfl

set_option maxRecDepth 100000 in
set_option maxHeartbeats 4000000 in
theorem rule_M (ms ws ds rest : List UInt8) (hm : Digs ms) (hm0 : 0 < ms.length) (hm1 : 1 ≤ val ms) (hm2 : val ms ≤ 12) (hw : Digs ws) (hw0 : 0 < ws.length) (hw1 : 1 ≤ val ws) (hw2 : val ws ≤ 5) (hd : Digs ds) (hd0 : 0 < ds.length) (h1 : 0 ≤ val ds) (h2 : val ds ≤ 6) (he : RuleEnds rest) (hl : (ms ++ 46 :: (ws ++ 46 :: (ds ++ rest))).length ≤ 1000000000) : RuleAt (77 :: (ms ++ 46 :: (ws ++ 46 :: (ds ++ rest)))) 2 (val ds) (val ws) (val ms) 7200 rest := by
  cases rest with
  | nil =>
    intro w
    have hln9 := fun W ty => len_tx W ty ([] : List UInt8)
    have hl9 : ((([] : List UInt8).length : Int) == 0) = true := rfl
    obtain ⟨l9, hl9e⟩ : ∃ l, ([] : List UInt8) = l := ⟨_, rfl⟩
    rw [hl9e] at hln9 hl9 hl ⊢
    have hsp : Stops l9 := by rw [← hl9e]; exact he.stops
    have hl3a : (ds ++ l9).length ≤ 1000000000 := by have h := hl; simp only [List.length_append, List.length_cons] at h ⊢; omega
    have hl2a : (ws ++ 46 :: (ds ++ l9)).length ≤ 1000000000 := by have h := hl; simp only [List.length_append, List.length_cons] at h ⊢; omega
    have hln3 := fun W ty => len_tx W ty (46 :: (ds ++ l9))
    have hix3 := fun W => index_tx0 W 46 ((ds ++ l9))
    have hsl3 := fun W => from_tx1 W 46 ((ds ++ l9))
    have hl3 : (((46 :: (ds ++ l9)).length : Int) == 0) = false := beq_eq_false_iff_ne.mpr (by rw [List.length_cons]; omega)
    obtain ⟨T3, hT3⟩ : ∃ T, ds ++ l9 = T := ⟨_, rfl⟩
    rw [hT3] at hsl3 hln3 hix3 hl3 hl hl2a ⊢
    obtain ⟨l3, hl3e⟩ : ∃ l, (46 :: T3) = l := ⟨_, rfl⟩
    rw [hl3e] at hsl3 hln3 hix3 hl3 hl hl2a ⊢
    have hln2 := fun W ty => len_tx W ty (46 :: (ws ++ l3))
    have hix2 := fun W => index_tx0 W 46 ((ws ++ l3))
    have hsl2 := fun W => from_tx1 W 46 ((ws ++ l3))
    have hl2 : (((46 :: (ws ++ l3)).length : Int) == 0) = false := beq_eq_false_iff_ne.mpr (by rw [List.length_cons]; omega)
    obtain ⟨T2, hT2⟩ : ∃ T, ws ++ l3 = T := ⟨_, rfl⟩
    rw [hT2] at hsl2 hln2 hix2 hl2 hl ⊢
    obtain ⟨l2, hl2e⟩ : ∃ l, (46 :: T2) = l := ⟨_, rfl⟩
    rw [hl2e] at hsl2 hln2 hix2 hl2 hl ⊢
    have hln1 := fun W ty => len_tx W ty (77 :: (ms ++ l2))
    have hix1 := fun W => index_tx0 W 77 ((ms ++ l2))
    have hsl1 := fun W => from_tx1 W 77 ((ms ++ l2))
    have hl1 : (((77 :: (ms ++ l2)).length : Int) == 0) = false := beq_eq_false_iff_ne.mpr (by rw [List.length_cons]; omega)
    obtain ⟨T1, hT1⟩ : ∃ T, ms ++ l2 = T := ⟨_, rfl⟩
    rw [hT1] at hsl1 hln1 hix1 hl1 ⊢
    generalize (77 :: T1) = l1 at hsl1 hln1 hix1 hl1 ⊢
    go_enter Tryd.func59, Tryd.ntmps59
    go_wp2_with fail
    rw [← hT1]
    refine (num_calls ms l2 1 12 hm hm0 (by omega) hm1 hm2 (by omega) (by rw [← hl2e]; exact stops_dot _) hl _).mono ?_
    rintro e wa ⟨rfl, hba⟩
    go_wp2_with fail
    rw [← hT2]
    refine (num_calls ws l3 1 5 hw hw0 (by omega) hw1 hw2 (by omega) (by rw [← hl3e]; exact stops_dot _) hl2a _).mono ?_
    rintro e wb ⟨rfl, hbb⟩
    have hbc := hba.trans (hbb.mono hba.size)
    clear hba hbb
    go_wp2_with fail
    rw [← hT3]
    refine (num_calls ds l9 0 6 hd hd0 (by omega) h1 h2 (by omega) hsp hl3a _).mono ?_
    rintro e w1 ⟨rfl, hbd⟩
    have hb1 := hbc.trans (hbd.mono hbc.size)
    clear hbc hbd
    obtain ⟨hr, hq, hb2, hsz⟩ := two_blocks hb1
    clear hb1
    obtain ⟨⟨q0, q1, q2, q3, q4⟩, f0, f1, f2, f3, f4⟩ := five_cells hq
    obtain ⟨⟨p0, p1, p2, p3, p4⟩, k0, k1, k2, k3, k4⟩ := five_cells hr
    go_wp2
    refine bodyPost_ret (results_ctt rfl _ _ w.heap.size 120 #[.int .i64 2, .int .i64 (val ds), .int .i64 (val ws), .int .i64 (val ms), .int .i64 7200] (0, 0) _ rfl (blk_set (blk_set (blk_set (blk_set (blk_set ((Below.heap_setCell _ _ _ w.heap.size (by simp)).trans ((Below.heap_setCell _ _ _ w.heap.size (by simp)).trans ((Below.heap_setCell _ _ _ w.heap.size (by simp)).trans ((Below.heap_setCell _ _ _ w.heap.size (by simp)).trans ((Below.heap_setCell _ _ _ w.heap.size (by simp)).trans hr))))) 0 (.int .i64 2)) 1 (.int .i64 (val ds))) 2 (.int .i64 (val ws))) 3 (.int .i64 (val ms))) 4 (.int .i64 7200)) Tryd.underlying120 rfl (by kernel_rfl)) rfl ⟨?_, (below_cell (below_cell (below_cell (below_cell (below_cell (below_cell (below_cell (below_cell (below_cell (below_cell hb2 (w.heap.size + 1) 0 (.int .i64 2) (Nat.le_succ _)) (w.heap.size + 1) 1 (.int .i64 (val ds)) (Nat.le_succ _)) (w.heap.size + 1) 2 (.int .i64 (val ws)) (Nat.le_succ _)) (w.heap.size + 1) 3 (.int .i64 (val ms)) (Nat.le_succ _)) (w.heap.size + 1) 4 (.int .i64 7200) (Nat.le_succ _)) w.heap.size 0 (.int .i64 2) (Nat.le_refl _)) w.heap.size 1 (.int .i64 (val ds)) (Nat.le_refl _)) w.heap.size 2 (.int .i64 (val ws)) (Nat.le_refl _)) w.heap.size 3 (.int .i64 (val ms)) (Nat.le_refl _)) w.heap.size 4 (.int .i64 7200) (Nat.le_refl _))⟩
    rfl
  | cons rc rr =>
    intro w
    have hne := he rc rr rfl
    have hln9 := fun W ty => len_tx W ty (rc :: rr)
    have hix9 := fun W => index_tx0 W rc rr
    have hl9 : (((rc :: rr).length : Int) == 0) = false := beq_eq_false_iff_ne.mpr (by rw [List.length_cons]; omega)
    have q47 : ((rc.toNat : Int) != 47) = true := by simp; omega
    have q47b : ((rc.toNat : Int) == 47) = false := by simp; omega
    generalize (rc.toNat : Nat) = d9 at hix9 q47 q47b
    obtain ⟨l9, hl9e⟩ : ∃ l, (rc :: rr) = l := ⟨_, rfl⟩
    rw [hl9e] at hln9 hix9 hl9 hl ⊢
    have hsp : Stops l9 := by rw [← hl9e]; exact he.stops
    have hl3a : (ds ++ l9).length ≤ 1000000000 := by have h := hl; simp only [List.length_append, List.length_cons] at h ⊢; omega
    have hl2a : (ws ++ 46 :: (ds ++ l9)).length ≤ 1000000000 := by have h := hl; simp only [List.length_append, List.length_cons] at h ⊢; omega
    have hln3 := fun W ty => len_tx W ty (46 :: (ds ++ l9))
    have hix3 := fun W => index_tx0 W 46 ((ds ++ l9))
    have hsl3 := fun W => from_tx1 W 46 ((ds ++ l9))
    have hl3 : (((46 :: (ds ++ l9)).length : Int) == 0) = false := beq_eq_false_iff_ne.mpr (by rw [List.length_cons]; omega)
    obtain ⟨T3, hT3⟩ : ∃ T, ds ++ l9 = T := ⟨_, rfl⟩
    rw [hT3] at hsl3 hln3 hix3 hl3 hl hl2a ⊢
    obtain ⟨l3, hl3e⟩ : ∃ l, (46 :: T3) = l := ⟨_, rfl⟩
    rw [hl3e] at hsl3 hln3 hix3 hl3 hl hl2a ⊢
    have hln2 := fun W ty => len_tx W ty (46 :: (ws ++ l3))
    have hix2 := fun W => index_tx0 W 46 ((ws ++ l3))
    have hsl2 := fun W => from_tx1 W 46 ((ws ++ l3))
    have hl2 : (((46 :: (ws ++ l3)).length : Int) == 0) = false := beq_eq_false_iff_ne.mpr (by rw [List.length_cons]; omega)
    obtain ⟨T2, hT2⟩ : ∃ T, ws ++ l3 = T := ⟨_, rfl⟩
    rw [hT2] at hsl2 hln2 hix2 hl2 hl ⊢
    obtain ⟨l2, hl2e⟩ : ∃ l, (46 :: T2) = l := ⟨_, rfl⟩
    rw [hl2e] at hsl2 hln2 hix2 hl2 hl ⊢
    have hln1 := fun W ty => len_tx W ty (77 :: (ms ++ l2))
    have hix1 := fun W => index_tx0 W 77 ((ms ++ l2))
    have hsl1 := fun W => from_tx1 W 77 ((ms ++ l2))
    have hl1 : (((77 :: (ms ++ l2)).length : Int) == 0) = false := beq_eq_false_iff_ne.mpr (by rw [List.length_cons]; omega)
    obtain ⟨T1, hT1⟩ : ∃ T, ms ++ l2 = T := ⟨_, rfl⟩
    rw [hT1] at hsl1 hln1 hix1 hl1 ⊢
    generalize (77 :: T1) = l1 at hsl1 hln1 hix1 hl1 ⊢
    go_enter Tryd.func59, Tryd.ntmps59
    go_wp2_with fail
    rw [← hT1]
    refine (num_calls ms l2 1 12 hm hm0 (by omega) hm1 hm2 (by omega) (by rw [← hl2e]; exact stops_dot _) hl _).mono ?_
    rintro e wa ⟨rfl, hba⟩
    go_wp2_with fail
    rw [← hT2]
    refine (num_calls ws l3 1 5 hw hw0 (by omega) hw1 hw2 (by omega) (by rw [← hl3e]; exact stops_dot _) hl2a _).mono ?_
    rintro e wb ⟨rfl, hbb⟩
    have hbc := hba.trans (hbb.mono hba.size)
    clear hba hbb
    go_wp2_with fail
    rw [← hT3]
    refine (num_calls ds l9 0 6 hd hd0 (by omega) h1 h2 (by omega) hsp hl3a _).mono ?_
    rintro e w1 ⟨rfl, hbd⟩
    have hb1 := hbc.trans (hbd.mono hbc.size)
    clear hbc hbd
    obtain ⟨hr, hq, hb2, hsz⟩ := two_blocks hb1
    clear hb1
    obtain ⟨⟨q0, q1, q2, q3, q4⟩, f0, f1, f2, f3, f4⟩ := five_cells hq
    obtain ⟨⟨p0, p1, p2, p3, p4⟩, k0, k1, k2, k3, k4⟩ := five_cells hr
    go_wp2
    refine bodyPost_ret (results_ctt rfl _ _ w.heap.size 120 #[.int .i64 2, .int .i64 (val ds), .int .i64 (val ws), .int .i64 (val ms), .int .i64 7200] (0, 0) _ rfl (blk_set (blk_set (blk_set (blk_set (blk_set ((Below.heap_setCell _ _ _ w.heap.size (by simp)).trans ((Below.heap_setCell _ _ _ w.heap.size (by simp)).trans ((Below.heap_setCell _ _ _ w.heap.size (by simp)).trans ((Below.heap_setCell _ _ _ w.heap.size (by simp)).trans ((Below.heap_setCell _ _ _ w.heap.size (by simp)).trans hr))))) 0 (.int .i64 2)) 1 (.int .i64 (val ds))) 2 (.int .i64 (val ws))) 3 (.int .i64 (val ms))) 4 (.int .i64 7200)) Tryd.underlying120 rfl (by kernel_rfl)) rfl ⟨?_, (below_cell (below_cell (below_cell (below_cell (below_cell (below_cell (below_cell (below_cell (below_cell (below_cell hb2 (w.heap.size + 1) 0 (.int .i64 2) (Nat.le_succ _)) (w.heap.size + 1) 1 (.int .i64 (val ds)) (Nat.le_succ _)) (w.heap.size + 1) 2 (.int .i64 (val ws)) (Nat.le_succ _)) (w.heap.size + 1) 3 (.int .i64 (val ms)) (Nat.le_succ _)) (w.heap.size + 1) 4 (.int .i64 7200) (Nat.le_succ _)) w.heap.size 0 (.int .i64 2) (Nat.le_refl _)) w.heap.size 1 (.int .i64 (val ds)) (Nat.le_refl _)) w.heap.size 2 (.int .i64 (val ws)) (Nat.le_refl _)) w.heap.size 3 (.int .i64 (val ms)) (Nat.le_refl _)) w.heap.size 4 (.int .i64 7200) (Nat.le_refl _))⟩
    rfl
end Go.Proofs.YtjoaeennbfmohaaDoor
