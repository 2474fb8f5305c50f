/- The walk of NewLocation: the place in memory bears the given zones and transitions. Conditions: the rows lie in memory, each number of a zone lies inside. -/
import Derived.Test.YtjoaeennbfmohaaDoorPa
import Derived.Outline
import Derived.Deep.DeepMust
import Derived.Deep.RegionHeld3
namespace Go.Proofs.YtjoaeennbfmohaaDoor
open Go.RowKit Go.Proofs.YtjoaeennbfmohaaDoorW.PrintWords Go.Proofs.YtjoaeennbfmohaaDoorW.PrintLast Go.Proofs.YtjoaeennbfmohaaDoorW.PrintMore Go.Proofs.YtjoaeennbfmohaaDoor.PFnZone
set_option linter.unusedVariables false
set_option linter.unusedSimpArgs false

theorem info83' : (Tryd.prog.info? 83).map (fun i => (i.zero, i.size, i.bytes)) = some (some (.agg #[.string ⟨#[]⟩, .int .i64 0, .bool false]), 3, 32) := by kernel_rfl
theorem info92' : (Tryd.prog.info? 92).map (fun i => (i.zero, i.size, i.bytes)) = some (some (.agg #[.int .i64 0, .int .u8 0, .bool false, .bool false]), 4, 16) := by kernel_rfl
theorem one92 (s : S45) : ∀ u ∈ [Value.int .i64 s.f0, .int .u8 s.f1, .bool false, .bool false], u.oneCell' = true := by
  intro u hu
  simp at hu
  rcases hu with rfl | rfl | rfl | rfl <;> rfl

/-- 'append(v, x)' as a step of a region that draws, an order having been drawn. -/
theorem append_step_d {α : Type} {R : α → List Value → Prop} {P : Program} {ops : Array Oper} {o : Oper} {a : Act} {Q : Exit → Act → World → Prop} {K : Act → World → Prop} (w0 W : World) (base : Nat) (hgd : o.guard = none) (s x : Operand) (t e : TypeId) (z : Value) (size bytes : Nat)
    (ho : o.op = .call { callee := .builtin .append, args := #[s, x], argTypes := #[t, t] })
    (ht : P.underlying t = some (.slice e)) (hinfo : (P.info? e).map (fun i => (i.zero, i.size, i.bytes)) = some (some z, size, bytes)) (hz : z.cells.size = size) (hs0 : 0 < size) (hb0 : 0 < bytes)
    (v : Value) (ps : List α) (p : α) (cs : List Value) (hs : a.eval s = v) (hx : a.eval x = .slice (some ⟨W.heap.size, 0, none⟩) 1 1) (hp : R p cs) (hcs : cs.length = size) (h1 : ∀ u ∈ cs, u.oneCell' = true)
    (HO : OwnRow R e size W base v ps) (HB : Below base w0 W) (hbase : base ≤ W.heap.size) (hl : (ps.length + 1) * bytes ≤ 140737488355328)
    (h : ∀ v1 w1, OwnRow R e size w1 base v1 (ps ++ [p]) → Below base w0 w1 → W.grownBy w1 v.ownBlock → K (a.put o.dst v1) w1) :
    if Region.wanted o (yielded ops a.tmps) = true then Oper.wp P o a ((W.alloc (.cells cs.toArray e)).drew) K Q else K (a.put o.dst undef) ((W.alloc (.cells cs.toArray e)).drew) :=
  OwnRow.append_step (W := W.drew) (w0 := w0) base (by simp [Region.wanted, hgd]) s x t e z size bytes ho ht hinfo hz hs0 hb0 v ps p cs hs hx hp hcs h1
    (HO.below (pw_below_drewN (Below.refl _ _) 1)) (pw_below_drewN HB 1) hbase hl
    (fun v1 w1 h1 h2 h3 _ => h v1 w1 h1 h2 ⟨h3.os, h3.tape, h3.output, h3.size, h3.block⟩)

theorem cell_far {W : World} {g g' i j : Nat} (h : g ≠ g') (v : Value) : (W.setCell ⟨g, i, none⟩ v).cell? ⟨g', j, none⟩ = W.cell? ⟨g', j, none⟩ :=
  World.cell?_setCell_other _ _ _ _ (fun e => h (by injection e))

theorem new_grown {α : Type} {R : α → List Value → Prop} {e t : TypeId} {sz base : Nat} (cs : Array Value) {wr w2 : World} {vz : Value} {xs : List α} (HO : OwnRow R e sz wr base vz xs) (hne : e ≠ t) (hg : (wr.alloc (.cells cs t)).grownBy w2 vz.ownBlock) : w2.heap[wr.heap.size]? = some (.cells cs t (0, 0)) :=
  blk_grown (blk_new wr _) hg ((HO.below (below_alloc (Below.refl _ _) (.cells cs t))).ne_block (blk_new wr _) hne)

/-- What a place is in memory, made by the call. -/
def Placed (nm : ByteArray) (zs : List S27) (ts : List S45) (ext : ByteArray) (w : World) (e : Ending) (w' : World) : Prop :=
  ∃ g Az cz At ct, e = .returned (.pointer (some ⟨g, 0, none⟩)) ∧ LocAt w' g nm zs ts ext Az cz At ct ∧ Below w.heap.size w w'

set_option maxRecDepth 100000 in
set_option maxHeartbeats 4000000 in
theorem newloc_calls (nm : ByteArray) (zs : List S27) (ts : List S45) (ext : ByteArray) (Az : Option Addr) (cz : Nat) (At : Option Addr) (ct : Nat) (w : World) (hz : ZRow w Az zs) (ht : TRow w At ts)
    (lz : zs.length ≤ 100000) (lt : ts.length ≤ 100000) :
    Calls Tryd.prog 45 #[.string nm, .slice Az zs.length cz, .slice At ts.length ct, .string ext] w (Placed nm zs ts ext w) := by
  have HRZ := Aside0.mk hz
  have HRT := Aside0.mk ht
  clear hz ht
  go_enter Tryd.func45, Tryd.ntmps45
  go_wp2_with fail
  go_loopw [20] (fun t wr => ∃ (k : Nat) (vz : Value), k ≤ zs.length ∧ t = .int .i64 k ∧ Aside0 (OwnRow R27 83 3 wr w.heap.size vz (zs.take k)) ∧ Aside0 (wr.heap[w.heap.size]? = some (.cells #[.bool false, .string nm, vz, .slice none 0 0, .string ext, .int .i64 0, .int .i64 0, .pointer none] 95 (0, 0))) ∧ Aside0 (Below w.heap.size w wr)) (fun t _ => zs.length - (intOf t).toNat)
  case atStart => exact ⟨0, _, by omega, rfl, ⟨OwnRow.none_ _ _ _ _ _⟩, ⟨blk_new _ _⟩, ⟨below_alloc (Below.refl _ _) _⟩⟩
  case round =>
    obtain ⟨k, vz, hk, rfl, HO, HK, HB⟩ := hrel
    have hc1 : wr.cell? ⟨w.heap.size, 2, none⟩ = some vz := blk_cell HK.out 2
    have hfz := blk_frozen HK.out 2
    have hlt1 := blk_lt HK.out
    have hne : w.heap.size ≠ wr.heap.size := Nat.ne_of_lt hlt1
    by_cases hlt : k < zs.length
    · obtain ⟨ad, hA, x0, x1, x2⟩ := ReadsRow.at3 HRZ.out HB.out k hlt
      subst hA
      generalize hs : zs[k] = s at x0 x1 x2
      have HS := Aside0.mk hs
      clear hs
      have hl : ((zs.take k).length + 1) * 32 ≤ 140737488355328 := by rw [List.length_take]; omega
      go_wp2_with fail
      refine start_ (n := 17) (S := fun w' => w'.cell? ⟨w.heap.size, 2, none⟩ = some vz ∧ w'.cell? ⟨wr.heap.size, 0, none⟩ = some (.string s.f0) ∧ w'.cell? ⟨wr.heap.size, 1, none⟩ = some (.int .i64 s.f1) ∧ w'.cell? ⟨wr.heap.size, 2, none⟩ = some (.bool s.f2)) (ds := [16]) #[false, false, false, false, false, false, false, false, false, false, false, false, false, false, false, false, false] (by kernel_rfl) rfl rfl ?_ (fun hHeld => ?_)
      · exact ⟨blk_cell (blk_drew (blk_alloc HK.out _)) 2, blk_cell (blk_drew (blk_new wr _)) 0, blk_cell (blk_drew (blk_new wr _)) 1, blk_cell (blk_drew (blk_new wr _)) 2⟩
      refine pure_ (i := 0) (N := some 24) (v := ?_) (a' := ?_) #[true, false, false, false, false, false, false, false, false, false, false, false, false, false, false, false, false] rfl rfl (by kernel_rfl) (fun _ _ _ h => h) (Or.inl ⟨by rfl, ?_⟩) ?_ ?_
      rotate_left
      · intro w'
        go_simp
        with_reducible rfl
      rotate_left
      · simp only [Act.put, List.setIfInBounds_toArray, List.set_cons_zero, List.set_cons_succ, i64_w, i32_w]
        rfl
      refine pure_ (i := 1) (N := some 25) (v := ?_) (a' := ?_) #[true, true, false, false, false, false, false, false, false, false, false, false, false, false, false, false, false] rfl rfl (by kernel_rfl) (fun _ _ _ h => h) (Or.inl ⟨by rfl, ?_⟩) ?_ ?_
      rotate_left
      · intro w'
        go_simp
        with_reducible rfl
      rotate_left
      · simp only [Act.put, List.setIfInBounds_toArray, List.set_cons_zero, List.set_cons_succ, i64_w, i32_w]
        rfl
      refine pure_ (i := 2) (N := some 26) (v := ?_) (a' := ?_) #[true, true, true, false, false, false, false, false, false, false, false, false, false, false, false, false, false] rfl rfl (by kernel_rfl) (fun _ _ _ h => h) (Or.inl ⟨by rfl, ?_⟩) ?_ ?_
      rotate_left
      · intro w'
        go_simp
        with_reducible rfl
      rotate_left
      · simp only [Act.put, List.setIfInBounds_toArray, List.set_cons_zero, List.set_cons_succ, i64_w, i32_w]
        rfl
      refine pure_ (i := 3) (N := some 27) (v := ?_) (a' := ?_) #[true, true, true, true, false, false, false, false, false, false, false, false, false, false, false, false, false] rfl rfl (by kernel_rfl) (fun _ _ _ h => h) (Or.inl ⟨by rfl, ?_⟩) ?_ ?_
      rotate_left
      · intro w'
        go_simp
        with_reducible rfl
      rotate_left
      · simp only [Act.put, List.setIfInBounds_toArray, List.set_cons_zero, List.set_cons_succ, i64_w, i32_w]
        rfl
      refine take_ (i := 4) (N := some 28) (v := ?_) (a' := ?_) #[true, true, true, true, true, false, false, false, false, false, false, false, false, false, false, false, false] rfl rfl (by kernel_rfl) (fun _ _ _ h => h) (Or.inl ⟨by rfl, ?_⟩) hHeld ?_ ?_
      rotate_left
      · rintro w' ⟨s0, s1, s2, s3⟩
        go_simp
        with_reducible rfl
      rotate_left
      · simp only [Act.put, List.setIfInBounds_toArray, List.set_cons_zero, List.set_cons_succ, i64_w, i32_w]
        rfl
      refine pure_ (i := 5) (N := some 29) (v := ?_) (a' := ?_) #[true, true, true, true, true, true, false, false, false, false, false, false, false, false, false, false, false] rfl rfl (by kernel_rfl) (fun _ _ _ h => h) (Or.inl ⟨by rfl, ?_⟩) ?_ ?_
      rotate_left
      · intro w'
        go_simp
        with_reducible rfl
      rotate_left
      · simp only [Act.put, List.setIfInBounds_toArray, List.set_cons_zero, List.set_cons_succ, i64_w, i32_w]
        rfl
      refine take_ (i := 6) (N := some 30) (v := ?_) (a' := ?_) #[true, true, true, true, true, true, true, false, false, false, false, false, false, false, false, false, false] rfl rfl (by kernel_rfl) (fun _ _ _ h => h) (Or.inl ⟨by rfl, ?_⟩) hHeld ?_ ?_
      rotate_left
      · rintro w' ⟨s0, s1, s2, s3⟩
        go_simp
        with_reducible rfl
      rotate_left
      · simp only [Act.put, List.setIfInBounds_toArray, List.set_cons_zero, List.set_cons_succ, i64_w, i32_w]
        rfl
      refine pure_ (i := 7) (N := some 31) (v := ?_) (a' := ?_) #[true, true, true, true, true, true, true, true, false, false, false, false, false, false, false, false, false] rfl rfl (by kernel_rfl) (fun _ _ _ h => h) (Or.inl ⟨by rfl, ?_⟩) ?_ ?_
      rotate_left
      · intro w'
        go_simp
        with_reducible rfl
      rotate_left
      · simp only [Act.put, List.setIfInBounds_toArray, List.set_cons_zero, List.set_cons_succ, i64_w, i32_w]
        rfl
      refine take_ (i := 8) (N := some 32) (v := ?_) (a' := ?_) #[true, true, true, true, true, true, true, true, true, false, false, false, false, false, false, false, false] rfl rfl (by kernel_rfl) (fun _ _ _ h => h) (Or.inl ⟨by rfl, ?_⟩) hHeld ?_ ?_
      rotate_left
      · rintro w' ⟨s0, s1, s2, s3⟩
        go_simp
        with_reducible rfl
      rotate_left
      · simp only [Act.put, List.setIfInBounds_toArray, List.set_cons_zero, List.set_cons_succ, i64_w, i32_w]
        rfl
      refine pure_ (i := 9) (N := some 33) (v := ?_) (a' := ?_) #[true, true, true, true, true, true, true, true, true, true, false, false, false, false, false, false, false] rfl rfl (by kernel_rfl) (fun _ _ _ h => h) (Or.inl ⟨by rfl, ?_⟩) ?_ ?_
      rotate_left
      · intro w'
        go_simp
        with_reducible rfl
      rotate_left
      · simp only [Act.put, List.setIfInBounds_toArray, List.set_cons_zero, List.set_cons_succ, i64_w, i32_w]
        rfl
      refine take_ (i := 10) (N := some 34) (v := ?_) (a' := ?_) #[true, true, true, true, true, true, true, true, true, true, true, false, false, false, false, false, false] rfl rfl (by kernel_rfl) (fun _ _ _ h => h) (Or.inl ⟨by rfl, ?_⟩) hHeld ?_ ?_
      rotate_left
      · rintro w' ⟨s0, s1, s2, s3⟩
        go_simp
        with_reducible rfl
      rotate_left
      · simp only [Act.put, List.setIfInBounds_toArray, List.set_cons_zero, List.set_cons_succ, i64_w, i32_w]
        rfl
      refine pure_ (i := 11) (N := some 35) (v := ?_) (a' := ?_) #[true, true, true, true, true, true, true, true, true, true, true, true, false, false, false, false, false] rfl rfl (by kernel_rfl) (fun _ _ _ h => h) (Or.inl ⟨by rfl, ?_⟩) ?_ ?_
      rotate_left
      · intro w'
        go_simp
        with_reducible rfl
      rotate_left
      · simp only [Act.put, List.setIfInBounds_toArray, List.set_cons_zero, List.set_cons_succ, i64_w, i32_w]
        rfl
      refine one_ (i := 12) (N := some 36) #[true, true, true, true, true, true, true, true, true, true, true, true, true, false, false, false, false] rfl rfl (by kernel_rfl) (by decide) (fun K hK => ?_)
      refine value_ (w1 := ?_) (v := ?_) (by rfl) rfl ?_ ?_
      rotate_left 2
      · go_simp
        constructor
        · rfl
        · rfl
      refine hK.out _ _ ?_ (fun hHeld => ?_)
      · exact ⟨blk_cell (blk_drew (blk_alloc (blk_alloc HK.out _) _)) 2, blk_cell (blk_drew (blk_alloc (blk_new wr _) _)) 0, blk_cell (blk_drew (blk_alloc (blk_new wr _) _)) 1, blk_cell (blk_drew (blk_alloc (blk_new wr _) _)) 2⟩
      clear hK K
      refine norm_ (a' := ?_) ?_ ?_
      rotate_left
      · skip
        simp only [Act.put, List.setIfInBounds_toArray, List.set_cons_zero, List.set_cons_succ, i64_w, i32_w]
        rfl
      refine one_ (i := 13) (N := some 37) #[true, true, true, true, true, true, true, true, true, true, true, true, true, true, false, false, false] rfl rfl (by kernel_rfl) (by decide) (fun K hK => ?_)
      refine append_step_d (R := R27) w (wr.alloc (.cells #[.string s.f0, .int .i64 s.f1, .bool s.f2] 100)) w.heap.size rfl _ _ 81 83 (.agg #[.string ⟨#[]⟩, .int .i64 0, .bool false]) 3 32 rfl Tryd.underlying81 info83' rfl (by decide) (by decide) vz (zs.take k) s [.string s.f0, .int .i64 s.f1, .bool s.f2] rfl (by rw [World.size_alloc]; rfl) rfl rfl (one27 s) (HO.out.below (below_alloc (Below.refl _ _) _)) (HB.out.alloc HB.out.size _) (Nat.le_trans HB.out.size (by simp)) hl ?_
      intro v1 w2 ho1 hb1 hg1
      have hk1 := kept_grown (.cells #[.string s.f0, .int .i64 s.f1, .bool s.f2] 100) HO.out HK.out (by decide) hg1
      have hk2 := new_grown #[.string s.f0, .int .i64 s.f1, .bool s.f2] HO.out (by decide) hg1
      have hff2 := blk_frozen hk1 2
      have hcc2 : w2.cell? ⟨w.heap.size, 2, none⟩ = some vz := blk_cell hk1 2
      obtain ⟨Av, cv, rfl, hlv⟩ := ho1.slice_
      refine hK.out _ _ ⟨hcc2, blk_cell hk2 0, blk_cell hk2 1, blk_cell hk2 2⟩ (fun hHeld => ?_)
      clear hK K
      refine norm_ (a' := ?_) ?_ ?_
      rotate_left
      · show Act.put _ _ _ = _
        simp only [Act.put, List.setIfInBounds_toArray, List.set_cons_zero, List.set_cons_succ, i64_w, i32_w]
        rfl
      refine pure_ (i := 14) (N := some 38) (v := ?_) (a' := ?_) #[true, true, true, true, true, true, true, true, true, true, true, true, true, true, true, false, false] rfl rfl (by kernel_rfl) (fun _ _ _ h => h) (Or.inl ⟨by rfl, ?_⟩) ?_ ?_
      rotate_left
      · intro w'
        go_simp
        with_reducible rfl
      rotate_left
      · simp only [Act.put, List.setIfInBounds_toArray, List.set_cons_zero, List.set_cons_succ, i64_w, i32_w]
        rfl
      refine pure_ (i := 15) (N := some 39) (v := ?_) (a' := ?_) #[true, true, true, true, true, true, true, true, true, true, true, true, true, true, true, true, false] rfl rfl (by kernel_rfl) (fun _ _ _ h => h) (Or.inl ⟨by rfl, ?_⟩) ?_ ?_
      rotate_left
      · intro w'
        go_simp
        with_reducible rfl
      rotate_left
      · simp only [Act.put, List.setIfInBounds_toArray, List.set_cons_zero, List.set_cons_succ, i64_w, i32_w]
        rfl
      refine last_ (i := 16) (N := none) #[true, true, true, true, true, true, true, true, true, true, true, true, true, true, true, true, true] rfl rfl (by kernel_rfl) (by decide) (fun K hK => ?_)
      refine skip_ (w1 := ?_) (by rfl) rfl ?_ ?_
      rotate_left
      · go_simp
        rfl
      refine hK.out _ _ ?_
      clear hK K
      refine done_ (by kernel_rfl) ?_
      go_wp2_with fail
      have hk3 := blk_set hk1 2 (.slice Av (k + 1) cv)
      refine ⟨⟨k + 1, .slice Av (k + 1) cv, hlt, by simp, ⟨?_⟩, ⟨hk3⟩, ⟨below_cell hb1 _ _ _ (Nat.le_refl _)⟩⟩, ?_⟩
      · have hh := ho1.set_ hk1 (by decide) 2 (.slice Av (k + 1) cv)
        rw [← HS.out, take_next zs k hlt, List.length_take, Nat.min_eq_left (by omega)] at hh
        exact hh
      · show zs.length - ((k : Int) + 1).toNat < zs.length - (k : Int).toNat
        omega
    · have hke : k = zs.length := by omega
      have HLT := Aside0.mk hlt
      clear hlt
      subst hke
      rw [List.take_length] at HO
      obtain ⟨Bz, dz, rfl, hdz⟩ := HO.out.slice_
      have HOZ := HO
      have HKZ := HK
      have HBZ := HB
      clear HO HK HB hk hc1 hfz
      go_wp2_with fail
      go_loopw [43] (fun t wr => ∃ (k : Nat) (vt : Value), k ≤ ts.length ∧ t = .int .i64 k ∧ Aside0 (OwnRow R27 83 3 wr w.heap.size (.slice Bz zs.length dz) zs) ∧ Aside0 (OwnRow R92 92 4 wr w.heap.size vt (ts.take k)) ∧ Aside0 (wr.heap[w.heap.size]? = some (.cells #[.bool false, .string nm, .slice Bz zs.length dz, vt, .string ext, .int .i64 0, .int .i64 0, .pointer none] 95 (0, 0))) ∧ Aside0 (Below w.heap.size w wr)) (fun t _ => ts.length - (intOf t).toNat)
      case atStart => exact ⟨0, _, by omega, rfl, HOZ, ⟨OwnRow.none_ _ _ _ _ _⟩, HKZ, HBZ⟩
      case round =>
        clear HOZ HKZ HBZ hlt1 hne
        rename_i wr1 _ _
        clear wr1
        obtain ⟨k, vt, hk, rfl, HZ, HO, HK, HB⟩ := hrel
        have hc1 : wr.cell? ⟨w.heap.size, 3, none⟩ = some vt := blk_cell HK.out 3
        have hfz := blk_frozen HK.out 3
        have hlt1 := blk_lt HK.out
        have hne : w.heap.size ≠ wr.heap.size := Nat.ne_of_lt hlt1
        by_cases hlt : k < ts.length
        · obtain ⟨ad, hA, x0, x1⟩ := ReadsRow.at2 HRT.out HB.out k hlt
          subst hA
          generalize hs : ts[k] = s at x0 x1
          have HS := Aside0.mk hs
          clear hs
          have hl : ((ts.take k).length + 1) * 16 ≤ 140737488355328 := by rw [List.length_take]; omega
          go_wp2_with fail
          refine start_ (n := 15) (S := fun w' => w'.cell? ⟨w.heap.size, 3, none⟩ = some vt ∧ w'.cell? ⟨wr.heap.size, 0, none⟩ = some (.int .i64 s.f0) ∧ w'.cell? ⟨wr.heap.size, 1, none⟩ = some (.int .u8 s.f1)) (ds := [14]) #[false, false, false, false, false, false, false, false, false, false, false, false, false, false, false] (by kernel_rfl) rfl rfl ?_ (fun hHeld => ?_)
          · exact ⟨blk_cell (blk_drew (blk_alloc HK.out _)) 3, blk_cell (blk_drew (blk_new wr _)) 0, blk_cell (blk_drew (blk_new wr _)) 1⟩
          refine pure_ (i := 0) (N := some 47) (v := ?_) (a' := ?_) #[true, false, false, false, false, false, false, false, false, false, false, false, false, false, false] rfl rfl (by kernel_rfl) (fun _ _ _ h => h) (Or.inl ⟨by rfl, ?_⟩) ?_ ?_
          rotate_left
          · intro w'
            go_simp
            with_reducible rfl
          rotate_left
          · simp only [Act.put, List.setIfInBounds_toArray, List.set_cons_zero, List.set_cons_succ, i64_w, i32_w]
            rfl
          refine pure_ (i := 1) (N := some 48) (v := ?_) (a' := ?_) #[true, true, false, false, false, false, false, false, false, false, false, false, false, false, false] rfl rfl (by kernel_rfl) (fun _ _ _ h => h) (Or.inl ⟨by rfl, ?_⟩) ?_ ?_
          rotate_left
          · intro w'
            go_simp
            with_reducible rfl
          rotate_left
          · simp only [Act.put, List.setIfInBounds_toArray, List.set_cons_zero, List.set_cons_succ, i64_w, i32_w]
            rfl
          refine pure_ (i := 2) (N := some 49) (v := ?_) (a' := ?_) #[true, true, true, false, false, false, false, false, false, false, false, false, false, false, false] rfl rfl (by kernel_rfl) (fun _ _ _ h => h) (Or.inl ⟨by rfl, ?_⟩) ?_ ?_
          rotate_left
          · intro w'
            go_simp
            with_reducible rfl
          rotate_left
          · simp only [Act.put, List.setIfInBounds_toArray, List.set_cons_zero, List.set_cons_succ, i64_w, i32_w]
            rfl
          refine pure_ (i := 3) (N := some 50) (v := ?_) (a' := ?_) #[true, true, true, true, false, false, false, false, false, false, false, false, false, false, false] rfl rfl (by kernel_rfl) (fun _ _ _ h => h) (Or.inl ⟨by rfl, ?_⟩) ?_ ?_
          rotate_left
          · intro w'
            go_simp
            with_reducible rfl
          rotate_left
          · simp only [Act.put, List.setIfInBounds_toArray, List.set_cons_zero, List.set_cons_succ, i64_w, i32_w]
            rfl
          refine take_ (i := 4) (N := some 51) (v := ?_) (a' := ?_) #[true, true, true, true, true, false, false, false, false, false, false, false, false, false, false] rfl rfl (by kernel_rfl) (fun _ _ _ h => h) (Or.inl ⟨by rfl, ?_⟩) hHeld ?_ ?_
          rotate_left
          · rintro w' ⟨s0, s1, s2⟩
            go_simp
            with_reducible rfl
          rotate_left
          · simp only [Act.put, List.setIfInBounds_toArray, List.set_cons_zero, List.set_cons_succ, i64_w, i32_w]
            rfl
          refine pure_ (i := 5) (N := some 52) (v := ?_) (a' := ?_) #[true, true, true, true, true, true, false, false, false, false, false, false, false, false, false] rfl rfl (by kernel_rfl) (fun _ _ _ h => h) (Or.inl ⟨by rfl, ?_⟩) ?_ ?_
          rotate_left
          · intro w'
            go_simp
            with_reducible rfl
          rotate_left
          · simp only [Act.put, List.setIfInBounds_toArray, List.set_cons_zero, List.set_cons_succ, i64_w, i32_w]
            rfl
          refine take_ (i := 6) (N := some 53) (v := ?_) (a' := ?_) #[true, true, true, true, true, true, true, false, false, false, false, false, false, false, false] rfl rfl (by kernel_rfl) (fun _ _ _ h => h) (Or.inl ⟨by rfl, ?_⟩) hHeld ?_ ?_
          rotate_left
          · rintro w' ⟨s0, s1, s2⟩
            go_simp
            with_reducible rfl
          rotate_left
          · simp only [Act.put, List.setIfInBounds_toArray, List.set_cons_zero, List.set_cons_succ, i64_w, i32_w]
            rfl
          refine pure_ (i := 7) (N := some 54) (v := ?_) (a' := ?_) #[true, true, true, true, true, true, true, true, false, false, false, false, false, false, false] rfl rfl (by kernel_rfl) (fun _ _ _ h => h) (Or.inl ⟨by rfl, ?_⟩) ?_ ?_
          rotate_left
          · intro w'
            go_simp
            with_reducible rfl
          rotate_left
          · simp only [Act.put, List.setIfInBounds_toArray, List.set_cons_zero, List.set_cons_succ, i64_w, i32_w]
            rfl
          refine take_ (i := 8) (N := some 55) (v := ?_) (a' := ?_) #[true, true, true, true, true, true, true, true, true, false, false, false, false, false, false] rfl rfl (by kernel_rfl) (fun _ _ _ h => h) (Or.inl ⟨by rfl, ?_⟩) hHeld ?_ ?_
          rotate_left
          · rintro w' ⟨s0, s1, s2⟩
            go_simp
            with_reducible rfl
          rotate_left
          · simp only [Act.put, List.setIfInBounds_toArray, List.set_cons_zero, List.set_cons_succ, i64_w, i32_w]
            rfl
          refine pure_ (i := 9) (N := some 56) (v := ?_) (a' := ?_) #[true, true, true, true, true, true, true, true, true, true, false, false, false, false, false] rfl rfl (by kernel_rfl) (fun _ _ _ h => h) (Or.inl ⟨by rfl, ?_⟩) ?_ ?_
          rotate_left
          · intro w'
            go_simp
            with_reducible rfl
          rotate_left
          · simp only [Act.put, List.setIfInBounds_toArray, List.set_cons_zero, List.set_cons_succ, i64_w, i32_w]
            rfl
          refine one_ (i := 10) (N := some 57) #[true, true, true, true, true, true, true, true, true, true, true, false, false, false, false] rfl rfl (by kernel_rfl) (by decide) (fun K hK => ?_)
          refine value_ (w1 := ?_) (v := ?_) (by rfl) rfl ?_ ?_
          rotate_left 2
          · go_simp
            constructor
            · rfl
            · rfl
          refine hK.out _ _ ?_ (fun hHeld => ?_)
          · exact ⟨blk_cell (blk_drew (blk_alloc (blk_alloc HK.out _) _)) 3, blk_cell (blk_drew (blk_alloc (blk_new wr _) _)) 0, blk_cell (blk_drew (blk_alloc (blk_new wr _) _)) 1⟩
          clear hK K
          refine norm_ (a' := ?_) ?_ ?_
          rotate_left
          · skip
            simp only [Act.put, List.setIfInBounds_toArray, List.set_cons_zero, List.set_cons_succ, i64_w, i32_w]
            rfl
          refine one_ (i := 11) (N := some 58) #[true, true, true, true, true, true, true, true, true, true, true, true, false, false, false] rfl rfl (by kernel_rfl) (by decide) (fun K hK => ?_)
          refine append_step_d (R := R92) w (wr.alloc (.cells #[.int .i64 s.f0, .int .u8 s.f1] 101)) w.heap.size rfl _ _ 87 92 (.agg #[.int .i64 0, .int .u8 0, .bool false, .bool false]) 4 16 rfl Tryd.underlying87 info92' rfl (by decide) (by decide) vt (ts.take k) s [.int .i64 s.f0, .int .u8 s.f1, .bool false, .bool false] rfl (by rw [World.size_alloc]; rfl) rfl rfl (one92 s) (HO.out.below (below_alloc (Below.refl _ _) _)) (HB.out.alloc HB.out.size _) (Nat.le_trans HB.out.size (by simp)) hl ?_
          intro v1 w2 ho1 hb1 hg1
          have hk1 := kept_grown (.cells #[.int .i64 s.f0, .int .u8 s.f1] 101) HO.out HK.out (by decide) hg1
          have hk2 := new_grown #[.int .i64 s.f0, .int .u8 s.f1] HO.out (by decide) hg1
          have hff2 := blk_frozen hk1 3
          have hcc2 : w2.cell? ⟨w.heap.size, 3, none⟩ = some vt := blk_cell hk1 3
          have hz2 := (HZ.out.below (below_alloc (Below.refl _ _) (.cells #[.int .i64 s.f0, .int .u8 s.f1] 101))).other hg1 (own_ne_of HZ.out HO.out (by decide))
          obtain ⟨Av, cv, rfl, hlv⟩ := ho1.slice_
          refine hK.out _ _ ⟨hcc2, blk_cell hk2 0, blk_cell hk2 1⟩ (fun hHeld => ?_)
          clear hK K
          refine norm_ (a' := ?_) ?_ ?_
          rotate_left
          · show Act.put _ _ _ = _
            simp only [Act.put, List.setIfInBounds_toArray, List.set_cons_zero, List.set_cons_succ, i64_w, i32_w]
            rfl
          refine pure_ (i := 12) (N := some 59) (v := ?_) (a' := ?_) #[true, true, true, true, true, true, true, true, true, true, true, true, true, false, false] rfl rfl (by kernel_rfl) (fun _ _ _ h => h) (Or.inl ⟨by rfl, ?_⟩) ?_ ?_
          rotate_left
          · intro w'
            go_simp
            with_reducible rfl
          rotate_left
          · simp only [Act.put, List.setIfInBounds_toArray, List.set_cons_zero, List.set_cons_succ, i64_w, i32_w]
            rfl
          refine pure_ (i := 13) (N := some 60) (v := ?_) (a' := ?_) #[true, true, true, true, true, true, true, true, true, true, true, true, true, true, false] rfl rfl (by kernel_rfl) (fun _ _ _ h => h) (Or.inl ⟨by rfl, ?_⟩) ?_ ?_
          rotate_left
          · intro w'
            go_simp
            with_reducible rfl
          rotate_left
          · simp only [Act.put, List.setIfInBounds_toArray, List.set_cons_zero, List.set_cons_succ, i64_w, i32_w]
            rfl
          refine last_ (i := 14) (N := none) #[true, true, true, true, true, true, true, true, true, true, true, true, true, true, true] rfl rfl (by kernel_rfl) (by decide) (fun K hK => ?_)
          refine skip_ (w1 := ?_) (by rfl) rfl ?_ ?_
          rotate_left
          · go_simp
            rfl
          refine hK.out _ _ ?_
          clear hK K
          refine done_ (by kernel_rfl) ?_
          go_wp2_with fail
          have hk3 := blk_set hk1 3 (.slice Av (k + 1) cv)
          refine ⟨⟨k + 1, .slice Av (k + 1) cv, hlt, by simp, ⟨?_⟩, ⟨?_⟩, ⟨hk3⟩, ⟨below_cell hb1 _ _ _ (Nat.le_refl _)⟩⟩, ?_⟩
          · exact hz2.set_ hk1 (by decide) 3 (.slice Av (k + 1) cv)
          · have hh := ho1.set_ hk1 (by decide) 3 (.slice Av (k + 1) cv)
            rw [← HS.out, take_next ts k hlt, List.length_take, Nat.min_eq_left (by omega)] at hh
            exact hh
          · show ts.length - ((k : Int) + 1).toNat < ts.length - (k : Int).toNat
            omega
        · have hke : k = ts.length := by omega
          have HLT := Aside0.mk hlt
          clear hlt
          subst hke
          rw [List.take_length] at HO
          obtain ⟨Bt, dt, rfl, hdt⟩ := HO.out.slice_
          go_wp2_with fail
          go_ret
          obtain ⟨A1, d1, e1, hl1, hr1⟩ := HZ.out.reads
          obtain ⟨A2, d2, e2, hl2, hr2⟩ := HO.out.reads
          injection e1 with e11 _ e12
          subst e11 e12
          injection e2 with e21 _ e22
          subst e21 e22
          exact ⟨w.heap.size, Bz, dz, Bt, dt, rfl, ⟨blk_cell HK.out 0, blk_cell HK.out 1, blk_cell HK.out 2, blk_cell HK.out 3, blk_cell HK.out 4, blk_cell HK.out 5, blk_cell HK.out 6, blk_cell HK.out 7, hr1, hr2, hl1, hl2⟩, HB.out⟩
end Go.Proofs.YtjoaeennbfmohaaDoor
