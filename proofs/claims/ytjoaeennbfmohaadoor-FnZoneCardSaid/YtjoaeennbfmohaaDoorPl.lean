/- The walk of impl.place over NewLocation's contract. Conditions: the rows lie in memory. -/
import Derived.Test.YtjoaeennbfmohaaDoorNl
import Derived.Outline
import Derived.Deep.DeepMust
namespace Go.Proofs.YtjoaeennbfmohaaDoor
open Go.RowKit Go.Proofs.YtjoaeennbfmohaaDoorW.PrintWords Go.Proofs.YtjoaeennbfmohaaDoor.PFnZone
set_option linter.unusedVariables false
set_option linter.unusedSimpArgs false

theorem info100' : (Tryd.prog.info? 100).map (fun i => (i.zero, i.size, i.bytes)) = some (some (.agg #[.string ⟨#[]⟩, .int .i64 0, .bool false]), 3, 32) := by kernel_rfl
theorem info101' : (Tryd.prog.info? 101).map (fun i => (i.zero, i.size, i.bytes)) = some (some (.agg #[.int .i64 0, .int .u8 0]), 2, 16) := by kernel_rfl

set_option maxRecDepth 100000 in
set_option maxHeartbeats 4000000 in
theorem place_calls (nm : ByteArray) (zs : List S27) (ts : List S45) (ext : ByteArray) (Az : Option Addr) (cz : Nat) (At : Option Addr) (ct : Nat) (w : World) (hz : ZRow w Az zs) (ht : TRow w At ts)
    (lz : zs.length ≤ 100000) (lt : ts.length ≤ 100000) :
    Calls Tryd.prog 28 #[.agg #[.string nm, .slice Az zs.length cz, .slice At ts.length ct, .string ext]] w (Placed nm zs ts ext w) := by
  have HRZ := Aside0.mk hz
  have HRT := Aside0.mk ht
  clear hz ht
  go_enter Tryd.func28, Tryd.ntmps28
  go_wp2_with fail
  go_loopw [3, 13] (fun tz t wr => ∃ (k : Nat), k ≤ zs.length ∧ t = .int .i64 k ∧ Aside0 (OwnRow R27 100 3 wr (w.heap.size + 1) tz (zs.take k)) ∧ Aside0 (wr.heap[w.heap.size]? = some (.cells #[.string nm, .slice Az zs.length cz, .slice At ts.length ct, .string ext] 25 (0, 0))) ∧ Aside0 (Below w.heap.size w wr)) (fun _ t _ => zs.length - (intOf t).toNat)
  case atStart =>
    refine ⟨0, by omega, rfl, ⟨?_⟩, ⟨blk_alloc (blk_new w _) _⟩, ⟨(below_alloc (Below.refl _ _) _).alloc (by simp) _⟩⟩
    have h := OwnRow.lit (R := R27) (e := 100) (size := 3) (ps := []) (w.alloc (.cells #[.string nm, .slice Az zs.length cz, .slice At ts.length ct, .string ext] 25)) (w.heap.size + 1) (inner := []) (Reps.none _ _) (by rw [World.size_alloc]; exact Nat.le_refl _) (by decide)
    rw [World.size_alloc] at h
    exact h
  case round =>
    obtain ⟨k, hk, rfl, HO, HK, HB⟩ := hrel
    have hlt1 := blk_lt HK.out
    by_cases hlt : k < zs.length
    · obtain ⟨ad, hA, x0, x1, x2⟩ := ReadsRow.at3 HRZ.out HB.out k hlt
      subst hA
      generalize hs : zs[k] = s at x0 x1 x2
      have HS := Aside0.mk hs
      clear hs
      have hl : ((zs.take k).length + 1) * 32 ≤ 140737488355328 := by rw [List.length_take]; omega
      have hb1 : w.heap.size + 1 ≤ wr.heap.size := hlt1
      go_wp2_with (at_builtin; go_must (refine OwnRow.append (R := R27) (w0 := wr) (w.heap.size + 1) rfl _ _ 96 100 (.agg #[.string ⟨#[]⟩, .int .i64 0, .bool false]) 3 32 rfl Tryd.underlying96 info100' rfl (by decide) (by decide) u3 (zs.take k) s [.string s.f0, .int .i64 s.f1, .bool s.f2] rfl (by rw [World.size_alloc]; rfl) rfl rfl (one27 s) (HO.out.below (below_alloc (Below.refl _ _) _)) ((Below.refl (w.heap.size + 1) wr).alloc hb1 _) (Nat.le_trans hb1 (by simp)) hl ?_); go_must (intro v1 w2 ho1 hb1 hg1 hat1; have HK1 := Aside0.mk (kept_grown (.cells #[.string s.f0, .int .i64 s.f1, .bool s.f2] 27) HO.out HK.out (by decide) hg1); have HO1 := Aside0.mk ho1; have HB1 := Aside0.mk (HB.out.trans (hb1.mono (Nat.le_succ _))); clear ho1 hb1 hg1 hat1))
      refine ⟨⟨k + 1, hlt, by simp, ⟨by rw [← take_next zs k hlt, HS.out]; exact HO1.out⟩, HK1, HB1⟩, ?_⟩
      show zs.length - ((k : Int) + 1).toNat < zs.length - (k : Int).toNat
      omega
    · obtain rfl : k = zs.length := by omega
      rw [List.take_length] at HO
      clear hlt hk
      have k2 : wr.cell? ⟨w.heap.size, 2, none⟩ = some (.slice At ts.length ct) := blk_cell HK.out 2
      go_wp2_with fail
      clear k2
      go_loopw [6, 32] (fun tt t wr => ∃ (k : Nat), k ≤ ts.length ∧ t = .int .i64 k ∧ Aside0 (OwnRow R27 100 3 wr (w.heap.size + 1) u3 zs) ∧ Aside0 (OwnRow R45 101 2 wr (w.heap.size + 1) tt (ts.take k)) ∧ Aside0 (wr.heap[w.heap.size]? = some (.cells #[.string nm, .slice Az zs.length cz, .slice At ts.length ct, .string ext] 25 (0, 0))) ∧ Aside0 (Below w.heap.size w wr)) (fun _ t _ => ts.length - (intOf t).toNat)
      case atStart =>
        refine ⟨0, by omega, rfl, ⟨HO.out.below (below_alloc (Below.refl _ _) _)⟩, ⟨?_⟩, ⟨blk_alloc HK.out _⟩, ⟨HB.out.alloc HB.out.size _⟩⟩
        exact OwnRow.lit (R := R45) (e := 101) (size := 2) (ps := []) wr (w.heap.size + 1) (inner := []) (Reps.none _ _) hlt1 (by decide)
      case round =>
        clear HO HK HB hlt1
        rename_i wr1 _ _
        clear wr1
        obtain ⟨k, hk, rfl, HZ, HO, HK, HB⟩ := hrel
        have hlt1 := blk_lt HK.out
        by_cases hlt : k < ts.length
        · obtain ⟨ad, hA, x0, x1⟩ := ReadsRow.at2 HRT.out HB.out k hlt
          subst hA
          generalize hs : ts[k] = s at x0 x1
          have HS := Aside0.mk hs
          clear hs
          have hl : ((ts.take k).length + 1) * 16 ≤ 140737488355328 := by rw [List.length_take]; omega
          have hb1 : w.heap.size + 1 ≤ wr.heap.size := hlt1
          go_wp2_with (at_builtin; go_must (refine OwnRow.append (R := R45) (w0 := wr) (w.heap.size + 1) rfl _ _ 97 101 (.agg #[.int .i64 0, .int .u8 0]) 2 16 rfl Tryd.underlying97 info101' rfl (by decide) (by decide) u6 (ts.take k) s [.int .i64 s.f0, .int .u8 s.f1] rfl (by rw [World.size_alloc]; rfl) rfl rfl (one45 s) (HO.out.below (below_alloc (Below.refl _ _) _)) ((Below.refl (w.heap.size + 1) wr).alloc hb1 _) (Nat.le_trans hb1 (by simp)) hl ?_); go_must (intro v1 w2 ho1 hb1 hg1 hat1; have HK1 := Aside0.mk (kept_grown (.cells #[.int .i64 s.f0, .int .u8 s.f1] 45) HO.out HK.out (by decide) hg1); have HO1 := Aside0.mk ho1; have HB1 := Aside0.mk (HB.out.trans (hb1.mono (Nat.le_succ _))); have HZ1 := Aside0.mk ((HZ.out.below (below_alloc (Below.refl _ _) (.cells #[.int .i64 s.f0, .int .u8 s.f1] 45))).other hg1 (own_ne_of HZ.out HO.out (by decide))); clear ho1 hb1 hg1 hat1))
          refine ⟨⟨k + 1, hlt, by simp, HZ1, ⟨by rw [← take_next ts k hlt, HS.out]; exact HO1.out⟩, HK1, HB1⟩, ?_⟩
          show ts.length - ((k : Int) + 1).toNat < ts.length - (k : Int).toNat
          omega
        · obtain rfl : k = ts.length := by omega
          rw [List.take_length] at HO
          clear hlt hk
          obtain ⟨A1, d1, rfl, hl1, hr1⟩ := HZ.out.reads
          obtain ⟨A2, d2, rfl, hl2, hr2⟩ := HO.out.reads
          have k0 : wr.cell? ⟨w.heap.size, 0, none⟩ = some (.string nm) := blk_cell HK.out 0
          have k3 : wr.cell? ⟨w.heap.size, 3, none⟩ = some (.string ext) := blk_cell HK.out 3
          go_wp2_with fail
          refine (newloc_calls nm zs ts ext A1 d1 A2 d2 _ hr1 hr2 lz lt).mono ?_
          rintro e w2 ⟨g, Bz, ez, Bt, et, rfl, hL, hB2⟩
          have HL := Aside0.mk hL
          have HB2 := Aside0.mk (HB.out.trans (hB2.mono HB.out.size))
          clear hL hB2
          go_wp2_with fail
          go_ret
          exact ⟨g, Bz, ez, Bt, et, rfl, HL.out, HB2.out⟩
end Go.Proofs.YtjoaeennbfmohaaDoor
