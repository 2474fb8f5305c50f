/- The walks of impl.FirstZone and impl.Lookup. Conditions: the place lies in memory. -/
import Derived.Test.YtjoaeennbfmohaaDoorLk
import Derived.Outline
import Derived.Deep.DeepMust
namespace Go.Proofs.YtjoaeennbfmohaaDoor
open Go.RowKit Go.Proofs.YtjoaeennbfmohaaDoorW.PrintWords Go.Proofs.YtjoaeennbfmohaaDoor.PFnZone
set_option linter.unusedVariables false
set_option linter.unusedSimpArgs false

theorem firstm_calls (g : Nat) (nm : ByteArray) (zs : List S27) (ts : List S45) (ext : ByteArray) (Az : Option Addr) (cz : Nat) (At : Option Addr) (ct : Nat) (w : World) (hL : LocAt w g nm zs ts ext Az cz At ct)
    (hix : ∀ t ∈ ts, 0 ≤ t.f1 ∧ t.f1 < zs.length) (ht1 : 1 ≤ ts.length) :
    Calls Tryd.prog 33 #[.pointer (some ⟨g, 0, none⟩)] w fun e w' => e = .returned (.int .i64 (firstZ zs ts : Nat)) ∧ Below w.heap.size w w' := by
  go_enter Tryd.func33, Tryd.ntmps33
  go_wp2_with fail
  refine (first_calls g nm zs ts ext Az cz At ct w hL hix ht1).mono ?_
  rintro e w1 ⟨rfl, hb⟩
  go_wp2
  go_ret
  exact ⟨rfl, hb⟩

set_option maxRecDepth 100000 in
set_option maxHeartbeats 4000000 in
theorem impl_first_calls (nm : ByteArray) (zs : List S27) (ts : List S45) (ext : ByteArray) (Az : Option Addr) (cz : Nat) (At : Option Addr) (ct : Nat) (w : World) (hz : ZRow w Az zs) (ht : TRow w At ts)
    (lz : zs.length ≤ 100000) (lt : ts.length ≤ 100000) (hix : ∀ t ∈ ts, 0 ≤ t.f1 ∧ t.f1 < zs.length) (ht1 : 1 ≤ ts.length) :
    Calls Tryd.prog 14 #[.agg #[.string nm, .slice Az zs.length cz, .slice At ts.length ct, .string ext]] w fun e w' => e = .returned (.int .i64 (firstZ zs ts : Nat)) ∧ Below w.heap.size w w' := by
  have HZ := Aside0.mk hz
  have HT := Aside0.mk ht
  clear hz ht
  go_enter Tryd.func14, Tryd.ntmps14
  go_wp2_with fail
  have hb0 : Below w.heap.size w (w.alloc (.cells #[.string nm, .slice Az zs.length cz, .slice At ts.length ct, .string ext] 25)) := below_alloc (Below.refl _ _) _
  generalize w.alloc (.cells #[.string nm, .slice Az zs.length cz, .slice At ts.length ct, .string ext] 25) = w1 at hb0 ⊢
  refine (place_calls nm zs ts ext Az cz At ct w1 (HZ.out.below hb0) (HT.out.below hb0) lz lt).mono ?_
  rintro e w2 ⟨g, Bz, ez, Bt, et, rfl, hL, hb2⟩
  have hb3 := hb0.trans (hb2.mono hb0.size)
  clear hb2 hb0
  go_wp2_with fail
  refine (firstm_calls g nm zs ts ext Bz ez Bt et w2 hL hix ht1).mono ?_
  rintro e w4 ⟨rfl, hb4⟩
  have hb5 := hb3.trans (hb4.mono hb3.size)
  clear hb3 hb4
  go_wp2
  go_ret
  exact ⟨rfl, hb5⟩

theorem lookupm_calls (zr : S27) (g : Nat) (sec : Int) (w : World) (h : Calls Tryd.prog 46 #[.pointer (some ⟨g, 0, none⟩), .int .i64 sec] w (ToldZone zr w)) :
    Calls Tryd.prog 29 #[.pointer (some ⟨g, 0, none⟩), .int .i64 sec] w (ToldZone zr w) := by
  go_enter Tryd.func29, Tryd.ntmps29
  go_wp2_with fail
  refine h.mono ?_
  rintro e w1 ⟨st, en, rfl, hb⟩
  clear h
  go_wp2
  exact bodyPost_ret (v := .tuple #[.string zr.f0, .int .i64 zr.f1, .int .i64 st, .int .i64 en, .bool zr.f2]) (by simp [results, Tryd.results29, go_sem]) rfl ⟨st, en, rfl, hb⟩

set_option maxRecDepth 100000 in
set_option maxHeartbeats 4000000 in
theorem impl_lookup_calls (nm : ByteArray) (zs : List S27) (ts : List S45) (ext : ByteArray) (Az : Option Addr) (cz : Nat) (At : Option Addr) (ct : Nat) (w : World) (hz : ZRow w Az zs) (ht : TRow w At ts)
    (lz : zs.length ≤ 100000) (lt : ts.length ≤ 100000) (sec : Int) (zr : S27)
    (h : ∀ g Az cz At ct w1, LocAt w1 g nm zs ts ext Az cz At ct → Calls Tryd.prog 46 #[.pointer (some ⟨g, 0, none⟩), .int .i64 sec] w1 (ToldZone zr w1)) :
    Calls Tryd.prog 12 #[.agg #[.string nm, .slice Az zs.length cz, .slice At ts.length ct, .string ext], .int .i64 sec] w fun e w' => ∃ st en : Int, e = .returned (.agg #[.string zr.f0, .int .i64 zr.f1, .int .i64 st, .int .i64 en, .bool zr.f2]) ∧ Below w.heap.size w w' := by
  have HZ := Aside0.mk hz
  have HT := Aside0.mk ht
  clear hz ht
  go_enter Tryd.func12, Tryd.ntmps12
  go_wp2_with fail
  have hb0 : Below w.heap.size w ((w.alloc (.cells #[.string nm, .slice Az zs.length cz, .slice At ts.length ct, .string ext] 25)).alloc (.cells #[.string ⟨#[]⟩, .int .i64 0, .int .i64 0, .int .i64 0, .bool false] 42)) := (below_alloc (Below.refl _ _) _).alloc (by simp) _
  have hk := blk_new (w.alloc (.cells #[.string nm, .slice Az zs.length cz, .slice At ts.length ct, .string ext] 25)) (.cells #[.string ⟨#[]⟩, .int .i64 0, .int .i64 0, .int .i64 0, .bool false] 42)
  rw [World.size_alloc] at hk
  have hs1 : ((w.alloc (.cells #[.string nm, .slice Az zs.length cz, .slice At ts.length ct, .string ext] 25)).alloc (.cells #[.string ⟨#[]⟩, .int .i64 0, .int .i64 0, .int .i64 0, .bool false] 42)).heap.size = w.heap.size + 2 := by simp
  generalize (w.alloc (.cells #[.string nm, .slice Az zs.length cz, .slice At ts.length ct, .string ext] 25)).alloc (.cells #[.string ⟨#[]⟩, .int .i64 0, .int .i64 0, .int .i64 0, .bool false] 42) = w1 at hb0 hk hs1 ⊢
  refine (place_calls nm zs ts ext Az cz At ct w1 (HZ.out.below hb0) (HT.out.below hb0) lz lt).mono ?_
  rintro e w2 ⟨g, Bz, ez, Bt, et, rfl, hL, hb2⟩
  have HL := Aside0.mk hL
  have HB2 := Aside0.mk (hb0.trans (hb2.mono hb0.size))
  have hk2 : w2.heap[w.heap.size + 1]? = _ := (hb2.block _ (by omega)).trans hk
  have hs2 := hb2.size
  clear hb2 hb0 hk hL
  go_wp2_with fail
  refine (lookupm_calls zr g sec w2 (h g Bz ez Bt et w2 HL.out)).mono ?_
  rintro e w4 ⟨st, en, rfl, hb4⟩
  have HB4 := Aside0.mk (HB2.out.trans (hb4.mono HB2.out.size))
  have hk4 : w4.heap[w.heap.size + 1]? = _ := (hb4.block _ (by omega)).trans hk2
  clear hb4 HB2 hk2 h
  have r0 : w4.cell? ⟨w.heap.size + 1, 0, none⟩ = _ := blk_cell hk4 0
  have r1 : w4.cell? ⟨w.heap.size + 1, 1, none⟩ = _ := blk_cell hk4 1
  have r2 : w4.cell? ⟨w.heap.size + 1, 2, none⟩ = _ := blk_cell hk4 2
  have r3 : w4.cell? ⟨w.heap.size + 1, 3, none⟩ = _ := blk_cell hk4 3
  have r4 : w4.cell? ⟨w.heap.size + 1, 4, none⟩ = _ := blk_cell hk4 4
  have g0 := blk_frozen hk4 0
  have g1 := blk_frozen hk4 1
  have g2 := blk_frozen hk4 2
  have g3 := blk_frozen hk4 3
  have g4 := blk_frozen hk4 4
  have HR := Aside0.mk hk4
  clear hk4
  simp at r0 r1 r2 r3 r4
  go_wp2
  have q1 := blk_set HR.out 0 (.string zr.f0)
  have q2 := blk_set q1 1 (.int .i64 zr.f1)
  have q3 := blk_set q2 2 (.int .i64 st)
  have q4 := blk_set q3 3 (.int .i64 en)
  have q5 := blk_set q4 4 (.bool zr.f2)
  refine bodyPost_ret (results_cell_row rfl _ _ (w.heap.size + 1) 42 #[.string zr.f0, .int .i64 zr.f1, .int .i64 st, .int .i64 en, .bool zr.f2] (0, 0) _ rfl q5 Tryd.underlying42 rfl (by kernel_rfl)) rfl ⟨st, en, rfl, ?_⟩
  have hle : w.heap.size ≤ w.heap.size + 1 := Nat.le_succ _
  exact below_cell (below_cell (below_cell (below_cell (below_cell HB4.out _ 0 _ hle) _ 1 _ hle) _ 2 _ hle) _ 3 _ hle) _ 4 _ hle
end Go.Proofs.YtjoaeennbfmohaaDoor
