/- The walk of laws.FnZone: it returns true and turns nothing that was there. Conditions: the argument's rows lie in memory, each number of its kind. -/
import Derived.Test.YtjoaeennbfmohaaDoorVb
import Derived.Test.YtjoaeennbfmohaaDoorV3
import Derived.Test.YtjoaeennbfmohaaDoorV5
import Derived.Test.YtjoaeennbfmohaaDoorLs
import Derived.Test.YtjoaeennbfmohaaDoorIm
import Derived.Test.YtjoaeennbfmohaaDoorLw
import Derived.Outline
import Derived.Deep.DeepMust
namespace Go.Proofs.YtjoaeennbfmohaaDoor
open Go.RowKit Go.Proofs.YtjoaeennbfmohaaDoorW.PrintWords Go.Proofs.YtjoaeennbfmohaaDoorW.PrintLast Go.Proofs.YtjoaeennbfmohaaDoorW.PrintMore Go.Proofs.YtjoaeennbfmohaaDoor.PFnZone
set_option linter.unusedVariables false
set_option linter.unusedSimpArgs false

/-- The boxes of the parameters. -/
structure Boxes (w : World) (g : Nat) (cp cs cd cb ce : Array Value) : Prop where
  p : w.heap[g]? = some (.cells cp 25 (0, 0))
  s : w.heap[g + 1]? = some (.cells cs 27 (0, 0))
  d : w.heap[g + 1 + 1]? = some (.cells cd 27 (0, 0))
  b : w.heap[g + 1 + 1 + 1]? = some (.cells cb 29 (0, 0))
  e : w.heap[g + 1 + 1 + 1 + 1]? = some (.cells ce 29 (0, 0))
  sz : g + 1 + 1 + 1 + 1 + 1 ≤ w.heap.size
theorem Boxes.below {w w1 : World} {g : Nat} {cp cs cd cb ce : Array Value} (h : Boxes w g cp cs cd cb ce) (hb : Below w.heap.size w w1) : Boxes w1 g cp cs cd cb ce :=
  ⟨(hb.block _ (by have := h.sz; omega)).trans h.p, (hb.block _ (by have := h.sz; omega)).trans h.s, (hb.block _ (by have := h.sz; omega)).trans h.d, (hb.block _ (by have := h.sz; omega)).trans h.b, (hb.block _ (by have := h.sz; omega)).trans h.e, Nat.le_trans h.sz hb.size⟩
theorem boxes_new (w : World) (cp cs cd cb ce : Array Value) : Boxes (((((w.alloc (.cells cp 25)).alloc (.cells cs 27)).alloc (.cells cd 27)).alloc (.cells cb 29)).alloc (.cells ce 29)) w.heap.size cp cs cd cb ce := by
  have h1 : (w.alloc (.cells cp 25)).heap.size = w.heap.size + 1 := by simp
  have h2 : ((w.alloc (.cells cp 25)).alloc (.cells cs 27)).heap.size = w.heap.size + 1 + 1 := by simp
  have h3 : (((w.alloc (.cells cp 25)).alloc (.cells cs 27)).alloc (.cells cd 27)).heap.size = w.heap.size + 1 + 1 + 1 := by simp
  have h4 : ((((w.alloc (.cells cp 25)).alloc (.cells cs 27)).alloc (.cells cd 27)).alloc (.cells cb 29)).heap.size = w.heap.size + 1 + 1 + 1 + 1 := by simp
  have b1 := blk_new (w.alloc (.cells cp 25)) (.cells cs 27)
  rw [h1] at b1
  have b2 := blk_new ((w.alloc (.cells cp 25)).alloc (.cells cs 27)) (.cells cd 27)
  rw [h2] at b2
  have b3 := blk_new (((w.alloc (.cells cp 25)).alloc (.cells cs 27)).alloc (.cells cd 27)) (.cells cb 29)
  rw [h3] at b3
  have b4 := blk_new ((((w.alloc (.cells cp 25)).alloc (.cells cs 27)).alloc (.cells cd 27)).alloc (.cells cb 29)) (.cells ce 29)
  rw [h4] at b4
  exact ⟨blk_alloc (blk_alloc (blk_alloc (blk_alloc (blk_new w _) _) _) _) _, blk_alloc (blk_alloc (blk_alloc b1 _) _) _, blk_alloc (blk_alloc b2 _) _, blk_alloc b3 _, b4, by simp⟩
theorem cells3 {w : World} {g : Nat} {t : TypeId} {a b c : Value} (h : w.heap[g]? = some (.cells #[a, b, c] t (0, 0))) : w.cell? ⟨g, 0, none⟩ = some a ∧ w.cell? ⟨g, 1, none⟩ = some b ∧ w.cell? ⟨g, 2, none⟩ = some c := ⟨blk_cell h 0, blk_cell h 1, blk_cell h 2⟩
theorem cells4 {w : World} {g : Nat} {t : TypeId} {a b c d : Value} (h : w.heap[g]? = some (.cells #[a, b, c, d] t (0, 0))) : w.cell? ⟨g, 0, none⟩ = some a ∧ w.cell? ⟨g, 1, none⟩ = some b ∧ w.cell? ⟨g, 2, none⟩ = some c ∧ w.cell? ⟨g, 3, none⟩ = some d := ⟨blk_cell h 0, blk_cell h 1, blk_cell h 2, blk_cell h 3⟩

set_option maxRecDepth 100000 in
set_option maxHeartbeats 8000000 in
theorem fnzone_calls (nm : ByteArray) (zs : List S27) (ts : List S45) (ext : ByteArray) (Az : Option Addr) (cz : Nat) (At : Option Addr) (ct : Nat) (n1 : ByteArray) (o1 : Int) (b1 : Bool) (n2 : ByteArray) (o2 : Int) (b2 : Bool) (k1 d1 e1 m1 t1 k2 d2 e2 m2 t2 : Int) (wh : Bool) (sec : Int) (w : World) (hz : ZRow w Az zs) (ht : TRow w At ts) (hcz : zs.length ≤ cz) (hct : ts.length ≤ ct)
    (hu : ∀ t ∈ ts, 0 ≤ t.f1 ∧ t.f1 ≤ 255) (hw : ∀ t ∈ ts, -9223372036854775808 ≤ t.f0 ∧ t.f0 ≤ 9223372036854775807) :
    Calls Tryd.prog 3 #[.agg #[.string nm, .slice Az zs.length cz, .slice At ts.length ct, .string ext], .agg #[.string n1, .int .i64 o1, .bool b1], .agg #[.string n2, .int .i64 o2, .bool b2], .agg #[.int .i64 k1, .int .i64 d1, .int .i64 e1, .int .i64 m1, .int .i64 t1], .agg #[.int .i64 k2, .int .i64 d2, .int .i64 e2, .int .i64 m2, .int .i64 t2], .bool wh, .int .i64 sec] w
      fun e w' => e = .returned (.bool true) ∧ Below w.heap.size w w' := by
  have HZ := Aside0.mk hz
  have HT := Aside0.mk ht
  have HU := Aside0.mk hu
  have HW := Aside0.mk hw
  have hzl := hz.2.1
  have htl := ht.2.1
  clear hz ht hu hw
  go_enter Tryd.func3, Tryd.ntmps3
  go_wp2_with fail
  have HBX := Aside0.mk (boxes_new w #[.string nm, .slice Az zs.length cz, .slice At ts.length ct, .string ext] #[.string n1, .int .i64 o1, .bool b1] #[.string n2, .int .i64 o2, .bool b2] #[.int .i64 k1, .int .i64 d1, .int .i64 e1, .int .i64 m1, .int .i64 t1] #[.int .i64 k2, .int .i64 d2, .int .i64 e2, .int .i64 m2, .int .i64 t2])
  have HB := Aside0.mk (((((below_alloc (Below.refl w.heap.size w) (.cells #[.string nm, .slice Az zs.length cz, .slice At ts.length ct, .string ext] 25)).alloc (by simp) (.cells #[.string n1, .int .i64 o1, .bool b1] 27)).alloc (by simp; try omega) (.cells #[.string n2, .int .i64 o2, .bool b2] 27)).alloc (by simp; try omega) (.cells #[.int .i64 k1, .int .i64 d1, .int .i64 e1, .int .i64 m1, .int .i64 t1] 29)).alloc (by simp; try omega) (.cells #[.int .i64 k2, .int .i64 d2, .int .i64 e2, .int .i64 m2, .int .i64 t2] 29))
  generalize ((((w.alloc (.cells #[.string nm, .slice Az zs.length cz, .slice At ts.length ct, .string ext] 25)).alloc (.cells #[.string n1, .int .i64 o1, .bool b1] 27)).alloc (.cells #[.string n2, .int .i64 o2, .bool b2] 27)).alloc (.cells #[.int .i64 k1, .int .i64 d1, .int .i64 e1, .int .i64 m1, .int .i64 t1] 29)).alloc (.cells #[.int .i64 k2, .int .i64 d2, .int .i64 e2, .int .i64 m2, .int .i64 t2] 29) = w0 at HBX HB ⊢
  -- sizes
  obtain ⟨f1, hf1, hf1t⟩ := fits1 nm zs ts ext
  obtain ⟨q1, hq1⟩ := hf1.get
  refine (laws_zzFits1.calls q1 nm Az cz zs At ct ts ext f1 w0 (c27_of (HZ.out.below HB.out)) hcz (c45_of (HT.out.below HB.out)) hct hq1).mono ?_
  rintro e w1 ⟨rfl, hb⟩
  have HBX1 := Aside0.mk (HBX.out.below hb)
  have HB1 := Aside0.mk (HB.out.trans (hb.mono HB.out.size))
  clear hb HBX HB w0 hf1 hq1
  cases f1 with
  | false =>
    go_wp2
    go_ret
    exact ⟨rfl, HB1.out⟩
  | true =>
  obtain ⟨hnl, hzl2, htl2, hzn⟩ := hf1t rfl
  have HZN := Aside0.mk hzn
  clear hf1t hzn
  obtain ⟨f2, hf2, hf2t⟩ := fits3 n1 o1 b1
  obtain ⟨x0, x1, x2⟩ := cells3 HBX1.out.s
  go_wp2_with fail
  refine (laws_zzFits3.calls n1 o1 b1 f2 _ hf2).mono ?_
  rintro e w2 ⟨rfl, hb⟩
  have HBX2 := Aside0.mk (HBX1.out.below hb)
  have HB2 := Aside0.mk (HB1.out.trans (hb.mono HB1.out.size))
  clear hb HBX1 HB1 w1 hf2 x0 x1 x2
  cases f2 with
  | false =>
    go_wp2
    go_ret
    exact ⟨rfl, HB2.out⟩
  | true =>
  have hn1 := hf2t rfl
  clear hf2t
  obtain ⟨f3, hf3, hf3t⟩ := fits3 n2 o2 b2
  obtain ⟨x0, x1, x2⟩ := cells3 HBX2.out.d
  go_wp2_with fail
  refine (laws_zzFits3.calls n2 o2 b2 f3 _ hf3).mono ?_
  rintro e w3 ⟨rfl, hb⟩
  have HBX3 := Aside0.mk (HBX2.out.below hb)
  have HB3 := Aside0.mk (HB2.out.trans (hb.mono HB2.out.size))
  clear hb HBX2 HB2 w2 hf3 x0 x1 x2
  cases f3 with
  | false =>
    go_wp2
    go_ret
    exact ⟨rfl, HB3.out⟩
  | true =>
  have hn2 := hf3t rfl
  clear hf3t
  -- the season
  obtain ⟨x0, x1, x2⟩ := cells3 HBX3.out.s
  obtain ⟨y0, y1, y2⟩ := cells3 HBX3.out.d
  obtain ⟨⟨u0, u1, u2, u3, u4⟩, -⟩ := five_cells HBX3.out.b
  obtain ⟨⟨v0, v1, v2, v3, v4⟩, -⟩ := five_cells HBX3.out.e
  obtain ⟨p0, p1, p2, p3⟩ := cells4 HBX3.out.p
  obtain ⟨f4, hf4, hf4t⟩ := seasonok n1 o1 b1 n2 o2 b2 k1 d1 e1 m1 t1 k2 d2 e2 m2 t2 hn1 hn2
  obtain ⟨q4, hq4⟩ := hf4.get
  have hlt3 : w.heap.size < w3.heap.size := by have := HBX3.out.sz; omega
  have hne3 : w.heap.size ≠ w3.heap.size := Nat.ne_of_lt hlt3
  go_wp2_with fail
  have HP := Aside0.mk (blk_alloc HBX3.out.p (.cells #[.string n1, .int .i64 o1, .bool b1, .string n2, .int .i64 o2, .bool b2, .int .i64 k1, .int .i64 d1, .int .i64 e1, .int .i64 m1, .int .i64 t1, .int .i64 k2, .int .i64 d2, .int .i64 e2, .int .i64 m2, .int .i64 t2] 33))
  have HSE := Aside0.mk (blk_new w3 (.cells #[.string n1, .int .i64 o1, .bool b1, .string n2, .int .i64 o2, .bool b2, .int .i64 k1, .int .i64 d1, .int .i64 e1, .int .i64 m1, .int .i64 t1, .int .i64 k2, .int .i64 d2, .int .i64 e2, .int .i64 m2, .int .i64 t2] 33))
  have HB := Aside0.mk (HB3.out.alloc HB3.out.size (.cells #[.string n1, .int .i64 o1, .bool b1, .string n2, .int .i64 o2, .bool b2, .int .i64 k1, .int .i64 d1, .int .i64 e1, .int .i64 m1, .int .i64 t1, .int .i64 k2, .int .i64 d2, .int .i64 e2, .int .i64 m2, .int .i64 t2] 33))
  obtain ⟨gs, hgs⟩ : ∃ gs, w3.heap.size = gs := ⟨_, rfl⟩
  have hgs2 : w.heap.size < gs := by omega
  have hs4 : gs < (w3.alloc (.cells #[.string n1, .int .i64 o1, .bool b1, .string n2, .int .i64 o2, .bool b2, .int .i64 k1, .int .i64 d1, .int .i64 e1, .int .i64 m1, .int .i64 t1, .int .i64 k2, .int .i64 d2, .int .i64 e2, .int .i64 m2, .int .i64 t2] 33)).heap.size := by rw [← hgs]; simp
  rw [hgs] at HSE ⊢
  generalize w3.alloc (.cells #[.string n1, .int .i64 o1, .bool b1, .string n2, .int .i64 o2, .bool b2, .int .i64 k1, .int .i64 d1, .int .i64 e1, .int .i64 m1, .int .i64 t1, .int .i64 k2, .int .i64 d2, .int .i64 e2, .int .i64 m2, .int .i64 t2] 33) = w4 at HP HSE HB hs4 ⊢
  clear HBX3 HB3 x0 x1 x2 y0 y1 y2 u0 u1 u2 u3 u4 v0 v1 v2 v3 v4 p0 p1 p2 p3 hf4 hlt3 hne3 hgs w3
  refine (spec_SeasonOk.calls q4 n1 o1 b1 n2 o2 b2 k1 d1 e1 m1 t1 k2 d2 e2 m2 t2 f4 _ hq4).mono ?_
  rintro e w5 ⟨rfl, hb⟩
  have HP5 := Aside0.mk ((hb.block _ (by omega)).trans HP.out)
  have HSE5 := Aside0.mk ((hb.block _ hs4).trans HSE.out)
  have HB5 := Aside0.mk (HB.out.trans (hb.mono HB.out.size))
  have hs5 : gs < w5.heap.size := Nat.lt_of_lt_of_le hs4 hb.size
  clear hb HP HSE HB hs4 w4 hq4
  have HP := HP5
  have HSE := HSE5
  have HB := HB5
  clear HP5 HSE5 HB5
  cases f4 with
  | false =>
    go_wp2_with fail
    refine (loads_calls _).mono ?_
    rintro e wl ⟨rfl, hbl⟩
    go_wp2
    go_ret
    exact ⟨rfl, HB.out.trans (hbl.mono HB.out.size)⟩
  | true =>
  have hg := hf4t rfl
  clear hf4t
  by_cases hn0 : ts.length = 0
  · have hnn : ((ts.length : Int) == 0) = true := beq_iff_eq.mpr (by omega)
    go_wp2_with fail
    refine (loads_calls _).mono ?_
    rintro e wl ⟨rfl, hbl⟩
    go_wp2
    go_ret
    exact ⟨rfl, HB.out.trans (hbl.mono HB.out.size)⟩
  have hnn : ((ts.length : Int) == 0) = false := beq_eq_false_iff_ne.mpr (by omega)
  by_cases hs0 : sec < 0
  · have hd0 : decide (sec < 0) = true := by simpa using hs0
    go_wp2_with fail
    refine (loads_calls _).mono ?_
    rintro e wl ⟨rfl, hbl⟩
    go_wp2
    go_ret
    exact ⟨rfl, HB.out.trans (hbl.mono HB.out.size)⟩
  have hd0 : decide (sec < 0) = false := by simpa using hs0
  by_cases hs1 : 253402300799 < sec
  · have hd1 : decide (253402300799 < sec) = true := by simpa using hs1
    go_wp2_with fail
    refine (loads_calls _).mono ?_
    rintro e wl ⟨rfl, hbl⟩
    go_wp2
    go_ret
    exact ⟨rfl, HB.out.trans (hbl.mono HB.out.size)⟩
  have hd1 : decide (253402300799 < sec) = false := by simpa using hs1
  obtain ⟨ext2, zr, htx, hx0, hx1, hx2, hat, htz⟩ := season_at n1 o1 b1 n2 o2 b2 k1 d1 e1 m1 t1 k2 d2 e2 m2 t2 wh hg sec (by omega) (by omega)
  have HTZ := Aside0.mk htz
  obtain ⟨q5, hq5⟩ := htx.get
  obtain ⟨q6, hq6⟩ := hat.get
  clear htx hat htz hg
  have HAT := Aside0.mk hq6
  clear hq6
  have a0 : w5.cell? ⟨gs, 0, none⟩ = some (.string n1) := blk_cell HSE.out 0
  have a1 : w5.cell? ⟨gs, 1, none⟩ = some (.int .i64 o1) := blk_cell HSE.out 1
  have a2 : w5.cell? ⟨gs, 2, none⟩ = some (.bool b1) := blk_cell HSE.out 2
  have a3 : w5.cell? ⟨gs, 3, none⟩ = some (.string n2) := blk_cell HSE.out 3
  have a4 : w5.cell? ⟨gs, 4, none⟩ = some (.int .i64 o2) := blk_cell HSE.out 4
  have a5 : w5.cell? ⟨gs, 5, none⟩ = some (.bool b2) := blk_cell HSE.out 5
  have a6 : w5.cell? ⟨gs, 6, none⟩ = some (.int .i64 k1) := blk_cell HSE.out 6
  have a7 : w5.cell? ⟨gs, 7, none⟩ = some (.int .i64 d1) := blk_cell HSE.out 7
  have a8 : w5.cell? ⟨gs, 8, none⟩ = some (.int .i64 e1) := blk_cell HSE.out 8
  have a9 : w5.cell? ⟨gs, 9, none⟩ = some (.int .i64 m1) := blk_cell HSE.out 9
  have a10 : w5.cell? ⟨gs, 10, none⟩ = some (.int .i64 t1) := blk_cell HSE.out 10
  have a11 : w5.cell? ⟨gs, 11, none⟩ = some (.int .i64 k2) := blk_cell HSE.out 11
  have a12 : w5.cell? ⟨gs, 12, none⟩ = some (.int .i64 d2) := blk_cell HSE.out 12
  have a13 : w5.cell? ⟨gs, 13, none⟩ = some (.int .i64 e2) := blk_cell HSE.out 13
  have a14 : w5.cell? ⟨gs, 14, none⟩ = some (.int .i64 m2) := blk_cell HSE.out 14
  have a15 : w5.cell? ⟨gs, 15, none⟩ = some (.int .i64 t2) := blk_cell HSE.out 15
  go_wp2_with fail
  clear a0 a1 a2 a3 a4 a5 a6 a7 a8 a9 a10 a11 a12 a13 a14 a15
  refine (spec_Text.calls q5 n1 o1 b1 n2 o2 b2 k1 d1 e1 m1 t1 k2 d2 e2 m2 t2 wh ext2 _ hq5).mono ?_
  rintro e w6 ⟨rfl, hb⟩
  have HP6 := Aside0.mk ((hb.block _ (by omega)).trans HP.out)
  have HSE6 := Aside0.mk ((hb.block _ hs5).trans HSE.out)
  have HB6 := Aside0.mk (HB.out.trans (hb.mono HB.out.size))
  have hs6 : gs < w6.heap.size := Nat.lt_of_lt_of_le hs5 hb.size
  clear hb HP HSE HB hs5 w5 hq5
  obtain ⟨p0, p1, p2, p3⟩ := cells4 HP6.out
  have g3 := blk_frozen HP6.out 3
  go_wp2_with fail
  have HP := Aside0.mk (blk_set HP6.out 3 (.string ext2))
  have HSE := Aside0.mk ((Below.heap_setCell w6 ⟨w.heap.size, 3, none⟩ (.string ext2) gs (by simp; omega)).trans HSE6.out)
  have HB := Aside0.mk (below_cell HB6.out w.heap.size 3 (.string ext2) (Nat.le_refl _))
  have hs7 : gs < (w6.setCell ⟨w.heap.size, 3, none⟩ (.string ext2)).heap.size := by simpa using hs6
  generalize w6.setCell ⟨w.heap.size, 3, none⟩ (.string ext2) = w7 at HP HSE HB hs7 ⊢
  clear HP6 HSE6 HB6 hs6 p0 p1 p2 p3 g3 w6
  obtain ⟨f5, hf5, hf5t⟩ := fileok zs ts hzl2 htl2 HU.out nm ext2 (by omega) HZN.out
  obtain ⟨q7, hq7⟩ := hf5.get
  refine (spec_FileOk.calls q7 nm Az cz zs At ct ts ext2 false f5 _ (c27_of (HZ.out.below HB.out)) hcz (c45_of (HT.out.below HB.out)) hct hq7).mono ?_
  rintro e w8 ⟨rfl, hb⟩
  have HP' := Aside0.mk ((hb.block _ (by omega)).trans HP.out)
  have HSE' := Aside0.mk ((hb.block _ (by omega)).trans HSE.out)
  have HB' := Aside0.mk (HB.out.trans (hb.mono HB.out.size))
  have hs' : gs < w8.heap.size := Nat.lt_of_lt_of_le hs7 hb.size
  clear hb HP HSE HB hs7
  have HP := HP'
  have HSE := HSE'
  have HB := HB'
  have hs7 := hs'
  clear HP' HSE' HB' hs'
  clear hf5 hq7
  cases f5 with
  | false =>
    go_wp2_with fail
    refine (loads_calls _).mono ?_
    rintro e wl ⟨rfl, hbl⟩
    go_wp2
    go_ret
    exact ⟨rfl, HB.out.trans (hbl.mono HB.out.size)⟩
  | true =>
  have hfg := hf5t rfl
  clear hf5t
  have hpl := hfg.place
  have hz2 := hpl.z2
  have hz1 := hpl.z1
  have ht2 := hpl.t2
  have HTR := Aside0.mk hpl.trans
  obtain ⟨data, hdt, hds, hld⟩ := load_good zs ts hfg HU.out HW.out (by omega) nm ext2 (by omega) hx0
  obtain ⟨q8, hq8⟩ := hdt.get
  have HLD := Aside0.mk hld
  clear hld hdt hpl hfg
  go_wp2_with fail
  refine start_ (n := 11) (S := fun w' => w'.cell? ⟨w.heap.size, 0, none⟩ = some (.string nm) ∧ w'.cell? ⟨w.heap.size, 1, none⟩ = some (.slice Az zs.length cz) ∧ w'.cell? ⟨w.heap.size, 2, none⟩ = some (.slice At ts.length ct) ∧ w'.cell? ⟨w.heap.size, 3, none⟩ = some (.string ext2)) (ds := []) #[false, false, false, false, false, false, false, false, false, false, false] (by kernel_rfl) rfl rfl ?_ (fun hHeld => ?_)
  · exact ⟨blk_cell (blk_drew HP.out) 0, blk_cell (blk_drew HP.out) 1, blk_cell (blk_drew HP.out) 2, blk_cell (blk_drew HP.out) 3⟩
  have hb : Below w8.heap.size w8 w8.drew := pw_below_drewN (Below.refl _ _) 1
  generalize w8.drew = w7 at hb hHeld ⊢
  have HP' := Aside0.mk ((hb.block _ (by omega)).trans HP.out)
  have HSE' := Aside0.mk ((hb.block _ (by omega)).trans HSE.out)
  have HB' := Aside0.mk (HB.out.trans (hb.mono HB.out.size))
  have hs' : gs < w7.heap.size := Nat.lt_of_lt_of_le hs7 hb.size
  clear hb HP HSE HB hs7
  have HP := HP'
  have HSE := HSE'
  have HB := HB'
  have hs7 := hs'
  clear HP' HSE' HB' hs'
  clear w8
  refine pure_ (i := 0) (N := some 69) (v := ?_) (a' := ?_) #[true, false, false, false, false, false, false, false, false, false, false] rfl rfl (by kernel_rfl) (fun _ _ _ h => h) (Or.inl ⟨by rfl, ?_⟩) ?_ ?_
  rotate_left
  · intro w'
    go_simp
    with_reducible rfl
  rotate_left
  · simp only [Act.put, List.setIfInBounds_toArray, List.set_cons_zero, List.set_cons_succ, i64_w, i32_w]
    rfl
  refine take_ (i := 1) (N := some 70) (v := ?_) (a' := ?_) #[true, true, false, false, false, false, false, false, false, false, false] rfl rfl (by kernel_rfl) (fun _ _ _ h => h) (Or.inl ⟨by rfl, ?_⟩) hHeld ?_ ?_
  rotate_left
  · rintro w' ⟨s0, s1, s2, s3⟩
    go_simp
    with_reducible rfl
  rotate_left
  · simp only [Act.put, List.setIfInBounds_toArray, List.set_cons_zero, List.set_cons_succ, i64_w, i32_w]
    rfl
  refine take_ (i := 2) (N := some 71) (v := ?_) (a' := ?_) #[true, true, true, false, false, false, false, false, false, false, false] rfl rfl (by kernel_rfl) (fun _ _ _ h => h) (Or.inl ⟨by rfl, ?_⟩) hHeld ?_ ?_
  rotate_left
  · rintro w' ⟨s0, s1, s2, s3⟩
    go_simp
    with_reducible rfl
  rotate_left
  · simp only [Act.put, List.setIfInBounds_toArray, List.set_cons_zero, List.set_cons_succ, i64_w, i32_w]
    rfl
  refine join_ (σ := Nat × Value × Value) 2 #[true, true, true, true, true, true, true, true, true, false, false] (fun s_ => [(72, .string data), (73, .tuple #[.agg #[.string nm, s_.2.1, s_.2.2, .string ext2], .bool true]), (68, .tuple #[.agg #[.string nm, s_.2.1, s_.2.2, .string ext2], .bool true]), (74, .agg #[.string nm, s_.2.1, s_.2.2, .string ext2]), (75, .bool true), (17, .pointer (some ⟨s_.1, 0, none⟩))]) (fun s_ w' => (gs < s_.1 ∧ s_.1 < w'.heap.size) ∧ Aside0 (w'.heap[s_.1]? = some (.cells #[.string ⟨#[]⟩, .slice none 0 0, .slice none 0 0, .string ⟨#[]⟩] 25 (0, 0))) ∧ Aside0 (OwnRow R27 27 3 w' w.heap.size s_.2.1 zs) ∧ Aside0 (OwnRow R45 45 2 w' w.heap.size s_.2.2 ts) ∧ Aside0 (w'.heap[w.heap.size]? = some (.cells #[.string nm, .slice Az zs.length cz, .slice At ts.length ct, .string ext2] 25 (0, 0))) ∧ Aside0 (w'.heap[gs]? = some (.cells #[.string n1, .int .i64 o1, .bool b1, .string n2, .int .i64 o2, .bool b2, .int .i64 k1, .int .i64 d1, .int .i64 e1, .int .i64 m1, .int .i64 t1, .int .i64 k2, .int .i64 d2, .int .i64 e2, .int .i64 m2, .int .i64 t2] 33 (0, 0))) ∧ Aside0 (Below w.heap.size w w')) ?_ ?_
  rotate_left
  · intro hCont
    refine two_ (i := 3) (j := 8) (Ni := some 72) (Nj := some 17) #[true, true, true, true, false, false, false, false, false, false, false] #[true, true, true, false, false, false, false, false, true, false, false] rfl rfl rfl rfl (by kernel_rfl) (by decide) (by decide) (fun K hK => ?_) (fun K hK => ?_)
    · skip
      refine goes_ Tryd.func11 (by kernel_rfl) rfl #[.agg #[.string nm, .slice Az zs.length cz, .slice At ts.length ct, .string ext2]] (by rfl) rfl rfl (by simp only [List.map_toArray, List.map_cons, List.map_nil]; rfl) ?_
      refine (spec_File2.calls q8 nm Az cz zs At ct ts ext2 data _ (c27_of (HZ.out.below HB.out)) hcz (c45_of (HT.out.below HB.out)) hct hq8).mono ?_
      rintro e w8 ⟨rfl, hb⟩
      refine ⟨_, rfl, ?_⟩
      have HP' := Aside0.mk ((hb.block _ (by omega)).trans HP.out)
      have HSE' := Aside0.mk ((hb.block _ (by omega)).trans HSE.out)
      have HB' := Aside0.mk (HB.out.trans (hb.mono HB.out.size))
      have hs' : gs < w8.heap.size := Nat.lt_of_lt_of_le hs7 hb.size
      clear hb HP HSE HB hs7
      have HP := HP'
      have HSE := HSE'
      have HB := HB'
      have hs7 := hs'
      clear HP' HSE' HB' hs'
      refine hK.out _ _ ⟨blk_cell HP.out 0, blk_cell HP.out 1, blk_cell HP.out 2, blk_cell HP.out 3⟩ (fun hHeld => ?_)
      clear hK K
      refine norm_ (a' := ?_) ?_ ?_
      rotate_left
      · show Act.put _ _ _ = _
        simp only [Act.put, List.setIfInBounds_toArray, List.set_cons_zero, List.set_cons_succ, i64_w, i32_w]
        rfl
      refine two_ (i := 4) (j := 8) (Ni := some 73) (Nj := some 17) #[true, true, true, true, true, false, false, false, false, false, false] #[true, true, true, true, false, false, false, false, true, false, false] rfl rfl rfl rfl (by kernel_rfl) (by decide) (by decide) (fun K hK => ?_) (fun K hK => ?_)
      · skip
        refine goes_ Tryd.func10 (by kernel_rfl) rfl #[.string nm, .string data] (by rfl) rfl rfl (by simp only [List.map_toArray, List.map_cons, List.map_nil]; rfl) ?_
        refine (impl_load_calls nm data _ zs ts ext2 (by omega) (by omega) (by omega) HLD.out).mono ?_
        rintro e w9 ⟨vz, vt, rfl, hoz, hot, hb⟩
        refine ⟨_, rfl, ?_⟩
        have HOZ := Aside0.mk (hoz.lower HB.out.size)
        have HOT := Aside0.mk (hot.lower HB.out.size)
        clear hoz hot
        have HP' := Aside0.mk ((hb.block _ (by omega)).trans HP.out)
        have HSE' := Aside0.mk ((hb.block _ (by omega)).trans HSE.out)
        have HB' := Aside0.mk (HB.out.trans (hb.mono HB.out.size))
        have hs' : gs < w9.heap.size := Nat.lt_of_lt_of_le hs7 hb.size
        clear hb HP HSE HB hs7
        have HP := HP'
        have HSE := HSE'
        have HB := HB'
        have hs7 := hs'
        clear HP' HSE' HB' hs'
        refine hK.out _ _ ⟨blk_cell HP.out 0, blk_cell HP.out 1, blk_cell HP.out 2, blk_cell HP.out 3⟩ (fun hHeld => ?_)
        clear hK K
        refine norm_ (a' := ?_) ?_ ?_
        rotate_left
        · show Act.put _ _ _ = _
          simp only [Act.put, List.setIfInBounds_toArray, List.set_cons_zero, List.set_cons_succ, i64_w, i32_w]
          rfl
        refine pure_ (i := 5) (N := some 68) (v := ?_) (a' := ?_) #[true, true, true, true, true, true, false, false, false, false, false] rfl rfl (by kernel_rfl) (fun _ _ _ h => h) (Or.inl ⟨by rfl, ?_⟩) ?_ ?_
        rotate_left
        · intro w'
          go_simp
          with_reducible rfl
        rotate_left
        · simp only [Act.put, List.setIfInBounds_toArray, List.set_cons_zero, List.set_cons_succ, i64_w, i32_w]
          rfl
        refine pure_ (i := 6) (N := some 74) (v := ?_) (a' := ?_) #[true, true, true, true, true, true, true, false, false, false, false] rfl rfl (by kernel_rfl) (fun _ _ _ h => h) (Or.inl ⟨by rfl, ?_⟩) ?_ ?_
        rotate_left
        · intro w'
          go_simp
          with_reducible rfl
        rotate_left
        · simp only [Act.put, List.setIfInBounds_toArray, List.set_cons_zero, List.set_cons_succ, i64_w, i32_w]
          rfl
        refine pure_ (i := 7) (N := some 75) (v := ?_) (a' := ?_) #[true, true, true, true, true, true, true, true, false, false, false] rfl rfl (by kernel_rfl) (fun _ _ _ h => h) (Or.inl ⟨by rfl, ?_⟩) ?_ ?_
        rotate_left
        · intro w'
          go_simp
          with_reducible rfl
        rotate_left
        · simp only [Act.put, List.setIfInBounds_toArray, List.set_cons_zero, List.set_cons_succ, i64_w, i32_w]
          rfl
        refine one_ (i := 8) (N := some 17) #[true, true, true, true, true, true, true, true, true, false, false] rfl rfl (by kernel_rfl) (by decide) (fun K hK => ?_)
        refine value_ (w1 := ?_) (v := ?_) (by rfl) rfl ?_ ?_
        rotate_left 2
        · go_simp
          constructor
          · rfl
          · rfl
        refine hK.out _ _ ⟨blk_cell (blk_alloc HP.out _) 0, blk_cell (blk_alloc HP.out _) 1, blk_cell (blk_alloc HP.out _) 2, blk_cell (blk_alloc HP.out _) 3⟩ (fun hHeld => ?_)
        clear hK K
        have hbl : Below w9.heap.size w9 (w9.alloc (.cells #[.string ⟨#[]⟩, .slice none 0 0, .slice none 0 0, .string ⟨#[]⟩] 25)) := below_alloc (Below.refl _ _) _
        have HOZ' := Aside0.mk (HOZ.out.below hbl)
        have HOT' := Aside0.mk (HOT.out.below hbl)
        clear HOZ HOT hbl
        have HOZ := HOZ'
        have HOT := HOT'
        clear HOZ' HOT'
        have HG := Aside0.mk (blk_new w9 (.cells #[.string ⟨#[]⟩, .slice none 0 0, .slice none 0 0, .string ⟨#[]⟩] 25))
        have HP' := Aside0.mk (blk_alloc HP.out (.cells #[.string ⟨#[]⟩, .slice none 0 0, .slice none 0 0, .string ⟨#[]⟩] 25))
        have HSE' := Aside0.mk (blk_alloc HSE.out (.cells #[.string ⟨#[]⟩, .slice none 0 0, .slice none 0 0, .string ⟨#[]⟩] 25))
        have HB' := Aside0.mk (HB.out.alloc HB.out.size (.cells #[.string ⟨#[]⟩, .slice none 0 0, .slice none 0 0, .string ⟨#[]⟩] 25))
        have hs' : gs < (w9.alloc (.cells #[.string ⟨#[]⟩, .slice none 0 0, .slice none 0 0, .string ⟨#[]⟩] 25)).heap.size := by simp; omega
        have hgl : w9.heap.size < (w9.alloc (.cells #[.string ⟨#[]⟩, .slice none 0 0, .slice none 0 0, .string ⟨#[]⟩] 25)).heap.size := by simp
        obtain ⟨gl, hgle⟩ : ∃ g, w9.heap.size = g := ⟨_, rfl⟩
        have hgg : gs < gl := by omega
        rw [hgle] at HG hgl ⊢
        clear HP HSE HB hs7
        have HP := HP'
        have HSE := HSE'
        have HB := HB'
        have hs7 := hs'
        clear HP' HSE' HB' hs'
        generalize w9.alloc (.cells #[.string ⟨#[]⟩, .slice none 0 0, .slice none 0 0, .string ⟨#[]⟩] 25) = wa at HOZ HOT HG HP HSE HB hs7 hgl ⊢
        clear hgle
        exact norm_ (by simp only [putAll, Act.put, List.setIfInBounds_toArray, List.set_cons_zero, List.set_cons_succ]) (hCont (gl, vz, vt) _ ⟨⟨hgg, hgl⟩, HG, HOZ, HOT, HP, HSE, HB⟩)
      · skip
        refine value_ (w1 := ?_) (v := ?_) (by rfl) rfl ?_ ?_
        rotate_left 2
        · go_simp
          constructor
          · rfl
          · rfl
        refine hK.out _ _ ⟨blk_cell (blk_alloc HP.out _) 0, blk_cell (blk_alloc HP.out _) 1, blk_cell (blk_alloc HP.out _) 2, blk_cell (blk_alloc HP.out _) 3⟩ (fun hHeld => ?_)
        clear hK K
        refine norm_ (a' := ?_) ?_ ?_
        rotate_left
        · show Act.put _ _ _ = _
          simp only [Act.put, List.setIfInBounds_toArray, List.set_cons_zero, List.set_cons_succ, i64_w, i32_w]
          rfl
        have HG := Aside0.mk (blk_new w8 (.cells #[.string ⟨#[]⟩, .slice none 0 0, .slice none 0 0, .string ⟨#[]⟩] 25))
        have HP' := Aside0.mk (blk_alloc HP.out (.cells #[.string ⟨#[]⟩, .slice none 0 0, .slice none 0 0, .string ⟨#[]⟩] 25))
        have HSE' := Aside0.mk (blk_alloc HSE.out (.cells #[.string ⟨#[]⟩, .slice none 0 0, .slice none 0 0, .string ⟨#[]⟩] 25))
        have HB' := Aside0.mk (HB.out.alloc HB.out.size (.cells #[.string ⟨#[]⟩, .slice none 0 0, .slice none 0 0, .string ⟨#[]⟩] 25))
        have hs' : gs < (w8.alloc (.cells #[.string ⟨#[]⟩, .slice none 0 0, .slice none 0 0, .string ⟨#[]⟩] 25)).heap.size := by simp; omega
        have hgl : w8.heap.size < (w8.alloc (.cells #[.string ⟨#[]⟩, .slice none 0 0, .slice none 0 0, .string ⟨#[]⟩] 25)).heap.size := by simp
        obtain ⟨gl, hgle⟩ : ∃ g, w8.heap.size = g := ⟨_, rfl⟩
        have hgg : gs < gl := by omega
        rw [hgle] at HG hgl ⊢
        clear HP HSE HB hs7
        have HP := HP'
        have HSE := HSE'
        have HB := HB'
        have hs7 := hs'
        clear HP' HSE' HB' hs'
        generalize w8.alloc (.cells #[.string ⟨#[]⟩, .slice none 0 0, .slice none 0 0, .string ⟨#[]⟩] 25) = wa at hHeld HG HP HSE HB hs7 hgl ⊢
        clear hgle
        refine one_ (i := 4) (N := some 73) #[true, true, true, true, true, false, false, false, true, false, false] rfl rfl (by kernel_rfl) (by decide) (fun K hK => ?_)
        refine goes_ Tryd.func10 (by kernel_rfl) rfl #[.string nm, .string data] (by rfl) rfl rfl (by simp only [List.map_toArray, List.map_cons, List.map_nil]; rfl) ?_
        refine (impl_load_calls nm data _ zs ts ext2 (by omega) (by omega) (by omega) HLD.out).mono ?_
        rintro e w9 ⟨vz, vt, rfl, hoz, hot, hb⟩
        refine ⟨_, rfl, ?_⟩
        have HOZ := Aside0.mk (hoz.lower HB.out.size)
        have HOT := Aside0.mk (hot.lower HB.out.size)
        clear hoz hot
        have HP' := Aside0.mk ((hb.block _ (by omega)).trans HP.out)
        have HSE' := Aside0.mk ((hb.block _ (by omega)).trans HSE.out)
        have HB' := Aside0.mk (HB.out.trans (hb.mono HB.out.size))
        have hs' : gs < w9.heap.size := Nat.lt_of_lt_of_le hs7 hb.size
        have HG' := Aside0.mk ((hb.block _ hgl).trans HG.out)
        have hgl' : gl < w9.heap.size := Nat.lt_of_lt_of_le hgl hb.size
        clear HG hgl
        have HG := HG'
        have hgl := hgl'
        clear HG' hgl'
        clear hb HP HSE HB hs7
        have HP := HP'
        have HSE := HSE'
        have HB := HB'
        have hs7 := hs'
        clear HP' HSE' HB' hs'
        refine hK.out _ _ ⟨blk_cell HP.out 0, blk_cell HP.out 1, blk_cell HP.out 2, blk_cell HP.out 3⟩ (fun hHeld => ?_)
        clear hK K
        refine norm_ (a' := ?_) ?_ ?_
        rotate_left
        · show Act.put _ _ _ = _
          simp only [Act.put, List.setIfInBounds_toArray, List.set_cons_zero, List.set_cons_succ, i64_w, i32_w]
          rfl
        refine pure_ (i := 5) (N := some 68) (v := ?_) (a' := ?_) #[true, true, true, true, true, true, false, false, true, false, false] rfl rfl (by kernel_rfl) (fun _ _ _ h => h) (Or.inl ⟨by rfl, ?_⟩) ?_ ?_
        rotate_left
        · intro w'
          go_simp
          with_reducible rfl
        rotate_left
        · simp only [Act.put, List.setIfInBounds_toArray, List.set_cons_zero, List.set_cons_succ, i64_w, i32_w]
          rfl
        refine pure_ (i := 6) (N := some 74) (v := ?_) (a' := ?_) #[true, true, true, true, true, true, true, false, true, false, false] rfl rfl (by kernel_rfl) (fun _ _ _ h => h) (Or.inl ⟨by rfl, ?_⟩) ?_ ?_
        rotate_left
        · intro w'
          go_simp
          with_reducible rfl
        rotate_left
        · simp only [Act.put, List.setIfInBounds_toArray, List.set_cons_zero, List.set_cons_succ, i64_w, i32_w]
          rfl
        refine pure_ (i := 7) (N := some 75) (v := ?_) (a' := ?_) #[true, true, true, true, true, true, true, true, true, false, false] rfl rfl (by kernel_rfl) (fun _ _ _ h => h) (Or.inl ⟨by rfl, ?_⟩) ?_ ?_
        rotate_left
        · intro w'
          go_simp
          with_reducible rfl
        rotate_left
        · simp only [Act.put, List.setIfInBounds_toArray, List.set_cons_zero, List.set_cons_succ, i64_w, i32_w]
          rfl
        exact norm_ (by simp only [putAll, Act.put, List.setIfInBounds_toArray, List.set_cons_zero, List.set_cons_succ]) (hCont (gl, vz, vt) _ ⟨⟨hgg, hgl⟩, HG, HOZ, HOT, HP, HSE, HB⟩)
    · skip
      refine value_ (w1 := ?_) (v := ?_) (by rfl) rfl ?_ ?_
      rotate_left 2
      · go_simp
        constructor
        · rfl
        · rfl
      refine hK.out _ _ ⟨blk_cell (blk_alloc HP.out _) 0, blk_cell (blk_alloc HP.out _) 1, blk_cell (blk_alloc HP.out _) 2, blk_cell (blk_alloc HP.out _) 3⟩ (fun hHeld => ?_)
      clear hK K
      refine norm_ (a' := ?_) ?_ ?_
      rotate_left
      · show Act.put _ _ _ = _
        simp only [Act.put, List.setIfInBounds_toArray, List.set_cons_zero, List.set_cons_succ, i64_w, i32_w]
        rfl
      have HG := Aside0.mk (blk_new w7 (.cells #[.string ⟨#[]⟩, .slice none 0 0, .slice none 0 0, .string ⟨#[]⟩] 25))
      have HP' := Aside0.mk (blk_alloc HP.out (.cells #[.string ⟨#[]⟩, .slice none 0 0, .slice none 0 0, .string ⟨#[]⟩] 25))
      have HSE' := Aside0.mk (blk_alloc HSE.out (.cells #[.string ⟨#[]⟩, .slice none 0 0, .slice none 0 0, .string ⟨#[]⟩] 25))
      have HB' := Aside0.mk (HB.out.alloc HB.out.size (.cells #[.string ⟨#[]⟩, .slice none 0 0, .slice none 0 0, .string ⟨#[]⟩] 25))
      have hs' : gs < (w7.alloc (.cells #[.string ⟨#[]⟩, .slice none 0 0, .slice none 0 0, .string ⟨#[]⟩] 25)).heap.size := by simp; omega
      have hgl : w7.heap.size < (w7.alloc (.cells #[.string ⟨#[]⟩, .slice none 0 0, .slice none 0 0, .string ⟨#[]⟩] 25)).heap.size := by simp
      obtain ⟨gl, hgle⟩ : ∃ g, w7.heap.size = g := ⟨_, rfl⟩
      have hgg : gs < gl := by omega
      rw [hgle] at HG hgl ⊢
      clear HP HSE HB hs7
      have HP := HP'
      have HSE := HSE'
      have HB := HB'
      have hs7 := hs'
      clear HP' HSE' HB' hs'
      generalize w7.alloc (.cells #[.string ⟨#[]⟩, .slice none 0 0, .slice none 0 0, .string ⟨#[]⟩] 25) = wa at hHeld HG HP HSE HB hs7 hgl ⊢
      clear hgle
      refine one_ (i := 3) (N := some 72) #[true, true, true, true, false, false, false, false, true, false, false] rfl rfl (by kernel_rfl) (by decide) (fun K hK => ?_)
      refine goes_ Tryd.func11 (by kernel_rfl) rfl #[.agg #[.string nm, .slice Az zs.length cz, .slice At ts.length ct, .string ext2]] (by rfl) rfl rfl (by simp only [List.map_toArray, List.map_cons, List.map_nil]; rfl) ?_
      refine (spec_File2.calls q8 nm Az cz zs At ct ts ext2 data _ (c27_of (HZ.out.below HB.out)) hcz (c45_of (HT.out.below HB.out)) hct hq8).mono ?_
      rintro e w8 ⟨rfl, hb⟩
      refine ⟨_, rfl, ?_⟩
      have HP' := Aside0.mk ((hb.block _ (by omega)).trans HP.out)
      have HSE' := Aside0.mk ((hb.block _ (by omega)).trans HSE.out)
      have HB' := Aside0.mk (HB.out.trans (hb.mono HB.out.size))
      have hs' : gs < w8.heap.size := Nat.lt_of_lt_of_le hs7 hb.size
      have HG' := Aside0.mk ((hb.block _ hgl).trans HG.out)
      have hgl' : gl < w8.heap.size := Nat.lt_of_lt_of_le hgl hb.size
      clear HG hgl
      have HG := HG'
      have hgl := hgl'
      clear HG' hgl'
      clear hb HP HSE HB hs7
      have HP := HP'
      have HSE := HSE'
      have HB := HB'
      have hs7 := hs'
      clear HP' HSE' HB' hs'
      refine hK.out _ _ ⟨blk_cell HP.out 0, blk_cell HP.out 1, blk_cell HP.out 2, blk_cell HP.out 3⟩ (fun hHeld => ?_)
      clear hK K
      refine norm_ (a' := ?_) ?_ ?_
      rotate_left
      · show Act.put _ _ _ = _
        simp only [Act.put, List.setIfInBounds_toArray, List.set_cons_zero, List.set_cons_succ, i64_w, i32_w]
        rfl
      refine one_ (i := 4) (N := some 73) #[true, true, true, true, true, false, false, false, true, false, false] rfl rfl (by kernel_rfl) (by decide) (fun K hK => ?_)
      refine goes_ Tryd.func10 (by kernel_rfl) rfl #[.string nm, .string data] (by rfl) rfl rfl (by simp only [List.map_toArray, List.map_cons, List.map_nil]; rfl) ?_
      refine (impl_load_calls nm data _ zs ts ext2 (by omega) (by omega) (by omega) HLD.out).mono ?_
      rintro e w9 ⟨vz, vt, rfl, hoz, hot, hb⟩
      refine ⟨_, rfl, ?_⟩
      have HOZ := Aside0.mk (hoz.lower HB.out.size)
      have HOT := Aside0.mk (hot.lower HB.out.size)
      clear hoz hot
      have HP' := Aside0.mk ((hb.block _ (by omega)).trans HP.out)
      have HSE' := Aside0.mk ((hb.block _ (by omega)).trans HSE.out)
      have HB' := Aside0.mk (HB.out.trans (hb.mono HB.out.size))
      have hs' : gs < w9.heap.size := Nat.lt_of_lt_of_le hs7 hb.size
      have HG' := Aside0.mk ((hb.block _ hgl).trans HG.out)
      have hgl' : gl < w9.heap.size := Nat.lt_of_lt_of_le hgl hb.size
      clear HG hgl
      have HG := HG'
      have hgl := hgl'
      clear HG' hgl'
      clear hb HP HSE HB hs7
      have HP := HP'
      have HSE := HSE'
      have HB := HB'
      have hs7 := hs'
      clear HP' HSE' HB' hs'
      refine hK.out _ _ ⟨blk_cell HP.out 0, blk_cell HP.out 1, blk_cell HP.out 2, blk_cell HP.out 3⟩ (fun hHeld => ?_)
      clear hK K
      refine norm_ (a' := ?_) ?_ ?_
      rotate_left
      · show Act.put _ _ _ = _
        simp only [Act.put, List.setIfInBounds_toArray, List.set_cons_zero, List.set_cons_succ, i64_w, i32_w]
        rfl
      refine pure_ (i := 5) (N := some 68) (v := ?_) (a' := ?_) #[true, true, true, true, true, true, false, false, true, false, false] rfl rfl (by kernel_rfl) (fun _ _ _ h => h) (Or.inl ⟨by rfl, ?_⟩) ?_ ?_
      rotate_left
      · intro w'
        go_simp
        with_reducible rfl
      rotate_left
      · simp only [Act.put, List.setIfInBounds_toArray, List.set_cons_zero, List.set_cons_succ, i64_w, i32_w]
        rfl
      refine pure_ (i := 6) (N := some 74) (v := ?_) (a' := ?_) #[true, true, true, true, true, true, true, false, true, false, false] rfl rfl (by kernel_rfl) (fun _ _ _ h => h) (Or.inl ⟨by rfl, ?_⟩) ?_ ?_
      rotate_left
      · intro w'
        go_simp
        with_reducible rfl
      rotate_left
      · simp only [Act.put, List.setIfInBounds_toArray, List.set_cons_zero, List.set_cons_succ, i64_w, i32_w]
        rfl
      refine pure_ (i := 7) (N := some 75) (v := ?_) (a' := ?_) #[true, true, true, true, true, true, true, true, true, false, false] rfl rfl (by kernel_rfl) (fun _ _ _ h => h) (Or.inl ⟨by rfl, ?_⟩) ?_ ?_
      rotate_left
      · intro w'
        go_simp
        with_reducible rfl
      rotate_left
      · simp only [Act.put, List.setIfInBounds_toArray, List.set_cons_zero, List.set_cons_succ, i64_w, i32_w]
        rfl
      exact norm_ (by simp only [putAll, Act.put, List.setIfInBounds_toArray, List.set_cons_zero, List.set_cons_succ]) (hCont (gl, vz, vt) _ ⟨⟨hgg, hgl⟩, HG, HOZ, HOT, HP, HSE, HB⟩)
  clear HP HSE HB hHeld hs7 w7
  rintro ⟨gl, vz, vt⟩ wl ⟨hgl, HG, HOZ, HOT, HP, HSE, HB⟩
  dsimp only at hgl HG HOZ HOT ⊢
  obtain ⟨hgl1, hgl2⟩ := hgl
  obtain ⟨Lz, lcz, rfl, hlz⟩ := HOZ.out.slice_
  obtain ⟨Lt, lct, rfl, hlt⟩ := HOT.out.slice_
  refine norm_ (a' := ?_) ?_ ?_
  rotate_left
  · simp only [putAll, Act.put, List.setIfInBounds_toArray, List.set_cons_zero, List.set_cons_succ]
    rfl
  refine one_ (i := 9) (N := none) #[true, true, true, true, true, true, true, true, true, true, false] rfl rfl (by kernel_rfl) (by decide) (fun K hK => ?_)
  obtain ⟨p0, p1, p2, p3⟩ := cells4 HG.out
  have f0 := blk_frozen HG.out 0
  have f1 := blk_frozen HG.out 1
  have f2 := blk_frozen HG.out 2
  have f3 := blk_frozen HG.out 3
  refine skip_ (w1 := ?_) (by rfl) rfl ?_ ?_
  rotate_left
  · go_simp
    rfl
  have HP' : Aside0 (((((wl.setCell ⟨gl, 0, none⟩ (.string nm)).setCell ⟨gl, 1, none⟩ (.slice Lz zs.length lcz)).setCell ⟨gl, 2, none⟩ (.slice Lt ts.length lct)).setCell ⟨gl, 3, none⟩ (.string ext2)).heap[w.heap.size]? = some (.cells #[.string nm, .slice Az zs.length cz, .slice At ts.length ct, .string ext2] 25 (0, 0))) := ⟨((Below.heap_setCell _ _ _ w.heap.size (by simp; omega)).trans ((Below.heap_setCell _ _ _ w.heap.size (by simp; omega)).trans ((Below.heap_setCell _ _ _ w.heap.size (by simp; omega)).trans ((Below.heap_setCell wl ⟨gl, 0, none⟩ (.string nm) w.heap.size (by simp; omega)).trans HP.out))))⟩
  have HSE' : Aside0 (((((wl.setCell ⟨gl, 0, none⟩ (.string nm)).setCell ⟨gl, 1, none⟩ (.slice Lz zs.length lcz)).setCell ⟨gl, 2, none⟩ (.slice Lt ts.length lct)).setCell ⟨gl, 3, none⟩ (.string ext2)).heap[gs]? = some (.cells #[.string n1, .int .i64 o1, .bool b1, .string n2, .int .i64 o2, .bool b2, .int .i64 k1, .int .i64 d1, .int .i64 e1, .int .i64 m1, .int .i64 t1, .int .i64 k2, .int .i64 d2, .int .i64 e2, .int .i64 m2, .int .i64 t2] 33 (0, 0))) := ⟨((Below.heap_setCell _ _ _ gs (by simp; omega)).trans ((Below.heap_setCell _ _ _ gs (by simp; omega)).trans ((Below.heap_setCell _ _ _ gs (by simp; omega)).trans ((Below.heap_setCell wl ⟨gl, 0, none⟩ (.string nm) gs (by simp; omega)).trans HSE.out))))⟩
  have g1 := blk_set HG.out 0 (.string nm)
  have g2 := blk_set g1 1 (.slice Lz zs.length lcz)
  have g3 := blk_set g2 2 (.slice Lt ts.length lct)
  have HG' := Aside0.mk (blk_set g3 3 (.string ext2))
  have HOZ' := Aside0.mk ((((HOZ.out.set_ HG.out (by decide) 0 (.string nm)).set_ g1 (by decide) 1 (.slice Lz zs.length lcz)).set_ g2 (by decide) 2 (.slice Lt ts.length lct)).set_ g3 (by decide) 3 (.string ext2))
  have HOT' := Aside0.mk ((((HOT.out.set_ HG.out (by decide) 0 (.string nm)).set_ g1 (by decide) 1 (.slice Lz zs.length lcz)).set_ g2 (by decide) 2 (.slice Lt ts.length lct)).set_ g3 (by decide) 3 (.string ext2))
  have hbg : w.heap.size ≤ gl := by omega
  have HB' := Aside0.mk (below_cell (below_cell (below_cell (below_cell HB.out gl 0 (.string nm) hbg) gl 1 (.slice Lz zs.length lcz) hbg) gl 2 (.slice Lt ts.length lct) hbg) gl 3 (.string ext2) hbg)
  have hgl2' : gl < ((((wl.setCell ⟨gl, 0, none⟩ (.string nm)).setCell ⟨gl, 1, none⟩ (.slice Lz zs.length lcz)).setCell ⟨gl, 2, none⟩ (.slice Lt ts.length lct)).setCell ⟨gl, 3, none⟩ (.string ext2)).heap.size := by simpa using hgl2
  refine hK.out _ _ ⟨blk_cell HP'.out 0, blk_cell HP'.out 1, blk_cell HP'.out 2, blk_cell HP'.out 3⟩ (fun hHeld => ?_)
  clear hK K p0 p1 p2 p3 f0 f1 f2 f3 g1 g2 g3 HP HSE HG HOZ HOT HB hgl2
  generalize (((wl.setCell ⟨gl, 0, none⟩ (.string nm)).setCell ⟨gl, 1, none⟩ (.slice Lz zs.length lcz)).setCell ⟨gl, 2, none⟩ (.slice Lt ts.length lct)).setCell ⟨gl, 3, none⟩ (.string ext2) = w9 at HP' HSE' HG' HOZ' HOT' HB' hgl2' hHeld ⊢
  clear wl
  have HP := HP'
  have HSE := HSE'
  have HG := HG'
  have HOZ := HOZ'
  have HOT := HOT'
  have HB := HB'
  clear HP' HSE' HG' HOZ' HOT' HB'
  refine pure_ (i := 10) (N := some 18) (v := ?_) (a' := ?_) #[true, true, true, true, true, true, true, true, true, true, true] rfl rfl (by kernel_rfl) (fun _ _ _ h => h) (Or.inl ⟨by rfl, ?_⟩) ?_ ?_
  rotate_left
  · intro w'
    go_simp
    with_reducible rfl
  rotate_left
  · simp only [Act.put, List.setIfInBounds_toArray, List.set_cons_zero, List.set_cons_succ, i64_w, i32_w]
    rfl
  refine done_ (by kernel_rfl) ?_
  clear hHeld
  obtain ⟨N, hN⟩ : ∃ N, N + 1 = ts.length := ⟨ts.length - 1, by omega⟩
  obtain ⟨zt, hl46, hspec⟩ := lookup_law nm zs ts ext2 sec zr (by omega) (by omega) HTR.out HU.out hx2 N hN HTZ.out
  have HSPEC := Aside0.mk hspec
  clear hspec
  obtain ⟨p0, p1, p2, p3⟩ := cells4 HG.out
  go_wp2_with fail
  obtain ⟨A1, c1, e1', l1, r1⟩ := HOZ.out.reads
  injection e1' with e11 _ e12
  subst e11 e12
  obtain ⟨A2, c2, e2', l2, r2⟩ := HOT.out.reads
  injection e2' with e21 _ e22
  subst e21 e22
  refine (impl_lookup_calls nm zs ts ext2 Lz lcz Lt lct w9 r1 r2 (by omega) (by omega) sec zt hl46).mono ?_
  rintro e w10 ⟨st, en, rfl, hb⟩
  have HP' := Aside0.mk ((hb.block _ (by omega)).trans HP.out)
  have HSE' := Aside0.mk ((hb.block _ (by omega)).trans HSE.out)
  have HB' := Aside0.mk (HB.out.trans (hb.mono HB.out.size))
  have hs10 : gs < w10.heap.size := Nat.lt_of_lt_of_le (by omega) hb.size
  clear hb HP HSE HB HG HOZ HOT hgl2' p0 p1 p2 p3 r1 r2 l1 l2 hl46
  have HP := HP'
  have HSE := HSE'
  have HB := HB'
  clear HP' HSE' HB' w9
  have hb11 : Below w10.heap.size w10 ((w10.alloc (.cells #[.string zt.f0, .int .i64 zt.f1, .int .i64 st, .int .i64 en, .bool zt.f2] 42)).alloc (.cells #[.string zt.f0, .int .i64 zt.f1, .bool zt.f2] 27)) := (below_alloc (Below.refl _ _) _).alloc (by simp) _
  have HB11 := Aside0.mk (HB.out.trans (hb11.mono HB.out.size))
  have HP11 := Aside0.mk ((hb11.block _ (by omega)).trans HP.out)
  have HSE11 := Aside0.mk ((hb11.block _ (by omega)).trans HSE.out)
  clear hb11 HB HP HSE
  have p2 : (((w10.alloc (.cells #[.string zt.f0, .int .i64 zt.f1, .int .i64 st, .int .i64 en, .bool zt.f2] 42)).alloc (.cells #[.string zt.f0, .int .i64 zt.f1, .bool zt.f2] 27))).cell? ⟨w.heap.size, 2, none⟩ = some (.slice At ts.length ct) := blk_cell HP11.out 2
  obtain ⟨ad, hA, y0, y1⟩ := ReadsRow.at2 HT.out HB11.out N (by omega)
  have hnm : (ts.length : Int) - 1 = (N : Int) := by omega
  have hnb : (N : Int) < (ts.length : Int) := by omega
  subst hA
  generalize hwn : (ts[N]'(by omega)).f0 = wn at y0 HSPEC
  have HZB : Aside0 ((((w10.alloc (.cells #[.string zt.f0, .int .i64 zt.f1, .int .i64 st, .int .i64 en, .bool zt.f2] 42)).alloc (.cells #[.string zt.f0, .int .i64 zt.f1, .bool zt.f2] 27))).heap[w10.heap.size + 1]? = some (.cells #[.string zt.f0, .int .i64 zt.f1, .bool zt.f2] 27 (0, 0))) := ⟨by
    have h := blk_new (w10.alloc (.cells #[.string zt.f0, .int .i64 zt.f1, .int .i64 st, .int .i64 en, .bool zt.f2] 42)) (.cells #[.string zt.f0, .int .i64 zt.f1, .bool zt.f2] 27)
    rw [World.size_alloc] at h
    exact h⟩
  have hs11 : w10.heap.size + 1 < (((w10.alloc (.cells #[.string zt.f0, .int .i64 zt.f1, .int .i64 st, .int .i64 en, .bool zt.f2] 42)).alloc (.cells #[.string zt.f0, .int .i64 zt.f1, .bool zt.f2] 27))).heap.size := by simp
  rcases HSPEC.out with ⟨hle, hzt⟩ | ⟨hlt', q, st2, en2, hlk⟩
  · subst hzt
    have hd2 : decide (wn ≤ sec) = true := by simpa using hle
    go_wp2_with fail
    have hb0 : Below (((w10.alloc (.cells #[.string zt.f0, .int .i64 zt.f1, .int .i64 st, .int .i64 en, .bool zt.f2] 42)).alloc (.cells #[.string zt.f0, .int .i64 zt.f1, .bool zt.f2] 27))).heap.size ((w10.alloc (.cells #[.string zt.f0, .int .i64 zt.f1, .int .i64 st, .int .i64 en, .bool zt.f2] 42)).alloc (.cells #[.string zt.f0, .int .i64 zt.f1, .bool zt.f2] 27)) (((w10.alloc (.cells #[.string zt.f0, .int .i64 zt.f1, .int .i64 st, .int .i64 en, .bool zt.f2] 42)).alloc (.cells #[.string zt.f0, .int .i64 zt.f1, .bool zt.f2] 27))).drew := pw_below_drewN (Below.refl _ _) 1
    refine start_ (n := 12) (S := fun w' => w'.cell? ⟨w10.heap.size + 1, 0, none⟩ = some (.string zt.f0) ∧ w'.cell? ⟨w10.heap.size + 1, 1, none⟩ = some (.int .i64 zt.f1) ∧ w'.cell? ⟨w10.heap.size + 1, 2, none⟩ = some (.bool zt.f2) ∧ w'.cell? ⟨gs, 0, none⟩ = some (.string n1) ∧ w'.cell? ⟨gs, 1, none⟩ = some (.int .i64 o1) ∧ w'.cell? ⟨gs, 2, none⟩ = some (.bool b1) ∧ w'.cell? ⟨gs, 3, none⟩ = some (.string n2) ∧ w'.cell? ⟨gs, 4, none⟩ = some (.int .i64 o2) ∧ w'.cell? ⟨gs, 5, none⟩ = some (.bool b2) ∧ w'.cell? ⟨gs, 6, none⟩ = some (.int .i64 k1) ∧ w'.cell? ⟨gs, 7, none⟩ = some (.int .i64 d1) ∧ w'.cell? ⟨gs, 8, none⟩ = some (.int .i64 e1) ∧ w'.cell? ⟨gs, 9, none⟩ = some (.int .i64 m1) ∧ w'.cell? ⟨gs, 10, none⟩ = some (.int .i64 t1) ∧ w'.cell? ⟨gs, 11, none⟩ = some (.int .i64 k2) ∧ w'.cell? ⟨gs, 12, none⟩ = some (.int .i64 d2) ∧ w'.cell? ⟨gs, 13, none⟩ = some (.int .i64 e2) ∧ w'.cell? ⟨gs, 14, none⟩ = some (.int .i64 m2) ∧ w'.cell? ⟨gs, 15, none⟩ = some (.int .i64 t2)) (ds := []) #[false, false, false, false, false, false, false, false, false, false, false, false] (by kernel_rfl) rfl rfl ⟨blk_cell (blk_drew HZB.out) 0, blk_cell (blk_drew HZB.out) 1, blk_cell (blk_drew HZB.out) 2, blk_cell (blk_drew HSE11.out) 0, blk_cell (blk_drew HSE11.out) 1, blk_cell (blk_drew HSE11.out) 2, blk_cell (blk_drew HSE11.out) 3, blk_cell (blk_drew HSE11.out) 4, blk_cell (blk_drew HSE11.out) 5, blk_cell (blk_drew HSE11.out) 6, blk_cell (blk_drew HSE11.out) 7, blk_cell (blk_drew HSE11.out) 8, blk_cell (blk_drew HSE11.out) 9, blk_cell (blk_drew HSE11.out) 10, blk_cell (blk_drew HSE11.out) 11, blk_cell (blk_drew HSE11.out) 12, blk_cell (blk_drew HSE11.out) 13, blk_cell (blk_drew HSE11.out) 14, blk_cell (blk_drew HSE11.out) 15⟩ (fun hHeld => ?_)
    have hb := hb0
    clear hb0
    generalize (((w10.alloc (.cells #[.string zt.f0, .int .i64 zt.f1, .int .i64 st, .int .i64 en, .bool zt.f2] 42)).alloc (.cells #[.string zt.f0, .int .i64 zt.f1, .bool zt.f2] 27))).drew = wx at hb hHeld ⊢
    have HZB' := Aside0.mk ((hb.block _ (by omega)).trans HZB.out)
    have HSE' := Aside0.mk ((hb.block _ (by omega)).trans HSE11.out)
    have HB' := Aside0.mk (HB11.out.trans (hb.mono HB11.out.size))
    have hs' : w10.heap.size + 1 < wx.heap.size := Nat.lt_of_lt_of_le hs11 hb.size
    clear hb HZB HSE11 HB11 hs11
    have HZB := HZB'
    have HSE11 := HSE'
    have HB11 := HB'
    have hs11 := hs'
    clear HZB' HSE' HB' hs'
    have heq := fun W => eq27 zt W
    refine pure_ (i := 0) (N := some 95) (v := ?_) (a' := ?_) #[true, false, false, false, false, false, false, false, false, false, false, false] rfl rfl (by kernel_rfl) (fun _ _ _ h => h) (Or.inl ⟨by rfl, ?_⟩) ?_ ?_
    rotate_left
    · intro w'
      go_simp
      with_reducible rfl
    rotate_left
    · simp only [Act.put, List.setIfInBounds_toArray, List.set_cons_zero, List.set_cons_succ, i64_w, i32_w]
      rfl
    refine pure_ (i := 1) (N := some 96) (v := ?_) (a' := ?_) #[true, true, false, false, false, false, false, false, false, false, false, false] rfl rfl (by kernel_rfl) (fun _ _ _ h => h) (Or.inl ⟨by rfl, ?_⟩) ?_ ?_
    rotate_left
    · intro w'
      go_simp
      with_reducible rfl
    rotate_left
    · simp only [Act.put, List.setIfInBounds_toArray, List.set_cons_zero, List.set_cons_succ, i64_w, i32_w]
      rfl
    refine take_ (i := 2) (N := some 97) (v := ?_) (a' := ?_) #[true, true, true, false, false, false, false, false, false, false, false, false] rfl rfl (by kernel_rfl) (fun _ _ _ h => h) (Or.inl ⟨by rfl, ?_⟩) hHeld ?_ ?_
    rotate_left
    · rintro w' ⟨s0, s1, s2, s3, s4, s5, s6, s7, s8, s9, s10, s11, s12, s13, s14, s15, s16, s17, s18⟩
      go_simp
      with_reducible rfl
    rotate_left
    · simp only [Act.put, List.setIfInBounds_toArray, List.set_cons_zero, List.set_cons_succ, i64_w, i32_w]
      rfl
    refine take_ (i := 3) (N := some 98) (v := ?_) (a' := ?_) #[true, true, true, true, false, false, false, false, false, false, false, false] rfl rfl (by kernel_rfl) (fun _ _ _ h => h) (Or.inl ⟨by rfl, ?_⟩) hHeld ?_ ?_
    rotate_left
    · rintro w' ⟨s0, s1, s2, s3, s4, s5, s6, s7, s8, s9, s10, s11, s12, s13, s14, s15, s16, s17, s18⟩
      go_simp
      with_reducible rfl
    rotate_left
    · simp only [Act.put, List.setIfInBounds_toArray, List.set_cons_zero, List.set_cons_succ, i64_w, i32_w]
      rfl
    refine pure_ (i := 4) (N := some 99) (v := ?_) (a' := ?_) #[true, true, true, true, true, false, false, false, false, false, false, false] rfl rfl (by kernel_rfl) (fun _ _ _ h => h) (Or.inl ⟨by rfl, ?_⟩) ?_ ?_
    rotate_left
    · intro w'
      go_simp
      with_reducible rfl
    rotate_left
    · simp only [Act.put, List.setIfInBounds_toArray, List.set_cons_zero, List.set_cons_succ, i64_w, i32_w]
      rfl
    refine one_ (i := 5) (N := some 100) #[true, true, true, true, true, true, false, false, false, false, false, false] rfl rfl (by kernel_rfl) (by decide) (fun K hK => ?_)
    refine goes_ Tryd.func13 (by kernel_rfl) rfl #[.agg #[.string n1, .int .i64 o1, .bool b1, .string n2, .int .i64 o2, .bool b2, .int .i64 k1, .int .i64 d1, .int .i64 e1, .int .i64 m1, .int .i64 t1, .int .i64 k2, .int .i64 d2, .int .i64 e2, .int .i64 m2, .int .i64 t2], .int .i64 sec] (by rfl) rfl rfl (by simp only [List.map_toArray, List.map_cons, List.map_nil]; rfl) ?_
    refine (spec_At.calls q6 n1 o1 b1 n2 o2 b2 k1 d1 e1 m1 t1 k2 d2 e2 m2 t2 sec zt.f0 zt.f1 zt.f2 _ HAT.out).mono ?_
    rintro e wy ⟨rfl, hb⟩
    refine ⟨_, rfl, ?_⟩
    have HZB' := Aside0.mk ((hb.block _ (by omega)).trans HZB.out)
    have HSE' := Aside0.mk ((hb.block _ (by omega)).trans HSE11.out)
    have HB' := Aside0.mk (HB11.out.trans (hb.mono HB11.out.size))
    have hs' : w10.heap.size + 1 < wy.heap.size := Nat.lt_of_lt_of_le hs11 hb.size
    clear hb HZB HSE11 HB11 hs11
    have HZB := HZB'
    have HSE11 := HSE'
    have HB11 := HB'
    have hs11 := hs'
    clear HZB' HSE' HB' hs'
    refine hK.out _ _ ⟨blk_cell HZB.out 0, blk_cell HZB.out 1, blk_cell HZB.out 2, blk_cell HSE11.out 0, blk_cell HSE11.out 1, blk_cell HSE11.out 2, blk_cell HSE11.out 3, blk_cell HSE11.out 4, blk_cell HSE11.out 5, blk_cell HSE11.out 6, blk_cell HSE11.out 7, blk_cell HSE11.out 8, blk_cell HSE11.out 9, blk_cell HSE11.out 10, blk_cell HSE11.out 11, blk_cell HSE11.out 12, blk_cell HSE11.out 13, blk_cell HSE11.out 14, blk_cell HSE11.out 15⟩ (fun hHeld => ?_)
    clear hK K
    refine norm_ (a' := ?_) ?_ ?_
    rotate_left
    · show Act.put _ _ _ = _
      simp only [Act.put, List.setIfInBounds_toArray, List.set_cons_zero, List.set_cons_succ, i64_w, i32_w]
      rfl
    refine pure_ (i := 6) (N := some 101) (v := ?_) (a' := ?_) #[true, true, true, true, true, true, true, false, false, false, false, false] rfl rfl (by kernel_rfl) (fun _ _ _ h => h) (Or.inl ⟨by rfl, ?_⟩) ?_ ?_
    rotate_left
    · intro w'
      go_simp
      with_reducible rfl
    rotate_left
    · simp only [Act.put, List.setIfInBounds_toArray, List.set_cons_zero, List.set_cons_succ, i64_w, i32_w]
      rfl
    refine pure_ (i := 7) (N := some 102) (v := ?_) (a' := ?_) #[true, true, true, true, true, true, true, true, false, false, false, false] rfl rfl (by kernel_rfl) (fun _ _ _ h => h) (Or.inl ⟨by rfl, ?_⟩) ?_ ?_
    rotate_left
    · intro w'
      go_simp
      with_reducible rfl
    rotate_left
    · simp only [Act.put, List.setIfInBounds_toArray, List.set_cons_zero, List.set_cons_succ, i64_w, i32_w]
      rfl
    refine pure_ (i := 8) (N := some 103) (v := ?_) (a' := ?_) #[true, true, true, true, true, true, true, true, true, false, false, false] rfl rfl (by kernel_rfl) (fun _ _ _ h => h) (Or.inl ⟨by rfl, ?_⟩) ?_ ?_
    rotate_left
    · intro w'
      go_simp
      with_reducible rfl
    rotate_left
    · simp only [Act.put, List.setIfInBounds_toArray, List.set_cons_zero, List.set_cons_succ, i64_w, i32_w]
      rfl
    refine one_ (i := 9) (N := some 104) #[true, true, true, true, true, true, true, true, true, true, false, false] rfl rfl (by kernel_rfl) (by decide) (fun K hK => ?_)
    refine goes_ Tryd.func7 (by kernel_rfl) rfl #[] (by rfl) rfl rfl (by simp) ?_
    refine (loads_calls _).mono ?_
    rintro e wv ⟨rfl, hb⟩
    refine ⟨_, rfl, ?_⟩
    have HZB' := Aside0.mk ((hb.block _ (by omega)).trans HZB.out)
    have HSE' := Aside0.mk ((hb.block _ (by omega)).trans HSE11.out)
    have HB' := Aside0.mk (HB11.out.trans (hb.mono HB11.out.size))
    have hs' : w10.heap.size + 1 < wv.heap.size := Nat.lt_of_lt_of_le hs11 hb.size
    clear hb HZB HSE11 HB11 hs11
    have HZB := HZB'
    have HSE11 := HSE'
    have HB11 := HB'
    have hs11 := hs'
    clear HZB' HSE' HB' hs'
    refine hK.out _ _ ⟨blk_cell HZB.out 0, blk_cell HZB.out 1, blk_cell HZB.out 2, blk_cell HSE11.out 0, blk_cell HSE11.out 1, blk_cell HSE11.out 2, blk_cell HSE11.out 3, blk_cell HSE11.out 4, blk_cell HSE11.out 5, blk_cell HSE11.out 6, blk_cell HSE11.out 7, blk_cell HSE11.out 8, blk_cell HSE11.out 9, blk_cell HSE11.out 10, blk_cell HSE11.out 11, blk_cell HSE11.out 12, blk_cell HSE11.out 13, blk_cell HSE11.out 14, blk_cell HSE11.out 15⟩ (fun hHeld => ?_)
    clear hK K
    refine norm_ (a' := ?_) ?_ ?_
    rotate_left
    · show Act.put _ _ _ = _
      simp only [Act.put, List.setIfInBounds_toArray, List.set_cons_zero, List.set_cons_succ, i64_w, i32_w]
      rfl
    refine pure_ (i := 10) (N := some 105) (v := ?_) (a' := ?_) #[true, true, true, true, true, true, true, true, true, true, true, false] rfl rfl (by kernel_rfl) (fun _ _ _ h => h) (Or.inl ⟨by rfl, ?_⟩) ?_ ?_
    rotate_left
    · intro w'
      go_simp
      with_reducible rfl
    rotate_left
    · simp only [Act.put, List.setIfInBounds_toArray, List.set_cons_zero, List.set_cons_succ, i64_w, i32_w]
      rfl
    refine pure_ (i := 11) (N := some 14) (v := ?_) (a' := ?_) #[true, true, true, true, true, true, true, true, true, true, true, true] rfl rfl (by kernel_rfl) (fun _ _ _ h => h) (Or.inl ⟨by rfl, ?_⟩) ?_ ?_
    rotate_left
    · intro w'
      go_simp
      with_reducible rfl
    rotate_left
    · simp only [Act.put, List.setIfInBounds_toArray, List.set_cons_zero, List.set_cons_succ, i64_w, i32_w]
      rfl
    refine done_ (by kernel_rfl) ?_
    clear hHeld
    go_wp2
    go_ret
    exact ⟨rfl, HB11.out⟩
  · have hd2 : decide (wn ≤ sec) = false := by simp; omega
    have p0 : (((w10.alloc (.cells #[.string zt.f0, .int .i64 zt.f1, .int .i64 st, .int .i64 en, .bool zt.f2] 42)).alloc (.cells #[.string zt.f0, .int .i64 zt.f1, .bool zt.f2] 27))).cell? ⟨w.heap.size, 0, none⟩ = some (.string nm) := blk_cell HP11.out 0
    have p1 : (((w10.alloc (.cells #[.string zt.f0, .int .i64 zt.f1, .int .i64 st, .int .i64 en, .bool zt.f2] 42)).alloc (.cells #[.string zt.f0, .int .i64 zt.f1, .bool zt.f2] 27))).cell? ⟨w.heap.size, 1, none⟩ = some (.slice Az zs.length cz) := blk_cell HP11.out 1
    have p3 : (((w10.alloc (.cells #[.string zt.f0, .int .i64 zt.f1, .int .i64 st, .int .i64 en, .bool zt.f2] 42)).alloc (.cells #[.string zt.f0, .int .i64 zt.f1, .bool zt.f2] 27))).cell? ⟨w.heap.size, 3, none⟩ = some (.string ext2) := blk_cell HP11.out 3
    go_wp2_with fail
    have hix : ∀ t ∈ ts, 0 ≤ t.f1 ∧ t.f1 < zs.length := by
      intro t ht
      obtain ⟨j, hj, rfl⟩ := List.getElem_of_mem ht
      exact ⟨(HU.out _ ht).1, HTR.out.1 j hj⟩
    have hfl := firstZ_lt zs ts (by omega) hix
    generalize ((w10.alloc (.cells #[.string zt.f0, .int .i64 zt.f1, .int .i64 st, .int .i64 en, .bool zt.f2] 42)).alloc (.cells #[.string zt.f0, .int .i64 zt.f1, .bool zt.f2] 27)) = wx at HP11 HZB HB11 hs11 ⊢
    refine (impl_first_calls nm zs ts ext2 Az cz (some ad) ct _ (HZ.out.below HB11.out) (HT.out.below HB11.out) (by omega) (by omega) hix (by omega)).mono ?_
    rintro e wy ⟨rfl, hb⟩
    have HP12 := Aside0.mk ((hb.block _ (by omega)).trans HP11.out)
    have HZB12 := Aside0.mk ((hb.block _ (by omega)).trans HZB.out)
    have HB12 := Aside0.mk (HB11.out.trans (hb.mono HB11.out.size))
    have hs12 : w10.heap.size + 1 < wy.heap.size := Nat.lt_of_lt_of_le hs11 hb.size
    clear hb HP11 HZB HB11 hs11 HSE11 p0 p1 p2 p3 y0 y1 wx
    obtain ⟨p0, p1, p2, p3⟩ := cells4 HP12.out
    generalize firstZ zs ts = F at hfl hlk ⊢
    have hF0 : decide ((F : Int) < 0) = false := by simp
    have hF1 : decide ((zs.length : Int) ≤ (F : Int)) = false := by simp; omega
    have HLK := Aside0.mk hlk
    clear hlk hix
    go_wp2_with fail
    refine (spec_Lookup.calls q nm Az cz zs (some ad) ct ts ext2 (F : Int) sec zt.f0 zt.f1 st2 en2 zt.f2 _ (c27_of (HZ.out.below HB12.out)) hcz (c45_of (HT.out.below HB12.out)) hct HLK.out).mono ?_
    rintro e wu ⟨rfl, hb⟩
    have HZB13 := Aside0.mk ((hb.block _ (by omega)).trans HZB12.out)
    have HB13 := Aside0.mk (HB12.out.trans (hb.mono HB12.out.size))
    have hs13 : w10.heap.size + 1 < wu.heap.size := Nat.lt_of_lt_of_le hs12 hb.size
    clear hb HP12 HZB12 HB12 hs12 p0 p1 p2 p3 hF0 hF1 wy
    have z0 : (wu.alloc (.cells #[.string zt.f0, .int .i64 zt.f1, .int .i64 st2, .int .i64 en2, .bool zt.f2] 42)).cell? ⟨w10.heap.size + 1, 0, none⟩ = some (.string zt.f0) := blk_cell (blk_alloc HZB13.out _) 0
    have z1 : (wu.alloc (.cells #[.string zt.f0, .int .i64 zt.f1, .int .i64 st2, .int .i64 en2, .bool zt.f2] 42)).cell? ⟨w10.heap.size + 1, 1, none⟩ = some (.int .i64 zt.f1) := blk_cell (blk_alloc HZB13.out _) 1
    have z2 : (wu.alloc (.cells #[.string zt.f0, .int .i64 zt.f1, .int .i64 st2, .int .i64 en2, .bool zt.f2] 42)).cell? ⟨w10.heap.size + 1, 2, none⟩ = some (.bool zt.f2) := blk_cell (blk_alloc HZB13.out _) 2
    have heq := fun W => eq27 zt W
    go_wp2_with fail
    have hbu := HB13.out.alloc HB13.out.size (.cells #[.string zt.f0, .int .i64 zt.f1, .int .i64 st2, .int .i64 en2, .bool zt.f2] 42)
    refine (loads_calls _).mono ?_
    rintro e wl ⟨rfl, hbl⟩
    clear heq z0 z1 z2
    go_wp2
    go_ret
    exact ⟨rfl, hbu.trans (hbl.mono hbu.size)⟩
end Go.Proofs.YtjoaeennbfmohaaDoor
