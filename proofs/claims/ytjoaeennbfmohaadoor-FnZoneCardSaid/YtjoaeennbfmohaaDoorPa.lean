/- The walk of impl.parts: a place by value, its rows new. Conditions: the rows lie in memory. -/
import Derived.Test.YtjoaeennbfmohaaDoorDa
import Derived.Outline
import Derived.Deep.DeepMust
namespace Go.Proofs.YtjoaeennbfmohaaDoor
open Go.RowKit Go.Proofs.YtjoaeennbfmohaaDoorW.PrintWords Go.Proofs.YtjoaeennbfmohaaDoor.PFnZone
set_option linter.unusedVariables false
set_option linter.unusedSimpArgs false

theorem info27' : (Tryd.prog.info? 27).map (fun i => (i.zero, i.size, i.bytes)) = some (some (.agg #[.string ⟨#[]⟩, .int .i64 0, .bool false]), 3, 32) := by kernel_rfl
theorem info45' : (Tryd.prog.info? 45).map (fun i => (i.zero, i.size, i.bytes)) = some (some (.agg #[.int .i64 0, .int .u8 0]), 2, 16) := by kernel_rfl

theorem ZRow.below {w w1 : World} {A : Option Addr} {zs : List S27} (h : ZRow w A zs) (hb : Below w.heap.size w w1) : ZRow w1 A zs := ReadsRow.imp_ h hb (fun _ _ hp => hp)
theorem TRow.below {w w1 : World} {A : Option Addr} {zs : List S45} (h : TRow w A zs) (hb : Below w.heap.size w w1) : TRow w1 A zs := ReadsRow.imp_ h hb (fun _ _ hp => hp)
theorem XRow.below {w w1 : World} {A : Option Addr} {zs : List S45} (h : XRow w A zs) (hb : Below w.heap.size w w1) : XRow w1 A zs := ReadsRow.imp_ h hb (fun _ _ hp => hp)
theorem cell_below {w w1 : World} (hb : Below w.heap.size w w1) {a : Addr} {v : Value} (h : w.cell? a = some v) : w1.cell? a = some v := (hb.cell (World.block_lt_of_cell? w _ h)).trans h
theorem LocAt.below {w w1 : World} {g : Nat} {nm : ByteArray} {zs : List S27} {ts : List S45} {ext : ByteArray} {Az : Option Addr} {cz : Nat} {At : Option Addr} {ct : Nat} (h : LocAt w g nm zs ts ext Az cz At ct) (hb : Below w.heap.size w w1) : LocAt w1 g nm zs ts ext Az cz At ct :=
  ⟨cell_below hb h.c0, cell_below hb h.c1, cell_below hb h.c2, cell_below hb h.c3, cell_below hb h.c4, cell_below hb h.c5, cell_below hb h.c6, cell_below hb h.c7, h.rz.below hb, h.rt.below hb, h.lz, h.lt⟩

theorem kept_grown {α : Type} {R : α → List Value → Prop} {e t : TypeId} {sz b base : Nat} {cs : Array Value} {wr w2 : World} {vz : Value} {xs : List α} (O : Obj) (HO : OwnRow R e sz wr base vz xs) (HK : wr.heap[b]? = some (.cells cs t (0, 0))) (hne : e ≠ t) (hg : (wr.alloc O).grownBy w2 vz.ownBlock) : w2.heap[b]? = some (.cells cs t (0, 0)) :=
  blk_grown (blk_alloc HK O) hg ((HO.below (below_alloc (Below.refl _ _) O)).ne_block (blk_alloc HK O) hne)

/-- What impl.parts hands back: a place by value, its rows new. -/
def Parted (nm : ByteArray) (zs : List S27) (ts : List S45) (ext : ByteArray) (w : World) (e : Ending) (w' : World) : Prop :=
  ∃ vz vt, e = .returned (.agg #[.string nm, vz, vt, .string ext]) ∧ OwnRow R27 27 3 w' w.heap.size vz zs ∧ OwnRow R45 45 2 w' w.heap.size vt ts ∧ Below w.heap.size w w'

set_option maxRecDepth 100000 in
set_option maxHeartbeats 4000000 in
theorem parts_calls (g : Nat) (nm : ByteArray) (zs : List S27) (ts : List S45) (ext : ByteArray) (Az : Option Addr) (cz : Nat) (At : Option Addr) (ct : Nat) (w : World) (hL : LocAt w g nm zs ts ext Az cz At ct)
    (hz : zs.length ≤ 100000) (ht : ts.length ≤ 100000) :
    Calls Tryd.prog 26 #[.pointer (some ⟨g, 0, none⟩)] w (Parted nm zs ts ext w) := by
  have HL := Aside0.mk hL
  clear hL
  go_enter Tryd.func26, Tryd.ntmps26
  go_wp2_with fail
  refine (data_calls g nm zs ts ext Az cz At ct _ (HL.out.below (below_alloc (Below.refl _ _) _)) hz ht).mono ?_
  rintro e w1 ⟨vz0, vt0, rfl, hz0, ht0, hb0⟩
  rw [World.size_alloc] at hz0 ht0 hb0
  obtain ⟨Bz, kz, rfl, hkz, hrz⟩ := hz0.reads
  obtain ⟨Bt, kt, rfl, hkt, hrt⟩ := ht0.reads
  have HRZ : Aside0 (ZRow w1 Bz zs) := ⟨hrz⟩
  have HRT : Aside0 (TRow w1 Bt ts) := ⟨hrt⟩
  have hres : w1.heap[w.heap.size]? = some (.cells #[.string ⟨#[]⟩, .slice none 0 0, .slice none 0 0, .string ⟨#[]⟩] 25 (0, 0)) := by
    rw [hb0.block w.heap.size (by omega)]
    exact blk_new w _
  have HRES := Aside0.mk hres
  have HB0 : Aside0 (Below w.heap.size w w1) := ⟨(below_alloc (Below.refl _ _) _).trans (hb0.mono (by omega))⟩
  have hsz : w.heap.size + 1 ≤ w1.heap.size := by have := hb0.size; simpa using this
  clear hz0 ht0 hb0 hrz hrt hres
  go_wp2_with fail
  go_loopw [24] (fun t wr => ∃ (k : Nat) (vz : Value), k ≤ zs.length ∧ t = .int .i64 k ∧ Aside0 (OwnRow R27 27 3 wr w1.heap.size vz (zs.take k)) ∧ Aside0 (wr.heap[w1.heap.size]? = some (.cells #[.string nm, vz, .slice none 0 0, .string ext] 25 (0, 0))) ∧ Aside0 (Below w1.heap.size w1 wr)) (fun t _ => zs.length - (intOf t).toNat)
  case atStart => exact ⟨0, _, by omega, rfl, ⟨OwnRow.none_ _ _ _ _ _⟩, ⟨blk_new _ _⟩, ⟨below_alloc (Below.refl _ _) _⟩⟩
  case round =>
    obtain ⟨k, vz, hk, rfl, HO, HK, HB⟩ := hrel
    have hvz := blk_cell HK.out 1
    have hfz := blk_frozen HK.out 1
    have hc1 : wr.cell? ⟨w1.heap.size, 1, none⟩ = some vz := hvz
    have hlt1 := blk_lt HK.out
    clear hvz
    by_cases hlt : k < zs.length
    · obtain ⟨ad, hA, x0, x1, x2⟩ := ReadsRow.at3 HRZ.out HB.out k hlt
      subst hA
      generalize hs : zs[k] = s at x0 x1 x2
      have HS := Aside0.mk hs
      clear hs
      have hl : ((zs.take k).length + 1) * 32 ≤ 140737488355328 := by rw [List.length_take]; omega
      go_wp2_with (at_builtin; go_must (refine OwnRow.append (R := R27) (w0 := w1) w1.heap.size rfl _ _ 22 27 (.agg #[.string ⟨#[]⟩, .int .i64 0, .bool false]) 3 32 rfl Tryd.underlying22 info27' rfl (by decide) (by decide) vz (zs.take k) s [.string s.f0, .int .i64 s.f1, .bool s.f2] rfl (by rw [World.size_alloc]; rfl) rfl rfl (one27 s) (HO.out.below (below_alloc (Below.refl _ _) _)) (HB.out.alloc HB.out.size _) (Nat.le_trans HB.out.size (by simp)) hl ?_); go_must (intro v1 w2 ho1 hb1 hg1 hat1; have hk1 := kept_grown (.cells #[.string s.f0, .int .i64 s.f1, .bool s.f2] 100) HO.out HK.out (by decide) hg1; have HO1 := Aside0.mk (ho1.set_ hk1 (by decide) 1 v1); have HB1 := Aside0.mk (below_cell hb1 w1.heap.size 1 v1 (Nat.le_refl _)); have HK1 := Aside0.mk (blk_set hk1 1 v1); have hcc : w2.cell? ⟨w1.heap.size, 1, none⟩ = some vz := blk_cell hk1 1; have hff := blk_frozen hk1 1; obtain ⟨Av, cv, rfl, hlv⟩ := ho1.slice_; clear ho1 hb1 hg1 hat1 hk1))
      have e : (zs.take k ++ [s]).length = k + 1 := by simp; omega
      rw [e] at HO1 HB1 HK1
      go_roundw
      case rel => exact ⟨k + 1, _, by omega, by go_num, ⟨by rw [← take_next zs k hlt, HS.out]; exact HO1.out⟩, HK1, HB1⟩
      case measure => simp [intOf]; omega
    · obtain rfl : k = zs.length := by omega
      rw [List.take_length] at HO
      clear hlt hk hc1 hfz hlt1
      go_wp2_with fail
      obtain ⟨w0, hw0⟩ : ∃ w0, w0 = wr := ⟨_, rfl⟩
      rw [← hw0] at HO HB HK ⊢
      clear hw0
      go_loopw [43] (fun t wr => ∃ (k : Nat) (vt : Value), k ≤ ts.length ∧ t = .int .i64 k ∧ Aside0 (OwnRow R27 27 3 wr w1.heap.size vz zs) ∧ Aside0 (OwnRow R45 45 2 wr w1.heap.size vt (ts.take k)) ∧ Aside0 (wr.heap[w1.heap.size]? = some (.cells #[.string nm, vz, vt, .string ext] 25 (0, 0))) ∧ Aside0 (Below w1.heap.size w1 wr)) (fun t _ => ts.length - (intOf t).toNat)
      case atStart => exact ⟨0, _, by omega, rfl, HO, ⟨OwnRow.none_ _ _ _ _ _⟩, HK, HB⟩
      case round =>
        clear HO HK HB
        obtain ⟨k, vt, hk, rfl, HZ, HO, HK, HB⟩ := hrel
        have hvz := blk_cell HK.out 2
        have hfz := blk_frozen HK.out 2
        have hc1 : wr.cell? ⟨w1.heap.size, 2, none⟩ = some vt := hvz
        have hlt1 := blk_lt HK.out
        clear hvz
        by_cases hlt : k < ts.length
        · obtain ⟨ad, hA, x0, x1⟩ := ReadsRow.at2 HRT.out HB.out k hlt
          subst hA
          generalize hs : ts[k] = s at x0 x1
          have HS := Aside0.mk hs
          clear hs
          have hl : ((ts.take k).length + 1) * 16 ≤ 140737488355328 := by rw [List.length_take]; omega
          go_wp2_with (at_builtin; go_must (refine OwnRow.append (R := R45) (w0 := w1) w1.heap.size rfl _ _ 23 45 (.agg #[.int .i64 0, .int .u8 0]) 2 16 rfl Tryd.underlying23 info45' rfl (by decide) (by decide) vt (ts.take k) s [.int .i64 s.f0, .int .u8 s.f1] rfl (by rw [World.size_alloc]; rfl) rfl rfl (one45 s) (HO.out.below (below_alloc (Below.refl _ _) _)) (HB.out.alloc HB.out.size _) (Nat.le_trans HB.out.size (by simp)) hl ?_); go_must (intro v1 w2 ho1 hb1 hg1 hat1; have hk1 := kept_grown (.cells #[.int .i64 s.f0, .int .u8 s.f1] 101) HO.out HK.out (by decide) hg1; have HO1 := Aside0.mk (ho1.set_ hk1 (by decide) 2 v1); have HB1 := Aside0.mk (below_cell hb1 w1.heap.size 2 v1 (Nat.le_refl _)); have HK1 := Aside0.mk (blk_set hk1 2 v1); have hcc : w2.cell? ⟨w1.heap.size, 2, none⟩ = some vt := blk_cell hk1 2; have hff := blk_frozen hk1 2; have HZ1 := Aside0.mk (((HZ.out.below (below_alloc (Below.refl _ _) (.cells #[.int .i64 s.f0, .int .u8 s.f1] 101))).other hg1 (own_ne_of HZ.out HO.out (by decide))).set_ hk1 (by decide) 2 v1); obtain ⟨Av, cv, rfl, hlv⟩ := ho1.slice_; clear ho1 hb1 hg1 hat1 hk1))
          have e : (ts.take k ++ [s]).length = k + 1 := by simp; omega
          rw [e] at HO1 HB1 HK1 HZ1
          go_roundw
          case rel => exact ⟨k + 1, _, by omega, by go_num, HZ1, ⟨by rw [← take_next ts k hlt, HS.out]; exact HO1.out⟩, HK1, HB1⟩
          case measure => simp [intOf]; omega
        · obtain rfl : k = ts.length := by omega
          rw [List.take_length] at HO
          clear hlt hk hc1 hfz
          obtain ⟨Av, cv, rfl, hlv⟩ := HZ.out.slice_
          obtain ⟨At2, ct2, rfl, hlt2⟩ := HO.out.slice_
          have d0 : wr.cell? ⟨w1.heap.size, 0, none⟩ = _ := blk_cell HK.out 0
          have d1 : wr.cell? ⟨w1.heap.size, 1, none⟩ = _ := blk_cell HK.out 1
          have d2 : wr.cell? ⟨w1.heap.size, 2, none⟩ = _ := blk_cell HK.out 2
          have d3 : wr.cell? ⟨w1.heap.size, 3, none⟩ = _ := blk_cell HK.out 3
          have hr : wr.heap[w.heap.size]? = some (.cells #[.string ⟨#[]⟩, .slice none 0 0, .slice none 0 0, .string ⟨#[]⟩] 25 (0, 0)) := by
            rw [HB.out.block w.heap.size (by omega)]; exact HRES.out
          have r0 : wr.cell? ⟨w.heap.size, 0, none⟩ = _ := blk_cell hr 0
          have r1 : wr.cell? ⟨w.heap.size, 1, none⟩ = _ := blk_cell hr 1
          have r2 : wr.cell? ⟨w.heap.size, 2, none⟩ = _ := blk_cell hr 2
          have r3 : wr.cell? ⟨w.heap.size, 3, none⟩ = _ := blk_cell hr 3
          have g0 := blk_frozen hr 0
          have g1 := blk_frozen hr 1
          have g2 := blk_frozen hr 2
          have g3 := blk_frozen hr 3
          have HR := Aside0.mk hr
          clear hr
          simp at d0 d1 d2 d3 r0 r1 r2 r3
          go_wp2
          have q1 := blk_set HR.out 0 (.string nm)
          have q2 := blk_set q1 1 (.slice Av zs.length cv)
          have q3 := blk_set q2 2 (.slice At2 ts.length ct2)
          have q4 := blk_set q3 3 (.string ext)
          refine bodyPost_ret (results_cell_row rfl _ _ w.heap.size 25 #[.string nm, .slice Av zs.length cv, .slice At2 ts.length ct2, .string ext] (0, 0) _ rfl q4 Tryd.underlying25 rfl (by kernel_rfl)) rfl ⟨_, _, rfl, ?_, ?_, ?_⟩
          · exact ((((HZ.out.lower (Nat.le_trans (Nat.le_succ _) hsz)).set_ HR.out (by decide) 0 _).set_ q1 (by decide) 1 _).set_ q2 (by decide) 2 _).set_ q3 (by decide) 3 _
          · exact ((((HO.out.lower (Nat.le_trans (Nat.le_succ _) hsz)).set_ HR.out (by decide) 0 _).set_ q1 (by decide) 1 _).set_ q2 (by decide) 2 _).set_ q3 (by decide) 3 _
          · have hb := HB0.out.trans (HB.out.mono (Nat.le_trans (Nat.le_succ _) hsz))
            exact below_cell (below_cell (below_cell (below_cell hb _ 0 _ (Nat.le_refl _)) _ 1 _ (Nat.le_refl _)) _ 2 _ (Nat.le_refl _)) _ 3 _ (Nat.le_refl _)
end Go.Proofs.YtjoaeennbfmohaaDoor
