/- The walk of (Location).Data: the zones and transitions handed back are those of the place. Conditions: the rows lie in memory. -/
import Derived.Test.YtjoaeennbfmohaaDoorRd
import Derived.Outline
import Derived.Deep.DeepMust
namespace Go.Proofs.YtjoaeennbfmohaaDoor
open Go.RowKit Go.Proofs.YtjoaeennbfmohaaDoorW.PrintWords Go.Proofs.YtjoaeennbfmohaaDoor.PFnZone
set_option linter.unusedVariables false
set_option linter.unusedSimpArgs false

/-- The cells of a zone, of a transition, of a transition with its two marks. -/
def R27 (s : S27) (cs : List Value) : Prop := cs = [.string s.f0, .int .i64 s.f1, .bool s.f2]
def R45 (s : S45) (cs : List Value) : Prop := cs = [.int .i64 s.f0, .int .u8 s.f1]
def R92 (s : S45) (cs : List Value) : Prop := cs = [.int .i64 s.f0, .int .u8 s.f1, .bool false, .bool false]
/-- Rows that are read. -/
def ZRow (w : World) (A : Option Addr) (zs : List S27) : Prop := ReadsRow R27 3 w A zs.length zs
def TRow (w : World) (A : Option Addr) (ts : List S45) : Prop := ReadsRow R45 2 w A ts.length ts
def XRow (w : World) (A : Option Addr) (ts : List S45) : Prop := ReadsRow R92 4 w A ts.length ts

theorem ReadsRow.at3 {w w1 : World} {A : Option Addr} {zs : List S27} (h : ZRow w A zs) (hb : Below w.heap.size w w1) (k : Nat) (hk : k < zs.length) :
    ∃ ad, A = some ad ∧ w1.cell? (ad.add (k * 3)) = some (.string zs[k].f0) ∧ w1.cell? ⟨(ad.add (k * 3)).block, (ad.add (k * 3)).off + 1, none⟩ = some (.int .i64 zs[k].f1) ∧ w1.cell? ⟨(ad.add (k * 3)).block, (ad.add (k * 3)).off + 2, none⟩ = some (.bool zs[k].f2) := by
  obtain ⟨ad, rfl, hc⟩ := h.2.2 (by omega)
  obtain ⟨c, hl, rfl, hcell⟩ := hc k zs[k] (List.getElem?_eq_getElem hk)
  refine ⟨ad, rfl, ?_, ?_, ?_⟩
  · have := hcell 0 _ rfl
    exact (hb.cell (World.block_lt_of_cell? w _ this)).trans this
  · have := hcell 1 _ rfl
    rw [← add_field _ _ 1 (by omega)]
    exact (hb.cell (World.block_lt_of_cell? w _ this)).trans this
  · have := hcell 2 _ rfl
    rw [← add_field _ _ 2 (by omega)]
    exact (hb.cell (World.block_lt_of_cell? w _ this)).trans this
theorem ReadsRow.at2 {w w1 : World} {A : Option Addr} {ts : List S45} (h : TRow w A ts) (hb : Below w.heap.size w w1) (k : Nat) (hk : k < ts.length) :
    ∃ ad, A = some ad ∧ w1.cell? (ad.add (k * 2)) = some (.int .i64 ts[k].f0) ∧ w1.cell? ⟨(ad.add (k * 2)).block, (ad.add (k * 2)).off + 1, none⟩ = some (.int .u8 ts[k].f1) := by
  obtain ⟨ad, rfl, hc⟩ := h.2.2 (by omega)
  obtain ⟨c, hl, rfl, hcell⟩ := hc k ts[k] (List.getElem?_eq_getElem hk)
  refine ⟨ad, rfl, ?_, ?_⟩
  · have := hcell 0 _ rfl
    exact (hb.cell (World.block_lt_of_cell? w _ this)).trans this
  · have := hcell 1 _ rfl
    rw [← add_field _ _ 1 (by omega)]
    exact (hb.cell (World.block_lt_of_cell? w _ this)).trans this
theorem ReadsRow.at4 {w w1 : World} {A : Option Addr} {ts : List S45} (h : XRow w A ts) (hb : Below w.heap.size w w1) (k : Nat) (hk : k < ts.length) :
    ∃ ad, A = some ad ∧ w1.cell? (ad.add (k * 4)) = some (.int .i64 ts[k].f0) ∧ w1.cell? ⟨(ad.add (k * 4)).block, (ad.add (k * 4)).off + 1, none⟩ = some (.int .u8 ts[k].f1) ∧
      w1.cell? ⟨(ad.add (k * 4)).block, (ad.add (k * 4)).off + 2, none⟩ = some (.bool false) ∧ w1.cell? ⟨(ad.add (k * 4)).block, (ad.add (k * 4)).off + 3, none⟩ = some (.bool false) := by
  obtain ⟨ad, rfl, hc⟩ := h.2.2 (by omega)
  obtain ⟨c, hl, rfl, hcell⟩ := hc k ts[k] (List.getElem?_eq_getElem hk)
  refine ⟨ad, rfl, ?_, ?_, ?_, ?_⟩
  · have := hcell 0 _ rfl
    exact (hb.cell (World.block_lt_of_cell? w _ this)).trans this
  · have := hcell 1 _ rfl
    rw [← add_field _ _ 1 (by omega)]
    exact (hb.cell (World.block_lt_of_cell? w _ this)).trans this
  · have := hcell 2 _ rfl
    rw [← add_field _ _ 2 (by omega)]
    exact (hb.cell (World.block_lt_of_cell? w _ this)).trans this
  · have := hcell 3 _ rfl
    rw [← add_field _ _ 3 (by omega)]
    exact (hb.cell (World.block_lt_of_cell? w _ this)).trans this

/-- A place in memory: its eight cells, its rows. -/
structure LocAt (w : World) (g : Nat) (nm : ByteArray) (zs : List S27) (ts : List S45) (ext : ByteArray) (Az : Option Addr) (cz : Nat) (At : Option Addr) (ct : Nat) : Prop where
  c0 : w.cell? ⟨g, 0, none⟩ = some (.bool false)
  c1 : w.cell? ⟨g, 1, none⟩ = some (.string nm)
  c2 : w.cell? ⟨g, 2, none⟩ = some (.slice Az zs.length cz)
  c3 : w.cell? ⟨g, 3, none⟩ = some (.slice At ts.length ct)
  c4 : w.cell? ⟨g, 4, none⟩ = some (.string ext)
  c5 : w.cell? ⟨g, 5, none⟩ = some (.int .i64 0)
  c6 : w.cell? ⟨g, 6, none⟩ = some (.int .i64 0)
  c7 : w.cell? ⟨g, 7, none⟩ = some (.pointer none)
  rz : ZRow w Az zs
  rt : XRow w At ts
  lz : zs.length ≤ cz
  lt : ts.length ≤ ct

theorem info100 : (Tryd.prog.info? 100).map (fun i => (i.zero, i.size, i.bytes)) = some (some (.agg #[.string ⟨#[]⟩, .int .i64 0, .bool false]), 3, 32) := by kernel_rfl
theorem info101 : (Tryd.prog.info? 101).map (fun i => (i.zero, i.size, i.bytes)) = some (some (.agg #[.int .i64 0, .int .u8 0]), 2, 16) := by kernel_rfl
theorem one27 (s : S27) : ∀ u ∈ [Value.string s.f0, .int .i64 s.f1, .bool s.f2], u.oneCell' = true := by
  intro u hu
  simp at hu
  rcases hu with rfl | rfl | rfl <;> rfl
theorem one45 (s : S45) : ∀ u ∈ [Value.int .i64 s.f0, .int .u8 s.f1], u.oneCell' = true := by
  intro u hu
  simp at hu
  rcases hu with rfl | rfl <;> rfl
theorem take_next {α : Type} (xs : List α) (k : Nat) (h : k < xs.length) : xs.take k ++ [xs[k]] = xs.take (k + 1) := by
  rw [List.take_succ_eq_append_getElem h]

theorem own_ne_of {α β : Type} {R : α → List Value → Prop} {R' : β → List Value → Prop} {e e' : TypeId} {s s' : Nat} {w : World} {b b' : Nat} {v v' : Value} {xs : List α} {ys : List β} (h : OwnRow R e s w b v xs) (h' : OwnRow R' e' s' w b' v' ys) (hne : e ≠ e') : v.ownBlock = none ∨ v.ownBlock ≠ v'.ownBlock := by
  obtain ⟨_, h, _⟩ := h
  obtain ⟨_, h', _⟩ := h'
  exact own_type_ne h h' hne

set_option maxRecDepth 100000 in
set_option maxHeartbeats 4000000 in
theorem data_calls (g : Nat) (nm : ByteArray) (zs : List S27) (ts : List S45) (ext : ByteArray) (Az : Option Addr) (cz : Nat) (At : Option Addr) (ct : Nat) (w : World) (hL : LocAt w g nm zs ts ext Az cz At ct)
    (hz : zs.length ≤ 100000) (ht : ts.length ≤ 100000) :
    Calls Tryd.prog 43 #[.pointer (some ⟨g, 0, none⟩)] w fun e w' => ∃ vz vt, e = .returned (.tuple #[.string nm, vz, vt, .string ext]) ∧ OwnRow R27 100 3 w' w.heap.size vz zs ∧ OwnRow R45 101 2 w' w.heap.size vt ts ∧ Below w.heap.size w w' := by
  have c2 := hL.c2
  have HL := Aside0.mk hL
  clear hL
  go_enter Tryd.func43, Tryd.ntmps43
  go_wp2
  go_loopw [15, 3] (fun t v wr => ∃ k : Nat, k ≤ zs.length ∧ t = .int .i64 k ∧ Aside0 (OwnRow R27 100 3 wr w.heap.size v (zs.take k)) ∧ Aside0 (Below w.heap.size w wr)) (fun t _ _ => zs.length - (intOf t).toNat)
  case atStart => exact ⟨0, by omega, rfl, ⟨OwnRow.none_ _ _ _ _ _⟩, ⟨Below.refl _ _⟩⟩
  case round =>
    obtain ⟨k, hk, rfl, HO, HB⟩ := hrel
    by_cases hlt : k < zs.length
    · obtain ⟨ad, hA, x0, x1, x2⟩ := ReadsRow.at3 HL.out.rz HB.out k hlt
      subst hA
      generalize hs : zs[k] = s at x0 x1 x2
      have HS := Aside0.mk hs
      clear hs c2
      have hl : ((zs.take k).length + 1) * 32 ≤ 140737488355328 := by rw [List.length_take]; omega
      go_wp2_with (at_builtin; go_must (refine OwnRow.append (R := R27) (w0 := w) w.heap.size rfl _ _ 96 100 (.agg #[.string ⟨#[]⟩, .int .i64 0, .bool false]) 3 32 rfl Tryd.underlying96 info100 rfl (by decide) (by decide) u3 (zs.take k) s [.string s.f0, .int .i64 s.f1, .bool s.f2] rfl (by rw [World.size_alloc]; rfl) rfl rfl (one27 s) (HO.out.below (below_alloc (Below.refl _ _) _)) (HB.out.alloc HB.out.size _) (Nat.le_trans HB.out.size (by simp)) hl ?_); intro v1 w1 ho1 hb1 hg1 hat1; have HO1 := Aside0.mk ho1; have HB1 := Aside0.mk hb1; clear ho1 hb1 hg1 hat1)
      go_roundw
      case rel => exact ⟨k + 1, by omega, by go_num, ⟨by rw [← take_next zs k hlt, HS.out]; exact HO1.out⟩, HB1⟩
      case measure => simp [intOf]; omega
    · obtain rfl : k = zs.length := by omega
      rw [List.take_length] at HO
      clear hlt hk c2
      have c3 : wr.cell? ⟨g, 3, none⟩ = some (.slice At ts.length ct) := (HB.out.cell (World.block_lt_of_cell? w _ HL.out.c3)).trans HL.out.c3
      go_wp2_with fail
      obtain ⟨w0, hw0⟩ : ∃ w0, w0 = wr := ⟨_, rfl⟩
      rw [← hw0] at HO HB c3 ⊢
      clear hw0
      go_loopw [35, 4] (fun t vt wr => ∃ k : Nat, k ≤ ts.length ∧ t = .int .i64 k ∧ Aside0 (OwnRow R27 100 3 wr w.heap.size u3 zs) ∧ Aside0 (OwnRow R45 101 2 wr w.heap.size vt (ts.take k)) ∧ Aside0 (Below w.heap.size w wr)) (fun t _ _ => ts.length - (intOf t).toNat)
      case atStart => exact ⟨0, by omega, rfl, HO, ⟨OwnRow.none_ _ _ _ _ _⟩, HB⟩
      case round =>
        clear HO HB c3
        obtain ⟨k, hk, rfl, HZ, HO, HB⟩ := hrel
        by_cases hlt : k < ts.length
        · obtain ⟨ad, hA, x0, x1, x2, x3⟩ := ReadsRow.at4 HL.out.rt HB.out k hlt
          subst hA
          generalize hs : ts[k] = s at x0 x1
          have HS := Aside0.mk hs
          clear hs
          have hl : ((ts.take k).length + 1) * 16 ≤ 140737488355328 := by rw [List.length_take]; omega
          go_wp2_with (at_builtin; go_must (refine OwnRow.append (R := R45) (w0 := w) w.heap.size rfl _ _ 97 101 (.agg #[.int .i64 0, .int .u8 0]) 2 16 rfl Tryd.underlying97 info101 rfl (by decide) (by decide) u4 (ts.take k) s [.int .i64 s.f0, .int .u8 s.f1] rfl (by rw [World.size_alloc]; rfl) rfl rfl (one45 s) (HO.out.below (below_alloc (Below.refl _ _) _)) (HB.out.alloc HB.out.size _) (Nat.le_trans HB.out.size (by simp)) hl ?_); intro v1 w1 ho1 hb1 hg1 hat1; have HO1 := Aside0.mk ho1; have HB1 := Aside0.mk hb1; have HZ1 := Aside0.mk ((HZ.out.below (below_alloc (Below.refl _ _) _)).other hg1 (own_ne_of HZ.out HO.out (by decide))); clear ho1 hb1 hg1 hat1)
          go_roundw
          case rel => exact ⟨k + 1, by omega, by go_num, HZ1, ⟨by rw [← take_next ts k hlt, HS.out]; exact HO1.out⟩, HB1⟩
          case measure => simp [intOf]; omega
        · obtain rfl : k = ts.length := by omega
          rw [List.take_length] at HO
          have c1 : wr.cell? ⟨g, 1, none⟩ = some (.string nm) := (HB.out.cell (World.block_lt_of_cell? w _ HL.out.c1)).trans HL.out.c1
          have c4 : wr.cell? ⟨g, 4, none⟩ = some (.string ext) := (HB.out.cell (World.block_lt_of_cell? w _ HL.out.c4)).trans HL.out.c4
          clear hlt hk
          go_wp2
          go_quiet (fail)
          go_wp2
          have hbq := pw_below_drewN (Below.refl wr.heap.size wr) nq
          exact bodyPost_ret (v := .tuple #[.string nm, u3, u4, .string ext]) (by simp [results, Tryd.results43, go_sem]) rfl ⟨u3, u4, rfl, HZ.out.below hbq, HO.out.below hbq, pw_below_drewN HB.out nq⟩
end Go.Proofs.YtjoaeennbfmohaaDoor
