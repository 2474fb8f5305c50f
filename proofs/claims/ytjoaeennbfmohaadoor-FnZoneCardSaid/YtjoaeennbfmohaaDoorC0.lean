/- The walks of some functions. Laid by programs (wip/mkq.py, wip/mkclaim.py) out of the texts that the kit's print.sh wrote for this seat, written shorter. Not written by hand. -/
import Derived.Test.YtjoaeennbfmohaaDoorProg
import Derived.Below
import Derived.Deep.Draws
import Derived.Deep.AppendLies
import Derived.Maps.AppendAt
import Derived.OwnWalk
import Derived.Laws.BytesArg
import Derived.Laws.MakeOwn
import Derived.Laws.OwnMore
import Derived.Deep.OwnRows
import Derived.Tactics
import Derived.Lib.ConvBytes
import Derived.Laws.Slices
import Derived.WalkKit
import Derived.KernelRfl
import Derived.RowKit3
import Derived.Deep.LoopGhost
import Derived.Deep.QuietTactic
import Derived.BigQuiet
import Derived.WideLaws
import Derived.Deep.DeepCutAuto
import Derived.Deep.CutBlock
import Derived.Deep.RegionHeld3
import Derived.Laws.Rows
import Derived.Lib.AppendStr
import Derived.ArgAppend
import Derived.Laws.IdiomCopy
import Derived.OrdersHeld
import Derived.Laws.BitsLemmas
import Derived.RowKit
import Derived.Test.YtjoaeennbfmohaaDoorC
namespace Go.Proofs.YtjoaeennbfmohaaDoor.PFnZone
open Go.RowKit Go.Proofs.YtjoaeennbfmohaaDoorW.PrintWords Go.Proofs.YtjoaeennbfmohaaDoorW.PrintLast Go.Proofs.YtjoaeennbfmohaaDoorW.PrintMore
attribute [local go_sem] max2_int min2_int max_two min_two max_three min_three max_four min_four   -- for this text's walks alone
set_option linter.unusedVariables false
set_option linter.unusedSimpArgs false
def errW : Option Int → Value
 | none => .nilIface
 | some c => .iface 0 (.int .i64 c)
theorem errW_none : errW none = .nilIface := rfl
theorem errW_some (c : Int) : errW (some c) = .iface 0 (.int .i64 c) := rfl
theorem info5 : (Tryd.prog.info? 5).map (fun i => (i.zero, i.size, i.bytes)) = some (some (.int .u8 0), 1, 1) := by kernel_rfl
theorem info27 : (Tryd.prog.info? 27).map (fun i => (i.zero, i.size, i.bytes)) = some (some (.agg #[(.string ⟨#[]⟩), (.int .i64 0), (.bool false)]), 3, 32) := by kernel_rfl
structure S27 where
 f0 : ByteArray
 f1 : Int
 f2 : Bool
def z27 : S27 := ⟨(⟨#[]⟩ : ByteArray), (0 : Int), false⟩
def k27 : Kd S27 := Kd.iso (Kd.pair Kd.string (Kd.pair (Kd.int .i64) Kd.bool)) (fun x : S27 => (x.f0, x.f1, x.f2))
theorem k27_open {w : World} {x : S27} {cs : List Value} (h : k27.K w x cs) : cs = [.string x.f0, .int .i64 x.f1, .bool x.f2] := by
 obtain ⟨_, _, rfl, rfl, ⟨_, _, rfl, rfl, rfl⟩⟩ := h
 exact rfl
theorem k27_mk (w : World) (x : S27)  : k27.K w x [.string x.f0, .int .i64 x.f1, .bool x.f2] := ⟨[.string x.f0], [.int .i64 x.f1, .bool x.f2], rfl, rfl, ⟨[.int .i64 x.f1], [.bool x.f2], rfl, rfl, rfl⟩⟩
def rd_T27 (xs : List S27) (i : Int) : S27 := xs.getD i.toNat z27
theorem at_T27 {w : World} {A : Option Addr} {n : Nat} {xs : List S27} (h : Kd.C k27 w A n xs) (i : Int) (h0 : 0 ≤ i) (h1 : i < n) : ∃ ad , A = some ad ∧ w.cell? (ad.add (i.toNat * 3)) = some (.string (rd_T27 xs i).f0) ∧ w.cell? ⟨(ad.add (i.toNat * 3)).block, (ad.add (i.toNat * 3)).off + 1, none⟩ = some (.int .i64 (rd_T27 xs i).f1) ∧ w.cell? ⟨(ad.add (i.toNat * 3)).block, (ad.add (i.toNat * 3)).off + 2, none⟩ = some (.bool (rd_T27 xs i).f2) := by
 obtain ⟨ad, c, e, _, hK, hc0⟩ := Kd.C_get h z27 i h0 h1
 have hc : ∀ j u, c[j]? = some u → w.cell? (ad.add (i.toNat * 3 + j)) = some u := hc0
 obtain rfl := k27_open hK
 exact ⟨ad, e, hc 0 _ rfl, by rw [← add_field _ _ 1 (by omega)]; exact hc 1 _ rfl, by rw [← add_field _ _ 2 (by omega)]; exact hc 2 _ rfl⟩
structure S45 where
 f0 : Int
 f1 : Int
def z45 : S45 := ⟨(0 : Int), (0 : Int)⟩
def k45 : Kd S45 := Kd.iso (Kd.pair (Kd.int .i64) (Kd.int .u8)) (fun x : S45 => (x.f0, x.f1))
theorem k45_open {w : World} {x : S45} {cs : List Value} (h : k45.K w x cs) : cs = [.int .i64 x.f0, .int .u8 x.f1] := by
 obtain ⟨_, _, rfl, rfl, rfl⟩ := h
 exact rfl
theorem k45_mk (w : World) (x : S45)  : k45.K w x [.int .i64 x.f0, .int .u8 x.f1] := ⟨[.int .i64 x.f0], [.int .u8 x.f1], rfl, rfl, rfl⟩
def rd_T45 (xs : List S45) (i : Int) : S45 := xs.getD i.toNat z45
theorem at_T45 {w : World} {A : Option Addr} {n : Nat} {xs : List S45} (h : Kd.C k45 w A n xs) (i : Int) (h0 : 0 ≤ i) (h1 : i < n) : ∃ ad , A = some ad ∧ w.cell? (ad.add (i.toNat * 2)) = some (.int .i64 (rd_T45 xs i).f0) ∧ w.cell? ⟨(ad.add (i.toNat * 2)).block, (ad.add (i.toNat * 2)).off + 1, none⟩ = some (.int .u8 (rd_T45 xs i).f1) := by
 obtain ⟨ad, c, e, _, hK, hc0⟩ := Kd.C_get h z45 i h0 h1
 have hc : ∀ j u, c[j]? = some u → w.cell? (ad.add (i.toNat * 2 + j)) = some u := hc0
 obtain rfl := k45_open hK
 exact ⟨ad, e, hc 0 _ rfl, by rw [← add_field _ _ 1 (by omega)]; exact hc 1 _ rfl⟩
theorem c2f_ {w : World} {g : Nat} {t : TypeId} {x0 x1 : Value} (h : w.heap[g]? = some (.cells #[x0, x1] t (0, 0))) : w.cell? ⟨g, 0, none⟩ = some x0 ∧ w.cell? ⟨g, 1, none⟩ = some x1 ∧ w.frozen? ⟨g, 0, none⟩ = false ∧ w.frozen? ⟨g, 1, none⟩ = false := ⟨blk_cell h 0, blk_cell h 1, blk_frozen h 0, blk_frozen h 1⟩
theorem c3f_ {w : World} {g : Nat} {t : TypeId} {x0 x1 x2 : Value} (h : w.heap[g]? = some (.cells #[x0, x1, x2] t (0, 0))) : w.cell? ⟨g, 0, none⟩ = some x0 ∧ w.cell? ⟨g, 1, none⟩ = some x1 ∧ w.cell? ⟨g, 2, none⟩ = some x2 ∧ w.frozen? ⟨g, 0, none⟩ = false ∧ w.frozen? ⟨g, 1, none⟩ = false ∧ w.frozen? ⟨g, 2, none⟩ = false := ⟨blk_cell h 0, blk_cell h 1, blk_cell h 2, blk_frozen h 0, blk_frozen h 1, blk_frozen h 2⟩
theorem c4f_ {w : World} {g : Nat} {t : TypeId} {x0 x1 x2 x3 : Value} (h : w.heap[g]? = some (.cells #[x0, x1, x2, x3] t (0, 0))) : w.cell? ⟨g, 0, none⟩ = some x0 ∧ w.cell? ⟨g, 1, none⟩ = some x1 ∧ w.cell? ⟨g, 2, none⟩ = some x2 ∧ w.cell? ⟨g, 3, none⟩ = some x3 ∧ w.frozen? ⟨g, 0, none⟩ = false ∧ w.frozen? ⟨g, 1, none⟩ = false ∧ w.frozen? ⟨g, 2, none⟩ = false ∧ w.frozen? ⟨g, 3, none⟩ = false := ⟨blk_cell h 0, blk_cell h 1, blk_cell h 2, blk_cell h 3, blk_frozen h 0, blk_frozen h 1, blk_frozen h 2, blk_frozen h 3⟩
theorem c5f_ {w : World} {g : Nat} {t : TypeId} {x0 x1 x2 x3 x4 : Value} (h : w.heap[g]? = some (.cells #[x0, x1, x2, x3, x4] t (0, 0))) : w.cell? ⟨g, 0, none⟩ = some x0 ∧ w.cell? ⟨g, 1, none⟩ = some x1 ∧ w.cell? ⟨g, 2, none⟩ = some x2 ∧ w.cell? ⟨g, 3, none⟩ = some x3 ∧ w.cell? ⟨g, 4, none⟩ = some x4 ∧ w.frozen? ⟨g, 0, none⟩ = false ∧ w.frozen? ⟨g, 1, none⟩ = false ∧ w.frozen? ⟨g, 2, none⟩ = false ∧ w.frozen? ⟨g, 3, none⟩ = false ∧ w.frozen? ⟨g, 4, none⟩ = false := ⟨blk_cell h 0, blk_cell h 1, blk_cell h 2, blk_cell h 3, blk_cell h 4, blk_frozen h 0, blk_frozen h 1, blk_frozen h 2, blk_frozen h 3, blk_frozen h 4⟩
theorem c16f_ {w : World} {g : Nat} {t : TypeId} {x0 x1 x2 x3 x4 x5 x6 x7 x8 x9 x10 x11 x12 x13 x14 x15 : Value} (h : w.heap[g]? = some (.cells #[x0, x1, x2, x3, x4, x5, x6, x7, x8, x9, x10, x11, x12, x13, x14, x15] t (0, 0))) : w.cell? ⟨g, 0, none⟩ = some x0 ∧ w.cell? ⟨g, 1, none⟩ = some x1 ∧ w.cell? ⟨g, 2, none⟩ = some x2 ∧ w.cell? ⟨g, 3, none⟩ = some x3 ∧ w.cell? ⟨g, 4, none⟩ = some x4 ∧ w.cell? ⟨g, 5, none⟩ = some x5 ∧ w.cell? ⟨g, 6, none⟩ = some x6 ∧ w.cell? ⟨g, 7, none⟩ = some x7 ∧ w.cell? ⟨g, 8, none⟩ = some x8 ∧ w.cell? ⟨g, 9, none⟩ = some x9 ∧ w.cell? ⟨g, 10, none⟩ = some x10 ∧ w.cell? ⟨g, 11, none⟩ = some x11 ∧ w.cell? ⟨g, 12, none⟩ = some x12 ∧ w.cell? ⟨g, 13, none⟩ = some x13 ∧ w.cell? ⟨g, 14, none⟩ = some x14 ∧ w.cell? ⟨g, 15, none⟩ = some x15 ∧ w.frozen? ⟨g, 0, none⟩ = false ∧ w.frozen? ⟨g, 1, none⟩ = false ∧ w.frozen? ⟨g, 2, none⟩ = false ∧ w.frozen? ⟨g, 3, none⟩ = false ∧ w.frozen? ⟨g, 4, none⟩ = false ∧ w.frozen? ⟨g, 5, none⟩ = false ∧ w.frozen? ⟨g, 6, none⟩ = false ∧ w.frozen? ⟨g, 7, none⟩ = false ∧ w.frozen? ⟨g, 8, none⟩ = false ∧ w.frozen? ⟨g, 9, none⟩ = false ∧ w.frozen? ⟨g, 10, none⟩ = false ∧ w.frozen? ⟨g, 11, none⟩ = false ∧ w.frozen? ⟨g, 12, none⟩ = false ∧ w.frozen? ⟨g, 13, none⟩ = false ∧ w.frozen? ⟨g, 14, none⟩ = false ∧ w.frozen? ⟨g, 15, none⟩ = false := ⟨blk_cell h 0, blk_cell h 1, blk_cell h 2, blk_cell h 3, blk_cell h 4, blk_cell h 5, blk_cell h 6, blk_cell h 7, blk_cell h 8, blk_cell h 9, blk_cell h 10, blk_cell h 11, blk_cell h 12, blk_cell h 13, blk_cell h 14, blk_cell h 15, blk_frozen h 0, blk_frozen h 1, blk_frozen h 2, blk_frozen h 3, blk_frozen h 4, blk_frozen h 5, blk_frozen h 6, blk_frozen h 7, blk_frozen h 8, blk_frozen h 9, blk_frozen h 10, blk_frozen h 11, blk_frozen h 12, blk_frozen h 13, blk_frozen h 14, blk_frozen h 15⟩
theorem a0_ {p : Prop} (h : p := by repeat (first | (with_reducible first | exact HB.out | apply below_alloc | apply pw_below_drewN | apply below_drew1) | exact HB.out)) : p := h
theorem a1_ {p : Prop} (h : p := by (try simp only [List.map_toArray, List.map_cons, List.map_nil]); first | done | rfl | (simp only [List.length_drop, List.length_take]; rfl)) : p := h
theorem a2_ {p : Prop} (h : p := by repeat (first | (with_reducible first | exact HB.out | apply below_alloc | apply pw_below_drewN | apply below_drew1 | refine below_set ?_ GE202.out) | exact HB.out)) : p := h
theorem a3_ {p : Prop} (h : p := by first | (with_reducible assumption) | assumption) : p := h
theorem a4_ {p : Prop} (h : p := by (with_reducible repeat (first | refine blk_drewN ?_ _ | refine blk_drew ?_ | refine blk_alloc ?_ _)); exact BK202.out) : p := h
theorem a5_ {p : Prop} (h : p := by first | rfl | (simp; done) | (simp [*]; done)) : p := h
theorem a6_ {p : Prop} (h : p := by (with_reducible repeat (first | refine blk_drewN ?_ _ | refine blk_drew ?_ | refine blk_alloc ?_ _)); exact BK132.out) : p := h
theorem a7_ {p : Prop} (h : p := by repeat (first | (with_reducible first | exact HB.out | apply below_alloc | apply pw_below_drewN | apply below_drew1 | refine below_set ?_ GE132.out) | exact HB.out)) : p := h
theorem a8_ {p : Prop} (h : p := by repeat (first | (with_reducible first | exact HB.out | apply below_alloc | apply pw_below_drewN | apply below_drew1 | refine below_set ?_ GE132.out | refine below_set ?_ GE134.out) | exact HB.out)) : p := h
theorem a9_ {p : Prop} (h : p := by repeat (first | (with_reducible first | exact HB.out | apply below_alloc | apply pw_below_drewN | apply below_drew1 | refine below_set ?_ GE183.out) | exact HB.out)) : p := h
theorem a10_ {p : Prop} (h : p := by repeat (first | (with_reducible first | exact HB.out | apply below_alloc | apply pw_below_drewN | apply below_drew1 | refine below_set ?_ GE210.out) | exact HB.out)) : p := h
theorem a11_ {p : Prop} (h : p := by (with_reducible repeat (first | refine blk_drewN ?_ _ | refine blk_drew ?_ | refine blk_alloc ?_ _)); exact BK183.out) : p := h
theorem a12_ {p : Prop} (h : p := by repeat (first | (with_reducible first | exact HB.out | apply below_alloc | apply pw_below_drewN | apply below_drew1 | refine below_set ?_ GE261.out | refine below_set ?_ GE262.out | refine below_set ?_ GE263.out) | exact HB.out)) : p := h
theorem a13_ {p : Prop} (h : p := by (with_reducible repeat (first | refine blk_drewN ?_ _ | refine blk_drew ?_ | refine blk_alloc ?_ _)); exact BK210.out) : p := h
theorem a14_ {p : Prop} (h : p := by (with_reducible repeat (first | refine blk_drewN ?_ _ | refine blk_drew ?_ | refine blk_alloc ?_ _)); exact BK134.out) : p := h
theorem a15_ {p : Prop} (h : p := by (with_reducible repeat (first | refine blk_drewN ?_ _ | refine blk_drew ?_ | refine blk_alloc ?_ _)); exact BK261.out) : p := h
theorem a16_ {p : Prop} (h : p := by (with_reducible repeat (first | refine blk_drewN ?_ _ | refine blk_drew ?_ | refine blk_alloc ?_ _)); refine blk_put (cs := #[.string a0_3, .int .i64 a0_4, .bool false]) ?_ 2 _ rfl; (with_reducible repeat (first | refine blk_drewN ?_ _ | refine blk_drew ?_ | refine blk_alloc ?_ _)); refine blk_put (cs := #[.string a0_3, .int .i64 0, .bool false]) ?_ 1 _ rfl; (with_reducible repeat (first | refine blk_drewN ?_ _ | refine blk_drew ?_ | refine blk_alloc ?_ _)); refine blk_put (cs := #[.string (⟨#[]⟩ : ByteArray), .int .i64 0, .bool false]) ?_ 0 _ rfl; (with_reducible repeat (first | refine blk_drewN ?_ _ | refine blk_drew ?_ | refine blk_alloc ?_ _)); exact BK254.out) : p := h
theorem a17_ {p : Prop} (h : p := by first | (rw [add_block]; exact hn208_1) | (show (Addr.add _ _).block ≠ _; rw [add_block]; exact hn208_1) | exact hn208_1) : p := h
theorem a18_ {p : Prop} (h : p := by first | (rw [add_block]; exact hn208_0) | (show (Addr.add _ _).block ≠ _; rw [add_block]; exact hn208_0) | exact hn208_0) : p := h
theorem a19_ {p : Prop} (h : p := by (with_reducible repeat (first | refine blk_drewN ?_ _ | refine blk_drew ?_ | refine blk_alloc ?_ _)); exact BK262.out) : p := h
theorem a20_ {p : Prop} (h : p := by have := World.block_lt_of_cell? _ _ hx208_0; first | rwa [add_block] at this | exact this) : p := h
theorem a21_ {p : Prop} (h : p := by have := World.block_lt_of_cell? _ _ hw266_2; first | rwa [add_block] at this | exact this) : p := h
theorem a22_ {p : Prop} (h : p := by have := World.block_lt_of_cell? _ _ hw266_1; first | rwa [add_block] at this | exact this) : p := h
theorem a23_ {p : Prop} (h : p := by have := World.block_lt_of_cell? _ _ hw266_0; first | rwa [add_block] at this | exact this) : p := h
theorem a24_ {p : Prop} (h : p := by have := World.block_lt_of_cell? _ _ hw265_2; first | rwa [add_block] at this | exact this) : p := h
theorem a25_ {p : Prop} (h : p := by have := World.block_lt_of_cell? _ _ hw265_1; first | rwa [add_block] at this | exact this) : p := h
theorem a26_ {p : Prop} (h : p := by have := World.block_lt_of_cell? _ _ hw265_0; first | rwa [add_block] at this | exact this) : p := h
theorem a27_ {p : Prop} (h : p := by have := World.block_lt_of_cell? _ _ hw264_2; first | rwa [add_block] at this | exact this) : p := h
theorem a28_ {p : Prop} (h : p := by have := World.block_lt_of_cell? _ _ hw264_1; first | rwa [add_block] at this | exact this) : p := h
theorem a29_ {p : Prop} (h : p := by have := World.block_lt_of_cell? _ _ hw264_0; first | rwa [add_block] at this | exact this) : p := h
theorem a30_ {p : Prop} (h : p := by (with_reducible repeat (first | refine blk_drewN ?_ _ | refine blk_drew ?_ | refine blk_alloc ?_ _)); exact BK263.out) : p := h
theorem a31_ {p : Prop} (h : p := by simp only [putAll, Act.put, List.setIfInBounds_toArray, List.set_cons_zero, List.set_cons_succ]) : p := h
theorem a32_ {p : Prop} (h : p := by (with_reducible repeat (first | refine blk_drewN ?_ _ | refine blk_drew ?_ | refine blk_alloc ?_ _)); refine blk_put (cs := #[.string ((rd_T27 l0 x10_1).f0), .int .i64 ((rd_T27 l0 x10_1).f1), .bool false]) ?_ 2 _ rfl; (with_reducible repeat (first | refine blk_drewN ?_ _ | refine blk_drew ?_ | refine blk_alloc ?_ _)); refine blk_put (cs := #[.string ((rd_T27 l0 x10_1).f0), .int .i64 0, .bool false]) ?_ 1 _ rfl; (with_reducible repeat (first | refine blk_drewN ?_ _ | refine blk_drew ?_ | refine blk_alloc ?_ _)); refine blk_put (cs := #[.string (⟨#[]⟩ : ByteArray), .int .i64 0, .bool false]) ?_ 0 _ rfl; (with_reducible repeat (first | refine blk_drewN ?_ _ | refine blk_drew ?_ | refine blk_alloc ?_ _)); exact BK103.out) : p := h
theorem a33_ {p : Prop} (h : p := by (with_reducible repeat (first | refine blk_drewN ?_ _ | refine blk_drew ?_ | refine blk_alloc ?_ _)); refine blk_put (cs := #[.string a0_0, .int .i64 a0_1, .bool false]) ?_ 2 _ rfl; (with_reducible repeat (first | refine blk_drewN ?_ _ | refine blk_drew ?_ | refine blk_alloc ?_ _)); refine blk_put (cs := #[.string a0_0, .int .i64 0, .bool false]) ?_ 1 _ rfl; (with_reducible repeat (first | refine blk_drewN ?_ _ | refine blk_drew ?_ | refine blk_alloc ?_ _)); refine blk_put (cs := #[.string (⟨#[]⟩ : ByteArray), .int .i64 0, .bool false]) ?_ 0 _ rfl; (with_reducible repeat (first | refine blk_drewN ?_ _ | refine blk_drew ?_ | refine blk_alloc ?_ _)); exact BK254.out) : p := h
theorem a34_ {p : Prop} (h : p := by (with_reducible repeat (first | refine blk_drewN ?_ _ | refine blk_drew ?_ | refine blk_alloc ?_ _)); exact BK253.out) : p := h
theorem a35_ {p : Prop} (h : p := by (with_reducible repeat (first | apply Kd.R_alloc | apply Kd.R_drewN | apply Kd.R_drew)); exact HO145.out) : p := h
theorem a36_ {p : Prop} (h : p := by repeat (first | (with_reducible first | exact HB.out | apply below_alloc | apply pw_below_drewN | apply below_drew1 | refine below_set ?_ GE195.out) | exact HB.out)) : p := h
theorem a37_ {p : Prop} (h : p := by repeat (first | (with_reducible first | exact HB.out | apply below_alloc | apply pw_below_drewN | apply below_drew1 | refine below_set ?_ GE105.out) | exact HB.out)) : p := h
theorem a38_ {p : Prop} (h : p := by (with_reducible repeat (first | apply Kd.R_alloc | apply Kd.R_drewN | apply Kd.R_drew)); exact HO142.out) : p := h
theorem a39_ {p : Prop} (h : p := by (with_reducible repeat (first | apply Kd.R_alloc | apply Kd.R_drewN | apply Kd.R_drew)); exact HO138.out) : p := h
theorem a40_ {p : Prop} (h : p := by repeat (first | (with_reducible first | exact HB.out | apply below_alloc | apply pw_below_drewN | apply below_drew1 | refine below_set ?_ GE261.out | refine below_set ?_ GE262.out) | exact HB.out)) : p := h
theorem a41_ {p : Prop} (h : p := by repeat (first | (with_reducible first | exact HB.out | apply below_alloc | apply pw_below_drewN | apply below_drew1 | refine below_set ?_ GE253.out | refine below_set ?_ GE254.out) | exact HB.out)) : p := h
theorem a42_ {p : Prop} (h : p := by (with_reducible repeat (first | refine blk_drewN ?_ _ | refine blk_drew ?_ | refine blk_alloc ?_ _)); exact BK195.out) : p := h
theorem a43_ {p : Prop} (h : p := by (with_reducible repeat (first | refine blk_drewN ?_ _ | refine blk_drew ?_ | refine blk_alloc ?_ _)); exact BK105.out) : p := h
theorem a44_ {p : Prop} (h : p := by repeat (first | (with_reducible first | exact HB.out | apply below_alloc | apply pw_below_drewN | apply below_drew1 | refine below_set ?_ GE261.out) | exact HB.out)) : p := h
theorem a45_ {p : Prop} (h : p := by repeat (first | (with_reducible first | exact HB.out | apply below_alloc | apply pw_below_drewN | apply below_drew1 | refine below_set ?_ GE253.out) | exact HB.out)) : p := h
theorem a46_ {p : Prop} (h : p := by repeat (first | (with_reducible first | exact HB.out | apply below_alloc | apply pw_below_drewN | apply below_drew1 | refine below_set ?_ GE115.out) | exact HB.out)) : p := h
theorem a47_ {p : Prop} (h : p := by (with_reducible repeat (first | refine blk_drewN ?_ _ | refine blk_drew ?_ | refine blk_alloc ?_ _)); exact BK254.out) : p := h
theorem a48_ {p : Prop} (h : p := by (with_reducible repeat (first | refine blk_drewN ?_ _ | refine blk_drew ?_ | refine blk_alloc ?_ _)); exact BK115.out) : p := h
theorem a49_ {p : Prop} (h : p := by repeat (first | (with_reducible first | exact HB.out | apply below_alloc | apply pw_below_drewN | apply below_drew1 | refine below_set ?_ GE132.out | refine below_set ?_ GE156.out) | exact HB.out)) : p := h
theorem a50_ {p : Prop} (h : p := by first | exact Nat.ne_of_lt (Nat.lt_of_lt_of_le a29_ GW263.out) | (rw [add_block]; exact Nat.ne_of_lt (Nat.lt_of_lt_of_le a29_ GW263.out)) | (show (Addr.add _ _).block ≠ _; rw [add_block]; exact Nat.ne_of_lt (Nat.lt_of_lt_of_le a29_ GW263.out)) | (dsimp only; exact Nat.ne_of_lt (Nat.lt_of_lt_of_le a29_ GW263.out))) : p := h
theorem a51_ {p : Prop} (h : p := by first | exact Nat.ne_of_lt (Nat.lt_of_lt_of_le a28_ GW263.out) | (rw [add_block]; exact Nat.ne_of_lt (Nat.lt_of_lt_of_le a28_ GW263.out)) | (show (Addr.add _ _).block ≠ _; rw [add_block]; exact Nat.ne_of_lt (Nat.lt_of_lt_of_le a28_ GW263.out)) | (dsimp only; exact Nat.ne_of_lt (Nat.lt_of_lt_of_le a28_ GW263.out))) : p := h
theorem a52_ {p : Prop} (h : p := by first | exact Nat.ne_of_lt (Nat.lt_of_lt_of_le a27_ GW263.out) | (rw [add_block]; exact Nat.ne_of_lt (Nat.lt_of_lt_of_le a27_ GW263.out)) | (show (Addr.add _ _).block ≠ _; rw [add_block]; exact Nat.ne_of_lt (Nat.lt_of_lt_of_le a27_ GW263.out)) | (dsimp only; exact Nat.ne_of_lt (Nat.lt_of_lt_of_le a27_ GW263.out))) : p := h
theorem a53_ {p : Prop} (h : p := by first | exact Nat.ne_of_lt (Nat.lt_of_lt_of_le a26_ GW263.out) | (rw [add_block]; exact Nat.ne_of_lt (Nat.lt_of_lt_of_le a26_ GW263.out)) | (show (Addr.add _ _).block ≠ _; rw [add_block]; exact Nat.ne_of_lt (Nat.lt_of_lt_of_le a26_ GW263.out)) | (dsimp only; exact Nat.ne_of_lt (Nat.lt_of_lt_of_le a26_ GW263.out))) : p := h
theorem a54_ {p : Prop} (h : p := by first | exact Nat.ne_of_lt (Nat.lt_of_lt_of_le a25_ GW263.out) | (rw [add_block]; exact Nat.ne_of_lt (Nat.lt_of_lt_of_le a25_ GW263.out)) | (show (Addr.add _ _).block ≠ _; rw [add_block]; exact Nat.ne_of_lt (Nat.lt_of_lt_of_le a25_ GW263.out)) | (dsimp only; exact Nat.ne_of_lt (Nat.lt_of_lt_of_le a25_ GW263.out))) : p := h
theorem a55_ {p : Prop} (h : p := by first | exact Nat.ne_of_lt (Nat.lt_of_lt_of_le a24_ GW263.out) | (rw [add_block]; exact Nat.ne_of_lt (Nat.lt_of_lt_of_le a24_ GW263.out)) | (show (Addr.add _ _).block ≠ _; rw [add_block]; exact Nat.ne_of_lt (Nat.lt_of_lt_of_le a24_ GW263.out)) | (dsimp only; exact Nat.ne_of_lt (Nat.lt_of_lt_of_le a24_ GW263.out))) : p := h
theorem a56_ {p : Prop} (h : p := by first | exact Nat.ne_of_lt (Nat.lt_of_lt_of_le a23_ GW263.out) | (rw [add_block]; exact Nat.ne_of_lt (Nat.lt_of_lt_of_le a23_ GW263.out)) | (show (Addr.add _ _).block ≠ _; rw [add_block]; exact Nat.ne_of_lt (Nat.lt_of_lt_of_le a23_ GW263.out)) | (dsimp only; exact Nat.ne_of_lt (Nat.lt_of_lt_of_le a23_ GW263.out))) : p := h
theorem a57_ {p : Prop} (h : p := by first | exact Nat.ne_of_lt (Nat.lt_of_lt_of_le a22_ GW263.out) | (rw [add_block]; exact Nat.ne_of_lt (Nat.lt_of_lt_of_le a22_ GW263.out)) | (show (Addr.add _ _).block ≠ _; rw [add_block]; exact Nat.ne_of_lt (Nat.lt_of_lt_of_le a22_ GW263.out)) | (dsimp only; exact Nat.ne_of_lt (Nat.lt_of_lt_of_le a22_ GW263.out))) : p := h
theorem a58_ {p : Prop} (h : p := by first | exact Nat.ne_of_lt (Nat.lt_of_lt_of_le a21_ GW263.out) | (rw [add_block]; exact Nat.ne_of_lt (Nat.lt_of_lt_of_le a21_ GW263.out)) | (show (Addr.add _ _).block ≠ _; rw [add_block]; exact Nat.ne_of_lt (Nat.lt_of_lt_of_le a21_ GW263.out)) | (dsimp only; exact Nat.ne_of_lt (Nat.lt_of_lt_of_le a21_ GW263.out))) : p := h
end Go.Proofs.YtjoaeennbfmohaaDoor.PFnZone
