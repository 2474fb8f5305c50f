/- The walks of dataIO: what read, big4 and big8 hand back and leave, for a reader over any row of bytes that lies in memory. Conditions: the row has as many bytes as it says. -/
import Derived.Test.YtjoaeennbfmohaaDoorC0
import Derived.Lib.EndianBits
import Derived.Outline
namespace Go.Proofs.YtjoaeennbfmohaaDoor
open Go.RowKit Go.Proofs.YtjoaeennbfmohaaDoorW.PrintWords
set_option linter.unusedVariables false
set_option linter.unusedSimpArgs false

/-- The address behind a cut at m: it stays where nothing of the capacity is left. -/
def cutA (A : Option Addr) (c m : Nat) : Option Addr := if c = m then A else A.map (·.add m)

theorem cut_reads {w : World} {k : IntKind} {A : Option Addr} {n c : Nat} {xs : List Int} (h : ReadsInt w k A n xs) (m : Nat) (hm : m ≤ n) (hc : n ≤ c) : ReadsInt w k (cutA A c m) (n - m) (xs.drop m) := h.drop_ m hm hc

theorem add_zero' (a : Addr) : a.add 0 = a := by simp [Addr.add]
theorem map_add_zero (A : Option Addr) : A.map (·.add 0) = A := by cases A <;> simp [add_zero']

theorem info5s : (Tryd.prog.info? 5).map (fun i => (i.zero, i.size, i.bytes)) = some (some (.int .u8 0), 1, 1) := by kernel_rfl

theorem slice_tail (A : Option Addr) (n c m : Nat) (hm : m ≤ n) (W : World) : (Instr.slice 62 (.slice A n c) (some (.int .i64 (m : Int))) none none).run Tryd.prog W = .ok (.slice (cutA A c m) (n - m) (c - m)) W := by
  obtain ⟨i0, hi, hz0, hz1, hz2⟩ := info_parts info5s
  have hel : Tryd.prog.elem 62 = 5 := by simp [Program.elem, Tryd.underlying62]
  have hu : Tryd.prog.underlying 62 = some (.slice (Tryd.prog.elem 62)) := by rw [hel]; exact Tryd.underlying62
  rw [run_slice_l W 62 A n c hu .i64 (m : Int) (Int.natCast_nonneg _) (by omega), hel]
  simp [sizeOf, typeInfo, hi, hz1, sliced, Result.andThen, cutA]
theorem slice_head (A : Option Addr) (n c m : Nat) (hm : m ≤ c) (W : World) : (Instr.slice 62 (.slice A n c) (some (.int .i64 0)) (some (.int .i64 (m : Int))) none).run Tryd.prog W = .ok (.slice A m c) W := by
  obtain ⟨i0, hi, hz0, hz1, hz2⟩ := info_parts info5s
  have hel : Tryd.prog.elem 62 = 5 := by simp [Program.elem, Tryd.underlying62]
  have hu : Tryd.prog.underlying 62 = some (.slice (Tryd.prog.elem 62)) := by rw [hel]; exact Tryd.underlying62
  rw [run_slice_lh W 62 A n c hu .i64 .i64 0 (m : Int) (Int.le_refl _) (Int.natCast_nonneg _) (by omega), hel]
  simp [sizeOf, typeInfo, hi, hz1, sliced, Result.andThen, map_add_zero]

/-- dataIO.read, where enough is left. -/
theorem read_calls (g : Nat) (A : Option Addr) (n c m : Nat) (hm : m ≤ n) (hnc : n ≤ c) (hn : n ≤ 9223372036854775807) (w : World) (h0 : w.cell? ⟨g, 0, none⟩ = some (.slice A n c)) (hf : w.frozen? ⟨g, 0, none⟩ = false) :
    Calls Tryd.prog 37 #[.pointer (some ⟨g, 0, none⟩), .int .i64 (m : Int)] w fun e w' => e = .returned (.slice A m c) ∧ w.setCell ⟨g, 0, none⟩ (.slice (cutA A c m) (n - m) (c - m)) = w' := by
  have h1 := slice_head A n c m (by omega)
  have h2 := slice_tail A n c m hm
  have h3 : decide (n < m) = false := by simp; omega
  go_enter Tryd.func37, Tryd.ntmps37
  go_wp2
  go_ret
  exact ⟨rfl, rfl⟩

/-- dataIO.rest. -/
theorem rest_calls (g : Nat) (v : Value) (hv : ∃ A n c, v = .slice A n c) (w : World) (h0 : w.cell? ⟨g, 0, none⟩ = some v) (hf : w.frozen? ⟨g, 0, none⟩ = false) :
    Calls Tryd.prog 39 #[.pointer (some ⟨g, 0, none⟩)] w fun e w' => e = .returned v ∧ w.setCell ⟨g, 0, none⟩ (.slice none 0 0) = w' := by
  obtain ⟨A, n, c, rfl⟩ := hv
  go_enter Tryd.func39, Tryd.ntmps39
  go_wp2
  go_ret
  exact ⟨rfl, rfl⟩

def be4 (xs : List Int) : Int := xs.getD 3 0 + xs.getD 2 0 * 256 + xs.getD 1 0 * 65536 + xs.getD 0 0 * 16777216

theorem be4_bits (x0 x1 x2 x3 : Int) (h0 : 0 ≤ x0 ∧ x0 < 256) (h1 : 0 ≤ x1 ∧ x1 < 256) (h2 : 0 ≤ x2 ∧ x2 < 256) (h3 : 0 ≤ x3 ∧ x3 < 256) :
    bits .or .u32 (bits .or .u32 (bits .or .u32 x3 (x2 * 256)) (x1 * 65536)) (x0 * 16777216) = x3 + x2 * 256 + x1 * 65536 + x0 * 16777216 := by
  have e1 := u32_or8 x3 (x2 * 256) (by omega) (by omega) (by omega) (by omega) (by omega)
  have e2 := u32_or16 (x3 + x2 * 256) (x1 * 65536) (by omega) (by omega) (by omega) (by omega) (by omega)
  have e3 := u32_or24 (x3 + x2 * 256 + x1 * 65536) (x0 * 16777216) (by omega) (by omega) (by omega) (by omega) (by omega)
  rw [e1, e2, e3]

/-- Bytes that lie in memory that was there already: n of them, with room for c. -/
structure Src (w0 : World) (A : Option Addr) (n c : Nat) (xs : List Int) : Prop where
  reads : ReadsInt w0 .u8 A n xs
  cap : n ≤ c
  old : ∀ ad, A = some ad → ad.block < w0.heap.size
  byte : ∀ x ∈ xs, 0 ≤ x ∧ x < 256

theorem Src.len {w0 : World} {A : Option Addr} {n c : Nat} {xs : List Int} (h : Src w0 A n c xs) : xs.length = n := h.reads.1
theorem Src.le {w0 : World} {A : Option Addr} {n c : Nat} {xs : List Int} (h : Src w0 A n c xs) : n ≤ 9223372036854775807 := h.reads.2.1
theorem Src.cut {w0 : World} {A : Option Addr} {n c : Nat} {xs : List Int} (h : Src w0 A n c xs) (m : Nat) (hm : m ≤ n) : Src w0 (cutA A c m) (n - m) (c - m) (xs.drop m) := by
  refine ⟨cut_reads h.reads m hm h.cap, by have := h.cap; omega, fun ad e => ?_, fun x hx => h.byte x (List.mem_of_mem_drop hx)⟩
  unfold cutA at e
  split at e
  · exact h.old ad e
  · obtain ⟨a, ha, rfl⟩ := Option.map_eq_some_iff.1 e
    have := h.old a ha
    unfold Addr.add
    split <;> exact this
theorem Src.head {w0 : World} {A : Option Addr} {n c : Nat} {xs : List Int} (h : Src w0 A n c xs) (m : Nat) (hm : m ≤ n) : Src w0 A m c (xs.take m) :=
  ⟨h.reads.take_ m hm, by have := h.cap; omega, h.old, fun x hx => h.byte x (List.mem_of_mem_take hx)⟩
theorem Src.at_ {w0 w : World} {A : Option Addr} {n c : Nat} {xs : List Int} (h : Src w0 A n c xs) (hb : Below w0.heap.size w0 w) (hn : 0 < n) : ∃ b o sp, A = some ⟨b, o, sp⟩ ∧ b < w0.heap.size ∧ w.cell? ⟨b, o, sp⟩ = some (.int .u8 (xs.getD 0 0)) ∧ ∀ j, 0 < j → j < n → w.cell? ⟨b, o + j, none⟩ = some (.int .u8 (xs.getD j 0)) := by
  obtain ⟨⟨b, o, sp⟩, rfl, hc⟩ := h.reads.2.2 hn
  have ho : b < w0.heap.size := h.old _ rfl
  refine ⟨b, o, sp, rfl, ho, ?_, fun j h0 hj => ?_⟩
  · have := hc 0 hn
    rw [add_zero'] at this
    rw [hb.cell (p := ⟨b, o, sp⟩) ho]
    exact this
  · have := hc j hj
    rw [hb.cell (p := ⟨b, o + j, none⟩) ho]
    unfold Addr.add at this
    rw [if_neg (by omega)] at this
    exact this
theorem Src.bounds {w0 : World} {A : Option Addr} {n c : Nat} {xs : List Int} (h : Src w0 A n c xs) (j : Nat) : 0 ≤ xs.getD j 0 ∧ xs.getD j 0 < 256 := by
  rw [List.getD_eq_getElem?_getD]
  rcases Nat.lt_or_ge j xs.length with h' | h'
  · rw [List.getElem?_eq_getElem h']; exact h.byte _ (List.getElem_mem h')
  · rw [List.getElem?_eq_none h']; exact ⟨by simp, by simp⟩
theorem below_cell {B : Nat} {w0 w : World} (h : Below B w0 w) (g o : Nat) (v : Value) (hg : B ≤ g) : Below B w0 (w.setCell ⟨g, o, none⟩ v) := h.setCell hg v
theorem below_drewN' {B : Nat} {w0 w : World} (h : Below B w0 w) (k : Nat) : Below B w0 (w.drewN k) := pw_below_drewN h k

theorem setCell_twice (w : World) (g o : Nat) (v v' : Value) : (w.setCell ⟨g, o, none⟩ v).setCell ⟨g, o, none⟩ v' = w.setCell ⟨g, o, none⟩ v' := by
  unfold World.setCell
  congr 1
  apply Array.ext_getElem?
  intro k
  simp only [Array.getElem?_modify]
  split
  · rename_i h
    subst h
    cases w.heap[g]? with
    | none => rfl
    | some ob => cases ob <;> simp
  · rfl

/-- What dataIO.read leaves: the place behind the m bytes. -/
def cutV (A : Option Addr) (n c m : Nat) : Value := .slice (cutA A c m) (n - m) (c - m)

set_option maxHeartbeats 1000000 in
theorem big4_calls (g : Nat) (A : Option Addr) (n c : Nat) (xs : List Int) (w0 w : World) (hs : Src w0 A n c xs) (hB : Below w0.heap.size w0 w) (hg : w0.heap.size ≤ g) (hn4 : 4 ≤ n) (h0 : w.cell? ⟨g, 0, none⟩ = some (.slice A n c)) (hf : w.frozen? ⟨g, 0, none⟩ = false) :
    Calls Tryd.prog 38 #[.pointer (some ⟨g, 0, none⟩)] w fun e w' => e = .returned (.tuple #[.int .u32 (be4 xs), .bool true]) ∧ ∃ k, (w.setCell ⟨g, 0, none⟩ (cutV A n c 4)).drewN k = w' := by
  have hnc := hs.cap
  have hn := hs.le
  obtain ⟨b, o, sp, rfl, ho, c0, cj⟩ := hs.at_ (below_cell hB g 0 (cutV A n c 4) hg) (by omega)
  have c1 := cj 1 (by omega) (by omega)
  have c2 := cj 2 (by omega) (by omega)
  have c3 := cj 3 (by omega) (by omega)
  clear cj
  have b0 := hs.bounds 0
  have b1 := hs.bounds 1
  have b2 := hs.bounds 2
  have b3 := hs.bounds 3
  have Be : Aside0 (be4 xs = xs.getD 3 0 + xs.getD 2 0 * 256 + xs.getD 1 0 * 65536 + xs.getD 0 0 * 16777216) := ⟨rfl⟩
  clear hs hB
  generalize xs.getD 0 0 = x0 at c0 b0 Be
  generalize xs.getD 1 0 = x1 at c1 b1 Be
  generalize xs.getD 2 0 = x2 at c2 b2 Be
  generalize xs.getD 3 0 = x3 at c3 b3 Be
  go_enter Tryd.func38, Tryd.ntmps38
  go_wp2_with (go_at_call 37; refine (read_calls g _ n c 4 hn4 hnc hn _ h0 hf).mono ?_; rintro e w' ⟨rfl, hw'⟩; change w.setCell ⟨g, 0, none⟩ (cutV _ n c 4) = w' at hw'; rw [hw'] at c0 c1 c2 c3; have HW := Aside0.mk hw'; clear hw' h0 hf)
  go_quiet (fail)
  go_wp2
  go_ret2
  refine ⟨?_, nq, by rw [HW.out]⟩
  show Ending.returned (.tuple #[.int .u32 _, .bool true]) = _
  rw [be4_bits x0 x1 x2 x3 b0 b1 b2 b3, ← Be.out]

/-- dataIO.byte. -/
theorem byte_calls (g : Nat) (A : Option Addr) (n c : Nat) (xs : List Int) (w0 w : World) (hs : Src w0 A n c xs) (hB : Below w0.heap.size w0 w) (hg : w0.heap.size ≤ g) (hn1 : 1 ≤ n) (h0 : w.cell? ⟨g, 0, none⟩ = some (.slice A n c)) (hf : w.frozen? ⟨g, 0, none⟩ = false) :
    Calls Tryd.prog 40 #[.pointer (some ⟨g, 0, none⟩)] w fun e w' => e = .returned (.tuple #[.int .u8 (xs.getD 0 0), .bool true]) ∧ w.setCell ⟨g, 0, none⟩ (cutV A n c 1) = w' := by
  have hnc := hs.cap
  have hn := hs.le
  obtain ⟨b, o, sp, rfl, ho, c0, cj⟩ := hs.at_ (below_cell hB g 0 (cutV A n c 1) hg) (by omega)
  clear cj hs hB
  generalize xs.getD 0 0 = x0 at c0
  go_enter Tryd.func40, Tryd.ntmps40
  go_wp2_with (go_at_call 37; refine (read_calls g _ n c 1 hn1 hnc hn _ h0 hf).mono ?_; rintro e w' ⟨rfl, hw'⟩; change w.setCell ⟨g, 0, none⟩ (cutV _ n c 1) = w' at hw'; rw [hw'] at c0; have HW := Aside0.mk hw'; clear hw' h0 hf)
  go_ret2
  exact ⟨rfl, HW.out⟩

def be8 (xs : List Int) : Int := be4 xs * 4294967296 + be4 (xs.drop 4)
theorem be4_range {w0 : World} {A : Option Addr} {n c : Nat} {xs : List Int} (h : Src w0 A n c xs) : 0 ≤ be4 xs ∧ be4 xs < 4294967296 := by
  have b0 := h.bounds 0
  have b1 := h.bounds 1
  have b2 := h.bounds 2
  have b3 := h.bounds 3
  unfold be4
  omega
theorem cutA_cutA (A : Option Addr) (c a b : Nat) (h : a + b ≤ c) : cutA (cutA A c a) (c - a) b = cutA A c (a + b) ∨ (b = 0 ∧ cutA (cutA A c a) (c - a) b = cutA A c a) ∨ (c = a + b) := by
  by_cases e : c = a + b
  · exact .inr (.inr e)
  · refine .inl ?_
    unfold cutA
    rw [if_neg (by omega), if_neg (by omega), if_neg e]
    cases A with
    | none => rfl
    | some ad => simp [Addr.add]; by_cases h1 : a = 0 <;> by_cases h2 : b = 0 <;> simp [h1, h2, Nat.add_assoc]

theorem be8_bits (x1 x2 : Int) (r1 : 0 ≤ x1 ∧ x1 < 4294967296) (r2 : 0 ≤ x2 ∧ x2 < 4294967296) : bits .or .u64 (x1 * 4294967296) x2 = x1 * 4294967296 + x2 :=
  bits_join .u64 64 (by decide) wraps_u64 32 (x1 * 4294967296) x2 (by omega) (by omega) (by omega) (by omega) (by omega) (by omega)

set_option maxHeartbeats 1000000 in
theorem big8_calls (g : Nat) (A : Option Addr) (n c : Nat) (xs : List Int) (w0 w : World) (hs : Src w0 A n c xs) (hB : Below w0.heap.size w0 w) (hg : w0.heap.size ≤ g) (hn8 : 8 ≤ n) (h0 : w.cell? ⟨g, 0, none⟩ = some (.slice A n c)) (hf : w.frozen? ⟨g, 0, none⟩ = false) :
    Calls Tryd.prog 42 #[.pointer (some ⟨g, 0, none⟩)] w fun e w' => e = .returned (.tuple #[.int .u64 (be8 xs), .bool true]) ∧ ∃ k, (w.setCell ⟨g, 0, none⟩ (cutV (cutA A c 4) (n - 4) (c - 4) 4)).drewN k = w' := by
  have hs2 := hs.cut 4 (by omega)
  have r1 := be4_range hs
  have r2 := be4_range hs2
  have HS := Aside0.mk hs
  have HS2 := Aside0.mk hs2
  have HB := Aside0.mk hB
  have H0 := Aside0.mk h0
  have Be : Aside0 (be8 xs = be4 xs * 4294967296 + be4 (xs.drop 4)) := ⟨rfl⟩
  clear hs hs2 hB
  generalize hx1 : be4 xs = x1 at r1 Be
  generalize hx2 : be4 (xs.drop 4) = x2 at r2 Be
  have X1 := Aside0.mk hx1
  have X2 := Aside0.mk hx2
  clear hx1 hx2
  go_enter Tryd.func42, Tryd.ntmps42
  go_wp2_with fail
  refine (big4_calls g A n c xs w0 _ HS.out HB.out hg (by omega) h0 hf).mono ?_
  rintro e w1 ⟨rfl, k1, hw1⟩
  rw [X1.out]
  have HB1 : Aside0 (Below w0.heap.size w0 w1) := ⟨by rw [← hw1]; exact below_drewN' (below_cell HB.out g 0 _ hg) k1⟩
  have c1 : w1.cell? ⟨g, 0, none⟩ = some (.slice (cutA A c 4) (n - 4) (c - 4)) := by rw [← hw1]; exact World.cell?_setCell_same w ⟨g, 0, none⟩ _ H0.out
  have f1 : w1.frozen? ⟨g, 0, none⟩ = false := by rw [← hw1]; simpa using hf
  have HW := Aside0.mk hw1
  clear hw1 hf h0
  go_wp2_with fail
  refine (big4_calls g _ _ _ _ w0 _ HS2.out HB1.out hg (by omega) c1 f1).mono ?_
  rintro e w2 ⟨rfl, k2, hw2⟩
  rw [X2.out]
  have HW2 := Aside0.mk hw2
  clear hw2 c1 f1
  go_wp2
  go_ret2
  refine ⟨?_, k1 + k2, ?_⟩
  · show Ending.returned (.tuple #[.int .u64 _, .bool true]) = _
    rw [be8_bits x1 x2 r1 r2, ← Be.out]
  · rw [← HW2.out, ← HW.out]
    show ((w.setCell ⟨g, 0, none⟩ _).drewN (k1 + k2)) = (((w.setCell ⟨g, 0, none⟩ _).setCell ⟨g, 0, none⟩ _).drewN k1).drewN k2
    rw [World.drewN_drewN, setCell_twice]
end Go.Proofs.YtjoaeennbfmohaaDoor
