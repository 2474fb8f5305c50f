/- Texts as lists of bytes, and the walk of tzsetNum. Conditions: digits whose value lies inside the bounds. -/
import Derived.Test.YtjoaeennbfmohaaDoorRd
import Derived.Outline
import Derived.Deep.DeepMust
import Derived.Deep.QuietTactic
import Derived.BigQuiet
import Derived.Laws.RangeString
import Derived.Laws.RangeAny
import Derived.Laws.Strings3
import Derived.LoopTactic
namespace Go.Proofs.YtjoaeennbfmohaaDoor
open Go.RowKit Go.Proofs.YtjoaeennbfmohaaDoorW.PrintWords Go.Proofs.YtjoaeennbfmohaaDoorW.PrintLast Go.Proofs.YtjoaeennbfmohaaDoorW.PrintMore Go.Proofs.YtjoaeennbfmohaaDoor.PFnZone
set_option linter.unusedVariables false
set_option linter.unusedSimpArgs false

/-- A text by its bytes. -/
def tx (l : List UInt8) : ByteArray := ⟨l.toArray⟩
theorem tx_size (l : List UInt8) : (tx l).size = l.length := by simp [tx, ByteArray.size]
theorem tx_app (a b : List UInt8) : tx a ++ tx b = tx (a ++ b) := by
  apply ByteArray.ext
  simp [tx]
theorem tx_nil : tx [] = ⟨#[]⟩ := rfl
theorem tx_get (l : List UInt8) (i : Nat) (h : i < (tx l).size) (h' : i < l.length) : (tx l)[i]'h = l[i] := by
  show (tx l).data[i]'_ = _
  simp [tx]
theorem tx_extract (l : List UInt8) (a b : Nat) : (tx l).extract a b = tx ((l.drop a).take (b - a)) := ByteArray.extract_mk l a b

theorem len_tx (W : World) (ty : TypeId) (l : List UInt8) : (Builtin.len_ #[9] ty #[.string (tx l)]).run Tryd.prog W = .ok (goInt l.length) W := by
  rw [run_len_string W 9 ty (tx l) Tryd.underlying9, tx_size]
theorem index_tx (W : World) (l : List UInt8) (i : Nat) (h : i < l.length) : (Instr.index 9 (.string (tx l)) (.int .i64 (i : Int))).run Tryd.prog W = .ok (.int .u8 (l[i].toNat : Int)) W := by
  rw [run_index_string W 9 (tx l) .i64 i Tryd.underlying9, dif_pos ⟨by omega, by rw [tx_size]; omega⟩]
  simp only [Int.toNat_natCast, tx_get _ _ _ h]
theorem index_tx0 (W : World) (c : UInt8) (l : List UInt8) : (Instr.index 9 (.string (tx (c :: l))) (.int .i64 0)).run Tryd.prog W = .ok (.int .u8 (c.toNat : Int)) W := index_tx W (c :: l) 0 (by simp)
theorem from_tx (W : World) (l : List UInt8) (i : Nat) (h : i ≤ l.length) : (Instr.slice 9 (.string (tx l)) (some (.int .i64 (i : Int))) none none).run Tryd.prog W = .ok (.string (tx (l.drop i))) W := by
  rw [run_slice_string_from_if W 9 (tx l) .i64 i Tryd.underlying9, if_pos ⟨by omega, by rw [tx_size]; omega⟩, tx_size, tx_extract, Int.toNat_natCast, List.take_of_length_le (by rw [List.length_drop]; omega)]
theorem from_tx1 (W : World) (c : UInt8) (l : List UInt8) : (Instr.slice 9 (.string (tx (c :: l))) (some (.int .i64 1)) none none).run Tryd.prog W = .ok (.string (tx l)) W := from_tx W (c :: l) 1 (by simp)
theorem upto_tx (W : World) (l : List UInt8) (i : Nat) (h : i ≤ l.length) : (Instr.slice 9 (.string (tx l)) none (some (.int .i64 (i : Int))) none).run Tryd.prog W = .ok (.string (tx (l.take i))) W := by
  rw [run_slice_string_to_if W 9 (tx l) .i64 i Tryd.underlying9, if_pos ⟨by omega, by rw [tx_size]; omega⟩, tx_extract, Int.toNat_natCast, List.drop_zero, Nat.sub_zero]
theorem next_tx (w : World) (l : List UInt8) (pos : Nat) (ty : TypeId) (h : pos < l.length) (ha : l[pos].toNat < 128) :
    (Instr.next (.pointer (some ⟨w.heap.size, 0, none⟩)) true ty).run Tryd.prog (w.iter (tx l) pos) = .ok (.tuple #[.bool true, .int .i64 pos, .int .i32 (l[pos].toNat : Int)]) (w.iter (tx l) (pos + 1)) := by
  have h' : pos < (tx l).size := by rw [tx_size]; exact h
  rw [run_next_ascii w (tx l) pos ty h' (by rw [tx_get _ _ _ h]; exact ha), tx_get _ _ _ h]
theorem next_tx_end (w : World) (l : List UInt8) (pos : Nat) (ty : TypeId) (h : l.length ≤ pos) :
    (Instr.next (.pointer (some ⟨w.heap.size, 0, none⟩)) true ty).run Tryd.prog (w.iter (tx l) pos) = .ok (.tuple #[.bool false]) (w.iter (tx l) pos) :=
  run_next_end w (tx l) pos ty (by rw [tx_size]; omega)

/-- The number that digits tell. -/
def val (ds : List UInt8) : Int := ds.foldl (fun n d => n * 10 + ((d.toNat : Int) - 48)) 0
def Digs (ds : List UInt8) : Prop := ∀ d ∈ ds, 48 ≤ d.toNat ∧ d.toNat ≤ 57
theorem val_snoc (ds : List UInt8) (d : UInt8) : val (ds ++ [d]) = val ds * 10 + ((d.toNat : Int) - 48) := by simp [val]
theorem val_take (ds : List UInt8) (k : Nat) (h : k < ds.length) : val (ds.take (k + 1)) = val (ds.take k) * 10 + ((ds[k].toNat : Int) - 48) := by
  rw [List.take_succ_eq_append_getElem h, val_snoc]
theorem val_nonneg (ds : List UInt8) (hd : Digs ds) : ∀ k, k ≤ ds.length → 0 ≤ val (ds.take k)
  | 0, _ => by simp [val]
  | k + 1, h => by
    rw [val_take ds k (by omega)]
    have h1 := val_nonneg ds hd k (by omega)
    have h2 := hd ds[k] (List.getElem_mem _)
    omega
theorem val_up (ds : List UInt8) (hd : Digs ds) (k : Nat) : ∀ n, k + n ≤ ds.length → val (ds.take k) ≤ val (ds.take (k + n))
  | 0, _ => Int.le_refl _
  | n + 1, h => by
    have h0 := val_up ds hd k n (by omega)
    have h1 := val_nonneg ds hd (k + n) (by omega)
    have h2 := hd (ds[k + n]'(by omega)) (List.getElem_mem _)
    rw [show k + (n + 1) = (k + n) + 1 by omega, val_take ds (k + n) (by omega)]
    omega
theorem val_le (ds : List UInt8) (hd : Digs ds) (k : Nat) (h : k ≤ ds.length) : val (ds.take k) ≤ val ds := by
  have := val_up ds hd k (ds.length - k) (by omega)
  rwa [show k + (ds.length - k) = ds.length by omega, List.take_length] at this

/-- What stands behind a number ends it. -/
def Stops (rest : List UInt8) : Prop := ∀ c r, rest = c :: r → c.toNat < 48 ∨ (57 < c.toNat ∧ c.toNat < 128)

set_option maxRecDepth 100000 in
set_option maxHeartbeats 4000000 in
theorem num_calls (ds rest : List UInt8) (mn mx : Int) (hd : Digs ds) (hne : 0 < ds.length) (h0 : 0 ≤ mn) (hmn : mn ≤ val ds) (hmx : val ds ≤ mx) (hm : mx ≤ 1000) (hr : Stops rest) (hl : (ds ++ rest).length ≤ 1000000000) (w : World) :
    Calls Tryd.prog 63 #[.string (tx (ds ++ rest)), .int .i64 mn, .int .i64 mx] w fun e w' => e = .returned (.tuple #[.int .i64 (val ds), .string (tx rest), .bool true]) ∧ Below w.heap.size w w' := by
  have HD := Aside0.mk hd
  have HR := Aside0.mk hr
  obtain ⟨l, hL⟩ : ∃ l, ds ++ rest = l := ⟨_, rfl⟩
  have hll : l.length = ds.length + rest.length := by rw [← hL, List.length_append]
  rw [hL] at hl ⊢
  have HL := Aside0.mk hL
  have hlen := fun W ty => len_tx W ty l
  have hl0 : ((l.length : Int) == 0) = false := beq_eq_false_iff_ne.mpr (by omega)
  clear hd hr hL
  go_enter Tryd.func63, Tryd.ntmps63
  go_wp2_with fail
  clear hlen
  go_loopw [6] (fun n wr => ∃ (k : Nat), k ≤ ds.length ∧ n = .int .i64 (val (ds.take k)) ∧ wr = w.iter (tx l) k) (fun _ wr => ds.length + 1 - wr.iterPos w.heap.size)
  case atStart => exact ⟨0, by omega, rfl, rfl⟩
  case round =>
    obtain ⟨k, hk, rfl, rfl⟩ := hrel
    by_cases hlt : k < ds.length
    · have hkl : k < l.length := by omega
      have hg : l[k] = ds[k] := by simp only [← HL.out]; exact List.getElem_append_left hlt
      obtain ⟨hd1, hd2⟩ := HD.out ds[k] (List.getElem_mem _)
      have hnx := fun ty => next_tx w l k ty hkl (by rw [hg]; omega)
      rw [hg] at hnx
      have hvk := val_take ds k hlt
      have hv0 := val_nonneg ds HD.out k (by omega)
      have hv1 := val_le ds HD.out k (by omega)
      have hv2 := val_le ds HD.out (k + 1) (by omega)
      rw [hvk] at hv2
      have HVK := Aside0.mk hvk
      clear hvk
      generalize (ds[k].toNat : Nat) = d at hnx hd1 hd2 hv2 HVK
      generalize val (ds.take k) = v at hv0 hv1 hv2 HVK
      have hq1 : decide ((d : Int) < 48) = false := by simp; omega
      have hq2 : decide ((57 : Int) < (d : Int)) = false := by simp; omega
      have hq3 : decide (mx < v * 10 + ((d : Int) - 48)) = false := by simp; omega
      go_wp2
      go_roundw
      case rel => exact ⟨k + 1, by omega, by rw [HVK.out], by first | rfl | trivial⟩
      case measure =>
        simp
        omega
    · obtain rfl : k = ds.length := by omega
      rw [List.take_length]
      cases hrr : rest with
      | nil =>
        subst hrr
        have hnx := fun ty => next_tx_end w l ds.length ty (by simpa using Nat.le_of_eq hll)
        have hq : decide (val ds < mn) = false := by simp; omega
        go_wp2
        exact bodyPost_ret (v := .tuple #[.int .i64 (val ds), .string (tx []), .bool true]) (by simp [results, Tryd.results63, go_sem]; rfl) rfl ⟨rfl, below_alloc (Below.refl _ _) _⟩
      | cons c r =>
        subst hrr
        have hkl : ds.length < l.length := by rw [hll]; simp
        have hg : l[ds.length] = c := by simp only [← HL.out]; simp
        have hc := HR.out c r rfl
        have hnx := fun ty => next_tx w l ds.length ty hkl (by rw [hg]; omega)
        rw [hg] at hnx
        have hsl := fun W => from_tx W l ds.length (by omega)
        have hdr : l.drop ds.length = c :: r := by rw [← HL.out]; simp
        rw [hdr] at hsl
        have hq0 : ((ds.length : Int) == 0) = false := beq_eq_false_iff_ne.mpr (by omega)
        have hq : decide (val ds < mn) = false := by simp; omega
        have hbl : ∀ q, Below w.heap.size w ((w.iter (tx l) (ds.length + 1)).drewN q) := fun q => below_drewN' (below_alloc (Below.refl _ _) _) q
        generalize (c.toNat : Nat) = d at hnx hc
        rcases hc with hc | ⟨hc, hc2⟩
        · have hq1 : decide ((d : Int) < 48) = true := by simp; omega
          go_wp2_with fail
          go_quiet (fail)
          go_wp2
          exact bodyPost_ret (v := .tuple #[.int .i64 (val ds), .string (tx (c :: r)), .bool true]) (by simp [results, Tryd.results63, go_sem]) rfl ⟨rfl, hbl _⟩
        · have hq1 : decide ((d : Int) < 48) = false := by simp; omega
          have hq2 : decide ((57 : Int) < (d : Int)) = true := by simp; omega
          go_wp2_with fail
          go_quiet (fail)
          go_wp2
          exact bodyPost_ret (v := .tuple #[.int .i64 (val ds), .string (tx (c :: r)), .bool true]) (by simp [results, Tryd.results63, go_sem]) rfl ⟨rfl, hbl _⟩
end Go.Proofs.YtjoaeennbfmohaaDoor
