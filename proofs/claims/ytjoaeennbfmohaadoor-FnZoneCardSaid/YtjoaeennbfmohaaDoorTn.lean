/- The walk of tzsetName: a plain name, a name in angle brackets. Conditions: the name's letters. -/
import Derived.Test.YtjoaeennbfmohaaDoorTx
import Derived.Outline
import Derived.Deep.DeepMust
import Derived.Deep.QuietTactic
import Derived.BigQuiet
namespace Go.Proofs.YtjoaeennbfmohaaDoor
open Go.RowKit Go.Proofs.YtjoaeennbfmohaaDoorW.PrintWords Go.Proofs.YtjoaeennbfmohaaDoorW.PrintLast Go.Proofs.YtjoaeennbfmohaaDoorW.PrintMore Go.Proofs.YtjoaeennbfmohaaDoor.PFnZone
set_option linter.unusedVariables false
set_option linter.unusedSimpArgs false

def Letters (l : List UInt8) : Prop := ∀ d ∈ l, (65 ≤ d.toNat ∧ d.toNat ≤ 90) ∨ (97 ≤ d.toNat ∧ d.toNat ≤ 122)
theorem between_tx (W : World) (c : UInt8) (l : List UInt8) (i : Nat) (h1 : 1 ≤ i) (h : i ≤ l.length + 1) : (Instr.slice 9 (.string (tx (c :: l))) (some (.int .i64 1)) (some (.int .i64 (i : Int))) none).run Tryd.prog W = .ok (.string (tx (l.take (i - 1)))) W := by
  rw [run_slice_string W 9 (tx (c :: l)) .i64 .i64 1 i Tryd.underlying9 (by omega) (by omega) (by rw [tx_size, List.length_cons]; omega), tx_extract, Int.toNat_natCast]
  rfl

set_option maxRecDepth 100000 in
set_option maxHeartbeats 4000000 in
theorem name_plain (nm : List UInt8) (c : UInt8) (r : List UInt8) (hn : Letters nm) (h3 : 3 ≤ nm.length) (hc : c.toNat = 45 ∨ (48 ≤ c.toNat ∧ c.toNat ≤ 57)) (hl : (nm ++ c :: r).length ≤ 1000000000) (w : World) :
    Calls Tryd.prog 57 #[.string (tx (nm ++ c :: r))] w fun e w' => e = .returned (.tuple #[.string (tx nm), .string (tx (c :: r)), .bool true]) ∧ Below w.heap.size w w' := by
  have HN := Aside0.mk hn
  obtain ⟨l, hL⟩ : ∃ l, nm ++ c :: r = l := ⟨_, rfl⟩
  have hll : l.length = nm.length + (r.length + 1) := by rw [← hL, List.length_append, List.length_cons]
  rw [hL] at hl ⊢
  have HL := Aside0.mk hL
  have hlen := fun W ty => len_tx W ty l
  have hl0 : ((l.length : Int) == 0) = false := beq_eq_false_iff_ne.mpr (by omega)
  have hg0 : l[0]'(by omega) = nm[0]'(by omega) := by simp only [← HL.out]; exact List.getElem_append_left (by omega)
  have hix : ∀ W, (Instr.index 9 (.string (tx l)) (.int .i64 0)).run Tryd.prog W = _ := fun W => index_tx W l 0 (by omega)
  rw [hg0] at hix
  have hn0 := hn (nm[0]'(by omega)) (List.getElem_mem _)
  generalize ((nm[0]'(by omega)).toNat : Nat) = d0 at hix hn0
  have hq0 : ((d0 : Int) != 60) = true := by simp; omega
  have hq0' : ((d0 : Int) == 60) = false := by simp; omega
  clear hn hL hg0 hn0
  go_enter Tryd.func57, Tryd.ntmps57
  go_wp2_with fail
  clear hlen hix hq0 hq0'
  go_loopw [5] (fun n wr => ∃ (k : Nat), k ≤ nm.length ∧ wr = w.iter (tx l) k) (fun _ wr => nm.length + 1 - wr.iterPos w.heap.size)
  case atStart => exact ⟨0, by omega, rfl⟩
  case round =>
    obtain ⟨k, hk, rfl⟩ := hrel
    by_cases hlt : k < nm.length
    · have hkl : k < l.length := by omega
      have hg : l[k] = nm[k] := by simp only [← HL.out]; exact List.getElem_append_left hlt
      have hd := HN.out nm[k] (List.getElem_mem _)
      have hnx := fun ty => next_tx w l k ty hkl (by rw [hg]; omega)
      rw [hg] at hnx
      generalize (nm[k].toNat : Nat) = d at hnx hd
      have q48 : ((d : Int) == 48) = false := by simp; omega
      have q49 : ((d : Int) == 49) = false := by simp; omega
      have q50 : ((d : Int) == 50) = false := by simp; omega
      have q51 : ((d : Int) == 51) = false := by simp; omega
      have q52 : ((d : Int) == 52) = false := by simp; omega
      have q53 : ((d : Int) == 53) = false := by simp; omega
      have q54 : ((d : Int) == 54) = false := by simp; omega
      have q55 : ((d : Int) == 55) = false := by simp; omega
      have q56 : ((d : Int) == 56) = false := by simp; omega
      have q57 : ((d : Int) == 57) = false := by simp; omega
      have q44 : ((d : Int) == 44) = false := by simp; omega
      have q45 : ((d : Int) == 45) = false := by simp; omega
      have q43 : ((d : Int) == 43) = false := by simp; omega
      go_wp2
      go_roundw
      case rel => exact ⟨k + 1, by omega, by first | rfl | trivial⟩
      case measure =>
        simp
        omega
    · obtain rfl : k = nm.length := by omega
      have hkl : nm.length < l.length := by omega
      have hg : l[nm.length] = c := by simp only [← HL.out]; simp
      have hnx := fun ty => next_tx w l nm.length ty hkl (by rw [hg]; omega)
      rw [hg] at hnx
      have hsl := fun W => from_tx W l nm.length (by omega)
      have hsu := fun W => upto_tx W l nm.length (by omega)
      have hdr : l.drop nm.length = c :: r := by rw [← HL.out]; simp
      have htk : l.take nm.length = nm := by rw [← HL.out]; simp
      rw [hdr] at hsl
      rw [htk] at hsu
      have hq : decide ((nm.length : Int) < 3) = false := by simp; omega
      have hbl : ∀ q, Below w.heap.size w ((w.iter (tx l) (nm.length + 1)).drewN q) := fun q => below_drewN' (below_alloc (Below.refl _ _) _) q
      generalize (c.toNat : Nat) = d at hnx hc
      clear hdr htk hg HL
      obtain rfl | rfl | rfl | rfl | rfl | rfl | rfl | rfl | rfl | rfl | rfl : d = 45 ∨ d = 48 ∨ d = 49 ∨ d = 50 ∨ d = 51 ∨ d = 52 ∨ d = 53 ∨ d = 54 ∨ d = 55 ∨ d = 56 ∨ d = 57 := by omega
      all_goals (go_wp2_with fail; go_quiet (fail); go_wp2; exact bodyPost_ret (v := .tuple #[.string (tx nm), .string (tx (c :: r)), .bool true]) (by simp [results, Tryd.results57, go_sem]) rfl ⟨rfl, hbl _⟩)

set_option maxRecDepth 100000 in
set_option maxHeartbeats 4000000 in
theorem name_brackets (nm r : List UInt8) (hn : ∀ d ∈ nm, d.toNat < 128 ∧ d.toNat ≠ 62) (hl : (60 :: (nm ++ 62 :: r)).length ≤ 1000000000) (w : World) :
    Calls Tryd.prog 57 #[.string (tx (60 :: (nm ++ 62 :: r)))] w fun e w' => e = .returned (.tuple #[.string (tx nm), .string (tx r), .bool true]) ∧ Below w.heap.size w w' := by
  have HN := Aside0.mk hn
  obtain ⟨l, hL⟩ : ∃ l, (60 : UInt8) :: (nm ++ 62 :: r) = l := ⟨_, rfl⟩
  obtain ⟨N, hNN⟩ : ∃ N, nm.length + 1 = N := ⟨_, rfl⟩
  have hll : l.length = N + (r.length + 1) := by rw [← hL, List.length_cons, List.length_append, List.length_cons]; omega
  rw [hL] at hl ⊢
  have HL := Aside0.mk hL
  have hlen := fun W ty => len_tx W ty l
  have hl0 : ((l.length : Int) == 0) = false := beq_eq_false_iff_ne.mpr (by omega)
  have hix := fun W => index_tx0 W 60 (nm ++ 62 :: r)
  rw [hL] at hix
  have hsu := fun W => between_tx W 60 (nm ++ 62 :: r) N (by omega) (by rw [List.length_append]; omega)
  rw [hL, show N - 1 = nm.length by omega, List.take_left] at hsu
  have hsl := fun W => from_tx W l (N + 1) (by omega)
  have hdr : l.drop (N + 1) = r := by rw [← HL.out, ← hNN, List.drop_succ_cons, show nm.length + 1 = (nm ++ [62]).length by simp, show nm ++ 62 :: r = (nm ++ [62]) ++ r by simp, List.drop_left]
  rw [hdr, show (((N + 1 : Nat)) : Int) = (N : Int) + 1 by omega] at hsl
  clear hn hL hdr
  go_enter Tryd.func57, Tryd.ntmps57
  go_wp2_with fail
  clear hlen hix
  go_loopw [7] (fun n wr => ∃ (k : Nat), k ≤ N ∧ wr = w.iter (tx l) k) (fun _ wr => N + 1 - wr.iterPos w.heap.size)
  case atStart => exact ⟨0, by omega, rfl⟩
  case round =>
    obtain ⟨k, hk, rfl⟩ := hrel
    by_cases hlt : k < N
    · have hkl : k < l.length := by omega
      have hd : l[k].toNat < 128 ∧ l[k].toNat ≠ 62 := by
        simp only [← HL.out]
        rcases k with _ | k
        · show (60 : UInt8).toNat < 128 ∧ (60 : UInt8).toNat ≠ 62
          decide
        · simp only [List.getElem_cons_succ]
          rw [List.getElem_append_left (by omega)]
          exact HN.out _ (List.getElem_mem _)
      have hnx := fun ty => next_tx w l k ty hkl hd.1
      generalize (l[k].toNat : Nat) = d at hnx hd
      have q62 : ((d : Int) == 62) = false := by simp; omega
      go_wp2
      go_roundw
      case rel => exact ⟨k + 1, by omega, by first | rfl | trivial⟩
      case measure =>
        simp
        omega
    · obtain rfl : k = N := by omega
      have hkl : k < l.length := by omega
      have hg : l[k] = 62 := by
        simp only [← HL.out, ← hNN, List.getElem_cons_succ]
        simp
      have hnx := fun ty => next_tx w l k ty hkl (by rw [hg]; decide)
      rw [hg] at hnx
      have hbl : ∀ q, Below w.heap.size w ((w.iter (tx l) (k + 1)).drewN q) := fun q => below_drewN' (below_alloc (Below.refl _ _) _) q
      have hkb : k ≤ 1000000000 := by omega
      go_wp2_with fail
      go_quiet (fail)
      go_wp2
      exact bodyPost_ret (v := .tuple #[.string (tx nm), .string (tx r), .bool true]) (by simp [results, Tryd.results57, go_sem]) rfl ⟨rfl, hbl _⟩
end Go.Proofs.YtjoaeennbfmohaaDoor
