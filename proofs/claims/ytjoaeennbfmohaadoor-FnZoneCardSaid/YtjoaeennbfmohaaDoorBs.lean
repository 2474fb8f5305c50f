/- The walk of byteString: the name ahead of the first zero. Condition: a zero lies behind the name. -/
import Derived.Test.YtjoaeennbfmohaaDoorRd
import Derived.Test.YtjoaeennbfmohaaDoorC3
namespace Go.Proofs.YtjoaeennbfmohaaDoor
open Go.RowKit Go.Proofs.YtjoaeennbfmohaaDoorW.PrintWords Go.Proofs.YtjoaeennbfmohaaDoor.PFnZone
set_option linter.unusedVariables false
set_option linter.unusedSimpArgs false

theorem wrap_up {i : Int} {n : Nat} (h0 : 0 ≤ i) (h : i < (n : Int)) (hn : n ≤ 9223372036854775807) : wrap64 (i + 1) = i + 1 := by
  unfold wrap64
  omega

theorem rd_app (nm rest : List Int) (j : Nat) (h : j < nm.length) : rd (nm ++ rest) (j : Int) = nm[j] := by
  simp [rd, List.getD_eq_getElem?_getD, List.getElem?_append_left h, List.getElem?_eq_getElem h]
theorem rd_mid (nm rest : List Int) (x : Int) : rd (nm ++ x :: rest) (nm.length : Int) = x := by
  simp [rd, List.getD_eq_getElem?_getD]

theorem index_zero (nm rest : List Int) (hz : ∀ x ∈ nm, x ≠ 0) (hl : (nm ++ 0 :: rest).length ≤ 9223372036854775807) (d : Nat) : ∀ (k j : Nat), j + d = nm.length → d < k →
    gotimezone_indexByte.l0 k 0 (nm ++ 0 :: rest) ((nm ++ 0 :: rest).length : Int) (j : Int) = some (nm.length : Int) := by
  have hlen : (nm ++ 0 :: rest).length = nm.length + 1 + rest.length := by simp; omega
  induction d with
  | zero =>
    intro k j hj hk
    obtain ⟨k, rfl⟩ : ∃ m, k = m + 1 := ⟨k - 1, by omega⟩
    obtain rfl : j = nm.length := by omega
    simp only [gotimezone_indexByte.l0]
    rw [if_pos (by omega), if_pos (by omega), if_pos (by omega), rd_mid, if_pos rfl]
  | succ d ih =>
    intro k j hj hk
    obtain ⟨k, rfl⟩ : ∃ m, k = m + 1 := ⟨k - 1, by omega⟩
    simp only [gotimezone_indexByte.l0]
    rw [if_pos (by omega), if_pos (by omega), if_pos (by omega), rd_app nm _ j (by omega), if_neg (hz _ (List.getElem_mem _)), wrap_up (n := (nm ++ 0 :: rest).length) (by omega) (by omega) hl]
    have := ih k (j + 1) (by omega) (by omega)
    simpa using this

set_option maxHeartbeats 1000000 in
/-- byteString, where a zero lies behind the name. -/
theorem byteString_calls (A : Option Addr) (n c : Nat) (nm rest : List Int) (w0 w : World) (hs : Src w0 A n c (nm ++ 0 :: rest)) (hB : Below w0.heap.size w0 w) (hz : ∀ x ∈ nm, x ≠ 0) :
    Calls Tryd.prog 41 #[.slice A n c] w fun e w' => e = .returned (.string (strOfNums nm)) ∧ ∃ k, w.drewN k = w' := by
  have hlen : (nm ++ 0 :: rest).length = nm.length + 1 + rest.length := by simp; omega
  have hn : nm.length + 1 + rest.length = n := hlen.symm.trans hs.len
  subst hn
  have hle := hs.le
  have hc := hs.cap
  have hr : ReadsInt w .u8 A (nm.length + 1 + rest.length) (nm ++ 0 :: rest) := hs.reads.below hB
  have hr2 : ∀ k, ReadsInt (w.drewN k) .u8 A nm.length nm := fun k => by
    have := (hr.below (pw_below_drewN (Below.refl _ _) k)).take_ nm.length (by omega)
    rwa [List.take_left' rfl] at this
  have hidx : gotimezone_indexByte.f (nm.length + 1) (nm ++ 0 :: rest) 0 = some (nm.length : Int) := by
    have := index_zero nm rest hz (by omega) nm.length (nm.length + 1) 0 (by omega) (by omega)
    exact this
  have hcall := gotimezone_indexByte.calls (nm.length + 1) A c (nm ++ 0 :: rest) 0 (nm.length : Int) w (Kd.C_of_reads (d := (0 : Int)) (h1 := fun _ => rfl) (by rw [hlen]; exact hr)) (by omega) hidx
  rw [hlen] at hcall
  have hcv : ∀ k, (convert 62 9 (.slice A nm.length c)).run Tryd.prog (w.drewN k) = .ok (.string (strOfNums nm)) (w.drewN k) := fun k =>
    string_of_reads Tryd.underlying62 Tryd.underlying5 Tryd.underlying9 (hr2 k)
  have hsl : ∀ W : World, (Instr.slice 62 (.slice A (nm.length + 1 + rest.length) c) none (some (.int .i64 (nm.length : Int))) none).run Tryd.prog W = .ok (.slice A nm.length c) W := fun W => by
    have hel : Tryd.prog.elem 62 = 5 := by simp [Program.elem, Tryd.underlying62]
    obtain ⟨i0, hi, hz0, hz1, hz2⟩ := info_parts info5s
    have hu : Tryd.prog.underlying 62 = some (.slice (Tryd.prog.elem 62)) := by rw [hel]; exact Tryd.underlying62
    rw [run_slice_h W 62 A _ c hu .i64 (nm.length : Int) (by omega) (by omega), hel]
    simp [sizeOf, typeInfo, hi, hz1, sliced, Result.andThen, map_add_zero]
  have HC := Aside0.mk hcall
  have hb1 : ((nm.length : Int) != -1) = true := by simp
  clear hcall hidx hr2 hr hs hB hlen hz
  go_enter Tryd.func41, Tryd.ntmps41
  go_wp2_with fail
  refine HC.out.mono ?_
  rintro e w' ⟨rfl, hd⟩
  obtain ⟨kd, rfl⟩ := hd.out
  have hcvk := hcv kd
  clear hcv HC
  go_wp2
  go_ret
  exact ⟨rfl, kd, rfl⟩
end Go.Proofs.YtjoaeennbfmohaaDoor
