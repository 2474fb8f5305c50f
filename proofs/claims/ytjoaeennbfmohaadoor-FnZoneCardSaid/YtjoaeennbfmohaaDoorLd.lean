/- The walk of impl.Load over any contract of LoadLocationFromTZData. Conditions: the contract's own. -/
import Derived.Test.YtjoaeennbfmohaaDoorPl
import Derived.Test.YtjoaeennbfmohaaDoorLa
import Derived.Outline
import Derived.Deep.DeepMust
namespace Go.Proofs.YtjoaeennbfmohaaDoor
open Go.RowKit Go.Proofs.YtjoaeennbfmohaaDoorW.PrintWords Go.Proofs.YtjoaeennbfmohaaDoor.PFnZone
set_option linter.unusedVariables false
set_option linter.unusedSimpArgs false

/-- What LoadLocationFromTZData hands back: a place that is new. -/
def LoadedAt (nm : ByteArray) (zs : List S27) (ts : List S45) (ext : ByteArray) (w : World) (e : Ending) (w' : World) : Prop :=
  ∃ g Az cz At ct, e = .returned (.tuple #[.pointer (some ⟨g, 0, none⟩), .nilIface]) ∧ LocAt w' g nm zs ts ext Az cz At ct ∧ Below w.heap.size w w'

theorem cell_old {w : World} {a : Addr} {v : Value} {W : World} (h : w.cell? a = some v) (hb : Below w.heap.size w W) : W.cell? a = some v := cell_below hb h

theorem loaded_at (nm : ByteArray) (zn : Nat → S27) (z : Nat) (tn : Nat → S45) (m : Nat) (ext : ByteArray) (w : World) (hz : z ≤ 1000) (hm : m ≤ 100000) (e : Ending) (w' : World) (h : Loaded nm zn z tn m ext w e w') :
    LoadedAt nm ((List.range z).map zn) ((List.range m).map tn) ext w e w' := by
  obtain ⟨rfl, D, N, T, OZ, k, rfl⟩ := h
  have hz5 : ((((((w.alloc D).alloc N).alloc T).alloc OZ).alloc (.cells (zArr zn z z) 83)).alloc (.cells (tArr tn m m) 92)).heap.size = w.heap.size + 1 + 1 + 1 + 1 + 1 + 1 := by simp
  have hz4 : (((((w.alloc D).alloc N).alloc T).alloc OZ).alloc (.cells (zArr zn z z) 83)).heap.size = w.heap.size + 1 + 1 + 1 + 1 + 1 := by simp
  have hz3 : ((((w.alloc D).alloc N).alloc T).alloc OZ).heap.size = w.heap.size + 1 + 1 + 1 + 1 := by simp
  have HB := blk_drewN (blk_new (((((((w.alloc D).alloc N).alloc T).alloc OZ).alloc (.cells (zArr zn z z) 83)).alloc (.cells (tArr tn m m) 92))) (.cells #[.bool false, .string nm, .slice (some ⟨w.heap.size + 1 + 1 + 1 + 1, 0, none⟩) z z, .slice (some ⟨w.heap.size + 1 + 1 + 1 + 1 + 1, 0, none⟩) m m, .string ext, .int .i64 0, .int .i64 0, .pointer none] 95)) k
  have HT := blk_drewN (blk_alloc (blk_new ((((((w.alloc D).alloc N).alloc T).alloc OZ).alloc (.cells (zArr zn z z) 83))) (.cells (tArr tn m m) 92)) (.cells #[.bool false, .string nm, .slice (some ⟨w.heap.size + 1 + 1 + 1 + 1, 0, none⟩) z z, .slice (some ⟨w.heap.size + 1 + 1 + 1 + 1 + 1, 0, none⟩) m m, .string ext, .int .i64 0, .int .i64 0, .pointer none] 95)) k
  have HZ := blk_drewN (blk_alloc (blk_alloc (blk_new (((((w.alloc D).alloc N).alloc T).alloc OZ)) (.cells (zArr zn z z) 83)) (.cells (tArr tn m m) 92)) (.cells #[.bool false, .string nm, .slice (some ⟨w.heap.size + 1 + 1 + 1 + 1, 0, none⟩) z z, .slice (some ⟨w.heap.size + 1 + 1 + 1 + 1 + 1, 0, none⟩) m m, .string ext, .int .i64 0, .int .i64 0, .pointer none] 95)) k
  rw [hz5] at HB
  rw [hz4] at HT
  rw [hz3] at HZ
  have lz : ((List.range z).map zn).length = z := by simp
  have lt : ((List.range m).map tn).length = m := by simp
  refine ⟨w.heap.size + 1 + 1 + 1 + 1 + 1 + 1, some ⟨w.heap.size + 1 + 1 + 1 + 1, 0, none⟩, z, some ⟨w.heap.size + 1 + 1 + 1 + 1 + 1, 0, none⟩, m, rfl, ⟨blk_cell HB 0, blk_cell HB 1, by rw [lz]; exact blk_cell HB 2, by rw [lt]; exact blk_cell HB 3, blk_cell HB 4, blk_cell HB 5, blk_cell HB 6, blk_cell HB 7, ?_, ?_, by rw [lz]; exact Nat.le_refl _, by rw [lt]; exact Nat.le_refl _⟩, ?_⟩
  · refine ⟨rfl, by rw [lz]; omega, fun _ => ⟨_, rfl, fun j p hp => ?_⟩⟩
    rw [List.getElem?_map] at hp
    have hj : j < z := by
      rcases Nat.lt_or_ge j z with h | h
      · exact h
      · rw [List.getElem?_eq_none (by simpa using h)] at hp; simp at hp
    rw [List.getElem?_range hj] at hp
    simp at hp
    subst hp
    refine ⟨_, rfl, rfl, fun i v hi => ?_⟩
    have hi3 : i < 3 := by
      rcases Nat.lt_or_ge i 3 with h | h
      · exact h
      · rw [List.getElem?_eq_none (by simpa using h)] at hi; simp at hi
    rw [add_plain, blk_cell HZ, zArr_get _ _ _ _ (by omega), if_pos (by omega), show (j * 3 + i) / 3 = j by omega, show (j * 3 + i) % 3 = i by omega, ← hi]
    rcases i with _ | _ | _ | i
    · rfl
    · rfl
    · rfl
    · omega
  · refine ⟨rfl, by rw [lt]; omega, fun _ => ⟨_, rfl, fun j p hp => ?_⟩⟩
    rw [List.getElem?_map] at hp
    have hj : j < m := by
      rcases Nat.lt_or_ge j m with h | h
      · exact h
      · rw [List.getElem?_eq_none (by simpa using h)] at hp; simp at hp
    rw [List.getElem?_range hj] at hp
    simp at hp
    subst hp
    refine ⟨_, rfl, rfl, fun i v hi => ?_⟩
    have hi3 : i < 4 := by
      rcases Nat.lt_or_ge i 4 with h | h
      · exact h
      · rw [List.getElem?_eq_none (by simpa using h)] at hi; simp at hi
    rw [add_plain, blk_cell HT, tArr_get _ _ _ _ (by omega), if_pos (by omega), show (j * 4 + i) / 4 = j by omega, show (j * 4 + i) % 4 = i by omega, ← hi]
    rcases i with _ | _ | _ | _ | i
    · rfl
    · rfl
    · rfl
    · rfl
    · omega
  · exact below_drewN' ((((((((Below.refl _ _).alloc (Nat.le_refl _) _).alloc (by simp) _).alloc (by simp; try omega) _).alloc (by simp; try omega) _).alloc (by simp; try omega) _).alloc (by simp; try omega) _).alloc (by simp; try omega) _) k

/-- What impl.Load hands back where a file is read. -/
def GotPlace (nm : ByteArray) (zs : List S27) (ts : List S45) (ext : ByteArray) (w : World) (e : Ending) (w' : World) : Prop :=
  ∃ vz vt, e = .returned (.tuple #[.agg #[.string nm, vz, vt, .string ext], .bool true]) ∧ OwnRow R27 27 3 w' w.heap.size vz zs ∧ OwnRow R45 45 2 w' w.heap.size vt ts ∧ Below w.heap.size w w'

set_option maxRecDepth 100000 in
set_option maxHeartbeats 4000000 in
theorem impl_load_calls (nm data : ByteArray) (w : World) (zs : List S27) (ts : List S45) (ext : ByteArray) (hsz : data.size ≤ 9223372036854775807) (lz : zs.length ≤ 100000) (lt : ts.length ≤ 100000)
    (h : ∀ A c w1, Src w1 A data.size c (bytesOf data) → Calls Tryd.prog 25 #[.string nm, .slice A data.size c] w1 (LoadedAt nm zs ts ext w1)) :
    Calls Tryd.prog 10 #[.string nm, .string data] w (GotPlace nm zs ts ext w) := by
  have kb := fun W => print_bytes (P := Tryd.prog) 9 62 5 Tryd.underlying9 Tryd.underlying62 Tryd.underlying5 data W
  go_enter Tryd.func10, Tryd.ntmps10
  go_wp2_with fail
  have hb0 : Below w.heap.size w (w.alloc (.cells #[.string ⟨#[]⟩, .slice none 0 0, .slice none 0 0, .string ⟨#[]⟩] 25)) := below_alloc (Below.refl _ _) _
  generalize hw1 : w.alloc (.cells #[.string ⟨#[]⟩, .slice none 0 0, .slice none 0 0, .string ⟨#[]⟩] 25) = w1 at hb0 ⊢
  have hs1 : w1.heap.size = w.heap.size + 1 := by rw [← hw1, World.size_alloc]
  have hk1 : w1.heap[w.heap.size]? = some (.cells #[.string ⟨#[]⟩, .slice none 0 0, .slice none 0 0, .string ⟨#[]⟩] 25 (0, 0)) := by rw [← hw1]; exact blk_new w _
  have hsrc : Src (Lib.bytesWorld w1 5 data) (some ⟨w.heap.size + 1, 0, none⟩) data.size (grownCap w1 data.size 0 5) (bytesOf data) := by
    refine ⟨?_, ?_, fun ad e => ?_, fun x hx => ?_⟩
    · rw [← hs1]; exact bytes_reads w1 5 data hsz
    · exact grownCap_ge _ _ _ _
    · injection e with e; subst e; rw [Lib.bytesWorld_size, hs1]; exact Nat.lt_succ_self _
    · simp only [bytesOf, List.mem_map] at hx
      obtain ⟨y, -, rfl⟩ := hx
      have := y.toNat_lt
      omega
  have hb2 : Below w.heap.size w (Lib.bytesWorld w1 5 data) := bytes_below hb0 (by omega) 5 data
  have hk2 : (Lib.bytesWorld w1 5 data).heap[w.heap.size]? = some (.cells #[.string ⟨#[]⟩, .slice none 0 0, .slice none 0 0, .string ⟨#[]⟩] 25 (0, 0)) := by rw [Lib.bytesWorld_at_old w1 5 data w.heap.size (by omega)]; exact hk1
  have hs2 : (Lib.bytesWorld w1 5 data).heap.size = w.heap.size + 2 := by rw [Lib.bytesWorld_size]; omega
  generalize Lib.bytesWorld w1 5 data = w2 at hsrc hb2 hk2 hs2 ⊢
  refine (h _ _ _ hsrc).mono ?_
  rintro e w3 ⟨g, Az, cz, At, ct, rfl, hL, hb3⟩
  have HL := Aside0.mk hL
  have HB3 := Aside0.mk (hb2.trans (hb3.mono (by omega)))
  have hk3 : w3.heap[w.heap.size]? = some (.cells #[.string ⟨#[]⟩, .slice none 0 0, .slice none 0 0, .string ⟨#[]⟩] 25 (0, 0)) := by rw [hb3.block _ (by omega)]; exact hk2
  have hs3 := hb3.size
  clear hL hb3 hk1 hk2 hsrc kb h hb0 hb2 hw1
  go_wp2_with fail
  refine (parts_calls g nm zs ts ext Az cz At ct _ HL.out lz lt).mono ?_
  rintro e w4 ⟨vz, vt, rfl, hz4, ht4, hb4⟩
  have HZ := Aside0.mk (hz4.lower (base' := w.heap.size) (by omega))
  have HT := Aside0.mk (ht4.lower (base' := w.heap.size) (by omega))
  have HB4 := Aside0.mk (HB3.out.trans (hb4.mono (by omega)))
  have hk4 : w4.heap[w.heap.size]? = some (.cells #[.string ⟨#[]⟩, .slice none 0 0, .slice none 0 0, .string ⟨#[]⟩] 25 (0, 0)) := by rw [hb4.block _ (by omega)]; exact hk3
  clear hz4 ht4 hb4 hk3
  obtain ⟨Av, cv, rfl, hlv⟩ := HZ.out.slice_
  obtain ⟨At2, ct2, rfl, hlt2⟩ := HT.out.slice_
  have r0 : w4.cell? ⟨w.heap.size, 0, none⟩ = _ := blk_cell hk4 0
  have r1 : w4.cell? ⟨w.heap.size, 1, none⟩ = _ := blk_cell hk4 1
  have r2 : w4.cell? ⟨w.heap.size, 2, none⟩ = _ := blk_cell hk4 2
  have r3 : w4.cell? ⟨w.heap.size, 3, none⟩ = _ := blk_cell hk4 3
  have g0 := blk_frozen hk4 0
  have g1 := blk_frozen hk4 1
  have g2 := blk_frozen hk4 2
  have g3 := blk_frozen hk4 3
  have HR := Aside0.mk hk4
  clear hk4
  simp at r0 r1 r2 r3
  go_wp2
  have q1 := blk_set HR.out 0 (.string nm)
  have q2 := blk_set q1 1 (.slice Av zs.length cv)
  have q3 := blk_set q2 2 (.slice At2 ts.length ct2)
  have q4 := blk_set q3 3 (.string ext)
  refine bodyPost_ret (results_ct rfl _ _ w.heap.size 25 #[.string nm, .slice Av zs.length cv, .slice At2 ts.length ct2, .string ext] (0, 0) _ rfl q4 Tryd.underlying25 rfl (by kernel_rfl)) rfl ⟨_, _, rfl, ?_, ?_, ?_⟩
  · exact (((HZ.out.set_ HR.out (by decide) 0 _).set_ q1 (by decide) 1 _).set_ q2 (by decide) 2 _).set_ q3 (by decide) 3 _
  · exact (((HT.out.set_ HR.out (by decide) 0 _).set_ q1 (by decide) 1 _).set_ q2 (by decide) 2 _).set_ q3 (by decide) 3 _
  · exact below_cell (below_cell (below_cell (below_cell HB4.out _ 0 _ (Nat.le_refl _)) _ 1 _ (Nat.le_refl _)) _ 2 _ (Nat.le_refl _)) _ 3 _ (Nat.le_refl _)
end Go.Proofs.YtjoaeennbfmohaaDoor
