/- The walk of laws.loads: it returns true. No condition. -/
import Derived.Test.YtjoaeennbfmohaaDoorLb
import Derived.Outline
import Derived.Deep.DeepMust
import Derived.Test.YtjoaeennbfmohaaDoorC5
namespace Go.Proofs.YtjoaeennbfmohaaDoor
open Go.RowKit Go.Proofs.YtjoaeennbfmohaaDoorW.PrintWords Go.Proofs.YtjoaeennbfmohaaDoor.PFnZone
set_option linter.unusedVariables false
set_option linter.unusedSimpArgs false

def abcFile : ByteArray := ⟨#[84, 90, 105, 102, 0, 0, 0, 0, 0, 0, 0, 0, 0, 0, 0, 0, 0, 0, 0, 0, 0, 0, 0, 0, 0, 0, 0, 0, 0, 0, 0, 0, 0, 0, 0, 0, 0, 0, 0, 1, 0, 0, 0, 4, 0, 0, 0, 60, 0, 0, 65, 66, 67, 0]⟩
def abc : S27 := ⟨⟨#[65, 66, 67]⟩, 60, false⟩
theorem file1_abc : spec_File1.f 20 ⟨#[]⟩ [abc] [] ⟨#[]⟩ = some abcFile := by kernel_rfl
theorem bytes_abc : bytesOf abcFile = [84, 90, 105, 102, 0, 0, 0, 0, 0, 0, 0, 0, 0, 0, 0, 0, 0, 0, 0, 0, 0, 0, 0, 0, 0, 0, 0, 0, 0, 0, 0, 0, 0, 0, 0, 0, 0, 0, 0, 1, 0, 0, 0, 4, 0, 0, 0, 60, 0, 0, 65, 66, 67, 0] := by kernel_rfl

theorem load_abc (A : Option Addr) (c : Nat) (w1 : World) (hs : Src w1 A 54 c (bytesOf abcFile)) : Calls Tryd.prog 25 #[.string ⟨#[]⟩, .slice A 54 c] w1 (LoadedAt ⟨#[]⟩ [abc] [⟨-9223372036854775808, 0⟩] ⟨#[]⟩ w1) := by
  rw [bytes_abc] at hs
  refine load1_calls ⟨#[]⟩ A 54 c _ w1 hs 1 4 rfl rfl rfl (six rfl rfl rfl rfl rfl rfl) [0, 0, 0, 60, 0, 0] [65, 66, 67, 0] rfl rfl rfl (fun _ => abc) (by omega) (by omega) ?_
  intro i hi
  obtain rfl : i = 0 := by omega
  refine ⟨by kernel_rfl, by kernel_rfl, 0, [65, 66, 67], [], rfl, by omega, rfl, by decide, by kernel_rfl⟩

theorem c27_of {w : World} {A : Option Addr} {zs : List S27} (h : ZRow w A zs) : Kd.C k27 w A zs.length zs := ReadsRow.imp_ h (Below.refl _ _) (fun x c hp => by
  have e : c = [.string x.f0, .int .i64 x.f1, .bool x.f2] := hp
  rw [e]
  exact k27_mk w x)
theorem c45_of {w : World} {A : Option Addr} {zs : List S45} (h : TRow w A zs) : Kd.C k45 w A zs.length zs := ReadsRow.imp_ h (Below.refl _ _) (fun x c hp => by
  have e : c = [.int .i64 x.f0, .int .u8 x.f1] := hp
  rw [e]
  exact k45_mk w x)
theorem zrow_of {w : World} {A : Option Addr} {zs : List S27} (h : Kd.C k27 w A zs.length zs) : ZRow w A zs := ReadsRow.imp_ h (Below.refl _ _) (fun x c hp => k27_open hp)
theorem trow_of {w : World} {A : Option Addr} {zs : List S45} (h : Kd.C k45 w A zs.length zs) : TRow w A zs := ReadsRow.imp_ h (Below.refl _ _) (fun x c hp => k45_open hp)

set_option maxRecDepth 100000 in
set_option maxHeartbeats 4000000 in
theorem loads_calls (w : World) : Calls Tryd.prog 7 #[] w fun e w' => e = .returned (.bool true) ∧ Below w.heap.size w w' := by
  go_enter Tryd.func7, Tryd.ntmps7
  go_wp2_with fail
  have hz : ZRow (w.alloc (.cells #[.string ⟨#[65, 66, 67]⟩, .int .i64 60, .bool false] 27)) (some ⟨w.heap.size, 0, none⟩) [abc] :=
    (OwnRow.lit (R := R27) (e := 27) (size := 3) (ps := [abc]) w w.heap.size (inner := [.string ⟨#[65, 66, 67]⟩, .int .i64 60, .bool false]) ((Reps.none _ _).snoc rfl rfl) (Nat.le_refl _) (by decide)).reads.elim fun A h => by
      obtain ⟨c, e, _, h⟩ := h
      injection e with e1
      subst e1
      exact h
  have hb0 : Below w.heap.size w (w.alloc (.cells #[.string ⟨#[65, 66, 67]⟩, .int .i64 60, .bool false] 27)) := below_alloc (Below.refl _ _) _
  generalize w.alloc (.cells #[.string ⟨#[65, 66, 67]⟩, .int .i64 60, .bool false] 27) = w1 at hz hb0 ⊢
  refine (spec_File1.calls 20 ⟨#[]⟩ (some ⟨w.heap.size, 0, none⟩) 1 [abc] none 0 [] ⟨#[]⟩ abcFile w1 (c27_of hz) (Nat.le_refl _) ⟨rfl, Nat.zero_le _, fun h => absurd h (Nat.lt_irrefl 0)⟩ (Nat.le_refl _) file1_abc).mono ?_
  rintro e w2 ⟨rfl, hb2⟩
  have HB2 := hb0.trans (hb2.mono hb0.size)
  clear hb0 hb2 hz
  go_wp2_with fail
  refine (impl_load_calls ⟨#[]⟩ abcFile w2 [abc] [⟨-9223372036854775808, 0⟩] ⟨#[]⟩ (by decide) (by decide) (by decide) (fun A c w1 hs => load_abc A c w1 hs)).mono ?_
  rintro e w3 ⟨vz, vt, rfl, hz3, ht3, hb3⟩
  have HB3 := HB2.trans (hb3.mono HB2.size)
  obtain ⟨Av, cv, rfl, hlv⟩ := hz3.slice_
  obtain ⟨At2, ct2, rfl, hlt2⟩ := ht3.slice_
  clear hz3 ht3 hb3 HB2
  go_wp2
  go_ret
  exact ⟨rfl, HB3.alloc HB3.size _⟩
end Go.Proofs.YtjoaeennbfmohaaDoor
