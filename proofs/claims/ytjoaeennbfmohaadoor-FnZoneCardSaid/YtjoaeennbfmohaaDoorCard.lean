/-
  For every input that can be read as data the law FnZone returns true and each argument reads behind the call as it read before: the zone at each time is that of the last transition up to it, and behind the last one that of the rules of the year.
  Conditions: the one listed package-level variable (errBadData) reads as the program's text lays it (the card ties it to the text); none else.
-/
import Derived.Test.YtjoaeennbfmohaaDoorRow
import Derived.Test.YtjoaeennbfmohaaDoorCards
import Derived.Test.YtjoaeennbfmohaaDoorTie
import Derived.SevenTiedAt
namespace Go.Proofs.YtjoaeennbfmohaaDoor
open Go

/-- The tied card of the law FnZone. -/
theorem fnZone_card_holds : Rows.FnZoneCardSaid :=
  Claim7.holds_tied_plain_at .later [] [.sentinel] true (true, "44cbbd2c3267b9cb1cf13fb490fd0447ed4b060a463e43ea8f26b60dd0dcec36") false
    fnZone.proved (fun _ h => by cases h) (by kernel_rfl) (fun _ h => by cases h) fnZone_row_tie rfl ⟨rfl, rfl⟩ (by kernel_rfl) rfl
    (fun f fn hf hfn => by
      obtain rfl : f = 3 := Option.some.inj ((show Tryd.prog.funcNamed "loop.example/pub-zonetheorem/laws.FnZone" = some 3 by kernel_rfl).symm.trans hf) |>.symm
      obtain rfl : fn = Tryd.f3 := (Option.some.inj (Tryd.func3.symm.trans hfn)).symm
      exact ⟨by kernel_rfl, fun j t ht => by
        rw [Tryd.params3] at ht
        have hm : t ∈ [25, 27, 27, 29, 29, 4, 2] := by simpa using Array.mem_of_getElem? ht
        have hall : ([25, 27, 27, 29, 29, 4, 2].all fun u => !Tryd.prog.wantsStandIn u) = true := by kernel_rfl
        exact (show Tryd.prog.wantsStandIn t = false by simpa using List.all_eq_true.1 hall t hm)⟩)
    (by kernel_rfl)
#print axioms fnZone_card_holds
end Go.Proofs.YtjoaeennbfmohaaDoor
