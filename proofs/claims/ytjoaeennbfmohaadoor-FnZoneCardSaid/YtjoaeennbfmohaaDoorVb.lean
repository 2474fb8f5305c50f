/- What a season says at a time, in the program and in the specification. Conditions: the season is one. -/
import Derived.Test.YtjoaeennbfmohaaDoorVa
import Derived.Test.YtjoaeennbfmohaaDoorV7
namespace Go.Proofs.YtjoaeennbfmohaaDoor
open Go.RowKit Go.Proofs.YtjoaeennbfmohaaDoorW.PrintWords Go.Proofs.YtjoaeennbfmohaaDoorW.PrintMore Go.Proofs.YtjoaeennbfmohaaDoor.PFnZone
set_option linter.unusedVariables false
set_option linter.unusedSimpArgs false

theorem at_ruled (n1 : ByteArray) (o1 : Int) (b1 : Bool) (n2 : ByteArray) (o2 : Int) (b2 : Bool) (k1 d1 e1 m1 t1 k2 d2 e2 m2 t2 : Int) (h : SeasonGood n1 o1 n2 o2 k1 d1 e1 m1 t1 k2 d2 e2 m2 t2) (sec : Int) (h0 : 0 ≤ sec) (h1 : sec ≤ 253402300799) (Y : Int) (hY : Ev (fun k => spec_YearOf.f k sec) Y) (hY0 : 1970 ≤ Y) (hY1 : Y ≤ 9999) :
    ∀ z, z = ruled n1 n2 o1 o2 (ruleT Y k1 d1 e1 m1 t1 o1) (ruleT Y k2 d2 e2 m2 t2 o2) (sec - ystart Y) → Ev (fun k => spec_At.f k n1 o1 b1 n2 o2 b2 k1 d1 e1 m1 t1 k2 d2 e2 m2 t2 sec) (z.f0, z.f1, z.f2) := by
  intro z hz
  have oo1 : -1000000 ≤ o1 ∧ o1 ≤ 1000000 := by have := h.o1; omega
  have oo2 : -1000000 ≤ o2 ∧ o2 ≤ 1000000 := by have := h.o2; omega
  have rS := ruleT_range Y k1 d1 e1 m1 t1 o1 h.r1 oo1
  have rE := ruleT_range Y k2 d2 e2 m2 t2 o2 h.r2 oo2
  have hys := ystart_f Y (by omega) (by omega)
  have har := ahead_range Y (by omega) (by omega)
  have hys0 : -100000000000 ≤ ystart Y ∧ ystart Y ≤ 1000000000000 := by unfold ystart; omega
  obtain ⟨x1, y1⟩ := hY
  obtain ⟨x2, y2⟩ := ruletime_f Y o1 (by omega) (by omega) oo1 k1 d1 e1 m1 t1 h.r1
  obtain ⟨x3, y3⟩ := ruletime_f Y o2 (by omega) (by omega) oo2 k2 d2 e2 m2 t2 h.r2
  generalize ruleT Y k1 d1 e1 m1 t1 o1 = S at *
  generalize ruleT Y k2 d2 e2 m2 t2 o2 = E at *
  refine ⟨x1 + x2 + x3 + 1, fun k hk => ?_⟩
  obtain ⟨k, rfl⟩ : ∃ j, k = j + 1 := ⟨k - 1, by omega⟩
  have q1 : spec_YearOf.f (k + 1) sec = some Y := y1 _ (by omega)
  have q2 : spec_RuleTime.f (k + 1) Y k1 d1 e1 m1 t1 o1 = some S := y2 _ (by omega)
  have q3 : spec_RuleTime.f (k + 1) Y k2 d2 e2 m2 t2 o2 = some E := y3 _ (by omega)
  show spec_At.f (k + 1) n1 o1 b1 n2 o2 b2 k1 d1 e1 m1 t1 k2 d2 e2 m2 t2 sec = _
  unfold spec_At.f
  simp only [q1, q2, q3, hys, Option.bind_some, spec_At.j0]
  rw [wrap64_small (ystart Y + S) (by omega) (by omega), wrap64_small (ystart Y + E) (by omega) (by omega)]
  subst hz
  unfold ruled
  by_cases c1 : E < S
  · rw [if_pos (by omega : ystart Y + E < ystart Y + S), if_pos (by omega : ystart Y + E < ystart Y + S)]
    by_cases c2 : S ≤ sec - ystart Y
    · rw [if_pos (by omega : sec ≥ ystart Y + S), if_pos (by omega : sec ≥ ystart Y + S), if_pos (by rw [if_pos c1]; exact Or.inl c2)]
    · rw [if_neg (by omega : ¬ sec ≥ ystart Y + S), if_neg (by omega : ¬ sec ≥ ystart Y + S)]
      by_cases c3 : sec - ystart Y < E
      · rw [if_pos (by omega : sec < ystart Y + E), if_pos (by rw [if_pos c1]; exact Or.inr c3)]
      · rw [if_neg (by omega : ¬ sec < ystart Y + E), if_neg (by rw [if_pos c1]; omega)]
  · rw [if_neg (by omega : ¬ ystart Y + E < ystart Y + S), if_neg (by omega : ¬ ystart Y + E < ystart Y + S)]
    by_cases c2 : S ≤ sec - ystart Y
    · rw [if_pos (by omega : sec ≥ ystart Y + S)]
      by_cases c3 : sec - ystart Y < E
      · rw [if_pos (by simp; omega), if_pos (by rw [if_neg c1]; exact ⟨c2, c3⟩)]
      · rw [if_neg (by simp; omega), if_neg (by rw [if_neg c1]; omega)]
    · rw [if_neg (by omega : ¬ sec ≥ ystart Y + S), if_neg (by decide), if_neg (by rw [if_neg c1]; omega)]

/-- The rules of a place: its text, and what it says at a time. -/
theorem season_at (n1 : ByteArray) (o1 : Int) (b1 : Bool) (n2 : ByteArray) (o2 : Int) (b2 : Bool) (k1 d1 e1 m1 t1 k2 d2 e2 m2 t2 : Int) (wh : Bool) (h : SeasonGood n1 o1 n2 o2 k1 d1 e1 m1 t1 k2 d2 e2 m2 t2) (sec : Int) (h0 : 0 ≤ sec) (h1 : sec ≤ 253402300799) :
    ∃ (ext : ByteArray) (z : S27), Ev (fun k => spec_Text.f k n1 o1 b1 n2 o2 b2 k1 d1 e1 m1 t1 k2 d2 e2 m2 t2 wh) ext ∧ 0 < ext.size ∧ ext.size ≤ 50000 ∧ ext.toList.isEmpty = false ∧
      Ev (fun k => spec_At.f k n1 o1 b1 n2 o2 b2 k1 d1 e1 m1 t1 k2 d2 e2 m2 t2 sec) (z.f0, z.f1, z.f2) ∧
      ∀ (last : Int) (w : World), Calls Tryd.prog 54 #[.string ext, .int .i64 last, .int .i64 sec] w fun e w' => (∃ st en : Int, e = .returned (.tuple #[.string z.f0, .int .i64 z.f1, .int .i64 st, .int .i64 en, .bool z.f2, .bool true])) ∧ Below w.heap.size w w' := by
  obtain ⟨l, hl, hl0, hl1, s1, s2, s3, s4, s5, c2, c3, g1, g2, g3, g4, g5, g6, g7, g8⟩ := season_text n1 o1 b1 n2 o2 b2 k1 d1 e1 m1 t1 k2 d2 e2 m2 t2 wh h
  obtain ⟨Y, hY, hY0, hY1, hY2, hY3⟩ := year_of sec h0 h1
  have oo1 : -1000000 ≤ o1 ∧ o1 ≤ 1000000 := by have := h.o1; omega
  have oo2 : -1000000 ≤ o2 ∧ o2 ≤ 1000000 := by have := h.o2; omega
  have rS := ruleT_range Y k1 d1 e1 m1 t1 o1 h.r1 oo1
  have rE := ruleT_range Y k2 d2 e2 m2 t2 o2 h.r2 oo2
  refine ⟨tx l, _, hl, by rw [tx_size]; exact hl0, by rw [tx_size]; exact hl1, ?_, at_ruled n1 o1 b1 n2 o2 b2 k1 d1 e1 m1 t1 k2 d2 e2 m2 t2 h sec h0 h1 Y hY hY0 hY1 _ rfl, fun last w => ?_⟩
  · cases l with
    | nil => simp at hl0
    | cons c r =>
      rw [ByteArray.toList_eq]
      simp [tx]
  · have hd0 : 0 ≤ sec / 86400 := by omega
    have hd1 : sec / 86400 ≤ 3000000 := by omega
    have hys : ystart Y = (ahead Y - 719162) * 86400 := rfl
    have hys1 : ystart (Y + 1) = (ahead (Y + 1) - 719162) * 86400 := rfl
    have q1 : ahead Y ≤ sec / 86400 + 719162 := by omega
    have q2 : sec / 86400 + 719162 < ahead (Y + 1) := by omega
    have hahd : ahead (Y + 1) ≤ ahead Y + 366 := by unfold ahead; omega
    obtain ⟨x1, y1⟩ := year_yday (sec / 86400) Y hd0 hd1 q1 q2
    obtain ⟨x2, y2⟩ := tzrule_f Y o1 (by omega) (by omega) oo1 k1 d1 e1 m1 t1 h.r1
    obtain ⟨x3, y3⟩ := tzrule_f Y o2 (by omega) (by omega) oo2 k2 d2 e2 m2 t2 h.r2
    have hD : gotimezone_absSeconds_days.f (sec + 9223372028741760000) = some (sec / 86400 + 106751991073400) := by
      unfold gotimezone_absSeconds_days.f
      rw [Int.tdiv_eq_ediv_of_nonneg (by omega), IntKind.wrap_u64]
      congr 1
      omega
    have ht := tzset_calls l n1.data.toList n2.data.toList s1 s2 s3 s4 s5 c2 c3 (-o1) (-o2) k1 d1 e1 m1 t1 k2 d2 e2 m2 t2 g1 g2 g3 g4 g5 g6 g7 g8 (by omega) (by omega) last sec h0 h1 (sec + 9223372028741760000) (sec / 86400 + 106751991073400) Y (sec / 86400 + 719162 - ahead Y + 1) (ruleT Y k1 d1 e1 m1 t1 o1) (ruleT Y k2 d2 e2 m2 t2 o2) (x1 + x2 + x3) rfl hD (y1 _ (by omega)) (by omega) (by omega) (by rw [Int.neg_neg]; exact y2 _ (by omega)) (by rw [Int.neg_neg]; exact y3 _ (by omega)) rS rE w
    rw [tx_toList, tx_toList, Int.neg_neg, Int.neg_neg, show (sec / 86400 + 719162 - ahead Y + 1 - 1) * 86400 + sec % 86400 = sec - ystart Y by omega] at ht
    exact ht
end Go.Proofs.YtjoaeennbfmohaaDoor
