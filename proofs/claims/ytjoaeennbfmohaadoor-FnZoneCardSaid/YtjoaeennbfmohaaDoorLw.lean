/- What lookup answers at a time is what the specification says of it. Conditions: transitions in order. -/
import Derived.Test.YtjoaeennbfmohaaDoorV3
import Derived.Test.YtjoaeennbfmohaaDoorIm
import Derived.Test.YtjoaeennbfmohaaDoorC
import Derived.Outline
namespace Go.Proofs.YtjoaeennbfmohaaDoor
open Go.RowKit Go.Proofs.YtjoaeennbfmohaaDoorW.PrintWords Go.Proofs.YtjoaeennbfmohaaDoor.PFnZone
set_option linter.unusedVariables false
set_option linter.unusedSimpArgs false

/-- What lookup answers at a time, and what the specification says of it. -/
theorem lookup_law (nm : ByteArray) (zs : List S27) (ts : List S45) (ext : ByteArray) (sec : Int) (zr : S27) (h1 : 1 ≤ ts.length) (hn : ts.length ≤ 1000) (htr : TransOk zs ts) (hu : ∀ t ∈ ts, 0 ≤ t.f1 ∧ t.f1 ≤ 255) (hx : ext.toList.isEmpty = false) (N : Nat) (hN : N + 1 = ts.length)
    (htz : ∀ (last : Int) (w : World), Calls Tryd.prog 54 #[.string ext, .int .i64 last, .int .i64 sec] w fun e w' => (∃ st en : Int, e = .returned (.tuple #[.string zr.f0, .int .i64 zr.f1, .int .i64 st, .int .i64 en, .bool zr.f2, .bool true])) ∧ Below w.heap.size w w') :
    ∃ zt : S27, (∀ g Az cz At ct w1, LocAt w1 g nm zs ts ext Az cz At ct → Calls Tryd.prog 46 #[.pointer (some ⟨g, 0, none⟩), .int .i64 sec] w1 (ToldZone zt w1)) ∧
      (((ts[N]'(by omega)).f0 ≤ sec ∧ zt = zr) ∨ (sec < (ts[N]'(by omega)).f0 ∧ ∃ q, ∃ st en : Int, spec_Lookup.f q nm zs ts ext (firstZ zs ts : Nat) sec = some (zt.f0, zt.f1, st, en, zt.f2))) := by
  have hord := asc htr.2
  have hix : ∀ t ∈ ts, 0 ≤ t.f1 ∧ t.f1 < zs.length := by
    intro t ht
    obtain ⟨j, hj, rfl⟩ := List.getElem_of_mem ht
    exact ⟨(hu _ ht).1, htr.1 j hj⟩
  have hix3 : ∀ t ∈ ts, 0 ≤ t.f1 ∧ t.f1 ≤ 255 ∧ t.f1 < zs.length := fun t ht => ⟨(hu t ht).1, (hu t ht).2, (hix t ht).2⟩
  have hz1 : 0 < zs.length := by have := hix (ts[0]'(by omega)) (List.getElem_mem _); omega
  by_cases hl : (ts[N]'(by omega)).f0 ≤ sec
  · refine ⟨zr, fun g Az cz At ct w1 hL => lookup_found g nm zs ts ext Az cz At ct w1 hL hix (by omega) sec hord N (by omega) hl (fun h => by omega) zr (fun h => by omega) (fun _ => ⟨hx, fun w2 => htz _ w2⟩), Or.inl ⟨hl, rfl⟩⟩
  · by_cases hf : sec < (ts[0]'(by omega)).f0
    · obtain ⟨st, en, h⟩ := look_first zs ts nm ext sec hn h1 hord hf (firstZ zs ts) (firstZ_lt zs ts hz1 hix)
      obtain ⟨q, hq⟩ := h.get
      exact ⟨zs.getD (firstZ zs ts) z27, fun g Az cz At ct w1 hL => lookup_first g nm zs ts ext Az cz At ct w1 hL hix h1 sec hf, Or.inr ⟨by omega, q, st, en, hq⟩⟩
    · obtain ⟨j, hj, hj0, hj1⟩ := find_j ts sec h1 (by omega)
      have hjN : j + 1 < ts.length := by
        rcases Nat.lt_or_ge (j + 1) ts.length with h | h
        · exact h
        · obtain rfl : j = N := by omega
          omega
      obtain ⟨st, en, h⟩ := look_found zs ts nm ext sec hn hord j hj hj0 hj1 hix3 (firstZ zs ts : Nat)
      obtain ⟨q, hq⟩ := h.get
      exact ⟨zs.getD ts[j].f1.toNat z27, fun g Az cz At ct w1 hL => lookup_found g nm zs ts ext Az cz At ct w1 hL hix (by omega) sec hord j hj hj0 hj1 _ (fun _ => rfl) (fun h => by omega), Or.inr ⟨by omega, q, st, en, hq⟩⟩

theorem eqA27 (d : Nat) (w : World) (x0 y0 : ByteArray) (x1 y1 : Int) (x2 y2 : Bool) :
    (Op.equalIn (d + 2) 27 (.agg #[.string x0, .int .i64 x1, .bool x2]) (.agg #[.string y0, .int .i64 y1, .bool y2])).run Tryd.prog w = .ok (x0.toList == y0.toList && (x1 == y1 && (x2 == y2))) w := by
  refine eqA_of Tryd.underlying27 (by kernel_rfl) ?_
  refine eqf_cons (by rfl) (by go_simp; rfl) (by go_simp; rfl) (by go_simp) ?_
  refine eqf_cons (by rfl) (by go_simp; rfl) (by go_simp; rfl) (by go_simp) ?_
  exact eqf_last (by rfl) (by go_simp; rfl) (by go_simp; rfl) (by go_simp)
theorem eq27 (z : S27) (W : World) : (binOp .eql 27 (.agg #[.string z.f0, .int .i64 z.f1, .bool z.f2]) (.agg #[.string z.f0, .int .i64 z.f1, .bool z.f2])).run Tryd.prog W = .ok (.bool true) W := by
  have h := fun d => eqA27 d W z.f0 z.f0 z.f1 z.f1 z.f2 z.f2
  simp only [beq_self_eq_true, Bool.and_self, Bool.and_true] at h
  simp [binOp, Op.equal]
  rw [show Op.maxDepth = (Op.maxDepth - 2) + 2 from rfl, h]
  rfl
end Go.Proofs.YtjoaeennbfmohaaDoor
