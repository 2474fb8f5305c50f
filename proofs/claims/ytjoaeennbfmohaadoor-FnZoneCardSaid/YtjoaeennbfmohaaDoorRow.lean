/- The row of laws.FnZone: for every input that can be read as data it returns true, the input reads as it did. Condition: the listed variable reads as listed (the row's own premise). -/
import Derived.Test.YtjoaeennbfmohaaDoorRows
import Derived.Test.YtjoaeennbfmohaaDoorFn
import Derived.WalkKit
import Derived.ProofKit
import Derived.OpenShut
import Derived.OpenVars
import Derived.ShutString
import Derived.ChangeOld
import Derived.Below
import Derived.LaidMore
import Derived.SizedLaws
import Derived.LaidLaws
import Derived.JoinedOf
import Derived.Stop.Joined
import Derived.Lib.SmallJoins
import Derived.Deep.Strs

namespace Go.Proofs.YtjoaeennbfmohaaDoor.fnZone
open Go.ChangeShapes Go.WideShapes Go.ChangeAt Go.RowKit Go.Joins Go.Deep PFnZone
open Go.ChangeMaps (open_string shut_string)
set_option linter.unusedVariables false
theorem own : ownKnob Tryd.prog.godebug = none := by kernel_rfl
theorem laidOut : laidOutB Tryd.prog = true := by kernel_rfl
theorem c27 : Tryd.prog.cellsOf 27 = 3 := by kernel_rfl
theorem c45 : Tryd.prog.cellsOf 45 = 2 := by kernel_rfl
theorem c29 : Tryd.prog.cellsOf 29 = 5 := by kernel_rfl
theorem c25 : Tryd.prog.cellsOf 25 = 4 := by kernel_rfl
theorem c2 : Tryd.prog.cellsOf 2 = 1 := by kernel_rfl
theorem c3 : Tryd.prog.cellsOf 3 = 1 := by kernel_rfl
theorem c4 : Tryd.prog.cellsOf 4 = 1 := by kernel_rfl
theorem c5 : Tryd.prog.cellsOf 5 = 1 := by kernel_rfl
theorem c9 : Tryd.prog.cellsOf 9 = 1 := by kernel_rfl

theorem list2 {α : Type} {l : List α} (h : l.length = 2) : ∃ a b, l = [a, b] := by
  match l, h with
  | [a, b], _ => exact ⟨a, b, rfl⟩
theorem list3 {α : Type} {l : List α} (h : l.length = 3) : ∃ a b c, l = [a, b, c] := by
  match l, h with
  | [a, b, c], _ => exact ⟨a, b, c, rfl⟩
theorem list5 {α : Type} {l : List α} (h : l.length = 5) : ∃ a b c d e, l = [a, b, c, d, e] := by
  match l, h with
  | [a, b, c, d, e], _ => exact ⟨a, b, c, d, e, rfl⟩

instance : Inhabited S27 := ⟨⟨⟨#[]⟩, 0, false⟩⟩
instance : Inhabited S45 := ⟨⟨0, 0⟩⟩

section
variable {H : Type} {enc : TypeId × Value → H} {W : World} {base : Nat} {spare : Nat → Bool} {held : Bool}

theorem zone_cells {n : Nat} {cs : List Value} {x : DataW H × List MemPlace} (h : DataW.trod enc Tryd.prog W base spare held n 27 cs = some x) : ∃ s : S27, cs = [.string s.f0, .int .i64 s.f1, .bool s.f2] := by
  obtain ⟨y0, y1, y2, m, _, hl, h0, h1, h2⟩ := trod_struct3 Tryd.underlying27 h
  rw [c27] at hl
  obtain ⟨a, b, c, rfl⟩ := list3 hl
  obtain ⟨s, hs, _⟩ := DataW.trod_string Tryd.underlying9 (by simpa [c9] using h0)
  obtain ⟨o, ho, _⟩ := DataW.trod_int Tryd.underlying3 (by simpa [c3] using h1)
  obtain ⟨d, hd, _⟩ := DataW.trod_bool Tryd.underlying4 (by simpa [c4] using h2)
  simp only [List.cons.injEq, and_true] at hs ho hd
  exact ⟨⟨s, o, d⟩, by rw [hs, ho, hd]⟩

theorem trans_cells {n : Nat} {cs : List Value} {x : DataW H × List MemPlace} (h : DataW.trod enc Tryd.prog W base spare held n 45 cs = some x) :
    ∃ s : S45, cs = [.int .i64 s.f0, .int .u8 s.f1] ∧ (-9223372036854775808 ≤ s.f0 ∧ s.f0 ≤ 9223372036854775807) ∧ 0 ≤ s.f1 ∧ s.f1 ≤ 255 := by
  obtain ⟨y0, y1, m, _, hl, h0, h1⟩ := trod_struct2 Tryd.underlying45 h
  rw [c45] at hl
  obtain ⟨a, b, rfl⟩ := list2 hl
  obtain ⟨s, hs, _, hw0⟩ := DataW.trod_int Tryd.underlying2 (by simpa [c2] using h0)
  obtain ⟨o, ho, _, hw1⟩ := DataW.trod_int Tryd.underlying5 (by simpa [c5] using h1)
  simp only [List.cons.injEq, and_true] at hs ho
  refine ⟨⟨s, o⟩, by rw [hs, ho], ?_, ?_⟩
  · simpa [Lit.wf, IntKind.min, IntKind.max, IntKind.signed, IntKind.bits] using hw0
  · simpa [Lit.wf, IntKind.min, IntKind.max, IntKind.signed, IntKind.bits] using hw1

/-- A list by its elements. -/
theorem getElem_map_range {α : Type} {f : Nat → α} {n j : Nat} {p : α} (h : ((List.range n).map f)[j]? = some p) : j < n ∧ p = f j := by
  have hj : j < n := by
    have := (List.getElem?_eq_some_iff.1 h).1
    simpa using this
  refine ⟨hj, ?_⟩
  rw [List.getElem?_map, List.getElem?_range hj] at h
  simpa using h.symm

theorem zrow_of {n : Nat} {v : Value} {x : DataW H × List MemPlace} (h : DataW.trod enc Tryd.prog W base spare held n 22 [v] = some x) :
    ∃ (A : Option Addr) (zs : List S27) (cz : Nat), v = .slice A zs.length cz ∧ zs.length ≤ cz ∧ ZRow W A zs := by
  rcases open_slice Tryd.underlying22 h with ⟨hcs, _⟩ | ⟨a, len, cap, m, k, D, Pl, hcs, _, hl, hm, hmm, _, hel⟩
  · simp only [List.cons.injEq, and_true] at hcs
    exact ⟨none, [], 0, by simpa using hcs, Nat.le_refl _, rfl, by simp, fun h => absurd h (by simp)⟩
  simp only [List.cons.injEq, and_true] at hcs
  have hlm : len ≤ m := by rw [hmm]; split <;> omega
  obtain ⟨f, hf⟩ := choose_lt (α := S27) (n := len) (p := fun i s => W.cells? base (a.add (i * 3)) 3 = some [.string s.f0, .int .i64 s.f1, .bool s.f2]) (fun i hi => by
    obtain ⟨cs', h1, h2⟩ := hel i (by omega)
    rw [c27] at h1
    obtain ⟨s, rfl⟩ := zone_cells h2
    exact ⟨s, h1⟩)
  have hlen : ((List.range len).map f).length = len := by simp
  refine ⟨some a, (List.range len).map f, cap, by rw [hlen]; exact hcs, by rw [hlen]; exact hl, rfl, ?_, fun _ => ⟨a, rfl, fun j p hp => ?_⟩⟩
  · have : maxLen = 9223372036854775807 := by decide
    rw [hlen]; omega
  · obtain ⟨hj, rfl⟩ := getElem_map_range hp
    obtain ⟨_, _, hc⟩ := World.cells?_some (hf j hj)
    refine ⟨[.string (f j).f0, .int .i64 (f j).f1, .bool (f j).f2], rfl, rfl, fun i u hu => ?_⟩
    have hi : i < 3 := (List.getElem?_eq_some_iff.1 hu).1
    rw [← add_add, hc i hi, hu]

theorem trow_of {n : Nat} {v : Value} {x : DataW H × List MemPlace} (h : DataW.trod enc Tryd.prog W base spare held n 23 [v] = some x) :
    ∃ (A : Option Addr) (ts : List S45) (ct : Nat), v = .slice A ts.length ct ∧ ts.length ≤ ct ∧ TRow W A ts ∧ (∀ t ∈ ts, 0 ≤ t.f1 ∧ t.f1 ≤ 255) ∧ (∀ t ∈ ts, -9223372036854775808 ≤ t.f0 ∧ t.f0 ≤ 9223372036854775807) := by
  rcases open_slice Tryd.underlying23 h with ⟨hcs, _⟩ | ⟨a, len, cap, m, k, D, Pl, hcs, _, hl, hm, hmm, _, hel⟩
  · simp only [List.cons.injEq, and_true] at hcs
    exact ⟨none, [], 0, by simpa using hcs, Nat.le_refl _, ⟨rfl, by simp, fun h => absurd h (by simp)⟩, by simp, by simp⟩
  simp only [List.cons.injEq, and_true] at hcs
  have hlm : len ≤ m := by rw [hmm]; split <;> omega
  obtain ⟨f, hf⟩ := choose_lt (α := S45) (n := len) (p := fun i s => W.cells? base (a.add (i * 2)) 2 = some [.int .i64 s.f0, .int .u8 s.f1] ∧ (-9223372036854775808 ≤ s.f0 ∧ s.f0 ≤ 9223372036854775807) ∧ 0 ≤ s.f1 ∧ s.f1 ≤ 255) (fun i hi => by
    obtain ⟨cs', h1, h2⟩ := hel i (by omega)
    rw [c45] at h1
    obtain ⟨s, rfl, r⟩ := trans_cells h2
    exact ⟨s, h1, r⟩)
  have hlen : ((List.range len).map f).length = len := by simp
  have hall : ∀ t ∈ (List.range len).map f, ∃ j, j < len ∧ t = f j := fun t ht => by
    obtain ⟨j, hj, rfl⟩ := List.mem_map.1 ht
    exact ⟨j, List.mem_range.1 hj, rfl⟩
  refine ⟨some a, (List.range len).map f, cap, by rw [hlen]; exact hcs, by rw [hlen]; exact hl, ⟨rfl, ?_, fun _ => ⟨a, rfl, fun j p hp => ?_⟩⟩, fun t ht => ?_, fun t ht => ?_⟩
  · have : maxLen = 9223372036854775807 := by decide
    rw [hlen]; omega
  · obtain ⟨hj, rfl⟩ := getElem_map_range hp
    obtain ⟨_, _, hc⟩ := World.cells?_some (hf j hj).1
    refine ⟨[.int .i64 (f j).f0, .int .u8 (f j).f1], rfl, rfl, fun i u hu => ?_⟩
    have hi : i < 2 := (List.getElem?_eq_some_iff.1 hu).1
    rw [← add_add, hc i hi, hu]
  · obtain ⟨j, hj, rfl⟩ := hall t ht
    exact (hf j hj).2.2
  · obtain ⟨j, hj, rfl⟩ := hall t ht
    exact (hf j hj).2.1

set_option maxRecDepth 100000 in
/-- The parameter's own reading: zones and transitions. -/
theorem open_data {r : Reach} {b0 : Nat} {v : Value} {d : DataW H} {p : List MemPlace} (hv : Value.okWide Tryd.prog W r b0 25 v) (h : DataW.Trod enc Tryd.prog W base spare held 25 v d p) :
    ∃ (nm ext : ByteArray) (A B : Option Addr) (zs : List S27) (ts : List S45) (cz ct : Nat), v = .agg #[.string nm, .slice A zs.length cz, .slice B ts.length ct, .string ext] ∧ zs.length ≤ cz ∧ ts.length ≤ ct ∧ ZRow W A zs ∧ TRow W B ts ∧
      (∀ t ∈ ts, 0 ≤ t.f1 ∧ t.f1 ≤ 255) ∧ (∀ t ∈ ts, -9223372036854775808 ≤ t.f0 ∧ t.f0 ≤ 9223372036854775807) := by
  obtain ⟨v0, v1, v2, v3, y0, y1, y2, y3, n, rfl, _, _, h0, h1, h2, h3⟩ := open_agg4 Tryd.underlying25 (by kernel_rfl) c25 hv h
  obtain ⟨nm, hs, _⟩ := DataW.trod_string Tryd.underlying9 h0
  obtain ⟨ext, he, _⟩ := DataW.trod_string Tryd.underlying9 h3
  obtain ⟨A, zs, cz, rfl, hz, hZ⟩ := zrow_of h1
  obtain ⟨B, ts, ct, rfl, ht, hT, hu, hw⟩ := trow_of h2
  simp only [List.cons.injEq, and_true] at hs he
  subst hs he
  exact ⟨nm, ext, A, B, zs, ts, cz, ct, rfl, hz, ht, hZ, hT, hu, hw⟩

set_option maxRecDepth 100000 in
theorem open_zone {r : Reach} {b0 : Nat} {v : Value} {d : DataW H} {p : List MemPlace} (hv : Value.okWide Tryd.prog W r b0 27 v) (h : DataW.Trod enc Tryd.prog W base spare held 27 v d p) :
    ∃ (nm : ByteArray) (o : Int) (b : Bool), v = .agg #[.string nm, .int .i64 o, .bool b] := by
  obtain ⟨cs, rfl, hsz⟩ := okWide_struct Tryd.underlying27 hv
  obtain ⟨n, hf⟩ := h
  obtain ⟨s, hs⟩ := zone_cells hf
  refine ⟨s.f0, s.f1, s.f2, ?_⟩
  obtain ⟨l⟩ := cs
  simp only [Value.cells] at hs
  rw [show l = _ from hs]

set_option maxRecDepth 100000 in
theorem open_rule {r : Reach} {b0 : Nat} {v : Value} {d : DataW H} {p : List MemPlace} (hv : Value.okWide Tryd.prog W r b0 29 v) (h : DataW.Trod enc Tryd.prog W base spare held 29 v d p) :
    ∃ k d e m t : Int, v = .agg #[.int .i64 k, .int .i64 d, .int .i64 e, .int .i64 m, .int .i64 t] := by
  obtain ⟨cs, rfl, hsz⟩ := okWide_struct Tryd.underlying29 hv
  obtain ⟨n, hf⟩ := h
  obtain ⟨xs, m, _, _, hl, hlen, hel⟩ := DataW.trod_struct Tryd.underlying29 hf
  rw [c29] at hl
  obtain ⟨l⟩ := cs
  simp only [Value.cells] at hl hel
  obtain ⟨a0, a1, a2, a3, a4, rfl⟩ := list5 hl
  have key : ∀ (i : Nat) (f : Field) (a : Value), #[({ name := "Kind", type := 3, offset := 0, embedded := false, tag := "", pkgPath := "", byteOffset := 0 } : Field), { name := "Day", type := 3, offset := 1, embedded := false, tag := "", pkgPath := "", byteOffset := 8 }, { name := "Week", type := 3, offset := 2, embedded := false, tag := "", pkgPath := "", byteOffset := 16 }, { name := "Month", type := 3, offset := 3, embedded := false, tag := "", pkgPath := "", byteOffset := 24 }, { name := "Time", type := 3, offset := 4, embedded := false, tag := "", pkgPath := "", byteOffset := 32 }][i]? = some f →
      f.type = 3 → ([a0, a1, a2, a3, a4].drop f.offset).take 1 = [a] → i < 5 → ∃ z : Int, a = .int .i64 z := by
    intro i f a hf ht ha hi
    have hx := hel i f hf
    rw [ht, c3, ha, List.getElem?_eq_getElem (by rw [hlen]; exact hi)] at hx
    obtain ⟨z, hz, _⟩ := DataW.trod_int Tryd.underlying3 hx
    simp only [List.cons.injEq, and_true] at hz
    exact ⟨z, hz⟩
  obtain ⟨z0, rfl⟩ := key 0 _ a0 rfl rfl rfl (by decide)
  obtain ⟨z1, rfl⟩ := key 1 _ a1 rfl rfl rfl (by decide)
  obtain ⟨z2, rfl⟩ := key 2 _ a2 rfl rfl rfl (by decide)
  obtain ⟨z3, rfl⟩ := key 3 _ a3 rfl rfl rfl (by decide)
  obtain ⟨z4, rfl⟩ := key 4 _ a4 rfl rfl rfl (by decide)
  exact ⟨z0, z1, z2, z3, z4, rfl⟩
end

/-- The listed variable, as the row lists it. -/
abbrev laidList : List (String × DataW Unit) := [("loop.example/pub-zonetheorem/pub/gotimezone.errBadData", Rows.laid_loop_example_pub_zonetheorem_pub_gotimezone_errBadData)]

/-- A start that fits: the heap that the program's own start leaves. -/
theorem door_met (os : Os) (args : Array Value) : laidMetH Tryd.prog laidList ((World.doorLaid Tryd.prog 400 os).forCall (fun _ _ => 0) ⟨#[], args, []⟩).memory :=
  laidMetH_of_parts3 (fuel := 8) (laidMet_of_run' 8 (by kernel_rfl) (by kernel_rfl)) (by kernel_rfl) (by kernel_rfl)

set_option maxRecDepth 100000 in
theorem lifted (os : Os) (started : os.Started) (H : Type) (enc : TypeId × Value → H) :
    ReturnsInHanded {} Tryd.checked os 3 .any (fun w args => (Rows.fnZoneSpec.pre enc Tryd.prog Tryd.f3 [] false w args ∧ laidMetH Tryd.prog laidList w) ∧ sizedMet enc Tryd.prog Tryd.f3 (OpenSpec.ofChange Rows.fnZoneSpec) false w args)
      (Rows.fnZoneSpec.post enc Tryd.prog Tryd.f3 false true false false) := by
  refine returnsInHanded_of_change_and (C := Tryd.checked) (X := fun w _ => laidMetH Tryd.prog laidList w) (fun _ _ _ hh h => h.of_heap hh) own started (by kernel_rfl) Tryd.func3
    (ChangeSpec.witness_shaped (enc := enc) (C := Tryd.checked) (os := os) (X := fun w _ => laidMetH Tryd.prog laidList w) false (World.doorLaid Tryd.prog 400 os) #[.agg #[.string ByteArray.empty, .slice none 0 0, .slice none 0 0, .string ByteArray.empty], .agg #[.string ByteArray.empty, .int .i64 0, .bool false], .agg #[.string ByteArray.empty, .int .i64 0, .bool false], .agg #[.int .i64 0, .int .i64 0, .int .i64 0, .int .i64 0, .int .i64 0], .agg #[.int .i64 0, .int .i64 0, .int .i64 0, .int .i64 0, .int .i64 0], .bool false, .int .i64 0] 8 rfl
      (World.shaped_of_RefB (by kernel_rfl) (by kernel_rfl)) (by kernel_rfl) (by kernel_rfl) (by kernel_rfl) (door_met os _)) ?_
  intro W base args ds gs before hval0 hW _ _ _ _
  have hval : ∀ (j : Nat) t v, Tryd.f3.params[j]? = some t → args[j]? = some v → Value.okWide Tryd.prog W .any base t v := hval0
  have hW' := hW
  obtain ⟨p, q, hA0, hV0, rfl, hfz, hnd⟩ := hW
  have hA : DataW.TrodAll enc Tryd.prog W 0 (fun _ => true) true Tryd.f3.params.toList args.toList ds p := hA0
  have hV : DataW.TrodVars enc Tryd.prog W (fun _ => true) ["loop.example/pub-zonetheorem/pub/gotimezone.errBadData"] gs q := hV0
  rw [Tryd.params3] at hA hval
  obtain ⟨v0, vs0, d0, ds0, p0, q0, hargs, rfl, rfl, h0, r0⟩ := trodAll_cons hA
  obtain ⟨v1, vs1, d1, ds1, p1, q1, rfl, rfl, rfl, h1, r1⟩ := trodAll_cons r0
  obtain ⟨v2, vs2, d2, ds2, p2, q2, rfl, rfl, rfl, h2, r2⟩ := trodAll_cons r1
  obtain ⟨v3, vs3, d3, ds3, p3, q3, rfl, rfl, rfl, h3, r3⟩ := trodAll_cons r2
  obtain ⟨v4, vs4, d4, ds4, p4, q4, rfl, rfl, rfl, h4, r4⟩ := trodAll_cons r3
  obtain ⟨v5, vs5, d5, ds5, p5, q5, rfl, rfl, rfl, h5, r5⟩ := trodAll_cons r4
  obtain ⟨v6, vs6, d6, ds6, p6, q6, rfl, rfl, rfl, h6, r6⟩ := trodAll_cons r5
  obtain ⟨rfl, rfl, rfl⟩ := trodAll_nil r6
  obtain rfl : args = #[v0, v1, v2, v3, v4, v5, v6] := by cases args; simp_all
  have lt : ∀ {t : TypeId} {v : Value} {d : DataW H} {ps : List MemPlace}, DataW.Trod enc Tryd.prog W 0 (fun _ => true) true t v d ps → ∀ x ∈ ps, x.block < W.heap.size := by
    rintro t v d ps ⟨m, hm⟩
    exact DataW.trod_lt m _ _ _ hm
  obtain ⟨nm, ext, A, B, zs, ts, cz, ct, e0, hz, ht, hZ, hT, hu, hw⟩ := open_data (hval 0 25 v0 rfl rfl) h0
  obtain ⟨n1, o1, b1, e1⟩ := open_zone (hval 1 27 v1 rfl rfl) h1
  obtain ⟨n2, o2, b2, e2⟩ := open_zone (hval 2 27 v2 rfl rfl) h2
  obtain ⟨x0, x1, x2, x3, x4, e3⟩ := open_rule (hval 3 29 v3 rfl rfl) h3
  obtain ⟨z0, z1, z2, z3, z4, e4⟩ := open_rule (hval 4 29 v4 rfl rfl) h4
  obtain ⟨wh, e5, _⟩ := open_bool Tryd.underlying4 (hval 5 4 v5 rfl rfl) h5
  obtain ⟨sec, e6, _⟩ := open_int Tryd.underlying2 (hval 6 2 v6 rfl rfl) h6
  obtain ⟨_, _, _, _, g0, _, rfl, _⟩ := trodVars_one hV
  subst e0 e1 e2 e3 e4 e5 e6
  refine (fnzone_calls nm zs ts ext A cz B ct n1 o1 b1 n2 o2 b2 x0 x1 x2 x3 x4 z0 z1 z2 z3 z4 wh sec W hZ hT hz ht hu hw).mono fun e W' ⟨he, bel⟩ => ?_
  subst he
  have back : ∀ {t : TypeId} {v : Value} {d : DataW H} {ps : List MemPlace}, Tryd.prog.readableRec t = true → t < Tryd.prog.types.size → DataW.Trod enc Tryd.prog W 0 (fun _ => true) true t v d ps → DataW.Trod enc Tryd.prog W' 0 (fun b => decide (b < W.heap.size)) true t v d ps :=
    fun hr hs hk => Below.trod laidOut hr hs hk bel (lt hk)
  exact ⟨_, rfl, _, _, _, [], _, _, hW', trodAll_mk1 (shut_bool Tryd.underlying4 _),
    trodAll_cons_mk (back (by kernel_rfl) (of_decide_eq_true (by kernel_rfl)) h0) (trodAll_cons_mk (back (by kernel_rfl) (of_decide_eq_true (by kernel_rfl)) h1) (trodAll_cons_mk (back (by kernel_rfl) (of_decide_eq_true (by kernel_rfl)) h2) (trodAll_cons_mk (back (by kernel_rfl) (of_decide_eq_true (by kernel_rfl)) h3)
      (trodAll_cons_mk (back (by kernel_rfl) (of_decide_eq_true (by kernel_rfl)) h4) (trodAll_cons_mk (back (by kernel_rfl) (of_decide_eq_true (by kernel_rfl)) h5) (trodAll_cons_mk (back (by kernel_rfl) (of_decide_eq_true (by kernel_rfl)) h6) trodAll_mk0)))))),
    bel.trodVars laidOut (by kernel_rfl) hV, bel.frame _, fun h => by cases h⟩

theorem over : Rows.fnZoneRow.holds Tryd.pinned (OpenSpec.ofChange Rows.fnZoneSpec) :=
  OpenClaim.holds_of_wide 3 Tryd.f3 rfl rfl rfl rfl rfl rfl rfl ⟨rfl, rfl, rfl, rfl, rfl⟩ rfl rfl rfl rfl rfl (by kernel_rfl) Tryd.func3 (by kernel_rfl)
    (of_decide_eq_true (by kernel_rfl)) (by unfold Func.isWrapper; first | (rw [if_pos (by decide +kernel)]; kernel_rfl) | (rw [if_neg (by decide +kernel)]; exact ⟨rfl, rfl⟩))
    (fun os started H enc _ => lifted os started H enc)
theorem proved : Rows.FnZoneSaid := over
end Go.Proofs.YtjoaeennbfmohaaDoor.fnZone
