/- A file of the second version, as the specification writes it, is loaded. Conditions: the place is one that a file can tell. -/
import Derived.Test.YtjoaeennbfmohaaDoorV4
import Derived.Test.YtjoaeennbfmohaaDoorC9
import Derived.Test.YtjoaeennbfmohaaDoorLd
namespace Go.Proofs.YtjoaeennbfmohaaDoor
open Go.RowKit Go.Proofs.YtjoaeennbfmohaaDoorW.PrintWords Go.Proofs.YtjoaeennbfmohaaDoorW.PrintMore Go.Proofs.YtjoaeennbfmohaaDoor.PFnZone
set_option linter.unusedVariables false
set_option linter.unusedSimpArgs false

theorem headL_length (ver m z b : Int) (rest : List Int) : (headL ver m z b rest).length = 44 + rest.length := by
  simp [headL, b4]; omega
theorem headL_drop (ver m z b : Int) (rest : List Int) : (headL ver m z b rest).drop 44 = rest := by
  simp [headL, b4]
theorem headL_app (ver m z b : Int) (rest more : List Int) : headL ver m z b rest ++ more = headL ver m z b (rest ++ more) := by
  simp [headL]
theorem be4_b4 (n : Int) (rest : List Int) : be4 (b4 n ++ rest) = n % 4294967296 := by
  simp [be4, b4, List.getD_eq_getElem?_getD]
  omega
theorem headL_counts (ver : Int) (m z b : Nat) (hm : m ≤ 100000) (hz : z ≤ 100000) (hb : b ≤ 100000) (rest : List Int) : ∀ j, j < 6 → be4 ((headL ver m z b rest).drop (20 + 4 * j)) = c2 m z b j := by
  refine six ?_ ?_ ?_ ?_ ?_ ?_
  · show be4 (b4 0 ++ _) = _; rw [be4_b4]; rfl
  · show be4 (b4 0 ++ _) = _; rw [be4_b4]; rfl
  · show be4 (b4 0 ++ _) = _; rw [be4_b4]; rfl
  · show be4 (b4 (m : Int) ++ _) = _; rw [be4_b4]; show (m : Int) % 4294967296 = (m : Int); omega
  · show be4 (b4 (z : Int) ++ _) = _; rw [be4_b4]; show (z : Int) % 4294967296 = (z : Int); omega
  · show be4 (b4 (b : Int) ++ _) = _; rw [be4_b4]; show (b : Int) % 4294967296 = (b : Int); omega

theorem drop_past (a b : List Int) (n : Nat) : (a ++ b).drop (a.length + n) = b.drop n := by rw [← List.drop_drop, List.drop_left]
theorem c1_c2 (a j : Nat) : c1 a j = c2 0 1 a j := by
  unfold c1 c2
  repeat' split
  all_goals first | rfl | omega

theorem file2_bytes (zs : List S27) (ts : List S45) (hg : FileGood zs ts) (hu : ∀ t ∈ ts, 0 ≤ t.f1 ∧ t.f1 ≤ 255) (nm ext : ByteArray) (he : ext.size ≤ 100000) (z0 : S27) (h0 : zs.take 1 = [z0]) :
    ∃ B, Ev (fun k => spec_File2.f k nm zs ts ext) B ∧ B.size ≤ 10000000 ∧ bytesOf B = headL 50 0 1 ((z0.f0.size + 1 : Nat) : Int) (kindsL 0 [z0] ++ charsL [z0]) ++ (headL 50 (ts.length : Int) (zs.length : Int) (nsum zs : Int) (timesL true ts ++ (numsL ts ++ (kindsL 0 zs ++ (charsL zs ++ (10 :: (bytesOf ext ++ [10]))))))) := by
  have hp := hg.place
  have hz2 := hp.z2
  have hz1 := hp.z1
  have ht2 := hp.t2
  have hsum := hg.sum
  have hs0 : nsum [z0] = z0.f0.size + 1 := by simp [nsum]
  have hle0 : nsum [z0] ≤ nsum zs := by
    have : nsum zs = nsum (zs.take 1) + nsum (zs.drop 1) := by rw [← nsum_app, List.take_append_drop]
    rw [this, h0]; omega
  obtain ⟨B1, ⟨n1, e1⟩, b1⟩ := block_bytes false 50 (by omega) [z0] [] (by simp) (by omega) (by simp) (by simp) ⟨#[]⟩ ⟨#[]⟩
  obtain ⟨B2, ⟨n2, e2⟩, b2⟩ := block_bytes true 50 (by omega) zs ts hz2 (by omega) ht2 hu nm ext
  rw [hs0] at b1
  have s1 : B1.size ≤ 10000 := by
    rw [size_of_bytes B1 _ b1, headL_length]
    simp only [timesL, numsL, List.map_nil, List.flatten_nil, List.nil_append, List.length_append, kindsL_length, charsL_length, List.length_cons, List.length_nil]
    omega
  have s2 : B2.size ≤ 100000 := by
    rw [size_of_bytes B2 _ b2, headL_length]
    simp only [List.length_append, kindsL_length, charsL_length, timesL_length, numsL, List.length_map, if_true]
    omega
  have q10 : (⟨#[10]⟩ : ByteArray).size = 1 := rfl
  refine ⟨(((B1 ++ B2) ++ (⟨#[10]⟩ : ByteArray)) ++ ext) ++ (⟨#[10]⟩ : ByteArray), ⟨n1 + n2, fun k hk => ?_⟩, ?_, ?_⟩
  · have f1 : spec_block.f k ⟨#[]⟩ (zs.take 1) [] ⟨#[]⟩ 50 4 = some B1 := by rw [h0]; exact e1 k (by omega)
    have f2 : spec_block.f k nm zs ts ext 50 8 = some B2 := e2 k (by omega)
    show spec_File2.f k nm zs ts ext = _
    unfold spec_File2.f
    rw [if_pos (by omega), f1, Option.bind_some, f2, Option.bind_some, if_pos (by omega), if_pos (by rw [ByteArray.size_append]; omega), if_pos (by rw [ByteArray.size_append, ByteArray.size_append, q10]; omega), if_pos (by rw [ByteArray.size_append, ByteArray.size_append, ByteArray.size_append, q10]; omega)]
  · rw [ByteArray.size_append, ByteArray.size_append, ByteArray.size_append, ByteArray.size_append, q10]; omega
  · rw [bytesOf_append, bytesOf_append, bytesOf_append, bytesOf_append, b1, b2]
    simp only [headL_app, List.append_assoc]
    rfl

theorem kindsL_drop (zs : List S27) : ∀ (c i : Nat), (hi : i < zs.length) → ∃ rest, (kindsL c zs).drop (6 * i) = b4 zs[i].f1 ++ ((if zs[i].f2 = true then 1 else 0) :: (((c + nsum (zs.take i) : Nat) : Int) % 256) :: rest) := by
  induction zs with
  | nil => intro c i hi; simp at hi
  | cons z r ih =>
    intro c i hi
    cases i with
    | zero => exact ⟨kindsL (c + (z.f0.size + 1)) r, by simp [kindsL, nsum]⟩
    | succ i =>
      obtain ⟨rest, h⟩ := ih (c + (z.f0.size + 1)) i (by simpa using hi)
      refine ⟨rest, ?_⟩
      have e : (kindsL c (z :: r)).drop (6 * (i + 1)) = (kindsL (c + (z.f0.size + 1)) r).drop (6 * i) := by
        rw [show 6 * (i + 1) = 6 + 6 * i by omega, ← List.drop_drop]
        congr 1
      rw [e, h, List.take_succ_cons, nsum_cons, show c + ((z.f0.size + 1) + nsum (r.take i)) = c + (z.f0.size + 1) + nsum (r.take i) by omega]
      rfl
theorem charsL_drop (zs : List S27) : ∀ i : Nat, (hi : i < zs.length) → (charsL zs).drop (nsum (zs.take i)) = bytesOf zs[i].f0 ++ 0 :: charsL (zs.drop (i + 1)) := by
  induction zs with
  | nil => intro i hi; simp at hi
  | cons z r ih =>
    intro i hi
    cases i with
    | zero => simp [charsL, nsum]
    | succ i =>
      rw [List.take_succ_cons, nsum_cons, ← List.drop_drop]
      have e : (charsL (z :: r)).drop (z.f0.size + 1) = charsL r := by
        show (bytesOf z.f0 ++ 0 :: charsL r).drop (z.f0.size + 1) = _
        rw [show z.f0.size + 1 = (bytesOf z.f0 ++ [0]).length by simp [bytesOf_length], show bytesOf z.f0 ++ 0 :: charsL r = (bytesOf z.f0 ++ [0]) ++ charsL r by simp, List.drop_left]
      rw [e, ih i (by simpa using hi)]
      rfl
theorem timesL_drop (ts : List S45) : ∀ i : Nat, (hi : i < ts.length) → ∃ rest, (timesL true ts).drop (8 * i) = b8 ts[i].f0 ++ rest := by
  induction ts with
  | nil => intro i hi; simp at hi
  | cons t r ih =>
    intro i hi
    cases i with
    | zero => exact ⟨timesL true r, rfl⟩
    | succ i =>
      obtain ⟨rest, h⟩ := ih i (by simpa using hi)
      refine ⟨rest, ?_⟩
      rw [show 8 * (i + 1) = 8 + 8 * i by omega, ← List.drop_drop]
      exact h
theorem be8_b8 (n : Int) (rest : List Int) : be8 (b8 n ++ rest) = n % 18446744073709551616 := by
  simp [be8, be4, b8, List.getD_eq_getElem?_getD]
  omega
theorem bt_bytes (s : ByteArray) (h : NoNul s) : ∀ x ∈ bytesOf s, x ≠ 0 := by
  intro x hx
  obtain ⟨j, hj, rfl⟩ := List.getElem_of_mem hx
  rw [bytesOf_length] at hj
  have h1 := h j hj
  have e : (bytesOf s)[j]'(by rw [bytesOf_length]; exact hj) = bt s j := by
    unfold bt
    rw [dif_pos (by simpa using hj)]
    simp [bytesOf]
    rfl
  rw [e]; exact h1

/-- impl.Load of such a file. -/
theorem load_good (zs : List S27) (ts : List S45) (hg : FileGood zs ts) (hu : ∀ t ∈ ts, 0 ≤ t.f1 ∧ t.f1 ≤ 255) (hw : ∀ t ∈ ts, -9223372036854775808 ≤ t.f0 ∧ t.f0 ≤ 9223372036854775807) (ht1 : 1 ≤ ts.length) (nm ext : ByteArray) (he : ext.size ≤ 100000) (he0 : 0 < ext.size) :
    ∃ B, Ev (fun k => spec_File2.f k nm zs ts ext) B ∧ B.size ≤ 10000000 ∧ ∀ A c w1, Src w1 A B.size c (bytesOf B) → Calls Tryd.prog 25 #[.string nm, .slice A B.size c] w1 (LoadedAt nm zs ts ext w1) := by
  have hp := hg.place
  have hz2 := hp.z2
  have hz1 := hp.z1
  have ht2 := hp.t2
  have hsum := hg.sum
  obtain ⟨z0, zr, hzs⟩ : ∃ z0 zr, zs = z0 :: zr := by
    cases zs with
    | nil => simp at hz1
    | cons a b => exact ⟨a, b, rfl⟩
  have h0 : zs.take 1 = [z0] := by rw [hzs]; rfl
  have hle0 : z0.f0.size + 1 ≤ nsum zs := by rw [hzs, nsum_cons]; omega
  obtain ⟨B, hB, hBs, hb⟩ := file2_bytes zs ts hg hu nm ext he z0 h0
  refine ⟨B, hB, hBs, fun A c w1 hsrc => ?_⟩
  obtain ⟨a, ha⟩ : ∃ a, z0.f0.size + 1 = a := ⟨_, rfl⟩
  rw [ha] at hb hle0
  have hl1 : (headL 50 0 1 (a : Int) (kindsL 0 [z0] ++ charsL [z0])).length = 50 + a := by
    rw [headL_length, List.length_append, kindsL_length, charsL_length, ← ha, nsum_cons]
    simp [nsum]
    omega
  have hlen : B.size = 94 + a + 8 * ts.length + ts.length + 6 * zs.length + nsum zs + (ext.size + 2) := by
    rw [size_of_bytes B _ hb, List.length_append, hl1, headL_length]
    simp only [List.length_append, List.length_cons, List.length_nil, kindsL_length, charsL_length, timesL_length, numsL, List.length_map, bytesOf_length, if_true]
    omega
  refine (load2_calls nm A B.size c (bytesOf B) w1 hsrc a ts.length zs.length (nsum zs) (ext.size + 2) hlen.symm ?_ ?_ ?_ ?_ (timesL true ts) (numsL ts) (kindsL 0 zs) (charsL zs) (10 :: (bytesOf ext ++ [10])) ?_ ?_ ?_ ?_ ?_ (bytesOf ext) rfl ?_ ?_ (fun i => zs.getD i z27) (fun i => ts.getD i z45) hz1 (by omega) ht1 (by omega) ?_ ?_).mono ?_
  · rw [hb]; rfl
  · rw [hb]; rfl
  · intro j hj
    rw [hb, headL_app, c1_c2]
    exact headL_counts 50 0 1 a (by omega) (by omega) (by omega) _ j hj
  · intro j hj
    rw [hb, show 70 + a + 4 * j = (headL 50 0 1 (a : Int) (kindsL 0 [z0] ++ charsL [z0])).length + (20 + 4 * j) by rw [hl1]; omega, drop_past]
    exact headL_counts 50 ts.length zs.length (nsum zs) (by omega) (by omega) (by omega) _ j hj
  · rw [hb, show 94 + a = (headL 50 0 1 (a : Int) (kindsL 0 [z0] ++ charsL [z0])).length + 44 by rw [hl1]; omega, drop_past, headL_drop]
  · rw [timesL_length]; rfl
  · simp [numsL]
  · rw [kindsL_length]
  · rw [charsL_length]
  · rw [bytesOf_length]; exact he0
  · rw [bytesOf_length]
  · intro i hi
    have hgd : zs.getD i z27 = zs[i] := by simp [hi]
    show ZoneAt _ _ _ (zs.getD i z27) i
    rw [hgd]
    obtain ⟨rest, hk⟩ := kindsL_drop zs 0 i hi
    have hix : nsum (zs.take i) < nsum zs := by
      conv => rhs; rw [← List.take_append_drop i zs, List.drop_eq_getElem_cons hi]
      rw [nsum_app, nsum_cons]
      omega
    obtain ⟨o1, o2⟩ := hp.offs i hi
    refine ⟨?_, ?_, nsum (zs.take i), bytesOf zs[i].f0, charsL (zs.drop (i + 1)), ?_, hix, charsL_drop zs i hi, bt_bytes _ (hg.nul i hi), str_bytesOf _⟩
    · rw [hk, be4_b4]
      unfold wrap32
      omega
    · rw [show 6 * i + 4 = 6 * i + 4 from rfl, ← List.drop_drop, hk]
      cases zs[i].f2 <;> rfl
    · rw [show 6 * i + 5 = 6 * i + 5 from rfl, ← List.drop_drop, hk]
      show (((0 + nsum (zs.take i) : Nat) : Int) % 256) = _
      omega
  · intro i hi
    have hgd : ts.getD i z45 = ts[i] := by simp [hi]
    show TransAt _ _ _ (ts.getD i z45) i
    rw [hgd]
    obtain ⟨rest, hk⟩ := timesL_drop ts i hi
    obtain ⟨w0, w1⟩ := hw ts[i] (List.getElem_mem _)
    refine ⟨?_, ?_, hp.trans.1 i hi⟩
    · rw [hk, be8_b8]
      unfold wrap64
      omega
    · simp [numsL, List.getD_eq_getElem?_getD, hi]
  · intro e w' h
    have h2 := loaded_at nm _ zs.length _ ts.length _ w1 (by omega) (by omega) e w' h
    rw [str_bytesOf] at h2
    have e1 : (List.range zs.length).map (fun i => zs.getD i z27) = zs := by
      apply List.ext_getElem (by simp)
      intro i h1 h2
      simp [h2]
    have e2 : (List.range ts.length).map (fun i => ts.getD i z45) = ts := by
      apply List.ext_getElem (by simp)
      intro i h1 h2
      simp [h2]
    rw [e1, e2] at h2
    exact h2
end Go.Proofs.YtjoaeennbfmohaaDoor
