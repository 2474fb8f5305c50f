/- Plain law: the bytes of a block of a file. No program in sight. -/
import Derived.Test.YtjoaeennbfmohaaDoorV2
import Derived.Test.YtjoaeennbfmohaaDoorLa
namespace Go.Proofs.YtjoaeennbfmohaaDoor
open Go.RowKit Go.Proofs.YtjoaeennbfmohaaDoorW.PrintWords Go.Proofs.YtjoaeennbfmohaaDoorW.PrintMore Go.Proofs.YtjoaeennbfmohaaDoor.PFnZone
set_option linter.unusedVariables false
set_option linter.unusedSimpArgs false

/-! ### bytes -/
def By (xs : List Int) : Prop := ∀ x ∈ xs, 0 ≤ x ∧ x < 256
theorem bytesOf_str (xs : List Int) (h : By xs) : bytesOf (strOfNums xs) = xs := by
  rw [bytesOf, strOfNums_data, List.map_map]
  have e : ∀ x ∈ xs, ((fun b : UInt8 => (b.toNat : Int)) ∘ fun n : Int => UInt8.ofNat n.toNat) x = x := by
    intro x hx
    obtain ⟨h0, h1⟩ := h x hx
    show ((UInt8.ofNat x.toNat).toNat : Int) = x
    rw [UInt8.toNat_ofNat']
    omega
  rw [List.map_congr_left e, List.map_id']
theorem str_bytesOf (s : ByteArray) : strOfNums (bytesOf s) = s := by
  apply ByteArray.ext
  rw [← Array.toList_inj, strOfNums_data, bytesOf, List.map_map]
  have e : ∀ x ∈ s.data.toList, ((fun n : Int => UInt8.ofNat n.toNat) ∘ fun b : UInt8 => (b.toNat : Int)) x = x := by
    intro x hx
    show UInt8.ofNat ((x.toNat : Int)).toNat = x
    rw [Int.toNat_natCast, UInt8.ofNat_toNat]
  rw [List.map_congr_left e, List.map_id']
theorem bytesOf_append (a b : ByteArray) : bytesOf (a ++ b) = bytesOf a ++ bytesOf b := by
  simp [bytesOf]
theorem bytesOf_by (s : ByteArray) : By (bytesOf s) := by
  intro x hx
  simp only [bytesOf, List.mem_map] at hx
  obtain ⟨y, -, rfl⟩ := hx
  have := y.toNat_lt
  omega
def b4 (n : Int) : List Int := [n / 16777216 % 256, n / 65536 % 256, n / 256 % 256, n % 256]
def b8 (n : Int) : List Int := [n / 72057594037927936 % 256, n / 281474976710656 % 256, n / 1099511627776 % 256, n / 4294967296 % 256, n / 16777216 % 256, n / 65536 % 256, n / 256 % 256, n % 256]
theorem by_b4 (n : Int) : By (b4 n) := by
  intro x hx
  simp [b4] at hx
  omega
theorem by_b8 (n : Int) : By (b8 n) := by
  intro x hx
  simp [b8] at hx
  omega
theorem bytes4 (n : Int) : Ev (fun k => spec_Bytes.f k n 4) (strOfNums (b4 n)) := by
  refine ⟨10, fun k hk => ?_⟩
  obtain ⟨k, rfl⟩ : ∃ j, k = j + 10 := ⟨k - 10, by omega⟩
  simp [spec_Bytes.f, spec_Bytes.l0, wrap64, shr, IntKind.bits, b4]
theorem bytes8 (n : Int) : Ev (fun k => spec_Bytes.f k n 8) (strOfNums (b8 n)) := by
  refine ⟨10, fun k hk => ?_⟩
  obtain ⟨k, rfl⟩ : ∃ j, k = j + 10 := ⟨k - 10, by omega⟩
  simp [spec_Bytes.f, spec_Bytes.l0, wrap64, shr, IntKind.bits, b8]
theorem bytes15 : Ev (fun k => spec_Bytes.f k 0 15) (strOfNums [0, 0, 0, 0, 0, 0, 0, 0, 0, 0, 0, 0, 0, 0, 0]) := by
  refine ⟨20, fun k hk => ?_⟩
  obtain ⟨k, rfl⟩ : ∃ j, k = j + 20 := ⟨k - 20, by omega⟩
  simp [spec_Bytes.f, spec_Bytes.l0, wrap64, shr, IntKind.bits]

/-- The names, a zero behind each; the kinds, c bytes of names ahead of them. -/
def charsL : List S27 → List Int
  | [] => []
  | z :: r => bytesOf z.f0 ++ 0 :: charsL r
def kindsL : Nat → List S27 → List Int
  | _, [] => []
  | c, z :: r => b4 z.f1 ++ ((if z.f2 = true then 1 else 0) :: ((c : Int) % 256) :: kindsL (c + (z.f0.size + 1)) r)
def timesL (big : Bool) (ts : List S45) : List Int := (ts.map fun t => if big = true then b8 t.f0 else b4 t.f0).flatten
def numsL (ts : List S45) : List Int := ts.map fun t => t.f1
def headL (ver m z b : Int) (rest : List Int) : List Int :=
  84 :: 90 :: 105 :: 102 :: ver :: 0 :: 0 :: 0 :: 0 :: 0 :: 0 :: 0 :: 0 :: 0 :: 0 :: 0 :: 0 :: 0 :: 0 :: 0 ::
    (b4 0 ++ (b4 0 ++ (b4 0 ++ (b4 m ++ (b4 z ++ (b4 b ++ rest))))))
theorem charsL_length (zs : List S27) : (charsL zs).length = nsum zs := by
  induction zs with
  | nil => rfl
  | cons z r ih => simp [charsL, nsum, bytesOf_length] at ih ⊢; omega
theorem kindsL_length (zs : List S27) : ∀ c, (kindsL c zs).length = 6 * zs.length := by
  induction zs with
  | nil => intro c; rfl
  | cons z r ih => intro c; simp [kindsL, b4, ih]; omega
theorem charsL_snoc (a : List S27) (z : S27) : charsL (a ++ [z]) = charsL a ++ (bytesOf z.f0 ++ [0]) := by
  induction a with
  | nil => rfl
  | cons x r ih => simp [charsL, ih]
theorem nsum_cons (z : S27) (r : List S27) : nsum (z :: r) = (z.f0.size + 1) + nsum r := by simp [nsum]
theorem nsum_app (a b : List S27) : nsum (a ++ b) = nsum a + nsum b := by simp [nsum]
theorem kindsL_snoc (a : List S27) (z : S27) : ∀ c, kindsL c (a ++ [z]) = kindsL c a ++ (b4 z.f1 ++ [if z.f2 = true then 1 else 0, ((c + nsum a : Nat) : Int) % 256]) := by
  induction a with
  | nil => intro c; simp [kindsL, nsum]
  | cons x r ih =>
    intro c
    simp only [List.cons_append, kindsL, ih, List.append_assoc]
    simp [nsum]
    omega
theorem size_of_bytes (s : ByteArray) (l : List Int) (h : bytesOf s = l) : s.size = l.length := by rw [← h, bytesOf_length]

/-- Sizes that leave room. -/
theorem timesL_length (big : Bool) (ts : List S45) : (timesL big ts).length = (if big = true then 8 else 4) * ts.length := by
  induction ts with
  | nil => simp [timesL]
  | cons t r ih =>
    simp only [timesL, List.map_cons, List.flatten_cons, List.length_append, List.length_cons] at ih ⊢
    rw [ih]
    cases big <;> simp [b4, b8] <;> omega

theorem numsL_cons (t : S45) (r : List S45) : numsL (t :: r) = t.f1 :: numsL r := rfl
theorem timesL_cons (big : Bool) (t : S45) (r : List S45) : timesL big (t :: r) = (if big = true then b8 t.f0 else b4 t.f0) ++ timesL big r := rfl

theorem block_l3 (C K : ByteArray) (ts : List S45) (hts : ts.length ≤ 1000) (hu : ∀ t ∈ ts, 0 ≤ t.f1 ∧ t.f1 ≤ 255) (hC : C.size ≤ 1000000) (hK : K.size ≤ 1000000) : ∀ d i : Nat, i + d = ts.length → ∀ O : ByteArray, O.size ≤ 100000 + i →
    ∃ B, Ev (fun k => spec_block.l3 k C K O ts (ts.length : Int) (i : Int)) B ∧ bytesOf B = bytesOf O ++ (numsL (ts.drop i) ++ (bytesOf K ++ bytesOf C)) := by
  intro d
  induction d with
  | zero =>
    intro i hi O hO
    have h1 : O.size + K.size ≤ 9223372036854775807 := by omega
    have h2 : (O ++ K).size + C.size ≤ 9223372036854775807 := by rw [ByteArray.size_append]; omega
    refine ⟨(O ++ K) ++ C, Ev.succ (g := fun _ => some _) (Ev.of fun _ => rfl) (fun k => ?_), ?_⟩
    · simp only [spec_block.l3]
      rw [if_neg (by omega), if_pos h1, if_pos h2]
    · rw [bytesOf_append, bytesOf_append, List.drop_of_length_le (by omega)]
      simp [numsL]
  | succ d ih =>
    intro i hi O hO
    have hil : i < ts.length := by omega
    obtain ⟨u0, u1⟩ := hu ts[i] (List.getElem_mem _)
    have hs1 : (strOfNums [ts[i].f1]).size = 1 := strOfNums_size _
    have hw : wrap64 ((i : Int) + 1) = ((i + 1 : Nat) : Int) := by rw [wrap64_small _ (by omega) (by omega)]; rfl
    obtain ⟨B, hB, hb⟩ := ih (i + 1) (by omega) (O ++ strOfNums [ts[i].f1]) (by rw [ByteArray.size_append, hs1]; omega)
    refine ⟨B, Ev.succ hB (fun k => ?_), ?_⟩
    · simp only [spec_block.l3]
      rw [if_pos (by omega), if_pos (by omega), if_pos (by omega), rd45_at ts i hil, Option.bind_some, if_pos (by rw [hs1]; omega), hw]
    · rw [hb, bytesOf_append, bytesOf_str _ (by intro x hx; simp at hx; omega), List.drop_eq_getElem_cons hil, numsL_cons, List.append_assoc]
      rfl

theorem block_l2 (big : Bool) (C K : ByteArray) (zs : List S27) (ts : List S45) (hts : ts.length ≤ 1000) (hu : ∀ t ∈ ts, 0 ≤ t.f1 ∧ t.f1 ≤ 255) (hC : C.size ≤ 1000000) (hK : K.size ≤ 1000000) (nm ext : ByteArray) : ∀ d i : Nat, i + d = ts.length → ∀ O : ByteArray, O.size ≤ 1000 + 8 * i →
    ∃ B, Ev (fun k => spec_block.l2 k (if big = true then 8 else 4) C K O ts (ts.length : Int) (i : Int) nm zs ts ext) B ∧ bytesOf B = bytesOf O ++ (timesL big (ts.drop i) ++ (numsL ts ++ (bytesOf K ++ bytesOf C))) := by
  intro d
  induction d with
  | zero =>
    intro i hi O hO
    obtain ⟨B, hB, hb⟩ := block_l3 C K ts hts hu hC hK ts.length 0 (by omega) O (by omega)
    refine ⟨B, Ev.succ hB (fun k => ?_), ?_⟩
    · simp only [spec_block.l2]
      rw [if_neg (by omega)]
      rfl
    · rw [hb, List.drop_of_length_le (by omega : ts.length ≤ i)]
      simp [timesL]
  | succ d ih =>
    intro i hi O hO
    have hil : i < ts.length := by omega
    have hw : wrap64 ((i : Int) + 1) = ((i + 1 : Nat) : Int) := by rw [wrap64_small _ (by omega) (by omega)]; rfl
    obtain ⟨n, hn⟩ : Ev (fun k => spec_Bytes.f k ts[i].f0 (if big = true then 8 else 4)) (strOfNums (if big = true then b8 ts[i].f0 else b4 ts[i].f0)) := by
      cases big
      · exact bytes4 _
      · exact bytes8 _
    have hs1 : (strOfNums (if big = true then b8 ts[i].f0 else b4 ts[i].f0)).size ≤ 8 := by rw [strOfNums_size]; cases big <;> simp [b4, b8]
    have hby : By (if big = true then b8 ts[i].f0 else b4 ts[i].f0) := by
      cases big
      · exact by_b4 _
      · exact by_b8 _
    obtain ⟨B, ⟨n2, hB⟩, hb⟩ := ih (i + 1) (by omega) (O ++ strOfNums (if big = true then b8 ts[i].f0 else b4 ts[i].f0)) (by rw [ByteArray.size_append]; omega)
    refine ⟨B, ⟨n + n2 + 1, fun k hk => ?_⟩, ?_⟩
    · obtain ⟨k, rfl⟩ : ∃ j, k = j + 1 := ⟨k - 1, by omega⟩
      have e1 : spec_Bytes.f k ts[i].f0 (if big = true then 8 else 4) = _ := hn k (by omega)
      have e2 := hB k (by omega)
      simp only [spec_block.l2]
      rw [if_pos (by omega), if_pos (by omega), if_pos (by omega), rd45_at ts i hil, e1, Option.bind_some, if_pos (by omega), hw]
      exact e2
    · rw [hb, bytesOf_append, bytesOf_str _ hby, List.drop_eq_getElem_cons hil, timesL_cons, List.append_assoc, List.append_assoc]

theorem block_l1 (big : Bool) (C K : ByteArray) (zs : List S27) (ts : List S45) (hts : ts.length ≤ 1000) (hu : ∀ t ∈ ts, 0 ≤ t.f1 ∧ t.f1 ≤ 255) (hC : C.size ≤ 1000000) (hK : K.size ≤ 1000000) (nm ext : ByteArray) (ns : List Int) (hns : ns.length ≤ 6) : ∀ d i : Nat, i + d = ns.length → ∀ O : ByteArray, O.size ≤ 100 + 4 * i →
    ∃ B, Ev (fun k => spec_block.l1 k (if big = true then 8 else 4) C K O ns (ns.length : Int) (i : Int) nm zs ts ext) B ∧ bytesOf B = bytesOf O ++ (((ns.drop i).map b4).flatten ++ (timesL big ts ++ (numsL ts ++ (bytesOf K ++ bytesOf C)))) := by
  intro d
  induction d with
  | zero =>
    intro i hi O hO
    obtain ⟨B, hB, hb⟩ := block_l2 big C K zs ts hts hu hC hK nm ext ts.length 0 (by omega) O (by omega)
    refine ⟨B, Ev.succ hB (fun k => ?_), ?_⟩
    · simp only [spec_block.l1]
      rw [if_neg (by omega)]
      rfl
    · rw [hb, List.drop_of_length_le (by omega : ns.length ≤ i)]
      rfl
  | succ d ih =>
    intro i hi O hO
    have hil : i < ns.length := by omega
    have hw : wrap64 ((i : Int) + 1) = ((i + 1 : Nat) : Int) := by rw [wrap64_small _ (by omega) (by omega)]; rfl
    obtain ⟨n, hn⟩ := bytes4 ns[i]
    have hs1 : (strOfNums (b4 ns[i])).size = 4 := by rw [strOfNums_size]; rfl
    have hrd : rd ns i = ns[i] := by simp [rd, hil]
    obtain ⟨B, ⟨n2, hB⟩, hb⟩ := ih (i + 1) (by omega) (O ++ strOfNums (b4 ns[i])) (by rw [ByteArray.size_append]; omega)
    refine ⟨B, ⟨n + n2 + 1, fun k hk => ?_⟩, ?_⟩
    · obtain ⟨k, rfl⟩ : ∃ j, k = j + 1 := ⟨k - 1, by omega⟩
      have e1 : spec_Bytes.f k ns[i] 4 = _ := hn k (by omega)
      have e2 := hB k (by omega)
      simp only [spec_block.l1]
      rw [if_pos (by omega), if_pos (by omega), if_pos (by omega), hrd, e1, Option.bind_some, if_pos (by omega), hw]
      exact e2
    · rw [hb, bytesOf_append, bytesOf_str _ (by_b4 _), List.drop_eq_getElem_cons hil, List.map_cons, List.flatten_cons, List.append_assoc, List.append_assoc]

theorem block_l0 (big : Bool) (ver : Int) (hver : 0 ≤ ver ∧ ver < 256) (zs : List S27) (ts : List S45) (hzs : zs.length ≤ 200) (hsum : nsum zs ≤ 1000) (hts : ts.length ≤ 1000) (hu : ∀ t ∈ ts, 0 ≤ t.f1 ∧ t.f1 ≤ 255) (nm ext : ByteArray) : ∀ d i : Nat, i + d = zs.length → ∀ C K : ByteArray, bytesOf C = charsL (zs.take i) → bytesOf K = kindsL 0 (zs.take i) →
    ∃ B, Ev (fun k => spec_block.l0 k ver (if big = true then 8 else 4) C K zs (zs.length : Int) (i : Int) nm zs ts ext) B ∧ bytesOf B = headL ver (ts.length : Int) (zs.length : Int) (nsum zs : Int) (timesL big ts ++ (numsL ts ++ (kindsL 0 zs ++ charsL zs))) := by
  intro d
  induction d with
  | zero =>
    intro i hi C K hC hK
    rw [List.take_of_length_le (by omega)] at hC hK
    have sC : C.size = nsum zs := by rw [size_of_bytes C _ hC, charsL_length]
    have sK : K.size = 6 * zs.length := by rw [size_of_bytes K _ hK, kindsL_length]
    obtain ⟨n, hn⟩ := bytes15
    obtain ⟨B, ⟨n2, hB⟩, hb⟩ := block_l1 big C K zs ts hts hu (by omega) (by omega) nm ext [0, 0, 0, (ts.length : Int), (zs.length : Int), (C.size : Int)] (by simp) 6 0 rfl (((⟨#[84, 90, 105, 102]⟩ : ByteArray) ++ strOfNums [ver]) ++ strOfNums [0, 0, 0, 0, 0, 0, 0, 0, 0, 0, 0, 0, 0, 0, 0]) (by rw [ByteArray.size_append, ByteArray.size_append, strOfNums_size, strOfNums_size]; show 4 + 1 + 15 ≤ 100; omega)
    have hsz : (strOfNums [ver]).size = 1 := strOfNums_size _
    have hs15 : (strOfNums [0, 0, 0, 0, 0, 0, 0, 0, 0, 0, 0, 0, 0, 0, 0]).size = 15 := strOfNums_size _
    have hs4 : ((⟨#[84, 90, 105, 102]⟩ : ByteArray) ++ strOfNums [ver]).size = 5 := by rw [ByteArray.size_append, hsz]; rfl
    refine ⟨B, ⟨n + n2 + 1, fun k hk => ?_⟩, ?_⟩
    · obtain ⟨k, rfl⟩ : ∃ j, k = j + 1 := ⟨k - 1, by omega⟩
      have e1 : spec_Bytes.f k 0 15 = _ := hn k (by omega)
      have e2 := hB k (by omega)
      simp only [spec_block.l0]
      rw [if_neg (by omega), Option.bind_some, if_pos (by omega), e1, Option.bind_some, if_pos (by omega), Option.bind_some]
      exact e2
    · rw [hb, hC, hK, bytesOf_append, bytesOf_append, bytesOf_str _ (by intro x hx; simp at hx; omega), bytesOf_str _ (by intro x hx; simp at hx; omega), sC]
      rfl
  | succ d ih =>
    intro i hi C K hC hK
    have hil : i < zs.length := by omega
    have hw : wrap64 ((i : Int) + 1) = ((i + 1 : Nat) : Int) := by rw [wrap64_small _ (by omega) (by omega)]; rfl
    have hsplit : nsum zs = nsum (zs.take i) + (zs[i].f0.size + 1) + nsum (zs.drop (i + 1)) := by
      conv => lhs; rw [← List.take_append_drop i zs, List.drop_eq_getElem_cons hil]
      rw [nsum_app, nsum_cons]
      omega
    have sC : C.size = nsum (zs.take i) := by rw [size_of_bytes C _ hC, charsL_length]
    have sK : K.size = 6 * i := by rw [size_of_bytes K _ hK, kindsL_length, List.length_take]; omega
    obtain ⟨n, hn⟩ := bytes4 zs[i].f1
    have hs4 : (strOfNums (b4 zs[i].f1)).size = 4 := by rw [strOfNums_size]; rfl
    have hC2 : bytesOf (C ++ (zs[i].f0 ++ (⟨#[0]⟩ : ByteArray))) = charsL (zs.take (i + 1)) := by
      rw [bytesOf_append, bytesOf_append, hC, List.take_succ_eq_append_getElem hil, charsL_snoc]
      rfl
    have key : ∀ f : Int, 0 ≤ f ∧ f < 256 → (f = if zs[i].f2 = true then 1 else 0) → bytesOf (K ++ (strOfNums (b4 zs[i].f1) ++ strOfNums [f, (C.size : Int) % 256])) = kindsL 0 (zs.take (i + 1)) := by
      intro f hf0 hf
      have hby : By [f, (C.size : Int) % 256] := by
        intro x hx
        simp at hx
        rcases hx with rfl | rfl
        · exact hf0
        · omega
      rw [bytesOf_append, bytesOf_append, hK, List.take_succ_eq_append_getElem hil, kindsL_snoc, bytesOf_str _ (by_b4 _), bytesOf_str _ hby, sC, ← hf, Nat.zero_add]
    have hz1 : zs[i].f0.size + 1 ≤ 9223372036854775807 := by omega
    have hz2 : C.size + (zs[i].f0 ++ (⟨#[0]⟩ : ByteArray)).size ≤ 9223372036854775807 := by
      rw [ByteArray.size_append]
      show C.size + (zs[i].f0.size + 1) ≤ _
      omega
    cases hf : zs[i].f2 with
    | true =>
      have hk2 := key 1 (by omega) (by rw [hf]; rfl)
      have hs2 : (strOfNums [1, (C.size : Int) % 256]).size = 2 := strOfNums_size _
      obtain ⟨B, ⟨n2, hB⟩, hb⟩ := ih (i + 1) (by omega) _ _ hC2 hk2
      refine ⟨B, ⟨n + n2 + 1, fun k hk => ?_⟩, hb⟩
      obtain ⟨k, rfl⟩ : ∃ j, k = j + 1 := ⟨k - 1, by omega⟩
      have e1 : spec_Bytes.f k zs[i].f1 4 = _ := hn k (by omega)
      have e2 := hB k (by omega)
      simp only [spec_block.l0]
      rw [if_pos (by omega), if_pos (by omega), if_pos (by omega), rd27_at zs i hil, if_pos hf, e1, Option.bind_some, Option.bind_some, if_pos (by omega), if_pos (by rw [ByteArray.size_append]; omega), if_pos hz1, if_pos hz2, hw]
      exact e2
    | false =>
      have hk2 := key 0 (by omega) (by rw [hf]; rfl)
      have hs2 : (strOfNums [0, (C.size : Int) % 256]).size = 2 := strOfNums_size _
      obtain ⟨B, ⟨n2, hB⟩, hb⟩ := ih (i + 1) (by omega) _ _ hC2 hk2
      refine ⟨B, ⟨n + n2 + 1, fun k hk => ?_⟩, hb⟩
      obtain ⟨k, rfl⟩ : ∃ j, k = j + 1 := ⟨k - 1, by omega⟩
      have e1 : spec_Bytes.f k zs[i].f1 4 = _ := hn k (by omega)
      have e2 := hB k (by omega)
      simp only [spec_block.l0]
      rw [if_pos (by omega), if_pos (by omega), if_pos (by omega), rd27_at zs i hil, if_neg (by rw [hf]; decide), e1, Option.bind_some, Option.bind_some, if_pos (by omega), if_pos (by rw [ByteArray.size_append]; omega), if_pos hz1, if_pos hz2, hw]
      exact e2
theorem block_bytes (big : Bool) (ver : Int) (hver : 0 ≤ ver ∧ ver < 256) (zs : List S27) (ts : List S45) (hzs : zs.length ≤ 200) (hsum : nsum zs ≤ 1000) (hts : ts.length ≤ 1000) (hu : ∀ t ∈ ts, 0 ≤ t.f1 ∧ t.f1 ≤ 255) (nm ext : ByteArray) :
    ∃ B, Ev (fun k => spec_block.f k nm zs ts ext ver (if big = true then 8 else 4)) B ∧ bytesOf B = headL ver (ts.length : Int) (zs.length : Int) (nsum zs : Int) (timesL big ts ++ (numsL ts ++ (kindsL 0 zs ++ charsL zs))) :=
  block_l0 big ver hver zs ts hzs hsum hts hu nm ext zs.length 0 (by omega) ⟨#[]⟩ ⟨#[]⟩ rfl rfl
end Go.Proofs.YtjoaeennbfmohaaDoor
