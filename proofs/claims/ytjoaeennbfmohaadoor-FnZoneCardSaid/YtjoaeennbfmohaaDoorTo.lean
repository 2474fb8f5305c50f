/- The walk of tzsetOffset: hours; hours and minutes; hours, minutes and seconds. Conditions: each inside its bounds. -/
import Derived.Test.YtjoaeennbfmohaaDoorTn
import Derived.Outline
import Derived.Deep.DeepMust
namespace Go.Proofs.YtjoaeennbfmohaaDoor
open Go.RowKit Go.Proofs.YtjoaeennbfmohaaDoorW.PrintWords Go.Proofs.YtjoaeennbfmohaaDoorW.PrintLast Go.Proofs.YtjoaeennbfmohaaDoorW.PrintMore Go.Proofs.YtjoaeennbfmohaaDoor.PFnZone
set_option linter.unusedVariables false
set_option linter.unusedSimpArgs false

/-- What stands behind an offset: nothing, or what is no digit and no colon. -/
def Ends (rest : List UInt8) : Prop := ∀ c r, rest = c :: r → c.toNat < 48 ∨ (58 < c.toNat ∧ c.toNat < 128)
theorem Ends.stops {rest : List UInt8} (h : Ends rest) : Stops rest := fun c r e => by
  rcases h c r e with h | h
  · exact Or.inl h
  · exact Or.inr ⟨by omega, h.2⟩
theorem stops_colon (l : List UInt8) : Stops (58 :: l) := fun c r e => by
  injection e with e1 e2
  subst e1
  exact Or.inr ⟨by decide, by decide⟩
theorem dig_head {ds : List UInt8} (hd : Digs ds) (h : 0 < ds.length) : ∃ c r, ds = c :: r ∧ 48 ≤ c.toNat ∧ c.toNat ≤ 57 := by
  cases ds with
  | nil => simp at h
  | cons c r => exact ⟨c, r, rfl, hd c (by simp)⟩

/-- The text of an offset: a minus, or none; hours; minutes and seconds behind colons. -/
def offTx (neg : Bool) (hs : List UInt8) (tail : List UInt8) : List UInt8 := if neg = true then 45 :: (hs ++ tail) else hs ++ tail
def offV (neg : Bool) (n : Int) : Int := if neg = true then -n else n

set_option maxRecDepth 100000 in
set_option maxHeartbeats 4000000 in
theorem off_h (neg : Bool) (hs rest : List UInt8) (hh : Digs hs) (hh0 : 0 < hs.length) (hh1 : val hs ≤ 168) (hr : Ends rest) (hl : (offTx neg hs rest).length ≤ 1000000000) (w : World) :
    Calls Tryd.prog 58 #[.string (tx (offTx neg hs rest))] w fun e w' => e = .returned (.tuple #[.int .i64 (offV neg (val hs * 3600)), .string (tx rest), .bool true]) ∧ Below w.heap.size w w' := by
  cases neg with
  | true =>
    cases rest with
    | nil =>
      have hvh := val_nonneg hs hh hs.length (Nat.le_refl _)
      rw [List.take_length] at hvh
      show Calls Tryd.prog 58 #[.string (tx (45 :: (hs ++ [])))] w _
      have hln := fun W ty => len_tx W ty (45 :: (hs ++ []))
      have hix := fun W => index_tx0 W 45 (hs ++ [])
      have hsl := fun W => from_tx1 W 45 (hs ++ [])
      have hl0 : (((45 :: (hs ++ [])).length : Int) == 0) = false := beq_eq_false_iff_ne.mpr (by rw [List.length_cons]; omega)
      have hlt : (hs ++ []).length ≤ 1000000000 := by have h := hl; rw [show offTx true hs [] = 45 :: (hs ++ []) from rfl, List.length_cons] at h; omega
      generalize (45 :: (hs ++ [])) = l at hln hix hsl hl0 ⊢
      obtain ⟨T1, hT1⟩ : ∃ T, hs ++ [] = T := ⟨_, rfl⟩
      rw [hT1] at hsl
      clear hl
      go_enter Tryd.func58, Tryd.ntmps58
      go_wp2_with fail
      rw [← hT1]
      refine (num_calls hs [] 0 168 hh hh0 (by omega) hvh hh1 (by omega) (hr.stops) hlt _).mono ?_
      rintro e w1 ⟨rfl, hb1⟩
      have hln9 := fun W ty => len_tx W ty []
      have hl9 : ((([] : List UInt8).length : Int) == 0) = true := rfl
      go_wp2
      exact bodyPost_ret (v := .tuple #[.int .i64 (-(val hs * 3600)), .string (tx []), .bool true]) (by simp [results, Tryd.results58, go_sem]) rfl ⟨rfl, hb1⟩
    | cons rc rr =>
      have hvh := val_nonneg hs hh hs.length (Nat.le_refl _)
      rw [List.take_length] at hvh
      show Calls Tryd.prog 58 #[.string (tx (45 :: (hs ++ (rc :: rr))))] w _
      have hln := fun W ty => len_tx W ty (45 :: (hs ++ (rc :: rr)))
      have hix := fun W => index_tx0 W 45 (hs ++ (rc :: rr))
      have hsl := fun W => from_tx1 W 45 (hs ++ (rc :: rr))
      have hl0 : (((45 :: (hs ++ (rc :: rr))).length : Int) == 0) = false := beq_eq_false_iff_ne.mpr (by rw [List.length_cons]; omega)
      have hlt : (hs ++ (rc :: rr)).length ≤ 1000000000 := by have h := hl; rw [show offTx true hs (rc :: rr) = 45 :: (hs ++ (rc :: rr)) from rfl, List.length_cons] at h; omega
      generalize (45 :: (hs ++ (rc :: rr))) = l at hln hix hsl hl0 ⊢
      obtain ⟨T1, hT1⟩ : ∃ T, hs ++ (rc :: rr) = T := ⟨_, rfl⟩
      rw [hT1] at hsl
      clear hl
      go_enter Tryd.func58, Tryd.ntmps58
      go_wp2_with fail
      rw [← hT1]
      refine (num_calls hs (rc :: rr) 0 168 hh hh0 (by omega) hvh hh1 (by omega) (hr.stops) hlt _).mono ?_
      rintro e w1 ⟨rfl, hb1⟩
      have hln9 := fun W ty => len_tx W ty (rc :: rr)
      have hix9 := fun W => index_tx0 W rc rr
      have hl9 : (((rc :: rr).length : Int) == 0) = false := beq_eq_false_iff_ne.mpr (by rw [List.length_cons]; omega)
      have hne := hr rc rr rfl
      have q58 : ((rc.toNat : Int) != 58) = true := by simp; omega
      have q58b : ((rc.toNat : Int) == 58) = false := by simp; omega
      generalize (rc.toNat : Nat) = d9 at hix9 q58 q58b
      clear hr
      generalize hl9e : (rc :: rr) = l9 at hln9 hix9 hl9 ⊢
      go_wp2
      exact bodyPost_ret (v := .tuple #[.int .i64 (-(val hs * 3600)), .string (tx l9), .bool true]) (by simp [results, Tryd.results58, go_sem]) rfl ⟨by rw [hl9e]; rfl, hb1⟩
  | false =>
    cases rest with
    | nil =>
      have hvh := val_nonneg hs hh hs.length (Nat.le_refl _)
      rw [List.take_length] at hvh
      show Calls Tryd.prog 58 #[.string (tx (hs ++ []))] w _
      have hlt : (hs ++ []).length ≤ 1000000000 := hl
      have hln := fun W ty => len_tx W ty (hs ++ [])
      have hl0 : (((hs ++ []).length : Int) == 0) = false := beq_eq_false_iff_ne.mpr (by rw [List.length_append]; omega)
      have hix : ∀ W, (Instr.index 9 (.string (tx (hs ++ []))) (.int .i64 0)).run Tryd.prog W = _ := fun W => index_tx W (hs ++ []) 0 (by rw [List.length_append]; omega)
      obtain ⟨hc, hr0, hcr, hc1, hc2⟩ := dig_head hh hh0
      have hgc : (hs ++ [])[0]'(by rw [List.length_append]; omega) = hc := by simp only [hcr]; rfl
      rw [hgc] at hix
      have q43 : ((hc.toNat : Int) == 43) = false := by simp; omega
      have q45 : ((hc.toNat : Int) == 45) = false := by simp; omega
      clear hcr hgc
      generalize (hc.toNat : Nat) = d at hix q43 q45 hc1 hc2
      generalize hL : hs ++ [] = l at hln hix hl0 ⊢
      clear hl
      go_enter Tryd.func58, Tryd.ntmps58
      go_wp2_with fail
      rw [← hL]
      refine (num_calls hs [] 0 168 hh hh0 (by omega) hvh hh1 (by omega) (hr.stops) hlt _).mono ?_
      rintro e w1 ⟨rfl, hb1⟩
      have hln9 := fun W ty => len_tx W ty []
      have hl9 : ((([] : List UInt8).length : Int) == 0) = true := rfl
      go_wp2
      exact bodyPost_ret (v := .tuple #[.int .i64 (val hs * 3600), .string (tx []), .bool true]) (by simp [results, Tryd.results58, go_sem]) rfl ⟨rfl, hb1⟩
    | cons rc rr =>
      have hvh := val_nonneg hs hh hs.length (Nat.le_refl _)
      rw [List.take_length] at hvh
      show Calls Tryd.prog 58 #[.string (tx (hs ++ (rc :: rr)))] w _
      have hlt : (hs ++ (rc :: rr)).length ≤ 1000000000 := hl
      have hln := fun W ty => len_tx W ty (hs ++ (rc :: rr))
      have hl0 : (((hs ++ (rc :: rr)).length : Int) == 0) = false := beq_eq_false_iff_ne.mpr (by rw [List.length_append]; omega)
      have hix : ∀ W, (Instr.index 9 (.string (tx (hs ++ (rc :: rr)))) (.int .i64 0)).run Tryd.prog W = _ := fun W => index_tx W (hs ++ (rc :: rr)) 0 (by rw [List.length_append]; omega)
      obtain ⟨hc, hr0, hcr, hc1, hc2⟩ := dig_head hh hh0
      have hgc : (hs ++ (rc :: rr))[0]'(by rw [List.length_append]; omega) = hc := by simp only [hcr]; rfl
      rw [hgc] at hix
      have q43 : ((hc.toNat : Int) == 43) = false := by simp; omega
      have q45 : ((hc.toNat : Int) == 45) = false := by simp; omega
      clear hcr hgc
      generalize (hc.toNat : Nat) = d at hix q43 q45 hc1 hc2
      generalize hL : hs ++ (rc :: rr) = l at hln hix hl0 ⊢
      clear hl
      go_enter Tryd.func58, Tryd.ntmps58
      go_wp2_with fail
      rw [← hL]
      refine (num_calls hs (rc :: rr) 0 168 hh hh0 (by omega) hvh hh1 (by omega) (hr.stops) hlt _).mono ?_
      rintro e w1 ⟨rfl, hb1⟩
      have hln9 := fun W ty => len_tx W ty (rc :: rr)
      have hix9 := fun W => index_tx0 W rc rr
      have hl9 : (((rc :: rr).length : Int) == 0) = false := beq_eq_false_iff_ne.mpr (by rw [List.length_cons]; omega)
      have hne := hr rc rr rfl
      have q58 : ((rc.toNat : Int) != 58) = true := by simp; omega
      have q58b : ((rc.toNat : Int) == 58) = false := by simp; omega
      generalize (rc.toNat : Nat) = d9 at hix9 q58 q58b
      clear hr
      generalize hl9e : (rc :: rr) = l9 at hln9 hix9 hl9 ⊢
      go_wp2
      exact bodyPost_ret (v := .tuple #[.int .i64 (val hs * 3600), .string (tx l9), .bool true]) (by simp [results, Tryd.results58, go_sem]) rfl ⟨by rw [hl9e]; rfl, hb1⟩

set_option maxRecDepth 100000 in
set_option maxHeartbeats 4000000 in
theorem off_hm (neg : Bool) (hs ms rest : List UInt8) (hh : Digs hs) (hh0 : 0 < hs.length) (hh1 : val hs ≤ 168) (hm : Digs ms) (hm0 : 0 < ms.length) (hm1 : val ms ≤ 59) (hr : Ends rest) (hl : (offTx neg hs (58 :: (ms ++ rest))).length ≤ 1000000000) (w : World) :
    Calls Tryd.prog 58 #[.string (tx (offTx neg hs (58 :: (ms ++ rest))))] w fun e w' => e = .returned (.tuple #[.int .i64 (offV neg (val hs * 3600 + val ms * 60)), .string (tx rest), .bool true]) ∧ Below w.heap.size w w' := by
  cases neg with
  | true =>
    cases rest with
    | nil =>
      have hvh := val_nonneg hs hh hs.length (Nat.le_refl _)
      rw [List.take_length] at hvh
      have hvm := val_nonneg ms hm ms.length (Nat.le_refl _)
      rw [List.take_length] at hvm
      show Calls Tryd.prog 58 #[.string (tx (45 :: (hs ++ (58 :: (ms ++ [])))))] w _
      have hln := fun W ty => len_tx W ty (45 :: (hs ++ (58 :: (ms ++ []))))
      have hix := fun W => index_tx0 W 45 (hs ++ (58 :: (ms ++ [])))
      have hsl := fun W => from_tx1 W 45 (hs ++ (58 :: (ms ++ [])))
      have hl0 : (((45 :: (hs ++ (58 :: (ms ++ [])))).length : Int) == 0) = false := beq_eq_false_iff_ne.mpr (by rw [List.length_cons]; omega)
      have hlt : (hs ++ (58 :: (ms ++ []))).length ≤ 1000000000 := by have h := hl; rw [show offTx true hs (58 :: (ms ++ [])) = 45 :: (hs ++ (58 :: (ms ++ []))) from rfl, List.length_cons] at h; omega
      generalize (45 :: (hs ++ (58 :: (ms ++ [])))) = l at hln hix hsl hl0 ⊢
      obtain ⟨T1, hT1⟩ : ∃ T, hs ++ (58 :: (ms ++ [])) = T := ⟨_, rfl⟩
      rw [hT1] at hsl
      clear hl
      go_enter Tryd.func58, Tryd.ntmps58
      go_wp2_with fail
      rw [← hT1]
      refine (num_calls hs (58 :: (ms ++ [])) 0 168 hh hh0 (by omega) hvh hh1 (by omega) (stops_colon _) hlt _).mono ?_
      rintro e w1 ⟨rfl, hb1⟩
      have hlm : (ms ++ []).length ≤ 1000000000 := by rw [List.length_append, List.length_cons] at hlt; omega
      have hln2 := fun W ty => len_tx W ty (58 :: (ms ++ []))
      have hix2 := fun W => index_tx0 W 58 (ms ++ [])
      have hsl2 := fun W => from_tx1 W 58 (ms ++ [])
      have hl2 : (((58 :: (ms ++ [])).length : Int) == 0) = false := beq_eq_false_iff_ne.mpr (by rw [List.length_cons]; omega)
      generalize (58 :: (ms ++ [])) = l2 at hln2 hix2 hsl2 hl2 ⊢
      obtain ⟨T2, hT2⟩ : ∃ T, ms ++ [] = T := ⟨_, rfl⟩
      rw [hT2] at hsl2
      go_wp2_with fail
      rw [← hT2]
      refine (num_calls ms [] 0 59 hm hm0 (by omega) hvm hm1 (by omega) (hr.stops) hlm _).mono ?_
      rintro e w2 ⟨rfl, hb2⟩
      have hb3 := hb1.trans (hb2.mono hb1.size)
      clear hb1 hb2
      have hln9 := fun W ty => len_tx W ty []
      have hl9 : ((([] : List UInt8).length : Int) == 0) = true := rfl
      go_wp2
      exact bodyPost_ret (v := .tuple #[.int .i64 (-(val hs * 3600 + val ms * 60)), .string (tx []), .bool true]) (by simp [results, Tryd.results58, go_sem]) rfl ⟨rfl, hb3⟩
    | cons rc rr =>
      have hvh := val_nonneg hs hh hs.length (Nat.le_refl _)
      rw [List.take_length] at hvh
      have hvm := val_nonneg ms hm ms.length (Nat.le_refl _)
      rw [List.take_length] at hvm
      show Calls Tryd.prog 58 #[.string (tx (45 :: (hs ++ (58 :: (ms ++ (rc :: rr))))))] w _
      have hln := fun W ty => len_tx W ty (45 :: (hs ++ (58 :: (ms ++ (rc :: rr)))))
      have hix := fun W => index_tx0 W 45 (hs ++ (58 :: (ms ++ (rc :: rr))))
      have hsl := fun W => from_tx1 W 45 (hs ++ (58 :: (ms ++ (rc :: rr))))
      have hl0 : (((45 :: (hs ++ (58 :: (ms ++ (rc :: rr))))).length : Int) == 0) = false := beq_eq_false_iff_ne.mpr (by rw [List.length_cons]; omega)
      have hlt : (hs ++ (58 :: (ms ++ (rc :: rr)))).length ≤ 1000000000 := by have h := hl; rw [show offTx true hs (58 :: (ms ++ (rc :: rr))) = 45 :: (hs ++ (58 :: (ms ++ (rc :: rr)))) from rfl, List.length_cons] at h; omega
      generalize (45 :: (hs ++ (58 :: (ms ++ (rc :: rr))))) = l at hln hix hsl hl0 ⊢
      obtain ⟨T1, hT1⟩ : ∃ T, hs ++ (58 :: (ms ++ (rc :: rr))) = T := ⟨_, rfl⟩
      rw [hT1] at hsl
      clear hl
      go_enter Tryd.func58, Tryd.ntmps58
      go_wp2_with fail
      rw [← hT1]
      refine (num_calls hs (58 :: (ms ++ (rc :: rr))) 0 168 hh hh0 (by omega) hvh hh1 (by omega) (stops_colon _) hlt _).mono ?_
      rintro e w1 ⟨rfl, hb1⟩
      have hlm : (ms ++ (rc :: rr)).length ≤ 1000000000 := by rw [List.length_append, List.length_cons] at hlt; omega
      have hln2 := fun W ty => len_tx W ty (58 :: (ms ++ (rc :: rr)))
      have hix2 := fun W => index_tx0 W 58 (ms ++ (rc :: rr))
      have hsl2 := fun W => from_tx1 W 58 (ms ++ (rc :: rr))
      have hl2 : (((58 :: (ms ++ (rc :: rr))).length : Int) == 0) = false := beq_eq_false_iff_ne.mpr (by rw [List.length_cons]; omega)
      generalize (58 :: (ms ++ (rc :: rr))) = l2 at hln2 hix2 hsl2 hl2 ⊢
      obtain ⟨T2, hT2⟩ : ∃ T, ms ++ (rc :: rr) = T := ⟨_, rfl⟩
      rw [hT2] at hsl2
      go_wp2_with fail
      rw [← hT2]
      refine (num_calls ms (rc :: rr) 0 59 hm hm0 (by omega) hvm hm1 (by omega) (hr.stops) hlm _).mono ?_
      rintro e w2 ⟨rfl, hb2⟩
      have hb3 := hb1.trans (hb2.mono hb1.size)
      clear hb1 hb2
      have hln9 := fun W ty => len_tx W ty (rc :: rr)
      have hix9 := fun W => index_tx0 W rc rr
      have hl9 : (((rc :: rr).length : Int) == 0) = false := beq_eq_false_iff_ne.mpr (by rw [List.length_cons]; omega)
      have hne := hr rc rr rfl
      have q58 : ((rc.toNat : Int) != 58) = true := by simp; omega
      have q58b : ((rc.toNat : Int) == 58) = false := by simp; omega
      generalize (rc.toNat : Nat) = d9 at hix9 q58 q58b
      clear hr
      generalize hl9e : (rc :: rr) = l9 at hln9 hix9 hl9 ⊢
      go_wp2
      exact bodyPost_ret (v := .tuple #[.int .i64 (-(val hs * 3600 + val ms * 60)), .string (tx l9), .bool true]) (by simp [results, Tryd.results58, go_sem]) rfl ⟨by rw [hl9e]; rfl, hb3⟩
  | false =>
    cases rest with
    | nil =>
      have hvh := val_nonneg hs hh hs.length (Nat.le_refl _)
      rw [List.take_length] at hvh
      have hvm := val_nonneg ms hm ms.length (Nat.le_refl _)
      rw [List.take_length] at hvm
      show Calls Tryd.prog 58 #[.string (tx (hs ++ (58 :: (ms ++ []))))] w _
      have hlt : (hs ++ (58 :: (ms ++ []))).length ≤ 1000000000 := hl
      have hln := fun W ty => len_tx W ty (hs ++ (58 :: (ms ++ [])))
      have hl0 : (((hs ++ (58 :: (ms ++ []))).length : Int) == 0) = false := beq_eq_false_iff_ne.mpr (by rw [List.length_append]; omega)
      have hix : ∀ W, (Instr.index 9 (.string (tx (hs ++ (58 :: (ms ++ []))))) (.int .i64 0)).run Tryd.prog W = _ := fun W => index_tx W (hs ++ (58 :: (ms ++ []))) 0 (by rw [List.length_append]; omega)
      obtain ⟨hc, hr0, hcr, hc1, hc2⟩ := dig_head hh hh0
      have hgc : (hs ++ (58 :: (ms ++ [])))[0]'(by rw [List.length_append]; omega) = hc := by simp only [hcr]; rfl
      rw [hgc] at hix
      have q43 : ((hc.toNat : Int) == 43) = false := by simp; omega
      have q45 : ((hc.toNat : Int) == 45) = false := by simp; omega
      clear hcr hgc
      generalize (hc.toNat : Nat) = d at hix q43 q45 hc1 hc2
      generalize hL : hs ++ (58 :: (ms ++ [])) = l at hln hix hl0 ⊢
      clear hl
      go_enter Tryd.func58, Tryd.ntmps58
      go_wp2_with fail
      rw [← hL]
      refine (num_calls hs (58 :: (ms ++ [])) 0 168 hh hh0 (by omega) hvh hh1 (by omega) (stops_colon _) hlt _).mono ?_
      rintro e w1 ⟨rfl, hb1⟩
      have hlm : (ms ++ []).length ≤ 1000000000 := by rw [List.length_append, List.length_cons] at hlt; omega
      have hln2 := fun W ty => len_tx W ty (58 :: (ms ++ []))
      have hix2 := fun W => index_tx0 W 58 (ms ++ [])
      have hsl2 := fun W => from_tx1 W 58 (ms ++ [])
      have hl2 : (((58 :: (ms ++ [])).length : Int) == 0) = false := beq_eq_false_iff_ne.mpr (by rw [List.length_cons]; omega)
      generalize (58 :: (ms ++ [])) = l2 at hln2 hix2 hsl2 hl2 ⊢
      obtain ⟨T2, hT2⟩ : ∃ T, ms ++ [] = T := ⟨_, rfl⟩
      rw [hT2] at hsl2
      go_wp2_with fail
      rw [← hT2]
      refine (num_calls ms [] 0 59 hm hm0 (by omega) hvm hm1 (by omega) (hr.stops) hlm _).mono ?_
      rintro e w2 ⟨rfl, hb2⟩
      have hb3 := hb1.trans (hb2.mono hb1.size)
      clear hb1 hb2
      have hln9 := fun W ty => len_tx W ty []
      have hl9 : ((([] : List UInt8).length : Int) == 0) = true := rfl
      go_wp2
      exact bodyPost_ret (v := .tuple #[.int .i64 (val hs * 3600 + val ms * 60), .string (tx []), .bool true]) (by simp [results, Tryd.results58, go_sem]) rfl ⟨rfl, hb3⟩
    | cons rc rr =>
      have hvh := val_nonneg hs hh hs.length (Nat.le_refl _)
      rw [List.take_length] at hvh
      have hvm := val_nonneg ms hm ms.length (Nat.le_refl _)
      rw [List.take_length] at hvm
      show Calls Tryd.prog 58 #[.string (tx (hs ++ (58 :: (ms ++ (rc :: rr)))))] w _
      have hlt : (hs ++ (58 :: (ms ++ (rc :: rr)))).length ≤ 1000000000 := hl
      have hln := fun W ty => len_tx W ty (hs ++ (58 :: (ms ++ (rc :: rr))))
      have hl0 : (((hs ++ (58 :: (ms ++ (rc :: rr)))).length : Int) == 0) = false := beq_eq_false_iff_ne.mpr (by rw [List.length_append]; omega)
      have hix : ∀ W, (Instr.index 9 (.string (tx (hs ++ (58 :: (ms ++ (rc :: rr)))))) (.int .i64 0)).run Tryd.prog W = _ := fun W => index_tx W (hs ++ (58 :: (ms ++ (rc :: rr)))) 0 (by rw [List.length_append]; omega)
      obtain ⟨hc, hr0, hcr, hc1, hc2⟩ := dig_head hh hh0
      have hgc : (hs ++ (58 :: (ms ++ (rc :: rr))))[0]'(by rw [List.length_append]; omega) = hc := by simp only [hcr]; rfl
      rw [hgc] at hix
      have q43 : ((hc.toNat : Int) == 43) = false := by simp; omega
      have q45 : ((hc.toNat : Int) == 45) = false := by simp; omega
      clear hcr hgc
      generalize (hc.toNat : Nat) = d at hix q43 q45 hc1 hc2
      generalize hL : hs ++ (58 :: (ms ++ (rc :: rr))) = l at hln hix hl0 ⊢
      clear hl
      go_enter Tryd.func58, Tryd.ntmps58
      go_wp2_with fail
      rw [← hL]
      refine (num_calls hs (58 :: (ms ++ (rc :: rr))) 0 168 hh hh0 (by omega) hvh hh1 (by omega) (stops_colon _) hlt _).mono ?_
      rintro e w1 ⟨rfl, hb1⟩
      have hlm : (ms ++ (rc :: rr)).length ≤ 1000000000 := by rw [List.length_append, List.length_cons] at hlt; omega
      have hln2 := fun W ty => len_tx W ty (58 :: (ms ++ (rc :: rr)))
      have hix2 := fun W => index_tx0 W 58 (ms ++ (rc :: rr))
      have hsl2 := fun W => from_tx1 W 58 (ms ++ (rc :: rr))
      have hl2 : (((58 :: (ms ++ (rc :: rr))).length : Int) == 0) = false := beq_eq_false_iff_ne.mpr (by rw [List.length_cons]; omega)
      generalize (58 :: (ms ++ (rc :: rr))) = l2 at hln2 hix2 hsl2 hl2 ⊢
      obtain ⟨T2, hT2⟩ : ∃ T, ms ++ (rc :: rr) = T := ⟨_, rfl⟩
      rw [hT2] at hsl2
      go_wp2_with fail
      rw [← hT2]
      refine (num_calls ms (rc :: rr) 0 59 hm hm0 (by omega) hvm hm1 (by omega) (hr.stops) hlm _).mono ?_
      rintro e w2 ⟨rfl, hb2⟩
      have hb3 := hb1.trans (hb2.mono hb1.size)
      clear hb1 hb2
      have hln9 := fun W ty => len_tx W ty (rc :: rr)
      have hix9 := fun W => index_tx0 W rc rr
      have hl9 : (((rc :: rr).length : Int) == 0) = false := beq_eq_false_iff_ne.mpr (by rw [List.length_cons]; omega)
      have hne := hr rc rr rfl
      have q58 : ((rc.toNat : Int) != 58) = true := by simp; omega
      have q58b : ((rc.toNat : Int) == 58) = false := by simp; omega
      generalize (rc.toNat : Nat) = d9 at hix9 q58 q58b
      clear hr
      generalize hl9e : (rc :: rr) = l9 at hln9 hix9 hl9 ⊢
      go_wp2
      exact bodyPost_ret (v := .tuple #[.int .i64 (val hs * 3600 + val ms * 60), .string (tx l9), .bool true]) (by simp [results, Tryd.results58, go_sem]) rfl ⟨by rw [hl9e]; rfl, hb3⟩

set_option maxRecDepth 100000 in
set_option maxHeartbeats 4000000 in
theorem off_hms (neg : Bool) (hs ms ss rest : List UInt8) (hh : Digs hs) (hh0 : 0 < hs.length) (hh1 : val hs ≤ 168) (hm : Digs ms) (hm0 : 0 < ms.length) (hm1 : val ms ≤ 59) (hss : Digs ss) (hs0 : 0 < ss.length) (hs1 : val ss ≤ 59) (hr : Ends rest) (hl : (offTx neg hs (58 :: (ms ++ (58 :: (ss ++ rest))))).length ≤ 1000000000) (w : World) :
    Calls Tryd.prog 58 #[.string (tx (offTx neg hs (58 :: (ms ++ (58 :: (ss ++ rest))))))] w fun e w' => e = .returned (.tuple #[.int .i64 (offV neg (val hs * 3600 + val ms * 60 + val ss)), .string (tx rest), .bool true]) ∧ Below w.heap.size w w' := by
  cases neg with
  | true =>
    have hvh := val_nonneg hs hh hs.length (Nat.le_refl _)
    rw [List.take_length] at hvh
    have hvm := val_nonneg ms hm ms.length (Nat.le_refl _)
    rw [List.take_length] at hvm
    have hvs := val_nonneg ss hss ss.length (Nat.le_refl _)
    rw [List.take_length] at hvs
    show Calls Tryd.prog 58 #[.string (tx (45 :: (hs ++ (58 :: (ms ++ (58 :: (ss ++ rest)))))))] w _
    have hln := fun W ty => len_tx W ty (45 :: (hs ++ (58 :: (ms ++ (58 :: (ss ++ rest))))))
    have hix := fun W => index_tx0 W 45 (hs ++ (58 :: (ms ++ (58 :: (ss ++ rest)))))
    have hsl := fun W => from_tx1 W 45 (hs ++ (58 :: (ms ++ (58 :: (ss ++ rest)))))
    have hl0 : (((45 :: (hs ++ (58 :: (ms ++ (58 :: (ss ++ rest)))))).length : Int) == 0) = false := beq_eq_false_iff_ne.mpr (by rw [List.length_cons]; omega)
    have hlt : (hs ++ (58 :: (ms ++ (58 :: (ss ++ rest))))).length ≤ 1000000000 := by have h := hl; rw [show offTx true hs (58 :: (ms ++ (58 :: (ss ++ rest)))) = 45 :: (hs ++ (58 :: (ms ++ (58 :: (ss ++ rest))))) from rfl, List.length_cons] at h; omega
    generalize (45 :: (hs ++ (58 :: (ms ++ (58 :: (ss ++ rest)))))) = l at hln hix hsl hl0 ⊢
    obtain ⟨T1, hT1⟩ : ∃ T, hs ++ (58 :: (ms ++ (58 :: (ss ++ rest)))) = T := ⟨_, rfl⟩
    rw [hT1] at hsl
    clear hl
    go_enter Tryd.func58, Tryd.ntmps58
    go_wp2_with fail
    rw [← hT1]
    refine (num_calls hs (58 :: (ms ++ (58 :: (ss ++ rest)))) 0 168 hh hh0 (by omega) hvh hh1 (by omega) (stops_colon _) hlt _).mono ?_
    rintro e w1 ⟨rfl, hb1⟩
    have hlm : (ms ++ (58 :: (ss ++ rest))).length ≤ 1000000000 := by rw [List.length_append, List.length_cons] at hlt; omega
    have hln2 := fun W ty => len_tx W ty (58 :: (ms ++ (58 :: (ss ++ rest))))
    have hix2 := fun W => index_tx0 W 58 (ms ++ (58 :: (ss ++ rest)))
    have hsl2 := fun W => from_tx1 W 58 (ms ++ (58 :: (ss ++ rest)))
    have hl2 : (((58 :: (ms ++ (58 :: (ss ++ rest)))).length : Int) == 0) = false := beq_eq_false_iff_ne.mpr (by rw [List.length_cons]; omega)
    generalize (58 :: (ms ++ (58 :: (ss ++ rest)))) = l2 at hln2 hix2 hsl2 hl2 ⊢
    obtain ⟨T2, hT2⟩ : ∃ T, ms ++ (58 :: (ss ++ rest)) = T := ⟨_, rfl⟩
    rw [hT2] at hsl2
    go_wp2_with fail
    rw [← hT2]
    refine (num_calls ms (58 :: (ss ++ rest)) 0 59 hm hm0 (by omega) hvm hm1 (by omega) (stops_colon _) hlm _).mono ?_
    rintro e w2 ⟨rfl, hb2⟩
    have hb3 := hb1.trans (hb2.mono hb1.size)
    clear hb1 hb2
    have hls : (ss ++ rest).length ≤ 1000000000 := by rw [List.length_append, List.length_cons] at hlm; omega
    have hln3 := fun W ty => len_tx W ty (58 :: (ss ++ rest))
    have hix3 := fun W => index_tx0 W 58 (ss ++ rest)
    have hsl3 := fun W => from_tx1 W 58 (ss ++ rest)
    have hl3 : (((58 :: (ss ++ rest)).length : Int) == 0) = false := beq_eq_false_iff_ne.mpr (by rw [List.length_cons]; omega)
    generalize (58 :: (ss ++ rest)) = l3 at hln3 hix3 hsl3 hl3 ⊢
    obtain ⟨T3, hT3⟩ : ∃ T, ss ++ rest = T := ⟨_, rfl⟩
    rw [hT3] at hsl3
    go_wp2_with fail
    rw [← hT3]
    refine (num_calls ss rest 0 59 hss hs0 (by omega) hvs hs1 (by omega) (hr.stops) hls _).mono ?_
    rintro e w4 ⟨rfl, hb4⟩
    have hb5 := hb3.trans (hb4.mono hb3.size)
    clear hb3 hb4
    go_wp2
    exact bodyPost_ret (v := .tuple #[.int .i64 (-(val hs * 3600 + val ms * 60 + val ss)), .string (tx rest), .bool true]) (by simp [results, Tryd.results58, go_sem]) rfl ⟨rfl, hb5⟩
  | false =>
    have hvh := val_nonneg hs hh hs.length (Nat.le_refl _)
    rw [List.take_length] at hvh
    have hvm := val_nonneg ms hm ms.length (Nat.le_refl _)
    rw [List.take_length] at hvm
    have hvs := val_nonneg ss hss ss.length (Nat.le_refl _)
    rw [List.take_length] at hvs
    show Calls Tryd.prog 58 #[.string (tx (hs ++ (58 :: (ms ++ (58 :: (ss ++ rest))))))] w _
    have hlt : (hs ++ (58 :: (ms ++ (58 :: (ss ++ rest))))).length ≤ 1000000000 := hl
    have hln := fun W ty => len_tx W ty (hs ++ (58 :: (ms ++ (58 :: (ss ++ rest)))))
    have hl0 : (((hs ++ (58 :: (ms ++ (58 :: (ss ++ rest))))).length : Int) == 0) = false := beq_eq_false_iff_ne.mpr (by rw [List.length_append]; omega)
    have hix : ∀ W, (Instr.index 9 (.string (tx (hs ++ (58 :: (ms ++ (58 :: (ss ++ rest))))))) (.int .i64 0)).run Tryd.prog W = _ := fun W => index_tx W (hs ++ (58 :: (ms ++ (58 :: (ss ++ rest))))) 0 (by rw [List.length_append]; omega)
    obtain ⟨hc, hr0, hcr, hc1, hc2⟩ := dig_head hh hh0
    have hgc : (hs ++ (58 :: (ms ++ (58 :: (ss ++ rest)))))[0]'(by rw [List.length_append]; omega) = hc := by simp only [hcr]; rfl
    rw [hgc] at hix
    have q43 : ((hc.toNat : Int) == 43) = false := by simp; omega
    have q45 : ((hc.toNat : Int) == 45) = false := by simp; omega
    clear hcr hgc
    generalize (hc.toNat : Nat) = d at hix q43 q45 hc1 hc2
    generalize hL : hs ++ (58 :: (ms ++ (58 :: (ss ++ rest)))) = l at hln hix hl0 ⊢
    clear hl
    go_enter Tryd.func58, Tryd.ntmps58
    go_wp2_with fail
    rw [← hL]
    refine (num_calls hs (58 :: (ms ++ (58 :: (ss ++ rest)))) 0 168 hh hh0 (by omega) hvh hh1 (by omega) (stops_colon _) hlt _).mono ?_
    rintro e w1 ⟨rfl, hb1⟩
    have hlm : (ms ++ (58 :: (ss ++ rest))).length ≤ 1000000000 := by rw [List.length_append, List.length_cons] at hlt; omega
    have hln2 := fun W ty => len_tx W ty (58 :: (ms ++ (58 :: (ss ++ rest))))
    have hix2 := fun W => index_tx0 W 58 (ms ++ (58 :: (ss ++ rest)))
    have hsl2 := fun W => from_tx1 W 58 (ms ++ (58 :: (ss ++ rest)))
    have hl2 : (((58 :: (ms ++ (58 :: (ss ++ rest)))).length : Int) == 0) = false := beq_eq_false_iff_ne.mpr (by rw [List.length_cons]; omega)
    generalize (58 :: (ms ++ (58 :: (ss ++ rest)))) = l2 at hln2 hix2 hsl2 hl2 ⊢
    obtain ⟨T2, hT2⟩ : ∃ T, ms ++ (58 :: (ss ++ rest)) = T := ⟨_, rfl⟩
    rw [hT2] at hsl2
    go_wp2_with fail
    rw [← hT2]
    refine (num_calls ms (58 :: (ss ++ rest)) 0 59 hm hm0 (by omega) hvm hm1 (by omega) (stops_colon _) hlm _).mono ?_
    rintro e w2 ⟨rfl, hb2⟩
    have hb3 := hb1.trans (hb2.mono hb1.size)
    clear hb1 hb2
    have hls : (ss ++ rest).length ≤ 1000000000 := by rw [List.length_append, List.length_cons] at hlm; omega
    have hln3 := fun W ty => len_tx W ty (58 :: (ss ++ rest))
    have hix3 := fun W => index_tx0 W 58 (ss ++ rest)
    have hsl3 := fun W => from_tx1 W 58 (ss ++ rest)
    have hl3 : (((58 :: (ss ++ rest)).length : Int) == 0) = false := beq_eq_false_iff_ne.mpr (by rw [List.length_cons]; omega)
    generalize (58 :: (ss ++ rest)) = l3 at hln3 hix3 hsl3 hl3 ⊢
    obtain ⟨T3, hT3⟩ : ∃ T, ss ++ rest = T := ⟨_, rfl⟩
    rw [hT3] at hsl3
    go_wp2_with fail
    rw [← hT3]
    refine (num_calls ss rest 0 59 hss hs0 (by omega) hvs hs1 (by omega) (hr.stops) hls _).mono ?_
    rintro e w4 ⟨rfl, hb4⟩
    have hb5 := hb3.trans (hb4.mono hb3.size)
    clear hb3 hb4
    go_wp2
    exact bodyPost_ret (v := .tuple #[.int .i64 (val hs * 3600 + val ms * 60 + val ss), .string (tx rest), .bool true]) (by simp [results, Tryd.results58, go_sem]) rfl ⟨rfl, hb5⟩
end Go.Proofs.YtjoaeennbfmohaaDoor
