/- spec.Lower: small letters for capitals. spec.IsPlain: visible signs of ASCII and blanks. -/
import Derived.Test.YtcmfbbldojhbeaaDoorFold
namespace Go.Proofs.YtcmfbbldojhbeaaDoor
open Go.ChangeShapes Go.WideShapes Go.ChangeAt Go.RowKit

/-- The first j letters made small. -/
def lowTo (xs : List UInt8) (j : Nat) : List UInt8 := lowL (xs.take j) ++ xs.drop j
theorem lowL_length (xs : List UInt8) : (lowL xs).length = xs.length := by simp [lowL]
theorem lowTo_zero (xs : List UInt8) : lowTo xs 0 = xs := by simp [lowTo, lowL]
theorem lowTo_end (xs : List UInt8) : lowTo xs xs.length = lowL xs := by simp [lowTo]
theorem lowTo_length (xs : List UInt8) (j : Nat) : (lowTo xs j).length = xs.length := by
  simp only [lowTo, List.length_append, lowL_length, List.length_take, List.length_drop]; omega
theorem lowTo_get (xs : List UInt8) (j : Nat) (h : j < xs.length) : (lowTo xs j)[j]? = some xs[j] := by
  unfold lowTo
  rw [List.getElem?_append_right (by simp [lowL_length]; omega)]
  simp [lowL_length, Nat.min_eq_left (Nat.le_of_lt h), h]
theorem lowTo_succ (xs : List UInt8) (j : Nat) (h : j < xs.length) : lowTo xs (j + 1) = (lowTo xs j).set j (lowB xs[j]) := by
  unfold lowTo
  have e1 : xs.take (j + 1) = xs.take j ++ [xs[j]] := by rw [List.take_succ_eq_append_getElem h]
  have e2 : xs.drop j = xs[j] :: xs.drop (j + 1) := by rw [List.drop_eq_getElem_cons h]
  have l1 : (lowL (xs.take j)).length = j := by simp [lowL_length]; omega
  have e3 : lowL (xs.take j ++ [xs[j]]) = lowL (xs.take j) ++ [lowB xs[j]] := by simp only [lowL, List.map_append, List.map_cons, List.map_nil]
  rw [e1, e3, List.set_append_right _ _ (by omega), l1, e2, Nat.sub_self, List.set_cons_zero, List.append_assoc]
  rfl

set_option maxHeartbeats 2000000 in
theorem specLower (xs : List UInt8) (hn : xs.length ≤ 100000) (w : World) :
    Calls Tryd.prog 15 #[.string (strOf xs)] w fun e w' => e = .returned (.string (strOf (lowL xs))) ∧ Below w.heap.size w w' := by
  obtain ⟨cap, rest, hcv, hcap⟩ := run_of_str (P := Tryd.prog) w 9 37 5 Tryd.underlying9 Tryd.underlying37 Tryd.underlying5 xs
  have h0 : BlkM (w.drew.alloc (.cells (bv xs ++ rest).toArray 5 ((bv xs ++ rest).length, (bv xs ++ rest).length + 1))) w.heap.size 5 (bv (lowTo xs 0) ++ rest) := by
    rw [lowTo_zero]
    exact heap_alloc_new w.drew _
  have hb0 : Below w.heap.size w (w.drew.alloc (.cells (bv xs ++ rest).toArray 5 ((bv xs ++ rest).length, (bv xs ++ rest).length + 1))) := ((Below.refl _ _).drew).alloc (Nat.le_refl _) _
  have H0 := hide h0
  have HB0 := hide hb0
  clear h0 hb0
  generalize w.drew.alloc (.cells (bv xs ++ rest).toArray 5 ((bv xs ++ rest).length, (bv xs ++ rest).length + 1)) = w0 at *
  go_enter Tryd.func15, Tryd.ntmps15
  go_wp2_with fail
  go_loopw [10] (fun i wr => ∃ j : Nat, j ≤ xs.length ∧ i = .int .i64 j ∧ Hid (BlkM wr w.heap.size 5 (bv (lowTo xs j) ++ rest)) ∧ Hid (Below w.heap.size w wr)) (fun i _ => xs.length - (intOf i).toNat)
  case atStart => exact ⟨0, Nat.zero_le _, rfl, H0, HB0⟩
  case round =>
    obtain ⟨j, hj, rfl, hb, hbel⟩ := hrel
    by_cases hlt : j < xs.length
    · have hl : j < (bv (lowTo xs j)).length := by rw [bv_length, lowTo_length]; exact hlt
      have hl2 : j < (bv (lowTo xs j) ++ rest).length := by rw [List.length_append]; omega
      have hc1 : wr.cell? ⟨w.heap.size, j, none⟩ = some (.int .u8 ((xs[j]).toNat : Int)) := by
        rw [hb.out.cell, List.getElem?_append_left hl, bv_get _ _ (by rw [lowTo_length]; exact hlt)]
        have := lowTo_get xs j hlt
        rw [List.getElem?_eq_getElem (by rw [lowTo_length]; exact hlt)] at this
        simp only [Option.some.injEq] at this
        rw [this]
      have hz1 : wr.frozen? ⟨w.heap.size, j, none⟩ = false := hb.out.frozen j hl2
      have hset : bv (lowTo xs (j + 1)) ++ rest = (bv (lowTo xs j) ++ rest).set j (.int .u8 ((lowN (xs[j]).toNat : Nat) : Int)) := by
        rw [lowTo_succ xs j hlt, bv_set, List.set_append_left _ _ hl, lowB_toNat]
      have hsame : lowN (xs[j]).toNat = (xs[j]).toNat → bv (lowTo xs (j + 1)) ++ rest = bv (lowTo xs j) ++ rest := by
        intro h
        rw [hset, h]
        apply List.ext_getElem?
        intro i
        by_cases hi : j = i
        · subst hi
          rw [List.getElem?_set_self hl2, ← hb.out.cell, hc1]
        · rw [List.getElem?_set_ne hi]
      have hm : (xs[j]).toNat ≤ 255 := by have := (xs[j]).toNat_lt; omega
      have HSet := hide hset
      have HSame := hide hsame
      clear hset hsame hl hl2
      generalize (xs[j]).toNat = m at *
      have hcm : (m ≤ 64 ∧ lowN m = m) ∨ (65 ≤ m ∧ m ≤ 90 ∧ lowN m = m + 32) ∨ (91 ≤ m ∧ lowN m = m) := by unfold lowN; split <;> omega
      rcases hcm with ⟨h1, hlm⟩ | ⟨h1, h2, hlm⟩ | ⟨h1, hlm⟩
      · have HL := hide hlm
        clear hlm
        go_wp2_with fail
        go_roundw
        case rel => exact ⟨j + 1, by omega, by go_num, hide (by rw [HSame.out HL.out]; exact hb.out), hbel⟩
        case measure => simp [intOf]; omega
      · have HL := hide hlm
        clear hlm
        go_wp2_with fail
        go_roundw
        case rel =>
          refine ⟨j + 1, by omega, by go_num, hide ?_, hide ?_⟩
          · rw [HSet.out, HL.out]; exact hb.out.set j _
          · exact hbel.out.setCell (Nat.le_refl _) _
        case measure => simp [intOf]; omega
      · have HL := hide hlm
        clear hlm
        go_wp2_with fail
        go_roundw
        case rel => exact ⟨j + 1, by omega, by go_num, hide (by rw [HSame.out HL.out]; exact hb.out), hbel⟩
        case measure => simp [intOf]; omega
    · have hjx : j = xs.length := by omega
      have hfin := hb.out
      rw [hjx, lowTo_end] at hfin
      have hcb := run_conv (P := Tryd.prog) wr 37 9 5 Tryd.underlying37 Tryd.underlying5 Tryd.underlying9 (w.heap.size + 1) (some ⟨w.heap.size, 0, none⟩) cap (lowL xs) (hfin.rd _ _ (by omega) (fun i u hu => by
        rw [List.getElem?_append_left (List.getElem?_eq_some_iff.1 hu).1]; exact hu)) xs.length (lowL_length xs).symm
      clear hjx hfin
      go_wp2_with fail
      go_ret
      exact ⟨rfl, hbel.out⟩

/-- Visible signs of ASCII and blanks. -/
def plainL (xs : List UInt8) : Bool := xs.all fun x => decide (32 ≤ x.toNat) && decide (x.toNat ≤ 126)
theorem plainL_ascii {xs : List UInt8} (h : plainL xs = true) : Ascii xs := fun x hx => by
  have := List.all_eq_true.1 h x hx
  simp at this
  omega

set_option maxHeartbeats 2000000 in
theorem specIsPlain (xs : List UInt8) (hn : xs.length ≤ 2000000000) (w : World) :
    Calls Tryd.prog 11 #[.string (strOf xs)] w fun e w' => e = .returned (.bool (plainL xs)) ∧ w = w' := by
  go_enter Tryd.func11, Tryd.ntmps11
  go_wp2_with fail
  go_loop [3] (fun i => ∃ j : Nat, j ≤ xs.length ∧ i = .int .i64 j ∧ Hid (plainL xs = plainL (xs.drop j))) (fun i => xs.length - (intOf i).toNat)
  case atStart => exact ⟨0, Nat.zero_le _, rfl, hide rfl⟩
  case round =>
    obtain ⟨j, hj, rfl, hp⟩ := hrel
    by_cases hlt : j < xs.length
    · have hi := run_str_idx (P := Tryd.prog) 9 Tryd.underlying9 xs j hlt
      have hstep : plainL xs = ((decide (32 ≤ (xs[j]).toNat) && decide ((xs[j]).toNat ≤ 126)) && plainL (xs.drop (j + 1))) := by
        rw [hp.out, List.drop_eq_getElem_cons hlt]
        rfl
      have HStep := hide hstep
      have hm : (xs[j]).toNat ≤ 255 := by have := (xs[j]).toNat_lt; omega
      clear hstep hp
      generalize (xs[j]).toNat = m at *
      have hsz : (strOf xs).size = xs.length := strOf_size xs
      by_cases h1 : m ≤ 31
      · go_wp2_with fail
        go_ret
        exact ⟨ret_bool (by rw [HStep.out, decide_eq_false (by omega : ¬ 32 ≤ m)]; rfl), rfl⟩
      · by_cases h2 : 127 ≤ m
        · go_wp2_with fail
          go_ret
          exact ⟨ret_bool (by rw [HStep.out, decide_eq_false (by omega : ¬ m ≤ 126)]; simp), rfl⟩
        · go_wp2_with fail
          go_round
          case rel => exact ⟨j + 1, by omega, by go_num, hide (by rw [HStep.out, decide_eq_true (by omega : 32 ≤ m), decide_eq_true (by omega : m ≤ 126)]; rfl)⟩
          case measure => simp [intOf]; omega
    · have hjx : j = xs.length := by omega
      have hfin := hp.out
      rw [hjx, List.drop_length] at hfin
      have HF := hide hfin
      clear hjx hfin
      go_wp2_with fail
      go_ret
      exact ⟨ret_bool (by rw [HF.out]; rfl), rfl⟩
end Go.Proofs.YtcmfbbldojhbeaaDoor
