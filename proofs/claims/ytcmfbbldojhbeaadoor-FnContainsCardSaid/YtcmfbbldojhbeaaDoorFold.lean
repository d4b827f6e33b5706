/- equalASCIIFold over texts of ASCII: equal but for capitals. -/
import Derived.Test.YtcmfbbldojhbeaaDoorRows
import Derived.Test.YtcmfbbldojhbeaaDoorText
import Derived.Deep.RegionWith
namespace Go.Proofs.YtcmfbbldojhbeaaDoor
open Go.ChangeShapes Go.WideShapes Go.ChangeAt Go.RowKit

/-- A small letter for a capital. -/
def lowB (x : UInt8) : UInt8 := if 65 ≤ x.toNat ∧ x.toNat ≤ 90 then UInt8.ofNat (x.toNat + 32) else x
def lowL (xs : List UInt8) : List UInt8 := xs.map lowB
def Ascii (xs : List UInt8) : Prop := ∀ x ∈ xs, x.toNat < 128
theorem Ascii.tail {x : UInt8} {xs : List UInt8} (h : Ascii (x :: xs)) : Ascii xs := fun y hy => h y (List.mem_cons_of_mem _ hy)
theorem Ascii.head {x : UInt8} {xs : List UInt8} (h : Ascii (x :: xs)) : x.toNat < 128 := h x (by simp)

set_option maxHeartbeats 1000000 in
theorem decodeRune (x : UInt8) (xs : List UInt8) (hx : x.toNat < 128) (w : World) :
    Calls Tryd.prog 30 #[.string (strOf (x :: xs))] w fun e w' => e = .returned (.tuple #[.int .i32 (x.toNat : Int), .int .i64 1]) ∧ w = w' := by
  have hi := run_str_idx (P := Tryd.prog) 9 Tryd.underlying9 (x :: xs) 0 (by simp)
  rw [show ((0 : Nat) : Int) = 0 from rfl, show (x :: xs)[0] = x from rfl] at hi
  have hne : (strOf (x :: xs)).toList = [] ↔ False := by simp
  generalize x.toNat = m at *
  generalize strOf (x :: xs) = s at *
  have hne' : s.toList.isEmpty = false := by cases h : s.toList <;> simp_all
  clear hne
  have hd : decide ((m : Int) < 128) = true := by simp; omega
  have hx2 : m ≤ 127 := by omega
  clear hx
  go_enter Tryd.func30, Tryd.ntmps30
  go_wp2_with fail
  go_ret2
  exact ⟨rfl, rfl⟩

def lowN (m : Nat) : Nat := if 65 ≤ m ∧ m ≤ 90 then m + 32 else m
theorem lowB_toNat (x : UInt8) : (lowB x).toNat = lowN x.toNat := by
  unfold lowB lowN
  have := x.toNat_lt
  split
  · rw [UInt8.toNat_ofNat']; omega
  · rfl
theorem lowL_cons (a b : UInt8) (ps qs : List UInt8) : lowL (a :: ps) = lowL (b :: qs) ↔ lowN a.toNat = lowN b.toNat ∧ lowL ps = lowL qs := by
  simp only [lowL, List.map_cons, List.cons.injEq]
  rw [← UInt8.toNat_inj, lowB_toNat, lowB_toNat]
def strLen : Value → Nat | .string b => b.size | _ => 0
theorem strLen_strOf (xs : List UInt8) : strLen (.string (strOf xs)) = xs.length := strOf_size xs

/-- One round of the fold: what the heads tell. -/
def FoldRel (xs ys ps qs : List UInt8) : Prop := (lowL xs = lowL ys ↔ lowL ps = lowL qs) ∧ Ascii ps ∧ Ascii qs

set_option maxHeartbeats 4000000 in
theorem equalFold (xs ys : List UInt8) (hx : Ascii xs) (hy : Ascii ys) (w : World) :
    Calls Tryd.prog 27 #[.string (strOf xs), .string (strOf ys)] w fun e w' => e = .returned (.bool (decide (lowL xs = lowL ys))) ∧ w = w' := by
  have hstart : FoldRel xs ys xs ys := ⟨Iff.rfl, hx, hy⟩
  have HStart := hide hstart
  clear hstart hx hy
  go_enter Tryd.func27, Tryd.ntmps27
  go_wp2_with fail
  go_loop [0, 1] (fun s t => ∃ ps qs, Hid (FoldRel xs ys ps qs) ∧ s = .string (strOf ps) ∧ t = .string (strOf qs)) (fun s _ => strLen s)
  case atStart => exact ⟨xs, ys, HStart, rfl, rfl⟩
  case round =>
    obtain ⟨ps, qs, hrel, rfl, rfl⟩ := hrel
    cases ps with
    | nil =>
      go_wp2_with fail
      go_ret
      refine ⟨?_, rfl⟩
      have h := hrel.out.1
      cases qs with
      | nil => exact ret_bool (by simpa using h)
      | cons b qs => exact ret_bool (Eq.symm (decide_eq_false (fun e => by simpa [lowL] using h.1 e)))
    | cons a ps =>
      cases qs with
      | nil =>
        go_wp2_with fail
        go_ret
        refine ⟨?_, rfl⟩
        have h := hrel.out.1
        exact ret_bool (Eq.symm (decide_eq_false (fun e => by simpa [lowL] using h.1 e)))
      | cons b qs =>
        have hla := hrel.out.2.1.head
        have hlb := hrel.out.2.2.head
        have hca := fun w => decodeRune a ps hla w
        have hcb := fun w => decodeRune b qs hlb w
        have hsa := run_str_from (P := Tryd.prog) 9 Tryd.underlying9 (a :: ps) 1 (by simp)
        have hsb := run_str_from (P := Tryd.prog) 9 Tryd.underlying9 (b :: qs) 1 (by simp)
        rw [show ((1 : Nat) : Int) = 1 from rfl, show (a :: ps).drop 1 = ps from rfl] at hsa
        rw [show ((1 : Nat) : Int) = 1 from rfl, show (b :: qs).drop 1 = qs from rfl] at hsb
        have hneA : (strOf (a :: ps)).toList.isEmpty = false := by simp
        have hneB : (strOf (b :: qs)).toList.isEmpty = false := by simp
        have hrelB : lowN a.toNat = lowN b.toNat → FoldRel xs ys ps qs := fun hq => ⟨hrel.out.1.trans ((lowL_cons a b ps qs).trans ⟨fun h => h.2, fun h => ⟨hq, h⟩⟩), hrel.out.2.1.tail, hrel.out.2.2.tail⟩
        have hrelN : ¬ lowN a.toNat = lowN b.toNat → ¬ lowL xs = lowL ys := fun hq h => hq ((lowL_cons a b ps qs).1 (hrel.out.1.1 h)).1
        have hmu : strLen (.string (strOf ps)) < strLen (.string (strOf (a :: ps))) := by rw [strLen_strOf, strLen_strOf]; simp
        have HCA := hide hca
        have HCB := hide hcb
        have HRB := hide hrelB
        have HRN := hide hrelN
        have HMu := hide hmu
        have hma : a.toNat ≤ 127 := by omega
        have hmb : b.toNat ≤ 127 := by omega
        clear hca hcb hrelB hrelN hrel hla hlb hmu
        generalize strOf (a :: ps) = sa at *
        generalize strOf (b :: qs) = sb at *
        generalize a.toNat = m at *
        generalize b.toNat = n at *
        by_cases hmn : m = n
        · subst hmn
          go_wp2_with (first | (go_at_call_of 30 (Value.string sa); refine (HCA.out _).mono ?_; rintro e w' ⟨rfl, rfl⟩) | (go_at_call_of 30 (Value.string sb); refine (HCB.out _).mono ?_; rintro e w' ⟨rfl, rfl⟩))
          go_round
          case rel => exact ⟨ps, qs, hide (HRB.out (by first | rfl | trivial)), rfl, rfl⟩
          case measure => exact HMu.out
        · have hne : ((m : Int) == (n : Int)) = false := beq_eq_false_iff_ne.2 (by omega)
          have hcm : (m ≤ 64 ∧ lowN m = m) ∨ (65 ≤ m ∧ m ≤ 90 ∧ lowN m = m + 32) ∨ (91 ≤ m ∧ lowN m = m) := by unfold lowN; split <;> omega
          have hcn : (n ≤ 64 ∧ lowN n = n) ∨ (65 ≤ n ∧ n ≤ 90 ∧ lowN n = n + 32) ∨ (91 ≤ n ∧ lowN n = n) := by unfold lowN; split <;> omega
          by_cases hq : lowN m = lowN n
          · have HQ := hide hq
            rcases hcm with ⟨hm, hlm⟩ | ⟨hm, hm', hlm⟩ | ⟨hm, hlm⟩ <;> rcases hcn with ⟨hn, hln⟩ | ⟨hn, hn', hln⟩ | ⟨hn, hln⟩ <;> rw [hlm, hln] at hq <;> first
              | (exfalso; omega)
              | (have hq1 := Nat.le_of_eq hq
                 have hq2 := Nat.le_of_eq hq.symm
                 clear hq hlm hln hmn
                 go_wp2_with (first | (go_at_call_of 30 (Value.string sa); refine (HCA.out _).mono ?_; rintro e w' ⟨rfl, rfl⟩) | (go_at_call_of 30 (Value.string sb); refine (HCB.out _).mono ?_; rintro e w' ⟨rfl, rfl⟩))
                 go_round
                 case rel => exact ⟨ps, qs, hide (HRB.out HQ.out), rfl, rfl⟩
                 case measure => exact HMu.out)
          · have HQ := hide hq
            rcases hcm with ⟨hm, hlm⟩ | ⟨hm, hm', hlm⟩ | ⟨hm, hlm⟩ <;> rcases hcn with ⟨hn, hln⟩ | ⟨hn, hn', hln⟩ | ⟨hn, hln⟩ <;> rw [hlm, hln] at hq <;> (
                 clear hlm hln hmn
                 go_wp2_with (first | (go_at_call_of 30 (Value.string sa); refine (HCA.out _).mono ?_; rintro e w' ⟨rfl, rfl⟩) | (go_at_call_of 30 (Value.string sb); refine (HCB.out _).mono ?_; rintro e w' ⟨rfl, rfl⟩))
                 go_ret
                 exact ⟨ret_bool (Eq.symm (decide_eq_false (HRN.out HQ.out))), rfl⟩)
end Go.Proofs.YtcmfbbldojhbeaaDoor
