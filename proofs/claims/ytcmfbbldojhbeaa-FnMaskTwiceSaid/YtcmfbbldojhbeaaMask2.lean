/- maskBytes over a slice of the call's own, and its door ZZMask. -/
import Derived.Test.YtcmfbbldojhbeaaMask
namespace Go.Proofs.Ytcmfbbldojhbeaa
open Go.ChangeShapes Go.WideShapes Go.ChangeAt Go.RowKit

set_option maxHeartbeats 1000000 in
theorem maskBytes_none (K : Array Value) (pos : Nat) (hpos : pos ≤ 3) (A : Option Addr) (c : Nat) (w : World) :
    Calls Try.prog 28 #[.agg K, .int .i64 (pos : Int), .slice A 0 c] w fun e w' =>
      e = .returned (.int .i64 (pos : Int)) ∧ w.alloc (.cells K 23) = w' := by
  have ha := and3 pos (by omega)
  have e4 : pos % 4 = pos := by omega
  rw [e4] at ha
  clear e4
  go_enter Try.func28, Try.ntmps28
  go_wp2
  go_loop [1, 10] (fun p i => p = .int .i64 (pos : Int) ∧ i = .int .i64 0) (fun _ _ => 0)
  case atStart => exact ⟨rfl, rfl⟩
  case round =>
    obtain ⟨rfl, rfl⟩ := hrel
    go_wp2
    go_ret
    exact ⟨rfl, rfl⟩

theorem maskBytes_own (K : Array Value) (k : List UInt8) (hk : IsKey K k) (pos : Nat) (hpos : pos ≤ 3) (base : Nat) (v : Value) (xs : List UInt8) (w : World)
    (hn : xs.length ≤ 2000000000) (h : w.ownsRow base 5 1 v xs.length (bv xs)) :
    Calls Try.prog 28 #[.agg K, .int .i64 (pos : Int), v] w fun e w' =>
      e = .returned (.int .i64 (((pos + xs.length) % 4 : Nat) : Int)) ∧ w'.ownsRow base 5 1 v xs.length (bv (maskL k pos xs)) ∧ Fr (fun i => v.ownBlock = some i) w w' := by
  obtain ⟨h1, h2⟩ := h
  rcases h2 with ⟨rfl, h0⟩ | ⟨g, cap, cur, rfl, hb, hg, hnc, hcm, hcs, htake⟩
  · have hx : xs = [] := List.eq_nil_of_length_eq_zero h0
    subst hx
    refine (maskBytes_none K pos hpos none 0 w).mono ?_
    rintro e w' ⟨rfl, rfl⟩
    exact ⟨ret_int (by simp; omega), ⟨by simp [maskL, bv], .inl ⟨rfl, rfl⟩⟩, (Fr.refl _ _).alloc _⟩
  · have hB : Blk w g 5 cur.toList := by unfold Blk; simpa using hg
    have hx : ∀ j u, (bv xs)[j]? = some u → cur.toList[0 + j]? = some u := by
      intro j u hu
      rw [← htake, List.getElem?_take] at hu
      split at hu
      · rw [Nat.zero_add]; exact hu
      · cases hu
    refine (maskBytes_some K k hk pos hpos g 0 cap cur.toList xs w hn hB (by omega) hx).mono ?_
    rintro e w' ⟨rfl, hB', hf⟩
    refine ⟨rfl, ⟨by simp [bv_length, maskL_length], .inr ⟨g, cap, (splice cur.toList 0 (bv (maskL k pos xs))).toArray, rfl, hb, hB', hnc, hcm, ?_, ?_⟩⟩, hf.mono (fun i _ e => by subst e; rfl)⟩
    · rw [List.size_toArray, length_splice _ _ _ (by simp [bv_length, maskL_length, hcs]; omega)]
      simpa using hcs
    · simp [splice, bv_length, maskL_length]

theorem isKey4 (k0 k1 k2 k3 : UInt8) : IsKey #[.int .u8 (k0.toNat : Int), .int .u8 (k1.toNat : Int), .int .u8 (k2.toNat : Int), .int .u8 (k3.toNat : Int)] [k0, k1, k2, k3] := by
  refine ⟨rfl, fun j hj => ?_⟩
  match j, hj with
  | 0, _ => rfl
  | 1, _ => rfl
  | 2, _ => rfl
  | 3, _ => rfl

set_option maxHeartbeats 1000000 in
theorem zzMask_own (k0 k1 k2 k3 : UInt8) (pos : Nat) (hpos : pos ≤ 3) (base : Nat) (v : Value) (xs : List UInt8) (w : World)
    (hn : xs.length ≤ 2000000000) (h : w.ownsRow base 5 1 v xs.length (bv xs)) :
    Calls Try.prog 22 #[.agg #[.int .u8 (k0.toNat : Int), .int .u8 (k1.toNat : Int), .int .u8 (k2.toNat : Int), .int .u8 (k3.toNat : Int)], .int .i64 (pos : Int), v] w fun e w' =>
      e = .returned (.int .i64 (((pos + xs.length) % 4 : Nat) : Int)) ∧ w'.ownsRow base 5 1 v xs.length (bv (maskL [k0, k1, k2, k3] pos xs)) ∧ Fr (fun i => v.ownBlock = some i) w w' := by
  have Hl := hide h.lt
  have HO := hide h
  clear h
  go_enter Try.func22, Try.ntmps22
  go_wp2_with fail
  refine (maskBytes_own _ _ (isKey4 k0 k1 k2 k3) pos hpos base v xs _ hn (HO.out.alloc _)).mono ?_
  rintro e w' ⟨rfl, hown, hf⟩
  have HN := hide hown
  have HF := hide hf
  clear hown hf
  go_wp2_with fail
  go_ret
  exact ⟨rfl, HN.out, (Fr.refl _ _ |>.alloc _).trans (HF.out)⟩
end Go.Proofs.Ytcmfbbldojhbeaa
