/- maskBytes: masks bytes in their place by a key. Conditions: the bytes lie in one block that is known, or there are none; the position is from 0 to 3. -/
import Derived.Test.YtjjahfhnebicjaaDoorRows
import Derived.Test.YtjjahfhnebicjaaDoorMem
namespace Go.Proofs.YtjjahfhnebicjaaDoor
open Go.ChangeShapes Go.WideShapes Go.ChangeAt Go.RowKit

/-- A key as a value: its four cells. -/
def IsKey (K : Array Value) (k : List UInt8) : Prop := k.length = 4 ∧ ∀ j, j < 4 → K[j]? = some (.int .u8 ((k.getD j 0).toNat : Int))
/-- Bytes masked by a key from a position on. -/
def maskL (k : List UInt8) (pos : Nat) : List UInt8 → List UInt8
  | [] => []
  | x :: xs => (x ^^^ k.getD (pos % 4) 0) :: maskL k (pos + 1) xs
theorem maskL_length (k : List UInt8) : ∀ (xs : List UInt8) (pos : Nat), (maskL k pos xs).length = xs.length
  | [], _ => rfl
  | x :: xs, pos => by simp [maskL, maskL_length k xs]
theorem maskL_append (k : List UInt8) : ∀ (xs ys : List UInt8) (pos : Nat), maskL k pos (xs ++ ys) = maskL k pos xs ++ maskL k (pos + xs.length) ys
  | [], ys, pos => by simp [maskL]
  | x :: xs, ys, pos => by simp [maskL, maskL_append k xs ys, Nat.add_assoc, Nat.add_comm 1]
theorem maskL_mod (k : List UInt8) : ∀ (xs : List UInt8) (pos : Nat), maskL k (pos % 4) xs = maskL k pos xs
  | [], _ => rfl
  | x :: xs, pos => by
    have h1 := maskL_mod k xs (pos + 1)
    have h2 := maskL_mod k xs (pos % 4 + 1)
    simp only [maskL, Nat.mod_mod]
    rw [← h1, ← h2]
    congr 2
    omega
theorem maskL_take (k : List UInt8) : ∀ (xs : List UInt8) (pos n : Nat), (maskL k pos xs).take n = maskL k pos (xs.take n)
  | [], _, n => by simp [maskL]
  | _ :: _, _, 0 => by simp [maskL]
  | x :: xs, pos, n + 1 => by simp only [maskL, List.take_succ_cons, maskL_take k xs]
theorem maskL_drop (k : List UInt8) : ∀ (xs : List UInt8) (pos n : Nat), (maskL k pos xs).drop n = maskL k (pos + n) (xs.drop n)
  | [], _, n => by simp [maskL]
  | _ :: _, _, 0 => by simp
  | x :: xs, pos, n + 1 => by
    simp only [maskL, List.drop_succ_cons, maskL_drop k xs]
    congr 1
    omega
theorem maskL_twice (k : List UInt8) : ∀ (xs : List UInt8) (pos : Nat), maskL k pos (maskL k pos xs) = xs
  | [], _ => rfl
  | x :: xs, pos => by
    simp only [maskL, maskL_twice k xs]
    congr 1
    rw [UInt8.xor_assoc, UInt8.xor_self, UInt8.xor_zero]

/-- What is masked of a row so far: the first i bytes. -/
def maskTo (k : List UInt8) (pos : Nat) (xs : List UInt8) (i : Nat) : List UInt8 := maskL k pos (xs.take i) ++ xs.drop i
theorem maskTo_zero (k : List UInt8) (pos : Nat) (xs : List UInt8) : maskTo k pos xs 0 = xs := by simp [maskTo, maskL]
theorem maskTo_end (k : List UInt8) (pos : Nat) (xs : List UInt8) : maskTo k pos xs xs.length = maskL k pos xs := by simp [maskTo]
theorem maskTo_length (k : List UInt8) (pos : Nat) (xs : List UInt8) (i : Nat) : (maskTo k pos xs i).length = xs.length := by
  simp only [maskTo, List.length_append, maskL_length, List.length_take, List.length_drop]; omega
theorem maskTo_get (k : List UInt8) (pos : Nat) (xs : List UInt8) (i : Nat) (h : i < xs.length) : (maskTo k pos xs i)[i]? = some xs[i] := by
  unfold maskTo
  rw [List.getElem?_append_right (by simp [maskL_length]; omega)]
  simp [maskL_length, Nat.min_eq_left (Nat.le_of_lt h), h]
theorem maskTo_succ (k : List UInt8) (pos : Nat) (xs : List UInt8) (i : Nat) (h : i < xs.length) :
    maskTo k pos xs (i + 1) = (maskTo k pos xs i).set i (xs[i] ^^^ k.getD ((pos + i) % 4) 0) := by
  unfold maskTo
  have e1 : xs.take (i + 1) = xs.take i ++ [xs[i]] := by rw [List.take_succ_eq_append_getElem h]
  have e2 : xs.drop i = xs[i] :: xs.drop (i + 1) := by rw [List.drop_eq_getElem_cons h]
  have l1 : (maskL k pos (xs.take i)).length = i := by simp [maskL_length]; omega
  rw [e1, maskL_append, List.set_append_right _ _ (by omega), l1, e2, Nat.sub_self, List.set_cons_zero, List.length_take, Nat.min_eq_left (Nat.le_of_lt h), List.append_assoc]
  rfl

theorem xor_u8 (a b : UInt8) : bits .xor .u8 (a.toNat : Int) (b.toNat : Int) = ((a ^^^ b).toNat : Int) := by
  rw [u8_xor_nat _ _ a.toNat_lt b.toNat_lt, UInt8.toNat_xor]

/-- '&' of numbers that are not below nought. -/
theorem ofInt_i64 (a : Nat) (ha : a < 9223372036854775808) : (BitVec.ofInt 64 (a : Int)).toNat = a := by
  rw [BitVec.ofInt_natCast, BitVec.toNat_ofNat]; exact Nat.mod_eq_of_lt (by omega)
theorem and3 (a : Nat) (ha : a < 9223372036854775808) : bits .and .i64 (a : Int) 3 = ((a % 4 : Nat) : Int) := by
  show IntKind.i64.wrap ((BitVec.ofInt 64 (a : Int) &&& BitVec.ofInt 64 ((3 : Nat) : Int)).toNat : Int) = _
  rw [BitVec.toNat_and, ofInt_i64 a ha, ofInt_i64 3 (by omega), IntKind.wrap_i64, nat_mask2]
  omega

/-- Bytes of a block from a place on. -/
def splB (cs : List Value) (off : Nat) (ys : List UInt8) : List Value := splice cs off (bv ys)

set_option maxHeartbeats 1000000 in
theorem maskBytes_some (K : Array Value) (k : List UInt8) (hk : IsKey K k) (pos : Nat) (hpos : pos ≤ 3) (g off c : Nat) (cs : List Value) (xs : List UInt8) (w : World)
    (hn : xs.length ≤ 2000000000) (hB : Blk w g 5 cs) (hf : off ≤ cs.length) (hx : ∀ j u, (bv xs)[j]? = some u → cs[off + j]? = some u) :
    Calls Tryd.prog 38 #[.agg K, .int .i64 (pos : Int), .slice (some ⟨g, off, none⟩) xs.length c] w fun e w' =>
      e = .returned (.int .i64 (((pos + xs.length) % 4 : Nat) : Int)) ∧ Blk w' g 5 (splice cs off (bv (maskL k pos xs))) ∧ Fr (fun i => i = g) w w' := by
  have hglt := hB.lt
  have hstart : Blk (w.alloc (.cells K 42)) g 5 (splice cs off (bv (maskTo k pos xs 0))) := by
    rw [maskTo_zero, splice_self _ _ _ hx hf]
    exact hB.alloc _
  have HS := hide hstart
  have HX := hide hx
  have HB := hide hB
  have HK := hide hk
  clear hstart hx hB hk
  go_enter Tryd.func38, Tryd.ntmps38
  go_wp2
  go_loopw [1, 10] (fun p i wr => ∃ j : Nat, j ≤ xs.length ∧ i = .int .i64 j ∧ p = .int .i64 ((pos : Int) + (j : Int)) ∧ Hid (Blk wr g 5 (splice cs off (bv (maskTo k pos xs j)))) ∧ Hid (Fr (fun i => i = g) (w.alloc (.cells K 42)) wr))
    (fun _ i _ => xs.length - (intOf i).toNat)
  case atStart => exact ⟨0, Nat.zero_le _, rfl, by simp, HS, hide (Fr.refl _ _)⟩
  case round =>
    obtain ⟨j, hj, rfl, rfl, hb, hfr⟩ := hrel
    by_cases hlt : j < xs.length
    · have hl : j < (bv (maskTo k pos xs j)).length := by rw [bv_length, maskTo_length]; exact hlt
      have hc1 : wr.cell? ⟨g, off + j, none⟩ = some (.int .u8 ((xs[j]).toNat : Int)) := by
        rw [hb.out.cell, splice_get _ _ _ _ hl hf, bv_get _ _ (by rw [maskTo_length]; exact hlt)]
        have := maskTo_get k pos xs j hlt
        rw [List.getElem?_eq_getElem (by rw [maskTo_length]; exact hlt)] at this
        simp only [Option.some.injEq] at this
        rw [this]
      have hz1 : wr.frozen? ⟨g, off + j, none⟩ = false := hb.out.frozen _
      have hc2 : wr.cell? ⟨w.heap.size, (pos + j) % 4, none⟩ = some (.int .u8 ((k.getD ((pos + j) % 4) 0).toNat : Int)) := by
        rw [hfr.out.cell (by simp) (by simp; omega)]
        rw [World.cell?_alloc_new]
        exact HK.out.2 _ (by omega)
      have ha := and3 (pos + j) (by omega)
      rw [Int.natCast_add] at ha
      have hsucc := maskTo_succ k pos xs j hlt
      generalize k.getD ((pos + j) % 4) 0 = kb at *
      generalize xs[j] = xb at *
      have hxo := xor_u8 xb kb
      have hset : bv (maskTo k pos xs (j + 1)) = (bv (maskTo k pos xs j)).set j (.int .u8 ((xb ^^^ kb).toNat : Int)) := by rw [hsucc, bv_set]
      have HSet := hide hset
      clear hset hsucc
      go_wp2
      go_region
      all_goals go_wp2
      all_goals go_roundw
      case rel =>
        refine ⟨j + 1, by omega, by go_num, by go_num, hide ?_, hide ?_⟩
        · rw [HSet.out, ← splice_set _ _ _ _ _ hl hf]
          exact (hb.out.set _ _).drew
        · exact (hfr.out.setCell (p := ⟨g, off + j, none⟩) (fun _ => rfl) _).drew
      case measure => simp [intOf]; omega
    · have ha := and3 (pos + j) (by omega)
      rw [Int.natCast_add] at ha
      go_wp2
      go_ret
      have hjx : j = xs.length := by omega
      refine ⟨?_, ?_, ?_⟩
      · exact ret_int (k := .i64) (a := ((pos : Int) + (j : Int)) % 4) (by omega)
      · rw [hjx, maskTo_end] at hb; exact hb.out
      · exact (Fr.refl _ _ |>.alloc _).trans (hfr.out.mono (fun _ _ h => h))
end Go.Proofs.YtjjahfhnebicjaaDoor
