/- Texts as lists of bytes: what is cut off, what stands at a place, what is equal. Nothing of a program stands here. -/
import Derived.Test.YtjjahfhnebicjaaDoorMem
namespace Go.Proofs.YtjjahfhnebicjaaDoor
open Go.ChangeShapes Go.WideShapes Go.ChangeAt Go.RowKit

theorem strOf_inj {xs ys : List UInt8} (h : strOf xs = strOf ys) : xs = ys := by
  have := congrArg ByteArray.toList h
  simpa using this
theorem eq_strOf (s : ByteArray) : ∃ xs, s = strOf xs ∧ xs = s.data.toList ∧ xs.length = s.size := by
  refine ⟨s.data.toList, by cases s; rfl, rfl, ?_⟩
  rw [Array.length_toList]; rfl
theorem strOf_extract (xs : List UInt8) (a b : Nat) : (strOf xs).extract a b = strOf ((xs.drop a).take (b - a)) := ByteArray.extract_mk xs a b

section
variable {P : Program} (T : TypeId) (hT : P.underlying T = some .string)
include hT
theorem run_str_from (xs : List UInt8) (k : Nat) (hk : k ≤ xs.length) : ∀ w : World, (Instr.slice T (.string (strOf xs)) (some (.int .i64 (k : Int))) none none).run P w = .ok (.string (strOf (xs.drop k))) w := by
  intro w
  rw [run_slice_string_from_if w T (strOf xs) .i64 (k : Int) hT, if_pos ⟨by omega, by rw [strOf_size]; omega⟩, strOf_extract, strOf_size, Int.toNat_natCast]
  congr 3
  rw [List.take_of_length_le (by rw [List.length_drop]; omega)]
theorem run_str_to (xs : List UInt8) (k : Nat) (hk : k ≤ xs.length) : ∀ w : World, (Instr.slice T (.string (strOf xs)) none (some (.int .i64 (k : Int))) none).run P w = .ok (.string (strOf (xs.take k))) w := by
  intro w
  rw [run_slice_string_to_if w T (strOf xs) .i64 (k : Int) hT, if_pos ⟨by omega, by rw [strOf_size]; omega⟩, strOf_extract, Int.toNat_natCast]
  congr 3
theorem run_str_idx (xs : List UInt8) (k : Nat) (hk : k < xs.length) : ∀ w : World, (Instr.index T (.string (strOf xs)) (.int .i64 (k : Int))).run P w = .ok (.int .u8 ((xs[k]).toNat : Int)) w := by
  intro w
  rw [run_index_string w T (strOf xs) .i64 (k : Int) hT, dif_pos ⟨by omega, by rw [strOf_size]; omega⟩]
  congr 3
end

/-- A block that []byte(s) made: known whole, with the conversion's mark behind its end. -/
def BlkM (w : World) (g : Nat) (t : TypeId) (cs : List Value) : Prop := w.heap[g]? = some (.cells cs.toArray t (cs.length, cs.length + 1))
section
variable {w w' : World} {g : Nat} {t : TypeId} {cs : List Value} {S : Nat → Prop}
theorem BlkM.lt (h : BlkM w g t cs) : g < w.heap.size := by
  rcases Nat.lt_or_ge g w.heap.size with hlt | hge
  · exact hlt
  · unfold BlkM at h; rw [Array.getElem?_eq_none hge] at h; cases h
theorem BlkM.cell (h : BlkM w g t cs) (i : Nat) : w.cell? ⟨g, i, none⟩ = cs[i]? := by
  rw [cell_of_row w g i cs.toArray t _ h]; simp
theorem BlkM.frozen (h : BlkM w g t cs) (i : Nat) (hi : i < cs.length) : w.frozen? ⟨g, i, none⟩ = false := by
  unfold BlkM at h
  simp [World.frozen?, h]
  omega
theorem BlkM.set (h : BlkM w g t cs) (i : Nat) (u : Value) : BlkM (w.setCell ⟨g, i, none⟩ u) g t (cs.set i u) := by
  unfold BlkM at h ⊢
  simp [World.setCell, Array.getElem?_modify, h]
theorem BlkM.drew (h : BlkM w g t cs) : BlkM w.drew g t cs := h
theorem BlkM.rd (h : BlkM w g t cs) (xs : List Value) (B : Nat) (hg : g < B) (hx : ∀ (j : Nat) (u : Value), xs[j]? = some u → cs[j]? = some u) : Rd w B (some ⟨g, 0, none⟩) xs := fun _ =>
  ⟨g, 0, rfl, hg, fun j u hu => by rw [Nat.zero_add, h.cell]; exact hx j u hu⟩
end
theorem run_of_str {P : Program} (w : World) (src dst e : TypeId) (hs : P.underlying src = some .string) (hd : P.underlying dst = some (.slice e)) (he : P.underlying e = some (.int .u8)) (xs : List UInt8) :
    ∃ (cap : Nat) (rest : List Value), (convert src dst (.string (strOf xs))).run P w = .ok (.slice (some ⟨w.heap.size, 0, none⟩) xs.length cap) (w.drew.alloc (.cells (bv xs ++ rest).toArray e ((bv xs ++ rest).length, (bv xs ++ rest).length + 1))) ∧ xs.length ≤ cap := by
  have h := run_bytes_of_string (P := P) w src dst e (strOf xs) hs hd he
  rw [strOf_size] at h
  refine ⟨grownCap w xs.length 0 e, List.replicate (grownCap w xs.length 0 e - xs.length) (Value.int .u8 0), ?_, grownCap_ge w xs.length 0 e⟩
  rw [h]
  have e1 : bytesRow (strOf xs) (grownCap w xs.length 0 e) = (bv xs ++ List.replicate (grownCap w xs.length 0 e - xs.length) (Value.int .u8 0)).toArray := by
    apply Array.ext'
    have hz : (strOf xs).size = xs.length := strOf_size xs
    simp [bytesRow, hz, bv]
    rfl
  rw [e1]
  simp
end Go.Proofs.YtjjahfhnebicjaaDoor
