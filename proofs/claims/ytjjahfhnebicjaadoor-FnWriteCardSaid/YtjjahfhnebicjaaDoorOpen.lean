/- Arguments opened: a slice of bytes, a key of four bytes. -/
import Derived.Test.YtjjahfhnebicjaaDoorMem
namespace Go.Proofs.YtjjahfhnebicjaaDoor
open Go.ChangeShapes Go.WideShapes Go.ChangeAt Go.RowKit

section
variable {H : Type} {enc : TypeId × Value → H} {P : Program} {W : World} {r : Reach} {b0 : Nat} {t e : TypeId} {v : Value} {d : DataW H} {ps : List MemPlace}

theorem open_bytes (ht : P.underlying t = some (.slice e)) (he : P.underlying e = some (.int .u8)) (hc : P.cellsOf e = 1)
    (hval : Value.okWide P W r b0 t v) (hd : DataW.Trod enc P W 0 (fun _ => true) true t v d ps) :
    ∃ (A : Option Addr) (c : Nat) (xs : List UInt8), v = .slice A xs.length c ∧ (A = none → xs.length = 0 ∧ c = 0) ∧ xs.length ≤ c ∧ Rd W W.heap.size A (bv xs) := by
  obtain ⟨A, len, cap, rfl⟩ := okWide_slice ht hval
  obtain ⟨fuel, hf⟩ := hd
  rcases open_ints ht he hc hf with ⟨hcs, hx⟩ | ⟨a, len', cap', zs, hcs, _, hl, hm, hz, hx, hcell, hwz⟩
  · simp [Value.cells] at hcs
    obtain ⟨rfl, rfl, rfl⟩ := hcs
    exact ⟨none, 0, [], rfl, fun _ => ⟨rfl, rfl⟩, Nat.le_refl _, Rd.nil _ _ _⟩
  · simp [Value.cells] at hcs
    obtain ⟨rfl, rfl, rfl⟩ := hcs
    simp only [if_true] at hz
    obtain ⟨xs, hxs⟩ := bytes_of_ints (zs.take len) (fun n hn => hwz n (List.mem_of_mem_take hn))
    have hlen : xs.length = len := by
      have := congrArg List.length hxs
      simp only [List.length_take, List.length_map] at this
      omega
    subst hlen
    refine ⟨some a, cap, xs, rfl, fun h => (by cases h), hl, ?_⟩
    have hcells : ∀ j u, (bv xs)[j]? = some u → W.cell? (a.add j) = some u := by
      intro j u hu
      have hj : j < xs.length := by
        have := (List.getElem?_eq_some_iff.1 hu).1
        rwa [bv_length] at this
      rw [hcell j (by omega), ← hu, bv_get _ _ hj]
      have e1 : (zs.take xs.length)[j]? = some ((xs[j]).toNat : Int) := by rw [hxs]; simp [hj]
      rw [List.getElem?_take, if_pos hj] at e1
      simp [List.getD, e1]
    intro hn
    have h0 := hcells 0 _ (List.getElem?_eq_getElem hn)
    have hb : a.block < W.heap.size := World.block_lt_of_cell? W (a.add 0) h0
    exact Rd.of_addr hb hcells hn

theorem open_key (ht : P.underlying t = some (.array 4 e)) (he : P.underlying e = some (.int .u8)) (hc : P.cellsOf e = 1) (hc4 : P.cellsOf t = 4)
    (hval : Value.okWide P W r b0 t v) (hd : DataW.Trod enc P W 0 (fun _ => true) true t v d ps) :
    ∃ k0 k1 k2 k3 : UInt8, v = .agg #[.int .u8 (k0.toNat : Int), .int .u8 (k1.toNat : Int), .int .u8 (k2.toNat : Int), .int .u8 (k3.toNat : Int)] := by
  simp only [Value.okWide, ht] at hval
  obtain ⟨cs, rfl, hsz, _⟩ := hval
  obtain ⟨fuel, hf⟩ := hd
  obtain ⟨ys, m, rfl, hx, hlen, hn, hel⟩ := DataW.trod_array ht hf
  have hel' : ∀ i, i < 4 → ∃ k : UInt8, cs[i]? = some (.int .u8 (k.toNat : Int)) := by
    intro i hi
    have h := hel i hi
    have hy : ys[i]? = some ys[i] := List.getElem?_eq_getElem (by omega)
    rw [hy, hc, Nat.mul_one] at h
    obtain ⟨n, hcell, _, hwf⟩ := DataW.trod_int he h
    have hb := bounds_u8 hwf
    refine ⟨UInt8.ofNat n.toNat, ?_⟩
    have hi' : cs[i]? = some (.int .u8 n) := by
      have h2 := congrArg (fun l : List Value => l[0]?) hcell
      simpa [Value.cells, List.getElem?_take, List.getElem?_drop] using h2
    rw [hi']
    simp only [UInt8.toNat_ofNat', Option.some.injEq, Value.int.injEq, true_and]
    omega
  obtain ⟨k0, h0⟩ := hel' 0 (by omega)
  obtain ⟨k1, h1⟩ := hel' 1 (by omega)
  obtain ⟨k2, h2⟩ := hel' 2 (by omega)
  obtain ⟨k3, h3⟩ := hel' 3 (by omega)
  have h4 : cs.size = 4 := by rw [hsz, hc4]
  refine ⟨k0, k1, k2, k3, ?_⟩
  congr 1
  apply Array.ext_getElem?
  intro i
  by_cases hi : i < 4
  · match i, hi with
    | 0, _ => simpa using h0
    | 1, _ => simpa using h1
    | 2, _ => simpa using h2
    | 3, _ => simpa using h3
  · rw [Array.getElem?_eq_none (by omega), Array.getElem?_eq_none (by simp; omega)]
end
end Go.Proofs.YtjjahfhnebicjaaDoor
