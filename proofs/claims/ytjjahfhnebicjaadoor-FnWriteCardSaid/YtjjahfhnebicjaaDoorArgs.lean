/- The law's arguments opened: keys, messages; the errors that the row lists. -/
import Derived.Test.YtjjahfhnebicjaaDoorCards
import Derived.Test.YtjjahfhnebicjaaDoorTie
import Derived.Test.YtjjahfhnebicjaaDoorFnWrite0
import Derived.Test.YtjjahfhnebicjaaDoorOpen
import Derived.Lib.LaidTab
import Derived.Deep.Strs
namespace Go.Proofs.YtjjahfhnebicjaaDoor
open Go.ChangeShapes Go.WideShapes Go.ChangeAt Go.RowKit

section
variable {H : Type} {enc : TypeId × Value → H} {P : Program} {W : World} {r : Reach} {b0 : Nat} {t e q : TypeId} {v : Value} {d : DataW H} {ps : List MemPlace}

theorem take_drop_one {cs : List Value} {i : Nat} {x : Value} (h : (cs.drop i).take 1 = [x]) : cs[i]? = some x := by
  have h2 := congrArg (fun l : List Value => l[0]?) h
  simpa [List.getElem?_take, List.getElem?_drop] using h2

theorem key_of_cells {fuel : Nat} {cs : List Value} {y : DataW H × List MemPlace} (he : P.underlying e = some (.array 4 q)) (hq : P.underlying q = some (.int .u8)) (hcq : P.cellsOf q = 1)
    (h : DataW.trod enc P W 0 (fun _ => true) true fuel e cs = some y) : ∃ k : List UInt8, k.length = 4 ∧ ∀ j, j < 4 → cs[j]? = some (.int .u8 ((k.getD j 0).toNat : Int)) := by
  obtain ⟨ys, m, _, _, _, hn, hel⟩ := DataW.trod_array he h
  have each : ∀ i, i < 4 → ∃ k : UInt8, cs[i]? = some (.int .u8 (k.toNat : Int)) := by
    intro i hi
    have h := hel i hi
    have hy : ys[i]? = some ys[i] := List.getElem?_eq_getElem (by omega)
    rw [hy, hcq, Nat.mul_one] at h
    obtain ⟨n, hcell, _, hwf⟩ := DataW.trod_int hq h
    have hb := bounds_u8 hwf
    refine ⟨UInt8.ofNat n.toNat, ?_⟩
    rw [take_drop_one hcell]
    simp only [UInt8.toNat_ofNat', Option.some.injEq, Value.int.injEq, true_and]
    omega
  obtain ⟨k0, h0⟩ := each 0 (by omega)
  obtain ⟨k1, h1⟩ := each 1 (by omega)
  obtain ⟨k2, h2⟩ := each 2 (by omega)
  obtain ⟨k3, h3⟩ := each 3 (by omega)
  refine ⟨[k0, k1, k2, k3], rfl, fun j hj => ?_⟩
  match j, hj with
  | 0, _ => exact h0
  | 1, _ => exact h1
  | 2, _ => exact h2
  | 3, _ => exact h3

/-- The elements of a slice, each of so many cells. -/
theorem open_elems {s : Nat} {fuel : Nat} {x : DataW H × List MemPlace} (ht : P.underlying t = some (.slice e)) (hc : P.cellsOf e = s) (hf : DataW.trod enc P W 0 (fun _ => true) true fuel t [v] = some x) :
    v = .slice none 0 0 ∨ ∃ a len cap, v = .slice (some a) len cap ∧ len ≤ cap ∧ ∀ i, i < len → ∃ cs n y, cs.length = s ∧ DataW.trod enc P W 0 (fun _ => true) true n e cs = some y ∧ ∀ j, j < s → W.cell? (a.add (i * s + j)) = cs[j]? := by
  rcases DataW.trod_slice ht hf with ⟨hcs, _⟩ | ⟨a, len, cap, elems, rest, n, _, hcs, _, _, hl, _, hlen, hel, _, _⟩
  · simp at hcs; exact .inl hcs
  · simp at hcs
    subst hcs
    refine .inr ⟨a, len, cap, rfl, hl, fun i hi => ?_⟩
    have h := hel i hi
    have hy : elems[i]? = some elems[i] := List.getElem?_eq_getElem (by omega)
    rw [hy, hc] at h
    obtain ⟨cs, h1, h2⟩ := Option.bind_eq_some_iff.1 h
    obtain ⟨_, h3, h4⟩ := World.cells?_some h1
    exact ⟨cs, n, _, h3, h2, fun j hj => by rw [← add_add]; exact h4 j hj⟩

theorem open_keys (ht : P.underlying t = some (.slice e)) (he : P.underlying e = some (.array 4 q)) (hq : P.underlying q = some (.int .u8)) (hce : P.cellsOf e = 4) (hcq : P.cellsOf q = 1)
    (hval : Value.okWide P W r b0 t v) (hd : DataW.Trod enc P W 0 (fun _ => true) true t v d ps) : ∃ A c keys, v = .slice A (List.length keys) c ∧ KeysRd W A W.heap.size keys := by
  obtain ⟨A, len, cap, rfl⟩ := okWide_slice ht hval
  obtain ⟨fuel, hf⟩ := hd
  have hf : DataW.trod enc P W 0 (fun _ => true) true fuel t [.slice A len cap] = some (d, ps) := by simpa [Value.cells] using hf
  rcases open_elems ht hce hf with h | ⟨a, len', cap', hv, hl, hel⟩
  · injection h with h1 h2 h3
    subst h1 h2 h3
    exact ⟨none, 0, [], rfl, fun hn => absurd hn (by simp)⟩
  · injection hv with h1 h2 h3
    subst h1 h2 h3
    have each : ∀ i, i < len → ∃ k : List UInt8, k.length = 4 ∧ ∀ j, j < 4 → W.cell? (a.add (i * 4 + j)) = some (.int .u8 ((k.getD j 0).toNat : Int)) := by
      intro i hi
      obtain ⟨cs, n, y, _, h2, h3⟩ := hel i hi
      obtain ⟨k, hk, hkc⟩ := key_of_cells he hq hcq h2
      exact ⟨k, hk, fun j hj => (h3 j hj).trans (hkc j hj)⟩
    obtain ⟨K, hK⟩ := Deep.choose_lt each
    refine ⟨some a, cap, (List.range len).map K, by simp, fun hn => ?_⟩
    have hn' : 0 < len := by simpa using hn
    have h0 := (hK 0 hn').2 0 (by omega)
    rw [show a.add (0 * 4 + 0) = a from rfl] at h0
    obtain ⟨g, o, rfl⟩ := spot_none h0
    refine ⟨g, o, rfl, World.block_lt_of_cell? W _ h0, fun j hj => ?_⟩
    have hj' : j < len := by simpa using hj
    have e1 : ((List.range len).map K)[j] = K j := by simp
    rw [e1]
    refine ⟨(hK j hj').1, fun q hq4 => ?_⟩
    have := (hK j hj').2 q hq4
    rw [addr_add, ← Nat.add_assoc] at this
    exact this

theorem bytes_of_cells {fuel : Nat} {x : DataW H × List MemPlace} (ht : P.underlying t = some (.slice e)) (he : P.underlying e = some (.int .u8)) (hc : P.cellsOf e = 1) (hf : DataW.trod enc P W 0 (fun _ => true) true fuel t [v] = some x) :
    ∃ (A : Option Addr) (c : Nat) (xs : List UInt8), v = .slice A xs.length c ∧ (A = none → xs.length = 0 ∧ c = 0) ∧ xs.length ≤ c ∧ Rd W W.heap.size A (bv xs) := by
  rcases open_ints ht he hc hf with ⟨hcs, hx⟩ | ⟨a, len', cap', zs, hcs, _, hl, hm, hz, hx, hcell, hwz⟩
  · simp at hcs
    subst hcs
    exact ⟨none, 0, [], rfl, fun _ => ⟨rfl, rfl⟩, Nat.le_refl _, Rd.nil _ _ _⟩
  · simp at hcs
    subst hcs
    simp only [if_true] at hz
    obtain ⟨xs, hxs⟩ := bytes_of_ints (zs.take len') (fun n hn => hwz n (List.mem_of_mem_take hn))
    have hlen : xs.length = len' := by
      have := congrArg List.length hxs
      simp only [List.length_take, List.length_map] at this
      omega
    subst hlen
    refine ⟨some a, cap', xs, rfl, fun h => (by cases h), hl, ?_⟩
    have hcells : ∀ j u, (bv xs)[j]? = some u → W.cell? (a.add j) = some u := by
      intro j u hu
      have hj : j < xs.length := by
        have := (List.getElem?_eq_some_iff.1 hu).1
        rwa [bv_length] at this
      rw [hcell j (by omega), ← hu, bv_get _ _ hj]
      have e1 : (zs.take xs.length)[j]? = some ((xs[j]).toNat : Int) := by rw [hxs]; simp [hj]
      rw [List.getElem?_take, if_pos hj] at e1
      simp [List.getD, e1]
    intro hn
    have h0 := hcells 0 _ (List.getElem?_eq_getElem hn)
    have hb : a.block < W.heap.size := World.block_lt_of_cell? W (a.add 0) h0
    exact Rd.of_addr hb hcells hn

theorem open_msgs {fs : Array Field} {ti tb tu ts : TypeId} (ht : P.underlying t = some (.slice e)) (he : P.underlying e = some (.struct fs)) (hce : P.cellsOf e = 4)
    (f0 : (fs[0]?).map (fun f => (f.type, f.offset)) = some (ti, 0)) (f1 : (fs[1]?).map (fun f => (f.type, f.offset)) = some (tb, 1)) (f2 : (fs[2]?).map (fun f => (f.type, f.offset)) = some (ti, 2)) (f3 : (fs[3]?).map (fun f => (f.type, f.offset)) = some (ts, 3))
    (hi : P.underlying ti = some (.int .i64)) (hb : P.underlying tb = some (.slice tu)) (hu : P.underlying tu = some (.int .u8)) (hs : P.underlying ts = some .string) (ci : P.cellsOf ti = 1) (cb : P.cellsOf tb = 1) (cu : P.cellsOf tu = 1) (cs' : P.cellsOf ts = 1)
    (hval : Value.okWide P W r b0 t v) (hd : DataW.Trod enc P W 0 (fun _ => true) true t v d ps) : ∃ A c rs, v = .slice A (List.length rs) c ∧ RawsAt W W.heap.size A rs := by
  obtain ⟨A, len, cap, rfl⟩ := okWide_slice ht hval
  obtain ⟨fuel, hf⟩ := hd
  have hf : DataW.trod enc P W 0 (fun _ => true) true fuel t [.slice A len cap] = some (d, ps) := by simpa [Value.cells] using hf
  rcases open_elems ht hce hf with h | ⟨a, len', cap', hv, hl, hel⟩
  · injection h with h1 h2 h3
    subst h1 h2 h3
    exact ⟨none, 0, [], rfl, fun hn => absurd hn (by simp)⟩
  · injection hv with h1 h2 h3
    subst h1 h2 h3
    have fld : ∀ (i : Nat) (ty : TypeId) (off : Nat), (fs[i]?).map (fun f => (f.type, f.offset)) = some (ty, off) → ∃ f, fs[i]? = some f ∧ f.type = ty ∧ f.offset = off := by
      intro i ty off h
      obtain ⟨f, hf, e⟩ := Option.map_eq_some_iff.1 h
      injection e with e1 e2
      exact ⟨f, hf, e1, e2⟩
    have each : ∀ i, i < len → ∃ x : RawM × (Option Addr × Nat), W.cell? (a.add (i * 4 + 0)) = some (.int .i64 x.1.ty) ∧ W.cell? (a.add (i * 4 + 1)) = some (.slice x.2.1 x.1.data.length x.2.2) ∧ W.cell? (a.add (i * 4 + 2)) = some (.int .i64 x.1.code) ∧ W.cell? (a.add (i * 4 + 3)) = some (.string (strOf x.1.text)) ∧
        Rd W W.heap.size x.2.1 (bv x.1.data) ∧ (x.2.1 = none → x.1.data.length = 0 ∧ x.2.2 = 0) ∧ x.1.data.length ≤ x.2.2 := by
      intro i hi'
      obtain ⟨cs, n, y, hcl, h2, h3⟩ := hel i hi'
      obtain ⟨xs, m, _, _, _, hxl, hfd⟩ := DataW.trod_struct he h2
      have get : ∀ (k : Nat) (ty : TypeId), k < 4 → (fs[k]?).map (fun f => (f.type, f.offset)) = some (ty, k) → P.cellsOf ty = 1 → ∃ u z, cs[k]? = some u ∧ DataW.trod enc P W 0 (fun _ => true) true m ty [u] = some z := by
        intro k ty hk hfk hck
        obtain ⟨f, hf, rfl, ho⟩ := fld k ty k hfk
        have h := hfd k f hf
        have hkl : k < xs.length := by rw [hxl]; exact (Array.getElem?_eq_some_iff.1 hf).1
        rw [List.getElem?_eq_getElem hkl, ho, hck] at h
        have hlk : ∃ u, cs[k]? = some u := ⟨_, List.getElem?_eq_getElem (by omega)⟩
        obtain ⟨u, hu⟩ := hlk
        have e1 : (cs.drop k).take 1 = [u] := by
          rw [List.drop_eq_getElem_cons (by omega : k < cs.length)]
          have := List.getElem?_eq_getElem (by omega : k < cs.length)
          rw [hu] at this
          injection this with this
          rw [this]
          rfl
        rw [e1] at h
        exact ⟨u, _, hu, h⟩
      obtain ⟨u0, z0, c0, t0⟩ := get 0 ti (by omega) f0 ci
      obtain ⟨u1, z1, c1, t1⟩ := get 1 tb (by omega) f1 cb
      obtain ⟨u2, z2, c2, t2⟩ := get 2 ti (by omega) f2 ci
      obtain ⟨u3, z3, c3, t3⟩ := get 3 ts (by omega) f3 cs'
      obtain ⟨n0, hn0, _, _⟩ := DataW.trod_int hi t0
      obtain ⟨n2, hn2, _, _⟩ := DataW.trod_int hi t2
      obtain ⟨s3, hs3, _, _⟩ := DataW.trod_string hs t3
      obtain ⟨A1, cc, data, hd1, hd2, hd3, hd4⟩ := bytes_of_cells hb hu cu t1
      obtain ⟨text, htx, _, _⟩ := eq_strOf s3
      injection hn0 with hn0
      injection hn2 with hn2
      injection hs3 with hs3
      subst hn0 hn2 hs3 hd1 htx
      exact ⟨(⟨n0, data, n2, text⟩, (A1, cc)), (h3 0 (by omega)).trans c0, (h3 1 (by omega)).trans c1, (h3 2 (by omega)).trans c2, (h3 3 (by omega)).trans c3, hd4, hd2, hd3⟩
    haveI : Inhabited RawM := ⟨⟨0, [], 0, []⟩⟩
    obtain ⟨X, hX⟩ := Deep.choose_lt each
    refine ⟨some a, cap, (List.range len).map (fun i => (X i).1), by simp, fun hn => ?_⟩
    have hn' : 0 < len := by simpa using hn
    have h0 := (hX 0 hn').1
    rw [show a.add (0 * 4 + 0) = a from rfl] at h0
    obtain ⟨g, o, rfl⟩ := spot_none h0
    refine ⟨g, o, rfl, World.block_lt_of_cell? W _ h0, fun j hj => ?_⟩
    have hj' : j < len := by simpa using hj
    have e1 : ((List.range len).map (fun i => (X i).1))[j] = (X j).1 := by simp
    rw [e1]
    obtain ⟨q0, q1, q2, q3, q4, q5, q6⟩ := hX j hj'
    rw [addr_add] at q0 q1 q2 q3
    refine ⟨(X j).2.1, (X j).2.2, ?_, ?_, ?_, ?_, q4, q5, q6⟩
    · rw [← q0]; congr 2
    · rw [← q1, Nat.add_assoc]
    · rw [← q2, Nat.add_assoc]
    · rw [← q3, Nat.add_assoc]
end
end Go.Proofs.YtjjahfhnebicjaaDoor
