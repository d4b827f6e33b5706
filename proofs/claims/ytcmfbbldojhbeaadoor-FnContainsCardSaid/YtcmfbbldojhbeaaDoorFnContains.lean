/- The law FnContains answers true for every input. No condition beyond the tables that the row lists. -/
import Derived.Test.YtcmfbbldojhbeaaDoorCards
import Derived.Test.YtcmfbbldojhbeaaDoorTie
import Derived.Test.YtcmfbbldojhbeaaDoorContains
import Derived.Deep.DeepHandedRow
import Derived.Deep.RegionHeld
namespace Go.Proofs.YtcmfbbldojhbeaaDoor.fnContains
open Go.ChangeShapes Go.WideShapes Go.ChangeAt Go.RowKit
open Go.ChangeMaps (open_string shut_string)

/-- A slice of slices of texts. -/
def RowsAt (w : World) (B : Nat) (A : Option Addr) (lss : List (List (List UInt8))) : Prop :=
  ∃ vs : List Value, vs.length = lss.length ∧ Rd w B A vs ∧ ∀ (i : Nat) (h : i < lss.length), ∃ A' c', vs[i]? = some (.slice A' (lss[i]).length c') ∧ Rd w B A' (sv lss[i])
theorem RowsAt.keep {w w' : World} {B : Nat} {A : Option Addr} {lss : List (List (List UInt8))} (h : RowsAt w B A lss) (hb : Below B w w') : RowsAt w' B A lss := by
  obtain ⟨vs, h1, h2, h3⟩ := h
  refine ⟨vs, h1, h2.below hb, fun i hi => ?_⟩
  obtain ⟨A', c', h4, h5⟩ := h3 i hi
  exact ⟨A', c', h4, h5.below hb⟩
theorem RowsAt.at {w : World} {B : Nat} {A : Option Addr} {lss : List (List (List UInt8))} (h : RowsAt w B A lss) (i : Nat) (hi : i < lss.length) :
    ∃ g o A' c', A = some ⟨g, o, none⟩ ∧ g < B ∧ w.cell? ⟨g, o + i, none⟩ = some (.slice A' (lss[i]).length c') ∧ Rd w B A' (sv lss[i]) := by
  obtain ⟨vs, h1, h2, h3⟩ := h
  obtain ⟨g, o, rfl, hg, hc⟩ := h2 (by omega)
  obtain ⟨A', c', h4, h5⟩ := h3 i hi
  exact ⟨g, o, A', c', rfl, hg, hc i _ h4, h5⟩

/-- A slice of texts in a cell. -/
theorem texts_of_cells {H : Type} {enc : TypeId × Value → H} {P : Program} {W : World} {t e : TypeId} {fuel : Nat} {v : Value} {x : DataW H × List MemPlace}
    (ht : P.underlying t = some (.slice e)) (he : P.underlying e = some .string) (hc : P.cellsOf e = 1) (hf : DataW.trod enc P W 0 (fun _ => true) true fuel t [v] = some x) :
    ∃ (A : Option Addr) (c : Nat) (ls : List (List UInt8)), v = .slice A ls.length c ∧ Rd W W.heap.size A (sv ls) := by
  rcases Deep.open_strs ht he hc hf with ⟨hcs, hx⟩ | ⟨a, len', cap', m, Sx, hcs, _, hl, hm, hmm, hx, hcell⟩
  · simp at hcs
    subst hcs
    exact ⟨none, 0, [], rfl, Rd.nil _ _ _⟩
  · simp at hcs
    subst hcs
    simp only [if_true] at hmm
    have hlen : ((List.range len').map fun i => (Sx i).data.toList).length = len' := by simp
    refine ⟨some a, cap', (List.range len').map fun i => (Sx i).data.toList, by rw [hlen], ?_⟩
    have hcells : ∀ j u, (sv ((List.range len').map fun i => (Sx i).data.toList))[j]? = some u → W.cell? (a.add j) = some u := by
      intro j u hu
      have hj : j < len' := by
        have := (List.getElem?_eq_some_iff.1 hu).1
        rwa [sv_length, hlen] at this
      rw [(hcell j (by omega)).1, ← hu, sv_get _ _ (by rw [hlen]; exact hj)]
      simp [strOf]
    intro hn
    have h0 := hcells 0 _ (List.getElem?_eq_getElem hn)
    have hb : a.block < W.heap.size := World.block_lt_of_cell? W (a.add 0) h0
    exact Rd.of_addr hb hcells hn

theorem open_rows {H : Type} {enc : TypeId × Value → H} {P : Program} {W : World} {r : Reach} {b0 : Nat} {t e q : TypeId} {v : Value} {d : DataW H} {ps : List MemPlace}
    (ht : P.underlying t = some (.slice e)) (he : P.underlying e = some (.slice q)) (hq : P.underlying q = some .string) (hc : P.cellsOf e = 1) (hcq : P.cellsOf q = 1)
    (hval : Value.okWide P W r b0 t v) (hd : DataW.Trod enc P W 0 (fun _ => true) true t v d ps) :
    ∃ (A : Option Addr) (c : Nat) (lss : List (List (List UInt8))), v = .slice A lss.length c ∧ RowsAt W W.heap.size A lss := by
  obtain ⟨A, len, cap, rfl⟩ := okWide_slice ht hval
  obtain ⟨fuel, hf⟩ := hd
  rcases Deep.open_slice1 ht hc hf with ⟨hcs, hx⟩ | ⟨a, len', cap', m, n, V, D, Pl, hcs, _, hl, hm, hmm, hx, hcell⟩
  · simp [Value.cells] at hcs
    obtain ⟨rfl, rfl, rfl⟩ := hcs
    exact ⟨none, 0, [], rfl, [], rfl, Rd.nil _ _ _, fun i hi => absurd hi (by simp)⟩
  · simp [Value.cells] at hcs
    obtain ⟨rfl, rfl, rfl⟩ := hcs
    simp only [if_true] at hmm
    have each : ∀ i, i < len → ∃ x : Option Addr × Nat × List (List UInt8), V i = .slice x.1 x.2.2.length x.2.1 ∧ Rd W W.heap.size x.1 (sv x.2.2) := by
      intro i hi
      obtain ⟨A', c', ls, h1, h2⟩ := texts_of_cells he hq hcq (hcell i (by omega)).2
      exact ⟨(A', c', ls), h1, h2⟩
    obtain ⟨X, hX⟩ := Deep.choose_lt each
    refine ⟨some a, cap, (List.range len).map fun i => (X i).2.2, by simp, (List.range len).map V, by simp, ?_, ?_⟩
    · have hcells : ∀ j u, ((List.range len).map V)[j]? = some u → W.cell? (a.add j) = some u := by
        intro j u hu
        have hj : j < len := by
          have := (List.getElem?_eq_some_iff.1 hu).1
          simpa using this
        rw [(hcell j (by omega)).1, ← hu]
        simp [hj]
      intro hn
      have h0 := hcells 0 _ (List.getElem?_eq_getElem hn)
      have hb : a.block < W.heap.size := World.block_lt_of_cell? W (a.add 0) h0
      exact Rd.of_addr hb hcells hn
    · intro i hi
      have hi' : i < len := by simpa using hi
      refine ⟨(X i).1, (X i).2.1, ?_, ?_⟩
      · simp [hi', (hX i hi').1]
      · simpa using (hX i hi').2

def fits2 (lss : List (List (List UInt8))) : Bool := decide (lss.length ≤ 2147483647) && lss.all fits1

set_option maxHeartbeats 2000000 in
theorem zzFits2 (A : Option Addr) (c : Nat) (lss : List (List (List UInt8))) (w : World) (hr : RowsAt w w.heap.size A lss) :
    Calls Tryd.prog 16 #[.slice A lss.length c] w fun e w' => e = .returned (.bool (fits2 lss)) ∧ w = w' := by
  have HR := hide hr
  clear hr
  by_cases h1 : 2147483647 < lss.length
  · have hf : fits2 lss = false := by unfold fits2; rw [decide_eq_false (by omega)]; rfl
    have HF := hide hf
    clear hf
    go_enter Tryd.func16, Tryd.ntmps16
    go_wp2_with fail
    go_ret
    exact ⟨ret_bool HF.out.symm, rfl⟩
  · have hf : fits2 lss = lss.all fits1 := by unfold fits2; rw [decide_eq_true (by omega)]; rfl
    have HF := hide hf
    clear hf
    go_enter Tryd.func16, Tryd.ntmps16
    go_wp2_with fail
    go_loop [10] (fun i => ∃ j : Nat, j ≤ lss.length ∧ i = .int .i64 j ∧ Hid ((lss.take j).all fits1 = true)) (fun i => lss.length - (intOf i).toNat)
    case atStart => exact ⟨0, Nat.zero_le _, rfl, hide rfl⟩
    case round =>
      obtain ⟨j, hj, rfl, hp⟩ := hrel
      by_cases hlt : j < lss.length
      · obtain ⟨g, o, A', c', hA, hg, hc1, hr1⟩ := HR.out.at j hlt
        cases hA
        have hstep : fits1 lss[j] = true → (lss.take (j + 1)).all fits1 = true := fun h => all_snoc hlt hp.out h
        have hstop : fits1 lss[j] = false → fits2 lss = false := fun h => by rw [HF.out, all_stop hlt h]
        have HS := hide hstep
        have HP := hide hstop
        have K := hide (zzFits1 A' c' lss[j] w hr1)
        clear hstep hstop hp hr1
        generalize lss[j] = ls at *
        go_wp2_with fail
        refine K.out.mono ?_
        rintro e w' ⟨rfl, rfl⟩
        cases h2 : fits1 ls with
        | true =>
          have H2 := hide h2
          clear h2
          go_wp2_with fail
          go_round
          case rel => exact ⟨j + 1, by omega, by go_num, hide (HS.out H2.out)⟩
          case measure => simp [intOf]; omega
        | false =>
          have H2 := hide h2
          clear h2
          go_wp2_with fail
          go_ret
          exact ⟨ret_bool (HP.out H2.out).symm, rfl⟩
      · have hall : fits2 lss = true := by
          have := hp.out
          rw [List.take_of_length_le (by omega)] at this
          rw [HF.out, this]
        have HA := hide hall
        clear hall hp
        go_wp2_with fail
        go_ret
        exact ⟨ret_bool HA.out.symm, rfl⟩

/-- What the first tests answer. -/
def TestsAt (V : Value) (t : List UInt8) (w : World) (x y : Bool) : Prop :=
  Calls Tryd.prog 16 #[V] w (fun e w' => e = .returned (.bool x) ∧ w = w') ∧
  (t.length ≤ 2147483647 → Calls Tryd.prog 8 #[.slice (some ⟨w.heap.size, 0, none⟩) 1 1] (w.alloc (.cells #[.string (strOf t)] 9)) (fun e w' => e = .returned (.bool y) ∧ w.alloc (.cells #[.string (strOf t)] 9) = w'))

set_option maxHeartbeats 2000000 in
theorem step_fits (A : Option Addr) (c n : Nat) (t : List UInt8) (y : Bool) (w : World) (h : TestsAt (.slice A n c) t w false y) :
    Calls Tryd.prog 6 #[.slice A n c, .string (strOf t)] w fun e w' => e = .returned (.bool true) ∧ Below w.heap.size w w' := by
  have H := hide h
  clear h
  go_enter Tryd.func6, Tryd.ntmps6
  go_wp2_with fail
  refine H.out.1.mono ?_
  rintro e w' ⟨rfl, rfl⟩
  go_wp2_with fail
  go_ret
  exact ⟨rfl, Below.refl _ _⟩
set_option maxHeartbeats 2000000 in
theorem step_long (A : Option Addr) (c n : Nat) (t : List UInt8) (y : Bool) (w : World) (ht : 2147483647 < t.length) (h : TestsAt (.slice A n c) t w true y) :
    Calls Tryd.prog 6 #[.slice A n c, .string (strOf t)] w fun e w' => e = .returned (.bool true) ∧ Below w.heap.size w w' := by
  have H := hide h
  have hsz : (strOf t).size = t.length := strOf_size t
  clear h
  go_enter Tryd.func6, Tryd.ntmps6
  go_wp2_with fail
  refine H.out.1.mono ?_
  rintro e w' ⟨rfl, rfl⟩
  go_wp2_with fail
  go_ret
  exact ⟨rfl, Below.refl _ _⟩
set_option maxHeartbeats 2000000 in
theorem step_many (A : Option Addr) (c n : Nat) (t : List UInt8) (y : Bool) (w : World) (ht : t.length ≤ 2147483647) (hn : 10 < n) (h : TestsAt (.slice A n c) t w true y) :
    Calls Tryd.prog 6 #[.slice A n c, .string (strOf t)] w fun e w' => e = .returned (.bool true) ∧ Below w.heap.size w w' := by
  have H := hide h
  have hsz : (strOf t).size = t.length := strOf_size t
  clear h
  go_enter Tryd.func6, Tryd.ntmps6
  go_wp2_with fail
  refine H.out.1.mono ?_
  rintro e w' ⟨rfl, rfl⟩
  go_wp2_with fail
  go_ret
  exact ⟨rfl, Below.refl _ _⟩
set_option maxHeartbeats 2000000 in
theorem step_value (A : Option Addr) (c n : Nat) (t : List UInt8) (w : World) (ht : t.length ≤ 2147483647) (hn : n ≤ 10) (h : TestsAt (.slice A n c) t w true false) :
    Calls Tryd.prog 6 #[.slice A n c, .string (strOf t)] w fun e w' => e = .returned (.bool true) ∧ Below w.heap.size w w' := by
  have H := hide h
  have HL := hide ht
  have hsz : (strOf t).size = t.length := strOf_size t
  clear h
  go_enter Tryd.func6, Tryd.ntmps6
  go_wp2_with fail
  refine H.out.1.mono ?_
  rintro e w' ⟨rfl, rfl⟩
  go_wp2_with fail
  refine (H.out.2 HL.out).mono ?_
  rintro e w' ⟨rfl, rfl⟩
  go_wp2_with fail
  go_ret
  exact ⟨rfl, (Below.refl _ _).alloc (Nat.le_refl _) _⟩

/-- Lines that are made of tokens, none empty. -/
def lineOk (l : List (List UInt8)) : Bool := areTok l && decide (1 ≤ l.length)
theorem anyHit_take (v : List UInt8) (lss : List (List (List UInt8))) (k : Nat) (h : k < lss.length) : anyHit v (lss.take (k + 1)) = (anyHit v (lss.take k) || hit v lss[k]) := by
  show (lss.take (k + 1)).any (hit v) = _
  rw [take_snoc lss k h, List.any_append, List.any_cons, List.any_nil, Bool.or_false]; rfl
theorem hit_take (v : List UInt8) (ls : List (List UInt8)) (k : Nat) (h : k < ls.length) : hit v (ls.take (k + 1)) = (hit v (ls.take k) || decide (lowL ls[k] = lowL v)) := by
  show (ls.take (k + 1)).any (fun s => decide (lowL s = lowL v)) = _
  rw [take_snoc ls k h, List.any_append, List.any_cons, List.any_nil, Bool.or_false]; rfl

set_option maxHeartbeats 8000000 in
set_option maxRecDepth 8192 in
theorem step_main (A : Option Addr) (c : Nat) (lss : List (List (List UInt8))) (t : List UInt8) (w : World) (hr : RowsAt w w.heap.size A lss) (hf : fits2 lss = true) (h10 : lss.length ≤ 10) (ht : okTok t = true) (hT : Tok w)
    (h : TestsAt (.slice A lss.length c) t w true true) :
    Calls Tryd.prog 6 #[.slice A lss.length c, .string (strOf t)] w fun e w' => e = .returned (.bool true) ∧ Below w.heap.size w w' := by
  have h30 := (okTok_parts ht).2.2
  have hat := okTok_ascii ht
  have hfa : ∀ l ∈ lss, fits1 l = true := by
    unfold fits2 at hf
    simp only [Bool.and_eq_true, List.all_eq_true] at hf
    exact hf.2
  obtain ⟨i0, hi0, hz0, hz1, hz2⟩ := info_parts string_info
  have hlow := specLower t (by omega)
  have HR := hide hr
  have HFa := hide hfa
  have HAt := hide hat
  have HT := hide hT
  have H := hide h
  have HLow := hide hlow
  have hpos : 1 ≤ w.heap.size := hT.1
  have hsz : (strOf t).size = t.length := strOf_size t
  have HL : Hid (t.length ≤ 2147483647) := by show t.length ≤ _; omega
  clear hr hfa hat hT h hlow hf ht
  go_enter Tryd.func6, Tryd.ntmps6
  go_wp2_with fail
  refine H.out.1.mono ?_
  rintro e w' ⟨rfl, rfl⟩
  go_wp2_with fail
  refine (H.out.2 HL.out).mono ?_
  rintro e w' ⟨rfl, rfl⟩
  have hw1 : Below w.heap.size w (w.alloc (.cells #[.string (strOf t)] 9)) := (Below.refl _ _).alloc (Nat.le_refl _) _
  have hs1 : (w.alloc (.cells #[.string (strOf t)] 9)).heap.size = w.heap.size + 1 := World.size_alloc _ _
  have HW1 := hide hw1
  have HS1 := hide hs1
  clear hw1 hs1 H
  generalize w.alloc (.cells #[.string (strOf t)] 9) = w1 at *
  have h00 : (w1.alloc (.cells #[] 9)).ownsRow w1.heap.size 9 1 (.slice (some ⟨w1.heap.size, 0, none⟩) 0 0) ((lss.take 0).map (lineL 1)).length (sv ((lss.take 0).map (lineL 1))) := own_empty w1 9 (Nat.le_refl _) rfl
  have H00 := hide h00
  clear h00
  go_wp2_with fail
  go_loopw [5, 6, 31] (fun hd wt i wr => ∃ (k : Nat), k ≤ lss.length ∧ i = .int .i64 (k : Int) ∧ (∃ bb, wt = .bool bb ∧ Hid (bb = anyHit t (lss.take k))) ∧ Hid (wr.ownsRow w1.heap.size 9 1 hd ((lss.take k).map (lineL 1)).length (sv ((lss.take k).map (lineL 1)))) ∧ (∃ ad n c, hd = .slice (some ad) n c) ∧ Hid ((lss.take k).all lineOk = true) ∧ Hid (Below w1.heap.size w1 wr))
    (fun _ _ i _ => lss.length - (intOf i).toNat)
  case atStart => exact ⟨0, Nat.zero_le _, rfl, ⟨_, rfl, hide rfl⟩, H00, ⟨_, _, _, rfl⟩, hide rfl, hide ((Below.refl _ _).alloc (Nat.le_refl _) _)⟩
  case round =>
    obtain ⟨k, hk, rfl, ⟨bb, rfl, hbb⟩, hown, hshape, hoks, hbel⟩ := hrel
    obtain ⟨wo, hwo⟩ : ∃ wo, wo = wr := ⟨wr, rfl⟩
    subst hwo
    have hbw : Below w.heap.size w wo := HW1.out.trans (hbel.out.mono (by have := HS1.out; omega))
    have HBw := hide hbw
    have hszr := hbw.size
    have hszr1 := hbel.out.size
    clear hbw
    by_cases hlt : k < lss.length
    · obtain ⟨g, o, A', c', hA, hg, hc1, hr1⟩ := (HR.out.keep HBw.out).at k hlt
      cases hA
      have hfk := HFa.out lss[k] (List.getElem_mem hlt)
      have kat := areTokens A' c' lss[k] wo (hr1.more hszr) hfk
      have KAt := hide kat
      have HR1 := hide hr1
      have htake := anyHit_take t lss k hlt
      have hlinetk : (lss.take (k + 1)).map (lineL 1) = (lss.take k).map (lineL 1) ++ [lineL 1 lss[k]] := by rw [take_snoc lss k hlt, List.map_append]; rfl
      have hoksn : lineOk lss[k] = true → (lss.take (k + 1)).all lineOk = true := fun h => all_snoc hlt hoks.out h
      have HTake := hide htake
      have HLine := hide hlinetk
      have HOks := hide hoksn
      have hmlen : ((lss.take k).map (lineL 1)).length = k := by rw [List.length_map, List.length_take]; omega
      have hnE : fits1 lss[k] = true → lss[k].length ≤ 2147483647 := by intro h; unfold fits1 at h; simp at h; exact h.1
      have hnn := hnE hfk
      clear kat hr1 htake hlinetk hoksn hoks hfk hnE
      generalize lss[k] = ls at *
      generalize hwant : anyHit t (lss.take k) = want0 at *
      generalize hhd : (lss.take k).map (lineL 1) = hds at *
      cases hat : areTok ls with
      | false =>
        have HF := hide hat
        clear hat
        go_wp2_with fail
        refine KAt.out.mono ?_
        rintro e w' ⟨rfl, rfl⟩
        rw [HF.out]
        go_wp2_with fail
        go_ret
        exact ⟨rfl, HBw.out⟩
      | true =>
        have HF := hide hat
        clear hat
        obtain ⟨hl1, hl2⟩ := areTok_parts HF.out
        have hl30 : ∀ s ∈ ls, s.length ≤ 30 := fun s hs => (okTok_parts (hl1 s hs)).2.2
        have HL1 := hide hl1
        have HL30 := hide hl30
        clear hl1 hl30
        by_cases hz : ls.length = 0
        · have hz2' : ((ls.length : Int) == 0) = true := by rw [hz]; rfl
          have HZ := hide hz
          clear hz
          generalize hln : ls.length = n at *
          go_wp2_with fail
          refine KAt.out.mono ?_
          rintro e w' ⟨rfl, rfl⟩
          rw [HF.out]
          go_wp2_with fail
          go_ret
          exact ⟨rfl, HBw.out⟩
        · have hnz : ((ls.length : Int) == 0) = false := beq_eq_false_iff_ne.2 (by omega)
          have hok : lineOk ls = true := by unfold lineOk; rw [HF.out, decide_eq_true (by omega : 1 ≤ ls.length)]; rfl
          have HOK := hide hok
          clear hok
          go_wp2_with fail
          refine KAt.out.mono ?_
          rintro e w' ⟨rfl, rfl⟩
          rw [HF.out]
          go_wp2_with fail
          have hlineC := fun (w' : World) (B : Nat) (h : Rd w' B A' (sv ls)) => specLine A' c' ls 1 (by omega) w' B h hl2 HL30.out
          have HLineC := hide hlineC
          clear hlineC
          go_loopw [6, 45] (fun wt i wi => ∃ (j : Nat), j ≤ ls.length ∧ i = .int .i64 (j : Int) ∧ (∃ bi, wt = .bool bi ∧ Hid (bi = (want0 || hit t (ls.take j)))) ∧ Hid (Below wo.heap.size wo wi)) (fun _ i _ => ls.length - (intOf i).toNat)
          case atStart => exact ⟨0, Nat.zero_le _, rfl, ⟨_, rfl, hide (by rw [hbb.out, List.take_zero]; simp [hit])⟩, hide (Below.refl _ _)⟩
          case round =>
            obtain ⟨j, hj, rfl, ⟨bi, rfl, hbi⟩, hbin⟩ := hrel
            by_cases hlj : j < ls.length
            · obtain ⟨g2, o2, hA2, hg2, hc2⟩ := HR1.out (by rw [sv_length]; omega)
              subst hA2
              have hc3 : wr.cell? ⟨g2, o2 + j, none⟩ = some (.string (strOf ls[j])) := by rw [hbin.out.cell (by show g2 < _; omega)]; exact hc2 j _ (sv_get ls j hlj)
              have hs30 := HL30.out ls[j] (List.getElem_mem hlj)
              have hht := hit_take t ls j hlj
              have HHt := hide hht
              have HLs := hide (specLower ls[j] (by omega))
              clear hc2 hht
              generalize ls[j] = sj at *
              cases bi with
              | true =>
                go_wp2_with fail
                go_roundw
                case rel => exact ⟨j + 1, by omega, by go_num, ⟨true, rfl, hide (by rw [HHt.out, ← Bool.or_assoc, ← hbi.out]; rfl)⟩, hbin⟩
                case measure => simp [intOf]; omega
              | false =>
                have hdec : decide (lowL sj = lowL t) = (lowL sj == lowL t) := by
                  by_cases h : lowL sj = lowL t <;> simp [h]
                have HDec := hide hdec
                clear hdec
                go_wp2_with fail
                refine (HLs.out _).mono ?_
                rintro e w2 ⟨rfl, hb2⟩
                have HB2 := hide hb2
                clear hb2
                go_wp2_with fail
                refine (HLow.out _).mono ?_
                rintro e w3 ⟨rfl, hb3⟩
                have HB3 := hide hb3
                clear hb3
                go_wp2_with fail
                go_roundw
                case rel =>
                  refine ⟨j + 1, by omega, by go_num, ⟨_, rfl, hide ?_⟩, hide ?_⟩
                  · rw [HHt.out, ← Bool.or_assoc, ← hbi.out, HDec.out]; rfl
                  · have h1 := hbin.out.trans (HB2.out.mono hbin.out.size)
                    exact h1.trans (HB3.out.mono h1.size)
                case measure => simp [intOf]; omega
            · have hfin : bi = anyHit t (lss.take (k + 1)) := by
                rw [hbi.out, HTake.out, List.take_of_length_le (by omega)]
              have HFin := hide hfin
              have hszi := hbin.out.size
              have hro : Rd wr w.heap.size A' (sv ls) := HR1.out.keep fun p hp => hbin.out.cell (by omega)
              have HRo := hide hro
              have hbwi : Below w1.heap.size w1 wr := hbel.out.trans (hbin.out.mono hszr1)
              have HBwi := hide hbwi
              have hown1 : (wr.alloc (.cells #[.string (strOf (lineL 1 ls))] 9)).ownsRow w1.heap.size 9 1 u5 hds.length (sv hds) := (own_below hown.out hbin.out).alloc _
              have HO1 := hide hown1
              have hcell : Hid (∀ j u, (sv [lineL 1 ls])[j]? = some u → (wr.alloc (.cells #[.string (strOf (lineL 1 ls))] 9)).cell? ((⟨wr.heap.size, 0, none⟩ : Addr).add j) = some u) := cell_one_new wr (.string (strOf (lineL 1 ls))) 9
              clear hfin hro hown1 hbi hbwi
              go_wp2_with fail
              refine (HLineC.out _ _ HRo.out).mono ?_
              rintro e w' ⟨rfl, rfl⟩
              generalize lineL 1 ls = LL at *
              go_wp2_with (at_builtin; refine wpList_app _ rfl (.tmp 58) (.tmp 61) _ rfl w1.heap.size 9 i0 _ 16 Tryd.underlying22 hi0 hz0 hz1 hz2 rfl u5 hds.length (sv hds) rfl HO1.out (wr.heap.size + 1) (some ⟨wr.heap.size, 0, none⟩) 1 1 (sv [LL]) rfl rfl (Rd.of_addr (by simp) hcell.out) (by intro h; cases h) (sv_one _) (by simp only [maxLen]; omega) (by omega) (by simp; omega) ?_; intro v2 w2 hown2 hg2 hat2)
              go_roundw
              case rel =>
                refine ⟨k + 1, by omega, by go_num, ⟨_, rfl, HFin⟩, hide ?_, ?_, hide (HOks.out HOK.out), hide ?_⟩
                · rw [HLine.out, sv_append, List.length_append]; exact hown2.out
                · obtain ⟨g3, cap3, hv3, _⟩ := hown2.out.form (by omega)
                  exact ⟨_, _, _, hv3⟩
                · have h1 := HBwi.out.alloc (by have := HBwi.out.size; omega) (.cells #[.string (strOf LL)] 9)
                  have h2 := (Fr.of_below (S := fun k => w1.heap.size ≤ k) h1 (fun _ h => h)).grown hg2.out (fun k hk _ => (hown.out.lt k hk).1)
                  exact h2.below (fun i hi h => by omega)
              case measure => simp [intOf]; omega
    · have hkx : lss.take k = lss := List.take_of_length_le (by omega)
      have hok2 := hoks.out
      rw [hkx] at hown hok2 hbb
      obtain ⟨ad, n0, c0, rfl⟩ := hshape
      obtain ⟨A2, c2, hv, _, _, hrd⟩ := own_shape hown.out
      injection hv with h1 h2 h3
      subst h1 h2 h3
      have hlok : ∀ l ∈ lss, areTok l = true ∧ l ≠ [] := by
        intro l hl
        have h := List.all_eq_true.1 hok2 l hl
        unfold lineOk at h
        simp only [Bool.and_eq_true, decide_eq_true_eq] at h
        refine ⟨h.1, fun e => ?_⟩
        have := h.2
        rw [e] at this
        simp at this
      have kc := fun name => implContains ad c0 name 1 lss t wo (by omega) (by omega) hrd hlok HAt.out (HT.out.below HBw.out)
      have k2 := fun name w' (hT : Tok w') => implContains ⟨w'.heap.size, 0, none⟩ 1 name 0 [[[97]]] [65] (w'.alloc (.cells #[.string { data := #[97] }] 9)) (by simp) (by omega)
        (Rd.of_addr (by simp) (cell_one_new w' (.string { data := #[97] }) 9)) (by decide) (by intro x hx; simp at hx; subst hx; decide) (hT.below ((Below.refl _ _).alloc (Nat.le_refl _) _))
      have hA : anyHit [65] [[[97]]] = true := by decide
      rw [hA] at k2
      have hml : (lss.map (lineL 1)).length = lss.length := by simp
      have KC := hide kc
      have K2 := hide k2
      have HML := hide hml
      clear kc k2 hA hlok hrd hown hok2 hoks hml
      generalize hnn : (lss.map (lineL 1)).length = nn at *
      have hn2 : nn = lss.length := HML.out
      subst hn2
      rw [← hbb.out] at KC
      go_wp2_with fail
      refine (KC.out _).mono ?_
      rintro e w3 ⟨rfl, hb3⟩
      have hbw3 := HBw.out.trans (hb3.mono HBw.out.size)
      have HB3 := hide hbw3
      clear hb3 hbw3
      go_wp2_with fail
      refine (K2.out _ w3 (HT.out.below HB3.out)).mono ?_
      rintro e w4 ⟨rfl, hb4⟩
      have HB4 := hide hb4
      clear hb4
      go_wp2_with fail
      go_ret
      have h1 := HB3.out.alloc HB3.out.size (.cells #[.string { data := #[97] }] 9)
      exact ⟨rfl, h1.trans (HB4.out.mono h1.size)⟩

theorem walk (A : Option Addr) (c : Nat) (lss : List (List (List UInt8))) (s : ByteArray) (w : World) (hr : RowsAt w w.heap.size A lss) (hT : Tok w) :
    Calls Tryd.prog 6 #[.slice A lss.length c, .string s] w fun e w' => e = .returned (.bool true) ∧ Below w.heap.size w w' := by
  obtain ⟨t, rfl, _, _⟩ := eq_strOf s
  have ht : TestsAt (.slice A lss.length c) t w (fits2 lss) (areTok [t]) := by
    refine ⟨zzFits2 A c lss w hr, fun hl => ?_⟩
    exact areTokens (some ⟨w.heap.size, 0, none⟩) 1 [t] _ (Rd.of_addr (by simp) (cell_one_new w (.string (strOf t)) 9)) (by unfold fits1; simp; omega)
  cases hf : fits2 lss with
  | false => rw [hf] at ht; exact step_fits A c _ t _ w ht
  | true =>
    rw [hf] at ht
    by_cases hl : 2147483647 < t.length
    · exact step_long A c _ t _ w hl ht
    · by_cases hm : 10 < lss.length
      · exact step_many A c _ t _ w (by omega) hm ht
      · cases ha : areTok [t] with
        | false => rw [ha] at ht; exact step_value A c _ t w (by omega) (by omega) ht
        | true =>
          rw [ha] at ht
          exact step_main A c lss t w hr hf (by omega) ((areTok_parts ha).1 t (by simp)) hT ht

theorem own : ownKnob Tryd.prog.godebug = none := by kernel_rfl
theorem laidOut : laidOutB Tryd.prog = true := by kernel_rfl

theorem contract (H : Type) (enc : TypeId × Value → H) (W : World) (base : Nat) (args : Array Value) (ds gs : List (DataW H)) (before : List MemPlace)
    (hval : ∀ (j : Nat) t v, Tryd.f6.params[j]? = some t → args[j]? = some v → Value.okWide Tryd.prog W .any base t v)
    (hW : DataW.Whole enc Tryd.prog Tryd.f6.params.toList Rows.fnContainsSpec.vars false W args.toList ds gs before) (hT : Tok W) :
    Calls Tryd.prog 6 args W fun e W' => ∃ v, e = .returned v ∧ Rows.fnContainsSpec.post enc Tryd.prog Tryd.f6 false true false false W args v W' := by
  have hW' := hW
  obtain ⟨p, q, hA0, hV, rfl, hfz, hnd⟩ := hW
  have hA : DataW.TrodAll enc Tryd.prog W 0 (fun _ => true) true Tryd.f6.params.toList args.toList ds p := hA0
  rw [Tryd.params6] at hA hval
  obtain ⟨v0, vs0, d0, ds0, p0, q0, hargs, rfl, rfl, h0, r0⟩ := trodAll_cons hA
  obtain ⟨v1, vs1, d1, ds1, p1, q1, rfl, rfl, rfl, h1, r1⟩ := trodAll_cons r0
  obtain ⟨rfl, rfl, rfl⟩ := trodAll_nil r1
  obtain rfl : args = #[v0, v1] := by cases args; simp_all
  obtain ⟨_, _, _, _, dg, _, rfl, _, _, _, _, _⟩ := trodVars_one hV
  obtain ⟨A, c, lss, rfl, hr⟩ := open_rows Tryd.underlying33 Tryd.underlying22 Tryd.underlying9 (by kernel_rfl) (by kernel_rfl) (hval 0 33 v0 rfl rfl) h0
  obtain ⟨t, rfl, rfl, rfl, _⟩ := open_string Tryd.underlying9 (hval 1 9 v1 rfl rfl) h1
  refine (walk A c lss t W hr hT).mono fun e W' ⟨he, hb⟩ => ?_
  exact ⟨_, he, law_post laidOut (by kernel_rfl) (by kernel_rfl) rfl Tryd.underlying4 hW' rfl hb⟩

/-- A datum's cells, to the depth of a table of pairs. -/
def flat1 : DataW Unit → List Value
  | .lit l => [l.value]
  | _ => []
def flat2 : DataW Unit → List Value
  | .lit l => [l.value]
  | .agg ps => ps.flatMap flat1
  | _ => []
def flat3 : DataW Unit → List Value
  | .agg ps => ps.flatMap flat2
  | _ => []
/-- A world for the witness: the settled one, the tables holding what is laid. -/
noncomputable def laidWorld (os : Os) : World :=
  { World.holding Tryd.prog os ⟨#[], #[], []⟩ with heap := ((((World.holding Tryd.prog os ⟨#[], #[], []⟩).heap.modify 1 fun
      | .cells _ t frozen => .cells (flat3 Rows.laid_unicode_utf8_first).toArray t frozen
      | o => o).modify 2 fun
      | .cells _ t frozen => .cells (flat3 (Rows.laid_unicode_utf8_acceptRanges : DataW Unit)).toArray t frozen
      | o => o).modify 0 fun
      | .cells _ t frozen => .cells (flat3 (Rows.laid_loop_example_pub_g03069_pub_ws_isTokenOctet : DataW Unit)).toArray t frozen
      | o => o) }
theorem laid_met (os : Os) : laidMet Tryd.prog Rows.fnContainsRow.laid ((laidWorld os).forCall (fun _ _ => 0) ⟨#[], #[.slice none 0 0, .string .empty], []⟩).memory :=
  laidMet_of_run' 8 (by kernel_rfl) (by kernel_rfl)
theorem reads (os : Os) {H : Type} (enc : TypeId × Value → H) : ∃ places, DataW.whole enc Tryd.prog ((laidWorld os).forCall (fun _ _ => 0) ⟨#[], #[.slice none 0 0, .string .empty], []⟩).memory Tryd.f6.params.toList Rows.fnContainsSpec.vars false #[Value.slice none 0 0, Value.string .empty].toList 8 = some ([.nil, .lit (.string [])], [Rows.laid_loop_example_pub_g03069_pub_ws_isTokenOctet], places) :=
  ⟨MemPlace.row ⟨0, 0, none⟩ 256, by kernel_rfl⟩

set_option maxRecDepth 100000 in
theorem lifted (os : Os) (started : os.Started) (H : Type) (enc : TypeId × Value → H) (F : Stop.Interp) :
    ReturnsInHanded {} Tryd.checked os 6 .any ((OpenSpec.ofChange Rows.fnContainsSpec).preRow enc Tryd.prog Tryd.f6 Rows.fnContainsRow.domain false Rows.fnContainsRow.laid) (((OpenSpec.ofChange Rows.fnContainsSpec).at F).post enc Tryd.prog Tryd.f6 false true false false) := by
  obtain ⟨places, hx⟩ := reads os enc
  refine returnsInHanded_of_row (C := Tryd.checked) (s := OpenSpec.ofChange Rows.fnContainsSpec) own started (by kernel_rfl) Tryd.func6
    (witness_row_at (enc := enc) (C := Tryd.checked) false (laidWorld os) #[.slice none 0 0, .string .empty] rfl (by kernel_rfl) (by kernel_rfl) (by kernel_rfl)
      (OpenSpec.preRow_of_cond 8 hx (by kernel_rfl) (fun k hk => by cases hk) (by kernel_rfl) (laid_met os))) ?_
  intro W base args ds gs before hval hW _ _ _ hL _ _
  exact contract H enc W base args ds gs before hval hW (tok_of_laid (l := Rows.fnContainsRow.laid) hL (.tail _ (.head _)))

theorem said : Rows.FnContainsSaid :=
  OpenClaim.holds_of_cond 6 Tryd.f6 rfl rfl rfl rfl rfl rfl rfl ⟨rfl, rfl, rfl, rfl, rfl⟩ rfl rfl rfl rfl rfl (by kernel_rfl) Tryd.func6 (by kernel_rfl)
    (of_decide_eq_true (by kernel_rfl)) (by unfold Func.isWrapper; first | (rw [if_pos (by decide +kernel)]; kernel_rfl) | (rw [if_neg (by decide +kernel)]; exact ⟨rfl, rfl⟩))
    (fun os started H enc _ F => by rw [OpenClaim.pre_eq_preRow]; exact lifted os started H enc F)

theorem plain (f : FuncId) (fn : Func) (hf : Tryd.pinned.checked.prog.funcNamed "loop.example/pub-g03069/laws.FnContains" = some f) (hfn : Tryd.pinned.checked.prog.funcs[f]? = some fn) :
    false = Tryd.pinned.checked.prog.looks [] ∧ ∀ (j : Nat) t, fn.params[j]? = some t → Tryd.pinned.checked.prog.wantsStandIn t = false := by
  obtain rfl : f = 6 := Option.some.inj ((show Tryd.prog.funcNamed "loop.example/pub-g03069/laws.FnContains" = some 6 by kernel_rfl).symm.trans hf) |>.symm
  obtain rfl : fn = Tryd.f6 := (Option.some.inj (Tryd.func6.symm.trans hfn)).symm
  refine ⟨by kernel_rfl, fun j t ht => ?_⟩
  have hall : Tryd.f6.params.all (fun t => !Tryd.prog.wantsStandIn t) = true := by kernel_rfl
  have := Array.all_eq_true.1 hall
  obtain ⟨hj, rfl⟩ := Array.getElem?_eq_some_iff.1 ht
  have h2 := this j hj
  simp only [Bool.not_eq_true'] at h2
  exact h2

theorem card : Rows.FnContainsCardSaid :=
  Claim7.holds_tied_plain_at .later [] _ _ _ _ said (fun _ h => by cases h) (by kernel_rfl) (fun _ h => by cases h) fnContains_row_tie rfl ⟨rfl, rfl⟩ (by kernel_rfl) rfl plain (by kernel_rfl)
end Go.Proofs.YtcmfbbldojhbeaaDoor.fnContains
namespace Go.Proofs.YtcmfbbldojhbeaaDoor
theorem fnContains_card : Rows.FnContainsCardSaid := fnContains.card
#print axioms fnContains_card
end Go.Proofs.YtcmfbbldojhbeaaDoor
