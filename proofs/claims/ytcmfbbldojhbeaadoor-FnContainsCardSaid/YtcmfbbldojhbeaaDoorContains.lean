/- slices.Clone of texts; impl.Contains. -/
import Derived.Test.YtcmfbbldojhbeaaDoorHeader
namespace Go.Proofs.YtcmfbbldojhbeaaDoor
open Go.ChangeShapes Go.WideShapes Go.ChangeAt Go.RowKit

set_option maxHeartbeats 1000000 in
theorem cloneTexts (ad : Addr) (c : Nat) (xs : List (List UInt8)) (w : World) (hn : xs.length ≤ 1000000) (hr : Rd w w.heap.size (some ad) (sv xs)) :
    Calls Tryd.prog 23 #[.slice (some ad) xs.length c] w fun e w' => ∃ v, e = .returned v ∧ w'.ownsRow w.heap.size 9 1 v xs.length (sv xs) ∧ Below w.heap.size w w' := by
  have hnil := fun w => Lib.run_eql_slice_nil (P := Tryd.prog) w 22 9 (some ad) xs.length c 0 0 Tryd.underlying22
  obtain ⟨i0, hi0, hz0, hz1, hz2⟩ := info_parts string_info
  have HR := hide hr
  clear hr
  go_enter Tryd.func23, Tryd.ntmps23
  go_wp2_with (at_builtin; refine wpList_app _ rfl (.tmp 5) (.tmp 6) _ rfl w.heap.size 9 i0 _ 16 Tryd.underlying22 hi0 hz0 hz1 hz2 rfl (.slice (some ⟨w.heap.size, 0, none⟩) 0 0) 0 [] rfl (World.ownsRow_lit w #[] 0 (Nat.le_refl _) (by simp [maxLen]) rfl) w.heap.size (some ad) xs.length c (sv xs) rfl (sv_length xs) (HR.out.below ((Below.refl _ _).alloc (Nat.le_refl _) _)) (by intro h; cases h) (sv_one xs) (by simp only [maxLen]; omega) (by omega) (by simp) ?_; intro v1 w1 hown1 hg1 hat1)
  go_ret
  refine ⟨v1, rfl, by simpa using hown1.out, ?_⟩
  exact ((Below.refl _ _).alloc (Nat.le_refl _) _).grown hg1.out (by simp) (by simp [Value.ownBlock])

set_option maxHeartbeats 4000000 in
theorem implContains (ad : Addr) (c : Nat) (name : ByteArray) (b : Nat) (lss : List (List (List UInt8))) (v : List UInt8) (w : World)
    (h10 : lss.length ≤ 20) (hb : b ≤ 5) (hr : Rd w w.heap.size (some ad) (sv (lss.map (lineL b)))) (hall : ∀ l ∈ lss, areTok l = true ∧ l ≠ []) (hv : Ascii v) (hT : Tok w) :
    Calls Tryd.prog 17 #[.slice (some ad) lss.length c, .string name, .string (strOf v)] w fun e w' => e = .returned (.bool (anyHit v lss)) ∧ Below w.heap.size w w' := by
  have hlen : (lss.map (lineL b)).length = lss.length := by simp
  have hrs : Rd (w.alloc (.map #[] 0)) (w.alloc (.map #[] 0)).heap.size (some ad) (sv (lss.map (lineL b))) := (hr.below ((Below.refl _ _).alloc (Nat.le_refl _) _)).more (by simp)
  have hcl := cloneTexts ad c (lss.map (lineL b)) (w.alloc (.map #[] 0)) (by rw [hlen]; omega) hrs
  rw [hlen] at hcl
  have hmapOld : (w.alloc (.map #[] 0)).heap[w.heap.size]? = some (.map #[] 0) := heap_alloc_new w _
  have hmk := run_makeMap_plain (P := Tryd.prog) w 40
  have hupd : ∀ (u : Value) (w1 : World), Below (w.alloc (.map #[] 0)).heap.size (w.alloc (.map #[] 0)) w1 →
      ∃ w2, (Instr.mapUpdate 40 (.map (some w.heap.size)) (.string name) u).run Tryd.prog w1 = .ok () w2 ∧ w2.heap[w.heap.size]? = some (.map #[{ key := .string name, val := u, born := 0 }] 1) ∧ Fr (fun i => i = w.heap.size) w1 w2 := by
    intro u w1 hb1
    have h0 : w1.heap[w.heap.size]? = some (.map #[] 0) := (hb1.block _ (by simp)).trans hmapOld
    refine ⟨_, run_mapUpdate_first w1 40 9 22 w.heap.size 0 name u Tryd.underlying40 Tryd.underlying9 h0, ?_, ?_⟩
    · exact (MapKept.heap_set h0).1
    · exact ⟨rfl, rfl, rfl, by simp, fun k _ hk => (MapKept.heap_set h0).2 k hk⟩
  have HU := hide hupd
  have HC := hide hcl
  have HR := hide hr
  have HT := hide hT
  have HAll := hide hall
  have HV := hide hv
  have hlens : ∀ l ∈ lss, (lineL b l).length ≤ 4096 := by
    intro l hl
    have h := areTok_parts (hall l hl).1
    have h2 := lineL_length b hb l (fun s hs => (okTok_parts (h.1 s hs)).2.2)
    omega
  have HLens := hide hlens
  clear hupd hcl hr hT hall hv hlens hrs hmapOld hlen
  go_enter Tryd.func17, Tryd.ntmps17
  go_wp2_with fail
  go_loop [11] (fun i => ∃ k : Nat, k ≤ lss.length ∧ i = .int .i64 (k : Int)) (fun i => lss.length - (intOf i).toNat)
  case atStart => exact ⟨0, Nat.zero_le _, rfl⟩
  case round =>
    obtain ⟨k, hk, rfl⟩ := hrel
    by_cases hlt : k < lss.length
    · obtain ⟨g, o, hA, hg, hc⟩ := HR.out (by rw [sv_length, List.length_map]; omega)
      cases hA
      have hget : (sv (lss.map (lineL b)))[k]? = some (.string (strOf (lineL b lss[k]))) := by
        rw [sv_get _ _ (by rw [List.length_map]; exact hlt), List.getElem_map]
      have hc1 : w.cell? ⟨g, o + k, none⟩ = some (.string (strOf (lineL b lss[k]))) := hc k _ hget
      have hl := HLens.out lss[k] (List.getElem_mem hlt)
      have hsz : (strOf (lineL b lss[k])).size = (lineL b lss[k]).length := strOf_size _
      clear hc hget
      generalize lineL b lss[k] = L at *
      go_wp2_with fail
      go_round
      case rel => exact ⟨k + 1, by omega, by go_num⟩
      case measure => simp [intOf]; omega
    · go_wp2_with fail
      refine HC.out.mono ?_
      rintro e w1 ⟨u, rfl, hown, hb1⟩
      obtain ⟨w2, hup, hm2, hf2⟩ := HU.out u w1 hb1
      obtain ⟨A1, c1, rfl, _, _, hrd1⟩ := own_shape hown
      have hsz1 := hb1.size
      simp only [World.size_alloc] at hsz1
      have hbel : Below w.heap.size w w2 := by
        have h1 := (Fr.of_below (S := fun k => w.heap.size ≤ k) (((Below.refl w.heap.size w).alloc (Nat.le_refl _) (.map #[] 0)).trans (hb1.mono (by simp))) (fun _ h => h)).then_ hf2 (fun i hi e => by omega)
        exact h1.below (fun i hi h => by omega)
      have hr2 : Rd w2 w2.heap.size A1 (sv (lss.map (lineL b))) := by
        intro hpos
        obtain ⟨g, o, rfl, hg, hc⟩ := hrd1 hpos
        have hgne : ¬ g = w.heap.size := by
          have hg0 := (hown.lt g rfl).1
          simp only [World.size_alloc] at hg0
          omega
        exact ⟨g, o, rfl, Nat.lt_of_lt_of_le hg hf2.size, fun j u hu => (hf2.cell (p := ⟨g, o + j, none⟩) hg hgne).trans (hc j u hu)⟩
      have ktl := tokenList w.heap.size lss.length c1 A1 name b lss v w2 1 0 rfl h10 hb hm2 hr2 HAll.out HV.out (HT.out.below hbel)
      have KTL := hide ktl
      have HBel := hide hbel
      clear ktl hbel hr2 hrd1 hown hb1 hm2 hf2
      go_wp2_with (first
        | (go_at_call 22; go_in)
        | (go_at_call 28; refine KTL.out.mono ?_; rintro e w3 ⟨rfl, hb3⟩; have HB3 := hide hb3; clear hb3))
      go_ret
      exact ⟨rfl, HBel.out.trans (HB3.out.mono HBel.out.size)⟩
end Go.Proofs.YtcmfbbldojhbeaaDoor
