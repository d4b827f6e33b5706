/- maskBytes over a slice of the call's own, spec.Masked. -/
import Derived.Test.YtjjahfhnebicjaaDoorMask
import Derived.Test.YtjjahfhnebicjaaDoorClone
namespace Go.Proofs.YtjjahfhnebicjaaDoor
open Go.ChangeShapes Go.WideShapes Go.ChangeAt Go.RowKit

set_option maxHeartbeats 1000000 in
theorem maskBytes_none (K : Array Value) (pos : Nat) (hpos : pos ≤ 3) (A : Option Addr) (c : Nat) (w : World) :
    Calls Tryd.prog 38 #[.agg K, .int .i64 (pos : Int), .slice A 0 c] w fun e w' =>
      e = .returned (.int .i64 (pos : Int)) ∧ w.alloc (.cells K 42) = w' := by
  have ha := and3 pos (by omega)
  have e4 : pos % 4 = pos := by omega
  rw [e4] at ha
  clear e4
  go_enter Tryd.func38, Tryd.ntmps38
  go_wp2
  go_loop [1, 10] (fun p i => p = .int .i64 (pos : Int) ∧ i = .int .i64 0) (fun _ _ => 0)
  case atStart => exact ⟨rfl, rfl⟩
  case round =>
    obtain ⟨rfl, rfl⟩ := hrel
    go_wp2
    go_ret
    exact ⟨rfl, rfl⟩

theorem maskBytes_own (K : Array Value) (k : List UInt8) (hk : IsKey K k) (pos : Nat) (hpos : pos ≤ 3) (base : Nat) (v : Value) (xs : List UInt8) (w : World)
    (hn : xs.length ≤ 2000000000) (h : w.ownsRow base 5 1 v xs.length (bv xs)) :
    Calls Tryd.prog 38 #[.agg K, .int .i64 (pos : Int), v] w fun e w' =>
      e = .returned (.int .i64 (((pos + xs.length) % 4 : Nat) : Int)) ∧ w'.ownsRow base 5 1 v xs.length (bv (maskL k pos xs)) ∧ Fr (fun i => v.ownBlock = some i) w w' := by
  obtain ⟨h1, h2⟩ := h
  rcases h2 with ⟨rfl, h0⟩ | ⟨g, cap, cur, rfl, hb, hg, hnc, hcm, hcs, htake⟩
  · have hx : xs = [] := List.eq_nil_of_length_eq_zero h0
    subst hx
    refine (maskBytes_none K pos hpos none 0 w).mono ?_
    rintro e w' ⟨rfl, rfl⟩
    exact ⟨ret_int (by simp; omega), ⟨by simp [maskL, bv], .inl ⟨rfl, rfl⟩⟩, (Fr.refl _ _).alloc _⟩
  · have hB : Blk w g 5 cur.toList := by unfold Blk; simpa using hg
    have hx : ∀ j u, (bv xs)[j]? = some u → cur.toList[0 + j]? = some u := by
      intro j u hu
      rw [← htake, List.getElem?_take] at hu
      split at hu
      · rw [Nat.zero_add]; exact hu
      · cases hu
    refine (maskBytes_some K k hk pos hpos g 0 cap cur.toList xs w hn hB (by omega) hx).mono ?_
    rintro e w' ⟨rfl, hB', hf⟩
    refine ⟨rfl, ⟨by simp [bv_length, maskL_length], .inr ⟨g, cap, (splice cur.toList 0 (bv (maskL k pos xs))).toArray, rfl, hb, hB', hnc, hcm, ?_, ?_⟩⟩, hf.mono (fun i _ e => by subst e; rfl)⟩
    · rw [List.size_toArray, length_splice _ _ _ (by simp [bv_length, maskL_length, hcs]; omega)]
      simpa using hcs
    · simp [splice, bv_length, maskL_length]

theorem isKey4 (k0 k1 k2 k3 : UInt8) : IsKey #[.int .u8 (k0.toNat : Int), .int .u8 (k1.toNat : Int), .int .u8 (k2.toNat : Int), .int .u8 (k3.toNat : Int)] [k0, k1, k2, k3] := by
  refine ⟨rfl, fun j hj => ?_⟩
  match j, hj with
  | 0, _ => rfl
  | 1, _ => rfl
  | 2, _ => rfl
  | 3, _ => rfl

theorem maskL_snoc (k : List UInt8) (pos : Nat) (xs : List UInt8) (j : Nat) (h : j < xs.length) : maskL k pos (xs.take (j + 1)) = maskL k pos (xs.take j) ++ [xs[j] ^^^ k.getD ((pos + j) % 4) 0] := by
  rw [List.take_succ_eq_append_getElem h, maskL_append, List.length_take, Nat.min_eq_left (Nat.le_of_lt h)]
  rfl

theorem specMasked_nil (K : Array Value) (pos : Nat) (A : Option Addr) (c : Nat) (w : World) :
    Calls Tryd.prog 27 #[.agg K, .int .i64 (pos : Int), .slice A 0 c] w fun e w' =>
      ∃ v, e = .returned v ∧ w'.ownsRow w.heap.size 5 1 v 0 (bv []) ∧ Below w.heap.size w w' := by
  go_enter Tryd.func27, Tryd.ntmps27
  go_wp2_with fail
  go_loop [7, 13] (fun o i => o = .slice (some ⟨w.heap.size + 1, 0, none⟩) 0 0 ∧ i = .int .i64 0) (fun _ _ => 0)
  case atStart => exact ⟨rfl, rfl⟩
  case round =>
    obtain ⟨rfl, rfl⟩ := hrel
    go_wp2_with fail
    go_ret
    refine ⟨_, rfl, own_empty (w.alloc (.cells K 42)) 5 (by simp) (by simp), ?_⟩
    exact ((Below.refl _ _).alloc (Nat.le_refl _) _).alloc (by simp) _

set_option maxHeartbeats 1000000 in
theorem specMasked_some (K : Array Value) (k : List UInt8) (hk : IsKey K k) (pos : Nat) (hpos : pos ≤ 3) (g o : Nat) (c : Nat) (xs : List UInt8) (w : World)
    (hn : xs.length ≤ 2000000000) (hg : g < w.heap.size) (hr : ∀ j u, (bv xs)[j]? = some u → w.cell? ⟨g, o + j, none⟩ = some u) :
    Calls Tryd.prog 27 #[.agg K, .int .i64 (pos : Int), .slice (some ⟨g, o, none⟩) xs.length c] w fun e w' =>
      ∃ v, e = .returned v ∧ w'.ownsRow w.heap.size 5 1 v xs.length (bv (maskL k pos xs)) ∧ Below w.heap.size w w' := by
  have HR := hide hr
  clear hr
  obtain ⟨i0, hi0, hz0, hz1, hz2⟩ := info_parts Tryd.info_u8
  have HK := hide hk
  clear hk
  have h00 : ((w.alloc (.cells K 42)).alloc (.cells #[] 5)).ownsRow (w.heap.size + 1) 5 1 (.slice (some ⟨w.heap.size + 1, 0, none⟩) 0 0) 0 (bv (maskL k pos (xs.take 0))) := by
    exact own_empty (w.alloc (.cells K 42)) 5 (by simp) (by simp)
  have H00 := hide h00
  clear h00
  go_enter Tryd.func27, Tryd.ntmps27
  go_wp2_with fail
  go_loopw [7, 13] (fun v i wr => ∃ j : Nat, j ≤ xs.length ∧ i = .int .i64 j ∧ Hid (wr.ownsRow (w.heap.size + 1) 5 1 v j (bv (maskL k pos (xs.take j)))) ∧ Hid (Below (w.heap.size + 1) (w.alloc (.cells K 42)) wr))
    (fun _ i _ => xs.length - (intOf i).toNat)
  case atStart => exact ⟨0, Nat.zero_le _, rfl, H00, hide ((Below.refl _ _).alloc (by simp) _)⟩
  case round =>
    obtain ⟨j, hj, rfl, hown, hbel⟩ := hrel
    by_cases hlt : j < xs.length
    · have hc1 : wr.cell? ⟨g, o + j, none⟩ = some (.int .u8 ((xs[j]).toNat : Int)) := by
        rw [hbel.out.cell (by simp; omega), World.cell?_alloc_lt _ _ _ hg]
        exact HR.out j _ (bv_get _ _ hlt)
      have hc2 : wr.cell? ⟨w.heap.size, (pos + j) % 4, none⟩ = some (.int .u8 ((k.getD ((pos + j) % 4) 0).toNat : Int)) := by
        rw [hbel.out.cell (by simp), World.cell?_alloc_new]
        exact HK.out.2 _ (by omega)
      have hsnoc := maskL_snoc k pos xs j hlt
      generalize k.getD ((pos + j) % 4) 0 = kb at *
      generalize xs[j] = xb at *
      have hxo := xor_u8 xb kb
      have HSn := hide hsnoc
      clear hsnoc
      have hsz := hbel.out.size
      simp only [World.size_alloc] at hsz
      go_wp2_with (at_builtin; refine wpList_app _ rfl (.tmp 18) (.tmp 27) _ rfl (w.heap.size + 1) 5 i0 _ 1 Tryd.underlying26 hi0 hz0 hz1 hz2 rfl u7 j (bv (maskL k pos (xs.take j))) rfl (hown.out.alloc _) (wr.heap.size + 1) (some ⟨wr.heap.size, 0, none⟩) 1 1 (bv [xb ^^^ kb]) rfl rfl (Rd.of_addr (by simp) (cell_one_new _ _ _)) (by intro h; cases h) (bv_one _) (by simp only [maxLen]; omega) (by omega) (by simp; omega) ?_; intro v1 w1 hown1 hg1 hat1)
      all_goals go_roundw
      case rel =>
        refine ⟨j + 1, by omega, by go_num, hide ?_, hide ?_⟩
        · rw [HSn.out, bv_append]; exact hown1.out
        · exact (hbel.out.alloc (by omega) _).grown hg1.out (by simp; omega) (fun i e => (hown.out.lt i e).1)
      case measure => simp [intOf]; omega
    · have hjx : j = xs.length := by omega
      have HJ := hide hjx
      clear hjx
      go_wp2_with fail
      go_ret
      have hjx := HJ.out
      subst hjx
      refine ⟨_, rfl, own_base (by simpa using hown.out) (by simp), ?_⟩
      exact ((Below.refl _ _).alloc (Nat.le_refl _) _).trans (hbel.out.mono (by simp))
theorem specMasked (k0 k1 k2 k3 : UInt8) (pos : Nat) (hpos : pos ≤ 3) (A : Option Addr) (c : Nat) (xs : List UInt8) (w : World)
    (hn : xs.length ≤ 2000000000) (hr : Rd w w.heap.size A (bv xs)) :
    Calls Tryd.prog 27 #[.agg #[.int .u8 (k0.toNat : Int), .int .u8 (k1.toNat : Int), .int .u8 (k2.toNat : Int), .int .u8 (k3.toNat : Int)], .int .i64 (pos : Int), .slice A xs.length c] w fun e w' =>
      ∃ v, e = .returned v ∧ w'.ownsRow w.heap.size 5 1 v xs.length (bv (maskL [k0, k1, k2, k3] pos xs)) ∧ Below w.heap.size w w' := by
  by_cases h : 0 < (bv xs).length
  · obtain ⟨g, o, rfl, hg, hc⟩ := hr h
    exact specMasked_some _ _ (isKey4 k0 k1 k2 k3) pos hpos g o c xs w hn hg hc
  · have hx : xs = [] := List.eq_nil_of_length_eq_zero (by rw [bv_length] at h; omega)
    subst hx
    exact specMasked_nil _ pos A c w
end Go.Proofs.YtjjahfhnebicjaaDoor
