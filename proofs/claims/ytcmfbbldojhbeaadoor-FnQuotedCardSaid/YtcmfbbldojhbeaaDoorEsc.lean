/- spec.Escaped: a stroke ahead of each quote and stroke. strings.HasPrefix for a quote. -/
import Derived.Test.YtcmfbbldojhbeaaDoorTok
namespace Go.Proofs.YtcmfbbldojhbeaaDoor
open Go.ChangeShapes Go.WideShapes Go.ChangeAt Go.RowKit

/-- A quote or a stroke. -/
def specN (m : Nat) : Bool := decide (m = 34) || decide (m = 92)
def esc : List UInt8 → List UInt8
  | [] => []
  | c :: r => if specN c.toNat then 92 :: c :: esc r else c :: esc r
theorem esc_cons_spec (c : UInt8) (r : List UInt8) (h : specN c.toNat = true) : esc (c :: r) = 92 :: c :: esc r := by simp [esc, h]
theorem esc_cons_plain (c : UInt8) (r : List UInt8) (h : specN c.toNat = false) : esc (c :: r) = c :: esc r := by simp [esc, h]
theorem esc_append (a b : List UInt8) : esc (a ++ b) = esc a ++ esc b := by
  induction a with
  | nil => rfl
  | cons c r ih =>
    cases h : specN c.toNat with
    | true => rw [List.cons_append, esc_cons_spec _ _ h, esc_cons_spec _ _ h, ih]; rfl
    | false => rw [List.cons_append, esc_cons_plain _ _ h, esc_cons_plain _ _ h, ih]; rfl
theorem esc_length (a : List UInt8) : a.length ≤ (esc a).length ∧ (esc a).length ≤ 2 * a.length := by
  induction a with
  | nil => simp [esc]
  | cons c r ih =>
    cases h : specN c.toNat with
    | true => rw [esc_cons_spec _ _ h]; simp; omega
    | false => rw [esc_cons_plain _ _ h]; simp; omega
theorem esc_take_spec (xs : List UInt8) (j : Nat) (h : j < xs.length) (hs : specN (xs[j]).toNat = true) : esc (xs.take (j + 1)) = (esc (xs.take j) ++ [92]) ++ [xs[j]] := by
  rw [List.take_succ_eq_append_getElem h, esc_append, esc_cons_spec _ _ hs]; simp [esc]
theorem esc_take_plain (xs : List UInt8) (j : Nat) (h : j < xs.length) (hs : specN (xs[j]).toNat = false) : esc (xs.take (j + 1)) = esc (xs.take j) ++ [xs[j]] := by
  rw [List.take_succ_eq_append_getElem h, esc_append, esc_cons_plain _ _ hs]; simp [esc]
theorem u8_info : (Tryd.prog.info? 5).map (fun i => (i.zero, i.size, i.bytes)) = some (some (.int .u8 0), 1, 1) := by kernel_rfl

set_option maxHeartbeats 8000000 in
theorem specEscaped (xs : List UInt8) (hn : xs.length ≤ 100000) (w : World) :
    Calls Tryd.prog 13 #[.string (strOf xs)] w fun e w' => e = .returned (.string (strOf (esc xs))) ∧ Below w.heap.size w w' := by
  obtain ⟨i0, hi0, hz0, hz1, hz2⟩ := info_parts u8_info
  have h00 : (w.alloc (.cells #[] 5)).ownsRow w.heap.size 5 1 (.slice (some ⟨w.heap.size, 0, none⟩) 0 0) (esc (xs.take 0)).length (bv (esc (xs.take 0))) := own_empty w 5 (Nat.le_refl _) rfl
  have H00 := hide h00
  clear h00
  have hsz : (strOf xs).size = xs.length := strOf_size xs
  go_enter Tryd.func13, Tryd.ntmps13
  go_wp2_with fail
  go_loopw [3, 4] (fun v i wr => ∃ j : Nat, j ≤ xs.length ∧ i = .int .i64 j ∧ Hid (wr.ownsRow w.heap.size 5 1 v (esc (xs.take j)).length (bv (esc (xs.take j)))) ∧ Hid (Below w.heap.size w wr))
    (fun _ i _ => xs.length - (intOf i).toNat)
  case atStart => exact ⟨0, Nat.zero_le _, rfl, H00, hide ((Below.refl _ _).alloc (Nat.le_refl _) _)⟩
  case round =>
    obtain ⟨j, hj, rfl, hown, hbel⟩ := hrel
    have hszr := hbel.out.size
    have hel := (esc_length (xs.take j)).2
    have htl : (xs.take j).length = j := by rw [List.length_take]; omega
    rw [htl] at hel
    by_cases hlt : j < xs.length
    · have hi := run_str_idx (P := Tryd.prog) 9 Tryd.underlying9 xs j hlt
      have hm : (xs[j]).toNat ≤ 255 := by have := (xs[j]).toNat_lt; omega
      cases hs : specN (xs[j]).toNat with
      | true =>
        have hsn := esc_take_spec xs j hlt hs
        have HSn := hide hsn
        clear hsn
        have hcase : (xs[j]).toNat = 34 ∨ (xs[j]).toNat = 92 := by simpa [specN] using hs
        clear hs
        generalize xs[j] = x at *
        generalize hes : esc (xs.take j) = E at *
        have hOA : Hid (∀ (v1 : Value) (w1 : World), w1.ownsRow w.heap.size 5 1 v1 (E.length + 1) (bv E ++ bv [92]) → (w1.alloc (.cells #[.int .u8 (x.toNat : Int)] 5)).ownsRow w.heap.size 5 1 v1 (E ++ [92]).length (bv (E ++ [92]))) := by
          intro v1 w1 h
          rw [bv_append, List.length_append]
          exact h.alloc _
        have hfin : Hid (∀ (v2 : Value) (w1 w2 : World) (v1 : Value), Below w.heap.size w w1 → w1.ownsRow w.heap.size 5 1 v1 (E.length + 1) (bv E ++ bv [92]) → (w1.alloc (.cells #[.int .u8 (x.toNat : Int)] 5)).grownBy w2 v1.ownBlock → Below w.heap.size w w2) := by
          intro v2 w1 w2 v1 hb ho hg
          exact ((Fr.of_below (S := fun k => w.heap.size ≤ k) (hb.alloc (by have := hb.size; omega) _) (fun _ h => h)).grown hg (fun k hk _ => (ho.lt k hk).1)).below (fun i hi h => by omega)
        have hfin1 : Hid (∀ (w1 : World), (wr.alloc (.cells #[.int .u8 92] 5)).grownBy w1 u3.ownBlock → Below w.heap.size w w1) := by
          intro w1 hg
          exact ((Fr.of_below (S := fun k => w.heap.size ≤ k) (hbel.out.alloc (by omega) _) (fun _ h => h)).grown hg (fun k hk _ => (hown.out.lt k hk).1)).below (fun i hi h => by omega)
        have hcx : Hid (∀ (w1 : World), ∀ j u, (bv [x])[j]? = some u → (w1.alloc (.cells #[.int .u8 (x.toNat : Int)] 5)).cell? ((⟨w1.heap.size, 0, none⟩ : Addr).add j) = some u) := fun w1 => cell_one_new w1 _ _
        generalize hxn : x.toNat = m at *
        rcases hcase with rfl | rfl
        · go_wp2_with (first
            | (at_builtin; refine wpList_app _ rfl (.tmp 22) (.tmp 23) _ rfl w.heap.size 5 i0 _ 1 Tryd.underlying37 hi0 hz0 hz1 hz2 rfl u3 E.length (bv E) rfl (hown.out.alloc _) (wr.heap.size + 1) (some ⟨wr.heap.size, 0, none⟩) 1 1 (bv [92]) rfl rfl (Rd.of_addr (by simp) (cell_one_new _ _ _)) (by intro h; cases h) (bv_one _) (by simp only [maxLen]; omega) (by omega) (by simp; omega) ?_; intro v1 w1 hown1 hg1 hat1)
            | (at_builtin; refine wpList_app _ rfl (.tmp 25) (.tmp 29) _ rfl w.heap.size 5 i0 _ 1 Tryd.underlying37 hi0 hz0 hz1 hz2 rfl v1 (E ++ [92]).length (bv (E ++ [92])) rfl (hOA.out _ _ hown1.out) (w1.heap.size + 1) (some ⟨w1.heap.size, 0, none⟩) 1 1 (bv [x]) rfl rfl (Rd.of_addr (by simp) (hcx.out w1)) (by intro h; cases h) (bv_one _) (by simp only [maxLen, List.length_append, List.length_singleton]; omega) (by simp only [List.length_append, List.length_singleton]; omega) (by have := (hfin1.out _ hg1.out).size; simp; omega) ?_; intro v2 w2 hown2 hg2 hat2))
          go_roundw
          case rel =>
            refine ⟨j + 1, by omega, by go_num, hide ?_, hide ?_⟩
            · rw [HSn.out, bv_append, List.length_append]; exact hown2.out
            · exact hfin.out v2 _ _ _ (hfin1.out _ hg1.out) hown1.out hg2.out
          case measure => simp [intOf]; omega
        · go_wp2_with (first
            | (at_builtin; refine wpList_app _ rfl (.tmp 22) (.tmp 23) _ rfl w.heap.size 5 i0 _ 1 Tryd.underlying37 hi0 hz0 hz1 hz2 rfl u3 E.length (bv E) rfl (hown.out.alloc _) (wr.heap.size + 1) (some ⟨wr.heap.size, 0, none⟩) 1 1 (bv [92]) rfl rfl (Rd.of_addr (by simp) (cell_one_new _ _ _)) (by intro h; cases h) (bv_one _) (by simp only [maxLen]; omega) (by omega) (by simp; omega) ?_; intro v1 w1 hown1 hg1 hat1)
            | (at_builtin; refine wpList_app _ rfl (.tmp 25) (.tmp 29) _ rfl w.heap.size 5 i0 _ 1 Tryd.underlying37 hi0 hz0 hz1 hz2 rfl v1 (E ++ [92]).length (bv (E ++ [92])) rfl (hOA.out _ _ hown1.out) (w1.heap.size + 1) (some ⟨w1.heap.size, 0, none⟩) 1 1 (bv [x]) rfl rfl (Rd.of_addr (by simp) (hcx.out w1)) (by intro h; cases h) (bv_one _) (by simp only [maxLen, List.length_append, List.length_singleton]; omega) (by simp only [List.length_append, List.length_singleton]; omega) (by have := (hfin1.out _ hg1.out).size; simp; omega) ?_; intro v2 w2 hown2 hg2 hat2))
          go_roundw
          case rel =>
            refine ⟨j + 1, by omega, by go_num, hide ?_, hide ?_⟩
            · rw [HSn.out, bv_append, List.length_append]; exact hown2.out
            · exact hfin.out v2 _ _ _ (hfin1.out _ hg1.out) hown1.out hg2.out
          case measure => simp [intOf]; omega
      | false =>
        have hsn := esc_take_plain xs j hlt hs
        have HSn := hide hsn
        clear hsn
        have hcase : ¬ (xs[j]).toNat = 34 ∧ ¬ (xs[j]).toNat = 92 := by simpa [specN] using hs
        clear hs
        generalize xs[j] = x at *
        generalize hes : esc (xs.take j) = E at *
        have hfin1 : Hid (∀ (w1 : World), (wr.alloc (.cells #[.int .u8 (x.toNat : Int)] 5)).grownBy w1 u3.ownBlock → Below w.heap.size w w1) := by
          intro w1 hg
          exact ((Fr.of_below (S := fun k => w.heap.size ≤ k) (hbel.out.alloc (by omega) _) (fun _ h => h)).grown hg (fun k hk _ => (hown.out.lt k hk).1)).below (fun i hi h => by omega)
        have hcx : Hid (∀ (w1 : World), ∀ j u, (bv [x])[j]? = some u → (w1.alloc (.cells #[.int .u8 (x.toNat : Int)] 5)).cell? ((⟨w1.heap.size, 0, none⟩ : Addr).add j) = some u) := fun w1 => cell_one_new w1 _ _
        have n1 : (((x.toNat : Nat) : Int) == 34) = false := beq_eq_false_iff_ne.2 (by omega)
        have n2 : (((x.toNat : Nat) : Int) == 92) = false := beq_eq_false_iff_ne.2 (by omega)
        generalize hxn : x.toNat = m at *
        go_wp2_with (at_builtin; refine wpList_app _ rfl (.tmp 25) (.tmp 29) _ rfl w.heap.size 5 i0 _ 1 Tryd.underlying37 hi0 hz0 hz1 hz2 rfl u3 E.length (bv E) rfl (hown.out.alloc _) (wr.heap.size + 1) (some ⟨wr.heap.size, 0, none⟩) 1 1 (bv [x]) rfl rfl (Rd.of_addr (by simp) (hcx.out wr)) (by intro h; cases h) (bv_one _) (by simp only [maxLen]; omega) (by omega) (by simp; omega) ?_; intro v2 w2 hown2 hg2 hat2)
        go_roundw
        case rel =>
          refine ⟨j + 1, by omega, by go_num, hide ?_, hide ?_⟩
          · rw [HSn.out, bv_append, List.length_append]; exact hown2.out
          · exact hfin1.out _ hg2.out
        case measure => simp [intOf]; omega
    · have hjx : xs.take j = xs := List.take_of_length_le (by omega)
      rw [hjx] at hown
      obtain ⟨A, c, rfl, _, _, hrd⟩ := own_shape hown.out
      have hcb := run_conv (P := Tryd.prog) wr 37 9 5 Tryd.underlying37 Tryd.underlying5 Tryd.underlying9 _ A c (esc xs) hrd (esc xs).length rfl
      clear hrd hjx hown
      go_wp2_with fail
      go_ret
      exact ⟨rfl, hbel.out⟩

theorem hasQuote (xs : List UInt8) (hn : xs.length ≤ 100000) (w : World) :
    Calls Tryd.prog 29 #[.string (strOf (34 :: xs)), .string { data := #[34] }] w fun e w' => e = .returned (.bool true) ∧ w = w' := by
  have hto : ∀ w, (Instr.slice 9 (.string (strOf (34 :: xs))) none (some (.int .i64 1)) none).run Tryd.prog w = .ok (.string { data := #[34] }) w := run_str_to (P := Tryd.prog) 9 Tryd.underlying9 (34 :: xs) 1 (by simp)
  have hsz : (strOf (34 :: xs)).size = xs.length + 1 := by rw [strOf_size]; simp
  generalize strOf (34 :: xs) = s at *
  go_enter Tryd.func29, Tryd.ntmps29
  go_wp2_with (go_at_call 31; go_in)
  go_ret
  exact ⟨rfl, rfl⟩
theorem hasNoQuote (w : World) :
    Calls Tryd.prog 29 #[.string { data := #[97, 32, 98] }, .string { data := #[34] }] w fun e w' => e = .returned (.bool false) ∧ w = w' := by
  have hto : ∀ w, (Instr.slice 9 (.string { data := #[97, 32, 98] }) none (some (.int .i64 1)) none).run Tryd.prog w = .ok (.string { data := #[97] }) w := run_str_to (P := Tryd.prog) 9 Tryd.underlying9 [97, 32, 98] 1 (by simp)
  go_enter Tryd.func29, Tryd.ntmps29
  go_wp2_with (go_at_call 31; go_in)
  go_ret
  exact ⟨rfl, rfl⟩
end Go.Proofs.YtcmfbbldojhbeaaDoor
