/- The data of a close message. -/
import Derived.Test.YtjjahfhnebicjaaDoorRows
import Derived.Test.YtjjahfhnebicjaaDoorStr
import Derived.Test.YtjjahfhnebicjaaDoorClone
namespace Go.Proofs.YtjjahfhnebicjaaDoor
open Go.ChangeShapes Go.WideShapes Go.ChangeAt Go.RowKit

/-- A number's two bytes, the greatest first. -/
def be2 (v : Nat) : List UInt8 := [UInt8.ofNat (v / 256), UInt8.ofNat (v % 256)]

theorem be2_hi (v : Nat) (hv : v < 65536) : ((UInt8.ofNat (v / 256)).toNat : Int) = (v : Int) / 256 := by rw [UInt8.toNat_ofNat']; omega
theorem be2_lo (v : Nat) : ((UInt8.ofNat (v % 256)).toNat : Int) = (v : Int) % 256 := by rw [UInt8.toNat_ofNat']; omega
/-- The data of a close message: nothing of the code that tells of none. -/
def closeL (code : Nat) (ys : List UInt8) : List UInt8 := if code = 1005 then [] else be2 code ++ ys
theorem set_two {α : Type} (cs : List α) (o : Nat) (a b : α) (h : o + 2 ≤ cs.length) : (cs.set o a).set (o + 1) b = splice cs o [a, b] := by
  have h0 : splice cs o [cs[o], cs[o + 1]] = cs := splice_self _ _ _ (fun j u hu => by
    match j, hu with
    | 0, hu => rw [← hu]; simp
    | 1, hu => rw [← hu]; simp) (by omega)
  have h1 := splice_set cs [cs[o], cs[o + 1]] o 0 a (by simp) (by omega)
  rw [h0, Nat.add_zero] at h1
  rw [h1]
  exact splice_set cs [a, cs[o + 1]] o 1 b (by simp) (by omega)

set_option maxHeartbeats 1000000 in
theorem putUint16 (g o n c v : Nat) (hv : v < 65536) (hn : 2 ≤ n) (cs : List Value) (w : World) (hB : Blk w g 5 cs) (hf : o + 2 ≤ cs.length) :
    Calls Tryd.prog 40 #[.agg #[], .slice (some ⟨g, o, none⟩) n c, .int .u16 (v : Int)] w fun e w' =>
      e = .returned (.tuple #[]) ∧ Blk w' g 5 (splice cs o (bv (be2 v))) ∧ Fr (fun i => i = g) w w' := by
  have hglt := hB.lt
  obtain ⟨x0, hx0⟩ : ∃ x0, cs[o]? = some x0 := ⟨_, List.getElem?_eq_getElem (by omega)⟩
  obtain ⟨x1, hx1⟩ : ∃ x1, cs[o + 1]? = some x1 := ⟨_, List.getElem?_eq_getElem (by omega)⟩
  have hc0 : w.cell? ⟨g, o, none⟩ = some x0 := by rw [hB.cell]; exact hx0
  have hc1 : w.cell? ⟨g, o + 1, none⟩ = some x1 := by rw [hB.cell]; exact hx1
  have hz0 := hB.frozen o
  have hz1 := hB.frozen (o + 1)
  have HB := hide hB
  clear hB hx0 hx1
  go_enter Tryd.func40, Tryd.ntmps40
  go_wp2
  go_end0
  refine ⟨rfl, ?_, ?_⟩
  · have h1 := (((HB.out.set o (.int .u8 ((v : Int) / 256))).set (o + 1) (.int .u8 ((v : Int) % 256))).alloc (.cells #[] 89))
    rw [set_two cs o _ _ hf] at h1
    have e1 : bv (be2 v) = [.int .u8 ((v : Int) / 256), .int .u8 ((v : Int) % 256)] := by
      have e2 : ((UInt8.ofNat (v / 256)).toNat : Int) = (v : Int) / 256 := by rw [UInt8.toNat_ofNat']; omega
      have e3 : ((UInt8.ofNat (v % 256)).toNat : Int) = (v : Int) % 256 := by rw [UInt8.toNat_ofNat']; omega
      simp only [be2, bv, List.map_cons, List.map_nil, e2, e3]
    rw [e1]
    exact h1
  · have hf0 : Fr (fun i => i = g) w w := Fr.refl _ _
    exact ((hf0.setCell (p := ⟨g, o, none⟩) (fun _ => rfl) _).setCell (p := ⟨g, o + 1, none⟩) (fun _ => rfl) _).alloc _

set_option maxHeartbeats 1000000 in
theorem fixed_2 (v : Nat) (hv : v < 65536) (w : World) :
    Calls Tryd.prog 26 #[.int .i64 (v : Int), .int .i64 2] w fun e w' => ∃ r, e = .returned r ∧ w'.ownsRow w.heap.size 5 1 r 2 (bv (be2 v)) ∧ Below w.heap.size w w' := by
  obtain ⟨i0, hi0, hz0, hz1, hz2⟩ := info_parts Tryd.info_u8
  have h00 : (w.alloc (.cells #[] 5)).ownsRow w.heap.size 5 1 (.slice (some ⟨w.heap.size, 0, none⟩) 0 0) 0 (bv ((be2 v).take 0)) := own_empty w 5 (Nat.le_refl _) rfl
  have H00 := hide h00
  clear h00
  go_enter Tryd.func26, Tryd.ntmps26
  go_wp2_with fail
  go_loopw [5, 6] (fun r i wr => ∃ j : Nat, j ≤ 2 ∧ i = .int .i64 (1 - (j : Int)) ∧ Hid (wr.ownsRow w.heap.size 5 1 r j (bv ((be2 v).take j))) ∧ Hid (Below w.heap.size w wr))
    (fun _ i _ => (intOf i + 1).toNat)
  case atStart => exact ⟨0, by omega, rfl, H00, hide ((Below.refl _ _).alloc (Nat.le_refl _) _)⟩
  case round =>
    obtain ⟨j, hj, rfl, hown, hbel⟩ := hrel
    have hsz := hbel.out.size
    have hc : j = 0 ∨ j = 1 ∨ j = 2 := by omega
    rcases hc with rfl | rfl | rfl
    · go_wp2_with (at_builtin; refine wpList_app _ rfl (.tmp 14) (.tmp 20) _ rfl w.heap.size 5 i0 _ 1 Tryd.underlying26 hi0 hz0 hz1 hz2 rfl u5 0 (bv ((be2 v).take 0)) rfl (hown.out.alloc _) (wr.heap.size + 1) (some ⟨wr.heap.size, 0, none⟩) 1 1 _ rfl rfl (Rd.of_addr (by simp) (cell_one_new _ _ _)) (by intro h; cases h) (by intro u hu; simp at hu; subst hu; rfl) (by simp only [maxLen]; omega) (by omega) (by simp; omega) ?_; intro v1 w1 hown1 hg1 hat1)
      go_roundw
      case rel =>
        refine ⟨1, by omega, by go_num, hide ?_, hide ?_⟩
        · have := hown1.out
          rw [show Value.int .u8 ((v : Int) / 256) = .int .u8 ((UInt8.ofNat (v / 256)).toNat : Int) by rw [be2_hi v hv]] at this
          exact this
        · exact (hbel.out.alloc (by omega) _).grown hg1.out (by simp; omega) (fun i e => (hown.out.lt i e).1)
      case measure => simp [intOf]
    · go_wp2_with (at_builtin; refine wpList_app _ rfl (.tmp 14) (.tmp 20) _ rfl w.heap.size 5 i0 _ 1 Tryd.underlying26 hi0 hz0 hz1 hz2 rfl u5 1 (bv ((be2 v).take 1)) rfl (hown.out.alloc _) (wr.heap.size + 1) (some ⟨wr.heap.size, 0, none⟩) 1 1 _ rfl rfl (Rd.of_addr (by simp) (cell_one_new _ _ _)) (by intro h; cases h) (by intro u hu; simp at hu; subst hu; rfl) (by simp only [maxLen]; omega) (by omega) (by simp; omega) ?_; intro v1 w1 hown1 hg1 hat1)
      go_roundw
      case rel =>
        refine ⟨2, by omega, by go_num, hide ?_, hide ?_⟩
        · have := hown1.out
          rw [show Value.int .u8 ((v : Int) % 256) = .int .u8 ((UInt8.ofNat (v % 256)).toNat : Int) by rw [be2_lo v]] at this
          exact this
        · exact (hbel.out.alloc (by omega) _).grown hg1.out (by simp; omega) (fun i e => (hown.out.lt i e).1)
      case measure => simp [intOf]
    · go_wp2_with fail
      go_ret
      exact ⟨_, rfl, hown.out, hbel.out⟩

set_option maxHeartbeats 1000000 in
theorem specCloseData (code : Nat) (hcode : code < 65536) (ys : List UInt8) (hy : ys.length ≤ 100000) (w : World) :
    Calls Tryd.prog 14 #[.int .i64 (code : Int), .string (strOf ys)] w fun e w' => ∃ r xs, e = .returned r ∧ xs = closeL code ys ∧ w'.ownsRow w.heap.size 5 1 r xs.length (bv xs) ∧ Below w.heap.size w w' := by
  by_cases h5 : code = 1005
  · subst h5
    go_enter Tryd.func14, Tryd.ntmps14
    go_wp2_with fail
    go_ret
    exact ⟨_, [], rfl, rfl, World.ownsRow_nil _ _ _ _, Below.refl _ _⟩
  · have h5' : ((code : Int) == 1005) = false := beq_eq_false_iff_ne.2 (by omega)
    obtain ⟨i0, hi0, hz0, hz1, hz2⟩ := info_parts Tryd.info_u8
    go_enter Tryd.func14, Tryd.ntmps14
    go_wp2_with fail
    refine (fixed_2 code hcode _).mono ?_
    rintro e w1 ⟨r, rfl, hown, hbel⟩
    have HO := hide hown
    have HB := hide hbel
    clear hown hbel
    go_wp2_with (at_builtin; refine wpList_app_str _ rfl (.tmp 8) (.tmp 9) _ _ rfl w.heap.size 5 i0 _ 1 Tryd.underlying26 Tryd.underlying9 hi0 hz0 hz1 hz2 rfl r 2 (bv (be2 code)) rfl HO.out ys rfl (by simp only [maxLen]; omega) (by omega) HB.out.size ?_; intro v2 w2 hown2 hg2 hat2)
    go_ret
    refine ⟨v2, be2 code ++ ys, rfl, by rw [closeL, if_neg h5], ?_, ?_⟩
    · have := hown2.out
      rw [← bv_append, show 2 + ys.length = (be2 code ++ ys).length by simp [be2]; omega] at this
      exact this
    · exact HB.out.grown hg2.out HB.out.size (fun i e => (HO.out.lt i e).1)

set_option maxHeartbeats 1000000 in
theorem formatClose (code : Nat) (hcode : code < 65536) (ys : List UInt8) (hy : ys.length ≤ 100000) (w : World) :
    Calls Tryd.prog 31 #[.int .i64 (code : Int), .string (strOf ys)] w fun e w' => ∃ r xs, e = .returned r ∧ xs = closeL code ys ∧ w'.ownsRow w.heap.size 5 1 r xs.length (bv xs) ∧ r ≠ .slice none 0 0 ∧ Below w.heap.size w w' := by
  by_cases h5 : code = 1005
  · subst h5
    go_enter Tryd.func31, Tryd.ntmps31
    go_wp2_with fail
    go_ret
    exact ⟨.slice (some ⟨w.heap.size, 0, none⟩) 0 0, [], rfl, rfl, own_empty w _ (Nat.le_refl _) rfl, by simp, (Below.refl _ _).alloc (Nat.le_refl _) _⟩
  · have h5' : ((code : Int) == 1005) = false := beq_eq_false_iff_ne.2 (by omega)
    obtain ⟨i0, hi0, hz0, hz1, hz2⟩ := info_parts Tryd.info_u8
    have hmk := run_mk (P := Tryd.prog) 26 5 i0 Tryd.underlying26 hi0 hz0 hz1 hz2 (2 + ys.length) (by omega)
    rw [show ((2 + ys.length : Nat) : Int) = 2 + (ys.length : Int) by omega] at hmk
    have hnw := Blk.new w 5 (zb (2 + ys.length))
    have hzl := zb_length (2 + ys.length)
    generalize zb (2 + ys.length) = zs at *
    have HN := hide hnw
    have HZ := hide hzl
    clear hnw hzl
    have hsl := run_cut_from (P := Tryd.prog) 26 5 i0 Tryd.underlying26 hi0 hz1 (some ⟨w.heap.size, 0, none⟩) (2 + ys.length) (2 + ys.length) 2 (by omega)
    rw [show ((2 : Nat) : Int) = 2 from rfl, show 2 + ys.length - 2 = ys.length by omega] at hsl
    go_enter Tryd.func31, Tryd.ntmps31
    go_wp2_with fail
    refine (putUint16 w.heap.size 0 (2 + ys.length) (2 + ys.length) code hcode (by omega) zs _ HN.out (by rw [HZ.out]; omega)).mono ?_
    rintro e w1 ⟨rfl, hb1, hf1⟩
    have HB1 := hide hb1
    have HF1 := hide hf1
    clear hb1 hf1
    go_wp2_with (with_reducible refine wpList_cp_str _ rfl (.tmp 19) (.tmp 20) 26 9 rfl 5 Tryd.underlying26 (by kernel_rfl) (cutA (some ⟨w.heap.size, 0, none⟩) 2 (2 + ys.length)) ys.length ys.length ys rfl rfl w.heap.size 2 5 _ HB1.out ?hpos ?hfit ?_)
    case hpos =>
      intro h
      exact cutA_some _ _ _ _ (by omega)
    case hfit =>
      rw [length_splice _ _ _ (by rw [HZ.out]; simp [bv, be2]), HZ.out]
      omega
    intro w2 hb2 hf2
    go_wp2_with fail
    go_ret
    have e1 : splice (splice zs 0 (bv (be2 code))) 2 (bv ys) = bv (be2 code ++ ys) := by
      rw [bv_append]
      exact splice_whole zs (bv (be2 code)) (bv ys) (by rw [HZ.out, bv_length, bv_length]; simp [be2])
    have hb2' := hb2.out
    rw [e1] at hb2'
    have hlen : (bv (be2 code ++ ys)).length = 2 + ys.length := by rw [bv_length]; simp [be2]; omega
    have hlen2 : (be2 code ++ ys).length = 2 + ys.length := by simp [be2]; omega
    refine ⟨.slice (some ⟨w.heap.size, 0, none⟩) (2 + ys.length) (2 + ys.length), be2 code ++ ys, rfl, by rw [closeL, if_neg h5], ?_, by simp, ?_⟩
    · have := own_of_blk hb2' (Nat.le_refl _) (Nat.le_refl (2 + ys.length)) hlen (by simp only [maxLen]; omega)
      rw [List.take_of_length_le (by omega)] at this
      rw [hlen2]
      exact this
    · have hf : Fr (fun i => i = w.heap.size) w w2 := (((Fr.refl _ _).alloc _).trans HF1.out).trans hf2.out
      exact hf.below (fun i hi e => by omega)
end Go.Proofs.YtjjahfhnebicjaaDoor
