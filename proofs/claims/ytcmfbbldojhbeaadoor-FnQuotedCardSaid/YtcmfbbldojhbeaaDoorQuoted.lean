/- nextTokenOrQuoted: a quoted text that was made by Escaped; "a b". -/
import Derived.Test.YtcmfbbldojhbeaaDoorEsc
import Derived.BigQuiet
namespace Go.Proofs.YtcmfbbldojhbeaaDoor
open Go.ChangeShapes Go.WideShapes Go.ChangeAt Go.RowKit

theorem drop_head {T : List UInt8} {k : Nat} {x : UInt8} {r : List UInt8} (h : T.drop k = x :: r) : ∃ hk : k < T.length, T[k] = x ∧ T.drop (k + 1) = r := by
  have hk : k < T.length := by
    have := congrArg List.length h
    simp at this
    omega
  refine ⟨hk, ?_, ?_⟩
  · rw [List.drop_eq_getElem_cons hk] at h
    injection h
  · rw [List.drop_eq_getElem_cons hk] at h
    injection h

/-- The bytes so far, and what the rest of the block holds. -/
def PBlk (w : World) (g M : Nat) (qs : List UInt8) : Prop := ∃ rest, Blk w g 5 (bv qs ++ rest) ∧ qs.length + rest.length = M
theorem PBlk.put {w : World} {g M : Nat} {qs : List UInt8} (h : PBlk w g M qs) (x : UInt8) (hl : qs.length < M) : PBlk (w.setCell ⟨g, qs.length, none⟩ (.int .u8 (x.toNat : Int))) g M (qs ++ [x]) := by
  obtain ⟨rest, hb, hm⟩ := h
  cases rest with
  | nil => simp at hm; omega
  | cons z rest =>
    refine ⟨rest, ?_, by simp at hm ⊢; omega⟩
    have := hb.set qs.length (.int .u8 (x.toNat : Int))
    rw [show (bv qs ++ z :: rest).set qs.length (.int .u8 (x.toNat : Int)) = bv (qs ++ [x]) ++ rest by
      rw [bv_append, List.set_append_right _ _ (by rw [bv_length]; omega), bv_length, Nat.sub_self, List.set_cons_zero]; simp [bv]] at this
    exact this
theorem PBlk.rd {w : World} {g M : Nat} {qs : List UInt8} (h : PBlk w g M qs) : Rd w w.heap.size (some ⟨g, 0, none⟩) (bv qs) := by
  obtain ⟨rest, hb, hm⟩ := h
  exact Rd.of_blk hb hb.lt (fun j u hu => by rw [Nat.zero_add, List.getElem?_append_left (List.getElem?_eq_some_iff.1 hu).1]; exact hu)
theorem PBlk.cell {w : World} {g M : Nat} {qs : List UInt8} (h : PBlk w g M qs) (hl : qs.length < M) : ∃ v, w.cell? ⟨g, qs.length, none⟩ = some v := by
  obtain ⟨rest, hb, hm⟩ := h
  rw [hb.cell]
  exact ⟨_, List.getElem?_eq_getElem (by simp [bv_length]; omega)⟩
theorem PBlk.frozen {w : World} {g M : Nat} {qs : List UInt8} (h : PBlk w g M qs) (i : Nat) : w.frozen? ⟨g, i, none⟩ = false := by
  obtain ⟨rest, hb, hm⟩ := h
  exact hb.frozen i

/-- Where the inner loop stands. -/
def EscAt (xs ys T : List UInt8) (i : Nat) (qs : List UInt8) (escape : Bool) : Prop :=
  match escape with
  | false => ∃ r, xs = qs ++ r ∧ T.drop i = esc r ++ 34 :: ys
  | true => ∃ c r, xs = qs ++ c :: r ∧ T.drop i = c :: (esc r ++ 34 :: ys)

set_option maxHeartbeats 8000000 in
set_option maxRecDepth 8192 in
theorem nextQuoted (xs ys : List UInt8) (hx : xs.length ≤ 1000) (hy : ys.length ≤ 1000) (w : World) :
    Calls Tryd.prog 26 #[.string (strOf (34 :: (esc xs ++ 34 :: ys)))] w fun e w' => e = .returned (.tuple #[.string (strOf xs), .string (strOf ys)]) ∧ Below w.heap.size w w' := by
  obtain ⟨T, hT⟩ : ∃ T, T = esc xs ++ 34 :: ys := ⟨_, rfl⟩
  rw [← hT]
  have hel := esc_length xs
  have hTl : T.length = (esc xs).length + ys.length + 1 := by rw [hT]; simp; omega
  obtain ⟨M, hM⟩ : ∃ M, T.length = M + 1 := ⟨(esc xs).length + ys.length, by omega⟩
  have hM2 : M ≤ 100000 := by omega
  have hxM : xs.length ≤ M := by omega
  have hQ := hasQuote T (by omega)
  have hcut := run_str_from (P := Tryd.prog) 9 Tryd.underlying9 (34 :: T) 1 (by simp)
  rw [show ((1 : Nat) : Int) = 1 from rfl, show ((34 : UInt8) :: T).drop 1 = T from rfl] at hcut
  have HQ := hide hQ
  have HT := hide hT
  have HL := hide hTl
  have hsz : (strOf T).size = M + 1 := by rw [strOf_size]; exact hM
  have HM := hide hM
  clear hQ hT hTl hM hel
  go_enter Tryd.func26, Tryd.ntmps26
  go_wp2_with fail
  refine (HQ.out _).mono ?_
  rintro e w' ⟨rfl, rfl⟩
  go_wp2_with fail
  go_loop [4] (fun i => ∃ (ps r : List UInt8), i = .int .i64 (ps.length : Int) ∧ ps.length ≤ M ∧ Hid (xs = ps ++ r ∧ T.drop ps.length = esc r ++ 34 :: ys ∧ T.take ps.length = ps)) (fun i => M + 1 - (intOf i).toNat)
  case atStart => exact ⟨[], xs, rfl, Nat.zero_le _, hide ⟨rfl, HT.out, rfl⟩⟩
  case round =>
    obtain ⟨ps, r, rfl, hpM, hp⟩ := hrel
    have hto := run_str_to (P := Tryd.prog) 9 Tryd.underlying9 T ps.length (by rw [HM.out]; omega)
    rw [hp.out.2.2] at hto
    cases r with
    | nil =>
      obtain ⟨hk, hh, hd⟩ := drop_head (show T.drop ps.length = 34 :: ys from hp.out.2.1)
      have hi := run_str_idx (P := Tryd.prog) 9 Tryd.underlying9 T ps.length hk
      rw [hh, show (((34 : UInt8).toNat : Nat) : Int) = 34 from rfl] at hi
      have hfr := run_str_from (P := Tryd.prog) 9 Tryd.underlying9 T (ps.length + 1) (by omega)
      rw [hd] at hfr
      have hx2 : xs = ps := by have := hp.out.1; simpa using this
      have HX := hide hx2
      clear hh hd hx2 hp hk
      rw [show ((ps.length + 1 : Nat) : Int) = (ps.length : Int) + 1 by omega] at hfr
      go_wp2_with fail
      go_region
      go_wp2_with fail
      go_ret2
      exact ⟨ret_strs HX.out.symm rfl, (Below.refl _ _).drew⟩
    | cons c r =>
      cases hs : specN c.toNat with
      | false =>
        obtain ⟨hk, hh, hd⟩ := drop_head (show T.drop ps.length = c :: (esc r ++ 34 :: ys) by have h := hp.out.2.1; rw [esc_cons_plain c r hs] at h; exact h)
        have hi := run_str_idx (P := Tryd.prog) 9 Tryd.underlying9 T ps.length hk
        rw [hh] at hi
        have hn : ¬ c.toNat = 34 ∧ ¬ c.toNat = 92 := by simpa [specN] using hs
        have n1 : (((c.toNat : Nat) : Int) == 34) = false := beq_eq_false_iff_ne.2 (by omega)
        have n2 : (((c.toNat : Nat) : Int) == 92) = false := beq_eq_false_iff_ne.2 (by omega)
        have hnext : xs = (ps ++ [c]) ++ r ∧ T.drop (ps ++ [c]).length = esc r ++ 34 :: ys ∧ T.take (ps ++ [c]).length = ps ++ [c] := by
          refine ⟨by rw [hp.out.1]; simp, by rw [List.length_append]; exact hd, ?_⟩
          rw [List.length_append, List.length_singleton, List.take_succ_eq_append_getElem hk, hp.out.2.2, hh]
        have hlt : ps.length + 1 ≤ M := by
          have h1 := congrArg List.length hp.out.1
          simp at h1
          omega
        have HN := hide hnext
        have HLt := hide hlt
        have hm : c.toNat ≤ 255 := by have := c.toNat_lt; omega
        clear hh hd hnext hs hn hp hlt
        generalize c.toNat = m at *
        go_wp2_with fail
        go_round
        case rel => exact ⟨ps ++ [c], r, by rw [List.length_append]; go_num, by rw [List.length_append]; exact HLt.out, HN⟩
        case measure => simp [intOf]; omega
      | true =>
        obtain ⟨hk, hh, hd⟩ := drop_head (show T.drop ps.length = 92 :: c :: (esc r ++ 34 :: ys) by have h := hp.out.2.1; rw [esc_cons_spec c r hs] at h; exact h)
        have hi := run_str_idx (P := Tryd.prog) 9 Tryd.underlying9 T ps.length hk
        rw [hh, show (((92 : UInt8).toNat : Nat) : Int) = 92 from rfl] at hi
        obtain ⟨iu, hiu, hzu, hsu, hbu⟩ := info_parts u8_info
        have hmk := run_mk (P := Tryd.prog) 37 5 iu Tryd.underlying37 hiu hzu hsu hbu M (by omega)
        have hat : EscAt xs ys T (ps.length + 1) ps true := ⟨c, r, hp.out.1, hd⟩
        have HAt := hide hat
        clear hh hd hp hat hs
        go_wp2_with (with_reducible refine wpList_cp_str _ rfl (.tmp 42) (.tmp 45) 37 9 rfl 5 Tryd.underlying37 (by kernel_rfl) (some ⟨w.heap.size, 0, none⟩) M M ps rfl rfl w.heap.size 0 5 (zb M) (Blk.new w 5 (zb M)) ?hpos ?hfit ?_)
        case hfit => rw [zb_length]; omega
        intro w2 hb2 hf2
        have hblk : PBlk w2 w.heap.size M ps := by
          refine ⟨(zb M).drop ps.length, ?_, by rw [List.length_drop, zb_length]; omega⟩
          have h := hb2.out
          rw [List.take_of_length_le hpM] at h
          have e : splice (zb M) 0 (bv ps) = bv ps ++ (zb M).drop ps.length := by simp [splice, bv_length]
          rw [e] at h
          exact h
        have hbel : Below w.heap.size w w2 := by
          have h1 := (Fr.of_below (S := fun k => w.heap.size ≤ k) ((Below.refl w.heap.size w).alloc (Nat.le_refl _) (.cells (zb M).toArray 5)) (fun _ h => h)).then_ hf2.out (fun i hi e => by omega)
          exact h1.below (fun i hi h => by omega)
        have HBlk := hide hblk
        have HBel := hide hbel
        have hmin : ((min ps.length M : Nat) : Int) = (ps.length : Int) := by omega
        clear hblk hbel hb2 hf2
        go_wp2_with fail
        go_loopw [4, 6, 7] (fun i j es wr => ∃ (k : Nat) (qs : List UInt8) (eb : Bool), i = .int .i64 (k : Int) ∧ j = .int .i64 (qs.length : Int) ∧ es = .bool eb ∧ k ≤ M + 1 ∧ Hid (EscAt xs ys T k qs eb) ∧ Hid (PBlk wr w.heap.size M qs) ∧ Hid (Below w.heap.size w wr))
          (fun i _ _ _ => M + 2 - (intOf i).toNat)
        case atStart => exact ⟨ps.length + 1, ps, true, by go_num, rfl, rfl, by omega, HAt, HBlk, HBel⟩
        case round =>
          obtain ⟨k, qs, eb, rfl, rfl, rfl, hkM, hat, hblk, hbel⟩ := hrel
          cases eb with
          | true =>
            obtain ⟨c, r, hx1, hd1⟩ := hat.out
            obtain ⟨hk, hh, hd⟩ := drop_head hd1
            have hi := run_str_idx (P := Tryd.prog) 9 Tryd.underlying9 T k hk
            rw [hh] at hi
            have hq : qs.length < M := by
              have h1 := congrArg List.length hx1
              simp at h1
              omega
            obtain ⟨v0, hc0⟩ := hblk.out.cell hq
            have hz0 := hblk.out.frozen qs.length
            have hput := hblk.out.put c hq
            have hnext : EscAt xs ys T (k + 1) (qs ++ [c]) false := ⟨r, by rw [hx1]; simp, hd⟩
            have HPut := hide hput
            have HNext := hide hnext
            have hk2 : k ≤ M := by have := HM.out; omega
            have hm : c.toNat ≤ 255 := by have := c.toNat_lt; omega
            clear hh hd hput hnext hat hblk hx1 hd1 hk
            have hql : (qs ++ [c]).length = qs.length + 1 := by simp
            have HQL := hide hql
            clear hql
            generalize c.toNat = m at *
            go_wp2_with fail
            go_roundw
            case rel => exact ⟨k + 1, qs ++ [c], false, by go_num, by rw [HQL.out]; go_num, rfl, by omega, HNext, HPut, hide (hbel.out.setCell (Nat.le_refl _) _)⟩
            case measure => simp [intOf]; omega
          | false =>
            obtain ⟨r, hx1, hd1⟩ := hat.out
            cases r with
            | nil =>
              obtain ⟨hk, hh, hd⟩ := drop_head (show T.drop k = 34 :: ys from hd1)
              have hi := run_str_idx (P := Tryd.prog) 9 Tryd.underlying9 T k hk
              rw [hh, show (((34 : UInt8).toNat : Nat) : Int) = 34 from rfl] at hi
              have hfr := run_str_from (P := Tryd.prog) 9 Tryd.underlying9 T (k + 1) (by omega)
              rw [hd, show ((k + 1 : Nat) : Int) = (k : Int) + 1 by omega] at hfr
              have hx2 : xs = qs := by simpa using hx1
              have hqM : qs.length ≤ M := by rw [← hx2]; exact hxM
              have hcb1 := run_conv (P := Tryd.prog) wr 37 9 5 Tryd.underlying37 Tryd.underlying5 Tryd.underlying9 _ (some ⟨w.heap.size, 0, none⟩) M qs hblk.out.rd qs.length rfl
              have hcb2 := run_conv (P := Tryd.prog) wr.drew 37 9 5 Tryd.underlying37 Tryd.underlying5 Tryd.underlying9 _ (some ⟨w.heap.size, 0, none⟩) M qs hblk.out.rd qs.length rfl
              have HX := hide hx2
              have hk2 : k ≤ M := by have := HM.out; omega
              clear hh hd hx2 hat hblk hx1 hd1 hk
              go_wp2_with fail
              go_region
              go_wp2_with fail
              go_ret2
              exact ⟨ret_strs HX.out.symm rfl, hbel.out.drew⟩
            | cons c r =>
              cases hs : specN c.toNat with
              | true =>
                obtain ⟨hk, hh, hd⟩ := drop_head (show T.drop k = 92 :: c :: (esc r ++ 34 :: ys) by rw [esc_cons_spec c r hs] at hd1; exact hd1)
                have hi := run_str_idx (P := Tryd.prog) 9 Tryd.underlying9 T k hk
                rw [hh, show (((92 : UInt8).toNat : Nat) : Int) = 92 from rfl] at hi
                have hnext : EscAt xs ys T (k + 1) qs true := ⟨c, r, hx1, hd⟩
                have HNext := hide hnext
                have hk2 : k ≤ M := by have := HM.out; omega
                clear hh hd hnext hat hx1 hd1 hk hs
                go_wp2_with fail
                go_roundw
                case rel => exact ⟨k + 1, qs, true, by go_num, rfl, rfl, by omega, HNext, hblk, hbel⟩
                case measure => simp [intOf]; omega
              | false =>
                obtain ⟨hk, hh, hd⟩ := drop_head (show T.drop k = c :: (esc r ++ 34 :: ys) by rw [esc_cons_plain c r hs] at hd1; exact hd1)
                have hi := run_str_idx (P := Tryd.prog) 9 Tryd.underlying9 T k hk
                rw [hh] at hi
                have hn : ¬ c.toNat = 34 ∧ ¬ c.toNat = 92 := by simpa [specN] using hs
                have n1 : (((c.toNat : Nat) : Int) == 34) = false := beq_eq_false_iff_ne.2 (by omega)
                have n2 : (((c.toNat : Nat) : Int) == 92) = false := beq_eq_false_iff_ne.2 (by omega)
                have hq : qs.length < M := by
                  have h1 := congrArg List.length hx1
                  simp at h1
                  omega
                obtain ⟨v0, hc0⟩ := hblk.out.cell hq
                have hz0 := hblk.out.frozen qs.length
                have hput := hblk.out.put c hq
                have hnext : EscAt xs ys T (k + 1) (qs ++ [c]) false := ⟨r, by rw [hx1]; simp, hd⟩
                have HPut := hide hput
                have HNext := hide hnext
                have hk2 : k ≤ M := by have := HM.out; omega
                have hm : c.toNat ≤ 255 := by have := c.toNat_lt; omega
                clear hh hd hput hnext hat hblk hx1 hd1 hk hs hn
                have hql : (qs ++ [c]).length = qs.length + 1 := by simp
                have HQL := hide hql
                clear hql
                generalize c.toNat = m at *
                go_wp2_with fail
                go_roundw
                case rel => exact ⟨k + 1, qs ++ [c], false, by go_num, by rw [HQL.out]; go_num, rfl, by omega, HNext, HPut, hide (hbel.out.setCell (Nat.le_refl _) _)⟩
                case measure => simp [intOf]; omega

theorem nextAB (w : World) (hT : Tok w) :
    Calls Tryd.prog 26 #[.string { data := #[97, 32, 98] }] w fun e w' => e = .returned (.tuple #[.string { data := #[97] }, .string { data := #[32, 98] }]) ∧ Below w.heap.size w w' := by
  have h := nextToken [97, 32, 98] (by simp) w hT
  have hk : Calls Tryd.prog 24 #[.string { data := #[97, 32, 98] }] w fun e w' => e = .returned (.tuple #[.string { data := #[97] }, .string { data := #[32, 98] }]) ∧ Below w.heap.size w w' := h
  have HK := hide hk
  clear h hk
  go_enter Tryd.func26, Tryd.ntmps26
  go_wp2_with fail
  refine (hasNoQuote _).mono ?_
  rintro e w' ⟨rfl, rfl⟩
  go_wp2_with fail
  refine HK.out.mono ?_
  rintro e w' ⟨rfl, hb⟩
  have HB := hide hb
  clear hb
  go_wp2_with fail
  go_ret2
  exact ⟨rfl, HB.out⟩
end Go.Proofs.YtcmfbbldojhbeaaDoor
