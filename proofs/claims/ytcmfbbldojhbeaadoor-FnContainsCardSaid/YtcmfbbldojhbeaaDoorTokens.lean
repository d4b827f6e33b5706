/- impl.Tokens: the tokens of a line. -/
import Derived.Test.YtcmfbbldojhbeaaDoorLine
namespace Go.Proofs.YtcmfbbldojhbeaaDoor
open Go.ChangeShapes Go.WideShapes Go.ChangeAt Go.RowKit

def toksN : Nat → List UInt8 → List (List UInt8) → Option (List (List UInt8))
  | 0, _, _ => none
  | n + 1, s, acc =>
    if tokOf (skipL s) = [] then none
    else match skipL (tokRest (skipL s)) with
      | [] => some (acc ++ [tokOf (skipL s)])
      | c :: r => if c.toNat = 44 then toksN n r (acc ++ [tokOf (skipL s)]) else none

theorem skipL_length (xs : List UInt8) : (skipL xs).length ≤ xs.length := (List.dropWhile_sublist _).length_le
theorem tok_length (xs : List UInt8) : (tokOf xs).length + (tokRest xs).length = xs.length := by
  have h : (tokOf xs ++ tokRest xs).length = xs.length := congrArg List.length List.takeWhile_append_dropWhile
  rwa [List.length_append] at h

theorem nonempty_isEmpty (xs : List UInt8) (h : xs ≠ []) : (strOf xs).toList.isEmpty = false := by
  rw [strOf_toList]
  cases xs with
  | nil => exact absurd rfl h
  | cons _ _ => rfl
theorem string_info : (Tryd.prog.info? 9).map (fun i => (i.zero, i.size, i.bytes)) = some (some (.string .empty), 1, 16) := by kernel_rfl

theorem own_below {w w' : World} {base : Nat} {e : TypeId} {v : Value} {n : Nat} {xs : List Value} (h : w.ownsRow base e 1 v n xs) (hb : Below w.heap.size w w') : w'.ownsRow base e 1 v n xs :=
  h.kept (row := none) ⟨hb.os, hb.tape, hb.output, hb.size, fun k hk _ => hb.block k hk⟩ (Classical.em _)
theorem zzSpace (xs : List UInt8) (hn : xs.length ≤ 2147483647) (w : World) :
    Calls Tryd.prog 19 #[.string (strOf xs)] w fun e w' => e = .returned (.string (strOf (skipL xs))) ∧ w = w' := by
  go_enter Tryd.func19, Tryd.ntmps19
  go_wp2_with fail
  refine (skipSpace xs hn _).mono ?_
  rintro e w' ⟨rfl, rfl⟩
  go_wp2_with fail
  go_ret
  exact ⟨rfl, rfl⟩
theorem zzToken (xs : List UInt8) (hn : xs.length ≤ 2147483647) (w : World) (hT : Tok w) :
    Calls Tryd.prog 18 #[.string (strOf xs)] w fun e w' => e = .returned (.tuple #[.string (strOf (tokOf xs)), .string (strOf (tokRest xs))]) ∧ Below w.heap.size w w' := by
  go_enter Tryd.func18, Tryd.ntmps18
  go_wp2_with fail
  refine (nextToken xs hn _ hT).mono ?_
  rintro e w' ⟨rfl, hb⟩
  go_wp2_with fail
  go_ret2
  exact ⟨rfl, hb⟩
def strLenT : Value → Nat
  | .string s => s.size
  | _ => 0
def skipSpaceAt (xs : List UInt8) : Prop := ∀ w, Calls Tryd.prog 19 #[.string (strOf xs)] w fun e w' => e = .returned (.string (strOf (skipL xs))) ∧ w = w'

/-- What impl.Tokens answers. -/
def TokensPost (w : World) (r : Option (List (List UInt8))) (e : Ending) (w' : World) : Prop :=
  ∃ v, e = .returned (.tuple #[v, .bool r.isSome]) ∧ (∀ l, r = some l → w'.ownsRow w.heap.size 9 1 v l.length (sv l)) ∧ Below w.heap.size w w'

set_option maxHeartbeats 8000000 in
theorem implTokens (xs : List UInt8) (hn : xs.length ≤ 4096) (w : World) (hT : Tok w) :
    Calls Tryd.prog 9 #[.string (strOf xs)] w (TokensPost w (toksN (xs.length + 1) xs [])) := by
  have HT := hide hT
  have hpos : 1 ≤ w.heap.size := hT.1
  clear hT
  obtain ⟨i0, hi0, hz0, hz1, hz2⟩ := info_parts string_info
  have h00 : (w.alloc (.cells #[] 9)).ownsRow w.heap.size 9 1 (.slice (some ⟨w.heap.size, 0, none⟩) 0 0) 0 (sv []) := own_empty w 9 (Nat.le_refl _) rfl
  have H00 := hide h00
  clear h00
  have hsz : (strOf xs).size = xs.length := strOf_size xs
  obtain ⟨R, hR⟩ : ∃ R, toksN (xs.length + 1) xs [] = R := ⟨_, rfl⟩
  rw [hR]
  have HRR := hide hR
  clear hR
  go_enter Tryd.func9, Tryd.ntmps9
  go_wp2_with fail
  go_loopw [4, 5] (fun v s wr => ∃ (n : Nat) (acc : List (List UInt8)) (ys : List UInt8), s = .string (strOf ys) ∧ ys.length < n ∧ acc.length + ys.length ≤ xs.length ∧ Hid (R = toksN n ys acc) ∧ Hid (wr.ownsRow w.heap.size 9 1 v acc.length (sv acc)) ∧ Hid (Below w.heap.size w wr))
    (fun _ s _ => strLenT s)
  case atStart => exact ⟨xs.length + 1, [], xs, rfl, Nat.lt_succ_self _, by simp, hide HRR.out.symm, H00, hide ((Below.refl _ _).alloc (Nat.le_refl _) _)⟩
  case round =>
    obtain ⟨n, acc, ys, rfl, hyn, hacc, hrec, hown, hbel⟩ := hrel
    obtain ⟨n, rfl⟩ : ∃ m, n = m + 1 := ⟨n - 1, by omega⟩
    have hTr : Tok wr := HT.out.below hbel.out
    have HTr := hide hTr
    have hszr := hbel.out.size
    clear hTr
    have hrec' := hrec.out
    unfold toksN at hrec'
    have hl1 := skipL_length ys
    have hl2 := tok_length (skipL ys)
    have hl3 := skipL_length (tokRest (skipL ys))
    have HC := hide hrec'
    clear hrec' hrec
    go_wp2_with fail
    refine (zzSpace ys (by omega) _).mono ?_
    rintro e w' ⟨rfl, rfl⟩
    generalize skipL ys = as1 at *
    go_wp2_with fail
    refine (zzToken as1 (by omega) _ HTr.out).mono ?_
    rintro e w1 ⟨rfl, hb1⟩
    have HB1 := hide hb1
    have hsz1 := hb1.size
    clear hb1
    generalize tokOf as1 = tk at *
    generalize tokRest as1 = rs at *
    by_cases htk : tk = []
    · subst htk
      have hRn : R = none := by rw [HC.out, if_pos rfl]
      have HN := hide hRn
      clear hRn HC
      have he : strOf [] = { data := #[] } := rfl
      rw [he]
      go_wp2_with fail
      go_ret2
      refine ⟨.slice none 0 0, ?_, ?_, ?_⟩
      · rw [HN.out]; rfl
      · rw [HN.out]; intro l h; cases h
      · exact hbel.out.trans (HB1.out.mono (by omega))
    · have hne := nonempty_isEmpty tk htk
      have hlen : 1 ≤ tk.length := by
        cases tk with
        | nil => exact absurd rfl htk
        | cons _ _ => simp
      have hC2 : R = match skipL rs with
        | [] => some (acc ++ [tk])
        | c :: r => if c.toNat = 44 then toksN n r (acc ++ [tk]) else none := by rw [HC.out, if_neg htk]
      have HC2 := hide hC2
      clear HC htk hC2
      have hown1 : (w1.alloc (.cells #[.string (strOf tk)] 9)).ownsRow w.heap.size 9 1 u4 acc.length (sv acc) := (own_below hown.out HB1.out).alloc _
      have HO1 := hide hown1
      have hown1b := hown
      clear hown1 hown
      have hsk : skipSpaceAt rs := fun w => zzSpace rs (by omega) w
      have HSk := hide hsk
      clear hsk
      have hcell : Hid (∀ j u, (sv [tk])[j]? = some u → (w1.alloc (.cells #[.string (strOf tk)] 9)).cell? ((⟨w1.heap.size, 0, none⟩ : Addr).add j) = some u) := by
        have := cell_one_new w1 (.string (strOf tk)) 9
        exact this
      generalize hst : strOf tk = stk at *
      go_wp2_with (at_builtin; refine wpList_app _ rfl (.tmp 21) (.tmp 23) _ rfl w.heap.size 9 i0 _ 16 Tryd.underlying22 hi0 hz0 hz1 hz2 rfl u4 acc.length (sv acc) rfl HO1.out (w1.heap.size + 1) (some ⟨w1.heap.size, 0, none⟩) 1 1 (sv [tk]) rfl rfl (Rd.of_addr (by simp) hcell.out) (by intro h; cases h) (sv_one _) (by simp only [maxLen]; omega) (by omega) (by simp; omega) ?_; intro v2 w2 hown2 hg2 hat2)
      refine (HSk.out _).mono ?_
      rintro e w' ⟨rfl, rfl⟩
      have hown2' : w2.ownsRow w.heap.size 9 1 v2 (acc ++ [tk]).length (sv (acc ++ [tk])) := by
        rw [sv_append, List.length_append]; exact hown2.out
      have HO2 := hide hown2'
      have hb2 : Below w.heap.size w w2 := by
        have h1 := ((hbel.out.trans (HB1.out.mono (by omega))).alloc (by omega) (.cells #[.string stk] 9))
        have h2 := (Fr.of_below (S := fun k => w.heap.size ≤ k) h1 (fun _ h => h)).grown hg2.out (fun k hk _ => (hown1b.out.lt k hk).1)
        exact h2.below (fun i hi h => by omega)
      have HB2 := hide hb2
      clear hown2' hb2 hown2 hg2 hat2 HSk hcell HO1 hne
      generalize hsr : skipL rs = rr at *
      clear hsr
      cases rr with
      | nil =>
        have hRn : R = some (acc ++ [tk]) := HC2.out
        have HN := hide hRn
        clear hRn HC2
        have he : strOf [] = { data := #[] } := rfl
        rw [he]
        go_wp2_with fail
        go_ret2
        refine ⟨v2, ?_, ?_, ?_⟩
        · rw [HN.out]; rfl
        · rw [HN.out]; intro l h; cases h; exact HO2.out
        · exact HB2.out
      | cons c rq =>
        have hne := nonempty_isEmpty (c :: rq) (by simp)
        have hi := run_str_idx (P := Tryd.prog) 9 Tryd.underlying9 (c :: rq) 0 (by simp)
        have hcut := run_str_from (P := Tryd.prog) 9 Tryd.underlying9 (c :: rq) 1 (by simp)
        rw [show ((1 : Nat) : Int) = 1 from rfl, show (c :: rq).drop 1 = rq from rfl] at hcut
        rw [show ((0 : Nat) : Int) = 0 from rfl, show (c :: rq)[0] = c from rfl] at hi
        have hC3 : R = if c.toNat = 44 then toksN n rq (acc ++ [tk]) else none := HC2.out
        have HC3 := hide hC3
        clear HC2 hC3
        have hm : c.toNat ≤ 255 := by have := c.toNat_lt; omega
        have hlr : rq.length + 1 ≤ rs.length := by simpa using hl3
        generalize hst2 : strOf (c :: rq) = srr at *
        clear hst2
        generalize c.toNat = m at *
        by_cases h44 : m = 44
        · subst h44
          have hC4 : R = toksN n rq (acc ++ [tk]) := HC3.out
          have HC4 := hide hC4
          clear HC3 hC4
          go_wp2_with fail
          go_roundw
          case rel => exact ⟨n, acc ++ [tk], rq, rfl, by omega, by simp; omega, HC4, HO2, HB2⟩
          case measure => simp only [strLenT, strOf_size]; omega
        · have hRn : R = none := by rw [HC3.out, if_neg h44]
          have HN := hide hRn
          clear hRn HC3
          have n1 : ((m : Int) != 44) = true := by simp; omega
          go_wp2_with fail
          go_ret2
          refine ⟨.slice none 0 0, ?_, ?_, ?_⟩
          · rw [HN.out]; rfl
          · rw [HN.out]; intro l h; cases h
          · exact HB2.out
end Go.Proofs.YtcmfbbldojhbeaaDoor
