/- The table of a token's signs. skipSpace and nextToken. -/
import Derived.Test.YtcmfbbldojhbeaaDoorText
import Derived.Test.YtcmfbbldojhbeaaDoorStr
import Derived.Test.YtcmfbbldojhbeaaDoorRows
import Derived.Lib.LaidTab
namespace Go.Proofs.YtcmfbbldojhbeaaDoor
open Go.ChangeShapes Go.WideShapes Go.ChangeAt Go.RowKit

/-- A sign of a token. -/
def tokN (n : Nat) : Bool := [33, 35, 36, 37, 38, 39, 42, 43, 45, 46, 94, 95, 96, 124, 126].contains n || (decide (48 ≤ n) && decide (n ≤ 57)) || (decide (65 ≤ n) && decide (n ≤ 90)) || (decide (97 ≤ n) && decide (n ≤ 122))
def tokB (x : UInt8) : Bool := tokN x.toNat

/-- The table holds what it was laid with. -/
def Tok (w : World) : Prop := 1 ≤ w.heap.size ∧ ∀ i : Nat, i < 256 → w.cell? ⟨0, i, none⟩ = some (.bool (tokN i))

theorem Tok.below {w w' : World} (h : Tok w) (hb : Below w.heap.size w w') : Tok w' :=
  ⟨Nat.le_trans h.1 hb.size, fun i hi => (hb.cell (p := ⟨0, i, none⟩) (by have := h.1; show 0 < w.heap.size; omega)).trans (h.2 i hi)⟩
theorem Tok.below' {w w' : World} {B : Nat} (h : Tok w) (hb : Below B w w') (hB : 1 ≤ B) : Tok w' :=
  ⟨Nat.le_trans h.1 hb.size, fun i hi => (hb.cell (p := ⟨0, i, none⟩) (by show 0 < B; omega)).trans (h.2 i hi)⟩

/-- An array of truths that reads as a list of them holds them. -/
theorem cells_of_bools {H : Type} {enc : TypeId × Value → H} {P : Program} {w : World} {base : Nat} {sp : Nat → Bool} {held : Bool} {fuel : Nat} {t e : TypeId} {n : Nat} {cs : List Value} {zs : List Bool} {p : List MemPlace}
    (ht : P.underlying t = some (.array n e)) (he : P.underlying e = some .bool) (hce : P.cellsOf e = 1) (hct : P.cellsOf t = n)
    (h : DataW.trod enc P w base sp held fuel t cs = some ((.agg (zs.map fun z => .lit (.bool z)) : DataW H), p)) : cs = zs.map fun z => Value.bool z := by
  cases fuel with
  | zero => simp [DataW.trod] at h
  | succ fuel =>
    simp only [DataW.trod, ht, hce, hct, Nat.mul_one] at h
    split at h
    · rename_i hl
      obtain ⟨xs, hm, hx⟩ := Option.map_eq_some_iff.1 h
      have hxs : xs.map (·.1) = zs.map fun z => (DataW.lit (.bool z) : DataW H) := by
        have := congrArg Prod.fst hx
        simpa using this
      have hxl : xs.length = n := by simpa using Lib.mapM_length hm
      have hzl : zs.length = n := by
        have := congrArg List.length hxs
        simp at this
        omega
      apply List.ext_getElem?
      intro i
      by_cases hi : i < n
      · obtain ⟨b, hb, hf⟩ := Lib.mapM_at hm i i (by simp [hi])
        obtain ⟨z, hc, rfl⟩ := DataW.trod_bool he hf
        have h1 : cs[i]? = some (.bool z) := by
          have := congrArg (·[0]?) hc
          simpa [List.getElem?_take, List.getElem?_drop] using this
        have h2 : (xs.map (·.1))[i]? = some (DataW.lit (.bool z) : DataW H) := by simp [hb]
        rw [hxs] at h2
        simp only [List.getElem?_map, Option.map_eq_some_iff, DataW.lit.injEq, Lit.bool.injEq] at h2
        obtain ⟨z', hz', rfl⟩ := h2
        simp [h1, hz']
      · rw [List.getElem?_eq_none (by omega), List.getElem?_eq_none (by simp; omega)]
    · cases h

theorem laidVars_mem {P : Program} {w : World} {n : String} {d : DataW Unit} : ∀ {l : List (String × DataW Unit)} {ps : List MemPlace}, DataW.LaidVars P w l ps → (n, d) ∈ l →
    ∃ g t cs fuel p, P.globalNamed n = some g ∧ (P.globals[g]?).map (·.type) = some t ∧ w.var? P n = some cs ∧ DataW.trod (fun _ => ()) P w 0 (fun _ => true) false fuel t cs.toList = some (d, p)
  | [], _, _, h => by cases h
  | (m, d') :: l, ps, ⟨g, t, cs, fuel, p, q, h1, h2, h3, h4, h5, _⟩, h => by
    rcases List.mem_cons.1 h with h | h
    · injection h with ha hb
      subst ha hb
      exact ⟨g, t, cs, fuel, p, h1, h2, h3, h4⟩
    · exact laidVars_mem h5 h

theorem laid_bools : (Rows.laid_loop_example_pub_g03069_pub_ws_isTokenOctet : DataW Unit) = .agg (((List.range 256).map tokN).map fun z => .lit (.bool z)) := by kernel_rfl

theorem tok_of_laid {W : World} {l : List (String × DataW Unit)} (h : laidMet Tryd.prog l W) (hm : ("loop.example/pub-g03069/pub/ws.isTokenOctet", Rows.laid_loop_example_pub_g03069_pub_ws_isTokenOctet) ∈ l) : Tok W := by
  obtain ⟨ps, hL, _⟩ := h
  obtain ⟨g, t, cs, fuel, p, hg, ht, hv, hd⟩ := laidVars_mem hL hm
  obtain rfl : g = 0 := Option.some.inj (hg.symm.trans (by kernel_rfl))
  obtain rfl : t = 41 := Option.some.inj (ht.symm.trans (by kernel_rfl))
  rw [laid_bools] at hd
  have hcs := cells_of_bools Tryd.underlying41 Tryd.underlying4 (by kernel_rfl) (by kernel_rfl) hd
  have hcell : ∀ i : Nat, i < 256 → W.cell? ⟨0, i, none⟩ = some (.bool (tokN i)) := by
    intro i hi
    rw [World.var?_cell hg hv i, ← Array.getElem?_toList, hcs]
    simp [hi]
  exact ⟨Nat.succ_le_of_lt (World.block_lt_of_cell? W _ (hcell 0 (by omega))), hcell⟩

/-- Without the blanks ahead. -/
def blankB (x : UInt8) : Bool := decide (x.toNat = 32) || decide (x.toNat = 9)
def skipL (xs : List UInt8) : List UInt8 := xs.dropWhile blankB

theorem ret_str {a b : List UInt8} (h : a = b) : Ending.returned (.string (strOf a)) = .returned (.string (strOf b)) := by rw [h]
theorem ret_strs {a b c d : List UInt8} (h : a = b) (k : c = d) : Ending.returned (.tuple #[.string (strOf a), .string (strOf c)]) = .returned (.tuple #[.string (strOf b), .string (strOf d)]) := by rw [h, k]
theorem drop_cons (xs : List UInt8) (j : Nat) (h : j < xs.length) : xs.drop j = xs[j] :: xs.drop (j + 1) := List.drop_eq_getElem_cons h

set_option maxHeartbeats 2000000 in
theorem skipSpace (xs : List UInt8) (hn : xs.length ≤ 2147483647) (w : World) :
    Calls Tryd.prog 25 #[.string (strOf xs)] w fun e w' => e = .returned (.string (strOf (skipL xs))) ∧ w = w' := by
  have hsz : (strOf xs).size = xs.length := strOf_size xs
  go_enter Tryd.func25, Tryd.ntmps25
  go_wp2_with fail
  go_loop [3] (fun i => ∃ j : Nat, j ≤ xs.length ∧ i = .int .i64 j ∧ Hid (skipL xs = skipL (xs.drop j))) (fun i => xs.length - (intOf i).toNat)
  case atStart => exact ⟨0, Nat.zero_le _, rfl, hide rfl⟩
  case round =>
    obtain ⟨j, hj, rfl, hp⟩ := hrel
    by_cases hlt : j < xs.length
    · have hi := run_str_idx (P := Tryd.prog) 9 Tryd.underlying9 xs j hlt
      have hcut := run_str_from (P := Tryd.prog) 9 Tryd.underlying9 xs j hj
      have hstep : skipL xs = if blankB xs[j] then skipL (xs.drop (j + 1)) else xs.drop j := by
        rw [hp.out, drop_cons xs j hlt]
        unfold skipL
        rw [List.dropWhile_cons]
      have hm : (xs[j]).toNat ≤ 255 := by have := (xs[j]).toNat_lt; omega
      have hbl : blankB xs[j] = (decide ((xs[j]).toNat = 32) || decide ((xs[j]).toNat = 9)) := rfl
      rw [hbl] at hstep
      have HStep := hide hstep
      clear hstep hp hbl
      generalize (xs[j]).toNat = m at *
      by_cases h1 : m = 32
      · subst h1
        go_wp2_with fail
        go_round
        case rel => exact ⟨j + 1, by omega, by go_num, hide (by rw [HStep.out]; rfl)⟩
        case measure => simp [intOf]; omega
      · by_cases h2 : m = 9
        · subst h2
          go_wp2_with fail
          go_round
          case rel => exact ⟨j + 1, by omega, by go_num, hide (by rw [HStep.out]; rfl)⟩
          case measure => simp [intOf]; omega
        · have e1 : skipL xs = xs.drop j := by rw [HStep.out, decide_eq_false h1, decide_eq_false h2]; rfl
          have HE := hide e1
          have n1 : ((m : Int) != 32) = true := by simp; omega
          have n2 : ((m : Int) != 9) = true := by simp; omega
          clear e1 HStep
          go_wp2_with fail
          go_ret
          exact ⟨ret_str HE.out.symm, rfl⟩
    · have hjx : j = xs.length := by omega
      have hcut := run_str_from (P := Tryd.prog) 9 Tryd.underlying9 xs j hj
      have hfin := hp.out
      have e1 : skipL (xs.drop j) = xs.drop j := by rw [hjx, List.drop_length]; rfl
      rw [e1] at hfin
      have HF := hide hfin
      clear hjx hfin e1 hp
      go_wp2_with fail
      go_ret
      exact ⟨ret_str HF.out.symm, rfl⟩

/-- The token ahead, and what is behind it. -/
def tokOf (xs : List UInt8) : List UInt8 := xs.takeWhile tokB
def tokRest (xs : List UInt8) : List UInt8 := xs.dropWhile tokB
/-- How long the token is. -/
theorem tok_at (xs : List UInt8) (j : Nat) (hall : ∀ x ∈ xs.take j, tokB x = true) (hend : (xs.drop j).head?.all (fun x => !tokB x) = true) : tokOf xs = xs.take j ∧ tokRest xs = xs.drop j := by
  have e : xs = xs.take j ++ xs.drop j := (List.take_append_drop j xs).symm
  have h1 : (xs.drop j).takeWhile tokB = [] := by
    cases h : xs.drop j with
    | nil => rfl
    | cons a l => rw [h] at hend; simp at hend; simp [hend]
  have h2 : (xs.drop j).dropWhile tokB = xs.drop j := by
    cases h : xs.drop j with
    | nil => rfl
    | cons a l => rw [h] at hend; simp at hend; simp [hend]
  constructor
  · unfold tokOf
    conv => lhs; rw [e]
    rw [List.takeWhile_append_of_pos hall, h1, List.append_nil]
  · unfold tokRest
    conv => lhs; rw [e]
    rw [List.dropWhile_append_of_pos hall, h2]

set_option maxHeartbeats 2000000 in
theorem nextToken (xs : List UInt8) (hn : xs.length ≤ 2147483647) (w : World) (hT : Tok w) :
    Calls Tryd.prog 24 #[.string (strOf xs)] w fun e w' => e = .returned (.tuple #[.string (strOf (tokOf xs)), .string (strOf (tokRest xs))]) ∧ Below w.heap.size w w' := by
  have hsz : (strOf xs).size = xs.length := strOf_size xs
  have HT := hide hT
  clear hT
  go_enter Tryd.func24, Tryd.ntmps24
  go_wp2_with fail
  go_loop [4] (fun i => ∃ j : Nat, j ≤ xs.length ∧ i = .int .i64 j ∧ Hid (∀ x ∈ xs.take j, tokB x = true)) (fun i => xs.length - (intOf i).toNat)
  case atStart => exact ⟨0, Nat.zero_le _, rfl, hide (fun x hx => by simp at hx)⟩
  case round =>
    obtain ⟨j, hj, rfl, hp⟩ := hrel
    have hcut := run_str_from (P := Tryd.prog) 9 Tryd.underlying9 xs j hj
    have hto := run_str_to (P := Tryd.prog) 9 Tryd.underlying9 xs j hj
    by_cases hlt : j < xs.length
    · have hi := run_str_idx (P := Tryd.prog) 9 Tryd.underlying9 xs j hlt
      have hm : (xs[j]).toNat ≤ 255 := by have := (xs[j]).toNat_lt; omega
      have hc := HT.out.2 (xs[j]).toNat (by omega)
      have hstep : tokN (xs[j]).toNat = true → ∀ x ∈ xs.take (j + 1), tokB x = true := by
        intro h x hx
        rw [List.take_succ_eq_append_getElem hlt] at hx
        rcases List.mem_append.1 hx with hx | hx
        · exact hp.out x hx
        · simp at hx; subst hx; exact h
      have hstop : tokN (xs[j]).toNat = false → tokOf xs = xs.take j ∧ tokRest xs = xs.drop j := by
        intro h
        refine tok_at xs j hp.out ?_
        have h2 : tokB xs[j] = false := h
        rw [drop_cons xs j hlt, List.head?_cons, Option.all_some, h2]
        rfl
      have HS := hide hstep
      have HP := hide hstop
      clear hstep hstop hp
      generalize (xs[j]).toNat = m at *
      cases hb : tokN m with
      | true =>
        rw [hb] at hc
        have HB := hide hb
        clear hb
        go_wp2_with fail
        go_round
        case rel => exact ⟨j + 1, by omega, by go_num, hide (HS.out HB.out)⟩
        case measure => simp [intOf]; omega
      | false =>
        rw [hb] at hc
        have HB := hide hb
        clear hb
        go_wp2_with fail
        go_region
        go_wp2_with fail
        go_ret2
        exact ⟨ret_strs (HP.out HB.out).1.symm (HP.out HB.out).2.symm, (Below.refl _ _).drew⟩
    · have hfin := tok_at xs j hp.out (by rw [List.drop_eq_nil_of_le (by omega)]; rfl)
      have HF := hide hfin
      clear hfin hp
      go_wp2_with fail
      go_region
      go_wp2_with fail
      go_ret2
      exact ⟨ret_strs HF.out.1.symm HF.out.2.symm, (Below.refl _ _).drew⟩
end Go.Proofs.YtcmfbbldojhbeaaDoor
