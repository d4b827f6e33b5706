/- The plain law of tokens: the tokens of a line are those it was made of; behind another sign it is none. No program in sight. -/
import Derived.Test.YtcmfbbldojhbeaaDoorTokens
namespace Go.Proofs.YtcmfbbldojhbeaaDoor
open Go.ChangeShapes Go.WideShapes Go.ChangeAt Go.RowKit

theorem okN_tok {m : Nat} (h : okN m = true) : tokN m = true ∧ ¬ m = 32 ∧ ¬ m = 9 := by
  simp only [okN, Bool.or_eq_true, Bool.and_eq_true, decide_eq_true_eq] at h
  refine ⟨?_, by omega, by omega⟩
  rcases h with ((h | h) | h) | h
  · simp only [tokN, Bool.or_eq_true, Bool.and_eq_true, decide_eq_true_eq]; omega
  · simp only [tokN, Bool.or_eq_true, Bool.and_eq_true, decide_eq_true_eq]; omega
  · simp only [tokN, Bool.or_eq_true, Bool.and_eq_true, decide_eq_true_eq]; omega
  · subst h; rfl
theorem okB_tok {x : UInt8} (h : okB x = true) : tokB x = true ∧ blankB x = false := by
  have h1 := okN_tok h
  exact ⟨h1.1, by unfold blankB; rw [decide_eq_false h1.2.1, decide_eq_false h1.2.2]; rfl⟩

theorem skipL_rep (b : Nat) (xs : List UInt8) : skipL (List.replicate b 32 ++ xs) = skipL xs := by
  induction b with
  | zero => simp
  | succ b ih =>
    rw [List.replicate_succ, List.cons_append]
    unfold skipL
    rw [List.dropWhile_cons, if_pos (by rfl)]
    exact ih
theorem skipL_stop (x : UInt8) (xs : List UInt8) (h : blankB x = false) : skipL (x :: xs) = x :: xs := by
  unfold skipL
  rw [List.dropWhile_cons, h]; rfl

theorem okTok_parts {s : List UInt8} (h : okTok s = true) : (∀ x ∈ s, okB x = true) ∧ 1 ≤ s.length ∧ s.length ≤ 30 := by
  unfold okTok at h
  simp only [Bool.and_eq_true, decide_eq_true_eq, List.all_eq_true] at h
  exact ⟨h.1, h.2.1, h.2.2⟩

/-- One item off a line. -/
theorem item_off (b : Nat) (s y : List UInt8) (h : okTok s = true) (hy : y.head?.all (fun x => !tokB x && !blankB x) = true) :
    tokOf (skipL (item b s ++ y)) = s ∧ skipL (tokRest (skipL (item b s ++ y))) = y := by
  obtain ⟨hall, hlen, _⟩ := okTok_parts h
  have e1 : skipL (item b s ++ y) = s ++ (List.replicate b 32 ++ y) := by
    unfold item
    rw [List.append_assoc, List.append_assoc, skipL_rep]
    cases s with
    | nil => simp at hlen
    | cons x s => exact skipL_stop _ _ (okB_tok (hall x (by simp))).2
  have e2 : skipL y = y := by
    cases y with
    | nil => rfl
    | cons x y =>
      simp only [List.head?_cons, Option.all_some, Bool.and_eq_true, Bool.not_eq_true'] at hy
      exact skipL_stop _ _ hy.2
  have hhead : (List.replicate b 32 ++ y).head?.all (fun x => !tokB x) = true := by
    cases b with
    | succ b => rw [List.replicate_succ]; rfl
    | zero =>
      cases y with
      | nil => rfl
      | cons x y =>
        simp only [List.head?_cons, Option.all_some, Bool.and_eq_true, Bool.not_eq_true'] at hy
        simp [hy.1]
  have htk := tok_at (s ++ (List.replicate b 32 ++ y)) s.length (by rw [List.take_left' rfl]; exact fun x hx => (okB_tok (hall x hx)).1) (by rw [List.drop_left' rfl]; exact hhead)
  rw [List.take_left' rfl, List.drop_left' rfl] at htk
  rw [e1, htk.1, htk.2, skipL_rep, e2]
  exact ⟨rfl, rfl⟩

theorem toks_line (b : Nat) (tail : List UInt8) (ht : tail = [] ∨ ∃ t, tail = 59 :: t) :
    ∀ (ls : List (List UInt8)), ls ≠ [] → (∀ s ∈ ls, okTok s = true) → ∀ (n : Nat) (acc : List (List UInt8)), (lineL b ls ++ tail).length < n →
      toksN n (lineL b ls ++ tail) acc = if tail = [] then some (acc ++ ls) else none
  | [], h, _, _, _, _ => absurd rfl h
  | s :: r, _, hall, n, acc, hn => by
    obtain ⟨n, rfl⟩ : ∃ m, n = m + 1 := ⟨n - 1, by omega⟩
    have hs := hall s (by simp)
    have hlen := (okTok_parts hs).2.1
    have hy : (lineT b r ++ tail).head?.all (fun x => !tokB x && !blankB x) = true := by
      cases r with
      | cons a r => rfl
      | nil =>
        rcases ht with rfl | ⟨t, rfl⟩
        · rfl
        · rfl
    have hsplit : lineL b (s :: r) ++ tail = item b s ++ (lineT b r ++ tail) := by simp [lineL]
    have hoff := item_off b s (lineT b r ++ tail) hs hy
    rw [hsplit] at hn ⊢
    unfold toksN
    rw [hoff.1, hoff.2, if_neg (by intro e; rw [e] at hlen; simp at hlen)]
    cases r with
    | nil =>
      rcases ht with rfl | ⟨t, rfl⟩
      · rfl
      · show (if ((59 : UInt8).toNat = 44) then _ else _) = _
        rw [if_neg (by decide), if_neg (by simp)]
    | cons a r =>
      have e : lineT b (a :: r) ++ tail = 44 :: (lineL b (a :: r) ++ tail) := by simp [lineT, lineL]
      rw [e] at hn ⊢
      show (if ((44 : UInt8).toNat = 44) then _ else _) = _
      rw [if_pos (by decide), toks_line b tail ht (a :: r) (by simp) (fun x hx => hall x (by simp [hx])) n (acc ++ [s]) (by simp at hn ⊢; omega)]
      simp
end Go.Proofs.YtcmfbbldojhbeaaDoor
