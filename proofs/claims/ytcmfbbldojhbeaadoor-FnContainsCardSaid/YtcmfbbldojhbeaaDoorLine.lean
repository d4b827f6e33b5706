/- Slices of texts: laws.zzFits1, spec.AreTokens, spec.Line. -/
import Derived.Test.YtcmfbbldojhbeaaDoorTok
import Derived.Test.YtcmfbbldojhbeaaDoorOpen
import Derived.Deep.Strs
namespace Go.Proofs.YtcmfbbldojhbeaaDoor
open Go.ChangeShapes Go.WideShapes Go.ChangeAt Go.RowKit

/-- Texts as cells. -/
def sv (ls : List (List UInt8)) : List Value := ls.map fun xs => .string (strOf xs)
theorem sv_length (ls : List (List UInt8)) : (sv ls).length = ls.length := by simp [sv]
theorem sv_get (ls : List (List UInt8)) (i : Nat) (h : i < ls.length) : (sv ls)[i]? = some (.string (strOf ls[i])) := by simp [sv, h]
theorem sv_append (a b : List (List UInt8)) : sv (a ++ b) = sv a ++ sv b := by simp [sv]
theorem sv_one (ls : List (List UInt8)) : ∀ u ∈ sv ls, u.oneCell' = true := by
  intro u hu
  obtain ⟨_, _, rfl⟩ := List.mem_map.1 hu
  rfl

theorem take_snoc {α : Type} (xs : List α) (j : Nat) (h : j < xs.length) : xs.take (j + 1) = xs.take j ++ [xs[j]] := List.take_succ_eq_append_getElem h

/-- A slice of texts among the arguments. -/
theorem open_texts {H : Type} {enc : TypeId × Value → H} {P : Program} {W : World} {r : Reach} {b0 : Nat} {t e : TypeId} {v : Value} {d : DataW H} {ps : List MemPlace}
    (ht : P.underlying t = some (.slice e)) (he : P.underlying e = some .string) (hc : P.cellsOf e = 1)
    (hval : Value.okWide P W r b0 t v) (hd : DataW.Trod enc P W 0 (fun _ => true) true t v d ps) :
    ∃ (A : Option Addr) (c : Nat) (ls : List (List UInt8)), v = .slice A ls.length c ∧ (A = none → ls.length = 0 ∧ c = 0) ∧ ls.length ≤ c ∧ Rd W W.heap.size A (sv ls) := by
  obtain ⟨A, len, cap, rfl⟩ := okWide_slice ht hval
  obtain ⟨fuel, hf⟩ := hd
  rcases Deep.open_strs ht he hc hf with ⟨hcs, hx⟩ | ⟨a, len', cap', m, Sx, hcs, _, hl, hm, hmm, hx, hcell⟩
  · simp [Value.cells] at hcs
    obtain ⟨rfl, rfl, rfl⟩ := hcs
    exact ⟨none, 0, [], rfl, fun _ => ⟨rfl, rfl⟩, Nat.le_refl _, Rd.nil _ _ _⟩
  · simp [Value.cells] at hcs
    obtain ⟨rfl, rfl, rfl⟩ := hcs
    simp only [if_true] at hmm
    have hlen : ((List.range len).map fun i => (Sx i).data.toList).length = len := by simp
    refine ⟨some a, cap, (List.range len).map fun i => (Sx i).data.toList, by rw [hlen], fun h => (by cases h), by rw [hlen]; exact hl, ?_⟩
    have hcells : ∀ j u, (sv ((List.range len).map fun i => (Sx i).data.toList))[j]? = some u → W.cell? (a.add j) = some u := by
      intro j u hu
      have hj : j < len := by
        have := (List.getElem?_eq_some_iff.1 hu).1
        rwa [sv_length, hlen] at this
      rw [(hcell j (by omega)).1, ← hu, sv_get _ _ (by rw [hlen]; exact hj)]
      simp [strOf]
    intro hn
    have h0 := hcells 0 _ (List.getElem?_eq_getElem hn)
    have hb : a.block < W.heap.size := World.block_lt_of_cell? W (a.add 0) h0
    exact Rd.of_addr hb hcells hn

def fits1 (ls : List (List UInt8)) : Bool := decide (ls.length ≤ 2147483647) && ls.all fun s => decide (s.length ≤ 2147483647)

set_option maxHeartbeats 2000000 in
theorem zzFits1 (A : Option Addr) (c : Nat) (ls : List (List UInt8)) (w : World) (hr : Rd w w.heap.size A (sv ls)) :
    Calls Tryd.prog 7 #[.slice A ls.length c] w fun e w' => e = .returned (.bool (fits1 ls)) ∧ w = w' := by
  have HR := hide hr
  clear hr
  by_cases h1 : 2147483647 < ls.length
  · have hf : fits1 ls = false := by unfold fits1; rw [decide_eq_false (by omega)]; rfl
    have HF := hide hf
    clear hf
    go_enter Tryd.func7, Tryd.ntmps7
    go_wp2_with fail
    go_ret
    exact ⟨ret_bool HF.out.symm, rfl⟩
  · have hf : fits1 ls = ls.all fun s => decide (s.length ≤ 2147483647) := by unfold fits1; rw [decide_eq_true (by omega)]; rfl
    have HF := hide hf
    clear hf
    go_enter Tryd.func7, Tryd.ntmps7
    go_wp2_with fail
    go_loop [10] (fun i => ∃ j : Nat, j ≤ ls.length ∧ i = .int .i64 j ∧ Hid (∀ s ∈ ls.take j, s.length ≤ 2147483647)) (fun i => ls.length - (intOf i).toNat)
    case atStart => exact ⟨0, Nat.zero_le _, rfl, hide (fun x hx => by simp at hx)⟩
    case round =>
      obtain ⟨j, hj, rfl, hp⟩ := hrel
      by_cases hlt : j < ls.length
      · obtain ⟨g, o, hA, hg, hc⟩ := HR.out (by rw [sv_length]; omega)
        subst hA
        have hc1 := hc j _ (sv_get ls j hlt)
        have hstep : ls[j].length ≤ 2147483647 → ∀ s ∈ ls.take (j + 1), s.length ≤ 2147483647 := by
          intro h s hs
          rw [take_snoc ls j hlt] at hs
          rcases List.mem_append.1 hs with hs | hs
          · exact hp.out s hs
          · simp at hs; subst hs; exact h
        have hstop : 2147483647 < ls[j].length → (ls.all fun s => decide (s.length ≤ 2147483647)) = false := by
          intro h
          rw [List.all_eq_false]
          exact ⟨ls[j], List.getElem_mem hlt, by simpa using h⟩
        have HS := hide hstep
        have HP := hide hstop
        clear hstep hstop hp hc
        have hsz : (strOf ls[j]).size = ls[j].length := strOf_size _
        generalize hs : ls[j] = s at *
        by_cases h2 : 2147483647 < s.length
        · go_wp2_with fail
          go_ret
          exact ⟨ret_bool (by rw [HF.out, HP.out h2]), rfl⟩
        · go_wp2_with fail
          go_round
          case rel => exact ⟨j + 1, by omega, by go_num, hide (HS.out (by omega))⟩
          case measure => simp [intOf]; omega
      · have hall : (ls.all fun s => decide (s.length ≤ 2147483647)) = true := by
          rw [List.all_eq_true]
          intro s hs
          have := hp.out s (by rw [List.take_of_length_le (by omega)]; exact hs)
          simpa using this
        have HA := hide hall
        clear hall hp
        go_wp2_with fail
        go_ret
        exact ⟨ret_bool (by rw [HF.out, HA.out]), rfl⟩

/-- Letters, figures and strokes. -/
def okN (m : Nat) : Bool := (decide (97 ≤ m) && decide (m ≤ 122)) || (decide (65 ≤ m) && decide (m ≤ 90)) || (decide (48 ≤ m) && decide (m ≤ 57)) || decide (m = 45)
def okB (x : UInt8) : Bool := okN x.toNat
def okTok (xs : List UInt8) : Bool := xs.all okB && (decide (1 ≤ xs.length) && decide (xs.length ≤ 30))
def areTok (ls : List (List UInt8)) : Bool := ls.all okTok && decide (ls.length ≤ 20)

theorem all_snoc {α : Type} {p : α → Bool} {xs : List α} {j : Nat} (h : j < xs.length) (h1 : (xs.take j).all p = true) (h2 : p xs[j] = true) : (xs.take (j + 1)).all p = true := by
  rw [take_snoc xs j h, List.all_append, h1]
  simp [h2]
theorem all_stop {α : Type} {p : α → Bool} {xs : List α} {j : Nat} (h : j < xs.length) (h2 : p xs[j] = false) : xs.all p = false := by
  rw [List.all_eq_false]
  exact ⟨xs[j], List.getElem_mem h, by simp [h2]⟩

set_option maxHeartbeats 8000000 in
theorem areTokens (A : Option Addr) (c : Nat) (ls : List (List UInt8)) (w : World) (hr : Rd w w.heap.size A (sv ls)) (hf : fits1 ls = true) :
    Calls Tryd.prog 8 #[.slice A ls.length c] w fun e w' => e = .returned (.bool (areTok ls)) ∧ w = w' := by
  have hn : ls.length ≤ 2147483647 := by unfold fits1 at hf; simp at hf; exact hf.1
  have hm : ∀ s ∈ ls, s.length ≤ 2147483647 := by unfold fits1 at hf; simp at hf; exact hf.2
  have HR := hide hr
  have HM := hide hm
  clear hr hm hf
  go_enter Tryd.func8, Tryd.ntmps8
  go_wp2_with fail
  go_loop [9] (fun i => ∃ j : Nat, j ≤ ls.length ∧ i = .int .i64 j ∧ Hid ((ls.take j).all okTok = true)) (fun i => ls.length - (intOf i).toNat)
  case atStart => exact ⟨0, Nat.zero_le _, rfl, hide rfl⟩
  case round =>
    obtain ⟨j, hj, rfl, hp⟩ := hrel
    by_cases hlt : j < ls.length
    · obtain ⟨g, o, hA, hg, hc⟩ := HR.out (by rw [sv_length]; omega)
      subst hA
      have hc1 := hc j _ (sv_get ls j hlt)
      have hlen := HM.out ls[j] (List.getElem_mem hlt)
      have hstep : okTok ls[j] = true → (ls.take (j + 1)).all okTok = true := fun h => all_snoc hlt hp.out h
      have hstop : okTok ls[j] = false → areTok ls = false := fun h => by unfold areTok; rw [all_stop hlt h]; rfl
      have HS := hide hstep
      have HP := hide hstop
      clear hstep hstop hp hc
      have hsz : (strOf ls[j]).size = ls[j].length := strOf_size _
      generalize ls[j] = s at *
      go_wp2_with fail
      go_loop [5] (fun i => ∃ k : Nat, k ≤ s.length ∧ i = .int .i64 k ∧ Hid ((s.take k).all okB = true)) (fun i => s.length - (intOf i).toNat)
      case atStart => exact ⟨0, Nat.zero_le _, rfl, hide rfl⟩
      case round =>
        obtain ⟨k, hk, rfl, hq⟩ := hrel
        by_cases hlt2 : k < s.length
        · have hi := run_str_idx (P := Tryd.prog) 9 Tryd.underlying9 s k hlt2
          have hm : (s[k]).toNat ≤ 255 := by have := (s[k]).toNat_lt; omega
          have hstep2 : okN (s[k]).toNat = true → (s.take (k + 1)).all okB = true := fun h => all_snoc hlt2 hq.out h
          have hstop2 : okN (s[k]).toNat = false → okTok s = false := fun h => by unfold okTok; rw [all_stop hlt2 h]; rfl
          have HS2 := hide hstep2
          have HP2 := hide hstop2
          clear hstep2 hstop2 hq
          generalize (s[k]).toNat = m at *
          have hcase : ((97 ≤ m ∧ m ≤ 122) ∨ (65 ≤ m ∧ m ≤ 90) ∨ (48 ≤ m ∧ m ≤ 57) ∨ m = 45) ∨ (m ≤ 44 ∨ (46 ≤ m ∧ m ≤ 47) ∨ (58 ≤ m ∧ m ≤ 64) ∨ (91 ≤ m ∧ m ≤ 96) ∨ 123 ≤ m) := by omega
          rcases hcase with hcase | hcase
          · have hok : okN m = true := by unfold okN; simp; omega
            have HO := hide (HS2.out hok)
            clear hok
            rcases hcase with ⟨h1, h2⟩ | ⟨h1, h2⟩ | ⟨h1, h2⟩ | h1
            · go_wp2_with fail
              go_round
              case rel => exact ⟨k + 1, by omega, by go_num, HO⟩
              case measure => simp [intOf]; omega
            · go_wp2_with fail
              go_round
              case rel => exact ⟨k + 1, by omega, by go_num, HO⟩
              case measure => simp [intOf]; omega
            · go_wp2_with fail
              go_round
              case rel => exact ⟨k + 1, by omega, by go_num, HO⟩
              case measure => simp [intOf]; omega
            · subst h1
              go_wp2_with fail
              go_round
              case rel => exact ⟨k + 1, by omega, by go_num, HO⟩
              case measure => simp [intOf]; omega
          · have hok : okN m = false := by unfold okN; simp; omega
            have HO := hide (HP.out (HP2.out hok))
            clear hok
            have n1 : ((m : Int) != 45) = true := by simp; omega
            rcases hcase with h1 | ⟨h1, h2⟩ | ⟨h1, h2⟩ | ⟨h1, h2⟩ | h1
            all_goals go_wp2_with fail
            all_goals go_ret
            all_goals exact ⟨ret_bool HO.out.symm, rfl⟩
        · have hall : s.all okB = true := by
            have := hq.out
            rwa [List.take_of_length_le (by omega)] at this
          have hkx : k = s.length := by omega
          have HA := hide hall
          clear hall hq
          by_cases h1 : s.length < 1
          · have hok : okTok s = false := by unfold okTok; rw [decide_eq_false (by omega : ¬ 1 ≤ s.length)]; simp
            have HO := hide (HP.out hok)
            clear hok
            go_wp2_with fail
            go_ret
            exact ⟨ret_bool HO.out.symm, rfl⟩
          · by_cases h2 : 30 < s.length
            · have hok : okTok s = false := by unfold okTok; rw [decide_eq_false (by omega : ¬ s.length ≤ 30)]; simp
              have HO := hide (HP.out hok)
              clear hok
              go_wp2_with fail
              go_ret
              exact ⟨ret_bool HO.out.symm, rfl⟩
            · have hok : okTok s = true := by unfold okTok; rw [HA.out, decide_eq_true (by omega : 1 ≤ s.length), decide_eq_true (by omega : s.length ≤ 30)]; rfl
              have HO := hide (HS.out hok)
              clear hok
              go_wp2_with fail
              go_round
              case rel => exact ⟨j + 1, by omega, by go_num, HO⟩
              case measure => simp [intOf]; omega
    · have hall : ls.all okTok = true := by
        have := hp.out
        rwa [List.take_of_length_le (by omega)] at this
      by_cases h1 : ls.length ≤ 20
      · have hok : areTok ls = true := by unfold areTok; rw [hall, decide_eq_true h1]; rfl
        have HO := hide hok
        clear hok hall hp
        go_wp2_with fail
        go_ret
        exact ⟨ret_bool (by rw [HO.out]; simp; omega), rfl⟩
      · have hok : areTok ls = false := by unfold areTok; rw [hall, decide_eq_false h1]; rfl
        have HO := hide hok
        clear hok hall hp
        have h2 : 21 ≤ ls.length := by omega
        go_wp2_with fail
        go_ret
        exact ⟨ret_bool (by rw [HO.out]; simp; omega), rfl⟩

/-- A token with blanks around it; a line of them. -/
def item (b : Nat) (s : List UInt8) : List UInt8 := List.replicate b 32 ++ s ++ List.replicate b 32
def lineT (b : Nat) : List (List UInt8) → List UInt8
  | [] => []
  | s :: r => 44 :: (item b s ++ lineT b r)
def lineL (b : Nat) : List (List UInt8) → List UInt8
  | [] => []
  | s :: r => item b s ++ lineT b r
theorem lineT_snoc (b : Nat) (s : List UInt8) : ∀ l, lineT b (l ++ [s]) = lineT b l ++ 44 :: item b s
  | [] => by simp [lineT]
  | a :: l => by simp [lineT, lineT_snoc b s l]
theorem lineL_zero (b : Nat) (ls : List (List UInt8)) (h : 0 < ls.length) : lineL b (ls.take 1) = ((lineL b (ls.take 0) ++ List.replicate b (32 : UInt8)) ++ ls[0]) ++ List.replicate b (32 : UInt8) := by
  cases ls with
  | nil => simp at h
  | cons s r => simp [lineL, lineT, item]
theorem lineL_succ (b : Nat) (ls : List (List UInt8)) (j : Nat) (h0 : 0 < j) (h : j < ls.length) : lineL b (ls.take (j + 1)) = (((lineL b (ls.take j) ++ [44]) ++ List.replicate b (32 : UInt8)) ++ ls[j]) ++ List.replicate b (32 : UInt8) := by
  rw [take_snoc ls j h]
  generalize ls[j] = s
  cases ls with
  | nil => simp at h
  | cons a r =>
    obtain ⟨i, rfl⟩ : ∃ i, j = i + 1 := ⟨j - 1, by omega⟩
    simp [lineL, lineT_snoc, item]
theorem item_length (b : Nat) (s : List UInt8) : (item b s).length = b + s.length + b := by simp [item]; omega
theorem lineT_length (b : Nat) (hb : b ≤ 5) : ∀ ls : List (List UInt8), (∀ s ∈ ls, s.length ≤ 30) → (lineT b ls).length ≤ 41 * ls.length
  | [], _ => by simp [lineT]
  | s :: r, h => by
    have h1 := h s (by simp)
    have h2 := lineT_length b hb r (fun x hx => h x (by simp [hx]))
    simp only [lineT, List.length_cons, List.length_append, item_length]
    omega
theorem lineL_length (b : Nat) (hb : b ≤ 5) (ls : List (List UInt8)) (h : ∀ s ∈ ls, s.length ≤ 30) : (lineL b ls).length ≤ 41 * ls.length := by
  cases ls with
  | nil => simp [lineL]
  | cons s r =>
    have h1 := h s (by simp)
    have h2 := lineT_length b hb r (fun x hx => h x (by simp [hx]))
    simp only [lineL, List.length_cons, List.length_append, item_length]
    omega

/-- s + t, the sum under a name. -/
theorem add_named {P : Program} (xs ys : List UInt8) (h : xs.length + ys.length ≤ 4000000000) :
    ∃ zs, (∀ w : World, (Op.stringOp .add (strOf xs) (strOf ys)).run P w = .ok (.string (strOf zs)) w) ∧ Hid (zs = xs ++ ys) := ⟨xs ++ ys, run_add_str xs ys h, rfl⟩

set_option maxHeartbeats 4000000 in
theorem specLine (A : Option Addr) (c : Nat) (ls : List (List UInt8)) (b : Nat) (hb : b ≤ 5) (w : World) (B : Nat) (hr : Rd w B A (sv ls)) (hn : ls.length ≤ 20) (hm : ∀ s ∈ ls, s.length ≤ 30) :
    Calls Tryd.prog 10 #[.slice A ls.length c, .int .i64 (b : Int)] w fun e w' => e = .returned (.string (strOf (lineL b ls))) ∧ w = w' := by
  have HR := hide hr
  have HM := hide hm
  clear hr hm
  go_enter Tryd.func10, Tryd.ntmps10
  go_wp2_with fail
  go_loop [1, 5] (fun x y => ∃ k : Nat, k ≤ b ∧ x = .int .i64 k ∧ y = .string (strOf (List.replicate (b - k) 32))) (fun x _ => (intOf x).toNat)
  case atStart => exact ⟨b, Nat.le_refl _, rfl, by rw [Nat.sub_self]; rfl⟩
  case round =>
    obtain ⟨k, hk, rfl, rfl⟩ := hrel
    by_cases h0 : 0 < k
    · have hadd : ∀ w, (Op.stringOp .add (strOf (List.replicate (b - k) 32)) { data := #[32] }).run Tryd.prog w = .ok (.string (strOf (List.replicate (b - k) 32 ++ [32]))) w := run_add_str (P := Tryd.prog) _ [32] (by simp; omega)
      go_wp2_with fail
      go_round
      case rel => exact ⟨k - 1, by omega, by go_num, by rw [show b - (k - 1) = (b - k) + 1 by omega, List.replicate_succ']⟩
      case measure => simp [intOf]; omega
    · have hk0 : k = 0 := by omega
      subst hk0
      rw [Nat.sub_zero]
      go_wp2_with fail
      go_loop [6, 17] (fun y i => ∃ j : Nat, j ≤ ls.length ∧ i = .int .i64 j ∧ y = .string (strOf (lineL b (ls.take j)))) (fun _ i => ls.length - (intOf i).toNat)
      case atStart => exact ⟨0, Nat.zero_le _, rfl, rfl⟩
      case round =>
        obtain ⟨j, hj, rfl, rfl⟩ := hrel
        by_cases hlt : j < ls.length
        · obtain ⟨g, o, hA, hg, hc⟩ := HR.out (by rw [sv_length]; omega)
          subst hA
          have hc1 := hc j _ (sv_get ls j hlt)
          have hlen := HM.out ls[j] (List.getElem_mem hlt)
          have hll := lineL_length b hb (ls.take j) (fun s hs => HM.out s (List.mem_of_mem_take hs))
          have hltk : (ls.take j).length = j := by rw [List.length_take]; omega
          rw [hltk] at hll
          have hR : (List.replicate b (32 : UInt8)).length = b := by simp
          clear hc
          by_cases hj0 : 0 < j
          · have hsucc := lineL_succ b ls j hj0 hlt
            have HS := hide hsucc
            clear hsucc
            generalize ls[j] = s at *
            generalize lineL b (ls.take j) = L at *
            generalize List.replicate b (32 : UInt8) = R at *
            obtain ⟨L1, a1, e1⟩ := add_named (P := Tryd.prog) L [44] (by simp; omega)
            obtain ⟨L2, a2, e2⟩ := add_named (P := Tryd.prog) L1 R (by rw [e1.out]; simp; omega)
            obtain ⟨L3, a3, e3⟩ := add_named (P := Tryd.prog) L2 s (by rw [e2.out, e1.out]; simp; omega)
            obtain ⟨L4, a4, e4⟩ := add_named (P := Tryd.prog) L3 R (by rw [e3.out, e2.out, e1.out]; simp; omega)
            have a1' : ∀ w, (Op.stringOp .add (strOf L) { data := #[44] }).run Tryd.prog w = .ok (.string (strOf L1)) w := a1
            clear a1
            go_wp2_with fail
            go_round
            case rel => exact ⟨j + 1, by omega, by go_num, by rw [HS.out, e4.out, e3.out, e2.out, e1.out]⟩
            case measure => simp [intOf]; omega
          · have hj1 : j = 0 := by omega
            subst hj1
            rw [Nat.add_zero] at hc1
            have hsucc := lineL_zero b ls hlt
            have HS := hide hsucc
            clear hsucc
            generalize ls[0] = s at *
            generalize lineL b (ls.take 0) = L at *
            generalize List.replicate b (32 : UInt8) = R at *
            obtain ⟨L2, a2, e2⟩ := add_named (P := Tryd.prog) L R (by omega)
            obtain ⟨L3, a3, e3⟩ := add_named (P := Tryd.prog) L2 s (by rw [e2.out]; simp; omega)
            obtain ⟨L4, a4, e4⟩ := add_named (P := Tryd.prog) L3 R (by rw [e3.out, e2.out]; simp; omega)
            go_wp2_with fail
            go_round
            case rel => exact ⟨1, by omega, by go_num, by rw [HS.out, e4.out, e3.out, e2.out]⟩
            case measure => simp [intOf]; omega
        · have hfin : lineL b (ls.take j) = lineL b ls := by rw [List.take_of_length_le (by omega)]
          have HF := hide hfin
          clear hfin
          go_wp2_with fail
          go_ret
          exact ⟨ret_str HF.out, rfl⟩
end Go.Proofs.YtcmfbbldojhbeaaDoor
