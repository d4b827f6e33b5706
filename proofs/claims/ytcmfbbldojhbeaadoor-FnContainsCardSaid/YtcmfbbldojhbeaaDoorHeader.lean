/- tokenListContainsValue over lines of tokens; the map of one key; impl.Contains. -/
import Derived.Test.YtcmfbbldojhbeaaDoorTokLaw
import Derived.Test.YtcmfbbldojhbeaaDoorLower
import Derived.WideMake
import Derived.MapKept
import Derived.Deep.LoopGhost
namespace Go.Proofs.YtcmfbbldojhbeaaDoor
open Go.ChangeShapes Go.WideShapes Go.ChangeAt Go.RowKit

/-- A map with one key, a string. -/
theorem run_lookup_one {P : Program} (w : World) (mt kt et : TypeId) (hm : P.underlying mt = some (.map kt et)) (hk : P.underlying kt = some .string) (r born clock : Nat) (s : ByteArray) (v : Value)
    (hb : w.heap[r]? = some (.map #[{ key := .string s, val := v, born := born }] clock)) : (Instr.lookup mt (.map (some r)) (.string s) false).run P w = .ok v w := by
  have hik : MapKept.IsKey .string (.string s) := by simp [MapKept.IsKey]
  have hf : Instr.findNow .string (.string s) ([{ key := .string s, val := v, born := born }] : List MapEntry) 0 = some (some (0, v)) := by
    rcases MapKept.findNow_spec hik [{ key := .string s, val := v, born := born }] 0 (fun x hx => by simp at hx; subst hx; exact hik) with ⟨_, h⟩ | ⟨j, e, h1, h2, _⟩
    · exact absurd rfl (h { key := .string s, val := v, born := born } (by simp))
    · cases j with
      | zero => simp at h2; subst h2; exact h1
      | succ j => simp at h2
  have hc : (Instr.checkKey false 10000 kt (.string s)).run P w = .ok () w := MapKept.run_checkKey (k := .string s) hk hik false 9999
  simp [Instr.lookup, run_underlying hm, MapKept.run_getObj_map hb, hc, MapKept.run_findKey hk hf, Result.andThen]

/-- Whether a line has the token. -/
def hit (v : List UInt8) (ls : List (List UInt8)) : Bool := ls.any fun s => decide (lowL s = lowL v)
def anyHit (v : List UInt8) (lss : List (List (List UInt8))) : Bool := lss.any (hit v)
theorem hit_cons (v s : List UInt8) (r : List (List UInt8)) : hit v (s :: r) = (decide (lowL s = lowL v) || hit v r) := rfl
theorem anyHit_cons (v : List UInt8) (l : List (List UInt8)) (r : List (List (List UInt8))) : anyHit v (l :: r) = (hit v l || anyHit v r) := rfl
theorem okB_low {x : UInt8} (h : okB x = true) : x.toNat < 128 := by
  have h : okN x.toNat = true := h
  simp only [okN, Bool.or_eq_true, Bool.and_eq_true, decide_eq_true_eq] at h
  omega
theorem okTok_ascii {s : List UInt8} (h : okTok s = true) : Ascii s := fun x hx => okB_low ((okTok_parts h).1 x hx)
theorem areTok_parts {ls : List (List UInt8)} (h : areTok ls = true) : (∀ s ∈ ls, okTok s = true) ∧ ls.length ≤ 20 := by
  unfold areTok at h
  simp only [Bool.and_eq_true, decide_eq_true_eq, List.all_eq_true] at h
  exact h

/-- One token off a line that is made of tokens. -/
theorem line_off (b : Nat) (s : List UInt8) (r : List (List UInt8)) (h : okTok s = true) : tokOf (skipL (lineL b (s :: r))) = s ∧ skipL (tokRest (skipL (lineL b (s :: r)))) = lineT b r := by
  have hy : (lineT b r).head?.all (fun x => !tokB x && !blankB x) = true := by
    cases r with
    | nil => rfl
    | cons a r => rfl
  exact item_off b s (lineT b r) h hy
theorem lineT_cons (b : Nat) (s : List UInt8) (r : List (List UInt8)) : lineT b (s :: r) = 44 :: lineL b (s :: r) := rfl

set_option maxHeartbeats 8000000 in
set_option maxRecDepth 8192 in
theorem tokenList (m n c : Nat) (A : Option Addr) (name : ByteArray) (b : Nat) (lss : List (List (List UInt8))) (v : List UInt8) (w : World) (clock born : Nat)
    (hn : lss.length = n) (h10 : n ≤ 20) (hb : b ≤ 5) (hmap : w.heap[m]? = some (.map #[{ key := .string name, val := .slice A n c, born := born }] clock))
    (hr : Rd w w.heap.size A (sv (lss.map (lineL b)))) (hall : ∀ l ∈ lss, areTok l = true ∧ l ≠ []) (hv : Ascii v) (hT : Tok w) :
    Calls Tryd.prog 28 #[.map (some m), .string name, .string (strOf v)] w fun e w' => e = .returned (.bool (anyHit v lss)) ∧ Below w.heap.size w w' := by
  have hlk := run_lookup_one (P := Tryd.prog) w 40 9 22 Tryd.underlying40 Tryd.underlying9 m born clock name _ hmap
  have hlen : (sv (lss.map (lineL b))).length = n := by rw [sv_length, List.length_map]; exact hn
  have HR := hide hr
  have HT := hide hT
  have HLen := hide hlen
  have HAll := hide hall
  have HV := hide hv
  have HNn := hide hn
  have hpos : 1 ≤ w.heap.size := hT.1
  clear hr hT hmap hlen hall hv hn
  go_enter Tryd.func28, Tryd.ntmps28
  go_wp2_with fail
  go_step3
  go_wp2_with fail
  go_step3
  go_wp2_with fail
  go_loopg [14] n (fun g0 i wr => ∃ k : Nat, k + g0 = n ∧ i = .int .i64 (k : Int) ∧ Hid (anyHit v lss = anyHit v (lss.drop k)) ∧ Hid (Below w.heap.size w wr))
  case atStart => exact ⟨0, by omega, rfl, hide rfl, hide (Below.refl _ _)⟩
  case round =>
    obtain ⟨k, hkg, rfl, hrec, hbel⟩ := hrel
    cases gk with
    | succ go =>
      have hlt : k < n := by omega
      have hkl : k < lss.length := by have := HNn.out; omega
      obtain ⟨g, o, hA, hg, hc⟩ := HR.out (by rw [HLen.out]; omega)
      subst hA
      have hget : (sv (lss.map (lineL b)))[k]? = some (.string (strOf (lineL b lss[k]))) := by
        rw [sv_get _ _ (by rw [List.length_map]; exact hkl), List.getElem_map]
      have hc1 : wr.cell? ⟨g, o + k, none⟩ = some (.string (strOf (lineL b lss[k]))) := by rw [hbel.out.cell hg]; exact hc k _ hget
      have hstep : anyHit v lss = (hit v lss[k] || anyHit v (lss.drop (k + 1))) := by
        rw [hrec.out, List.drop_eq_getElem_cons hkl]; rfl
      have hl := HAll.out lss[k] (List.getElem_mem hkl)
      obtain ⟨hl1, hl2⟩ := areTok_parts hl.1
      have hlne := hl.2
      have HStep := hide hstep
      have HL1 := hide hl1
      have HNe := hide hlne
      clear hc hget hstep hl hl1 hlne hrec
      generalize lss[k] = ls at *
      clear hkl
      go_wp2_with fail
      go_loopg [8] ls.length (fun g2 s wi => ∃ (t : List UInt8) (r : List (List UInt8)), s = .string (strOf (lineL b (t :: r))) ∧ (t :: r).length ≤ 20 ∧ Hid ((t :: r).length = g2) ∧ Hid (hit v ls = hit v (t :: r)) ∧ Hid (∀ x ∈ t :: r, okTok x = true) ∧ Hid (Below w.heap.size w wi))
      case atStart =>
        cases hcs : ls with
        | nil => exact absurd hcs HNe.out
        | cons t r => subst hcs; exact ⟨t, r, rfl, hl2, hide rfl, hide rfl, HL1, hbel⟩
      case round =>
        obtain ⟨t, r, rfl, hl20, hgl, hhit, hok, hbi⟩ := hrel
        have htok := hok.out t (by simp)
        have hoff := line_off b t r htok
        have hlen := lineL_length b hb (t :: r) (fun x hx => (okTok_parts (hok.out x hx)).2.2)
        have hls := skipL_length (lineL b (t :: r))
        have hlt2 := tok_length (skipL (lineL b (t :: r)))
        have htl := (okTok_parts htok).2.1
        have hkl1 : ∀ w, Calls Tryd.prog 25 #[.string (strOf (lineL b (t :: r)))] w fun e w' => e = .returned (.string (strOf (skipL (lineL b (t :: r))))) ∧ w = w' := fun w => skipSpace _ (by omega) w
        have hkl2 : ∀ w, Tok w → Calls Tryd.prog 24 #[.string (strOf (skipL (lineL b (t :: r))))] w fun e w' => e = .returned (.tuple #[.string (strOf t), .string (strOf (tokRest (skipL (lineL b (t :: r)))))]) ∧ Below w.heap.size w w' := by
          intro w hT
          have h := nextToken (skipL (lineL b (t :: r))) (by omega) w hT
          rwa [hoff.1] at h
        have hkl3 : ∀ w, Calls Tryd.prog 25 #[.string (strOf (tokRest (skipL (lineL b (t :: r)))))] w fun e w' => e = .returned (.string (strOf (lineT b r))) ∧ w = w' := by
          intro w
          have h := skipSpace (tokRest (skipL (lineL b (t :: r)))) (by omega) w
          rwa [hoff.2] at h
        have hkl4 : ∀ w, Calls Tryd.prog 27 #[.string (strOf t), .string (strOf v)] w fun e w' => e = .returned (.bool (decide (lowL t = lowL v))) ∧ w = w' := fun w => equalFold t v (okTok_ascii htok) HV.out w
        have hne := nonempty_isEmpty t (by intro e; rw [e] at htl; simp at htl)
        have hTi : Tok wr := HT.out.below hbi.out
        have K1 := hide hkl1
        have K2 := hide hkl2
        have K3 := hide hkl3
        have K4 := hide hkl4
        have HTi := hide hTi
        have hszi := hbi.out.size
        have hhit2 := hhit.out
        rw [hit_cons] at hhit2
        have HHit := hide hhit2
        clear hkl1 hkl2 hkl3 hkl4 hoff hTi hhit hhit2 htok hlen hls hlt2 htl
        generalize hsx : strOf (lineL b (t :: r)) = sx at *
        generalize skipL (lineL b (t :: r)) = s1 at *
        generalize tokRest s1 = s2 at *
        generalize hst : strOf t = st at *
        generalize hsv : strOf v = sv1 at *
        cases hm : decide (lowL t = lowL v) with
        | true =>
          rw [hm] at K4 HHit
          cases r with
          | nil =>
            have he : strOf (lineT b []) = { data := #[] } := rfl
            rw [he] at K3
            go_wp2_with (first
              | (go_at_call_of 25 (Value.string sx); refine (K1.out _).mono ?_; rintro e w' ⟨rfl, rfl⟩)
              | (go_at_call 24; refine (K2.out _ HTi.out).mono ?_; rintro e w1 ⟨rfl, hb1⟩; have HB1 := hide hb1; clear hb1)
              | (go_at_call 25; refine (K3.out _).mono ?_; rintro e w' ⟨rfl, rfl⟩)
              | (go_at_call 27; refine (K4.out _).mono ?_; rintro e w' ⟨rfl, rfl⟩))
            try rw [Exit.noGoto_ret]
            go_ret
            exact ⟨ret_bool (by rw [HStep.out, HHit.out]; rfl), hbi.out.trans (HB1.out.mono hszi)⟩
          | cons a r =>
            have hi := run_str_idx (P := Tryd.prog) 9 Tryd.underlying9 (lineT b (a :: r)) 0 (by rw [lineT_cons]; simp)
            have h44 : (lineT b (a :: r))[0]'(by rw [lineT_cons]; simp) = 44 := rfl
            rw [h44, show (((44 : UInt8).toNat : Nat) : Int) = 44 from rfl, show ((0 : Nat) : Int) = 0 from rfl] at hi
            have hne2 := nonempty_isEmpty (lineT b (a :: r)) (by rw [lineT_cons]; simp)
            clear h44
            generalize strOf (lineT b (a :: r)) = st2 at *
            go_wp2_with (first
              | (go_at_call_of 25 (Value.string sx); refine (K1.out _).mono ?_; rintro e w' ⟨rfl, rfl⟩)
              | (go_at_call 24; refine (K2.out _ HTi.out).mono ?_; rintro e w1 ⟨rfl, hb1⟩; have HB1 := hide hb1; clear hb1)
              | (go_at_call 25; refine (K3.out _).mono ?_; rintro e w' ⟨rfl, rfl⟩)
              | (go_at_call 27; refine (K4.out _).mono ?_; rintro e w' ⟨rfl, rfl⟩))
            try rw [Exit.noGoto_ret]
            go_ret
            exact ⟨ret_bool (by rw [HStep.out, HHit.out]; rfl), hbi.out.trans (HB1.out.mono hszi)⟩
        | false =>
          rw [hm] at K4 HHit
          cases r with
          | nil =>
            have he : strOf (lineT b []) = { data := #[] } := rfl
            rw [he] at K3
            go_wp2_with (first
              | (go_at_call_of 25 (Value.string sx); refine (K1.out _).mono ?_; rintro e w' ⟨rfl, rfl⟩)
              | (go_at_call 24; refine (K2.out _ HTi.out).mono ?_; rintro e w1 ⟨rfl, hb1⟩; have HB1 := hide hb1; clear hb1)
              | (go_at_call 25; refine (K3.out _).mono ?_; rintro e w' ⟨rfl, rfl⟩)
              | (go_at_call 27; refine (K4.out _).mono ?_; rintro e w' ⟨rfl, rfl⟩))
            go_roundg go
            case measure => omega
            case rel => exact ⟨k + 1, by omega, by go_num, hide (by rw [HStep.out, HHit.out]; rfl), hide (hbi.out.trans (HB1.out.mono hszi))⟩
          | cons a r =>
            have hi := run_str_idx (P := Tryd.prog) 9 Tryd.underlying9 (lineT b (a :: r)) 0 (by rw [lineT_cons]; simp)
            have h44 : (lineT b (a :: r))[0]'(by rw [lineT_cons]; simp) = 44 := rfl
            rw [h44, show (((44 : UInt8).toNat : Nat) : Int) = 44 from rfl, show ((0 : Nat) : Int) = 0 from rfl] at hi
            have hne2 := nonempty_isEmpty (lineT b (a :: r)) (by rw [lineT_cons]; simp)
            have hcut := run_str_from (P := Tryd.prog) 9 Tryd.underlying9 (lineT b (a :: r)) 1 (by rw [lineT_cons]; simp)
            have hd : (lineT b (a :: r)).drop 1 = lineL b (a :: r) := rfl
            rw [hd, show ((1 : Nat) : Int) = 1 from rfl] at hcut
            have hl20' : (a :: r).length ≤ 20 := by simp at hl20 ⊢; omega
            have HL20 := hide hl20'
            have hhit3 : hit v ls = hit v (a :: r) := by rw [HHit.out]; rfl
            have HH3 := hide hhit3
            clear h44 hd hl20' hhit3 HHit
            generalize strOf (lineT b (a :: r)) = st2 at *
            generalize hsl2 : strOf (lineL b (a :: r)) = sl2 at *
            go_wp2_with (first
              | (go_at_call_of 25 (Value.string sx); refine (K1.out _).mono ?_; rintro e w' ⟨rfl, rfl⟩)
              | (go_at_call 24; refine (K2.out _ HTi.out).mono ?_; rintro e w1 ⟨rfl, hb1⟩; have HB1 := hide hb1; clear hb1)
              | (go_at_call 25; refine (K3.out _).mono ?_; rintro e w' ⟨rfl, rfl⟩)
              | (go_at_call 27; refine (K4.out _).mono ?_; rintro e w' ⟨rfl, rfl⟩))
            go_roundg (a :: r).length
            case measure => have := hgl.out; simp at this ⊢; omega
            case rel => exact ⟨a, r, by rw [hsl2], HL20.out, hide rfl, HH3, hide (fun x hx => hok.out x (by simp at hx ⊢; exact .inr hx)), hide (hbi.out.trans (HB1.out.mono hszi))⟩
    | zero =>
      have hlt : ¬ ((k : Int) < (n : Int)) := by omega
      have hfin : anyHit v lss = false := by
        rw [hrec.out, List.drop_eq_nil_of_le (by have := HNn.out; omega)]; rfl
      have HF := hide hfin
      clear hfin hrec
      go_wp2_with fail
      try rw [Exit.noGoto_ret]
      go_ret
      exact ⟨ret_bool HF.out.symm, hbel.out⟩
end Go.Proofs.YtcmfbbldojhbeaaDoor
