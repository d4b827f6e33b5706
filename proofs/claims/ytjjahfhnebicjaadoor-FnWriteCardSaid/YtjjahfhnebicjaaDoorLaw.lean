/- zzFits, isBuffer, writes; the messages of the law as the program has them. -/
import Derived.Test.YtjjahfhnebicjaaDoorAre
namespace Go.Proofs.YtjjahfhnebicjaaDoor
open Go.ChangeShapes Go.WideShapes Go.ChangeAt Go.RowKit

def FitLeft (p : Prop) (w : World) (e : Ending) (w' : World) : Prop := ∃ b, e = .returned (.bool b) ∧ (b = true → p) ∧ Below w.heap.size w w'
theorem FitLeft.no {p : Prop} {w w' : World} (hb : Below w.heap.size w w') : FitLeft p w (.returned (.bool false)) w' := ⟨false, rfl, (fun h => by cases h), hb⟩
theorem FitLeft.yes {p : Prop} {w w' : World} (h : p) (hb : Below w.heap.size w w') : FitLeft p w (.returned (.bool true)) w' := ⟨true, rfl, (fun _ => h), hb⟩

set_option maxRecDepth 10000 in
theorem zzFits4 (ty : Int) (A : Option Addr) (n c : Nat) (code : Int) (text : List UInt8) (w : World) :
    Calls Tryd.prog 11 #[.agg #[.int .i64 ty, .slice A n c, .int .i64 code, .string (strOf text)]] w (FitLeft (n ≤ 3000000000 ∧ text.length ≤ 3000000000) w) := by
  have hb1 : ∀ o, Below w.heap.size w (w.alloc o) := fun o => (Below.refl _ _).alloc (Nat.le_refl _) _
  have hz : (strOf text).size = text.length := strOf_size _
  have HB1 := hide hb1
  clear hb1
  by_cases h1 : 2147483647 < n
  · have d1 : decide ((2147483647 : Int) < (n : Int)) = true := decide_eq_true (by omega)
    go_enter Tryd.func11, Tryd.ntmps11
    go_wp2_with fail
    all_goals (
      go_ret
      exact FitLeft.no (HB1.out _))
  · have d1 : decide ((2147483647 : Int) < (n : Int)) = false := decide_eq_false (by omega)
    have H1 := hide h1
    by_cases h2 : 2147483647 < text.length
    · have d2 : decide ((2147483647 : Int) < (text.length : Int)) = true := decide_eq_true (by omega)
      go_enter Tryd.func11, Tryd.ntmps11
      go_wp2_with fail
      all_goals (
        go_ret
        exact FitLeft.no (HB1.out _))
    · have d2 : decide ((2147483647 : Int) < (text.length : Int)) = false := decide_eq_false (by omega)
      have H2 := hide h2
      go_enter Tryd.func11, Tryd.ntmps11
      go_wp2_with fail
      go_ret
      exact FitLeft.yes ⟨by have := H1.out; omega, by have := H2.out; omega⟩ (HB1.out _)

set_option maxHeartbeats 1000000 in
set_option maxRecDepth 10000 in
theorem zzFits3 (rs : List RawM) (AL : Option Addr) (ac : Nat) (w : World) (hrs : RawsAt w w.heap.size AL rs) :
    Calls Tryd.prog 4 #[.slice AL rs.length ac] w (FitLeft (rs.length ≤ 3000000000 ∧ ∀ r ∈ rs, r.data.length ≤ 3000000000 ∧ r.text.length ≤ 3000000000) w) := by
  by_cases h1 : 2147483647 < rs.length
  · have d1 : decide ((2147483647 : Int) < (rs.length : Int)) = true := decide_eq_true (by omega)
    go_enter Tryd.func4, Tryd.ntmps4
    go_wp2_with fail
    all_goals (
      go_ret
      exact FitLeft.no (Below.refl _ _))
  · have d1 : decide ((2147483647 : Int) < (rs.length : Int)) = false := decide_eq_false (by omega)
    have HRs := hide hrs
    clear hrs
    go_enter Tryd.func4, Tryd.ntmps4
    go_wp2_with fail
    go_loopw [10] (fun jv wr => ∃ j : Nat, j ≤ rs.length ∧ jv = .int .i64 (j : Int) ∧ Hid (∀ (i : Nat) (h : i < rs.length), i < j → rs[i].data.length ≤ 3000000000 ∧ rs[i].text.length ≤ 3000000000) ∧ Hid (Below w.heap.size w wr)) (fun jv _ => rs.length - (intOf jv).toNat)
    case atStart => exact ⟨0, Nat.zero_le _, rfl, hide (fun i h h2 => by omega), hide (Below.refl _ _)⟩
    case round =>
      obtain ⟨j, hj, rfl, hgood, hbel⟩ := hrel
      have hsz := hbel.out.size
      rcases Nat.lt_or_eq_of_le hj with hlt | rfl
      · obtain ⟨g, o, hAL, hg, hc⟩ := HRs.out (by omega)
        subst hAL
        obtain ⟨A, c, e0, e1, e2, e3, _, _, _⟩ := (hc j hlt).below hg hbel.out
        have hb1 : ∀ ob, Below w.heap.size w (wr.alloc ob) := fun ob => hbel.out.alloc hsz _
        obtain ⟨r, hr⟩ : ∃ r, rs[j] = r := ⟨_, rfl⟩
        rw [hr] at e0 e1 e2 e3
        have kz := fun wx => zzFits4 r.ty A r.data.length c r.code r.text wx
        have KZ := hide kz
        have HR := hide hr
        have HB1 := hide hb1
        clear kz hr hb1 hc
        go_wp2_with fail
        refine (KZ.out _).mono ?_
        rintro e w2 ⟨b, rfl, hb, hbz⟩
        have hb2 : Below w.heap.size w w2 := (HB1.out _).trans (hbz.mono (by simp; omega))
        have HB2 := hide hb2
        have HBb := hide hb
        clear hbz hb2 hb
        cases b with
        | false =>
          go_wp2_with fail
          all_goals (
            go_ret
            exact FitLeft.no HB2.out)
        | true =>
          go_wp2_with fail
          go_roundw
          case rel =>
            refine ⟨j + 1, by omega, by go_num, hide (fun i hi hij => ?_), HB2⟩
            rcases Nat.lt_or_eq_of_le (Nat.le_of_lt_succ hij) with h9 | h9
            · exact hgood.out i hi h9
            · subst h9
              rw [HR.out]
              simpa using HBb.out
          case measure => simp [intOf]; omega
      · go_wp2_with fail
        go_ret
        refine FitLeft.yes ⟨by omega, fun r hr => ?_⟩ hbel.out
        obtain ⟨i, hi, e⟩ := List.getElem_of_mem hr
        rw [← e]
        exact hgood.out i hi hi

set_option maxRecDepth 10000 in
theorem isBuffer (sz : Int) (A : Option Addr) (n c : Nat) (w : World) :
    Calls Tryd.prog 5 #[.int .i64 sz, .slice A n c] w (FitLeft (1 ≤ sz ∧ sz ≤ 4096 ∧ n ≤ 20) w) := by
  by_cases h1 : 1 ≤ sz
  · have d1 : decide (1 ≤ sz) = true := decide_eq_true h1
    by_cases h2 : sz ≤ 4096
    · have d2 : decide (sz ≤ 4096) = true := decide_eq_true h2
      by_cases h3 : n ≤ 20
      · have d3 : decide ((n : Int) ≤ 20) = true := decide_eq_true (by omega)
        have H := hide (And.intro h1 (And.intro h2 h3))
        clear h1 h2
        go_enter Tryd.func5, Tryd.ntmps5
        go_wp2_with fail
        go_ret
        exact FitLeft.yes H.out (Below.refl _ _)
      · have d3 : decide ((n : Int) ≤ 20) = false := decide_eq_false (by omega)
        clear h1 h2
        go_enter Tryd.func5, Tryd.ntmps5
        go_wp2_with fail
        go_ret
        exact FitLeft.no (Below.refl _ _)
    · have d2 : decide (sz ≤ 4096) = false := decide_eq_false h2
      clear h1
      go_enter Tryd.func5, Tryd.ntmps5
      go_wp2_with fail
      go_ret
      exact FitLeft.no (Below.refl _ _)
  · have d1 : decide (1 ≤ sz) = false := decide_eq_false h1
    go_enter Tryd.func5, Tryd.ntmps5
    go_wp2_with fail
    go_ret
    exact FitLeft.no (Below.refl _ _)
end Go.Proofs.YtjjahfhnebicjaaDoor
