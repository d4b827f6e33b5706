/- spec.AreMessages. -/
import Derived.Test.YtjjahfhnebicjaaDoorFrames2
import Derived.Test.YtjjahfhnebicjaaDoorWords
namespace Go.Proofs.YtjjahfhnebicjaaDoor
open Go.ChangeShapes Go.WideShapes Go.ChangeAt Go.RowKit

set_option maxHeartbeats 2000000 in
theorem specIsPlainBig (xs : List UInt8) (hn : xs.length ≤ 4000000000) (w : World) :
    Calls Tryd.prog 13 #[.string (strOf xs)] w fun e w' => e = .returned (.bool (plainL xs)) ∧ w = w' := by
  go_enter Tryd.func13, Tryd.ntmps13
  go_wp2_with fail
  go_loop [3] (fun i => ∃ j : Nat, j ≤ xs.length ∧ i = .int .i64 j ∧ Hid (plainL xs = plainL (xs.drop j))) (fun i => xs.length - (intOf i).toNat)
  case atStart => exact ⟨0, Nat.zero_le _, rfl, hide rfl⟩
  case round =>
    obtain ⟨j, hj, rfl, hp⟩ := hrel
    by_cases hlt : j < xs.length
    · have hi := run_str_idx (P := Tryd.prog) 9 Tryd.underlying9 xs j hlt
      have hstep : plainL xs = ((decide (32 ≤ (xs[j]).toNat) && decide ((xs[j]).toNat ≤ 126)) && plainL (xs.drop (j + 1))) := by
        rw [hp.out, List.drop_eq_getElem_cons hlt]
        rfl
      have HStep := hide hstep
      have hm : (xs[j]).toNat ≤ 255 := by have := (xs[j]).toNat_lt; omega
      clear hstep hp
      generalize (xs[j]).toNat = m at *
      have hsz : (strOf xs).size = xs.length := strOf_size xs
      by_cases h1 : m ≤ 31
      · go_wp2_with fail
        go_ret
        exact ⟨ret_bool (by rw [HStep.out, decide_eq_false (by omega : ¬ 32 ≤ m)]; rfl), rfl⟩
      · by_cases h2 : 127 ≤ m
        · go_wp2_with fail
          go_ret
          exact ⟨ret_bool (by rw [HStep.out, decide_eq_false (by omega : ¬ m ≤ 126)]; simp), rfl⟩
        · go_wp2_with fail
          go_round
          case rel => exact ⟨j + 1, by omega, by go_num, hide (by rw [HStep.out, decide_eq_true (by omega : 32 ≤ m), decide_eq_true (by omega : m ≤ 126)]; rfl)⟩
          case measure => simp [intOf]; omega
    · have hjx : j = xs.length := by omega
      have hfin := hp.out
      rw [hjx, List.drop_length] at hfin
      have HF := hide hfin
      clear hjx hfin
      go_wp2_with fail
      go_ret
      exact ⟨ret_bool (by rw [HF.out]; rfl), rfl⟩
set_option maxHeartbeats 1000000 in
theorem specCloseBig (code : Nat) (hcode : code < 65536) (ys : List UInt8) (hy : ys.length ≤ 4000000000) (w : World) :
    Calls Tryd.prog 14 #[.int .i64 (code : Int), .string (strOf ys)] w fun e w' => ∃ r xs, e = .returned r ∧ xs = closeL code ys ∧ w'.ownsRow w.heap.size 5 1 r xs.length (bv xs) ∧ Below w.heap.size w w' := by
  by_cases h5 : code = 1005
  · subst h5
    go_enter Tryd.func14, Tryd.ntmps14
    go_wp2_with fail
    go_ret
    exact ⟨_, [], rfl, rfl, World.ownsRow_nil _ _ _ _, Below.refl _ _⟩
  · have h5' : ((code : Int) == 1005) = false := beq_eq_false_iff_ne.2 (by omega)
    obtain ⟨i0, hi0, hz0, hz1, hz2⟩ := info_parts Tryd.info_u8
    go_enter Tryd.func14, Tryd.ntmps14
    go_wp2_with fail
    refine (fixed_2 code hcode _).mono ?_
    rintro e w1 ⟨r, rfl, hown, hbel⟩
    have HO := hide hown
    have HB := hide hbel
    clear hown hbel
    go_wp2_with (at_builtin; refine wpList_app_str _ rfl (.tmp 8) (.tmp 9) _ _ rfl w.heap.size 5 i0 _ 1 Tryd.underlying26 Tryd.underlying9 hi0 hz0 hz1 hz2 rfl r 2 (bv (be2 code)) rfl HO.out ys rfl (by simp only [maxLen]; omega) (by omega) HB.out.size ?_; intro v2 w2 hown2 hg2 hat2)
    go_ret
    refine ⟨v2, be2 code ++ ys, rfl, by rw [closeL, if_neg h5], ?_, ?_⟩
    · have := hown2.out
      rw [← bv_append, show 2 + ys.length = (be2 code ++ ys).length by simp [be2]; omega] at this
      exact this
    · exact HB.out.grown hg2.out HB.out.size (fun i e => (HO.out.lt i e).1)


/-- A message as it is handed in. -/
structure RawM where
  ty : Int
  data : List UInt8
  code : Int
  text : List UInt8
def RawAt (w : World) (B g o : Nat) (r : RawM) : Prop := ∃ A c, w.cell? ⟨g, o, none⟩ = some (.int .i64 r.ty) ∧ w.cell? ⟨g, o + 1, none⟩ = some (.slice A r.data.length c) ∧ w.cell? ⟨g, o + 2, none⟩ = some (.int .i64 r.code) ∧ w.cell? ⟨g, o + 3, none⟩ = some (.string (strOf r.text)) ∧
  Rd w B A (bv r.data) ∧ (A = none → r.data.length = 0 ∧ c = 0) ∧ r.data.length ≤ c
def RawsAt (w : World) (B : Nat) (AL : Option Addr) (rs : List RawM) : Prop := 0 < rs.length → ∃ g o, AL = some ⟨g, o, none⟩ ∧ g < B ∧ ∀ (j : Nat) (h : j < rs.length), RawAt w B g (o + j * 4) rs[j]
theorem RawAt.below {w w' : World} {B g o : Nat} {r : RawM} (h : RawAt w B g o r) (hg : g < B) (hb : Below B w w') : RawAt w' B g o r := by
  obtain ⟨A, c, h0, h1, h2, h3, hr, hn⟩ := h
  exact ⟨A, c, (hb.cell (p := ⟨g, o, none⟩) hg).trans h0, (hb.cell (p := ⟨g, o + 1, none⟩) hg).trans h1, (hb.cell (p := ⟨g, o + 2, none⟩) hg).trans h2, (hb.cell (p := ⟨g, o + 3, none⟩) hg).trans h3, hr.below hb, hn⟩
theorem RawsAt.below {w w' : World} {B : Nat} {AL : Option Addr} {rs : List RawM} (h : RawsAt w B AL rs) (hb : Below B w w') : RawsAt w' B AL rs := by
  intro hp
  obtain ⟨g, o, e, hg, hc⟩ := h hp
  exact ⟨g, o, e, hg, fun j hj => (hc j hj).below hg hb⟩
/-- What the first test of a message tells: the length of what goes out. -/
def PreOk (r : RawM) (last : Prop) (pl : Nat) : Prop :=
  (r.ty = 8 ∧ r.data.length = 0 ∧ last ∧ 0 ≤ r.code ∧ r.code < 65536 ∧ pl = (closeL r.code.toNat r.text).length ∧ (r.code = 1005 → r.text = [])) ∨ (r.ty ≠ 8 ∧ r.code = 0 ∧ r.text = [] ∧ pl = r.data.length)
def GoodM (r : RawM) (last : Prop) : Prop := ∃ pl, PreOk r last pl ∧ pl ≤ 4096 ∧ ((r.ty = 1 ∨ r.ty = 2) ∨ (8 ≤ r.ty ∧ r.ty ≤ 10 ∧ pl ≤ 125))
def GoodMs (rs : List RawM) : Prop := rs.length ≤ 20 ∧ ∀ (j : Nat) (h : j < rs.length), GoodM rs[j] (j + 1 = rs.length)
/-- What AreMessages leaves. -/
def AreLeft (rs : List RawM) (w : World) (e : Ending) (w' : World) : Prop := ∃ b, e = .returned (.bool b) ∧ (b = true → GoodMs rs) ∧ Below w.heap.size w w'
theorem AreLeft.no {rs : List RawM} {w w' : World} (hb : Below w.heap.size w w') : AreLeft rs w (.returned (.bool false)) w' := ⟨false, rfl, (fun h => by cases h), hb⟩
theorem AreLeft.of {rs : List RawM} {w w' : World} (b : Bool) (h : b = true → GoodMs rs) (hb : Below w.heap.size w w') : AreLeft rs w (.returned (.bool b)) w' := ⟨b, rfl, h, hb⟩
theorem okCode_range {c : Int} (h : okCode c = true) : 0 ≤ c ∧ c < 65536 := by
  unfold okCode inMap at h
  simp only [Bool.or_eq_true, Bool.and_eq_true, decide_eq_true_eq] at h
  omega

set_option maxHeartbeats 4000000 in
set_option maxRecDepth 10000 in
theorem areMessages (rs : List RawM) (AL : Option Addr) (ac : Nat) (w : World) (hrs : RawsAt w w.heap.size AL rs) (hn : rs.length ≤ 3000000000) (hbd : ∀ r ∈ rs, r.data.length ≤ 3000000000 ∧ r.text.length ≤ 3000000000) :
    Calls Tryd.prog 6 #[.slice AL rs.length ac] w (AreLeft rs w) := by
  have HRs := hide hrs
  have HBd := hide hbd
  clear hrs hbd
  go_enter Tryd.func6, Tryd.ntmps6
  go_wp2_with fail
  go_loopw [8] (fun jv wr => ∃ j : Nat, j ≤ rs.length ∧ jv = .int .i64 (j : Int) ∧ Hid (∀ (i : Nat) (h : i < rs.length), i < j → GoodM rs[i] (i + 1 = rs.length)) ∧ Hid (Below w.heap.size w wr)) (fun jv _ => rs.length - (intOf jv).toNat)
  case atStart => exact ⟨0, Nat.zero_le _, rfl, hide (fun i h h2 => by omega), hide (Below.refl _ _)⟩
  case round =>
    obtain ⟨j, hj, rfl, hgood, hbel⟩ := hrel
    have hsz := hbel.out.size
    rcases Nat.lt_or_eq_of_le hj with hlt | rfl
    · obtain ⟨g, o, hAL, hg, hc⟩ := HRs.out (by omega)
      subst hAL
      obtain ⟨A, c, d0, d1, d2, d3, _, _, _⟩ := (hc j hlt).below hg hbel.out
      have hbd := HBd.out rs[j] (List.getElem_mem hlt)
      have hb1 : ∀ ob, Below w.heap.size w (wr.alloc ob) := fun ob => hbel.out.alloc hsz _
      obtain ⟨r, hr⟩ : ∃ r, rs[j] = r := ⟨_, rfl⟩
      rw [hr] at d0 d1 d2 d3 hbd
      obtain ⟨ty, data, code, text⟩ := r
      dsimp only at d0 d1 d2 d3 hbd
      have HR := hide hr
      have HB1 := hide hb1
      clear hr hb1 hc
      go_upto_if 17 with fail
      go_cut [5, 8] from 8 to 94 (fun dv jv wx => jv = .int .i64 (j : Int) ∧ ∃ A1 pl c1, dv = .slice A1 pl c1 ∧ Hid (PreOk ⟨ty, data, code, text⟩ (j + 1 = rs.length) pl) ∧ pl ≤ 4000000002 ∧ Hid (Below w.heap.size w wx) ∧ Hid (wx.cell? ⟨wr.heap.size, 0, none⟩ = some (.int .i64 ty)))
      case first =>
        by_cases h8 : ty = 8
        · subst h8
          by_cases hd0 : 0 < data.length
          · have hdd : decide ((0 : Int) < (data.length : Int)) = true := decide_eq_true (by omega)
            go_wp2_with fail
            all_goals (
              go_ret
              exact AreLeft.no (HB1.out _))
          · have hdd : decide ((0 : Int) < (data.length : Int)) = false := decide_eq_false (by omega)
            obtain rfl : data = [] := List.eq_nil_of_length_eq_zero (by omega)
            clear hd0 hdd
            by_cases hl1 : (j : Int) < (rs.length : Int) - 1
            · have hld : decide ((j : Int) < (rs.length : Int) - 1) = true := decide_eq_true hl1
              go_wp2_with fail
              all_goals (
                go_ret
                exact AreLeft.no (HB1.out _))
            · have hld : decide ((j : Int) < (rs.length : Int) - 1) = false := decide_eq_false hl1
              have HL1 := hide (show j + 1 = rs.length by omega)
              have kp := fun w => specIsPlainBig text (by omega) w
              by_cases hc5 : code = 1005
              · subst hc5
                by_cases htx : text = []
                · subst htx
                  have kcl := fun w => specCloseBig 1005 (by omega) [] (by simp) w
                  have KCl := hide kcl
                  have KP := hide kp
                  clear kcl kp
                  go_wp2_with fail
                  refine (KP.out _).mono ?_
                  rintro e w' ⟨rfl, rfl⟩
                  rw [show plainL [] = true from rfl]
                  go_wp2_with fail
                  refine (KCl.out _).mono ?_
                  rintro e w3 ⟨r3, xs3, rfl, rfl, hown, hb3⟩
                  obtain ⟨A3, c3, rfl, _, _, _⟩ := own_shape hown
                  have hc3 := ((Blk.new wr 35 _).below hb3 (by simp)).cell 0
                  have hb3' : Below w.heap.size w w3 := (HB1.out _).trans (hb3.mono (by simp; omega))
                  have HC3 := hide hc3
                  have HB3 := hide hb3'
                  clear hown hb3 hb3' hc3
                  go_wp2_with fail
                  go_meet
                  case rel => exact ⟨rfl, A3, _, c3, rfl, hide (.inl ⟨rfl, rfl, HL1.out, by decide, by decide, rfl, fun _ => rfl⟩), by simp [closeL], HB3, HC3⟩
                · have hd : text.isEmpty = false := by cases text with | nil => exact absurd rfl htx | cons _ _ => rfl
                  have hd2 : (strOf text).toList.isEmpty = false := by rw [strOf_toList]; exact hd
                  clear kp
                  go_wp2_with fail
                  all_goals (
                    go_ret
                    exact AreLeft.no (HB1.out _))
              · have hc5b : (code == 1005) = false := beq_eq_false_iff_ne.2 hc5
                have ki := fun w => specIsCode code w
                cases hoc : okCode code with
                | false =>
                  rw [hoc] at ki
                  have KI := hide ki
                  clear ki kp hoc
                  go_wp2_with fail
                  refine (KI.out _).mono ?_
                  rintro e w' ⟨rfl, rfl⟩
                  go_wp2_with fail
                  all_goals (
                    go_ret
                    exact AreLeft.no (HB1.out _))
                | true =>
                  obtain ⟨hr0, hr1⟩ := okCode_range hoc
                  rw [hoc] at ki
                  obtain ⟨n, hnc⟩ : ∃ n : Nat, code = (n : Int) := ⟨code.toNat, by omega⟩
                  subst hnc
                  have kcl := fun w => specCloseBig n (by omega) text (by omega) w
                  have KI := hide ki
                  have KCl := hide kcl
                  have HN := hide (show n < 65536 by omega)
                  clear ki kcl hoc hr0 hr1
                  cases hpl : plainL text with
                  | false =>
                    rw [hpl] at kp
                    have KP := hide kp
                    clear kp hpl
                    go_wp2_with fail
                    refine (KI.out _).mono ?_
                    rintro e w' ⟨rfl, rfl⟩
                    go_wp2_with fail
                    refine (KP.out _).mono ?_
                    rintro e w' ⟨rfl, rfl⟩
                    go_wp2_with fail
                    all_goals (
                      go_ret
                      exact AreLeft.no (HB1.out _))
                  | true =>
                    rw [hpl] at kp
                    have KP := hide kp
                    clear kp hpl
                    go_wp2_with fail
                    refine (KI.out _).mono ?_
                    rintro e w' ⟨rfl, rfl⟩
                    go_wp2_with fail
                    refine (KP.out _).mono ?_
                    rintro e w' ⟨rfl, rfl⟩
                    go_wp2_with fail
                    refine (KCl.out _).mono ?_
                    rintro e w3 ⟨r3, xs3, rfl, hxs3, hown, hb3⟩
                    obtain ⟨A3, c3, rfl, _, _, _⟩ := own_shape hown
                    have hc3 := ((Blk.new wr 35 _).below hb3 (by simp)).cell 0
                    have hb3' : Below w.heap.size w w3 := (HB1.out _).trans (hb3.mono (by simp; omega))
                    have hxl : xs3.length ≤ 4000000002 := by
                      rw [hxs3]; unfold closeL; split
                      · simp
                      · rw [List.length_append]; simp [be2]; omega
                    have HC3 := hide hc3
                    have HB3 := hide hb3'
                    have HX3 := hide hxs3
                    clear hown hb3 hb3' hc3 hxs3
                    go_wp2_with fail
                    go_meet
                    case rel => exact ⟨rfl, A3, _, c3, rfl, hide (.inl ⟨rfl, rfl, HL1.out, by show (0 : Int) ≤ (n : Int); omega, by show (n : Int) < 65536; have := HN.out; omega, by rw [HX3.out]; rfl, fun h => absurd h hc5⟩), hxl, HB3, HC3⟩
        · have hb8 : (ty == 8) = false := beq_eq_false_iff_ne.2 h8
          by_cases hcz : code = 0
          · have hc0 : (code == 0) = true := by rw [hcz]; rfl
            by_cases htx : text = []
            · have hd : text.isEmpty = true := by rw [htx]; rfl
              have hd2 : (strOf text).toList.isEmpty = true := by rw [strOf_toList]; exact hd
              have H8 := hide h8
              have HCz := hide hcz
              have HTx := hide htx
              clear h8 hcz htx
              go_wp2_with fail
              go_meet
              case rel => exact ⟨rfl, A, _, c, rfl, hide (.inr ⟨H8.out, HCz.out, HTx.out, rfl⟩), by omega, hide (HB1.out _), hide ((Blk.new wr 35 _).cell 0)⟩
            · have hd : text.isEmpty = false := by cases text with | nil => exact absurd rfl htx | cons _ _ => rfl
              have hd2 : (strOf text).toList.isEmpty = false := by rw [strOf_toList]; exact hd
              clear h8 htx
              go_wp2_with fail
              all_goals (
                go_ret
                exact AreLeft.no (HB1.out _))
          · have hc0 : (code == 0) = false := beq_eq_false_iff_ne.2 hcz
            clear h8
            go_wp2_with fail
            all_goals (
              go_ret
              exact AreLeft.no (HB1.out _))
      case rest =>
      obtain ⟨rfl, A1, pl, c1, rfl, hpre, hpl, hbelq, hty⟩ := hcut
      obtain ⟨wq, hwq⟩ : ∃ wq, wq = wc := ⟨wc, rfl⟩
      subst hwq
      have hty0 := hty.out
      have kd := fun w => specIsData ty w
      have kct := fun w => specIsControl ty w
      have hno : ∀ wx, wq = wx → Below w.heap.size w wx := fun wx h => h ▸ hbelq.out
      have HPre := hide hpre.out
      by_cases hdt : ty = 1 ∨ ty = 2
      · have hd1 : isDataN ty = true := by unfold isDataN; rcases hdt with rfl | rfl <;> rfl
        have hc1 : (decide (8 ≤ ty) && decide (ty ≤ 10)) = false := by rcases hdt with rfl | rfl <;> rfl
        rw [hd1] at kd
        rw [hc1] at kct
        have KD := hide kd
        have KCt := hide kct
        have HDt := hide hdt
        clear kd kct hdt hd1 hc1
        by_cases hbig : 4096 < pl
        · have hbb : decide ((4096 : Int) < (pl : Int)) = true := decide_eq_true (by omega)
          go_wp2_with fail
          refine (KD.out _).mono ?_
          rintro e w' ⟨rfl, rfl⟩
          go_wp2_with fail
          refine (KCt.out _).mono ?_
          rintro e w' ⟨rfl, rfl⟩
          go_wp2_with fail
          all_goals (
            go_ret
            exact AreLeft.no (hno _ rfl))
        · have hbb : decide ((4096 : Int) < (pl : Int)) = false := decide_eq_false (by omega)
          have HBig := hide hbig
          go_wp2_with fail
          refine (KD.out _).mono ?_
          rintro e w' ⟨rfl, rfl⟩
          go_wp2_with fail
          refine (KCt.out _).mono ?_
          rintro e w' ⟨rfl, rfl⟩
          go_wp2_with fail
          go_roundw
          case rel =>
            refine ⟨j + 1, by omega, by go_num, hide (fun i hi hij => ?_), hbelq⟩
            rcases Nat.lt_or_eq_of_le (Nat.le_of_lt_succ hij) with h9 | h9
            · exact hgood.out i hi h9
            · subst h9
              rw [HR.out]
              exact ⟨pl, HPre.out, by have := HBig.out; omega, .inl HDt.out⟩
          case measure => simp [intOf]; omega
      · have hd1 : isDataN ty = false := by
          unfold isDataN
          rw [decide_eq_false (fun h => hdt (.inl h)), decide_eq_false (fun h => hdt (.inr h))]
          rfl
        rw [hd1] at kd
        have KD := hide kd
        clear kd hdt hd1
        cases hct : (decide (8 ≤ ty) && decide (ty ≤ 10)) with
        | false =>
          rw [hct] at kct
          have KCt := hide kct
          clear kct hct
          go_wp2_with fail
          refine (KD.out _).mono ?_
          rintro e w' ⟨rfl, rfl⟩
          go_wp2_with fail
          refine (KCt.out _).mono ?_
          rintro e w' ⟨rfl, rfl⟩
          go_wp2_with fail
          all_goals (
            go_ret
            exact AreLeft.no (hno _ rfl))
        | true =>
          have hct2 := hct
          rw [Bool.and_eq_true, decide_eq_true_eq, decide_eq_true_eq] at hct2
          rw [hct] at kct
          have KCt := hide kct
          have HCt := hide hct2
          clear kct hct hct2
          by_cases h125 : 125 < pl
          · have hbb : decide ((125 : Int) < (pl : Int)) = true := decide_eq_true (by omega)
            go_wp2_with fail
            refine (KD.out _).mono ?_
            rintro e w' ⟨rfl, rfl⟩
            go_wp2_with fail
            refine (KCt.out _).mono ?_
            rintro e w' ⟨rfl, rfl⟩
            go_wp2_with fail
            refine (KCt.out _).mono ?_
            rintro e w' ⟨rfl, rfl⟩
            go_wp2_with fail
            all_goals (
              go_ret
              exact AreLeft.no (hno _ rfl))
          · have hbb : decide ((125 : Int) < (pl : Int)) = false := decide_eq_false (by omega)
            have hbb2 : decide ((4096 : Int) < (pl : Int)) = false := decide_eq_false (by omega)
            have hbig : ¬ 4096 < pl := by omega
            have HBig := hide h125
            go_wp2_with fail
            refine (KD.out _).mono ?_
            rintro e w' ⟨rfl, rfl⟩
            go_wp2_with fail
            refine (KCt.out _).mono ?_
            rintro e w' ⟨rfl, rfl⟩
            go_wp2_with fail
            refine (KCt.out _).mono ?_
            rintro e w' ⟨rfl, rfl⟩
            go_wp2_with fail
            go_roundw
            case rel =>
              refine ⟨j + 1, by omega, by go_num, hide (fun i hi hij => ?_), hbelq⟩
              rcases Nat.lt_or_eq_of_le (Nat.le_of_lt_succ hij) with h9 | h9
              · exact hgood.out i hi h9
              · subst h9
                rw [HR.out]
                exact ⟨pl, HPre.out, by have := HBig.out; omega, .inr ⟨HCt.out.1, HCt.out.2, by have := HBig.out; omega⟩⟩
            case measure => simp [intOf]; omega
    · go_wp2_with fail
      go_ret
      refine AreLeft.of _ (fun h => ?_) hbel.out
      simp at h
      exact ⟨by omega, fun i hi => hgood.out i hi hi⟩
end Go.Proofs.YtjjahfhnebicjaaDoor
