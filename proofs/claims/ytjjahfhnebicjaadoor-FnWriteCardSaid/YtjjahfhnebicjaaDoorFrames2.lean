/- spec.Frames. -/
import Derived.Test.YtjjahfhnebicjaaDoorFrames
import Derived.Deep.CutBlock
import Derived.Deep.LoopGhost
namespace Go.Proofs.YtjjahfhnebicjaaDoor
open Go.ChangeShapes Go.WideShapes Go.ChangeAt Go.RowKit

def remF (cut : Bool) (S t : Nat) (ds : List UInt8) : List Fm := if cut then cutL S t ds else [⟨true, t, ds⟩]
theorem msgFms_eq (srv : Bool) (S : Nat) (m : Msg) : msgFms srv S m = remF (!srv && isDataN (m.ty : Int)) S m.ty m.pay := by
  unfold msgFms remF isDataN
  cases srv with
  | true => simp
  | false =>
    by_cases h : m.ty = 1 ∨ m.ty = 2
    · rw [if_pos ⟨rfl, h⟩, if_pos (by simp; omega)]
    · rw [if_neg (by rintro ⟨_, q⟩; exact h q), if_neg (by simp; omega)]
theorem frs_pre (srv : Bool) (S : Nat) (ms : List Msg) (j : Nat) : (frs srv S (ms.take j)).length ≤ (frs srv S ms).length := by
  have h : frs srv S ms = frs srv S (ms.take j) ++ frs srv S (ms.drop j) := by
    unfold frs
    rw [← List.flatMap_append, List.take_append_drop]
  rw [h, List.length_append]
  omega
theorem cells_new3 (w : World) (t : TypeId) (cs : List Value) : ∀ j u, cs[j]? = some u → (w.alloc (.cells cs.toArray t)).cell? ((⟨w.heap.size, 0, none⟩ : Addr).add j) = some u := by
  intro j u hu
  rw [addr_add, Nat.zero_add, (Blk.new w t cs).cell]
  exact hu
theorem FmV.one (x : FmV) : ∀ u ∈ x.cells, u.oneCell' = true := by
  intro u hu
  simp [FmV.cells] at hu
  rcases hu with rfl | rfl | rfl <;> rfl

theorem remF_cut (cut : Bool) (S t : Nat) (ds : List UInt8) (h0 : 0 < S) (h : (cut && decide (S < ds.length)) = true) : remF cut S t ds = ⟨false, t, ds.take S⟩ :: remF cut S 0 (ds.drop S) := by
  rw [Bool.and_eq_true, decide_eq_true_eq] at h
  unfold remF
  rw [if_pos h.1, if_pos h.1, cutL_long h0 h.2]
theorem remF_end (cut : Bool) (S t : Nat) (ds : List UInt8) (h : (cut && decide (S < ds.length)) = false) : remF cut S t ds = [⟨true, t, ds⟩] := by
  unfold remF
  cases cut with
  | false => rfl
  | true =>
    rw [Bool.true_and, decide_eq_false_iff_not] at h
    rw [if_pos rfl, cutL_short (by omega)]

set_option maxHeartbeats 2000000 in
set_option maxRecDepth 10000 in
theorem specFrames (srv : Bool) (size : Nat) (h1 : 1 ≤ size) (h2 : size ≤ 4096) (ms : List Msg) (AL : Option Addr) (ac : Nat) (w : World) (hms : MsgsAt w w.heap.size AL ms) (hn : ms.length ≤ 100) (hok : ∀ m ∈ ms, MsgOk m)
    (hfn : (frs srv size ms).length ≤ 1000000) :
    Calls Tryd.prog 8 #[.bool srv, .int .i64 (size : Int), .slice AL ms.length ac] w fun e w' => ∃ FA fc, e = .returned (.slice FA (frs srv size ms).length fc) ∧ FmsAt w' w'.heap.size FA (frs srv size ms) ∧ Below w.heap.size w w' := by
  obtain ⟨i0, hi0, hz0, hz1, hz2⟩ := info_parts Tryd.info_u8
  obtain ⟨iF, hiF, hzF, hsF, hbF⟩ := info_parts Tryd.info_frame
  have h00 : FrAt w (w.alloc (.cells #[] 41)) (.slice (some ⟨w.heap.size, 0, none⟩) 0 0) [] :=
    ⟨World.ownsRow_lit w #[] 0 (Nat.le_refl _) (by simp [maxLen]) rfl, (fun x hx => by cases hx), (Below.refl _ _).alloc (Nat.le_refl _) _⟩
  have H00 := hide h00
  have HMs := hide hms
  have HOk := hide hok
  clear h00 hms hok
  go_enter Tryd.func8, Tryd.ntmps8
  go_wp2_with fail
  go_loopw [7, 15] (fun r jv wr => ∃ (j : Nat) (fv : List FmV), j ≤ ms.length ∧ jv = .int .i64 (j : Int) ∧ Hid (fv.map FmV.f = frs srv size (ms.take j)) ∧ Hid (FrAt w wr r fv)) (fun _ jv _ => ms.length - (intOf jv).toNat)
  case atStart => exact ⟨0, [], Nat.zero_le _, rfl, hide rfl, H00⟩
  case round =>
    obtain ⟨j, fv, hj, rfl, hfv, hat⟩ := hrel
    obtain ⟨wo, hwo⟩ : ∃ wo, wo = wr := ⟨wr, rfl⟩
    subst hwo
    have hsz := hat.out.fr.size
    rcases Nat.lt_or_eq_of_le hj with hlt | rfl
    · obtain ⟨g, o, hAL, hg, hc⟩ := HMs.out (by omega)
      subst hAL
      obtain ⟨A, c, d0, d1, d2, d3, hrA, hnA, hcA⟩ := (hc j hlt).below hg hat.out.fr
      have hokm := HOk.out ms[j] (List.getElem_mem hlt)
      have hft := frs_take srv size ms j hlt
      have hpre := frs_pre srv size ms (j + 1)
      have HFt := hide hft
      clear hft
      generalize hmm : ms[j] = m at *
      have hbx : ∀ ob, Below wo.heap.size wo (wo.alloc ob) := fun ob => (Below.refl _ _).alloc (Nat.le_refl _) _
      have hdat : DatAt wo u7 A c m.data := ⟨hrA.more hsz, fun e => (hnA e).2, hcA, fun hp a e => by
        obtain ⟨g1, o1, e1, hg1, _⟩ := hrA (by rw [bv_length]; exact hp)
        rw [e1] at e
        injection e with e
        subst e
        intro q
        have := (hat.out.own.lt _ q).1
        have h9 : w.heap.size ≤ g1 := this
        omega⟩
      have hB := fun ob => (Blk.new wo 35 ob)
      have hdat1 := fun ob => hdat.below (hbx ob)
      have hat1 := fun ob => hat.out.below (hbx ob)
      have HB := hide hB
      have HDat1 := hide hdat1
      have HAt1 := hide hat1
      have HOkm := hide hokm
      have HPre := hide hpre
      clear hrA hnA hcA hc hokm hdat hdat1 hat1 hB hpre
      go_upto_if 23 with fail
      go_cut [10, 15] from 15 to 61 (fun dv jv wx => jv = .int .i64 (j : Int) ∧ ∃ A1 c1, dv = .slice A1 m.pay.length c1 ∧ Hid (DatAt wx u7 A1 c1 m.pay) ∧ Hid (FrAt w wx u7 fv) ∧ Hid (wx.cell? ⟨wo.heap.size, 0, none⟩ = some (.int .i64 (m.ty : Int))))
      case first =>
        by_cases h8 : m.ty = 8
        · have hb8 : ((m.ty : Int) == 8) = true := by rw [h8]; rfl
          have hpay : m.pay = closeL m.code m.text := if_pos h8
          have hok8 : m.code < 65536 ∧ m.text.length ≤ 100000 := by
            rcases HOkm.out with ⟨q, _⟩ | ⟨q, _⟩ | ⟨_, _, q1, q2, _⟩
            · omega
            · omega
            · exact ⟨q1, q2⟩
          have kc := fun ob => specCloseData m.code hok8.1 m.text hok8.2 (wo.alloc ob)
          have KC := hide kc
          have HPay := hide hpay
          clear kc hpay hok8
          go_wp2_with fail
          refine (KC.out _).mono ?_
          rintro e w3 ⟨r, xs, rfl, hxs, hown, hbel⟩
          rw [← HPay.out] at hxs
          subst hxs
          have hlo := hown.lt
          obtain ⟨A1, c1, rfl, hn1, hcap1, hrd1⟩ := own_shape hown
          have hdat3 : DatAt w3 u7 A1 c1 m.pay := ⟨hrd1, fun e => (hn1 e).2, hcap1, fun _ a e q => by
            subst e
            have h9 := (hlo a.block rfl).1
            have h8' := (hat.out.own.lt _ q).2
            simp at h9
            omega⟩
          have hat3 := (HAt1.out _).below hbel
          have hc3 := ((HB.out _).below hbel (by simp)).cell 0
          have HDat3 := hide hdat3
          have HAt3 := hide hat3
          have HC3 := hide hc3
          clear hown hbel hlo hrd1 hdat3 hat3 hc3
          go_wp2_with fail
          go_meet
          case rel => exact ⟨rfl, A1, c1, rfl, HDat3, HAt3, hide (by rw [h8]; exact HC3.out)⟩
        · have hb8 : ((m.ty : Int) == 8) = false := beq_eq_false_iff_ne.2 (by omega)
          have hpay : m.pay = m.data := if_neg h8
          go_wp2_with fail
          go_meet
          case rel => exact ⟨rfl, A, c, by rw [hpay], hide (by rw [hpay]; exact HDat1.out _), hide (HAt1.out _), hide ((HB.out _).cell 0)⟩
      case rest =>
      obtain ⟨rfl, A1, c1, rfl, hdat, hat2, hty⟩ := hcut
      obtain ⟨wq, hwq⟩ : ∃ wq, wq = wc := ⟨wc, rfl⟩
      subst hwq
      have hrem0 : fv.map FmV.f ++ remF (!srv && isDataN (m.ty : Int)) size m.ty m.pay = frs srv size (ms.take (j + 1)) := by rw [HFt.out, ← msgFms_eq, hfv.out]
      have HRem0 := hide hrem0
      have hty0 := hty.out
      have hbox : u7.ownBlock ≠ some wo.heap.size := fun q => by have := (hat.out.own.lt _ q).2; omega
      have HBox := hide hbox
      have hown8 : w.heap.size ≤ wo.heap.size := hsz
      clear hrem0 hbox
      go_wp2_with fail
      go_loopg [7, 10, 11] m.pay.length (fun g1 ov dv tv wx => ∃ (fv2 : List FmV) (rest : List UInt8) (A2 : Option Addr) (c2 t2 : Nat), dv = .slice A2 rest.length c2 ∧ tv = .int .i64 (t2 : Int) ∧ rest.length = g1 ∧
        Hid (fv2.map FmV.f ++ remF (!srv && isDataN (m.ty : Int)) size t2 rest = frs srv size (ms.take (j + 1))) ∧ Hid (DatAt wx ov A2 c2 rest) ∧ Hid (FrAt w wx ov fv2) ∧ Hid (wx.cell? ⟨wo.heap.size, 0, none⟩ = some (.int .i64 (m.ty : Int))) ∧ Hid (ov.ownBlock ≠ some wo.heap.size) ∧ Hid (wo.heap.size < wx.heap.size))
      case atStart => exact ⟨fv, m.pay, A1, c1, m.ty, rfl, rfl, rfl, HRem0, hdat, hat2, hty, HBox, hide (World.block_lt_of_cell? _ _ hty0)⟩
      case round =>
        obtain ⟨fv2, rest, A2, c2, t2, rfl, rfl, hgr, hrem, hdat2, hatr, htyr, hboxr, hltr⟩ := hrel
        obtain ⟨b, hb⟩ : ∃ b, ((!srv && isDataN (m.ty : Int)) && decide (size < rest.length)) = b := ⟨_, rfl⟩
        have hty1 := htyr.out
        have HGr := hide hgr
        have HBb := hide hb
        clear hgr hb
        go_upto_region 9 with fail
        go_cut [43] from 31 to 54 (fun v wx => v = .bool b ∧ wr = wx)
        case first =>
          cases srv with
          | true =>
            go_wp2_with fail
            go_meet
            case rel => exact ⟨by rw [← HBb.out]; rfl, rfl⟩
          | false =>
            have ks := specIsData (m.ty : Int)
            cases hdn : isDataN (m.ty : Int) with
            | false =>
              have HB2 := hide HBb.out
              rw [hdn] at HB2 ks
              have KS := hide ks
              clear hdn ks
              go_wp2_with fail
              refine (KS.out _).mono ?_
              rintro e w' ⟨rfl, rfl⟩
              go_wp2_with fail
              go_meet
              case rel => exact ⟨by rw [← HB2.out]; rfl, rfl⟩
            | true =>
              have HB2 := hide HBb.out
              rw [hdn] at HB2 ks
              have KS := hide ks
              clear hdn ks
              go_wp2_with fail
              refine (KS.out _).mono ?_
              rintro e w' ⟨rfl, rfl⟩
              go_wp2_with fail
              go_meet
              case rel => exact ⟨by rw [← HB2.out]; rfl, rfl⟩
        case rest =>
        obtain ⟨rfl, rfl⟩ := hcut
        have hfl : fv2.length ≤ 1000000 := by
          have := congrArg List.length hrem.out
          rw [List.length_append, List.length_map] at this
          have := HPre.out
          omega
        have hb1 : ∀ ob, Below wr.heap.size wr (wr.alloc ob) := fun ob => (Below.refl _ _).alloc (Nat.le_refl _) _
        have hsw : w.heap.size ≤ wr.heap.size := hatr.out.fr.size
        have hcap2 := hdat2.out.cap
        have HBl := hide hb1
        clear hb1
        cases b with
        | true =>
          have hbb := HBb.out
          have hrm := remF_cut _ size t2 rest (by omega) hbb
          rw [Bool.and_eq_true, decide_eq_true_eq] at hbb
          have hlt2 := hbb.2
          have hcutP := run_cut_to (P := Tryd.prog) 26 5 i0 Tryd.underlying26 hi0 hz1 A2 rest.length c2 size (by omega)
          have hcutQ := run_cut_from (P := Tryd.prog) 26 5 i0 Tryd.underlying26 hi0 hz1 A2 rest.length c2 size (by omega)
          have htl : (rest.take size).length = size := by rw [List.length_take]; omega
          have HRm := hide hrm
          have HTl := hide htl
          clear hrm htl hbb
          go_wp2_with (at_builtin; refine wpList_append_own_at _ rfl (.tmp 44) (.tmp 50) _ rfl w.heap.size 41 iF _ 3 40 Tryd.underlying28 hiF hzF hsF hbF rfl (by omega) u7 fv2.length (flat fv2) rfl (own_below3 hatr.out.own (HBl.out _)) ⟨wr.heap.size, 0, none⟩ 1 1 [.bool false, .int .i64 (t2 : Int), .slice (cutA A2 0 c2) size c2] rfl rfl (cells_new3 wr _ _) (by intro u hu; simp at hu; rcases hu with rfl | rfl | rfl <;> rfl) (by simp only [maxLen]; omega) (by omega) (by simp; omega) ?_; intro v4 w4 hown4 hg4 hnil4 hat4)
          have hfr4 : Fr (fun k => u7.ownBlock = some k) wr w4 := (below_fr (HBl.out _) _).grown hg4 (fun k e _ => e)
          have ho4 : v4.ownBlock = u7.ownBlock ∨ ∃ N, v4.ownBlock = some N ∧ wr.heap.size ≤ N := hat4.imp id (fun e => ⟨_, e, by simp⟩)
          have hx : DatAt wr u7 (cutA A2 0 c2) c2 (rest.take size) := hdat2.out.cutTo size (by omega)
          have hsn := FrAt.snoc (x := ⟨⟨false, t2, rest.take size⟩, cutA A2 0 c2, c2⟩) hatr.out hx (HBl.out _) hg4 hat4 (by
            have e : FmV.cells ⟨⟨false, t2, rest.take size⟩, cutA A2 0 c2, c2⟩ = [.bool false, .int .i64 (t2 : Int), .slice (cutA A2 0 c2) size c2] := by simp only [FmV.cells, HTl.out]
            rw [e]; exact hown4)
          have hdn := (hdat2.out.cutFrom size hlt2).keep hfr4 ho4
          have HSn := hide hsn
          have HDn := hide hdn
          have HFr4 := hide hfr4
          have HO4 := hide ho4
          clear hown4 hg4 hnil4 hat4 hfr4 ho4 hx hsn hdn
          go_wp2_with fail
          go_roundg (rest.length - size)
          case measure => have := HGr.out; omega
          case rel =>
            refine ⟨_, rest.drop size, cutA A2 size c2, c2 - size, 0, by rw [List.length_drop], rfl, List.length_drop, hide ?_, HDn, HSn, hide ?_, hide ?_, hide (Nat.lt_of_lt_of_le hltr.out HFr4.out.size)⟩
            · rw [List.map_append, List.append_assoc, ← hrem.out, HRm.out]
              rfl
            · exact (HFr4.out.cell (p := ⟨wo.heap.size, 0, none⟩) hltr.out hboxr.out).trans hty1
            · rcases HO4.out with q | ⟨N, q, hN⟩
              · rw [q]; exact hboxr.out
              · rw [q]
                intro e
                injection e with e
                have := hltr.out
                omega
        | false =>
          have hrm := remF_end _ size t2 rest HBb.out
          have HRm := hide hrm
          clear hrm
          go_wp2_with (at_builtin; refine wpList_append_own_at _ rfl (.tmp 55) (.tmp 59) _ rfl w.heap.size 41 iF _ 3 40 Tryd.underlying28 hiF hzF hsF hbF rfl (by omega) u7 fv2.length (flat fv2) rfl (own_below3 hatr.out.own (HBl.out _)) ⟨wr.heap.size, 0, none⟩ 1 1 [.bool true, .int .i64 (t2 : Int), .slice A2 rest.length c2] rfl rfl (cells_new3 wr _ _) (by intro u hu; simp at hu; rcases hu with rfl | rfl | rfl <;> rfl) (by simp only [maxLen]; omega) (by omega) (by simp; omega) ?_; intro v4 w4 hown4 hg4 hnil4 hat4)
          have hsn := FrAt.snoc (x := ⟨⟨true, t2, rest⟩, A2, c2⟩) hatr.out hdat2.out (HBl.out _) hg4 hat4 hown4
          have HSn := hide hsn
          clear hown4 hg4 hnil4 hat4 hsn
          go_wp2_with fail
          go_roundw
          case rel =>
            refine ⟨j + 1, _, by omega, by go_num, hide ?_, HSn⟩
            rw [List.map_append, ← hrem.out, HRm.out]
            rfl
          case measure => simp [intOf]; omega
    · go_wp2_with fail
      go_ret
      obtain ⟨FA, fc, rfl, hr⟩ := hat.out.read
      have hl : fv.length = (frs srv size ms).length := by
        have := congrArg List.length hfv.out
        rw [List.length_map, List.take_of_length_le (Nat.le_refl _)] at this
        exact this
      rw [hfv.out, List.take_of_length_le (Nat.le_refl _)] at hr
      exact ⟨FA, fc, by rw [← hl]; rfl, hr, hat.out.fr⟩
end Go.Proofs.YtjjahfhnebicjaaDoor
