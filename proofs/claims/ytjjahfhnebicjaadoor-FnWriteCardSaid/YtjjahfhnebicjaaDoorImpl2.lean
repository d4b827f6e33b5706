/- impl.Write. -/
import Derived.Test.YtjjahfhnebicjaaDoorImpl
namespace Go.Proofs.YtjjahfhnebicjaaDoor
open Go.ChangeShapes Go.WideShapes Go.ChangeAt Go.RowKit

theorem hdrL_two (srv final : Bool) (t L : Nat) : 2 ≤ (hdrL srv final t L).length := by
  rw [hdrL_length]; split <;> omega
theorem frs_len (srv : Bool) (keys : List (List UInt8)) : ∀ (fs : List Fm) (i : Nat), fs.length ≤ (fmsOut srv keys i fs).length
  | [], _ => by simp [fmsOut]
  | f :: fs, i => by
    have h1 := frs_len srv keys fs (i + 1)
    have h2 := hdrL_two srv f.last f.op f.data.length
    simp only [fmsOut, List.length_cons, List.length_append, frameL]
    omega
theorem keysUsed_le (srv : Bool) (fs : List Fm) : keysUsed srv fs ≤ fs.length := by
  unfold keysUsed; split <;> omega

set_option maxHeartbeats 2000000 in
set_option maxRecDepth 10000 in
theorem implWrite (srv : Bool) (size : Nat) (h1 : 1 ≤ size) (h2 : size ≤ 4096) (keys : List (List UInt8)) (KA : Option Addr) (kc : Nat) (ms : List Msg) (AL : Option Addr) (ac : Nat) (w : World) (u3 u5 : TypeId) (x3 x5 : Value)
    (hB : 7 ≤ w.heap.size) (hks : keys.length ≤ 100) (hkl : srv = false → 0 < keys.length) (hkr : KeysRd w KA w.heap.size keys) (hms : MsgsAt w w.heap.size AL ms) (hn : ms.length ≤ 100) (hok : ∀ m ∈ ms, MsgOk m)
    (hlast : ∀ (j : Nat) (h : j < ms.length), j + 1 < ms.length → ms[j].ty ≠ 8) (hsz : sizes ms ≤ 131072)
    (hg3 : w.cell? ⟨3, 0, none⟩ = some (.iface u3 x3)) (hg5 : w.cell? ⟨5, 0, none⟩ = some (.iface u5 x5))
    (X : List UInt8) (hX : fmsOut srv keys 0 (frs srv size ms) = X) (hXl : X.length ≤ 200000) :
    Calls Tryd.prog 9 #[.bool srv, .int .i64 (size : Int), .slice KA keys.length kc, .slice AL ms.length ac] w fun e w' => ∃ r, e = .returned (.tuple #[r, .bool true]) ∧ w'.ownsRow w.heap.size 5 1 r X.length (bv X) ∧ Below w.heap.size w w' := by
  have hK : keysUsed srv (frs srv size ms) ≤ X.length := by rw [← hX]; exact Nat.le_trans (keysUsed_le _ _) (frs_len _ _ _ _)
  have kf := fun b (h : b ≤ 131072) => fitsYes size ms.length b h1 (by omega) hn h
  have KF := hide kf
  have HMs := hide hms
  have HOk := hide hok
  have HLast := hide hlast
  have HX := hide hX
  have HKR := hide hkr
  have HKL := hide hkl
  have hms0 : ∀ wx, Below (w.heap.size + 2) ((w.alloc (.cells #[.slice none 0 0] 26)).alloc (.cells #[.bool false] 4)) wx → Below w.heap.size w wx := fun wx hb =>
    (((Below.refl w.heap.size w).alloc (Nat.le_refl _) _).alloc (by simp) _).trans (hb.mono (by omega))
  have HMs0 := hide hms0
  clear kf hms hok hlast hX hkr hkl hms0
  go_enter_defers Tryd.func9, Tryd.ntmps9
  go_wp2_with fail
  go_loopw [10, 19] (fun nv jv wx => ∃ j : Nat, j ≤ ms.length ∧ jv = .int .i64 (j : Int) ∧ nv = .int .i64 ((sizes (ms.take j) : Nat) : Int) ∧ Hid (Below (w.heap.size + 2) ((w.alloc (.cells #[.slice none 0 0] 26)).alloc (.cells #[.bool false] 4)) wx)) (fun _ jv _ => ms.length - (intOf jv).toNat)
  case atStart => exact ⟨0, Nat.zero_le _, rfl, rfl, hide (Below.refl _ _)⟩
  case round =>
    obtain ⟨j, hj, rfl, rfl, hbel⟩ := hrel
    have hszr : w.heap.size + 2 ≤ wr.heap.size := by have := hbel.out.size; simp at this; omega
    rcases Nat.lt_or_eq_of_le hj with hlt | rfl
    · obtain ⟨g, o, rfl, hg, hc⟩ := HMs.out (by omega)
      obtain ⟨A, c, d0, d1, d2, d3, hrA, hnA⟩ := (hc j hlt).below hg (HMs0.out wr hbel.out)
      have hst := sizes_take ms j hlt
      have hsl := sizes_le ms (j + 1)
      rw [show ms[j].size = ms[j].data.length + ms[j].text.length from rfl] at hst
      have HSt := hide hst
      obtain ⟨sj, hsj⟩ : ∃ sj, sizes (ms.take j) = sj := ⟨_, rfl⟩
      have hb1 : sj + (ms[j].data.length + ms[j].text.length) ≤ 131072 := by
        have : ms[j].size = ms[j].data.length + ms[j].text.length := rfl
        omega
      rw [hsj]
      have HSj := hide hsj
      have hz : (strOf ms[j].text).size = ms[j].text.length := strOf_size _
      clear hst hsl hsj hc hrA hnA
      generalize ms[j].data.length = dl at *
      generalize ms[j].text.length = tl at *
      generalize strOf ms[j].text = tx at *
      generalize hty : (ms[j].ty : Int) = ty at *
      generalize hco : (ms[j].code : Int) = co at *
      have hltI : decide ((j : Int) < (ms.length : Int)) = true := decide_eq_true (by omega)
      go_wp2_with fail
      go_roundw
      case rel =>
        refine ⟨j + 1, by omega, by go_num, ?_, hide (hbel.out.alloc (by omega) _)⟩
        rw [HSt.out, HSj.out]
        show Value.int .i64 _ = Value.int .i64 _
        congr 1
      case measure => simp [intOf]; omega
    · go_wp2_with fail
      rw [List.take_of_length_le (Nat.le_refl _)]
      refine (KF.out _ hsz _).mono ?_
      rintro e w' ⟨rfl, rfl⟩
      obtain ⟨wa, hwa⟩ : ∃ wa, wa = wr := ⟨wr, rfl⟩
      subst hwa
      go_wp2_with fail
      refine (readerNew wa).mono ?_
      rintro e w2 ⟨rfl, hs2, hb2⟩
      have HB2 := hide hb2
      clear hb2
      go_wp2_with fail
      refine (masksNew _ KA keys.length kc).mono ?_
      rintro e w4 ⟨rfl, hk4, hi4, hs4, hb4⟩
      have hT := Blk.new w2 53 [.pointer (some ⟨wa.heap.size, 0, none⟩), .slice none 0 0, .int .i64 0, .int .i8 0]
      simp only [World.size_alloc, hs2] at hk4 hi4 hs4 hb4 hT
      have HK4 := hide hk4
      have HI4 := hide hi4
      have HB4 := hide hb4
      have HT := hide hT
      clear hk4 hi4 hb4 hT
      go_wp2_with fail
      refine (zzNew w4 (wa.heap.size + 1) srv size h1 (by omega) _ _).mono ?_
      rintro e w5 ⟨bc, bw, T, sub, rfl, hbw, hbc, hC5, hW5, hb5⟩
      have hT4 := HT.out.below HB4.out (by omega)
      have hA1 : Below w.heap.size w wa := HMs0.out wa hbel.out
      have hb4' : Below wa.heap.size wa w4 := (HB2.out.trans ((Below.refl _ _).alloc (by omega) _)).trans (HB4.out.mono (by omega))
      have hb05 : Below w.heap.size w w5 := (hA1.trans (hb4'.mono (by omega))).trans (hb5.mono (by omega))
      have hb25 : Below (w.heap.size + 2) ((w.alloc (.cells #[.slice none 0 0] 26)).alloc (.cells #[.bool false] 4)) w5 := (hbel.out.trans (hb4'.mono hszr)).trans (hb5.mono (by omega))
      obtain ⟨E, e1, e2, e3, e4, e5, e6, ok, st⟩ := envStart srv keys KA kc w5 (wa.heap.size + 1) (wa.heap.size + 1 + 1) (wa.heap.size + 1 + 1 + 1) bc bw size (w.heap.size + 2) w.heap.size _ sub T (by omega) h1 hC5 hW5 (hT4.below hb5 (by omega)) (HK4.out.below hb5 (by omega)) (HI4.out.below hb5 (by omega))
        (HKR.out.keep (fun p hp => hb05.cell hp)) (by omega) (by omega) (by omega) hbc (by omega) (by omega) (by omega) hks HKL.out
      subst e1 e2 e5
      have HSt := hide st
      have HB05 := hide hb05
      have HB25 := hide hb25
      have HE3 := hide e3
      have HE4 := hide e4
      have HE6 := hide e6
      have hS : E.M - 14 = size := by omega
      have HS := hide hS
      clear st hb05 hb25 e3 e4 e6 hC5 hW5 hT4 hA1 hb4' hb5 HT HK4 HI4 HB4 HB2 hS
      go_wp2_with fail
      go_loopw [52] (fun jv wx => ∃ j : Nat, j ≤ ms.length ∧ jv = .int .i64 (j : Int) ∧ Hid (∃ v er, St E wx .nilIface false er v (fmsOut E.srv E.keys 0 (frs E.srv size (ms.take j))) (keysUsed E.srv (frs E.srv size (ms.take j))) ∧ (j < ms.length → er = .nilIface) ∧ Below E.W0 w5 wx)) (fun jv _ => ms.length - (intOf jv).toNat)
      case atStart =>
        refine ⟨0, Nat.zero_le _, rfl, hide ⟨.slice none 0 0, .nilIface, ?_, fun _ => rfl, Below.refl _ _⟩⟩
        have e : keysUsed E.srv (frs E.srv size (ms.take 0)) = 0 := by unfold keysUsed; split <;> rfl
        rw [e]
        exact HSt.out
      case round =>
        obtain ⟨j, hj, rfl, hat⟩ := hrel
        obtain ⟨v, er, st, her, hbr⟩ := hat.out
        have hbw : Below w.heap.size w wr := HB05.out.trans (hbr.mono (by have := HE6.out; omega))
        have hsz5 := hbw.size
        rcases Nat.lt_or_eq_of_le hj with hlt | rfl
        · have he0 := her hlt
          subst he0
          obtain ⟨g, o, hAL, hg, hc⟩ := HMs.out (by omega)
          subst hAL
          obtain ⟨A, c, d0, d1, d2, d3, hrA, hnA, _⟩ := (hc j hlt).below hg hbw
          have hokm := HOk.out ms[j] (List.getElem_mem hlt)
          have hX1 : fmsOut E.srv E.keys 0 (frs E.srv size (ms.take j)) ++ fmsOut E.srv E.keys (keysUsed E.srv (frs E.srv size (ms.take j))) (msgFms E.srv (E.M - 14) ms[j]) = fmsOut E.srv E.keys 0 (frs E.srv size (ms.take (j + 1))) := by
            rw [HS.out, frs_take _ _ _ _ hlt, fmsOut_step]
          have hK1 : keysUsed E.srv (frs E.srv size (ms.take j)) + keysUsed E.srv (msgFms E.srv (E.M - 14) ms[j]) = keysUsed E.srv (frs E.srv size (ms.take (j + 1))) := by
            rw [HS.out, frs_take _ _ _ _ hlt, keysUsed_append]
          have hXb := fmsOut_take E.srv E.keys size ms (j + 1)
          have hKb := keysUsed_take E.srv size ms (j + 1)
          rw [HX.out] at hXb
          have hla := HLast.out j hlt
          generalize ms[j] = m at *
          have hbA : ∀ ob, Below wr.heap.size wr (wr.alloc ob) := fun ob => (Below.refl _ _).alloc (Nat.le_refl _) _
          have kp := fun ob => putMsg E ok (wr.alloc ob) v _ _ m hokm (by rw [HE4.out]; omega) A c u3 u5 x3 x5 (st.below ok (hbA ob))
            (by rw [(hbA ob).cell (by show 3 < _; omega), hbw.cell (by show 3 < _; omega)]; exact hg3) (by rw [(hbA ob).cell (by show 5 < _; omega), hbw.cell (by show 5 < _; omega)]; exact hg5)
            _ _ hX1 hK1 (by omega) (by omega) ((hrA.below (hbA ob |>.mono hsz5)).more (by have := (hbA ob).size; omega)) hnA
          have KP := hide kp
          have HBr := hide hbr
          have HLa := hide hla
          clear kp hX1 hK1 hXb hKb st her hrA hnA hbA hokm hbr hat hc hla
          have he := errNe
          go_wp2_with fail
          refine (KP.out _).mono ?_
          rintro e w6 ⟨rfl, v2, er2, st2, her2, hb6⟩
          have HS2 := hide (And.intro st2 (And.intro her2 hb6))
          clear st2 her2 hb6
          go_wp2_with fail
          go_roundw
          case rel => exact ⟨j + 1, by omega, by go_num, hide ⟨v2, er2, HS2.out.1, fun h => HS2.out.2.1 (HLa.out h), (HBr.out.alloc (by have := HE6.out; have := HB25.out.size; have := HBr.out.size; simp at *; omega) _).trans HS2.out.2.2⟩⟩
          case measure => simp [intOf]; omega
        · rw [List.take_of_length_le (Nat.le_refl _), HX.out] at st
          have hbuf := st.buf
          rw [HE3.out] at hbuf
          have kb := bufBytes (wa.heap.size + 1) E.rd v E.base X wr hbuf
          obtain ⟨A, c, rfl, hnA, hcap, hrd⟩ := own_shape hbuf.2.1
          have kcl := clone_any A c X wr.drew (by omega) hrd hnA
          have hR8 := ((Blk.new w 26 [.slice none 0 0]).alloc (.cells #[.bool false] 4)).below HB25.out (by omega)
          have hR9 := (Blk.new (w.alloc (.cells #[.slice none 0 0] 26)) 4 [.bool false]).below HB25.out (by simp)
          simp only [World.size_alloc] at hR9
          have hR8' := hR8.below hbr (by have := HE6.out; omega)
          have hR9' := hR9.below hbr (by have := HE6.out; omega)
          have hs2w : w.heap.size + 2 ≤ wr.heap.size := by have := HB25.out.size; have := hbr.size; simp at *; omega
          have KB := hide kb
          have KCl := hide kcl
          have HR8 := hide hR8'
          have HR9 := hide hR9'
          have HBw := hide hbw
          clear kb kcl hR8 hR9 hR8' hR9' hbw hbuf hrd hnA st her hat hbr
          go_wp2_with fail
          refine KB.out.mono ?_
          rintro e w7 ⟨rfl, rfl⟩
          go_wp2_with fail
          refine KCl.out.mono ?_
          rintro e w8 ⟨r, rfl, hown, hb8⟩
          have hR8 := HR8.out.below ((Below.refl wr.heap.size wr).drew.trans hb8) (by omega)
          have hR9 := HR9.out.below ((Below.refl wr.heap.size wr).drew.trans hb8) (by omega)
          have c8 : w8.cell? ⟨w.heap.size, 0, none⟩ = some (.slice none 0 0) := hR8.cell 0
          have z8 := hR8.frozen 0
          have hlo := hown.lt
          obtain ⟨A2, cc2, rfl, _, _, _⟩ := own_shape hown
          have hR9b := fun q => hR9.far (p := ⟨w.heap.size, 0, none⟩) (by show w.heap.size + 1 ≠ w.heap.size; omega) q
          have c9 : ∀ q, (w8.setCell ⟨w.heap.size, 0, none⟩ q).cell? ⟨w.heap.size + 1, 0, none⟩ = some (.bool false) := fun q => (hR9b q).cell 0
          have z9 := fun q => (hR9b q).frozen 0
          have hq8 := fun q => (hR8.set 0 q)
          have HOwn := hide hown
          have HB8 := hide hb8
          have HR88 := hide hR8
          have HR99 := hide hR9b
          clear hown hb8 hR8 hR9 hR9b hq8 hlo
          go_wp2_with fail
          have hfin : Fr (fun k => k = w.heap.size ∨ k = w.heap.size + 1) w8 ((w8.setCell ⟨w.heap.size, 0, none⟩ (.slice A2 X.length cc2)).setCell ⟨w.heap.size + 1, 0, none⟩ (.bool true)) :=
            ((Fr.refl (fun k => k = w.heap.size ∨ k = w.heap.size + 1) w8).setCell (p := ⟨w.heap.size, 0, none⟩) (fun _ => .inl rfl) _).setCell (p := ⟨w.heap.size + 1, 0, none⟩) (fun _ => .inr rfl) _
          have f8 : ((w8.setCell ⟨w.heap.size, 0, none⟩ (.slice A2 X.length cc2)).setCell ⟨w.heap.size + 1, 0, none⟩ (.bool true)).cell? ⟨w.heap.size, 0, none⟩ = some (.slice A2 X.length cc2) :=
            ((HR88.out.set 0 (.slice A2 X.length cc2)).far (p := ⟨w.heap.size + 1, 0, none⟩) (by show w.heap.size ≠ w.heap.size + 1; omega) (.bool true)).cell 0
          have f9 : ((w8.setCell ⟨w.heap.size, 0, none⟩ (.slice A2 X.length cc2)).setCell ⟨w.heap.size + 1, 0, none⟩ (.bool true)).cell? ⟨w.heap.size + 1, 0, none⟩ = some (.bool true) :=
            ((HR99.out (.slice A2 X.length cc2)).set 0 (.bool true)).cell 0
          have hpost : ∃ r, Ending.returned (Value.tuple #[.slice A2 X.length cc2, .bool true]) = Ending.returned (.tuple #[r, .bool true]) ∧ ((w8.setCell ⟨w.heap.size, 0, none⟩ (.slice A2 X.length cc2)).setCell ⟨w.heap.size + 1, 0, none⟩ (.bool true)).ownsRow w.heap.size 5 1 r X.length (bv X) ∧
              Below w.heap.size w ((w8.setCell ⟨w.heap.size, 0, none⟩ (.slice A2 X.length cc2)).setCell ⟨w.heap.size + 1, 0, none⟩ (.bool true)) := by
            refine ⟨_, rfl, ?_, ?_⟩
            · exact own_base (own_fr HOwn.out hfin (fun k hk e => by
                have h9 := (HOwn.out.lt k hk).1
                have h9 : wr.heap.size ≤ k := h9
                omega)) (by show w.heap.size ≤ wr.heap.size; omega)
            · have b8 : Below w.heap.size w w8 := HBw.out.trans (((Below.refl wr.heap.size wr).drew.trans HB8.out).mono (by omega))
              exact b8.trans (hfin.toBelow (by have := b8.size; omega) (fun k e => by omega))
          generalize (w8.setCell ⟨w.heap.size, 0, none⟩ (.slice A2 X.length cc2)).setCell ⟨w.heap.size + 1, 0, none⟩ (.bool true) = w9 at *
          have HPost := hide hpost
          clear hpost hfin
          refine leaves_cons (f := 19) (args := #[.pointer (some ⟨w.heap.size, 0, none⟩), .pointer (some ⟨w.heap.size + 1, 0, none⟩)]) (by simp) (by simp [go_sem]) ?_
          refine (writeCatch _ _ _).mono ?_
          rintro e u' w'' ⟨rfl, rfl, rfl⟩
          refine ⟨.tuple #[.slice A2 X.length cc2, .bool true], ?_, HPost.out⟩
          simp [results, go_sem, f8, f9]
end Go.Proofs.YtjjahfhnebicjaaDoor
