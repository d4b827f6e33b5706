/- (*messageWriter).Write of a client, and Close. -/
import Derived.Test.YtjjahfhnebicjaaDoorMsg2
import Derived.StillTailTactics
import Derived.Deep.LoopGhost
namespace Go.Proofs.YtjjahfhnebicjaaDoor
open Go.ChangeShapes Go.WideShapes Go.ChangeAt Go.RowKit

section
variable {P : Program} (t e : TypeId) (i : TypeInfo) (ht : P.underlying t = some (.slice e)) (hi : P.info? e = some i) (h1 : i.size = 1)
include ht hi h1
theorem run_cut_to (A : Option Addr) (n c h : Nat) (hh : h ≤ c) : ∀ w : World, (Instr.slice t (.slice A n c) none (some (.int .i64 (h : Int))) none).run P w = .ok (.slice (cutA A 0 c) h c) w := by
  intro w
  have he : P.elem t = e := by simp [Program.elem, ht]
  rw [run_slice_h (P := P) w t A n c (by rw [he]; exact ht) .i64 (h : Int) (by omega) (by omega), he]
  simp [sizeOf, typeInfo, hi, h1, sliced, cutA, Result.andThen]
end
theorem cutA_block {A : Option Addr} {k c : Nat} {a' : Addr} (h : cutA A k c = some a') : ∃ a, A = some a ∧ a.block = a'.block := by
  unfold cutA at h
  split at h
  · exact ⟨a', h, rfl⟩
  · cases A with
    | none => cases h
    | some a =>
      simp only [Option.map_some, Option.some.injEq] at h
      exact ⟨a, rfl, by rw [← h, add_block]⟩
/-- More bytes behind those that lie in the buffer. -/
theorem join_more {α : Type} (cs ys : List α) (o b : Nat) (xs : List α) (h : (cs.drop o).take b = xs) (hf : o + b + ys.length ≤ cs.length) : ((splice cs (o + b) ys).drop o).take (b + ys.length) = xs ++ ys := by
  have h1 : (cs.take (o + b)).length = o + b := by rw [List.length_take]; omega
  unfold splice
  rw [List.drop_append_of_le_length (by omega), List.drop_take, Nat.add_sub_cancel_left, h]
  have hx : xs.length = b := by rw [← h, List.length_take, List.length_drop]; omega
  rw [List.take_append, List.take_of_length_le (by omega), hx, Nat.add_sub_cancel_left, List.take_left' rfl]

/-- Where the loop of Write stands. -/
structure LoopAt (E : Env) (w : World) (v : Value) (bm : Nat) (wr : Value) (X : List UInt8) (K : Nat) (u : TypeId) (x : Value) (wx : World) (p : List UInt8) (A : Option Addr) (c : Nat) (v' : Value) (xs' : List UInt8) (i' t' : Nat) (buf' : List UInt8) : Prop where
  went : Went E w v bm wr X K p u x wx v' xs' i' t' buf'
  rd : Rd wx w.heap.size A (bv p)
  cap : p.length ≤ c
  far : ∀ a, A = some a → E.base ≤ a.block ∧ v'.ownBlock ≠ some a.block ∧ a.block ≠ bm ∧ a.block < w.heap.size

theorem Went.trans {E : Env} {w w1 w2 : World} {v v1 v2 : Value} {bm : Nat} {wr : Value} {X : List UInt8} {K : Nat} {p q : List UInt8} {u : TypeId} {x : Value} {xs1 xs2 : List UInt8} {i1 t1 i2 t2 : Nat} {b1 b2 : List UInt8}
    (h1 : Went E w v bm wr X K p u x w1 v1 xs1 i1 t1 b1) (h2 : Went E w1 v1 bm wr X K q u x w2 v2 xs2 i2 t2 b2) : Went E w v bm wr X K q u x w2 v2 xs2 i2 t2 b2 := by
  refine ⟨h2.wst, h2.inv, h1.fr.then_ h2.fr (fun k hk e => ?_), ?_⟩
  · rcases e with e | e | e | e | e | e
    · exact .inl e
    · exact .inr (.inl e)
    · exact .inr (.inr (.inl e))
    · exact .inr (.inr (.inr (.inl e)))
    · exact .inr (.inr (.inr (.inr (.inl e))))
    · rcases h1.own with h | ⟨N, h, hN⟩
      · exact .inr (.inr (.inr (.inr (.inr (h ▸ e)))))
      · rw [h] at e; injection e with e; omega
  · rcases h2.own with h | ⟨N, h, hN⟩
    · rw [h]; exact h1.own
    · exact .inr ⟨N, h, Nat.le_trans h1.fr.size hN⟩

/-- The step behind ncopy: more bytes in the buffer. -/
theorem Went.more {E : Env} (ok : E.Ok) {w w1 w2 w3 : World} {v v1 : Value} {bm : Nat} {wr : Value} {X : List UInt8} {K : Nat} {p ys : List UInt8} {u : TypeId} {x : Value} {xs1 : List UInt8} {i1 t1 : Nat} {b1 : List UInt8} {cs : List Value}
    (h : Went E w v bm wr X K (ys ++ p) u x w1 v1 xs1 i1 t1 b1) (hfit : b1.length + ys.length ≤ E.M - 14) (hl : cs.length = E.M) (hcs : (cs.drop 14).take b1.length = bv b1)
    (hb : Blk w2 E.bw 5 (splice cs (14 + b1.length) (bv ys))) (hf : Fr (fun b => b = E.bw) w1 w2)
    (h3 : w2.setCell ⟨bm, 1, none⟩ (.int .i64 ((14 + b1.length + ys.length : Nat) : Int)) = w3) : Went E w v bm wr X K p u x w3 v1 xs1 i1 t1 (b1 ++ ys) := by
  have hm := ok.m
  have hbw := ok.bw
  have hbmb := h.wst.bmb
  have hlen : (splice cs (14 + b1.length) (bv ys)).length = E.M := by rw [length_splice _ _ _ (by rw [bv_length]; omega)]; exact hl
  have s2 := h.wst.st.wb ok hb hlen hf
  have f23 : Fr (fun b => b = bm) w2 w3 := by rw [← h3]; exact (Fr.refl (fun b => b = bm) w2).setCell (p := ⟨bm, 1, none⟩) (fun _ => rfl) _
  have s3 := s2.keep ok f23 (fun k e => by subst e; exact ⟨hbmb, h.wst.vne⟩)
  have m2 := h.wst.mw.kept hf (by show ¬ bm = E.bw; omega)
  have m3 := m2.set 1 (.int .i64 ((14 + b1.length + ys.length : Nat) : Int))
  rw [h3] at m3
  have fr1 : Fr (Wet E bm v) w w3 := (h.fr.trans (hf.mono (fun _ _ e => .inr (.inl e)))).trans (f23.mono (fun _ _ e => .inr (.inr (.inr (.inr (.inl e))))))
  have fr2 : Fr (Wet E bm v1) w1 w3 := (hf.mono (fun _ _ e => .inr (.inl e))).trans (f23.mono (fun _ _ e => .inr (.inr (.inr (.inr (.inl e))))))
  refine ⟨⟨s3, ?_, ⟨_, hb.kept f23 (by show ¬ E.bw = bm; omega), hlen, ?_⟩, ?_, h.wst.tl, hbmb, h.wst.vne, ?_⟩, ?_, fr1, h.own⟩
  · rw [show (b1 ++ ys).length = b1.length + ys.length from List.length_append, ← Nat.add_assoc]
    exact m3
  · have := join_more cs (bv ys) 14 b1.length (bv b1) hcs (by rw [bv_length]; omega)
    rw [bv_length] at this
    rw [List.length_append, bv_append]
    exact this
  · rw [List.length_append]; exact hfit
  · exact g5_keep ok fr2 hbmb h.wst.st.size (fun k hk => (h.wst.st.buf.own_ge hk).1) h.wst.g5
  · rw [List.append_assoc]; exact h.inv

set_option maxHeartbeats 1000000 in
set_option maxRecDepth 10000 in
theorem mwWrite (E : Env) (ok : E.Ok) (hsrv : E.srv = false) (w : World) (bm : Nat) (wrt v : Value) (xs : List UInt8) (i t : Nat) (u : TypeId) (x : Value) (X : List UInt8) (K : Nat) (ds : List UInt8) (A : Option Addr) (c : Nat) (hdl : ds.length ≤ 100000)
    (h : WSt E w bm wrt v xs i t [] u x) (hM : E.M ≤ 60000) (hinv : Inv E X K xs i t ds) (hX : X.length + 60100 ≤ 1000000000) (hK : K ≤ 1000000) (hr : Rd w w.heap.size A (bv ds)) (hc : ds.length ≤ c)
    (hA : ∀ a, A = some a → E.base ≤ a.block ∧ v.ownBlock ≠ some a.block ∧ a.block ≠ bm ∧ a.block < w.heap.size) :
    Calls Tryd.prog 89 #[.pointer (some ⟨bm, 0, none⟩), .slice A ds.length c] w fun en w' => en = .returned (.tuple #[.int .i64 (ds.length : Int), .nilIface]) ∧ ∃ v' xs' i' t' buf', Went E w v bm wrt X K [] u x w' v' xs' i' t' buf' := by
  have hm14 := ok.m
  have hm2 := ok.m2
  obtain ⟨i0, hi0, hz0, hz1, hz2⟩ := info_parts Tryd.info_u8
  have hsu : (Tryd.prog.info? 5).map (·.size) = some 1 := by rw [hi0]; simp [hz1]
  have m0 : w.cell? ⟨bm, 0, none⟩ = some (.pointer (some ⟨E.bc, 0, none⟩)) := h.mw.cell 0
  have m3 : w.cell? ⟨bm, 3, none⟩ = some .nilIface := h.mw.cell 3
  have c1 : w.cell? ⟨E.bc, 1, none⟩ = some (.bool false) := by rw [← hsrv]; exact h.st.conn.cell 1
  have c3 : w.cell? ⟨E.bc, 3, none⟩ = some (.slice (some ⟨E.bw, 0, none⟩) E.M E.M) := h.st.conn.cell 3
  have hw2 : wrap64 (2 * (E.M : Int)) = 2 * (E.M : Int) := by unfold wrap64; omega
  have he := errNe
  have hstart : LoopAt E w v bm wrt X K u x w ds A c v xs i t [] := ⟨Went.start h hinv, hr, hc, hA⟩
  have HStart := hide hstart
  clear hstart h hinv hr hA
  go_enter Tryd.func89, Tryd.ntmps89
  go_upto_region 3 with fail
  go_cut [39] from 10 (fun v1 wx => v1 = .bool false ∧ w = wx)
  case first =>
    by_cases hbig : 2 * (E.M : Int) < (ds.length : Int)
    · have hd : decide (2 * (E.M : Int) < (ds.length : Int)) = true := decide_eq_true hbig
      go_wp2_with fail
      go_meet
      case rel => exact ⟨rfl, rfl⟩
    · have hd : decide (2 * (E.M : Int) < (ds.length : Int)) = false := decide_eq_false hbig
      go_wp2_with fail
      go_meet
      case rel => exact ⟨rfl, rfl⟩
  case rest =>
  obtain ⟨rfl, rfl⟩ := hcut
  go_wp2_with fail
  go_loopg [1] ds.length (fun g1 p wx => ∃ (rest : List UInt8) (A' : Option Addr) (c' : Nat), p = .slice A' rest.length c' ∧ rest.length = g1 ∧ rest.length ≤ ds.length ∧ Hid (∃ v' xs' i' t' buf', LoopAt E w v bm wrt X K u x wx rest A' c' v' xs' i' t' buf'))
  case atStart => exact ⟨ds, A, c, rfl, rfl, Nat.le_refl _, hide ⟨v, xs, i, t, [], HStart.out⟩⟩
  case round =>
    obtain ⟨rest, A', c', rfl, hg, hle, hat⟩ := hrel
    obtain ⟨v1, xs1, i1, t1, b1, hl⟩ := hat.out
    cases gk with
    | zero =>
      have hnil : rest = [] := List.eq_nil_of_length_eq_zero hg
      subst hnil
      have HW := hide hl.went
      clear hl hat
      go_wp2_with fail
      go_ret2
      exact ⟨rfl, v1, xs1, i1, t1, b1, HW.out⟩
    | succ go =>
      have kn := ncopy E ok hsrv wr bm wrt v1 xs1 i1 t1 b1 u x X K rest rest.length (by omega) rfl hl.went.wst hM hl.went.inv hX hK
      have hpos : decide ((0 : Int) < (rest.length : Int)) = true := decide_eq_true (by omega)
      have hrl : 1 ≤ rest.length := by omega
      have HG := hide hg
      clear hg
      have KN := hide kn
      have HL := hide hl
      clear kn hl hat
      go_wp2_with fail
      refine KN.out.mono ?_
      rintro e w2 ⟨v2, xs2, i2, t2, b2, rfl, hlt, hw2⟩
      have hwt := HL.out.went.trans hw2
      have hle2 := hw2.wst.le
      obtain ⟨n, hn⟩ : ∃ n : Nat, min (E.M - 14 - b2.length) rest.length = n := ⟨_, rfl⟩
      rw [hn]
      have hn1 : 1 ≤ n := by omega
      have hn2 : n ≤ rest.length := by omega
      have hn3 : b2.length + n ≤ E.M - 14 := by omega
      have hcc := HL.out.cap
      obtain ⟨cs2, hb2, hl2, hd2⟩ := hw2.wst.wb
      have q0 : w2.cell? ⟨bm, 0, none⟩ = some (.pointer (some ⟨E.bc, 0, none⟩)) := hw2.wst.mw.cell 0
      have q1 : w2.cell? ⟨bm, 1, none⟩ = some (.int .i64 ((14 + b2.length : Nat) : Int)) := hw2.wst.mw.cell 1
      have q3 : w2.cell? ⟨E.bc, 3, none⟩ = some (.slice (some ⟨E.bw, 0, none⟩) E.M E.M) := hw2.wst.st.conn.cell 3
      have hcutB : ∀ w, (Instr.slice 26 (.slice (some ⟨E.bw, 0, none⟩) E.M E.M) (some (.int .i64 (14 + (b2.length : Int)))) none none).run Tryd.prog w = .ok (.slice (cutA (some ⟨E.bw, 0, none⟩) (14 + b2.length) E.M) (E.M - (14 + b2.length)) (E.M - (14 + b2.length))) w :=
        run_cut_from (P := Tryd.prog) 26 5 i0 Tryd.underlying26 hi0 hz1 (some ⟨E.bw, 0, none⟩) E.M E.M (14 + b2.length) (by omega)
      rw [cutA_some E.bw 0 (14 + b2.length) E.M (by omega), Nat.zero_add] at hcutB
      have hcutP := run_cut_to (P := Tryd.prog) 26 5 i0 Tryd.underlying26 hi0 hz1 A' rest.length c' n (by omega)
      have hcutQ := run_cut_from (P := Tryd.prog) 26 5 i0 Tryd.underlying26 hi0 hz1 A' rest.length c' n hn2
      have hrd2 : Rd w2 w.heap.size A' (bv rest) := HL.out.rd.kept hw2.fr HL.out.went.fr.size (fun g o e => by
        have hf := HL.out.far _ e
        rintro (q | q | q | q | q | q)
        · have := ok.bt; have q : g = E.bt := q; have := hf.1; have h9 : E.base ≤ g := this; omega
        · have := ok.bw; have q : g = E.bw := q; have := hf.1; have h9 : E.base ≤ g := this; omega
        · have := ok.bc; have q : g = E.bc := q; have := hf.1; have h9 : E.base ≤ g := this; omega
        · have := ok.bi; have q : g = E.bi := q; have := hf.1; have h9 : E.base ≤ g := this; omega
        · exact hf.2.2.1 q
        · exact hf.2.1 q)
      have hrdP : Rd w2 w.heap.size (cutA A' 0 c') (bv (rest.take n)) := by
        have h1 := (hrd2.cutA (k := 0) (cap := c') (by rw [bv_length]; exact hcc)).take n
        rw [List.drop_zero, ← bv_take] at h1
        exact h1
      have hlt3 : (rest.take n).length = n := by rw [List.length_take]; omega
      have hmin : min n (E.M - (14 + b2.length)) = n := Nat.min_eq_left (by omega)
      have HW := hide hwt
      have HB2 := hide hb2
      have HL2 := hide hl2
      have HD2 := hide hd2
      have HRdP := hide hrdP
      have HRd2 := hide hrd2
      have HMin := hide hmin
      have HLt3 := hide hlt3
      have HN := hide hn
      have HLt := hide hlt
      have hZ2 := hw2.own
      have HOwn2 := hide hZ2
      clear hwt hb2 hl2 hd2 hrdP hmin hlt3 hn hlt hZ2 hw2 hrd2
      go_upto_region 13 with fail
      go_still_tail 15, (by kernel_rfl)
      change wpList _ _ _ _ _ w2.drew
      refine (wpList_cp _ rfl (.tmp 74) (.tmp 77) 26 26 rfl 5 Tryd.underlying26 hsu (some ⟨E.bw, 14 + b2.length, none⟩) (cutA A' 0 c') (E.M - (14 + b2.length)) (E.M - (14 + b2.length)) n c' rfl rfl w.heap.size E.bw (14 + b2.length) 5 cs2 (bv (rest.take n)) (by rw [bv_length]; exact HLt3.out) HB2.out HRdP.out (bv_one _) (fun _ => rfl) (by rw [HMin.out, HL2.out]; omega) ?_)
      intro w3 hb3 hf3
      have hb3' := hb3.out
      rw [List.take_of_length_le (by rw [bv_length, HLt3.out]; omega)] at hb3'
      have hf3' : Fr (fun b => b = E.bw) w2 w3 := (Fr.refl _ w2).drew.trans hf3.out
      have hbwm : ¬ bm = E.bw := by have := HW.out.wst.bmb; have := ok.bw; omega
      have hm3 := HW.out.wst.mw.kept hf3' hbwm
      have p1 : w3.cell? ⟨bm, 1, none⟩ = some (.int .i64 ((14 + b2.length : Nat) : Int)) := hm3.cell 1
      have pz1 := hm3.frozen 1
      have HB3 := hide hb3'
      have HF3 := hide hf3'
      clear hb3' hf3' hb3 hf3 hm3
      go_wp2_with fail
      have hwe : w3.setCell ⟨bm, 1, none⟩ (.int .i64 ((14 + b2.length + (rest.take n).length : Nat) : Int)) = w3.setCell ⟨bm, 1, none⟩ (.int .i64 (14 + (b2.length : Int) + (n : Int))) := by rw [HLt3.out]; rfl
      generalize w3.setCell ⟨bm, 1, none⟩ (.int .i64 (14 + (b2.length : Int) + (n : Int))) = w4 at *
      have f34 : Fr (fun b => b = bm) w3 w4 := by rw [← hwe]; exact (Fr.refl (fun b => b = bm) w3).setCell (p := ⟨bm, 1, none⟩) (fun _ => rfl) _
      have hnext : LoopAt E w v bm wrt X K u x w4 (rest.drop n) (cutA A' n c') (c' - n) v2 xs2 i2 t2 (b2 ++ rest.take n) := by
        refine ⟨Went.more ok (by rw [List.take_append_drop]; exact HW.out) (by rw [HLt3.out]; exact hn3) HL2.out HD2.out HB3.out HF3.out hwe, ?_, by rw [List.length_drop]; omega, ?_⟩
        · have h1 : Rd w3 w.heap.size A' (bv rest) := HRd2.out.kept HF3.out HW.out.fr.size (fun g o e q => by
            have hf := HL.out.far _ e
            have := hf.1; have h9 : E.base ≤ g := this; have := ok.bw; have q : g = E.bw := q; omega)
          have h2 : Rd w4 w.heap.size A' (bv rest) := h1.kept f34 (Nat.le_trans HW.out.fr.size HF3.out.size) (fun g o e q => (HL.out.far _ e).2.2.1 q)
          rw [bv_drop]
          exact h2.cutA (by rw [bv_length]; exact hcc)
        · intro a' ha
          obtain ⟨a, ha, hb⟩ := cutA_block ha
          have hf := HL.out.far a ha
          rw [← hb]
          refine ⟨hf.1, ?_, hf.2.2⟩
          rcases HOwn2.out with q | ⟨N, q, hN⟩
          · rw [q]; exact hf.2.1
          · intro e
            rw [q] at e
            injection e with e
            have := hf.2.2.2
            have := HL.out.went.fr.size
            omega
      have HNext := hide hnext
      clear hnext hwe f34
      go_roundg (rest.length - n)
      case measure => have := HG.out; omega
      case rel => exact ⟨rest.drop n, cutA A' n c', c' - n, by rw [List.length_drop], List.length_drop, by rw [List.length_drop]; omega, hide ⟨v2, xs2, i2, t2, _, HNext.out⟩⟩

theorem mwClose (E : Env) (ok : E.Ok) (hsrv : E.srv = false) (w : World) (bm : Nat) (wr v : Value) (xs : List UInt8) (i t : Nat) (buf : List UInt8) (u : TypeId) (x : Value) (X : List UInt8) (K : Nat)
    (h : WSt E w bm wr v xs i t buf u x) (hM : E.M ≤ 60000) (hinv : Inv E X K xs i t buf) (hX : X.length + 60100 ≤ 1000000000) (hK : K ≤ 1000000) :
    Calls Tryd.prog 88 #[.pointer (some ⟨bm, 0, none⟩)] w fun en w' => en = .returned .nilIface ∧ ∃ v', St E w' .nilIface false .nilIface v' X K ∧ Fr (Wet E bm v) w w' := by
  obtain ⟨cs, hb, hl, hd⟩ := h.wb
  have hm := ok.m
  have hle := h.le
  obtain ⟨hx1, hx2⟩ := hinv.lim
  obtain ⟨i1, i2⟩ := hinv
  rw [cutL_short hle] at i1 i2
  have k1 := flushFrame E ok false hsrv true (fun e => by cases e) w wr v xs [] i bm buf.length t buf.length rfl h.tl cs buf none 0 u x (fun _ => rfl) rfl (by omega) (by omega) (by omega) (by omega) _ rfl (i + 1) rfl h.st hb hl hd h.mw h.bmb h.vne h.g5 (Rd.nil _ _ _) (by intro g o e; cases e)
  have m3 : w.cell? ⟨bm, 3, none⟩ = some .nilIface := h.mw.cell 3
  have he := errNe
  have K1 := hide k1
  have I1 := hide i1
  have I2 := hide i2
  clear k1 i1 i2 h hb hl hd
  go_enter Tryd.func88, Tryd.ntmps88
  go_wp2_with fail
  refine K1.out.mono ?_
  rintro e w' ⟨rfl, v', st, hm', hf, hv⟩
  have HSt := hide st
  have HF := hide hf
  clear st hm' hf hv
  go_wp2_with fail
  go_ret
  refine ⟨rfl, v', ?_, HF.out⟩
  have h1 := HSt.out
  rw [← I1.out, ← I2.out]
  simpa [fmsOut, keyOf, Env.key] using h1
end Go.Proofs.YtjjahfhnebicjaaDoor
