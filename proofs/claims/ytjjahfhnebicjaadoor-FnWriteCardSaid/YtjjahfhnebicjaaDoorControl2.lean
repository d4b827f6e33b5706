/- (*Conn).WriteControl of a client: a control frame, masked. -/
import Derived.Test.YtjjahfhnebicjaaDoorControl
namespace Go.Proofs.YtjjahfhnebicjaaDoor
open Go.ChangeShapes Go.WideShapes Go.ChangeAt Go.RowKit

theorem St.keyed {E : Env} {w w' : World} {wr er v : Value} {iw : Bool} {xs : List UInt8} {i j : Nat} (h : St E w wr iw er v xs i) (ok : E.Ok) (hk : Blk w' E.bi 3 [.int .i64 (j : Int)]) (hf : Fr (fun k => k = E.bi) w w') : St E w' wr iw er v xs j := by
  obtain ⟨cs, hwb, hl⟩ := h.wbuf
  refine ⟨h.conn.kept hf (Ne.symm ok.ic), ⟨cs, hwb.kept hf (Ne.symm ok.iw), hl⟩, h.buf.keep hf (Ne.symm ok.it) (fun k hk e => ?_), h.kbox.kept hf ok.ki, hk, ?_, Nat.le_trans h.size hf.size⟩
  · have := (h.buf.own_ge hk).1; have := ok.bi; omega
  · exact h.keys.keep fun p hp => hf.cell (by have := h.conn.lt; have := ok.b0; have := ok.c0; omega) (by have := ok.b0; have := ok.i0; omega)

/-- The key of the i-th frame. -/
def Env.key (E : Env) (i : Nat) : List UInt8 := E.keys.getD (i % E.keys.length) []

theorem nextKey (E : Env) (ok : E.Ok) (hsrv : E.srv = false) (w : World) (wr er v : Value) (iw : Bool) (xs : List UInt8) (i : Nat) (hi : i ≤ 1000000) (h : St E w wr iw er v xs i) :
    ∃ k0 k1 k2 k3, E.key i = [k0, k1, k2, k3] ∧ Calls Tryd.prog 29 #[.pointer (some ⟨E.bk, 0, none⟩), .pointer (some ⟨E.bi, 0, none⟩)] w fun e w' =>
      e = .returned (.agg #[.int .u8 (k0.toNat : Int), .int .u8 (k1.toNat : Int), .int .u8 (k2.toNat : Int), .int .u8 (k3.toNat : Int)]) ∧ St E w' wr iw er v xs (i + 1) ∧ Fr (fun k => k = E.bi) w w' := by
  have hn := ok.kl hsrv
  obtain ⟨g, o, hA, hg, hcell⟩ := h.keys hn
  have hj : i % E.keys.length < E.keys.length := Nat.mod_lt _ hn
  have hkey : E.key i = E.keys[i % E.keys.length] := by simp [Env.key, List.getD, hj]
  obtain ⟨k0, k1, k2, k3, hk⟩ := key_cells (E.key i) (by rw [hkey]; exact (hcell _ hj).1)
  refine ⟨k0, k1, k2, k3, hk, (masksCl E.bk E.bi E.A E.c E.B E.keys i w hn ok.ks hi h.kbox h.kidx h.keys ok.ki (by have := ok.b0; have := ok.i0; omega)).mono ?_⟩
  rintro e w' ⟨rfl, hk2, hf⟩
  refine ⟨?_, h.keyed ok hk2 hf, hf⟩
  have hk' : E.keys.getD (i % E.keys.length) [] = [k0, k1, k2, k3] := hk
  rw [hk']
  rfl

/-- From the new blocks on. -/
def Up (n : Nat) (k : Nat) : Prop := n ≤ k
theorem St.up {E : Env} {w w' : World} {wr er v : Value} {iw : Bool} {xs : List UInt8} {i n : Nat} (h : St E w wr iw er v xs i) (ok : E.Ok) (hf : Fr (Up n) w w') (hn : E.base ≤ n) (hv : ∀ k, v.ownBlock = some k → k < n) : St E w' wr iw er v xs i :=
  h.keep ok hf (fun k hk => ⟨Nat.le_trans hn hk, fun e => by have := hv k e; have hk : n ≤ k := hk; omega⟩)

theorem own_fr {w w' : World} {base : Nat} {e : TypeId} {v : Value} {n : Nat} {xs : List Value} {S : Nat → Prop} (h : w.ownsRow base e 1 v n xs) (hf : Fr S w w') (hS : ∀ k, v.ownBlock = some k → ¬ S k) : w'.ownsRow base e 1 v n xs := by
  obtain ⟨a1, a2⟩ := h
  refine ⟨a1, ?_⟩
  rcases a2 with a2 | ⟨g, cap, cur, ev, hbb, hh, rest⟩
  · exact .inl a2
  · subst ev
    exact .inr ⟨g, cap, cur, rfl, hbb, (hf.block g (Blk.lt (cs := cur.toList) (t := e) (by unfold Blk; simpa using hh)) (hS g rfl)).trans hh, rest⟩

/-- maskBytes from a place of an own row on. -/
theorem maskTail (k0 k1 k2 k3 : UInt8) (base : Nat) (A : Option Addr) (c n : Nat) (hs ds : List UInt8) (w : World) (h : w.ownsRow base 5 1 (.slice A (hs.length + ds.length) c) (hs.length + ds.length) (bv (hs ++ ds))) (hn : ds.length ≤ 1000000) (hnl : n = ds.length) :
    Calls Tryd.prog 38 #[.agg #[.int .u8 (k0.toNat : Int), .int .u8 (k1.toNat : Int), .int .u8 (k2.toNat : Int), .int .u8 (k3.toNat : Int)], .int .i64 0, .slice (cutA A hs.length c) n (c - hs.length)] w fun _e w' =>
      (∃ r, _e = .returned r) ∧ w'.ownsRow base 5 1 (.slice A (hs.length + ds.length) c) (hs.length + ds.length) (bv (hs ++ maskL [k0, k1, k2, k3] 0 ds)) ∧ Fr (fun i => Value.ownBlock (.slice A (hs.length + ds.length) c) = some i) w w' := by
  subst hnl
  by_cases h0 : ds.length = 0
  · have hd : ds = [] := List.eq_nil_of_length_eq_zero h0
    subst hd
    refine (maskBytes_none _ 0 (by omega) _ _ w).mono ?_
    rintro e w' ⟨rfl, rfl⟩
    exact ⟨⟨_, rfl⟩, h.alloc _, (Fr.refl _ _).alloc _⟩
  · rcases h.2 with ⟨_, e0⟩ | ⟨g, cap, cur, hv, hb, hg, hnc, hcm, hcs, htake⟩
    · omega
    · injection hv with q1 q2 q3
      subst q1 q3
      have hB : Blk w g 5 cur.toList := by unfold Blk; simpa using hg
      have hcl : cur.toList.length = c := by simpa using hcs
      have htk : cur.toList.take (hs.length + ds.length) = bv (hs ++ ds) := by simpa using htake
      rw [cutA_some g 0 hs.length c (by omega), Nat.zero_add]
      refine (maskBytes_some _ [k0, k1, k2, k3] (isKey4 k0 k1 k2 k3) 0 (by omega) g hs.length (c - hs.length) cur.toList ds w (by omega) hB (by omega) (fun j u hu => ?_)).mono ?_
      · have hj : j < ds.length := by have := (List.getElem?_eq_some_iff.1 hu).1; rwa [bv_length] at this
        have h1 : (cur.toList.take (hs.length + ds.length))[hs.length + j]? = (bv (hs ++ ds))[hs.length + j]? := by rw [htk]
        rw [List.getElem?_take, if_pos (by omega), bv_append, List.getElem?_append_right (by rw [bv_length]; omega), bv_length, Nat.add_sub_cancel_left] at h1
        rw [h1]; exact hu
      · rintro e w' ⟨rfl, hB', hf⟩
        refine ⟨⟨_, rfl⟩, ?_, hf.mono (fun i _ e => by subst e; rfl)⟩
        have hml := maskL_length [k0, k1, k2, k3] ds 0
        have hl : (splice cur.toList hs.length (bv (maskL [k0, k1, k2, k3] 0 ds))).length = c := by rw [length_splice _ _ _ (by rw [bv_length]; omega)]; exact hcl
        have ho := own_of_blk hB' hb hnc hl hcm
        have htk2 : cur.toList.take hs.length = bv hs := by
          have h1 := congrArg (List.take hs.length) htk
          rw [List.take_take, Nat.min_eq_left (by omega), bv_append, List.take_left' (bv_length hs)] at h1
          exact h1
        rw [splice_take cur.toList (bv hs) (bv (maskL [k0, k1, k2, k3] 0 ds)) hs.length ds.length c hcl htk2 (by rw [bv_length, hml]) hnc, ← bv_append] at ho
        exact ho

set_option maxHeartbeats 2000000 in
set_option maxRecDepth 100000 in
theorem wcClient (E : Env) (ok : E.Ok) (hsrv : E.srv = false) (w : World) (v : Value) (xs : List UInt8) (i mt : Nat) (hmt : mt = 9 ∨ mt = 10) (ds : List UInt8) (A : Option Addr) (c : Nat) (fr : List UInt8) (k0 k1 k2 k3 : UInt8) (hkey : E.key i = [k0, k1, k2, k3])
    (hfr : fr = [UInt8.ofNat (mt + 128), UInt8.ofNat (ds.length + 128)] ++ [k0, k1, k2, k3] ++ maskL [k0, k1, k2, k3] 0 ds) (hn : ds.length ≤ 125) (hlim : xs.length + 131 ≤ 1000000000) (hi : i ≤ 1000000)
    (h : St E w .nilIface false .nilIface v xs i) (hr : Rd w w.heap.size A (bv ds)) (hc0 : A = none → c = 0) (hA : ∀ g o, A = some ⟨g, o, none⟩ → E.base ≤ g) :
    Calls Tryd.prog 30 #[.pointer (some ⟨E.bc, 0, none⟩), .int .i64 (mt : Int), .slice A ds.length c] w fun en w' => en = .returned .nilIface ∧ CtlLeft E w (xs ++ fr) (i + 1) mt w' := by
  obtain ⟨i0, hi0, hz0, hz1, hz2⟩ := info_parts Tryd.info_u8
  have hctl : isControlN (mt : Int) = true := by unfold isControlN; rcases hmt with rfl | rfl <;> rfl
  have kc := wsIsControl (mt : Int)
  rw [hctl] at kc
  have ho := or128 mt (by omega)
  have ho2 := or128 ds.length (by omega)
  have hmt8 : ((mt : Int) == 8) = false := beq_eq_false_iff_ne.2 (by omega)
  have hm255 : mt ≤ 255 := by omega
  have c1 : w.cell? ⟨E.bc, 1, none⟩ = some (.bool false) := by rw [← hsrv]; exact h.conn.cell 1
  have he := errNe
  have hmw := methodWrite E.bt
  have hmk := fun u => run_make (P := Tryd.prog) u 26 5 i0 (.int .u8 0) Tryd.underlying26 hi0 hz0 .i64 .i64 0 139 (by omega) (by omega) (by rw [hz2]; omega) (by omega)
  have hhdr : bv [UInt8.ofNat (mt + 128), UInt8.ofNat (ds.length + 128)] = [.int .u8 ((mt : Int) + 128), .int .u8 ((ds.length : Int) + 128)] := by
    have e1 : ((UInt8.ofNat (mt + 128)).toNat : Int) = (mt : Int) + 128 := by rw [UInt8.toNat_ofNat']; omega
    have e2 : ((UInt8.ofNat (ds.length + 128)).toNat : Int) = (ds.length : Int) + 128 := by rw [UInt8.toNat_ofNat']; omega
    simp only [bv, List.map_cons, List.map_nil, e1, e2]
  have hz139 : (madeCells #[Value.int .u8 0] 139).toList.length = 139 := by rw [toList_madeCells_one]; simp
  have ho0 : ∀ o, ((w.alloc (.cells (madeCells #[Value.int .u8 0] 139) 5)).alloc o).ownsRow w.heap.size 5 1 (.slice (some ⟨w.heap.size, 0, none⟩) 0 139) 0 [] := fun o =>
    own_of_blk (n := 0) ((blk_new rfl 5 (madeCells #[Value.int .u8 0] 139)).alloc o) (Nat.le_refl _) (by omega) hz139 (by decide)
  have hnew : ∀ w1 : World, ∀ j u, (bv [UInt8.ofNat (mt + 128), UInt8.ofNat (ds.length + 128)])[j]? = some u → (w1.alloc (.cells #[.int .u8 ((mt : Int) + 128), .int .u8 ((ds.length : Int) + 128)] 5)).cell? ((⟨w1.heap.size, 0, none⟩ : Addr).add j) = some u := by
    intro w1 j u hu
    rw [hhdr] at hu
    rw [addr_add, Nat.zero_add]
    have hb := Blk.new w1 5 [.int .u8 ((mt : Int) + 128), .int .u8 ((ds.length : Int) + 128)]
    rw [hb.cell]
    exact hu
  have hb1 : ∀ w1 : World, (((w.alloc (.cells (madeCells #[Value.int .u8 0] 139) 5)).alloc (.cells #[.int .u8 ((mt : Int) + 128), .int .u8 ((ds.length : Int) + 128)] 5)).grownBy w1 (some w.heap.size)) → Below w.heap.size w w1 := fun w1 hg =>
    (((Below.refl _ _).alloc (Nat.le_refl _) _).alloc (by simp) _).grown hg (by simp; omega) (fun k e => by injection e with e; omega)
  have HA := hide hA
  have HFr := hide hfr
  have HMt := hide hmt
  have HKey := hide hkey
  have KC := hide kc
  have H := hide h
  have HR := hide hr
  have HC0 := hide hc0
  have HO0 := hide ho0
  have HNew := hide hnew
  have HB1 := hide hb1
  clear hA hfr hmt hkey kc h hr hc0 hctl hhdr hz139 ho0 hnew hb1
  go_enter Tryd.func30, Tryd.ntmps30
  go_wp2_with fail
  refine (KC.out _).mono ?_
  rintro e w' ⟨rfl, rfl⟩
  go_wp2_with (first
    | (at_builtin; refine wpList_app _ rfl (.tmp 34) (.tmp 37) _ rfl w.heap.size 5 i0 _ 1 Tryd.underlying26 hi0 hz0 hz1 hz2 rfl (.slice (some ⟨w.heap.size, 0, none⟩) 0 139) 0 [] rfl (HO0.out _) (w.heap.size + 2) (some ⟨w.heap.size + 1, 0, none⟩) 2 2 (bv [UInt8.ofNat (mt + 128), UInt8.ofNat (ds.length + 128)]) rfl rfl (Rd.of_addr (by simp) (fun j u hu => by have := HNew.out (w.alloc (.cells (madeCells #[Value.int .u8 0] 139) 5)) j u hu; simpa using this)) (by intro h; cases h) (bv_one _) (by simp only [maxLen]; omega) (by omega) (by simp; omega) ?_
       intro v1 w1 hown1 hg1 hat1
       have hbw1 := HB1.out w1 hg1.out
       have d1 : w1.cell? ⟨E.bc, 1, none⟩ = some (.bool false) := (hbw1.cell (p := ⟨E.bc, 1, none⟩) H.out.conn.lt).trans c1
       have d8 : w1.cell? ⟨E.bc, 8, none⟩ = some (.func (.func 29) #[] #[.pointer (some ⟨E.bk, 0, none⟩), .pointer (some ⟨E.bi, 0, none⟩)]) := (hbw1.cell (p := ⟨E.bc, 8, none⟩) H.out.conn.lt).trans (H.out.conn.cell 8)
       have HBW1 := hide hbw1
       clear hbw1))
  have st1 := H.out.below ok HBW1.out
  obtain ⟨q0, q1, q2, q3, hq, kk⟩ := nextKey E ok hsrv w1 .nilIface .nilIface v false xs i hi st1
  rw [HKey.out] at hq
  injection hq with p0 hq
  injection hq with p1 hq
  injection hq with p2 hq
  injection hq with p3 hq
  subst p0 p1 p2 p3
  refine kk.mono ?_
  rintro e w2 ⟨rfl, st2, hf2⟩
  have hbi : E.bi < w.heap.size := H.out.kidx.lt
  have hown2 := own_fr hown1.out hf2 (fun k hk e => by have := (hown1.out.lt k hk).1; omega)
  have hr2 : Rd w2 w.heap.size A (bv ds) := (HR.out.below HBW1.out).kept hf2 HBW1.out.size (fun g o e hb => by have := HA.out g o e; have := ok.bi; omega)
  have hsz1 := HBW1.out.size
  have hsz2 := hf2.size
  have hlt1 : ∀ k, v1.ownBlock = some k → k < w2.heap.size := fun k hk => (hown2.lt k hk).2
  have HOwn2 := hide hown2
  have HR2 := hide hr2
  have HSt2 := hide st2
  have HF2 := hide hf2
  have hkb : bv [k0, k1, k2, k3] = [.int .u8 (k0.toNat : Int), .int .u8 (k1.toNat : Int), .int .u8 (k2.toNat : Int), .int .u8 (k3.toNat : Int)] := rfl
  have hnk : ∀ j u, (bv [k0, k1, k2, k3])[j]? = some u → (w2.alloc (.cells #[.int .u8 (k0.toNat : Int), .int .u8 (k1.toNat : Int), .int .u8 (k2.toNat : Int), .int .u8 (k3.toNat : Int)] 42)).cell? ((⟨w2.heap.size, 0, none⟩ : Addr).add j) = some u := by
    intro j u hu
    rw [addr_add, Nat.zero_add]
    have hb := Blk.new w2 42 [.int .u8 (k0.toNat : Int), .int .u8 (k1.toNat : Int), .int .u8 (k2.toNat : Int), .int .u8 (k3.toNat : Int)]
    rw [hb.cell]
    exact hu
  have HNk := hide hnk
  clear st1 kk hown2 hr2 st2 hf2 hkb hnk
  go_wp2_with (first
    | (at_builtin; refine wpList_app _ rfl (.tmp 51) (.tmp 52) _ rfl w.heap.size 5 i0 _ 1 Tryd.underlying26 hi0 hz0 hz1 hz2 rfl v1 (0 + 2) ([] ++ bv [UInt8.ofNat (mt + 128), UInt8.ofNat (ds.length + 128)]) rfl (HOwn2.out.alloc _) (w2.heap.size + 1) (some ⟨w2.heap.size, 0, none⟩) 4 4 (bv [k0, k1, k2, k3]) rfl rfl (Rd.of_addr (by simp) HNk.out) (by intro h; cases h) (bv_one _) (by simp only [maxLen]; omega) (by omega) (by simp; omega) ?_
       intro v2 w3 hown3 hg3 hat3)
    | (at_builtin; refine wpList_app _ rfl (.tmp 54) (.tmp 55) _ rfl w.heap.size 5 i0 _ 1 Tryd.underlying26 hi0 hz0 hz1 hz2 rfl v2 (0 + 2 + 4) ([] ++ bv [UInt8.ofNat (mt + 128), UInt8.ofNat (ds.length + 128)] ++ bv [k0, k1, k2, k3]) rfl hown3.out w.heap.size A ds.length c (bv ds) rfl (bv_length ds)
         ((HR2.out.below ((Below.refl w2.heap.size w2).alloc (Nat.le_refl _) (.cells #[.int .u8 (k0.toNat : Int), .int .u8 (k1.toNat : Int), .int .u8 (k2.toNat : Int), .int .u8 (k3.toNat : Int)] 42) |>.mono (by omega))).below (((Below.refl w.heap.size _).grown hg3.out (by simp; omega) (fun k e => (HOwn2.out.lt k e).1)))) HC0.out (bv_one ds) (by simp only [maxLen]; omega) (by omega) (by have := hg3.out.size; simp at this; omega) ?_
       intro v3 w4 hown4 hg4 hat4))
  have hs6 : ([UInt8.ofNat (mt + 128), UInt8.ofNat (ds.length + 128)] ++ [k0, k1, k2, k3]).length = 6 := rfl
  have own4 : w4.ownsRow w.heap.size 5 1 v3 (6 + ds.length) (bv (([UInt8.ofNat (mt + 128), UInt8.ofNat (ds.length + 128)] ++ [k0, k1, k2, k3]) ++ ds)) := by
    rw [bv_append, bv_append]; exact hown4.out
  obtain ⟨A3, c3, rfl, _, _, _⟩ := own_shape own4
  have f3 : Fr (fun k => v1.ownBlock = some k) (w2.alloc (.cells #[.int .u8 (k0.toNat : Int), .int .u8 (k1.toNat : Int), .int .u8 (k2.toNat : Int), .int .u8 (k3.toNat : Int)] 42)) w3 := (Fr.refl _ _).grown hg3.out (fun k e _ => e)
  have f4 : Fr (fun k => v2.ownBlock = some k) w3 w4 := (Fr.refl _ _).grown hg4.out (fun k e _ => e)
  have hn3 : ∀ k, v2.ownBlock = some k → k ≠ w2.heap.size := by
    intro k hk e
    rcases hat3.out with h | h
    · rw [h] at hk; have := hlt1 k hk; omega
    · rw [h] at hk; injection hk with hk; simp at hk; omega
  have hkb := Blk.new w2 42 [.int .u8 (k0.toNat : Int), .int .u8 (k1.toNat : Int), .int .u8 (k2.toNat : Int), .int .u8 (k3.toNat : Int)]
  have hkb4 := (hkb.kept f3 (fun e => by have := hlt1 _ e; omega)).kept f4 (fun e => hn3 _ e rfl)
  have x0 : w4.cell? ⟨w2.heap.size, 0, none⟩ = some (.int .u8 (k0.toNat : Int)) := hkb4.cell 0
  have x1 : w4.cell? ⟨w2.heap.size, 1, none⟩ = some (.int .u8 (k1.toNat : Int)) := hkb4.cell 1
  have x2 : w4.cell? ⟨w2.heap.size, 2, none⟩ = some (.int .u8 (k2.toNat : Int)) := hkb4.cell 2
  have x3 : w4.cell? ⟨w2.heap.size, 3, none⟩ = some (.int .u8 (k3.toNat : Int)) := hkb4.cell 3
  have fu : Fr (Up w.heap.size) w2 w4 := by
    have a1 : Fr (Up w.heap.size) w2 (w2.alloc (.cells #[.int .u8 (k0.toNat : Int), .int .u8 (k1.toNat : Int), .int .u8 (k2.toNat : Int), .int .u8 (k3.toNat : Int)] 42)) := (Fr.refl _ _).alloc _
    have a2 := a1.then_ f3 (fun k _ e => (hown1.out.lt k e).1)
    exact a2.then_ f4 (fun k _ e => (hown3.out.lt k e).1)
  have hcut := run_cut_from (P := Tryd.prog) 26 5 i0 Tryd.underlying26 hi0 hz1 A3 (6 + ds.length) c3 6 (by omega)
  rw [Nat.add_sub_cancel_left, show ((6 : Nat) : Int) = 6 from rfl] at hcut
  have st4 := HSt2.out.up ok fu H.out.size (fun k hk => (H.out.buf.own_ge hk).2)
  have hfin : ∀ w5, Fr (fun i => Value.ownBlock (.slice A3 (6 + ds.length) c3) = some i) w4.drew w5 → St E w5 .nilIface false .nilIface v xs (i + 1) ∧ Below E.W0 w w5 := by
    intro w5 f5
    have hlt5 : ∀ k, Value.ownBlock (.slice A3 (6 + ds.length) c3) = some k → w.heap.size ≤ k := fun k e => (own4.lt k e).1
    have fu5 : Fr (Up w.heap.size) w2 w5 := fu.drew.then_ f5 (fun k _ e => hlt5 k e)
    refine ⟨HSt2.out.up ok fu5 H.out.size (fun k hk => (H.out.buf.own_ge hk).2), ?_⟩
    have hW : E.W0 ≤ w.heap.size := by have := H.out.size; have := ok.c0; have := ok.bc; omega
    have b1 : Below E.W0 w w1 := HBW1.out.mono hW
    refine b1.trans ⟨?_, ?_, ?_, ?_, ?_⟩
    · rw [fu5.os, HF2.out.os]
    · rw [fu5.tape, HF2.out.tape]
    · rw [fu5.output, HF2.out.output]
    · exact Nat.le_trans HF2.out.size fu5.size
    · intro k hk
      have hk1 : k < w1.heap.size := by omega
      rw [fu5.block k (by omega) (fun e => by have e : w.heap.size ≤ k := e; omega), HF2.out.block k hk1 (fun e => by have := ok.i0; omega)]
  have HOwn4 := hide own4
  have HFin := hide hfin
  have HS6 := hide hs6
  clear own4 f3 f4 hn3 hkb hkb4 fu st4 hfin hs6
  go_region_with (
      go_at_call 38
      refine (maskTail k0 k1 k2 k3 w.heap.size A3 c3 ds.length ([UInt8.ofNat (mt + 128), UInt8.ofNat (ds.length + 128)] ++ [k0, k1, k2, k3]) ds _ ?_ (by omega) rfl).mono ?_
      exact HOwn4.out
      rintro e w5 ⟨⟨r, rfl⟩, hown5, hf5⟩
      have hst5 := HFin.out w5 hf5
      have e7 : w5.cell? ⟨E.bc, 7, none⟩ = some .nilIface := hst5.1.conn.cell 7
      have e0 : w5.cell? ⟨E.bc, 0, none⟩ = some (.iface 45 (.pointer (some ⟨E.bt, 0, none⟩))) := hst5.1.conn.cell 0
      have HOwn5 := hide hown5
      have HSt5 := hide hst5
      clear hown5 hst5 hf5)
  all_goals (
    go_wp2_with fail
    have hl : fr.length = 6 + ds.length := by rw [HFr.out, List.length_append, HS6.out, maskL_length]
    have hown6 := HOwn5.out
    rw [HS6.out, ← HFr.out] at hown6
    obtain ⟨A6, c6, hv6, _, _, hrd6⟩ := own_shape hown6
    injection hv6 with y1 y2 y3
    subst y1 y3
    have kw := trWrite E.bt E.rd v E.base xs fr A3 c3 w5.heap.size w5 HSt5.out.1.buf (by omega) (by omega) hrd6 (Nat.le_refl _)
      (fun q o e => by
        subst e
        have := (hown6.lt q rfl).1
        have := H.out.size
        have := ok.bt
        omega) HSt5.out.1.size
    rw [hl] at kw
    refine kw.mono ?_
    rintro e w6 hw
    obtain ⟨v', rfl, st6, hf6, _⟩ := HSt5.out.1.wrote ok hw
    have hbel6 : Below E.W0 w w6 := HSt5.out.2.trans (below_of_left ok HSt5.out.1 hf6)
    have HS7 := hide (And.intro st6 hbel6)
    clear st6 hbel6 hf6 hw kw hrd6 hown6
    go_wp2_with fail
    go_ret
    exact ⟨rfl, v', .nilIface, HS7.out.1, fun _ => rfl, HS7.out.2⟩)

set_option maxHeartbeats 2000000 in
set_option maxRecDepth 100000 in
theorem wcClientClose (E : Env) (ok : E.Ok) (hsrv : E.srv = false) (w : World) (v : Value) (xs : List UInt8) (i mt : Nat) (hmt : mt = 8) (u : TypeId) (x : Value) (hgv : w.cell? ⟨3, 0, none⟩ = some (.iface u x)) (ds : List UInt8) (A : Option Addr) (c : Nat) (fr : List UInt8) (k0 k1 k2 k3 : UInt8) (hkey : E.key i = [k0, k1, k2, k3])
    (hfr : fr = [UInt8.ofNat (mt + 128), UInt8.ofNat (ds.length + 128)] ++ [k0, k1, k2, k3] ++ maskL [k0, k1, k2, k3] 0 ds) (hn : ds.length ≤ 125) (hlim : xs.length + 131 ≤ 1000000000) (hi : i ≤ 1000000)
    (h : St E w .nilIface false .nilIface v xs i) (hr : Rd w w.heap.size A (bv ds)) (hc0 : A = none → c = 0) (hA : ∀ g o, A = some ⟨g, o, none⟩ → E.base ≤ g) :
    Calls Tryd.prog 30 #[.pointer (some ⟨E.bc, 0, none⟩), .int .i64 (mt : Int), .slice A ds.length c] w fun en w' => en = .returned .nilIface ∧ CtlLeft E w (xs ++ fr) (i + 1) mt w' := by
  obtain ⟨i0, hi0, hz0, hz1, hz2⟩ := info_parts Tryd.info_u8
  have hctl : isControlN (mt : Int) = true := by unfold isControlN; rw [hmt]; rfl
  have kc := wsIsControl (mt : Int)
  rw [hctl] at kc
  have ho := or128 mt (by omega)
  have ho2 := or128 ds.length (by omega)
  have hmt8 : ((mt : Int) == 8) = true := by rw [hmt]; rfl
  have hm255 : mt ≤ 255 := by omega
  have c1 : w.cell? ⟨E.bc, 1, none⟩ = some (.bool false) := by rw [← hsrv]; exact h.conn.cell 1
  have he := errNe
  have hmw := methodWrite E.bt
  have hmk := fun u => run_make (P := Tryd.prog) u 26 5 i0 (.int .u8 0) Tryd.underlying26 hi0 hz0 .i64 .i64 0 139 (by omega) (by omega) (by rw [hz2]; omega) (by omega)
  have hhdr : bv [UInt8.ofNat (mt + 128), UInt8.ofNat (ds.length + 128)] = [.int .u8 ((mt : Int) + 128), .int .u8 ((ds.length : Int) + 128)] := by
    have e1 : ((UInt8.ofNat (mt + 128)).toNat : Int) = (mt : Int) + 128 := by rw [UInt8.toNat_ofNat']; omega
    have e2 : ((UInt8.ofNat (ds.length + 128)).toNat : Int) = (ds.length : Int) + 128 := by rw [UInt8.toNat_ofNat']; omega
    simp only [bv, List.map_cons, List.map_nil, e1, e2]
  have hz139 : (madeCells #[Value.int .u8 0] 139).toList.length = 139 := by rw [toList_madeCells_one]; simp
  have ho0 : ∀ o, ((w.alloc (.cells (madeCells #[Value.int .u8 0] 139) 5)).alloc o).ownsRow w.heap.size 5 1 (.slice (some ⟨w.heap.size, 0, none⟩) 0 139) 0 [] := fun o =>
    own_of_blk (n := 0) ((blk_new rfl 5 (madeCells #[Value.int .u8 0] 139)).alloc o) (Nat.le_refl _) (by omega) hz139 (by decide)
  have hnew : ∀ w1 : World, ∀ j u, (bv [UInt8.ofNat (mt + 128), UInt8.ofNat (ds.length + 128)])[j]? = some u → (w1.alloc (.cells #[.int .u8 ((mt : Int) + 128), .int .u8 ((ds.length : Int) + 128)] 5)).cell? ((⟨w1.heap.size, 0, none⟩ : Addr).add j) = some u := by
    intro w1 j u hu
    rw [hhdr] at hu
    rw [addr_add, Nat.zero_add]
    have hb := Blk.new w1 5 [.int .u8 ((mt : Int) + 128), .int .u8 ((ds.length : Int) + 128)]
    rw [hb.cell]
    exact hu
  have hb1 : ∀ w1 : World, (((w.alloc (.cells (madeCells #[Value.int .u8 0] 139) 5)).alloc (.cells #[.int .u8 ((mt : Int) + 128), .int .u8 ((ds.length : Int) + 128)] 5)).grownBy w1 (some w.heap.size)) → Below w.heap.size w w1 := fun w1 hg =>
    (((Below.refl _ _).alloc (Nat.le_refl _) _).alloc (by simp) _).grown hg (by simp; omega) (fun k e => by injection e with e; omega)
  have HA := hide hA
  have HFr := hide hfr
  have HMt := hide hmt
  have HKey := hide hkey
  have KC := hide kc
  have H := hide h
  have HR := hide hr
  have HC0 := hide hc0
  have HO0 := hide ho0
  have HNew := hide hnew
  have HB1 := hide hb1
  clear hA hfr hmt hkey kc h hr hc0 hctl hhdr hz139 ho0 hnew hb1
  go_enter Tryd.func30, Tryd.ntmps30
  go_wp2_with fail
  refine (KC.out _).mono ?_
  rintro e w' ⟨rfl, rfl⟩
  go_wp2_with (first
    | (at_builtin; refine wpList_app _ rfl (.tmp 34) (.tmp 37) _ rfl w.heap.size 5 i0 _ 1 Tryd.underlying26 hi0 hz0 hz1 hz2 rfl (.slice (some ⟨w.heap.size, 0, none⟩) 0 139) 0 [] rfl (HO0.out _) (w.heap.size + 2) (some ⟨w.heap.size + 1, 0, none⟩) 2 2 (bv [UInt8.ofNat (mt + 128), UInt8.ofNat (ds.length + 128)]) rfl rfl (Rd.of_addr (by simp) (fun j u hu => by have := HNew.out (w.alloc (.cells (madeCells #[Value.int .u8 0] 139) 5)) j u hu; simpa using this)) (by intro h; cases h) (bv_one _) (by simp only [maxLen]; omega) (by omega) (by simp; omega) ?_
       intro v1 w1 hown1 hg1 hat1
       have hbw1 := HB1.out w1 hg1.out
       have d1 : w1.cell? ⟨E.bc, 1, none⟩ = some (.bool false) := (hbw1.cell (p := ⟨E.bc, 1, none⟩) H.out.conn.lt).trans c1
       have d8 : w1.cell? ⟨E.bc, 8, none⟩ = some (.func (.func 29) #[] #[.pointer (some ⟨E.bk, 0, none⟩), .pointer (some ⟨E.bi, 0, none⟩)]) := (hbw1.cell (p := ⟨E.bc, 8, none⟩) H.out.conn.lt).trans (H.out.conn.cell 8)
       have HBW1 := hide hbw1
       clear hbw1))
  have st1 := H.out.below ok HBW1.out
  obtain ⟨q0, q1, q2, q3, hq, kk⟩ := nextKey E ok hsrv w1 .nilIface .nilIface v false xs i hi st1
  rw [HKey.out] at hq
  injection hq with p0 hq
  injection hq with p1 hq
  injection hq with p2 hq
  injection hq with p3 hq
  subst p0 p1 p2 p3
  refine kk.mono ?_
  rintro e w2 ⟨rfl, st2, hf2⟩
  have hbi : E.bi < w.heap.size := H.out.kidx.lt
  have hown2 := own_fr hown1.out hf2 (fun k hk e => by have := (hown1.out.lt k hk).1; omega)
  have hr2 : Rd w2 w.heap.size A (bv ds) := (HR.out.below HBW1.out).kept hf2 HBW1.out.size (fun g o e hb => by have := HA.out g o e; have := ok.bi; omega)
  have hsz1 := HBW1.out.size
  have hsz2 := hf2.size
  have hlt1 : ∀ k, v1.ownBlock = some k → k < w2.heap.size := fun k hk => (hown2.lt k hk).2
  have HOwn2 := hide hown2
  have HR2 := hide hr2
  have HSt2 := hide st2
  have HF2 := hide hf2
  have hkb : bv [k0, k1, k2, k3] = [.int .u8 (k0.toNat : Int), .int .u8 (k1.toNat : Int), .int .u8 (k2.toNat : Int), .int .u8 (k3.toNat : Int)] := rfl
  have hnk : ∀ j u, (bv [k0, k1, k2, k3])[j]? = some u → (w2.alloc (.cells #[.int .u8 (k0.toNat : Int), .int .u8 (k1.toNat : Int), .int .u8 (k2.toNat : Int), .int .u8 (k3.toNat : Int)] 42)).cell? ((⟨w2.heap.size, 0, none⟩ : Addr).add j) = some u := by
    intro j u hu
    rw [addr_add, Nat.zero_add]
    have hb := Blk.new w2 42 [.int .u8 (k0.toNat : Int), .int .u8 (k1.toNat : Int), .int .u8 (k2.toNat : Int), .int .u8 (k3.toNat : Int)]
    rw [hb.cell]
    exact hu
  have HNk := hide hnk
  clear st1 kk hown2 hr2 st2 hf2 hkb hnk
  go_wp2_with (first
    | (at_builtin; refine wpList_app _ rfl (.tmp 51) (.tmp 52) _ rfl w.heap.size 5 i0 _ 1 Tryd.underlying26 hi0 hz0 hz1 hz2 rfl v1 (0 + 2) ([] ++ bv [UInt8.ofNat (mt + 128), UInt8.ofNat (ds.length + 128)]) rfl (HOwn2.out.alloc _) (w2.heap.size + 1) (some ⟨w2.heap.size, 0, none⟩) 4 4 (bv [k0, k1, k2, k3]) rfl rfl (Rd.of_addr (by simp) HNk.out) (by intro h; cases h) (bv_one _) (by simp only [maxLen]; omega) (by omega) (by simp; omega) ?_
       intro v2 w3 hown3 hg3 hat3)
    | (at_builtin; refine wpList_app _ rfl (.tmp 54) (.tmp 55) _ rfl w.heap.size 5 i0 _ 1 Tryd.underlying26 hi0 hz0 hz1 hz2 rfl v2 (0 + 2 + 4) ([] ++ bv [UInt8.ofNat (mt + 128), UInt8.ofNat (ds.length + 128)] ++ bv [k0, k1, k2, k3]) rfl hown3.out w.heap.size A ds.length c (bv ds) rfl (bv_length ds)
         ((HR2.out.below ((Below.refl w2.heap.size w2).alloc (Nat.le_refl _) (.cells #[.int .u8 (k0.toNat : Int), .int .u8 (k1.toNat : Int), .int .u8 (k2.toNat : Int), .int .u8 (k3.toNat : Int)] 42) |>.mono (by omega))).below (((Below.refl w.heap.size _).grown hg3.out (by simp; omega) (fun k e => (HOwn2.out.lt k e).1)))) HC0.out (bv_one ds) (by simp only [maxLen]; omega) (by omega) (by have := hg3.out.size; simp at this; omega) ?_
       intro v3 w4 hown4 hg4 hat4))
  have hs6 : ([UInt8.ofNat (mt + 128), UInt8.ofNat (ds.length + 128)] ++ [k0, k1, k2, k3]).length = 6 := rfl
  have own4 : w4.ownsRow w.heap.size 5 1 v3 (6 + ds.length) (bv (([UInt8.ofNat (mt + 128), UInt8.ofNat (ds.length + 128)] ++ [k0, k1, k2, k3]) ++ ds)) := by
    rw [bv_append, bv_append]; exact hown4.out
  obtain ⟨A3, c3, rfl, _, _, _⟩ := own_shape own4
  have f3 : Fr (fun k => v1.ownBlock = some k) (w2.alloc (.cells #[.int .u8 (k0.toNat : Int), .int .u8 (k1.toNat : Int), .int .u8 (k2.toNat : Int), .int .u8 (k3.toNat : Int)] 42)) w3 := (Fr.refl _ _).grown hg3.out (fun k e _ => e)
  have f4 : Fr (fun k => v2.ownBlock = some k) w3 w4 := (Fr.refl _ _).grown hg4.out (fun k e _ => e)
  have hn3 : ∀ k, v2.ownBlock = some k → k ≠ w2.heap.size := by
    intro k hk e
    rcases hat3.out with h | h
    · rw [h] at hk; have := hlt1 k hk; omega
    · rw [h] at hk; injection hk with hk; simp at hk; omega
  have hkb := Blk.new w2 42 [.int .u8 (k0.toNat : Int), .int .u8 (k1.toNat : Int), .int .u8 (k2.toNat : Int), .int .u8 (k3.toNat : Int)]
  have hkb4 := (hkb.kept f3 (fun e => by have := hlt1 _ e; omega)).kept f4 (fun e => hn3 _ e rfl)
  have x0 : w4.cell? ⟨w2.heap.size, 0, none⟩ = some (.int .u8 (k0.toNat : Int)) := hkb4.cell 0
  have x1 : w4.cell? ⟨w2.heap.size, 1, none⟩ = some (.int .u8 (k1.toNat : Int)) := hkb4.cell 1
  have x2 : w4.cell? ⟨w2.heap.size, 2, none⟩ = some (.int .u8 (k2.toNat : Int)) := hkb4.cell 2
  have x3 : w4.cell? ⟨w2.heap.size, 3, none⟩ = some (.int .u8 (k3.toNat : Int)) := hkb4.cell 3
  have fu : Fr (Up w.heap.size) w2 w4 := by
    have a1 : Fr (Up w.heap.size) w2 (w2.alloc (.cells #[.int .u8 (k0.toNat : Int), .int .u8 (k1.toNat : Int), .int .u8 (k2.toNat : Int), .int .u8 (k3.toNat : Int)] 42)) := (Fr.refl _ _).alloc _
    have a2 := a1.then_ f3 (fun k _ e => (hown1.out.lt k e).1)
    exact a2.then_ f4 (fun k _ e => (hown3.out.lt k e).1)
  have hcut := run_cut_from (P := Tryd.prog) 26 5 i0 Tryd.underlying26 hi0 hz1 A3 (6 + ds.length) c3 6 (by omega)
  rw [Nat.add_sub_cancel_left, show ((6 : Nat) : Int) = 6 from rfl] at hcut
  have st4 := HSt2.out.up ok fu H.out.size (fun k hk => (H.out.buf.own_ge hk).2)
  have hfin : ∀ w5, Fr (fun i => Value.ownBlock (.slice A3 (6 + ds.length) c3) = some i) w4.drew w5 → St E w5 .nilIface false .nilIface v xs (i + 1) ∧ Below E.W0 w w5 := by
    intro w5 f5
    have hlt5 : ∀ k, Value.ownBlock (.slice A3 (6 + ds.length) c3) = some k → w.heap.size ≤ k := fun k e => (own4.lt k e).1
    have fu5 : Fr (Up w.heap.size) w2 w5 := fu.drew.then_ f5 (fun k _ e => hlt5 k e)
    refine ⟨HSt2.out.up ok fu5 H.out.size (fun k hk => (H.out.buf.own_ge hk).2), ?_⟩
    have hW : E.W0 ≤ w.heap.size := by have := H.out.size; have := ok.c0; have := ok.bc; omega
    have b1 : Below E.W0 w w1 := HBW1.out.mono hW
    refine b1.trans ⟨?_, ?_, ?_, ?_, ?_⟩
    · rw [fu5.os, HF2.out.os]
    · rw [fu5.tape, HF2.out.tape]
    · rw [fu5.output, HF2.out.output]
    · exact Nat.le_trans HF2.out.size fu5.size
    · intro k hk
      have hk1 : k < w1.heap.size := by omega
      rw [fu5.block k (by omega) (fun e => by have e : w.heap.size ≤ k := e; omega), HF2.out.block k hk1 (fun e => by have := ok.i0; omega)]
  have HOwn4 := hide own4
  have HFin := hide hfin
  have HS6 := hide hs6
  clear own4 f3 f4 hn3 hkb hkb4 fu st4 hfin hs6
  go_region_with (
      go_at_call 38
      refine (maskTail k0 k1 k2 k3 w.heap.size A3 c3 ds.length ([UInt8.ofNat (mt + 128), UInt8.ofNat (ds.length + 128)] ++ [k0, k1, k2, k3]) ds _ ?_ (by omega) rfl).mono ?_
      exact HOwn4.out
      rintro e w5 ⟨⟨r, rfl⟩, hown5, hf5⟩
      have hst5 := HFin.out w5 hf5
      have e7 : w5.cell? ⟨E.bc, 7, none⟩ = some .nilIface := hst5.1.conn.cell 7
      have e0 : w5.cell? ⟨E.bc, 0, none⟩ = some (.iface 45 (.pointer (some ⟨E.bt, 0, none⟩))) := hst5.1.conn.cell 0
      have HOwn5 := hide hown5
      have HSt5 := hide hst5
      clear hown5 hst5 hf5)
  all_goals (
    go_wp2_with fail
    have hl : fr.length = 6 + ds.length := by rw [HFr.out, List.length_append, HS6.out, maskL_length]
    have hown6 := HOwn5.out
    rw [HS6.out, ← HFr.out] at hown6
    obtain ⟨A6, c6, hv6, _, _, hrd6⟩ := own_shape hown6
    injection hv6 with y1 y2 y3
    subst y1 y3
    have kw := trWrite E.bt E.rd v E.base xs fr A3 c3 w5.heap.size w5 HSt5.out.1.buf (by omega) (by omega) hrd6 (Nat.le_refl _)
      (fun q o e => by
        subst e
        have := (hown6.lt q rfl).1
        have := H.out.size
        have := ok.bt
        omega) HSt5.out.1.size
    rw [hl] at kw
    refine kw.mono ?_
    rintro e w6 hw
    obtain ⟨v', rfl, st6, hf6, _⟩ := HSt5.out.1.wrote ok hw
    have hbel6 : Below E.W0 w w6 := HSt5.out.2.trans (below_of_left ok HSt5.out.1 hf6)
    have e3 : w6.cell? ⟨3, 0, none⟩ = some (.iface u x) := (hbel6.cell (p := ⟨3, 0, none⟩) (by have := ok.one; show 3 < _; omega)).trans hgv
    have HS7 := hide (And.intro st6 hbel6)
    clear st6 hbel6 hf6 hw kw hrd6 hown6
    go_wp2_with fail
    refine (writeFatal E w6 .nilIface false u x HS7.out.1.conn).mono ?_
    rintro e w7 ⟨rfl, rfl⟩
    go_wp2_with fail
    go_ret
    refine ⟨rfl, v', .iface u x, HS7.out.1.conn_store ok 7 (.iface u x) (cells_7 E _ _ _ _), fun h => absurd HMt.out h, ?_⟩
    exact HS7.out.2.setCell (p := ⟨E.bc, 7, none⟩) ok.c0 _)
end Go.Proofs.YtjjahfhnebicjaaDoor
