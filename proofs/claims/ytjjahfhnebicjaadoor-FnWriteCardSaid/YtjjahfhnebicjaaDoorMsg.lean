/- A client's message in frames; the writer's state; ncopy. -/
import Derived.Test.YtjjahfhnebicjaaDoorFrame3
import Derived.BigQuiet
namespace Go.Proofs.YtjjahfhnebicjaaDoor
open Go.ChangeShapes Go.WideShapes Go.ChangeAt Go.RowKit

/-- A frame, as the code of the specification has it. -/
structure Fm where
  last : Bool
  op : Nat
  data : List UInt8
/-- A client's message in frames of so many bytes at most. -/
def cutL (S t : Nat) (ds : List UInt8) : List Fm :=
  if ds.length ≤ S ∨ S = 0 then [⟨true, t, ds⟩] else ⟨false, t, ds.take S⟩ :: cutL S 0 (ds.drop S)
termination_by ds.length
decreasing_by rw [List.length_drop]; omega
theorem cutL_short {S t : Nat} {ds : List UInt8} (h : ds.length ≤ S) : cutL S t ds = [⟨true, t, ds⟩] := by
  rw [cutL, if_pos (.inl h)]
theorem cutL_long {S t : Nat} {ds : List UInt8} (h0 : 0 < S) (h : S < ds.length) : cutL S t ds = ⟨false, t, ds.take S⟩ :: cutL S 0 (ds.drop S) := by
  rw [cutL, if_neg (by omega)]
def keyOf (keys : List (List UInt8)) (i : Nat) : List UInt8 := keys.getD (i % keys.length) []
/-- The bytes of frames, each masked by the next key. -/
def fmsOut (srv : Bool) (keys : List (List UInt8)) : Nat → List Fm → List UInt8
  | _, [] => []
  | i, f :: fs => frameL srv f.last f.op f.data.length (keyOf keys i) f.data ++ fmsOut srv keys (i + 1) fs
theorem fmsOut_append (srv : Bool) (keys : List (List UInt8)) : ∀ (fs gs : List Fm) (i : Nat), fmsOut srv keys i (fs ++ gs) = fmsOut srv keys i fs ++ fmsOut srv keys (i + fs.length) gs
  | [], gs, i => rfl
  | f :: fs, gs, i => by
    simp only [List.cons_append, fmsOut, List.length_cons, fmsOut_append srv keys fs gs (i + 1), List.append_assoc]
    rw [show i + 1 + fs.length = i + (fs.length + 1) by omega]
theorem frameL_len (srv last : Bool) (t L : Nat) (key ds : List UInt8) : ds.length ≤ (frameL srv last t L key ds).length := by
  unfold frameL
  cases srv <;> simp [maskL_length] <;> omega

/-- What is still to come out: X in all, K keys in all. -/
def Inv (E : Env) (X : List UInt8) (K : Nat) (xs : List UInt8) (i t : Nat) (ds : List UInt8) : Prop :=
  xs ++ fmsOut false E.keys i (cutL (E.M - 14) t ds) = X ∧ i + (cutL (E.M - 14) t ds).length = K
/-- A client's writer in the midst of a message: buf lies in the buffer. -/
structure WSt (E : Env) (w : World) (bm : Nat) (wr v : Value) (xs : List UInt8) (i t : Nat) (buf : List UInt8) (u : TypeId) (x : Value) : Prop where
  st : St E w wr false .nilIface v xs i
  mw : Blk w bm 93 [.pointer (some ⟨E.bc, 0, none⟩), .int .i64 ((14 + buf.length : Nat) : Int), .int .i64 (t : Int), .nilIface]
  wb : ∃ cs, Blk w E.bw 5 cs ∧ cs.length = E.M ∧ (cs.drop 14).take buf.length = bv buf
  le : buf.length ≤ E.M - 14
  tl : t ≤ 2
  bmb : E.base ≤ bm
  vne : v.ownBlock ≠ some bm
  g5 : w.cell? ⟨5, 0, none⟩ = some (.iface u x)
/-- What may change while a message is written. -/
def Wet (E : Env) (bm : Nat) (v : Value) (b : Nat) : Prop := b = E.bt ∨ b = E.bw ∨ b = E.bc ∨ b = E.bi ∨ b = bm ∨ v.ownBlock = some b
structure Went (E : Env) (w : World) (v : Value) (bm : Nat) (wr : Value) (X : List UInt8) (K : Nat) (p : List UInt8) (u : TypeId) (x : Value) (wx : World) (v' : Value) (xs' : List UInt8) (i' t' : Nat) (buf' : List UInt8) : Prop where
  wst : WSt E wx bm wr v' xs' i' t' buf' u x
  inv : Inv E X K xs' i' t' (buf' ++ p)
  fr : Fr (Wet E bm v) w wx
  own : v'.ownBlock = v.ownBlock ∨ ∃ N, v'.ownBlock = some N ∧ w.heap.size ≤ N

theorem Inv.lim {E : Env} {X : List UInt8} {K : Nat} {xs : List UInt8} {i t : Nat} {ds : List UInt8} (h : Inv E X K xs i t ds) : xs.length ≤ X.length ∧ i ≤ K := by
  obtain ⟨h1, h2⟩ := h
  have := congrArg List.length h1
  rw [List.length_append] at this
  omega
/-- The errors' cells stay. -/
theorem g5_keep {E : Env} (ok : E.Ok) {w w' : World} {bm : Nat} {v : Value} {o : Option Value} (hf : Fr (Wet E bm v) w w') (hb : E.base ≤ bm) (hbase : E.base ≤ w.heap.size) (hv : ∀ k, v.ownBlock = some k → E.base ≤ k)
    (h : w.cell? ⟨5, 0, none⟩ = o) : w'.cell? ⟨5, 0, none⟩ = o := by
  have o1 := ok.one
  have o2 := ok.c0
  have o3 := ok.w0
  have o4 := ok.t0
  have o6 := ok.i0
  have o7 := ok.bc
  rw [hf.cell (by show 5 < _; omega) (fun e => by
    rcases e with e | e | e | e | e | e
    · have e : 5 = E.bt := e; omega
    · have e : 5 = E.bw := e; omega
    · have e : 5 = E.bc := e; omega
    · have e : 5 = E.bi := e; omega
    · have e : 5 = bm := e; omega
    · have q := hv _ e; have h5 : E.base ≤ 5 := q; omega)]
  exact h
theorem St.drewN {E : Env} {w : World} {wr er v : Value} {iw : Bool} {xs : List UInt8} {i : Nat} (h : St E w wr iw er v xs i) (n : Nat) : St E (w.drewN n) wr iw er v xs i := ⟨h.conn, h.wbuf, h.buf, h.kbox, h.kidx, h.keys, h.size⟩
theorem WSt.drewN {E : Env} {w : World} {bm : Nat} {wr v : Value} {xs : List UInt8} {i t : Nat} {buf : List UInt8} {u : TypeId} {x : Value} (h : WSt E w bm wr v xs i t buf u x) (n : Nat) : WSt E (w.drewN n) bm wr v xs i t buf u x := ⟨h.st.drewN n, h.mw, h.wb, h.le, h.tl, h.bmb, h.vne, h.g5⟩

theorem Went.drew0 {E : Env} {w : World} {v : Value} {bm : Nat} {wr : Value} {X : List UInt8} {K : Nat} {p : List UInt8} {u : TypeId} {x : Value} {wx : World} {v' : Value} {xs' : List UInt8} {i' t' : Nat} {buf' : List UInt8} {n : Nat} (h : Went E (w.drewN n) v bm wr X K p u x wx v' xs' i' t' buf') : Went E w v bm wr X K p u x wx v' xs' i' t' buf' :=
  ⟨h.wst, h.inv, ⟨h.fr.os, h.fr.tape, h.fr.output, h.fr.size, h.fr.block⟩, h.own⟩
theorem Went.drew1 {E : Env} {w : World} {v : Value} {bm : Nat} {wr : Value} {X : List UInt8} {K : Nat} {p : List UInt8} {u : TypeId} {x : Value} {wx : World} {v' : Value} {xs' : List UInt8} {i' t' : Nat} {buf' : List UInt8} (h : Went E w v bm wr X K p u x wx v' xs' i' t' buf') (n : Nat) : Went E w v bm wr X K p u x (wx.drewN n) v' xs' i' t' buf' :=
  ⟨h.wst.drewN n, h.inv, h.fr.drewN n, h.own⟩
theorem Went.start {E : Env} {w : World} {v : Value} {bm : Nat} {wr : Value} {X : List UInt8} {K : Nat} {p : List UInt8} {u : TypeId} {x : Value} {xs : List UInt8} {i t : Nat} {buf : List UInt8} (h : WSt E w bm wr v xs i t buf u x) (hinv : Inv E X K xs i t (buf ++ p)) : Went E w v bm wr X K p u x w v xs i t buf :=
  ⟨h, hinv, Fr.refl _ w, .inl rfl⟩

/-- A full buffer goes out as a frame that is not the last one. -/
theorem flushFull (E : Env) (ok : E.Ok) (hsrv : E.srv = false) (w : World) (bm : Nat) (wr v : Value) (xs : List UInt8) (i t : Nat) (buf : List UInt8) (u : TypeId) (x : Value) (X : List UInt8) (K : Nat) (p : List UInt8) (hp : 1 ≤ p.length)
    (h : WSt E w bm wr v xs i t buf u x) (hfull : buf.length = E.M - 14) (hM : E.M ≤ 60000) (hinv : Inv E X K xs i t (buf ++ p)) (hX : X.length + 60100 ≤ 1000000000) (hK : K ≤ 1000000) :
    Calls Tryd.prog 42 #[.pointer (some ⟨bm, 0, none⟩), .bool false, .slice none 0 0] w fun en w' => en = .returned .nilIface ∧ ∃ v' xs' i', Went E w v bm wr X K p u x w' v' xs' i' 0 [] := by
  obtain ⟨cs, hb, hl, hd⟩ := h.wb
  have hm := ok.m
  obtain ⟨hx1, hx2⟩ := hinv.lim
  have k1 := flushFrame E ok false hsrv false (fun e => by cases e) w wr v xs [] i bm buf.length t buf.length rfl h.tl cs buf none 0 u x (fun _ => rfl) rfl (by omega) (by omega) (by omega) (by omega) _ rfl _ rfl h.st hb hl hd h.mw h.bmb h.vne h.g5 (Rd.nil _ _ _) (by intro g o e; cases e)
  refine k1.mono ?_
  rintro e w' ⟨rfl, v', st, hm', hf, hv⟩
  refine ⟨rfl, v', _, _, ⟨⟨st, hm', ?_, Nat.zero_le _, by omega, h.bmb, ?_, ?_⟩, ?_, hf, hv⟩⟩
  · obtain ⟨cs', hb', hl'⟩ := st.wbuf
    exact ⟨cs', hb', hl', rfl⟩
  · intro e
    rcases hv with q | ⟨N, q, hN⟩
    · exact h.vne (q ▸ e)
    · have := h.mw.lt
      rw [q] at e; injection e with e; omega
  · exact g5_keep ok hf h.bmb h.st.size (fun k hk => (h.st.buf.own_ge hk).1) h.g5
  · obtain ⟨i1, i2⟩ := hinv
    rw [cutL_long (by omega) (by rw [List.length_append]; omega), List.take_left' hfull, List.drop_left' hfull] at i1 i2
    rw [List.length_cons] at i2
    constructor
    · rw [← i1]
      simp only [fmsOut, List.nil_append, List.append_nil, List.append_assoc]
      rfl
    · simp only [List.nil_append]
      show i + 1 + _ = K
      omega
end Go.Proofs.YtjjahfhnebicjaaDoor
