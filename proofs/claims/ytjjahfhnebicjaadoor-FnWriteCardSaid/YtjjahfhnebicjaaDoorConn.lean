/- The connection's state under a write; writeFatal, endMessage, (Conn).write. -/
import Derived.Test.YtjjahfhnebicjaaDoorEnv
namespace Go.Proofs.YtjjahfhnebicjaaDoor
open Go.ChangeShapes Go.WideShapes Go.ChangeAt Go.RowKit

theorem BufAt.own_ge {w : World} {bt base : Nat} {rd v : Value} {xs : List UInt8} (h : BufAt w bt rd base v xs) {k : Nat} (hk : v.ownBlock = some k) : base ≤ k ∧ k < w.heap.size := h.2.1.lt k hk

theorem KeysRd.keep {w w' : World} {A : Option Addr} {B : Nat} {keys : List (List UInt8)} (h : KeysRd w A B keys) (hk : ∀ p : Addr, p.block < B → w'.cell? p = w.cell? p) : KeysRd w' A B keys := by
  intro hn
  obtain ⟨g, o, e, hg, hc⟩ := h hn
  exact ⟨g, o, e, hg, fun j hj => ⟨(hc j hj).1, fun q hq => (hk ⟨g, _, none⟩ hg).trans ((hc j hj).2 q hq)⟩⟩

/-- Steps that leave the connection's blocks alone. -/
theorem St.keep {E : Env} {w w' : World} {wr er v : Value} {iw : Bool} {xs : List UInt8} {i : Nat} {S : Nat → Prop} (h : St E w wr iw er v xs i) (ok : E.Ok) (hf : Fr S w w') (hS : ∀ k, S k → E.base ≤ k ∧ v.ownBlock ≠ some k) : St E w' wr iw er v xs i := by
  have hlt : ∀ k, k < E.base → ¬ S k := fun k hk hs => by have := (hS k hs).1; omega
  obtain ⟨cs, hw, hl⟩ := h.wbuf
  refine ⟨h.conn.kept hf (hlt _ ok.bc), ⟨cs, hw.kept hf (hlt _ ok.bw), hl⟩, h.buf.keep hf (hlt _ ok.bt) (fun k hk hs => (hS k hs).2 hk), h.kbox.kept hf (hlt _ ok.bk), h.kidx.kept hf (hlt _ ok.bi), ?_, Nat.le_trans h.size hf.size⟩
  exact h.keys.keep fun p hp => hf.cell (by have := h.conn.lt; have := ok.b0; have := ok.c0; omega) (hlt _ (by have := ok.b0; have := ok.c0; have := ok.bc; omega))
/-- A write to the transport. -/
theorem St.wrote {E : Env} {w w' : World} {wr er v : Value} {iw : Bool} {xs ys : List UInt8} {i : Nat} {e : Ending} (h : St E w wr iw er v xs i) (ok : E.Ok) (hw : WroteB w E.bt E.rd v E.base xs ys e w') :
    ∃ v', e = .returned (.tuple #[.int .i64 (ys.length : Int), .nilIface]) ∧ St E w' wr iw er v' (xs ++ ys) i ∧ Fr (fun k => k = E.bt ∨ v.ownBlock = some k) w w' ∧ (v'.ownBlock = v.ownBlock ∨ ∃ N, v'.ownBlock = some N ∧ w.heap.size ≤ N) := by
  obtain ⟨v', he, hb, hf, hv⟩ := hw
  refine ⟨v', he, ?_, hf, hv⟩
  have hn : ∀ k, k < E.base → k ≠ E.bt → ¬ (k = E.bt ∨ v.ownBlock = some k) := by
    intro k hk hne h2
    rcases h2 with h2 | h2
    · exact hne h2
    · have := (h.buf.own_ge h2).1; omega
  obtain ⟨cs, hwb, hl⟩ := h.wbuf
  refine ⟨h.conn.kept hf (hn _ ok.bc (Ne.symm ok.tc)), ⟨cs, hwb.kept hf (hn _ ok.bw (Ne.symm ok.tw)), hl⟩, hb, h.kbox.kept hf (hn _ ok.bk ok.kt), h.kidx.kept hf (hn _ ok.bi ok.it), ?_, Nat.le_trans h.size hf.size⟩
  exact h.keys.keep fun p hp => hf.cell (by have := h.conn.lt; have := ok.b0; have := ok.c0; omega) (hn _ (by have := ok.b0; have := ok.c0; have := ok.bc; omega) (by have := ok.b0; have := ok.t0; omega))

theorem errNe (w : World) : (binOp .neq 59 .nilIface .nilIface).run Tryd.prog w = .ok (.bool false) w := Lib.run_neq_nil_nil w Tryd.underlying59
theorem errEq (w : World) : (binOp .eql 59 .nilIface .nilIface).run Tryd.prog w = .ok (.bool true) w := by kernel_rfl
theorem methodWrite (b : Nat) (w : World) : (method 240 45 (.pointer (some ⟨b, 0, none⟩)) "Write").run Tryd.prog w = .ok (70, .pointer (some ⟨b, 0, none⟩)) w := by kernel_rfl

section
variable (E : Env) (w : World) (wr : Value) (iw : Bool)
theorem cells_7 (er er' : Value) : (E.cells wr iw er).set 7 er' = E.cells wr iw er' := rfl
theorem cells_5 (er wr' : Value) : (E.cells wr iw er).set 5 wr' = E.cells wr' iw er := rfl
theorem cells_6 (er : Value) (iw' : Bool) : (E.cells wr iw er).set 6 (.bool iw') = E.cells wr iw' er := rfl

set_option maxHeartbeats 2000000 in
set_option maxRecDepth 100000 in
theorem writeFatal (u : TypeId) (x : Value) (h : Blk w E.bc 81 (E.cells wr iw .nilIface)) :
    Calls Tryd.prog 39 #[.pointer (some ⟨E.bc, 0, none⟩), .iface u x] w fun en w' => en = .returned (.iface u x) ∧ w.setCell ⟨E.bc, 7, none⟩ (.iface u x) = w' := by
  have c7 : w.cell? ⟨E.bc, 7, none⟩ = some .nilIface := h.cell 7
  have z7 := h.frozen 7
  have he := errEq
  clear h
  go_enter Tryd.func39, Tryd.ntmps39
  go_wp2_with fail
  go_ret
  exact ⟨rfl, rfl⟩

set_option maxHeartbeats 2000000 in
set_option maxRecDepth 100000 in
theorem endMessage (bm : Nat) (pos ft : Int) (u : TypeId) (x er : Value) (hm : Blk w bm 93 [.pointer (some ⟨E.bc, 0, none⟩), .int .i64 pos, .int .i64 ft, .nilIface]) (h : Blk w E.bc 81 (E.cells wr iw er)) (hne : bm ≠ E.bc) :
    Calls Tryd.prog 49 #[.pointer (some ⟨bm, 0, none⟩), .iface u x] w fun en w' => en = .returned (.iface u x) ∧ (w.setCell ⟨bm, 3, none⟩ (.iface u x)).setCell ⟨E.bc, 5, none⟩ .nilIface = w' := by
  have m0 : w.cell? ⟨bm, 0, none⟩ = some (.pointer (some ⟨E.bc, 0, none⟩)) := hm.cell 0
  have m3 : w.cell? ⟨bm, 3, none⟩ = some .nilIface := hm.cell 3
  have z3 := hm.frozen 3
  have c5 : (w.setCell ⟨bm, 3, none⟩ (.iface u x)).cell? ⟨E.bc, 5, none⟩ = some wr := (h.far (p := ⟨bm, 3, none⟩) (Ne.symm hne) (.iface u x)).cell 5
  have z5 : (w.setCell ⟨bm, 3, none⟩ (.iface u x)).frozen? ⟨E.bc, 5, none⟩ = false := (h.far (p := ⟨bm, 3, none⟩) (Ne.symm hne) (.iface u x)).frozen 5
  have he := errNe
  clear h hm
  go_enter Tryd.func49, Tryd.ntmps49
  go_wp2_with fail
  go_ret
  exact ⟨rfl, rfl⟩
end

set_option maxHeartbeats 4000000 in
set_option maxRecDepth 100000 in
theorem connWrite_one (E : Env) (ok : E.Ok) (w : World) (wr v : Value) (iw : Bool) (xs ys : List UInt8) (i : Nat) (ft : Int) (A : Option Addr) (c : Nat) (A1 : Option Addr) (c1 B : Nat) (h : St E w wr iw .nilIface v xs i) (hft : ft ≠ 8) (hy : 1 ≤ ys.length) (hlim : xs.length + ys.length ≤ 1000000000)
    (hr : Rd w B A (bv ys)) (hB : B ≤ w.heap.size) (hA : ∀ g o, A = some ⟨g, o, none⟩ → g ≠ E.bt) :
    Calls Tryd.prog 52 #[.pointer (some ⟨E.bc, 0, none⟩), .int .i64 ft, .slice A ys.length c, .slice A1 0 c1] w fun en w' =>
      ∃ v', en = .returned .nilIface ∧ St E w' wr iw .nilIface v' (xs ++ ys) i ∧ Fr (fun k => k = E.bt ∨ v.ownBlock = some k) w w' ∧ (v'.ownBlock = v.ownBlock ∨ ∃ N, v'.ownBlock = some N ∧ w.heap.size ≤ N) := by
  have c7 : w.cell? ⟨E.bc, 7, none⟩ = some .nilIface := h.conn.cell 7
  have c0 : w.cell? ⟨E.bc, 0, none⟩ = some (.iface 45 (.pointer (some ⟨E.bt, 0, none⟩))) := h.conn.cell 0
  have kw := trWrite E.bt E.rd v E.base xs ys A c B w h.buf hy hlim hr hB hA h.size
  have he := errNe
  have hmw := methodWrite E.bt
  have h8 : (ft == 8) = false := beq_eq_false_iff_ne.2 hft
  have K := hide kw
  have H := hide h
  clear kw h hr hA
  go_enter Tryd.func52, Tryd.ntmps52
  go_wp2_with fail
  refine K.out.mono ?_
  rintro e w1 hw
  obtain ⟨v', rfl, hst, hf, hv⟩ := H.out.wrote ok hw
  have HS := hide (And.intro hst (And.intro hf hv))
  clear hst hf hv hw
  go_wp2_with fail
  go_ret
  exact ⟨v', rfl, HS.out.1, HS.out.2.1, HS.out.2.2⟩
end Go.Proofs.YtjjahfhnebicjaaDoor
