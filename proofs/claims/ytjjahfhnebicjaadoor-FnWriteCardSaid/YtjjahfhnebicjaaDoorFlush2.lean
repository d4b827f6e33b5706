/- (*Conn).write of one piece or two; the state under stores into the buffer. -/
import Derived.Test.YtjjahfhnebicjaaDoorFlush
namespace Go.Proofs.YtjjahfhnebicjaaDoor
open Go.ChangeShapes Go.WideShapes Go.ChangeAt Go.RowKit

theorem St.wb {E : Env} {w w' : World} {wr er v : Value} {iw : Bool} {xs : List UInt8} {i : Nat} (h : St E w wr iw er v xs i) (ok : E.Ok) {cs : List Value} (hb : Blk w' E.bw 5 cs) (hl : cs.length = E.M) (hf : Fr (fun k => k = E.bw) w w') : St E w' wr iw er v xs i := by
  refine ⟨h.conn.kept hf ok.cw, ⟨cs, hb, hl⟩, h.buf.keep hf ok.tw (fun k hk e => ?_), h.kbox.kept hf ok.kw, h.kidx.kept hf ok.iw, ?_, Nat.le_trans h.size hf.size⟩
  · have := (h.buf.own_ge hk).1; have := ok.bw; omega
  · exact h.keys.keep fun p hp => hf.cell (by have := h.conn.lt; have := ok.b0; have := ok.c0; omega) (by have := ok.b0; have := ok.w0; omega)

/-- (*Conn).write, one piece or two. -/
theorem connWrite_any (E : Env) (ok : E.Ok) (w : World) (wr v : Value) (iw : Bool) (xs ys zs : List UInt8) (i : Nat) (ft : Int) (A : Option Addr) (c : Nat) (A1 : Option Addr) (c1 : Nat) (h : St E w wr iw .nilIface v xs i) (hft : ft ≠ 8) (hy : 1 ≤ ys.length) (hlim : xs.length + ys.length + zs.length ≤ 1000000000)
    (hr : Rd w w.heap.size A (bv ys)) (hr1 : Rd w w.heap.size A1 (bv zs)) (hA : ∀ g o, A = some ⟨g, o, none⟩ → g ≠ E.bt ∧ v.ownBlock ≠ some g) (hA1 : ∀ g o, A1 = some ⟨g, o, none⟩ → g ≠ E.bt ∧ v.ownBlock ≠ some g) (n m : Nat) (hn : n = ys.length) (hm : m = zs.length) :
    Calls Tryd.prog 52 #[.pointer (some ⟨E.bc, 0, none⟩), .int .i64 ft, .slice A n c, .slice A1 m c1] w fun en w' => en = .returned .nilIface ∧ Left E w wr iw v (xs ++ (ys ++ zs)) i w' := by
  subst hn hm
  cases zs with
  | nil =>
    refine (connWrite_one E ok w wr v iw xs ys i ft A c A1 c1 w.heap.size h hft hy (by omega) hr (Nat.le_refl _) (fun g o e => (hA g o e).1)).mono ?_
    rintro e w' ⟨v', he, hst, hf, hv⟩
    exact ⟨he, v', by simpa using hst, hf, hv⟩
  | cons z zs => exact connWrite_two E ok w wr v iw xs ys (z :: zs) i ft A c A1 c1 h hft hy (by simp) hlim hr hr1 hA hA1

theorem drop_two {α : Type} (cs : List α) (o : Nat) (a b : α) (h : o + 2 ≤ cs.length) : ((cs.set o a).set (o + 1) b).drop o = a :: b :: cs.drop (o + 2) := by
  rw [set_two cs o a b h]
  unfold splice
  rw [List.drop_left' (by rw [List.length_take]; omega)]
  simp
theorem or0 (m : Nat) (h : m < 128) : bits .or .u8 0 (m : Int) = (m : Int) := by
  have hall : ∀ m : Fin 128, bits .or .u8 0 ((m.val : Nat) : Int) = ((m.val : Nat) : Int) := by decide +kernel
  exact hall ⟨m, h⟩

end Go.Proofs.YtjjahfhnebicjaaDoor
