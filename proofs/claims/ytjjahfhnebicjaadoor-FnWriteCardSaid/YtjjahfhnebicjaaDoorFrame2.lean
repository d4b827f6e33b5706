/- What flushFrame leaves; two cells of a row. -/
import Derived.Test.YtjjahfhnebicjaaDoorFrame
namespace Go.Proofs.YtjjahfhnebicjaaDoor
open Go.ChangeShapes Go.WideShapes Go.ChangeAt Go.RowKit

theorem spots {w : World} {g : Nat} {t : TypeId} {cs : List Value} (h : Blk w g t cs) (p p' : Nat) (hp' : p' = p + 1) (hp : p + 1 < cs.length) :
    ∃ a b, w.cell? ⟨g, p, none⟩ = some a ∧ (∀ q, (w.setCell ⟨g, p, none⟩ q).cell? ⟨g, p', none⟩ = some b) ∧ w.frozen? ⟨g, p, none⟩ = false ∧ (∀ q, (w.setCell ⟨g, p, none⟩ q).frozen? ⟨g, p', none⟩ = false) := by
  subst hp'
  refine ⟨cs[p], cs[p + 1], ?_, fun q => ?_, h.frozen p, fun q => (h.set p q).frozen (p + 1)⟩
  · rw [h.cell]; exact List.getElem?_eq_getElem (by omega)
  · rw [(h.set p q).cell, List.getElem?_set_ne (by omega)]; exact List.getElem?_eq_getElem (by omega)

/-- What flushFrame leaves. -/
def Flushed (E : Env) (final : Bool) (w : World) (wr v : Value) (xs : List UInt8) (i bm k t : Nat) (u : TypeId) (x : Value) (w' : World) : Prop :=
  ∃ v', St E w' (if final then .nilIface else wr) false .nilIface v' xs i ∧
    Blk w' bm 93 (if final then [.pointer (some ⟨E.bc, 0, none⟩), .int .i64 ((14 + k : Nat) : Int), .int .i64 (t : Int), .iface u x] else [.pointer (some ⟨E.bc, 0, none⟩), .int .i64 14, .int .i64 0, .nilIface]) ∧
    Fr (fun b => b = E.bt ∨ b = E.bw ∨ b = E.bc ∨ b = E.bi ∨ b = bm ∨ v.ownBlock = some b) w w' ∧ (v'.ownBlock = v.ownBlock ∨ ∃ N, v'.ownBlock = some N ∧ w.heap.size ≤ N)

end Go.Proofs.YtjjahfhnebicjaaDoor
