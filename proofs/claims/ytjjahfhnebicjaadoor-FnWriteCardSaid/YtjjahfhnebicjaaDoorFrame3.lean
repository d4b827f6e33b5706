/- flushFrame: every frame. -/
import Derived.Test.YtjjahfhnebicjaaDoorFrameA
import Derived.Test.YtjjahfhnebicjaaDoorFrameB
import Derived.Test.YtjjahfhnebicjaaDoorFrameC
import Derived.Test.YtjjahfhnebicjaaDoorFrameD
import Derived.Test.YtjjahfhnebicjaaDoorFrameE
import Derived.Test.YtjjahfhnebicjaaDoorFrameF
namespace Go.Proofs.YtjjahfhnebicjaaDoor
open Go.ChangeShapes Go.WideShapes Go.ChangeAt Go.RowKit

theorem flushFrame (E : Env) (ok : E.Ok) (s : Bool) (hs : E.srv = s) (final : Bool) (hsf : s = true → final = true) (w : World) (wr v : Value) (xs zs : List UInt8) (i bm k t L : Nat) (hLk : L = k + zs.length) (ht : t ≤ 2) (cs : List Value) (d1 : List UInt8) (A1 : Option Addr) (c1 : Nat) (u : TypeId) (x : Value)
    (hz : E.srv = false → zs = []) (hk : d1.length = k) (hlen : L ≤ 60000) (hkM : 14 + k ≤ E.M) (hlim : xs.length + 60100 ≤ 1000000000) (hi : i ≤ 1000000) (fr : List UInt8) (hfr : frameL s final t L (E.key i) d1 = fr) (i2 : Nat) (hi2 : (if s then i else i + 1) = i2)
    (h : St E w wr false .nilIface v xs i) (hcs : Blk w E.bw 5 cs) (hcl : cs.length = E.M) (hd : (cs.drop 14).take k = bv d1)
    (hm : Blk w bm 93 [.pointer (some ⟨E.bc, 0, none⟩), .int .i64 ((14 + k : Nat) : Int), .int .i64 (t : Int), .nilIface]) (hbm : E.base ≤ bm) (hbv : v.ownBlock ≠ some bm)
    (hg5 : w.cell? ⟨5, 0, none⟩ = some (.iface u x))
    (hr1 : Rd w w.heap.size A1 (bv zs)) (hA1 : ∀ g o, A1 = some ⟨g, o, none⟩ → E.base ≤ g ∧ v.ownBlock ≠ some g ∧ g ≠ bm) :
    Calls Tryd.prog 42 #[.pointer (some ⟨bm, 0, none⟩), .bool final, .slice A1 zs.length c1] w fun en w' => en = .returned .nilIface ∧ Flushed E final w wr v (xs ++ (fr ++ zs)) i2 bm k t u x w' := by
  by_cases hL : L ≤ 125
  · cases s with
    | true =>
      cases final with
      | true => exact flushFrame_A E ok hs w wr v xs zs i bm k t L hLk hL ht cs d1 A1 c1 u x hz hk hlen hkM hlim hi fr hfr i2 hi2 h hcs hcl hd hm hbm hbv hg5 hr1 hA1
      | false => exact absurd (hsf rfl) (by decide)
    | false =>
      cases final with
      | true => exact flushFrame_C E ok hs w wr v xs zs i bm k t L hLk hL ht cs d1 A1 c1 u x hz hk hlen hkM hlim hi fr hfr i2 hi2 h hcs hcl hd hm hbm hbv hg5 hr1 hA1
      | false => exact flushFrame_D E ok hs w wr v xs zs i bm k t L hLk hL ht cs d1 A1 c1 u x hz hk hlen hkM hlim hi fr hfr i2 hi2 h hcs hcl hd hm hbm hbv hg5 hr1 hA1
  · cases s with
    | true =>
      cases final with
      | true => exact flushFrame_B E ok hs w wr v xs zs i bm k t L hLk hL ht cs d1 A1 c1 u x hz hk hlen hkM hlim hi fr hfr i2 hi2 h hcs hcl hd hm hbm hbv hg5 hr1 hA1
      | false => exact absurd (hsf rfl) (by decide)
    | false =>
      cases final with
      | true => exact flushFrame_E E ok hs w wr v xs zs i bm k t L hLk hL ht cs d1 A1 c1 u x hz hk hlen hkM hlim hi fr hfr i2 hi2 h hcs hcl hd hm hbm hbv hg5 hr1 hA1
      | false => exact flushFrame_F E ok hs w wr v xs zs i bm k t L hLk hL ht cs d1 A1 c1 u x hz hk hlen hkM hlim hi fr hfr i2 hi2 h hcs hcl hd hm hbm hbv hg5 hr1 hA1
end Go.Proofs.YtjjahfhnebicjaaDoor
