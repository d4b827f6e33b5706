/- flushFrame's header: words and plain facts. -/
import Derived.Test.YtjjahfhnebicjaaDoorFlush2
import Derived.Deep.RegionLaw
namespace Go.Proofs.YtjjahfhnebicjaaDoor
open Go.ChangeShapes Go.WideShapes Go.ChangeAt Go.RowKit

/-- The first byte of a frame. -/
def b0N (final : Bool) (t : Nat) : Nat := if final then t + 128 else t
/-- The mask's bit. -/
def b1N (srv : Bool) : Nat := if srv then 0 else 128
/-- Where a header of a frame begins. -/
def fpN (srv : Bool) (L : Nat) : Nat := (if srv then 4 else 0) + (if L ≤ 125 then 8 else 6)
/-- A frame's header, without its key. -/
def hdrL (srv final : Bool) (t L : Nat) : List UInt8 :=
  if L ≤ 125 then [UInt8.ofNat (b0N final t), UInt8.ofNat (L + b1N srv)] else [UInt8.ofNat (b0N final t), UInt8.ofNat (126 + b1N srv)] ++ be2 L
/-- A frame. -/
def frameL (srv final : Bool) (t L : Nat) (key ds : List UInt8) : List UInt8 := hdrL srv final t L ++ (if srv then ds else key ++ maskL key 0 ds)

theorem or_lo (s : Bool) (m : Nat) (h : m < 128) : bits .or .u8 (b1N s : Int) (m : Int) = ((m + b1N s : Nat) : Int) := by
  have hall : ∀ m : Fin 128, bits .or .u8 ((128 : Nat) : Int) ((m.val : Nat) : Int) = ((m.val + 128 : Nat) : Int) := by decide +kernel
  cases s
  · exact hall ⟨m, h⟩
  · show bits .or .u8 0 (m : Int) = ((m + 0 : Nat) : Int)
    rw [or0 m h]; rfl
theorem hdrL_length (srv final : Bool) (t L : Nat) : (hdrL srv final t L).length = if L ≤ 125 then 2 else 4 := by
  unfold hdrL; split <;> rfl
theorem b0N_lt (final : Bool) (t : Nat) (h : t ≤ 2) : b0N final t < 256 := by unfold b0N; split <;> omega
/-- A row whose cells at o and o + 1 were set: what lies there. -/
theorem splice_at {α : Type} (cs ys : List α) (o : Nat) (h : o + ys.length ≤ cs.length) : ((splice cs o ys).drop o).take ys.length = ys := by
  unfold splice
  rw [List.drop_left' (by rw [List.length_take]; omega), List.take_left' rfl]
theorem splice_drop {α : Type} (cs ys : List α) (o n : Nat) (h : o + ys.length ≤ n) (hn : n ≤ cs.length) : (splice cs o ys).drop n = cs.drop n := by
  have h1 : (cs.take o).length = o := by rw [List.length_take]; omega
  unfold splice
  rw [← List.append_assoc, List.drop_append, List.drop_of_length_le (by rw [List.length_append, h1]; omega), List.nil_append, List.drop_drop, List.length_append, h1]
  congr 1
  omega
theorem splice_splice {α : Type} (cs ys zs : List α) (o : Nat) (h : o + ys.length + zs.length ≤ cs.length) : splice (splice cs o ys) (o + ys.length) zs = splice cs o (ys ++ zs) := by
  have h1 : (cs.take o).length = o := by rw [List.length_take]; omega
  have h2 : (splice cs o ys).take (o + ys.length) = cs.take o ++ ys := by
    unfold splice
    rw [← List.append_assoc]
    exact List.take_left' (by rw [List.length_append, h1])
  have h3 : (splice cs o ys).drop (o + ys.length + zs.length) = cs.drop (o + ys.length + zs.length) := splice_drop cs ys o _ (by omega) h
  rw [show splice (splice cs o ys) (o + ys.length) zs = (splice cs o ys).take (o + ys.length) ++ (zs ++ (splice cs o ys).drop (o + ys.length + zs.length)) from rfl, h2, h3]
  unfold splice
  rw [List.append_assoc, List.append_assoc, List.length_append, Nat.add_assoc]

/-- What lies in the buffer behind the header's stores. -/
structure Hdr (E : Env) (srv final : Bool) (t L : Nat) (cs : List Value) (w w' : World) : Prop where
  blk : Blk w' E.bw 5 (splice cs (fpN srv L) (bv (hdrL srv final t L)))
  fr : Fr (fun k => k = E.bw) w w'
theorem Hdr.small {E : Env} {srv final : Bool} {t L : Nat} {cs : List Value} {w : World} (o : Nat) (ho : o = fpN srv L) (hL : L ≤ 125) (ht : t ≤ 2) (h : Blk w E.bw 5 cs) (hl : 15 ≤ cs.length) :
    Hdr E srv final t L cs w ((w.setCell ⟨E.bw, o, none⟩ (.int .u8 (b0N final t : Int))).setCell ⟨E.bw, o + 1, none⟩ (.int .u8 ((L + b1N srv : Nat) : Int))) := by
  subst ho
  have hf : fpN srv L ≤ 12 := by unfold fpN; rw [if_pos hL]; split <;> omega
  refine ⟨?_, ((Fr.refl (fun k => k = E.bw) w).setCell (p := ⟨E.bw, fpN srv L, none⟩) (fun _ => rfl) _).setCell (p := ⟨E.bw, fpN srv L + 1, none⟩) (fun _ => rfl) _⟩
  have hb := (h.set (fpN srv L) (.int .u8 (b0N final t : Int))).set (fpN srv L + 1) (.int .u8 ((L + b1N srv : Nat) : Int))
  rw [set_two cs _ _ _ (by omega)] at hb
  have e1 : ((UInt8.ofNat (b0N final t)).toNat : Int) = (b0N final t : Int) := by have := b0N_lt final t ht; rw [UInt8.toNat_ofNat']; omega
  have e2 : ((UInt8.ofNat (L + b1N srv)).toNat : Int) = ((L + b1N srv : Nat) : Int) := by
    have : b1N srv ≤ 128 := by unfold b1N; split <;> omega
    rw [UInt8.toNat_ofNat']; omega
  unfold hdrL
  rw [if_pos hL]
  simp only [bv, List.map_cons, List.map_nil, e1, e2]
  exact hb
/-- Two stores. -/
theorem Hdr.two {E : Env} {srv final : Bool} {t : Nat} {cs : List Value} {w : World} (o : Nat) (ho : o ≤ 10) (ht : t ≤ 2) (h : Blk w E.bw 5 cs) (hl : 15 ≤ cs.length) :
    Blk ((w.setCell ⟨E.bw, o, none⟩ (.int .u8 (b0N final t : Int))).setCell ⟨E.bw, o + 1, none⟩ (.int .u8 ((126 + b1N srv : Nat) : Int))) E.bw 5 (splice cs o (bv [UInt8.ofNat (b0N final t), UInt8.ofNat (126 + b1N srv)])) := by
  have hb := (h.set o (.int .u8 (b0N final t : Int))).set (o + 1) (.int .u8 ((126 + b1N srv : Nat) : Int))
  rw [set_two cs _ _ _ (by omega)] at hb
  have e1 : ((UInt8.ofNat (b0N final t)).toNat : Int) = (b0N final t : Int) := by have := b0N_lt final t ht; rw [UInt8.toNat_ofNat']; omega
  have e2 : ((UInt8.ofNat (126 + b1N srv)).toNat : Int) = ((126 + b1N srv : Nat) : Int) := by
    have : b1N srv ≤ 128 := by unfold b1N; split <;> omega
    rw [UInt8.toNat_ofNat']; omega
  simp only [bv, List.map_cons, List.map_nil, e1, e2]
  exact hb
theorem Hdr.mid {E : Env} {srv final : Bool} {t L : Nat} {cs : List Value} {w w1 w2 : World} (o : Nat) (ho : o = fpN srv L) (hL : ¬ L ≤ 125) (hl : 15 ≤ cs.length) (hf1 : Fr (fun k => k = E.bw) w w1)
    (h : Blk w2 E.bw 5 (splice (splice cs o (bv [UInt8.ofNat (b0N final t), UInt8.ofNat (126 + b1N srv)])) (o + 2) (bv (be2 L)))) (hf : Fr (fun k => k = E.bw) w1 w2) :
    Hdr E srv final t L cs w w2 := by
  subst ho
  have hf0 : fpN srv L ≤ 10 := by unfold fpN; rw [if_neg hL]; split <;> omega
  refine ⟨?_, hf1.trans hf⟩
  have := splice_splice cs (bv [UInt8.ofNat (b0N final t), UInt8.ofNat (126 + b1N srv)]) (bv (be2 L)) (fpN srv L) (by simp [bv, be2]; omega)
  rw [bv_length] at this
  rw [show (2 : Nat) = [UInt8.ofNat (b0N final t), UInt8.ofNat (126 + b1N srv)].length from rfl, this, ← bv_append] at h
  unfold hdrL
  rw [if_neg hL]
  exact h
theorem hdr_spot (srv : Bool) (L : Nat) : fpN srv L + (if L ≤ 125 then 2 else 4) = if srv then 14 else 10 := by
  by_cases hL : L ≤ 125 <;> cases srv <;> simp [fpN, hL]
/-- A row laid at fp, and what is read behind it. -/
theorem join_at {α : Type} (cs ys zs : List α) (fp n : Nat) (h : (cs.drop (fp + ys.length)).take zs.length = zs) (hl : fp + ys.length ≤ cs.length) (hn : n = ys.length + zs.length) : ((splice cs fp ys).drop fp).take n = ys ++ zs := by
  subst hn
  unfold splice
  rw [List.drop_left' (by rw [List.length_take]; omega), List.take_append, List.take_of_length_le (by omega), Nat.add_sub_cancel_left, h]

/-- maskBytes at a place of a block. -/
theorem maskAt (k0 k1 k2 k3 : UInt8) (g off c n : Nat) (A : Option Addr) (cells : List Value) (ds : List UInt8) (w : World) (hn : n = ds.length) (hd : ds.length ≤ 1000000) (hB : Blk w g 5 cells) (hf : off + ds.length ≤ cells.length) (hA : 0 < ds.length → A = some ⟨g, off, none⟩)
    (hx : (cells.drop off).take ds.length = bv ds) :
    Calls Tryd.prog 38 #[.agg #[.int .u8 (k0.toNat : Int), .int .u8 (k1.toNat : Int), .int .u8 (k2.toNat : Int), .int .u8 (k3.toNat : Int)], .int .i64 0, .slice A n c] w fun e w' =>
      (∃ r, e = .returned r) ∧ Blk w' g 5 (splice cells off (bv (maskL [k0, k1, k2, k3] 0 ds))) ∧ Fr (fun i => i = g) w w' := by
  subst hn
  by_cases h0 : ds.length = 0
  · have e : ds = [] := List.eq_nil_of_length_eq_zero h0
    subst e
    refine (maskBytes_none _ 0 (by omega) A c w).mono ?_
    rintro e w' ⟨rfl, rfl⟩
    refine ⟨⟨_, rfl⟩, ?_, (Fr.refl _ _).alloc _⟩
    have : splice cells off (bv (maskL [k0, k1, k2, k3] 0 [])) = cells := by simp [splice, maskL, bv]
    rw [this]
    exact hB.alloc _
  · rw [hA (by omega)]
    refine (maskBytes_some _ [k0, k1, k2, k3] (isKey4 k0 k1 k2 k3) 0 (by omega) g off c cells ds w (by omega) hB (by omega) (fun j u hu => ?_)).mono ?_
    · rw [← hx, List.getElem?_take] at hu
      split at hu
      · rwa [List.getElem?_drop] at hu
      · cases hu
    · rintro e w' ⟨rfl, h1, h2⟩
      exact ⟨⟨_, rfl⟩, h1, h2⟩

/-- The frame lies in the buffer, masked. -/
structure Mskd (E : Env) (s final : Bool) (t L k : Nat) (d1 : List UInt8) (w : World) (wr v : Value) (xs : List UInt8) (i : Nat) (wx : World) : Prop where
  st : St E wx wr false .nilIface v xs (if s then i else i + 1)
  blk : ∃ cs3, Blk wx E.bw 5 cs3 ∧ cs3.length = E.M ∧ (cs3.drop (fpN s L)).take (14 + k - fpN s L) = bv (frameL s final t L (E.key i) d1)
  fr : Fr (fun b => b = E.bw ∨ b = E.bi) w wx

/-- copy(dst, src) as one step of a region that draws its order. -/
theorem step_cp {P : Program} {ops : Array Oper} {o : Oper} {a : Act} {w : World} {K : Act → World → Prop} {Q : Exit → Act → World → Prop} {E : Prop} (hgd : o.guard = none) (d s : Operand) (dT sT : TypeId)
    (ho : o.op = .call { callee := .builtin .copy, args := #[d, s], argTypes := #[dT, sT] }) (e : TypeId) (hu : P.underlying dT = some (.slice e)) (hsz : (P.info? e).map (·.size) = some 1)
    (dp sp : Option Addr) (dLen dCap sLen sCap : Nat) (hd : a.eval d = .slice dp dLen dCap) (hs : a.eval s = .slice sp sLen sCap)
    (B g off : Nat) (t : TypeId) (cs zs : List Value) (hl : zs.length = sLen) (hB : Blk w g t cs) (hr : Rd w B sp zs) (h1 : ∀ v ∈ zs, v.oneCell' = true)
    (hpos : 0 < min sLen dLen → dp = some ⟨g, off, none⟩) (hfit : off + min sLen dLen ≤ cs.length)
    (h : ∀ w', Hid (Blk w' g t (splice cs off (zs.take dLen))) → Hid (Fr (fun i => i = g) w w') → K (a.put o.dst (.int .i64 ((min sLen dLen : Nat) : Int))) w') :
    if Region.wanted o (yielded ops a.tmps) = true then Oper.wp P o a w K Q else E := by
  have hw : Region.wanted o (yielded ops a.tmps) = true := by simp [Region.wanted, hgd]
  rw [if_pos hw]
  subst hl
  obtain ⟨w', hrun, h2, h3⟩ := run_cp (P := P) w dT sT o.type e hu hsz dp sp dLen dCap sCap B g off t cs zs hB hr h1 hpos hfit
  exact wp_run w d s dT sT ho _ _ _ _ hd hs hrun (h w' h2 h3)
end Go.Proofs.YtjjahfhnebicjaaDoor
