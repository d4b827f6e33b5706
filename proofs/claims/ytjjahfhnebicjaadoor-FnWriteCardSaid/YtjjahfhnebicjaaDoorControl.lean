/- (*Conn).WriteControl: a control frame. -/
import Derived.Test.YtjjahfhnebicjaaDoorConn2
namespace Go.Proofs.YtjjahfhnebicjaaDoor
open Go.ChangeShapes Go.WideShapes Go.ChangeAt Go.RowKit

theorem or128 (m : Nat) (h : m < 128) : bits .or .u8 (m : Int) 128 = ((m + 128 : Nat) : Int) := by
  have hall : ∀ m : Fin 128, bits .or .u8 ((m.val : Nat) : Int) 128 = ((m.val + 128 : Nat) : Int) := by decide +kernel
  exact hall ⟨m, h⟩

theorem St.below {E : Env} {w w' : World} {wr er v : Value} {iw : Bool} {xs : List UInt8} {i : Nat} (h : St E w wr iw er v xs i) (ok : E.Ok) (hb : Below w.heap.size w w') : St E w' wr iw er v xs i :=
  h.keep ok (below_fr hb (fun _ => False)) (fun _ f => f.elim)

theorem St.conn_store {E : Env} {w : World} {wr er v : Value} {iw : Bool} {xs : List UInt8} {i : Nat} (h : St E w wr iw er v xs i) (ok : E.Ok) (j : Nat) (u : Value) {wr' er' : Value} {iw' : Bool} (hc : (E.cells wr iw er).set j u = E.cells wr' iw' er') :
    St E (w.setCell ⟨E.bc, j, none⟩ u) wr' iw' er' v xs i := by
  have hf : Fr (fun k => k = E.bc) w (w.setCell ⟨E.bc, j, none⟩ u) := (Fr.refl (fun k => k = E.bc) w).setCell (p := ⟨E.bc, j, none⟩) (fun _ => rfl) u
  obtain ⟨cs, hwb, hl⟩ := h.wbuf
  have hcn := h.conn.set j u
  rw [hc] at hcn
  refine ⟨hcn, ⟨cs, hwb.kept hf (Ne.symm ok.cw), hl⟩, h.buf.keep hf ok.tc (fun k hk e => ?_), h.kbox.kept hf ok.kc, h.kidx.kept hf ok.ic, ?_, Nat.le_trans h.size hf.size⟩
  · have := (h.buf.own_ge hk).1; have := ok.bc; omega
  · exact h.keys.keep fun p hp => hf.cell (by have := h.conn.lt; have := ok.b0; have := ok.c0; omega) (by have := ok.b0; have := ok.c0; omega)

/-- What a control frame leaves. -/
def CtlLeft (E : Env) (w : World) (xs : List UInt8) (i : Nat) (mt : Nat) (w' : World) : Prop :=
  ∃ v' er, St E w' .nilIface false er v' xs i ∧ (mt ≠ 8 → er = .nilIface) ∧ Below E.W0 w w'

theorem below_of_left {E : Env} (ok : E.Ok) {w w' : World} {wr v er : Value} {iw : Bool} {xs : List UInt8} {i : Nat} (h : St E w wr iw er v xs i) (hf : Fr (fun k => k = E.bt ∨ v.ownBlock = some k) w w') : Below E.W0 w w' :=
  ⟨hf.os, hf.tape, hf.output, hf.size, fun k hk => hf.block k (by have := h.size; have := ok.c0; have := ok.bc; omega) (fun e => by
    rcases e with e | e
    · have := ok.t0; omega
    · have := (h.buf.own_ge e).1; have := ok.c0; have := ok.bc; omega)⟩

set_option maxHeartbeats 2000000 in
set_option maxRecDepth 100000 in
theorem wcServer (E : Env) (ok : E.Ok) (hsrv : E.srv = true) (w : World) (v : Value) (xs : List UInt8) (i mt : Nat) (hmt : mt = 9 ∨ mt = 10) (ds : List UInt8) (A : Option Addr) (c : Nat) (fr : List UInt8) (hfr : fr = [UInt8.ofNat (mt + 128), UInt8.ofNat ds.length] ++ ds) (hn : ds.length ≤ 125) (hlim : xs.length + 127 ≤ 1000000000)
    (h : St E w .nilIface false .nilIface v xs i) (hr : Rd w w.heap.size A (bv ds)) (hc0 : A = none → c = 0) :
    Calls Tryd.prog 30 #[.pointer (some ⟨E.bc, 0, none⟩), .int .i64 (mt : Int), .slice A ds.length c] w fun en w' => en = .returned .nilIface ∧ CtlLeft E w (xs ++ fr) i mt w' := by
  obtain ⟨i0, hi0, hz0, hz1, hz2⟩ := info_parts Tryd.info_u8
  have hctl : isControlN (mt : Int) = true := by unfold isControlN; rcases hmt with rfl | rfl <;> rfl
  have kc := wsIsControl (mt : Int)
  rw [hctl] at kc
  have ho := or128 mt (by omega)
  have hmt8 : ((mt : Int) == 8) = false := beq_eq_false_iff_ne.2 (by omega)
  have hm255 : mt ≤ 255 := by omega
  have c1 : w.cell? ⟨E.bc, 1, none⟩ = some (.bool true) := by rw [← hsrv]; exact h.conn.cell 1
  have he := errNe
  have hmw := methodWrite E.bt
  have hmk := fun u => run_make (P := Tryd.prog) u 26 5 i0 (.int .u8 0) Tryd.underlying26 hi0 hz0 .i64 .i64 0 139 (by omega) (by omega) (by rw [hz2]; omega) (by omega)
  have hhdr : bv [UInt8.ofNat (mt + 128), UInt8.ofNat ds.length] = [.int .u8 ((mt : Int) + 128), .int .u8 (ds.length : Int)] := by
    have e1 : ((UInt8.ofNat (mt + 128)).toNat : Int) = (mt : Int) + 128 := by rw [UInt8.toNat_ofNat']; omega
    have e2 : ((UInt8.ofNat ds.length).toNat : Int) = (ds.length : Int) := by rw [UInt8.toNat_ofNat']; omega
    simp only [bv, List.map_cons, List.map_nil, e1, e2]
  have hz139 : (madeCells #[Value.int .u8 0] 139).toList.length = 139 := by rw [toList_madeCells_one]; simp
  have ho0 : ∀ o, ((w.alloc (.cells (madeCells #[Value.int .u8 0] 139) 5)).alloc o).ownsRow w.heap.size 5 1 (.slice (some ⟨w.heap.size, 0, none⟩) 0 139) 0 [] := fun o =>
    own_of_blk (n := 0) ((blk_new rfl 5 (madeCells #[Value.int .u8 0] 139)).alloc o) (Nat.le_refl _) (by omega) hz139 (by decide)
  have hnew : ∀ w1 : World, ∀ j u, (bv [UInt8.ofNat (mt + 128), UInt8.ofNat ds.length])[j]? = some u → (w1.alloc (.cells #[.int .u8 ((mt : Int) + 128), .int .u8 (ds.length : Int)] 5)).cell? ((⟨w1.heap.size, 0, none⟩ : Addr).add j) = some u := by
    intro w1 j u hu
    rw [hhdr] at hu
    rw [addr_add, Nat.zero_add]
    have hb := Blk.new w1 5 [.int .u8 ((mt : Int) + 128), .int .u8 (ds.length : Int)]
    rw [hb.cell]
    exact hu
  have hb1 : ∀ w1 : World, (((w.alloc (.cells (madeCells #[Value.int .u8 0] 139) 5)).alloc (.cells #[.int .u8 ((mt : Int) + 128), .int .u8 (ds.length : Int)] 5)).grownBy w1 (some w.heap.size)) → Below w.heap.size w w1 := fun w1 hg =>
    (((Below.refl _ _).alloc (Nat.le_refl _) _).alloc (by simp) _).grown hg (by simp; omega) (fun k e => by injection e with e; omega)
  have HFr := hide hfr
  have HMt := hide hmt
  have KC := hide kc
  have H := hide h
  have HR := hide hr
  have HC0 := hide hc0
  have HO0 := hide ho0
  have HNew := hide hnew
  have HB1 := hide hb1
  clear hfr hmt kc h hr hc0 hctl hhdr hz139 ho0 hnew hb1
  go_enter Tryd.func30, Tryd.ntmps30
  go_wp2_with fail
  refine (KC.out _).mono ?_
  rintro e w' ⟨rfl, rfl⟩
  go_wp2_with (first
    | (at_builtin; refine wpList_app _ rfl (.tmp 34) (.tmp 37) _ rfl w.heap.size 5 i0 _ 1 Tryd.underlying26 hi0 hz0 hz1 hz2 rfl (.slice (some ⟨w.heap.size, 0, none⟩) 0 139) 0 [] rfl (HO0.out _) (w.heap.size + 2) (some ⟨w.heap.size + 1, 0, none⟩) 2 2 (bv [UInt8.ofNat (mt + 128), UInt8.ofNat ds.length]) rfl rfl (Rd.of_addr (by simp) (fun j u hu => by have := HNew.out (w.alloc (.cells (madeCells #[Value.int .u8 0] 139) 5)) j u hu; simpa using this)) (by intro h; cases h) (bv_one _) (by simp only [maxLen]; omega) (by omega) (by simp; omega) ?_
       intro v1 w1 hown1 hg1 hat1
       have hbw1 := HB1.out w1 hg1.out
       have d1 : w1.cell? ⟨E.bc, 1, none⟩ = some (.bool true) := (hbw1.cell (p := ⟨E.bc, 1, none⟩) H.out.conn.lt).trans c1
       have HBW1 := hide hbw1
       clear hbw1)
    | (at_builtin; refine wpList_app _ rfl (.tmp 43) (.tmp 44) _ rfl w.heap.size 5 i0 _ 1 Tryd.underlying26 hi0 hz0 hz1 hz2 rfl v1 (0 + 2) ([] ++ bv [UInt8.ofNat (mt + 128), UInt8.ofNat ds.length]) rfl hown1.out w.heap.size A ds.length c (bv ds) rfl (bv_length ds) (HR.out.below HBW1.out) HC0.out (bv_one ds) (by simp only [maxLen]; omega) (by omega) HBW1.out.size ?_
       intro v2 w2 hown2 hg2 hat2
       have hbw2 : Below w.heap.size w w2 := HBW1.out.grown hg2.out HBW1.out.size (fun k e => (hown1.out.lt k e).1)
       have e7 : w2.cell? ⟨E.bc, 7, none⟩ = some .nilIface := (hbw2.cell (p := ⟨E.bc, 7, none⟩) H.out.conn.lt).trans (H.out.conn.cell 7)
       have e0 : w2.cell? ⟨E.bc, 0, none⟩ = some (.iface 45 (.pointer (some ⟨E.bt, 0, none⟩))) := (hbw2.cell (p := ⟨E.bc, 0, none⟩) H.out.conn.lt).trans (H.out.conn.cell 0)
       have HBW2 := hide hbw2
       clear hbw2))
  have hlen : 0 + 2 + ds.length = fr.length := by rw [HFr.out]; simp; omega
  have hown3 : w2.ownsRow w.heap.size 5 1 v2 fr.length (bv fr) := by
    rw [← hlen, HFr.out, bv_append]; exact hown2.out
  obtain ⟨A2, c2, rfl, _, _, hrd2⟩ := own_shape hown3
  have st2 := H.out.below ok HBW2.out
  have hlen2 : fr.length ≤ 127 := by rw [← hlen]; omega
  have kw := trWrite E.bt E.rd v E.base xs fr A2 c2 w2.heap.size w2 st2.buf (by rw [← hlen]; omega) (by omega) hrd2 (Nat.le_refl _)
    (fun q o e => by
      subst e
      have := (hown3.lt q rfl).1
      have := H.out.size
      have := ok.bt
      omega) st2.size
  refine kw.mono ?_
  rintro e w3 hw
  obtain ⟨v', rfl, st3, hf3, _⟩ := st2.wrote ok hw
  have hbel3 : Below E.W0 w w3 := (HBW2.out.mono (by have := H.out.size; have := ok.c0; have := ok.bc; omega)).trans (below_of_left ok st2 hf3)
  have HS3 := hide (And.intro st3 hbel3)
  clear st3 hbel3 hf3 hw kw st2 hrd2 hown3
  go_wp2_with fail
  go_ret
  exact ⟨rfl, v', .nilIface, HS3.out.1, fun _ => rfl, HS3.out.2⟩

set_option maxHeartbeats 2000000 in
set_option maxRecDepth 100000 in
theorem wcServerClose (E : Env) (ok : E.Ok) (hsrv : E.srv = true) (w : World) (v : Value) (xs : List UInt8) (i mt : Nat) (hmt : mt = 8) (u : TypeId) (x : Value) (hg3 : w.cell? ⟨3, 0, none⟩ = some (.iface u x)) (ds : List UInt8) (A : Option Addr) (c : Nat) (fr : List UInt8) (hfr : fr = [UInt8.ofNat (mt + 128), UInt8.ofNat ds.length] ++ ds) (hn : ds.length ≤ 125) (hlim : xs.length + 127 ≤ 1000000000)
    (h : St E w .nilIface false .nilIface v xs i) (hr : Rd w w.heap.size A (bv ds)) (hc0 : A = none → c = 0) :
    Calls Tryd.prog 30 #[.pointer (some ⟨E.bc, 0, none⟩), .int .i64 (mt : Int), .slice A ds.length c] w fun en w' => en = .returned .nilIface ∧ CtlLeft E w (xs ++ fr) i mt w' := by
  obtain ⟨i0, hi0, hz0, hz1, hz2⟩ := info_parts Tryd.info_u8
  have hctl : isControlN (mt : Int) = true := by unfold isControlN; rw [hmt]; rfl
  have kc := wsIsControl (mt : Int)
  rw [hctl] at kc
  have ho := or128 mt (by omega)
  have hmt8 : ((mt : Int) == 8) = true := by rw [hmt]; rfl
  have hm255 : mt ≤ 255 := by omega
  have c1 : w.cell? ⟨E.bc, 1, none⟩ = some (.bool true) := by rw [← hsrv]; exact h.conn.cell 1
  have he := errNe
  have hmw := methodWrite E.bt
  have hmk := fun u => run_make (P := Tryd.prog) u 26 5 i0 (.int .u8 0) Tryd.underlying26 hi0 hz0 .i64 .i64 0 139 (by omega) (by omega) (by rw [hz2]; omega) (by omega)
  have hhdr : bv [UInt8.ofNat (mt + 128), UInt8.ofNat ds.length] = [.int .u8 ((mt : Int) + 128), .int .u8 (ds.length : Int)] := by
    have e1 : ((UInt8.ofNat (mt + 128)).toNat : Int) = (mt : Int) + 128 := by rw [UInt8.toNat_ofNat']; omega
    have e2 : ((UInt8.ofNat ds.length).toNat : Int) = (ds.length : Int) := by rw [UInt8.toNat_ofNat']; omega
    simp only [bv, List.map_cons, List.map_nil, e1, e2]
  have hz139 : (madeCells #[Value.int .u8 0] 139).toList.length = 139 := by rw [toList_madeCells_one]; simp
  have ho0 : ∀ o, ((w.alloc (.cells (madeCells #[Value.int .u8 0] 139) 5)).alloc o).ownsRow w.heap.size 5 1 (.slice (some ⟨w.heap.size, 0, none⟩) 0 139) 0 [] := fun o =>
    own_of_blk (n := 0) ((blk_new rfl 5 (madeCells #[Value.int .u8 0] 139)).alloc o) (Nat.le_refl _) (by omega) hz139 (by decide)
  have hnew : ∀ w1 : World, ∀ j u, (bv [UInt8.ofNat (mt + 128), UInt8.ofNat ds.length])[j]? = some u → (w1.alloc (.cells #[.int .u8 ((mt : Int) + 128), .int .u8 (ds.length : Int)] 5)).cell? ((⟨w1.heap.size, 0, none⟩ : Addr).add j) = some u := by
    intro w1 j u hu
    rw [hhdr] at hu
    rw [addr_add, Nat.zero_add]
    have hb := Blk.new w1 5 [.int .u8 ((mt : Int) + 128), .int .u8 (ds.length : Int)]
    rw [hb.cell]
    exact hu
  have hb1 : ∀ w1 : World, (((w.alloc (.cells (madeCells #[Value.int .u8 0] 139) 5)).alloc (.cells #[.int .u8 ((mt : Int) + 128), .int .u8 (ds.length : Int)] 5)).grownBy w1 (some w.heap.size)) → Below w.heap.size w w1 := fun w1 hg =>
    (((Below.refl _ _).alloc (Nat.le_refl _) _).alloc (by simp) _).grown hg (by simp; omega) (fun k e => by injection e with e; omega)
  have HFr := hide hfr
  have HMt := hide hmt
  have KC := hide kc
  have H := hide h
  have HR := hide hr
  have HC0 := hide hc0
  have HO0 := hide ho0
  have HNew := hide hnew
  have HB1 := hide hb1
  clear hfr hmt kc h hr hc0 hctl hhdr hz139 ho0 hnew hb1
  go_enter Tryd.func30, Tryd.ntmps30
  go_wp2_with fail
  refine (KC.out _).mono ?_
  rintro e w' ⟨rfl, rfl⟩
  go_wp2_with (first
    | (at_builtin; refine wpList_app _ rfl (.tmp 34) (.tmp 37) _ rfl w.heap.size 5 i0 _ 1 Tryd.underlying26 hi0 hz0 hz1 hz2 rfl (.slice (some ⟨w.heap.size, 0, none⟩) 0 139) 0 [] rfl (HO0.out _) (w.heap.size + 2) (some ⟨w.heap.size + 1, 0, none⟩) 2 2 (bv [UInt8.ofNat (mt + 128), UInt8.ofNat ds.length]) rfl rfl (Rd.of_addr (by simp) (fun j u hu => by have := HNew.out (w.alloc (.cells (madeCells #[Value.int .u8 0] 139) 5)) j u hu; simpa using this)) (by intro h; cases h) (bv_one _) (by simp only [maxLen]; omega) (by omega) (by simp; omega) ?_
       intro v1 w1 hown1 hg1 hat1
       have hbw1 := HB1.out w1 hg1.out
       have d1 : w1.cell? ⟨E.bc, 1, none⟩ = some (.bool true) := (hbw1.cell (p := ⟨E.bc, 1, none⟩) H.out.conn.lt).trans c1
       have HBW1 := hide hbw1
       clear hbw1)
    | (at_builtin; refine wpList_app _ rfl (.tmp 43) (.tmp 44) _ rfl w.heap.size 5 i0 _ 1 Tryd.underlying26 hi0 hz0 hz1 hz2 rfl v1 (0 + 2) ([] ++ bv [UInt8.ofNat (mt + 128), UInt8.ofNat ds.length]) rfl hown1.out w.heap.size A ds.length c (bv ds) rfl (bv_length ds) (HR.out.below HBW1.out) HC0.out (bv_one ds) (by simp only [maxLen]; omega) (by omega) HBW1.out.size ?_
       intro v2 w2 hown2 hg2 hat2
       have hbw2 : Below w.heap.size w w2 := HBW1.out.grown hg2.out HBW1.out.size (fun k e => (hown1.out.lt k e).1)
       have e7 : w2.cell? ⟨E.bc, 7, none⟩ = some .nilIface := (hbw2.cell (p := ⟨E.bc, 7, none⟩) H.out.conn.lt).trans (H.out.conn.cell 7)
       have e0 : w2.cell? ⟨E.bc, 0, none⟩ = some (.iface 45 (.pointer (some ⟨E.bt, 0, none⟩))) := (hbw2.cell (p := ⟨E.bc, 0, none⟩) H.out.conn.lt).trans (H.out.conn.cell 0)
       have HBW2 := hide hbw2
       clear hbw2))
  have hlen : 0 + 2 + ds.length = fr.length := by rw [HFr.out]; simp; omega
  have hown3 : w2.ownsRow w.heap.size 5 1 v2 fr.length (bv fr) := by
    rw [← hlen, HFr.out, bv_append]; exact hown2.out
  obtain ⟨A2, c2, rfl, _, _, hrd2⟩ := own_shape hown3
  have st2 := H.out.below ok HBW2.out
  have hlen2 : fr.length ≤ 127 := by rw [← hlen]; omega
  have kw := trWrite E.bt E.rd v E.base xs fr A2 c2 w2.heap.size w2 st2.buf (by rw [← hlen]; omega) (by omega) hrd2 (Nat.le_refl _)
    (fun q o e => by
      subst e
      have := (hown3.lt q rfl).1
      have := H.out.size
      have := ok.bt
      omega) st2.size
  refine kw.mono ?_
  rintro e w3 hw
  obtain ⟨v', rfl, st3, hf3, _⟩ := st2.wrote ok hw
  have hbel3 : Below E.W0 w w3 := (HBW2.out.mono (by have := H.out.size; have := ok.c0; have := ok.bc; omega)).trans (below_of_left ok st2 hf3)
  have e3 : w3.cell? ⟨3, 0, none⟩ = some (.iface u x) := (hbel3.cell (p := ⟨3, 0, none⟩) (by have := ok.one; show 3 < _; omega)).trans hg3
  have HS3 := hide (And.intro st3 hbel3)
  clear st3 hbel3 hf3 hw kw st2 hrd2 hown3
  go_wp2_with fail
  refine (writeFatal E w3 .nilIface false u x HS3.out.1.conn).mono ?_
  rintro e w4 ⟨rfl, rfl⟩
  go_wp2_with fail
  go_ret
  refine ⟨rfl, v', .iface u x, HS3.out.1.conn_store ok 7 (.iface u x) (cells_7 E _ _ _ _), fun h => absurd HMt.out h, ?_⟩
  exact HS3.out.2.setCell (p := ⟨E.bc, 7, none⟩) ok.c0 _
end Go.Proofs.YtjjahfhnebicjaaDoor
