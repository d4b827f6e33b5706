/- (*Conn).WriteMessage of a server. -/
import Derived.Test.YtjjahfhnebicjaaDoorMsg4
namespace Go.Proofs.YtjjahfhnebicjaaDoor
open Go.ChangeShapes Go.WideShapes Go.ChangeAt Go.RowKit

set_option maxHeartbeats 1000000 in
set_option maxRecDepth 10000 in
theorem writeServer (E : Env) (ok : E.Ok) (hsrv : E.srv = true) (w : World) (v : Value) (xs : List UInt8) (i t : Nat) (ht : t = 1 ∨ t = 2) (u : TypeId) (x : Value) (ds : List UInt8) (A : Option Addr) (c : Nat) (hdl : ds.length ≤ 60000) (fr : List UInt8) (hfr : frameL true true t ds.length (E.key i) ds = fr)
    (h : St E w .nilIface false .nilIface v xs i) (hg5 : w.cell? ⟨5, 0, none⟩ = some (.iface u x)) (hX : xs.length + 60100 ≤ 1000000000) (hi : i ≤ 1000000) (hr : Rd w w.heap.size A (bv ds)) (hc : ds.length ≤ c)
    (hA : ∀ a, A = some a → E.base ≤ a.block ∧ v.ownBlock ≠ some a.block ∧ a.block < w.heap.size) :
    Calls Tryd.prog 32 #[.pointer (some ⟨E.bc, 0, none⟩), .int .i64 (t : Int), .slice A ds.length c] w fun en w' => en = .returned .nilIface ∧ ∃ v', St E w' .nilIface false .nilIface v' (xs ++ fr) i ∧ Below E.W0 w w' := by
  have hm14 := ok.m
  have hm2 := ok.m2
  obtain ⟨i0, hi0, hz0, hz1, hz2⟩ := info_parts Tryd.info_u8
  have hsu : (Tryd.prog.info? 5).map (·.size) = some 1 := by rw [hi0]; simp [hz1]
  have c1 : w.cell? ⟨E.bc, 1, none⟩ = some (.bool true) := by rw [← hsrv]; exact h.conn.cell 1
  have hb1 : Below w.heap.size w (w.alloc (.cells #[.pointer none, .int .i64 0, .int .i64 0, .nilIface] 93)) := (Below.refl _ _).alloc (Nat.le_refl _) _
  have hG := Blk.new w 93 [.pointer none, .int .i64 0, .int .i64 0, .nilIface]
  have st1 := h.below ok hb1
  have kb := beginMessage E _ v xs i w.heap.size t ht st1 hG
  have hbase := h.size
  have hbcl := h.conn.lt
  have hbwl : E.bw < w.heap.size := by have := ok.bw; omega
  have hvo : v.ownBlock ≠ some w.heap.size := fun e => by have := (h.buf.own_ge e).2; omega
  have hvg : ∀ k, v.ownBlock = some k → E.base ≤ k := fun k e => (h.buf.own_ge e).1
  have he := errNe
  have hr1 := hr.below hb1
  have KB := hide kb
  have ST1 := hide st1
  have HR1 := hide hr1
  have HA := hide hA
  have HVo := hide hvo
  have HVg := hide hvg
  have HFr := hide hfr
  clear kb st1 h hG hr hr1 hA hvo hvg hfr
  go_enter Tryd.func32, Tryd.ntmps32
  go_wp2_with fail
  refine KB.out.mono ?_
  rintro e w2 ⟨rfl, hmw2, hf2⟩
  have st2 := ST1.out.keep ok hf2 (fun k e => by subst e; exact ⟨hbase, HVo.out⟩)
  obtain ⟨cs, hcs, hcl⟩ := st2.wbuf
  have f02 : Fr (fun _ => False) w w2 := ((Fr.refl (fun _ => False) w).alloc _).then_ hf2 (fun k hk e => by omega)
  have hrd2 : Rd w2 w.heap.size A (bv ds) := HR1.out.kept hf2 (by simp) (fun g o e q => by have := (HA.out _ e).2.2; have h9 : g < w.heap.size := this; omega)
  have q1 : w2.cell? ⟨w.heap.size, 1, none⟩ = some (.int .i64 14) := hmw2.cell 1
  have q3 : w2.cell? ⟨E.bc, 3, none⟩ = some (.slice (some ⟨E.bw, 0, none⟩) E.M E.M) := st2.conn.cell 3
  have hcutB : ∀ w, (Instr.slice 26 (.slice (some ⟨E.bw, 0, none⟩) E.M E.M) (some (.int .i64 14)) none none).run Tryd.prog w = .ok (.slice (cutA (some ⟨E.bw, 0, none⟩) 14 E.M) (E.M - 14) (E.M - 14)) w :=
    run_cut_from (P := Tryd.prog) 26 5 i0 Tryd.underlying26 hi0 hz1 (some ⟨E.bw, 0, none⟩) E.M E.M 14 (by omega)
  rw [cutA_some E.bw 0 14 E.M (by omega), Nat.zero_add] at hcutB
  obtain ⟨n, hn⟩ : ∃ n : Nat, min ds.length (E.M - 14) = n := ⟨_, rfl⟩
  have hn2 : n ≤ ds.length := by omega
  have hn3 : n ≤ E.M - 14 := by omega
  have hcutQ := run_cut_from (P := Tryd.prog) 26 5 i0 Tryd.underlying26 hi0 hz1 A ds.length c n hn2
  have hkb : w.heap.size < w2.heap.size := hmw2.lt
  have HM2 := hide hmw2
  have ST2 := hide st2
  have HF02 := hide f02
  have HRd2 := hide hrd2
  have HCs := hide hcs
  have HCl := hide hcl
  have HN := hide hn
  clear hmw2 st2 f02 hrd2 hcs hcl hn hf2
  go_upto_region 6 with fail
  go_still_tail 8, (by kernel_rfl)
  change wpList _ _ _ _ _ w2.drew
  refine (wpList_cp _ rfl (.tmp 28) (.tmp 29) 26 26 rfl 5 Tryd.underlying26 hsu (some ⟨E.bw, 14, none⟩) A (E.M - 14) (E.M - 14) ds.length c rfl rfl w.heap.size E.bw 14 5 cs (bv ds) (bv_length ds) HCs.out HRd2.out (bv_one _) (fun _ => rfl) (by rw [HN.out, HCl.out]; omega) ?_)
  intro w3 hb3 hf3
  rw [HN.out]
  have htk : (bv ds).take (E.M - 14) = bv (ds.take n) := by
    rw [bv_take]
    have h1 := HN.out
    by_cases h2 : ds.length ≤ E.M - 14
    · rw [List.take_of_length_le (by rw [bv_length]; exact h2), List.take_of_length_le (by rw [bv_length]; omega)]
    · rw [show n = E.M - 14 by omega]
  have hb3' := hb3.out
  rw [htk] at hb3'
  have hf3' : Fr (fun b => b = E.bw) w2 w3 := (Fr.refl _ w2).drew.trans hf3.out
  have hm3 := HM2.out.kept hf3' (by show ¬ w.heap.size = E.bw; omega)
  have p1 : w3.cell? ⟨w.heap.size, 1, none⟩ = some (.int .i64 14) := hm3.cell 1
  have pz1 := hm3.frozen 1
  have hlt3 : (ds.take n).length = n := by rw [List.length_take]; omega
  have hl3 : (splice cs 14 (bv (ds.take n))).length = E.M := by rw [length_splice _ _ _ (by rw [bv_length, hlt3, HCl.out]; omega)]; exact HCl.out
  have st3 := ST2.out.wb ok hb3' hl3 hf3'
  have f34 : Fr (fun b => b = w.heap.size) w3 (w3.setCell ⟨w.heap.size, 1, none⟩ (.int .i64 (14 + (n : Int)))) := (Fr.refl (fun b => b = w.heap.size) w3).setCell (p := ⟨w.heap.size, 1, none⟩) (fun _ => rfl) _
  have st4 := st3.keep ok f34 (fun k e => by subst e; exact ⟨hbase, HVo.out⟩)
  have hm4 := hm3.set 1 (.int .i64 (14 + (n : Int)))
  have hb4 := hb3'.kept f34 (by show ¬ E.bw = w.heap.size; omega)
  have hd4 : ((splice cs 14 (bv (ds.take n))).drop 14).take n = bv (ds.take n) := by
    have := splice_at cs (bv (ds.take n)) 14 (by rw [bv_length, hlt3, HCl.out]; omega)
    rw [bv_length, hlt3] at this
    exact this
  have hrd4 : Rd (w3.setCell ⟨w.heap.size, 1, none⟩ (.int .i64 (14 + (n : Int)))) w.heap.size A (bv ds) :=
    (HRd2.out.kept hf3' (by omega) (fun g o e q => by have := (HA.out _ e).1; have h9 : E.base ≤ g := this; have := ok.bw; have q : g = E.bw := q; omega)).kept f34 (by have := hf3'.size; omega) (fun g o e q => by have := (HA.out _ e).2.2; have h9 : g < w.heap.size := this; have q : g = w.heap.size := q; omega)
  have hg54 : (w3.setCell ⟨w.heap.size, 1, none⟩ (.int .i64 (14 + (n : Int)))).cell? ⟨5, 0, none⟩ = some (.iface u x) := by
    have o1 := ok.one
    have o2 := ok.c0
    have o3 := ok.w0
    rw [f34.cell (by have := hf3'.size; show 5 < _; omega) (by show ¬ 5 = _; omega), hf3'.cell (by show 5 < _; omega) (by show ¬ 5 = E.bw; omega), HF02.out.cell (by show 5 < _; omega) (fun h => h)]
    exact hg5
  have hrdz : Rd (w3.setCell ⟨w.heap.size, 1, none⟩ (.int .i64 (14 + (n : Int)))) (w3.setCell ⟨w.heap.size, 1, none⟩ (.int .i64 (14 + (n : Int)))).heap.size (cutA A n c) (bv (ds.drop n)) := by
    rw [bv_drop]
    exact (hrd4.cutA (by rw [bv_length]; exact hc)).more (by have := hf3'.size; have := f34.size; omega)
  have hzl : (ds.drop n).length = ds.length - n := List.length_drop
  have kf := flushFrame E ok true hsrv true (fun _ => rfl) _ .nilIface v xs (ds.drop n) i w.heap.size n t ds.length (by rw [hzl]; omega) (by omega) _ (ds.take n) (cutA A n c) (c - n) u x (fun e => by rw [hsrv] at e; cases e) hlt3 hdl (by omega) hX hi _ rfl i rfl st4 hb4 hl3 hd4 hm4 hbase HVo.out hg54 hrdz (fun g o e => by
    obtain ⟨a, ha, hb⟩ := cutA_block e
    have hf := HA.out a ha
    have hb : a.block = g := hb
    rw [← hb]
    exact ⟨hf.1, hf.2.1, by omega⟩)
  rw [hzl] at kf
  have KF := hide kf
  have HF3 := hide hf3'
  have HF34 := hide f34
  have HVS := hide st4
  clear kf hb3' hf3' hm3 st3 f34 st4 hm4 hb4 hd4 hrd4 hg54 hrdz hzl hl3 hlt3 htk hb3 hf3
  go_wp2_with fail
  refine KF.out.mono ?_
  rintro e w5 ⟨rfl, v5, st5, hm5, hf5, hv5⟩
  have ST5 := hide st5
  have HF5 := hide hf5
  clear st5 hm5 hf5 hv5
  go_wp2_with fail
  go_ret
  refine ⟨rfl, v5, ?_, ?_⟩
  · have h1 := ST5.out
    have e1 : frameL true true t ds.length (E.key i) (ds.take n) ++ ds.drop n = fr := by
      rw [← HFr.out]
      show hdrL true true t ds.length ++ ds.take n ++ ds.drop n = hdrL true true t ds.length ++ ds
      rw [List.append_assoc, List.take_append_drop]
    rw [e1] at h1
    exact h1
  · have hW : E.W0 ≤ w.heap.size := by have := ok.c0; have := ok.bc; omega
    have b1 : Below E.W0 w w2 := HF02.out.toBelow hW (fun k e => e.elim)
    have b2 : Below E.W0 w2 w3 := HF3.out.toBelow (by omega) (fun k e => by subst e; exact ok.w0)
    have b3 := HF34.out.toBelow (B := E.W0) (by have := HF3.out.size; omega) (fun k e => by have e : k = w.heap.size := e; omega)
    have b4 := HF5.out.toBelow (B := E.W0) (by have := HF3.out.size; have := HF34.out.size; omega) (wet_ge ok hbase HVg.out)
    exact ((b1.trans b2).trans b3).trans b4
end Go.Proofs.YtjjahfhnebicjaaDoor
