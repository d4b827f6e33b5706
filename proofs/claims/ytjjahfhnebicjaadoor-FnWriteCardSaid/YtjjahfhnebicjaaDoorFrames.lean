/- spec.Frames: words. -/
import Derived.Test.YtjjahfhnebicjaaDoorWritten
import Derived.Maps.AppendAt
namespace Go.Proofs.YtjjahfhnebicjaaDoor
open Go.ChangeShapes Go.WideShapes Go.ChangeAt Go.RowKit

theorem specIsData (t : Int) (w : World) : Calls Tryd.prog 15 #[.int .i64 t] w fun e w' => e = .returned (.bool (isDataN t)) ∧ w = w' := by
  unfold isDataN
  by_cases h1 : t = 1
  · subst h1
    go_enter Tryd.func15, Tryd.ntmps15
    go_wp2_with fail
    go_ret
    exact ⟨rfl, rfl⟩
  by_cases h2 : t = 2
  · subst h2
    clear h1
    go_enter Tryd.func15, Tryd.ntmps15
    go_wp2_with fail
    go_ret
    exact ⟨rfl, rfl⟩
  have e1 : (t == 1) = false := beq_eq_false_iff_ne.2 h1
  have e2 : (t == 2) = false := beq_eq_false_iff_ne.2 h2
  rw [decide_eq_false h1, decide_eq_false h2]
  clear h1 h2
  go_enter Tryd.func15, Tryd.ntmps15
  go_wp2_with fail
  go_ret
  exact ⟨rfl, rfl⟩
theorem specIsControl (t : Int) (w : World) : Calls Tryd.prog 16 #[.int .i64 t] w fun e w' => e = .returned (.bool (decide (8 ≤ t) && decide (t ≤ 10))) ∧ w = w' := by
  by_cases h1 : 8 ≤ t
  · have d1 : decide (8 ≤ t) = true := decide_eq_true h1
    by_cases h2 : t ≤ 10
    · have d2 : decide (t ≤ 10) = true := decide_eq_true h2
      rw [d1, d2]
      go_enter Tryd.func16, Tryd.ntmps16
      go_wp2_with fail
      go_ret
      exact ⟨rfl, rfl⟩
    · have d2 : decide (t ≤ 10) = false := decide_eq_false h2
      rw [d1, d2]
      go_enter Tryd.func16, Tryd.ntmps16
      go_wp2_with fail
      go_ret
      exact ⟨rfl, rfl⟩
  · have d1 : decide (8 ≤ t) = false := decide_eq_false h1
    rw [d1]
    go_enter Tryd.func16, Tryd.ntmps16
    go_wp2_with fail
    go_ret
    exact ⟨rfl, rfl⟩

theorem Tryd.info_frame : (Tryd.prog.info? 41).map (fun i => (i.zero, i.size, i.bytes)) = some (some (.agg #[.bool false, .int .i64 0, .slice none 0 0]), 3, 40) := by kernel_rfl

/-- A frame and the slice that its data lie in. -/
structure FmV where
  f : Fm
  A : Option Addr
  c : Nat
def FmV.cells (x : FmV) : List Value := [.bool x.f.last, .int .i64 (x.f.op : Int), .slice x.A x.f.data.length x.c]
def flat (fv : List FmV) : List Value := fv.flatMap FmV.cells
theorem flat_snoc (fv : List FmV) (x : FmV) : flat (fv ++ [x]) = flat fv ++ x.cells := by simp [flat]
theorem flat_length (fv : List FmV) : (flat fv).length = fv.length * 3 := by
  induction fv with
  | nil => rfl
  | cons x fv ih =>
    have : flat (x :: fv) = x.cells ++ flat fv := rfl
    rw [this, List.length_append, ih]
    simp [FmV.cells]
    omega
theorem flat_get (fv : List FmV) : ∀ (j : Nat) (h : j < fv.length) (q : Nat), q < 3 → (flat fv)[j * 3 + q]? = (fv[j]).cells[q]? := by
  induction fv with
  | nil => intro j h; exact absurd h (by simp)
  | cons x fv ih =>
    intro j h q hq
    have e : flat (x :: fv) = x.cells ++ flat fv := rfl
    have hl : x.cells.length = 3 := rfl
    rw [e]
    cases j with
    | zero =>
      rw [List.getElem?_append_left (by rw [hl]; omega), Nat.zero_mul, Nat.zero_add]
      rfl
    | succ j =>
      rw [List.getElem?_append_right (by rw [hl]; omega), hl, show (j + 1) * 3 + q - 3 = j * 3 + q by omega, ih j (by simp at h; omega) q hq]
      rfl
theorem own_fr3 {w w' : World} {base : Nat} {e : TypeId} {v : Value} {s n : Nat} {xs : List Value} {S : Nat → Prop} (h : w.ownsRow base e s v n xs) (hf : Fr S w w') (hS : ∀ k, v.ownBlock = some k → ¬ S k) : w'.ownsRow base e s v n xs := by
  obtain ⟨a1, a2⟩ := h
  refine ⟨a1, ?_⟩
  rcases a2 with a2 | ⟨g, cap, cur, ev, hbb, hh, rest⟩
  · exact .inl a2
  · subst ev
    exact .inr ⟨g, cap, cur, rfl, hbb, (hf.block g (Blk.lt (cs := cur.toList) (t := e) (by unfold Blk; simpa using hh)) (hS g rfl)).trans hh, rest⟩
theorem own_below3 {w w' : World} {base : Nat} {e : TypeId} {v : Value} {s n : Nat} {xs : List Value} (h : w.ownsRow base e s v n xs) (hb : Below w.heap.size w w') : w'.ownsRow base e s v n xs :=
  own_fr3 h (below_fr hb (fun _ => False)) (fun _ _ f => f)

/-- A frame's data in memory, away from the row of frames. -/
structure DatAt (wx : World) (out : Value) (A : Option Addr) (c : Nat) (ds : List UInt8) : Prop where
  rd : Rd wx wx.heap.size A (bv ds)
  nl : A = none → c = 0
  cap : ds.length ≤ c
  far : 0 < ds.length → ∀ a, A = some a → out.ownBlock ≠ some a.block
structure FrAt (w wx : World) (out : Value) (fv : List FmV) : Prop where
  own : wx.ownsRow w.heap.size 41 3 out fv.length (flat fv)
  all : ∀ x ∈ fv, DatAt wx out x.A x.c x.f.data
  fr : Below w.heap.size w wx
theorem DatAt.keep {wx wy : World} {out out' : Value} {A : Option Addr} {c : Nat} {ds : List UInt8} (h : DatAt wx out A c ds) (hf : Fr (fun k => out.ownBlock = some k) wx wy) (ho : out'.ownBlock = out.ownBlock ∨ ∃ N, out'.ownBlock = some N ∧ wx.heap.size ≤ N) : DatAt wy out' A c ds := by
  refine ⟨fun hp => ?_, h.nl, h.cap, fun hp a e => ?_⟩
  · obtain ⟨g, o, rfl, hg, hc⟩ := h.rd hp
    have hfar := h.far (by rw [bv_length] at hp; exact hp) _ rfl
    exact ⟨g, o, rfl, Nat.lt_of_lt_of_le hg hf.size, fun j u hu => (hf.cell (p := ⟨g, o + j, none⟩) hg hfar).trans (hc j u hu)⟩
  · obtain ⟨g, o, rfl, hg, hc⟩ := h.rd (by rw [bv_length]; exact hp)
    injection e with e
    subst e
    rcases ho with q | ⟨N, q, hN⟩
    · rw [q]; exact h.far hp _ rfl
    · rw [q]
      intro e2
      injection e2 with e2
      have e2 : N = g := e2
      omega
theorem DatAt.cutFrom {wx : World} {out : Value} {A : Option Addr} {c : Nat} {ds : List UInt8} (h : DatAt wx out A c ds) (k : Nat) (hk : k < ds.length) : DatAt wx out (cutA A k c) (c - k) (ds.drop k) := by
  have hcap := h.cap
  refine ⟨by rw [bv_drop]; exact h.rd.cutA (by rw [bv_length]; exact hcap), fun e => ?_, by rw [List.length_drop]; omega, fun _ a e => ?_⟩
  · have := h.nl (cutA_none e); omega
  · obtain ⟨b, hb, e2⟩ := cutA_block e; rw [← e2]; exact h.far (by omega) b hb
theorem DatAt.cutTo {wx : World} {out : Value} {A : Option Addr} {c : Nat} {ds : List UInt8} (h : DatAt wx out A c ds) (k : Nat) (hk : k ≤ ds.length) : DatAt wx out (cutA A 0 c) c (ds.take k) := by
  have hcap := h.cap
  have h1 : Rd wx wx.heap.size (cutA A 0 c) (bv (ds.take k)) := by
    have := (h.rd.cutA (k := 0) (cap := c) (by rw [bv_length]; exact hcap)).take k
    rw [List.drop_zero, ← bv_take] at this
    exact this
  refine ⟨h1, fun e => h.nl (cutA_none e), by rw [List.length_take]; omega, fun hp a e => ?_⟩
  obtain ⟨b, hb, e2⟩ := cutA_block e
  rw [← e2]
  exact h.far (by rw [List.length_take] at hp; omega) b hb
/-- One frame more. -/
theorem FrAt.snoc {w wx w1 wy : World} {out out' : Value} {fv : List FmV} {x : FmV} (h : FrAt w wx out fv) (hx : DatAt wx out x.A x.c x.f.data) (h1 : Below wx.heap.size wx w1) (hg : w1.grownBy wy out.ownBlock) (hat : out'.ownBlock = out.ownBlock ∨ out'.ownBlock = some w1.heap.size)
    (hown : wy.ownsRow w.heap.size 41 3 out' (fv.length + 1) (flat fv ++ x.cells)) : FrAt w wy out' (fv ++ [x]) := by
  have hf : Fr (fun k => out.ownBlock = some k) wx wy := (below_fr h1 _).grown hg (fun k e _ => e)
  have ho : out'.ownBlock = out.ownBlock ∨ ∃ N, out'.ownBlock = some N ∧ wx.heap.size ≤ N := hat.imp id (fun e => ⟨_, e, h1.size⟩)
  refine ⟨by rw [flat_snoc, List.length_append]; exact hown, fun y hy => ?_, ?_⟩
  · rcases List.mem_append.1 hy with hy | hy
    · exact (h.all y hy).keep hf ho
    · rw [List.mem_singleton.1 hy]; exact hx.keep hf ho
  · exact (h.fr.trans (h1.mono h.fr.size)).grown hg (Nat.le_trans h.fr.size h1.size) (fun k e => (h.own.lt k e).1)
theorem FrAt.below {w wx wy : World} {out : Value} {fv : List FmV} (h : FrAt w wx out fv) (hb : Below wx.heap.size wx wy) : FrAt w wy out fv :=
  ⟨own_below3 h.own hb, fun x hx => (h.all x hx).keep (below_fr hb _) (.inl rfl), h.fr.trans (hb.mono h.fr.size)⟩
theorem DatAt.below {wx wy : World} {out : Value} {A : Option Addr} {c : Nat} {ds : List UInt8} (h : DatAt wx out A c ds) (hb : Below wx.heap.size wx wy) : DatAt wy out A c ds := h.keep (below_fr hb _) (.inl rfl)
/-- The row of frames, as it is read. -/
theorem FrAt.read {w wx : World} {out : Value} {fv : List FmV} (h : FrAt w wx out fv) : ∃ FA fc, out = .slice FA fv.length fc ∧ FmsAt wx wx.heap.size FA (fv.map FmV.f) := by
  rcases h.own.2 with ⟨rfl, h0⟩ | ⟨g, cap, cur, rfl, _, hg, _⟩
  · refine ⟨none, 0, by rw [h0], fun hp => ?_⟩
    rw [List.length_map] at hp
    omega
  · refine ⟨_, cap, rfl, fun _ => ⟨g, 0, rfl, ?_, fun j hj => ?_⟩⟩
    · exact (h.own.lt g rfl).2
    · rw [List.length_map] at hj
      have hc := fun q (hq : q < 3) (u : Value) (hu : (fv[j]).cells[q]? = some u) => by
        have h1 := h.own.cells (g := g) rfl (j * 3 + q) u (by rw [flat_get fv j hj q hq]; exact hu)
        rw [addr_add] at h1
        exact h1
      have hd := h.all fv[j] (List.getElem_mem hj)
      rw [List.getElem_map]
      exact ⟨fv[j].A, fv[j].c, hc 0 (by omega) _ rfl, hc 1 (by omega) _ rfl, hc 2 (by omega) _ rfl, hd.rd, hd.nl⟩
end Go.Proofs.YtjjahfhnebicjaaDoor
