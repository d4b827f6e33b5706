/- Words for memory, and plain lemmas on them: blocks that are known whole, slices of bytes that read as a list, what a call leaves as it was. Nothing of a program stands here. -/
import Derived.WalkKit
import Derived.WalkSpells
import Derived.ProofKit
import Derived.OpenShut
import Derived.Laws.CopyOwn
import Derived.Deep.Draws
import Derived.Deep.AppendLies
import Derived.Maps.AppendAt
import Derived.OpenVars
namespace Go.Proofs.YtjjahfhnebicjaaDoor
open Go.ChangeShapes Go.WideShapes Go.ChangeAt Go.RowKit

theorem hide {p : Prop} (h : p) : Hid p := h
theorem ret_int {k : IntKind} {a b : Int} (h : a = b) : Ending.returned (.int k a) = .returned (.int k b) := by rw [h]
theorem ret_bool {a b : Bool} (h : a = b) : Ending.returned (.bool a) = .returned (.bool b) := by rw [h]

/-- Bytes as cells. -/
def bv (xs : List UInt8) : List Value := xs.map fun x => .int .u8 (x.toNat : Int)
theorem bv_length (xs : List UInt8) : (bv xs).length = xs.length := by simp [bv]
theorem bv_nil : bv [] = [] := rfl
theorem bv_cons (x : UInt8) (xs : List UInt8) : bv (x :: xs) = .int .u8 (x.toNat : Int) :: bv xs := rfl
theorem bv_append (xs ys : List UInt8) : bv (xs ++ ys) = bv xs ++ bv ys := by simp [bv]
theorem bv_take (xs : List UInt8) (n : Nat) : bv (xs.take n) = (bv xs).take n := by simp [bv]
theorem bv_drop (xs : List UInt8) (n : Nat) : bv (xs.drop n) = (bv xs).drop n := by simp [bv]
theorem bv_get (xs : List UInt8) (i : Nat) (h : i < xs.length) : (bv xs)[i]? = some (.int .u8 ((xs[i]).toNat : Int)) := by
  simp [bv, h]
theorem bv_set (xs : List UInt8) (i : Nat) (x : UInt8) : bv (xs.set i x) = (bv xs).set i (.int .u8 (x.toNat : Int)) := by simp [bv, List.map_set]
theorem bv_one (xs : List UInt8) : ∀ u ∈ bv xs, u.oneCell' = true := by
  intro u hu
  obtain ⟨_, _, rfl⟩ := List.mem_map.1 hu
  rfl
theorem bv_inj {xs ys : List UInt8} (h : bv xs = bv ys) : xs = ys := by
  unfold bv at h
  refine List.map_inj_right ?_ |>.1 h
  intro a b hab
  simp only [Value.int.injEq, true_and] at hab
  exact UInt8.toNat_inj.1 (by omega)
/-- Numbers that fit a byte are bytes. -/
theorem bytes_of_ints (zs : List Int) (h : ∀ n ∈ zs, (Lit.int .u8 n).wf = true) : ∃ xs : List UInt8, zs = xs.map (fun x => (x.toNat : Int)) := by
  refine ⟨zs.map fun n => UInt8.ofNat n.toNat, ?_⟩
  rw [List.map_map]
  have : ∀ n ∈ zs, ((fun x : UInt8 => (x.toNat : Int)) ∘ fun n : Int => UInt8.ofNat n.toNat) n = id n := by
    intro n hn
    have hb := bounds_u8 (h n hn)
    simp only [Function.comp_apply, UInt8.toNat_ofNat', id]
    omega
  rw [List.map_congr_left this]; simp

/-- What has stayed: of the blocks that were there all but those in S are as they were. -/
structure Fr (S : Nat → Prop) (w w' : World) : Prop where
  os : w'.os = w.os
  tape : w'.tape = w.tape
  output : w'.output = w.output
  size : w.heap.size ≤ w'.heap.size
  block : ∀ k, k < w.heap.size → ¬ S k → w'.heap[k]? = w.heap[k]?

section
variable {S T : Nat → Prop} {a b c w w' : World}
theorem Fr.refl (S : Nat → Prop) (w : World) : Fr S w w := ⟨rfl, rfl, rfl, Nat.le_refl _, fun _ _ _ => rfl⟩
theorem Fr.trans (h : Fr S a b) (k : Fr S b c) : Fr S a c :=
  ⟨k.os.trans h.os, k.tape.trans h.tape, k.output.trans h.output, Nat.le_trans h.size k.size, fun i hi hs => (k.block i (Nat.lt_of_lt_of_le hi h.size) hs).trans (h.block i hi hs)⟩
/-- A second step that writes to S, or to blocks that are new. -/
theorem Fr.then_ (h : Fr S a b) (k : Fr T b c) (hT : ∀ i, i < a.heap.size → T i → S i) : Fr S a c :=
  ⟨k.os.trans h.os, k.tape.trans h.tape, k.output.trans h.output, Nat.le_trans h.size k.size, fun i hi hs => (k.block i (Nat.lt_of_lt_of_le hi h.size) (fun t => hs (hT i hi t))).trans (h.block i hi hs)⟩
theorem Fr.mono (h : Fr S a b) (hS : ∀ i, i < a.heap.size → S i → T i) : Fr T a b :=
  ⟨h.os, h.tape, h.output, h.size, fun i hi ht => h.block i hi (fun s => ht (hS i hi s))⟩
theorem Fr.alloc (h : Fr S a w) (o : Obj) : Fr S a (w.alloc o) :=
  h.then_ (T := fun _ => False) ⟨rfl, rfl, rfl, by simp, fun k hk _ => Below.heap_alloc _ _ _ hk⟩ (fun _ _ f => f.elim)
theorem Fr.drew (h : Fr S a w) : Fr S a w.drew := ⟨h.os, h.tape, h.output, h.size, h.block⟩
theorem Fr.drewN (h : Fr S a w) (n : Nat) : Fr S a (w.drewN n) := ⟨h.os, h.tape, h.output, h.size, h.block⟩
theorem Fr.setCell (h : Fr S a w) {p : Addr} (hp : p.block < a.heap.size → S p.block) (u : Value) : Fr S a (w.setCell p u) :=
  h.then_ (T := fun k => k = p.block) ⟨rfl, rfl, rfl, by simp [World.setCell], fun k _ hk => Below.heap_setCell _ _ _ _ hk⟩ (fun i hi e => by subst e; exact hp hi)
theorem Fr.grown (h : Fr S a w) {row : Option Nat} (hg : w.grownBy w' row) (hr : ∀ k, row = some k → k < a.heap.size → S k) : Fr S a w' :=
  h.then_ (T := fun k => row = some k) ⟨hg.os, hg.tape, hg.output, hg.size, fun k hk hne => hg.block k hk (fun e => hne e.symm)⟩ (fun i hi e => hr i e hi)
theorem Fr.of_below {B : Nat} (h : Below B a b) (hS : ∀ i, B ≤ i → S i) : Fr S a b :=
  ⟨h.os, h.tape, h.output, h.size, fun k _ hk => h.block k (Nat.lt_of_not_le (fun hle => hk (hS k hle)))⟩
/-- Nothing that was there has turned. -/
theorem Fr.below (h : Fr S a b) (hS : ∀ i, i < a.heap.size → ¬ S i) : Below a.heap.size a b :=
  ⟨h.os, h.tape, h.output, h.size, fun k hk => h.block k hk (hS k hk)⟩
theorem below_fr (h : Below a.heap.size a b) (S : Nat → Prop) : Fr S a b := ⟨h.os, h.tape, h.output, h.size, fun k hk _ => h.block k hk⟩
theorem Fr.cell (h : Fr S a b) {p : Addr} (hp : p.block < a.heap.size) (hn : ¬ S p.block) : b.cell? p = a.cell? p := World.cell?_of_block (w := a) (h.block p.block hp hn)
theorem Fr.frozen (h : Fr S a b) {p : Addr} (hp : p.block < a.heap.size) (hn : ¬ S p.block) : b.frozen? p = a.frozen? p := World.frozen?_of_block (w := a) (h.block p.block hp hn)
end

/-- A block that is known whole, not frozen. -/
def Blk (w : World) (g : Nat) (t : TypeId) (cs : List Value) : Prop := w.heap[g]? = some (.cells cs.toArray t (0, 0))
section
variable {w w' : World} {g : Nat} {t : TypeId} {cs : List Value} {S : Nat → Prop}
theorem Blk.lt (h : Blk w g t cs) : g < w.heap.size := by
  rcases Nat.lt_or_ge g w.heap.size with hlt | hge
  · exact hlt
  · unfold Blk at h; rw [Array.getElem?_eq_none hge] at h; cases h
theorem Blk.cell (h : Blk w g t cs) (i : Nat) : w.cell? ⟨g, i, none⟩ = cs[i]? := by
  rw [cell_of_row w g i cs.toArray t (0, 0) h]; simp
theorem Blk.frozen (h : Blk w g t cs) (i : Nat) : w.frozen? ⟨g, i, none⟩ = false := by
  unfold Blk at h
  simp [World.frozen?, h]
theorem Blk.new (w : World) (t : TypeId) (cs : List Value) : Blk (w.alloc (.cells cs.toArray t)) w.heap.size t cs := heap_alloc_new w _
theorem Blk.drew (h : Blk w g t cs) : Blk w.drew g t cs := h
theorem Blk.drewN (h : Blk w g t cs) (n : Nat) : Blk (w.drewN n) g t cs := h
theorem Blk.alloc (h : Blk w g t cs) (o : Obj) : Blk (w.alloc o) g t cs := (Below.heap_alloc w o g h.lt).trans h
theorem Blk.set (h : Blk w g t cs) (i : Nat) (u : Value) : Blk (w.setCell ⟨g, i, none⟩ u) g t (cs.set i u) := by
  unfold Blk at h ⊢
  simp [World.setCell, Array.getElem?_modify, h]
theorem Blk.far (h : Blk w g t cs) {p : Addr} (hp : g ≠ p.block) (u : Value) : Blk (w.setCell p u) g t cs := (Below.heap_setCell w p u g hp).trans h
theorem Blk.kept (h : Blk w g t cs) (hf : Fr S w w') (hg : ¬ S g) : Blk w' g t cs := (hf.block g h.lt hg).trans h
theorem Blk.below {B : Nat} (h : Blk w g t cs) (hb : Below B w w') (hg : g < B) : Blk w' g t cs := (hb.block g hg).trans h
theorem Blk.inj {t' : TypeId} {cs' : List Value} (h : Blk w g t cs) (h' : Blk w g t' cs') : cs = cs' := by
  unfold Blk at h h'
  rw [h] at h'
  simp only [Option.some.injEq, Obj.cells.injEq] at h'
  simpa using h'.1
end

theorem addr_add (g o i : Nat) : (⟨g, o, none⟩ : Addr).add i = ⟨g, o + i, none⟩ := by
  unfold Addr.add; split
  · simp_all
  · rfl
theorem add_block (a : Addr) (n : Nat) : (a.add n).block = a.block := by unfold Addr.add; split <;> rfl
theorem add_add (a : Addr) (i j : Nat) : (a.add i).add j = a.add (i + j) := by
  unfold Addr.add
  by_cases hi : i = 0 <;> by_cases hj : j = 0 <;> simp [hi, hj, Nat.add_assoc]

/-- A slice of cells at A that reads as xs; it lies below block B. -/
def Rd (w : World) (B : Nat) (A : Option Addr) (xs : List Value) : Prop :=
  0 < xs.length → ∃ g o, A = some ⟨g, o, none⟩ ∧ g < B ∧ ∀ j u, xs[j]? = some u → w.cell? ⟨g, o + j, none⟩ = some u
section
variable {w w' : World} {B B' : Nat} {A : Option Addr} {xs : List Value} {S : Nat → Prop}
theorem spot_none {w : World} {ad : Addr} {u : Value} (h : w.cell? ad = some u) : ∃ g o, ad = ⟨g, o, none⟩ := by
  obtain ⟨g, o, sp⟩ := ad
  cases sp with
  | none => exact ⟨g, o, rfl⟩
  | some s =>
    exfalso
    simp only [World.cell?] at h
    split at h <;> simp at h
theorem Rd.of_addr {ad : Addr} (hb : ad.block < B) (h : ∀ j u, xs[j]? = some u → w.cell? (ad.add j) = some u) : Rd w B (some ad) xs := fun hn => by
  have h0 := h 0 _ (List.getElem?_eq_getElem hn)
  rw [show ad.add 0 = ad from rfl] at h0
  obtain ⟨g, o, rfl⟩ := spot_none h0
  exact ⟨g, o, rfl, hb, fun j u hu => by rw [← addr_add]; exact h j u hu⟩
theorem Rd.nil (w : World) (B : Nat) (A : Option Addr) : Rd w B A [] := fun h => absurd h (by simp)
theorem Rd.keep (h : Rd w B A xs) (hk : ∀ p : Addr, p.block < B → w'.cell? p = w.cell? p) : Rd w' B A xs := fun hn => by
  obtain ⟨g, o, e, hb, hc⟩ := h hn
  exact ⟨g, o, e, hb, fun j u hu => (hk ⟨g, o + j, none⟩ hb).trans (hc j u hu)⟩
theorem Rd.below (h : Rd w B A xs) (hb : Below B w w') : Rd w' B A xs := h.keep fun _ hp => hb.cell hp
theorem Rd.more (h : Rd w B A xs) (hB : B ≤ B') : Rd w B' A xs := fun hn => by
  obtain ⟨g, o, e, hb, hc⟩ := h hn
  exact ⟨g, o, e, by omega, hc⟩
theorem Rd.cut (h : Rd w B A xs) {k cap : Nat} (hc : xs.length ≤ cap) : Rd w B (if cap = k then A else A.map (·.add k)) (xs.drop k) := fun hn => by
  rw [List.length_drop] at hn
  obtain ⟨g, o, rfl, hb, hcell⟩ := h (by omega)
  rw [if_neg (by omega)]
  refine ⟨g, o + k, by simp [addr_add], hb, fun j u hu => ?_⟩
  rw [Nat.add_assoc]
  exact hcell _ u (by rw [← hu, List.getElem?_drop])
theorem Rd.take (h : Rd w B A xs) (k : Nat) : Rd w B A (xs.take k) := fun hn => by
  rw [List.length_take] at hn
  obtain ⟨g, o, rfl, hb, hcell⟩ := h (by omega)
  refine ⟨g, o, rfl, hb, fun j u hu => ?_⟩
  rw [List.getElem?_take] at hu
  split at hu
  · exact hcell j u hu
  · cases hu
theorem Rd.of_blk {g o : Nat} {t : TypeId} {cs : List Value} (h : Blk w g t cs) (hg : g < B) (hx : ∀ j u, xs[j]? = some u → cs[o + j]? = some u) : Rd w B (some ⟨g, o, none⟩) xs := fun _ =>
  ⟨g, o, rfl, hg, fun j u hu => by rw [h.cell]; exact hx j u hu⟩
theorem Rd.of_own {base : Nat} {e : TypeId} {n c : Nat} (h : w.ownsRow base e 1 (.slice A n c) n xs) : Rd w w.heap.size A xs := fun hn => by
  obtain ⟨g, cap, hv, _, hlt⟩ := h.form (by have := h.1; omega)
  have hA : A = some ⟨g, 0, none⟩ := by injection hv
  subst hA
  exact ⟨g, 0, rfl, hlt, fun j u hu => by have := h.cells (g := g) rfl j u hu; rwa [addr_add] at this⟩
/-- A slice value that owns a row: its shape. -/
theorem own_shape {base : Nat} {e : TypeId} {v : Value} {n : Nat} (h : w.ownsRow base e 1 v n xs) : ∃ A c, v = .slice A n c ∧ (A = none → n = 0 ∧ c = 0) ∧ n ≤ c ∧ Rd w w.heap.size A xs := by
  have h' := h
  rcases h.2 with ⟨rfl, rfl⟩ | ⟨g, cap, cur, rfl, _, _, hnc, _⟩
  · exact ⟨none, 0, rfl, fun _ => ⟨rfl, rfl⟩, Nat.le_refl _, Rd.of_own h'⟩
  · exact ⟨_, cap, rfl, fun e => (by cases e), hnc, Rd.of_own h'⟩
theorem own_empty (w : World) (e : TypeId) {base n : Nat} (hb : base ≤ w.heap.size) (hn : w.heap.size = n) : (w.alloc (.cells #[] e)).ownsRow base e 1 (.slice (some ⟨n, 0, none⟩) 0 0) 0 [] := by
  subst hn
  exact World.ownsRow_lit w #[] 0 hb (by simp [maxLen]) rfl
theorem own_base {base base' : Nat} {e : TypeId} {v : Value} {n : Nat} (h : w.ownsRow base e 1 v n xs) (hb : base' ≤ base) : w.ownsRow base' e 1 v n xs := by
  obtain ⟨a1, a2⟩ := h
  refine ⟨a1, ?_⟩
  rcases a2 with a2 | ⟨g, cap, cur, hv, hbb, rest⟩
  · exact .inl a2
  · exact .inr ⟨g, cap, cur, hv, by omega, rest⟩
end

section
variable {P : Program} (w : World)
/-- append onto a row of the call's own, of one-cell elements; the source nil, empty or not. -/
theorem run_app (base : Nat) (t ty e : TypeId) (i : TypeInfo) (z : Value) (bytes : Nat) (ht : P.underlying t = some (.slice e)) (hi : P.info? e = some i) (hz : i.zero = some z)
    (hsize : i.size = 1) (hby : i.bytes = bytes) (hzs : z.cells.size = 1) (v : Value) (n : Nat) (xs : List Value) (hown : w.ownsRow base e 1 v n xs)
    (B : Nat) (A : Option Addr) (m c : Nat) (news : List Value) (hl : news.length = m) (hr : Rd w B A news) (hc0 : A = none → c = 0) (h1 : ∀ u ∈ news, u.oneCell' = true)
    (h63 : n + m ≤ maxLen) (hbytes : (n + m) * bytes ≤ 140737488355328) (hbase : base ≤ w.heap.size) :
    ∃ v' w', (Builtin.append_ #[t, t] ty #[v, .slice A m c]).run P w = .ok v' w' ∧ w'.ownsRow base e 1 v' (n + m) (xs ++ news) ∧ w.grownBy w' v.ownBlock ∧
      (v'.ownBlock = v.ownBlock ∨ v'.ownBlock = some w.heap.size) := by
  subst hl
  cases A with
  | none =>
    have hm : news.length = 0 := by
      rcases Nat.eq_zero_or_pos news.length with h0 | h0
      · exact h0
      · obtain ⟨_, _, h, _⟩ := hr h0
        cases h
    have hnil : news = [] := List.eq_nil_of_length_eq_zero hm
    subst hnil
    obtain rfl := hc0 rfl
    exact ⟨v, w, run_append_owned_none (P := P) w base t ty e i 1 ht hi v n xs hown, by simpa using hown, World.grownBy.refl w _, .inl rfl⟩
  | some ad =>
    have hcells : ∀ j u, news[j]? = some u → w.cell? (ad.add j) = some u := by
      intro j u hu
      have hpos : 0 < news.length := by
        have := (List.getElem?_eq_some_iff.1 hu).1
        omega
      obtain ⟨g, o, h, _, hc⟩ := hr hpos
      injection h with h
      subst h
      rw [addr_add]
      exact hc j u hu
    obtain ⟨v', w', h2, h3, h4, _, h5⟩ := run_append_own_at (P := P) w base t ty e i z 1 bytes ht hi hz hsize hby hzs (by omega) v n xs hown ad news.length c news (by omega) hcells h1 h63 hbytes hbase
    exact ⟨v', w', h2, h3, h4, h5⟩

theorem wp_app {o : Oper} {a : Act} {K : Act → World → Prop} {Q : Exit → Act → World → Prop} (s x : Operand) (t : TypeId)
    (ho : o.op = .call { callee := .builtin .append, args := #[s, x], argTypes := #[t, t] })
    (base : Nat) (e : TypeId) (i : TypeInfo) (z : Value) (bytes : Nat) (ht : P.underlying t = some (.slice e)) (hi : P.info? e = some i) (hz : i.zero = some z)
    (hsize : i.size = 1) (hby : i.bytes = bytes) (hzs : z.cells.size = 1) (v : Value) (n : Nat) (xs : List Value) (hs : a.eval s = v) (hown : w.ownsRow base e 1 v n xs)
    (B : Nat) (A : Option Addr) (m c : Nat) (news : List Value) (hx : a.eval x = .slice A m c) (hl : news.length = m) (hr : Rd w B A news) (hc0 : A = none → c = 0) (h1 : ∀ u ∈ news, u.oneCell' = true)
    (h63 : n + m ≤ maxLen) (hbytes : (n + m) * bytes ≤ 140737488355328) (hbase : base ≤ w.heap.size)
    (h : ∀ v' w', Hid (w'.ownsRow base e 1 v' (n + m) (xs ++ news)) → Hid (w.grownBy w' v.ownBlock) → Hid (v'.ownBlock = v.ownBlock ∨ v'.ownBlock = some w.heap.size) → K (a.put o.dst v') w') : o.wp P a w K Q := by
  obtain ⟨v', w', hrun, h2, h3, h4⟩ := run_app (P := P) w base t o.type e i z bytes ht hi hz hsize hby hzs v n xs hown B A m c news hl hr hc0 h1 h63 hbytes hbase
  unfold Oper.wp execOp
  simp only [ho, resolve, invoke, builtin, Sem.run_bind, Sem.run_pure, Result.andThen_ok, List.map_toArray, List.map_cons, List.map_nil, hs, hx, hrun]
  exact h v' w' h2 h3 h4

theorem wpList_app {ops : Array Oper} {rest : List Oper} {o : Oper} {a : Act} {Q : Exit → Act → World → Prop} (hgd : o.guard = none) (s x : Operand) (t : TypeId)
    (ho : o.op = .call { callee := .builtin .append, args := #[s, x], argTypes := #[t, t] })
    (base : Nat) (e : TypeId) (i : TypeInfo) (z : Value) (bytes : Nat) (ht : P.underlying t = some (.slice e)) (hi : P.info? e = some i) (hz : i.zero = some z)
    (hsize : i.size = 1) (hby : i.bytes = bytes) (hzs : z.cells.size = 1) (v : Value) (n : Nat) (xs : List Value) (hs : a.eval s = v) (hown : w.ownsRow base e 1 v n xs)
    (B : Nat) (A : Option Addr) (m c : Nat) (news : List Value) (hx : a.eval x = .slice A m c) (hl : news.length = m) (hr : Rd w B A news) (hc0 : A = none → c = 0) (h1 : ∀ u ∈ news, u.oneCell' = true)
    (h63 : n + m ≤ maxLen) (hbytes : (n + m) * bytes ≤ 140737488355328) (hbase : base ≤ w.heap.size)
    (h : ∀ v' w', Hid (w'.ownsRow base e 1 v' (n + m) (xs ++ news)) → Hid (w.grownBy w' v.ownBlock) → Hid (v'.ownBlock = v.ownBlock ∨ v'.ownBlock = some w.heap.size) → wpList P ops Q rest (a.put o.dst v') w') : wpList P ops Q (o :: rest) a w :=
  wpList_plain hgd fun _ hK => wp_app w s x t ho base e i z bytes ht hi hz hsize hby hzs v n xs hs hown B A m c news hx hl hr hc0 h1 h63 hbytes hbase fun v' w' h2 h3 h4 => hK _ _ (h v' w' h2 h3 h4)

theorem step_app {ops : Array Oper} {o : Oper} {a : Act} {K : Act → World → Prop} {Q : Exit → Act → World → Prop} {E : Prop} (hgd : o.guard = none) (s x : Operand) (t : TypeId)
    (ho : o.op = .call { callee := .builtin .append, args := #[s, x], argTypes := #[t, t] })
    (base : Nat) (e : TypeId) (i : TypeInfo) (z : Value) (bytes : Nat) (ht : P.underlying t = some (.slice e)) (hi : P.info? e = some i) (hz : i.zero = some z)
    (hsize : i.size = 1) (hby : i.bytes = bytes) (hzs : z.cells.size = 1) (v : Value) (n : Nat) (xs : List Value) (hs : a.eval s = v) (hown : w.ownsRow base e 1 v n xs)
    (B : Nat) (A : Option Addr) (m c : Nat) (news : List Value) (hx : a.eval x = .slice A m c) (hl : news.length = m) (hr : Rd w B A news) (hc0 : A = none → c = 0) (h1 : ∀ u ∈ news, u.oneCell' = true)
    (h63 : n + m ≤ maxLen) (hbytes : (n + m) * bytes ≤ 140737488355328) (hbase : base ≤ w.heap.size)
    (h : ∀ v' w', Hid (w'.ownsRow base e 1 v' (n + m) (xs ++ news)) → Hid (w.grownBy w' v.ownBlock) → Hid (v'.ownBlock = v.ownBlock ∨ v'.ownBlock = some w.heap.size) → K (a.put o.dst v') w') :
    if Region.wanted o (yielded ops a.tmps) = true then Oper.wp P o a w K Q else E := by
  have hw : Region.wanted o (yielded ops a.tmps) = true := by simp [Region.wanted, hgd]
  rw [if_pos hw]
  exact wp_app w s x t ho base e i z bytes ht hi hz hsize hby hzs v n xs hs hown B A m c news hx hl hr hc0 h1 h63 hbytes hbase h
end

/-- x[k:]: the address (at the capacity's end the old one). -/
def cutA (A : Option Addr) (k cap : Nat) : Option Addr := if cap = k then A else A.map (·.add k)
theorem Rd.cutA {w : World} {B : Nat} {A : Option Addr} {xs : List Value} (h : Rd w B A xs) {k cap : Nat} (hc : xs.length ≤ cap) : Rd w B (cutA A k cap) (xs.drop k) := h.cut hc
theorem cutA_some (g o k cap : Nat) (h : k < cap) : cutA (some ⟨g, o, none⟩) k cap = some ⟨g, o + k, none⟩ := by
  unfold cutA
  rw [if_neg (by omega)]
  simp [addr_add]
theorem cutA_none {A : Option Addr} {k cap : Nat} (h : cutA A k cap = none) : A = none := by
  unfold cutA at h
  split at h
  · exact h
  · simpa using h
section
variable {P : Program} (t e : TypeId) (i : TypeInfo) (ht : P.underlying t = some (.slice e)) (hi : P.info? e = some i) (h1 : i.size = 1)
include ht hi h1
theorem run_cut_from (A : Option Addr) (n c k : Nat) (hk : k ≤ n) : ∀ w : World, (Instr.slice t (.slice A n c) (some (.int .i64 (k : Int))) none none).run P w = .ok (.slice (cutA A k c) (n - k) (c - k)) w := by
  intro w
  have he : P.elem t = e := by simp [Program.elem, ht]
  rw [run_slice_l (P := P) w t A n c (by rw [he]; exact ht) .i64 (k : Int) (by omega) (by omega), he]
  simp [sizeOf, typeInfo, hi, h1, sliced, cutA, Result.andThen]
theorem run_cut_lh (A : Option Addr) (n c l h : Nat) (hl : l ≤ h) (hh : h ≤ c) : ∀ w : World, (Instr.slice t (.slice A n c) (some (.int .i64 (l : Int))) (some (.int .i64 (h : Int))) none).run P w = .ok (.slice (cutA A l c) (h - l) (c - l)) w := by
  intro w
  have he : P.elem t = e := by simp [Program.elem, ht]
  rw [run_slice_lh (P := P) w t A n c (by rw [he]; exact ht) .i64 .i64 (l : Int) (h : Int) (by omega) (by omega) (by omega), he]
  simp [sizeOf, typeInfo, hi, h1, sliced, cutA, Result.andThen]
end

/-- string(b): the bytes as a text. -/
def strOf (xs : List UInt8) : ByteArray := ⟨xs.toArray⟩
@[simp, go_sem] theorem strOf_toList (xs : List UInt8) : (strOf xs).toList = xs := ByteArray.toList_mk xs
theorem run_conv {P : Program} (w : World) (src dst e : TypeId) (hs : P.underlying src = some (.slice e)) (he : P.underlying e = some (.int .u8)) (hd : P.underlying dst = some .string)
    (B : Nat) (A : Option Addr) (c : Nat) (xs : List UInt8) (hr : Rd w B A (bv xs)) (n : Nat) (hn : n = xs.length) : (convert src dst (.slice A n c)).run P w = .ok (.string (strOf xs)) w := by
  subst hn
  cases A with
  | none =>
    have hx : xs = [] := by
      cases xs with
      | nil => rfl
      | cons x xs => obtain ⟨_, _, h, _⟩ := hr (by simp [bv]); cases h
    subst hx
    exact run_convert_bytes_nil w src e hs he _ _ dst hd
  | some ad =>
    have hcells : ∀ j u, (bv xs)[j]? = some u → w.cell? (ad.add j) = some u := by
      intro j u hu
      have hpos : 0 < (bv xs).length := by
        have := (List.getElem?_eq_some_iff.1 hu).1
        omega
      obtain ⟨g, o, h, _, hc⟩ := hr hpos
      injection h with h
      subst h
      rw [addr_add]
      exact hc j u hu
    have hl : (loadCells ad xs.length).run P w = .ok ((xs.map fun x => (x.toNat : Int)).map (Value.int .u8)).toArray w := by
      have := run_loadCells_list (P := P) w ad (bv xs) hcells
      rw [bv_length] at this
      rw [this]
      simp [bv, Function.comp_def]
    rw [run_convert_bytes_string w src dst e _ _ c hs he hd, run_bytesToString w ad _ c _ hl, foldl_push_bytes]
    simp [strOf, ByteArray.empty, ByteArray.emptyWithCapacity, Function.comp_def]
    rfl

@[simp, go_sem] theorem strOf_size (xs : List UInt8) : (strOf xs).size = xs.length := by simp [strOf, ByteArray.size]
theorem run_add_str {P : Program} (xs ys : List UInt8) (h : xs.length + ys.length ≤ 4000000000) : ∀ w : World, (Op.stringOp .add (strOf xs) (strOf ys)).run P w = .ok (.string (strOf (xs ++ ys))) w := by
  intro w
  rw [run_string_add_sum w _ _ (by rw [strOf_size, strOf_size]; omega)]
  congr 2

theorem own_of_blk {w : World} {g base n cap : Nat} {t : TypeId} {cs : List Value} (h : Blk w g t cs) (hb : base ≤ g) (hn : n ≤ cap) (hc : cs.length = cap) (hm : cap ≤ maxLen) : w.ownsRow base t 1 (.slice (some ⟨g, 0, none⟩) n cap) n (cs.take n) :=
  ⟨by rw [List.length_take]; omega, .inr ⟨g, cap, cs.toArray, rfl, hb, h, hn, hm, by simp [hc], by simp⟩⟩
theorem splice_whole {α : Type} (cs a b : List α) (h : cs.length = a.length + b.length) : splice (splice cs 0 a) a.length b = a ++ b := by
  have h1 : splice cs 0 a = a ++ cs.drop a.length := by simp [splice]
  rw [h1]
  unfold splice
  rw [List.take_left' rfl, List.drop_of_length_le (by simp; omega), List.append_nil]
/-- A row inside a block. -/
theorem splice_get {α : Type} (cs ys : List α) (off i : Nat) (hi : i < ys.length) (hf : off ≤ cs.length) : (splice cs off ys)[off + i]? = ys[i]? := by
  unfold splice
  rw [List.getElem?_append_right (by simp; omega)]
  simp only [List.length_take, Nat.min_eq_left hf, Nat.add_sub_cancel_left]
  rw [List.getElem?_append_left hi]
theorem splice_set {α : Type} (cs ys : List α) (off i : Nat) (u : α) (hi : i < ys.length) (hf : off ≤ cs.length) : (splice cs off ys).set (off + i) u = splice cs off (ys.set i u) := by
  unfold splice
  rw [List.set_append_right _ _ (by simp; omega)]
  simp only [List.length_take, Nat.min_eq_left hf, Nat.add_sub_cancel_left, List.length_set]
  rw [List.set_append_left _ _ hi]
theorem splice_self {α : Type} (cs ys : List α) (off : Nat) (hx : ∀ j u, ys[j]? = some u → cs[off + j]? = some u) (hf : off ≤ cs.length) : splice cs off ys = cs := by
  apply List.ext_getElem?
  intro j
  unfold splice
  by_cases h1 : j < off
  · rw [List.getElem?_append_left (by simp; omega)]
    simp [h1]
  · by_cases h2 : j < off + ys.length
    · rw [List.getElem?_append_right (by simp; omega)]
      simp only [List.length_take, Nat.min_eq_left hf]
      rw [List.getElem?_append_left (by omega)]
      have h3 : j - off < ys.length := by omega
      have := hx (j - off) ys[j - off] (List.getElem?_eq_getElem h3)
      rw [List.getElem?_eq_getElem h3, ← this]
      congr 1; omega
    · rw [List.getElem?_append_right (by simp; omega)]
      simp only [List.length_take, Nat.min_eq_left hf]
      rw [List.getElem?_append_right (by omega), List.getElem?_drop]
      congr 1; omega

/-- Arguments read again where nothing that was there has turned. -/
theorem trodAll_below {H : Type} {enc : TypeId × Value → H} {P : Program} (hl : laidOutB P = true) {W W' : World} (hb : Below W.heap.size W W') :
    ∀ {ts : List TypeId} {vs : List Value} {ds : List (DataW H)} {ps : List MemPlace}, (ts.all fun t => P.readableRec t && decide (t < P.types.size)) = true →
      DataW.TrodAll enc P W 0 (fun _ => true) true ts vs ds ps → (∀ x ∈ ps, x.block < W.heap.size) → DataW.TrodAll enc P W' 0 (fun b => decide (b < W.heap.size)) true ts vs ds ps
  | [], [], [], _, _, h, _ => h
  | [], [], _ :: _, _, _, h, _ => h.elim
  | [], _ :: _, _, _, _, h, _ => h.elim
  | _ :: _, [], _, _, _, h, _ => h.elim
  | _ :: _, _ :: _, [], _, _, h, _ => h.elim
  | t :: ts, v :: vs, d :: ds, ps, hr, h, hlt => by
    obtain ⟨p, q, h1, h2, rfl⟩ := h
    simp only [List.all_cons, Bool.and_eq_true, decide_eq_true_eq] at hr
    exact ⟨p, q, Below.trod hl hr.1.1 hr.1.2 h1 hb (fun x hx => hlt x (by simp [hx])), trodAll_below hl hb hr.2 h2 (fun x hx => hlt x (by simp [hx])), rfl⟩

/-- A law's last step: it answered true, and what was there has not turned. -/
theorem law_post {H : Type} {enc : TypeId × Value → H} {P : Program} {f : Func} {s : ChangeSpec} {W W' : World} {args : Array Value} {ds gs : List (DataW H)} {before : List MemPlace} {tb : TypeId}
    (hl : laidOutB P = true) (hpar : (f.params.toList.all fun t => P.readableRec t && decide (t < P.types.size)) = true) (hvars : varsRowed P s.vars = true)
    (hres : f.resultTypes = #[tb]) (hbool : P.underlying tb = some .bool)
    (hW : DataW.Whole enc P f.params.toList s.vars false W args.toList ds gs before)
    (hspec : s.fn H (ds ++ gs) = { results := [.lit (.bool true)], args := ds, vars := gs }) (hb : Below W.heap.size W W') :
    s.post enc P f false true false false W args (.bool true) W' := by
  have hlt : ∀ x ∈ before, x.block < W.heap.size := fun x hx => hW.lt x hx
  have hW' := hW
  obtain ⟨p, q, hA, hV, rfl, _, _⟩ := hW'
  refine ⟨ds, gs, p ++ q, [], p, q, hW, ?_, ?_, ?_, hb.frame _, fun h => by cases h⟩
  · rw [hspec, hres]
    exact trodAll_mk1 (shut_bool hbool _)
  · rw [hspec]
    exact trodAll_below hl hb hpar hA (fun x hx => hlt x (by simp [hx]))
  · rw [hspec]
    exact Below.trodVars hl hb hvars hV
end Go.Proofs.YtjjahfhnebicjaaDoor
