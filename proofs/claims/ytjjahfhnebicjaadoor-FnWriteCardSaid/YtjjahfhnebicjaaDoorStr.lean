/- Texts appended to bytes and copied into bytes; bytes made. Nothing of a program stands here. -/
import Derived.Test.YtjjahfhnebicjaaDoorMem
namespace Go.Proofs.YtjjahfhnebicjaaDoor
open Go.ChangeShapes Go.WideShapes Go.ChangeAt Go.RowKit

theorem cells_str (ys : List UInt8) (n : Nat) : ((strOf ys).data.map fun b => Value.int .u8 (b.toNat : Int)).extract 0 n = (bv (ys.take n)).toArray := by
  simp [strOf, bv]

section
variable {P : Program} (w : World)
/-- append(b, s...): onto a row of the call's own. -/
theorem run_app_str (base : Nat) (t u ty e : TypeId) (i : TypeInfo) (z : Value) (bytes : Nat) (ht : P.underlying t = some (.slice e)) (hu : P.underlying u = some .string) (hi : P.info? e = some i) (hz : i.zero = some z)
    (hsize : i.size = 1) (hby : i.bytes = bytes) (hzs : z.cells.size = 1) (v : Value) (n : Nat) (xs : List Value) (hown : w.ownsRow base e 1 v n xs) (ys : List UInt8)
    (h63 : n + ys.length ≤ maxLen) (hbytes : (n + ys.length) * bytes ≤ 140737488355328) (hbase : base ≤ w.heap.size) :
    ∃ v' w', (Builtin.append_ #[t, u] ty #[v, .string (strOf ys)]).run P w = .ok v' w' ∧ w'.ownsRow base e 1 v' (n + ys.length) (xs ++ bv ys) ∧ w.grownBy w' v.ownBlock ∧
      (v'.ownBlock = v.ownBlock ∨ v'.ownBlock = some w.heap.size) := by
  subst hby
  have hsz : (strOf ys).size = ys.length := strOf_size ys
  have hcs := cells_str ys ys.length
  rw [List.take_length] at hcs
  have hlen : (xs ++ bv ys).length = (n + ys.length) * 1 := by rw [List.length_append, hown.1, bv_length]; omega
  have hsmall : n + ys.length ≤ 9223372036854775807 := by simp only [maxLen] at h63; omega
  have grown : ∀ (old : Nat), old < n + ys.length → ∀ (row : Option Nat),
      (w.drew.alloc (.cells (xs.toArray ++ (bv ys).toArray ++ Builtin.zeroCells z.cells (grownCap w (n + ys.length) old e - (n + ys.length))) e)).ownsRow base e 1
        (.slice (some ⟨w.heap.size, 0, none⟩) (n + ys.length) (grownCap w (n + ys.length) old e)) (n + ys.length) (xs ++ bv ys) ∧
      w.grownBy (w.drew.alloc (.cells (xs.toArray ++ (bv ys).toArray ++ Builtin.zeroCells z.cells (grownCap w (n + ys.length) old e - (n + ys.length))) e)) row := by
    intro old ho row
    have hge := grownCap_ge w (n + ys.length) old e
    have hcm : grownCap w (n + ys.length) old e ≤ maxLen := grownCap_le_maxLen w (n + ys.length) old e h63
    refine ⟨⟨hlen, .inr ⟨w.heap.size, _, _, rfl, hbase, heap_alloc_new w.drew _, hge, hcm, ?_, ?_⟩⟩, ⟨rfl, rfl, rfl, by simp, fun k hk _ => Below.heap_alloc w.drew _ k hk⟩⟩
    · have h1 := hown.1
      simp only [Array.size_append, List.size_toArray, size_zeroCells, hzs, bv_length]
      omega
    · simp only [Array.toList_append]
      rw [← hlen]
      exact List.take_left
  rcases hown.2 with ⟨rfl, rfl⟩ | ⟨g, cap, cur, rfl, hbg, hg, hnc, hcm, hcs', htake⟩
  · have hx : xs = [] := List.eq_nil_of_length_eq_zero (by simpa using hown.1)
    subst hx
    by_cases hm : ys.length = 0
    · have hn : ys = [] := List.eq_nil_of_length_eq_zero hm
      subst hn
      refine ⟨.slice none 0 0, w, ?_, World.ownsRow_nil w base e 1, ⟨rfl, rfl, rfl, Nat.le_refl _, fun _ _ _ => rfl⟩, Or.inl rfl⟩
      have h0 : (strOf []).size = 0 := strOf_size []
      simp [Builtin.append_, run_underlying ht, run_underlying hu, sizeOf, typeInfo, hi, Builtin.lenOf, Builtin.firstCells, h0]
    · have h63' : ¬ (9223372036854775807 < (ys.length : Int)) := by omega
      have h48' : ¬ (281474976710656 < Builtin.nextslicecap ys.length 0 * i.bytes) := by rw [nextslicecap_zero (by omega)]; simp only [Nat.zero_add] at hbytes; omega
      have hgr := grown 0 (by omega) (Value.ownBlock (.slice none 0 0))
      simp only [Nat.zero_add, List.nil_append, Array.empty_append] at hgr ⊢
      refine ⟨_, _, ?_, hgr.1, hgr.2, Or.inr rfl⟩
      simp [Builtin.append_, run_underlying ht, run_underlying hu, sizeOf, typeInfo, zeroValue, hi, hz, Builtin.lenOf, Builtin.firstCells, hm, h63', h48', Question.forced, newRow, grownCap]
      rw [hcs]
  · by_cases hroom : n + ys.length ≤ cap
    · have hfit : n + (bv ys).length ≤ cur.size := by rw [bv_length]; omega
      have hst := run_storeCells_at P g n e (bv ys) 0 cur w hg (by simpa using hfit) (bv_one ys)
      simp only [Nat.add_zero] at hst
      refine ⟨.slice (some ⟨g, 0, none⟩) (n + ys.length) cap, w.setRow g (cur.toList.take n ++ bv ys ++ cur.toList.drop (n + (bv ys).length)).toArray, ?_,
        ⟨hlen, .inr ⟨g, cap, _, rfl, hbg, setRow_heap w g cur _ e _ hg, hroom, hcm, ?_, ?_⟩⟩, ⟨rfl, rfl, rfl, by simp, fun k _ hk => setRow_other w g k _ (fun e => hk (by simp [Value.ownBlock, e]))⟩, Or.inl rfl⟩
      · simp [Builtin.append_, run_underlying ht, run_underlying hu, sizeOf, typeInfo, hi, hsize, Builtin.lenOf, Builtin.firstCells, hroom, addr_add]
        have hl : List.take ys.length (List.map (fun b : UInt8 => Value.int IntKind.u8 (b.toNat : Int)) (strOf ys).data.toList) = bv ys := by
          have := congrArg Array.toList hcs
          simpa using this
        rw [hl, hst]
        simp [Result.andThen]
      · simp only [List.size_toArray, List.length_append, List.length_take, List.length_drop, Array.length_toList, bv_length]
        omega
      · rw [Nat.mul_one] at htake
        rw [htake, ← hlen]
        exact List.take_left
    · have holds : ∀ j u, xs[j]? = some u → w.cell? ((⟨g, 0, none⟩ : Addr).add j) = some u := hown.cells (g := g) rfl
      have hn : ¬ (n + ys.length ≤ cap) := by omega
      have h63' : ¬ (9223372036854775807 < ((n : Int) + (ys.length : Int))) := by omega
      have h48' : ¬ (281474976710656 < Builtin.nextslicecap (n + ys.length) cap * i.bytes) := by have := growslice_fits (need := n + ys.length) (old := cap) (by omega) hbytes; omega
      have hfo := run_firstCells_some (P := P) w.drew i.size n ⟨g, 0, none⟩ n cap xs (by rw [hsize]; exact hown.1) (by simpa using holds)
      rw [hsize] at hfo
      have hgr := grown cap (by omega) (Value.ownBlock (.slice (some ⟨g, 0, none⟩) n cap))
      refine ⟨_, _, ?_, hgr.1, hgr.2, Or.inr rfl⟩
      have hfs : ∀ u, (Builtin.firstCells 1 ys.length (.string (strOf ys))).run P u = .ok (bv ys).toArray u := by
        intro u
        simp [Builtin.firstCells, hcs]
      simp [Builtin.append_, run_underlying ht, run_underlying hu, sizeOf, typeInfo, zeroValue, hi, hz, hsize, Builtin.lenOf, hn, h63', h48', Question.forced, hfo, hfs, newRow, grownCap]
      congr 2
      apply Array.ext'
      simp [List.append_assoc]
theorem wp_app_str {o : Oper} {a : Act} {K : Act → World → Prop} {Q : Exit → Act → World → Prop} (s x : Operand) (t u : TypeId)
    (ho : o.op = .call { callee := .builtin .append, args := #[s, x], argTypes := #[t, u] })
    (base : Nat) (e : TypeId) (i : TypeInfo) (z : Value) (bytes : Nat) (ht : P.underlying t = some (.slice e)) (hu : P.underlying u = some .string) (hi : P.info? e = some i) (hz : i.zero = some z)
    (hsize : i.size = 1) (hby : i.bytes = bytes) (hzs : z.cells.size = 1) (v : Value) (n : Nat) (xs : List Value) (hs : a.eval s = v) (hown : w.ownsRow base e 1 v n xs)
    (ys : List UInt8) (hx : a.eval x = .string (strOf ys)) (h63 : n + ys.length ≤ maxLen) (hbytes : (n + ys.length) * bytes ≤ 140737488355328) (hbase : base ≤ w.heap.size)
    (h : ∀ v' w', Hid (w'.ownsRow base e 1 v' (n + ys.length) (xs ++ bv ys)) → Hid (w.grownBy w' v.ownBlock) → Hid (v'.ownBlock = v.ownBlock ∨ v'.ownBlock = some w.heap.size) → K (a.put o.dst v') w') : o.wp P a w K Q := by
  obtain ⟨v', w', hrun, h2, h3, h4⟩ := run_app_str (P := P) w base t u o.type e i z bytes ht hu hi hz hsize hby hzs v n xs hown ys h63 hbytes hbase
  unfold Oper.wp execOp
  simp only [ho, resolve, invoke, builtin, Sem.run_bind, Sem.run_pure, Result.andThen_ok, List.map_toArray, List.map_cons, List.map_nil, hs, hx, hrun]
  exact h v' w' h2 h3 h4
theorem wpList_app_str {ops : Array Oper} {rest : List Oper} {o : Oper} {a : Act} {Q : Exit → Act → World → Prop} (hgd : o.guard = none) (s x : Operand) (t u : TypeId)
    (ho : o.op = .call { callee := .builtin .append, args := #[s, x], argTypes := #[t, u] })
    (base : Nat) (e : TypeId) (i : TypeInfo) (z : Value) (bytes : Nat) (ht : P.underlying t = some (.slice e)) (hu : P.underlying u = some .string) (hi : P.info? e = some i) (hz : i.zero = some z)
    (hsize : i.size = 1) (hby : i.bytes = bytes) (hzs : z.cells.size = 1) (v : Value) (n : Nat) (xs : List Value) (hs : a.eval s = v) (hown : w.ownsRow base e 1 v n xs)
    (ys : List UInt8) (hx : a.eval x = .string (strOf ys)) (h63 : n + ys.length ≤ maxLen) (hbytes : (n + ys.length) * bytes ≤ 140737488355328) (hbase : base ≤ w.heap.size)
    (h : ∀ v' w', Hid (w'.ownsRow base e 1 v' (n + ys.length) (xs ++ bv ys)) → Hid (w.grownBy w' v.ownBlock) → Hid (v'.ownBlock = v.ownBlock ∨ v'.ownBlock = some w.heap.size) → wpList P ops Q rest (a.put o.dst v') w') : wpList P ops Q (o :: rest) a w :=
  wpList_plain hgd fun _ hK => wp_app_str w s x t u ho base e i z bytes ht hu hi hz hsize hby hzs v n xs hs hown ys hx h63 hbytes hbase fun v' w' h2 h3 h4 => hK _ _ (h v' w' h2 h3 h4)

/-- copy(dst, src): dst in a block that is known; what src reads as, as much as fits. -/
theorem run_cp (dT sT ty e : TypeId) (hu : P.underlying dT = some (.slice e)) (hsz : (P.info? e).map (·.size) = some 1)
    (dp sp : Option Addr) (dLen dCap sCap B g off : Nat) (t : TypeId) (cs zs : List Value) (hB : Blk w g t cs) (hr : Rd w B sp zs) (h1 : ∀ v ∈ zs, v.oneCell' = true)
    (hpos : 0 < min zs.length dLen → dp = some ⟨g, off, none⟩) (hfit : off + min zs.length dLen ≤ cs.length) :
    ∃ w', (Builtin.copy_ #[dT, sT] ty #[.slice dp dLen dCap, .slice sp zs.length sCap]).run P w = .ok (.int .i64 ((min zs.length dLen : Nat) : Int)) w' ∧ Blk w' g t (splice cs off (zs.take dLen)) ∧ Fr (fun i => i = g) w w' := by
  by_cases h0 : min zs.length dLen = 0
  · have hrun := run_copy_none (P := P) w dT sT ty e dp sp dLen dCap zs.length sCap hu hsz h0
    refine ⟨w, ?_, ?_, Fr.refl _ _⟩
    · rw [hrun, h0]; rfl
    · have hn : zs.take dLen = [] := by apply List.eq_nil_of_length_eq_zero; rw [List.length_take]; omega
      rw [hn]
      have : splice cs off [] = cs := by simp [splice]
      rw [this]; exact hB
  · obtain rfl := hpos (by omega)
    obtain ⟨g2, o2, rfl, _, hc⟩ := hr (by omega)
    have hlen : (zs.take dLen).length = Nat.min zs.length dLen := by rw [List.length_take, Nat.min_comm]
    have hrun := run_copy_row (P := P) w dT sT ty e g off dLen dCap ⟨g2, o2, none⟩ zs.length sCap cs.toArray t (zs.take dLen) hu hsz hB hlen (fun j v hj => by
      rw [List.getElem?_take] at hj
      split at hj
      · rw [addr_add]; exact hc j v hj
      · cases hj) (by rw [List.size_toArray, hlen]; exact hfit) (fun v hv => h1 v (List.mem_of_mem_take hv))
    refine ⟨w.setRow g (splice cs off (zs.take dLen)).toArray, ?_, ?_, ⟨rfl, rfl, rfl, by simp [World.setRow], fun k _ hk => setRow_other w g k _ hk⟩⟩
    · rw [hrun]
      have hlen' : (zs.take dLen).length = min zs.length dLen := hlen
      rw [show splice cs off (zs.take dLen) = cs.take off ++ (zs.take dLen ++ cs.drop (off + (zs.take dLen).length)) from rfl, hlen']
      simp [goInt]
    · have := setRow_heap w g cs.toArray (splice cs off (zs.take dLen)).toArray t (0, 0) hB
      simpa [Blk, splice] using this

/-- copy(dst, s), s a text. -/
theorem run_cp_str (dT sT ty e : TypeId) (hu : P.underlying dT = some (.slice e)) (hsz : (P.info? e).map (·.size) = some 1)
    (dp : Option Addr) (dLen dCap g off : Nat) (t : TypeId) (cs : List Value) (hB : Blk w g t cs) (ys : List UInt8)
    (hpos : 0 < min ys.length dLen → dp = some ⟨g, off, none⟩) (hfit : off + min ys.length dLen ≤ cs.length) :
    ∃ w', (Builtin.copy_ #[dT, sT] ty #[.slice dp dLen dCap, .string (strOf ys)]).run P w = .ok (.int .i64 ((min ys.length dLen : Nat) : Int)) w' ∧ Blk w' g t (splice cs off (bv (ys.take dLen))) ∧ Fr (fun i => i = g) w w' := by
  obtain ⟨i, hi, _⟩ := Option.map_eq_some_iff.1 hsz
  have hcs := cells_str ys (min ys.length dLen)
  have htk : ys.take (min ys.length dLen) = ys.take dLen := by
    by_cases h : ys.length ≤ dLen
    · rw [Nat.min_eq_left h, List.take_of_length_le (Nat.le_refl _), List.take_of_length_le h]
    · rw [Nat.min_eq_right (by omega)]
  have hl : List.take (min ys.length dLen) (List.map (fun b : UInt8 => Value.int IntKind.u8 (b.toNat : Int)) (strOf ys).data.toList) = bv (ys.take dLen) := by
    have := congrArg Array.toList hcs
    rw [htk] at this
    simpa using this
  have hbl : (bv (ys.take dLen)).length = min ys.length dLen := by rw [bv_length, List.length_take, Nat.min_comm]
  cases dp with
  | none =>
    have h0 : min ys.length dLen = 0 := by
      rcases Nat.eq_zero_or_pos (min ys.length dLen) with h | h
      · exact h
      · cases hpos h
    refine ⟨w, ?_, ?_, Fr.refl _ _⟩
    · simp [Builtin.copy_, run_underlying hu, sizeOf, typeInfo, hi, Builtin.lenOf, Builtin.firstCells]
      rfl
    · have hn : bv (ys.take dLen) = [] := List.eq_nil_of_length_eq_zero (by omega)
      rw [hn]
      have : splice cs off [] = cs := by simp [splice]
      rw [this]; exact hB
  | some ad =>
    by_cases h0 : min ys.length dLen = 0
    · have hn : bv (ys.take dLen) = [] := List.eq_nil_of_length_eq_zero (by omega)
      refine ⟨w, ?_, ?_, Fr.refl _ _⟩
      · simp [Builtin.copy_, run_underlying hu, sizeOf, typeInfo, hi, Builtin.lenOf, Builtin.firstCells]
        rw [show Nat.min ys.length dLen = min ys.length dLen from rfl, hl, hn]
        simp [storeCells, Result.andThen]
        rfl
      · rw [hn]
        have : splice cs off [] = cs := by simp [splice]
        rw [this]; exact hB
    · have := hpos (by omega)
      injection this with this
      subst this
      have hst := run_storeCells_at P g off t (bv (ys.take dLen)) 0 cs.toArray w hB (by rw [List.size_toArray, hbl]; simpa using hfit) (bv_one _)
      simp only [Nat.add_zero] at hst
      refine ⟨w.setRow g (splice cs off (bv (ys.take dLen))).toArray, ?_, ?_, ⟨rfl, rfl, rfl, by simp [World.setRow], fun k _ hk => setRow_other w g k _ hk⟩⟩
      · simp [Builtin.copy_, run_underlying hu, sizeOf, typeInfo, hi, Builtin.lenOf, Builtin.firstCells]
        rw [show Nat.min ys.length dLen = min ys.length dLen from rfl, hl, hst]
        simp [splice, goInt, Result.andThen]
      · have := setRow_heap w g cs.toArray (splice cs off (bv (ys.take dLen))).toArray t (0, 0) hB
        simpa [Blk, splice] using this

theorem wp_run {o : Oper} {a : Act} {K : Act → World → Prop} {Q : Exit → Act → World → Prop} (d s : Operand) (dT sT : TypeId)
    (ho : o.op = .call { callee := .builtin .copy, args := #[d, s], argTypes := #[dT, sT] }) (x y v : Value) (w' : World) (hd : a.eval d = x) (hs : a.eval s = y)
    (hrun : (Builtin.copy_ #[dT, sT] o.type #[x, y]).run P w = .ok v w') (h : K (a.put o.dst v) w') : o.wp P a w K Q := by
  unfold Oper.wp execOp
  simp only [ho, resolve, invoke, builtin, Sem.run_bind, Sem.run_pure, Result.andThen_ok, List.map_toArray, List.map_cons, List.map_nil, hd, hs, hrun]
  exact h
theorem wpList_cp {ops : Array Oper} {rest : List Oper} {o : Oper} {a : Act} {Q : Exit → Act → World → Prop} (hgd : o.guard = none) (d s : Operand) (dT sT : TypeId)
    (ho : o.op = .call { callee := .builtin .copy, args := #[d, s], argTypes := #[dT, sT] }) (e : TypeId) (hu : P.underlying dT = some (.slice e)) (hsz : (P.info? e).map (·.size) = some 1)
    (dp sp : Option Addr) (dLen dCap sLen sCap : Nat) (hd : a.eval d = .slice dp dLen dCap) (hs : a.eval s = .slice sp sLen sCap)
    (B g off : Nat) (t : TypeId) (cs zs : List Value) (hl : zs.length = sLen) (hB : Blk w g t cs) (hr : Rd w B sp zs) (h1 : ∀ v ∈ zs, v.oneCell' = true)
    (hpos : 0 < min sLen dLen → dp = some ⟨g, off, none⟩) (hfit : off + min sLen dLen ≤ cs.length)
    (h : ∀ w', Hid (Blk w' g t (splice cs off (zs.take dLen))) → Hid (Fr (fun i => i = g) w w') → wpList P ops Q rest (a.put o.dst (.int .i64 ((min sLen dLen : Nat) : Int))) w') : wpList P ops Q (o :: rest) a w := by
  subst hl
  obtain ⟨w', hrun, h2, h3⟩ := run_cp (P := P) w dT sT o.type e hu hsz dp sp dLen dCap sCap B g off t cs zs hB hr h1 hpos hfit
  exact wpList_plain hgd fun _ hK => wp_run w d s dT sT ho _ _ _ _ hd hs hrun (hK _ _ (h w' h2 h3))
theorem wpList_cp_str {ops : Array Oper} {rest : List Oper} {o : Oper} {a : Act} {Q : Exit → Act → World → Prop} (hgd : o.guard = none) (d s : Operand) (dT sT : TypeId)
    (ho : o.op = .call { callee := .builtin .copy, args := #[d, s], argTypes := #[dT, sT] }) (e : TypeId) (hu : P.underlying dT = some (.slice e)) (hsz : (P.info? e).map (·.size) = some 1)
    (dp : Option Addr) (dLen dCap : Nat) (ys : List UInt8) (hd : a.eval d = .slice dp dLen dCap) (hs : a.eval s = .string (strOf ys))
    (g off : Nat) (t : TypeId) (cs : List Value) (hB : Blk w g t cs)
    (hpos : 0 < min ys.length dLen → dp = some ⟨g, off, none⟩) (hfit : off + min ys.length dLen ≤ cs.length)
    (h : ∀ w', Hid (Blk w' g t (splice cs off (bv (ys.take dLen)))) → Hid (Fr (fun i => i = g) w w') → wpList P ops Q rest (a.put o.dst (.int .i64 ((min ys.length dLen : Nat) : Int))) w') : wpList P ops Q (o :: rest) a w := by
  obtain ⟨w', hrun, h2, h3⟩ := run_cp_str (P := P) w dT sT o.type e hu hsz dp dLen dCap g off t cs hB ys hpos hfit
  exact wpList_plain hgd fun _ hK => wp_run w d s dT sT ho _ _ _ _ hd hs hrun (hK _ _ (h w' h2 h3))

/-- make([]byte, n): zeros. -/
def zb (n : Nat) : List Value := bv (List.replicate n 0)
theorem zb_length (n : Nat) : (zb n).length = n := by simp [zb, bv_length]
theorem run_mk (T e : TypeId) (i : TypeInfo) (ht : P.underlying T = some (.slice e)) (hi : P.info? e = some i) (hz : i.zero = some (.int .u8 0)) (h1 : i.size = 1) (h2 : i.bytes = 1) (n : Nat) (hn : n ≤ 4000000000) :
    ∀ u : World, (Instr.makeSlice T (.int .i64 (n : Int)) (.int .i64 (n : Int))).run P u = .ok (.slice (some ⟨u.heap.size, 0, none⟩) n n) (u.alloc (.cells (zb n).toArray e)) := by
  intro u
  have h := run_make (P := P) u T e i (.int .u8 0) ht hi hz .i64 .i64 (n : Int) (n : Int) (by omega) (Int.le_refl _) (by rw [h2]; omega) (by omega)
  have e1 : madeCells (Value.int .u8 0).cells (n * i.size) = (zb n).toArray := by
    rw [h1, Nat.mul_one]
    apply Array.ext'
    show (madeCells #[Value.int .u8 0] n).toList = _
    rw [toList_madeCells_one]
    simp [zb, bv]
  simp only [Int.toNat_natCast] at h
  rw [h, e1]
end
end Go.Proofs.YtjjahfhnebicjaaDoor
