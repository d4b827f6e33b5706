/- The connection's memory; the closure that gives the keys; small tests. -/
import Derived.Test.YtjjahfhnebicjaaDoorWrite
import Derived.Test.YtjjahfhnebicjaaDoorMaskw
namespace Go.Proofs.YtjjahfhnebicjaaDoor
open Go.ChangeShapes Go.WideShapes Go.ChangeAt Go.RowKit

def isDataN (t : Int) : Bool := decide (t = 1) || decide (t = 2)
def isControlN (t : Int) : Bool := decide (t = 8) || decide (t = 9) || decide (t = 10)

/-- A key as bytes: its cells. -/
theorem key_cells (k : List UInt8) (h : k.length = 4) : ∃ k0 k1 k2 k3, k = [k0, k1, k2, k3] := by
  match k, h with
  | [a, b, c, d], _ => exact ⟨a, b, c, d, rfl⟩
def keyVal (k : List UInt8) : Value := .agg #[.int .u8 ((k.getD 0 0).toNat : Int), .int .u8 ((k.getD 1 0).toNat : Int), .int .u8 ((k.getD 2 0).toNat : Int), .int .u8 ((k.getD 3 0).toNat : Int)]
/-- The keys, one behind the other, in one row. -/
def KeysRd (w : World) (A : Option Addr) (B : Nat) (keys : List (List UInt8)) : Prop :=
  0 < keys.length → ∃ g o, A = some ⟨g, o, none⟩ ∧ g < B ∧ ∀ (j : Nat) (h : j < keys.length), (keys[j]).length = 4 ∧ ∀ q, q < 4 → w.cell? ⟨g, o + j * 4 + q, none⟩ = some (.int .u8 (((keys[j]).getD q 0).toNat : Int))

set_option maxHeartbeats 4000000 in
set_option maxRecDepth 100000 in
theorem masksCl (bk bi : Nat) (A : Option Addr) (c B : Nat) (keys : List (List UInt8)) (i : Nat) (w : World) (hn : 0 < keys.length) (hn2 : keys.length ≤ 100) (hi : i ≤ 1000000) (hk : Blk w bk 22 [.slice A keys.length c]) (hci : Blk w bi 3 [.int .i64 (i : Int)]) (hr : KeysRd w A B keys) (hbk : bk ≠ bi) (hB : B ≤ bi) :
    Calls Tryd.prog 29 #[.pointer (some ⟨bk, 0, none⟩), .pointer (some ⟨bi, 0, none⟩)] w fun e w' =>
      e = .returned (keyVal (keys.getD (i % keys.length) [])) ∧ Blk w' bi 3 [.int .i64 ((i + 1 : Nat) : Int)] ∧ Fr (fun k => k = bi) w w' := by
  obtain ⟨g, o, rfl, hg, hcell⟩ := hr hn
  have hj : i % keys.length < keys.length := Nat.mod_lt _ hn
  obtain ⟨h4, hq⟩ := hcell (i % keys.length) hj
  have ck := fun o => (hk.alloc o).cell 0
  have ci := fun o => (hci.alloc o).cell 0
  have zi := fun o => (hci.alloc o).frozen 0
  have hn0 : ((keys.length : Int) == 0) = false := beq_eq_false_iff_ne.2 (by omega)
  have hmod : Int.tmod (i : Int) (keys.length : Int) = ((i % keys.length : Nat) : Int) := (Int.ofNat_tmod i keys.length).symm
  have hbis := hci.lt
  have HK := hide hk
  have HCI := hide hci
  have HQ := hide hq
  clear hk hci hr hcell hq
  go_enter Tryd.func29, Tryd.ntmps29
  go_wp2_with fail
  have b1 := HK.out.far (p := ⟨bi, 0, none⟩) hbk (.int .i64 ((i : Int) + 1))
  have b2 := HCI.out.set 0 (.int .i64 ((i : Int) + 1))
  have b3 : Fr (fun k => k = bi) w (w.setCell ⟨bi, 0, none⟩ (.int .i64 ((i : Int) + 1))) := (Fr.refl (fun k => k = bi) w).setCell (p := ⟨bi, 0, none⟩) (fun _ => rfl) _
  have f1 := fun o => (b1.alloc o).cell 0
  have f2 := fun o => (b2.alloc o).cell 0
  have a5 : ∀ ob q, q < 4 → ((w.setCell ⟨bi, 0, none⟩ (.int .i64 ((i : Int) + 1))).alloc ob).cell? ⟨g, o + i % keys.length * 4 + q, none⟩ = some (.int .u8 (((keys[i % keys.length]).getD q 0).toNat : Int)) := by
    intro ob q hq4
    rw [(b3.alloc ob).cell (by show g < _; omega) (by show ¬ g = bi; omega)]
    exact HQ.out q hq4
  have q0 : ∀ ob, ((w.setCell ⟨bi, 0, none⟩ (.int .i64 ((i : Int) + 1))).alloc ob).cell? ⟨g, o + i % keys.length * 4, none⟩ = some (.int .u8 (((keys[i % keys.length]).getD 0 0).toNat : Int)) := fun ob => a5 ob 0 (by omega)
  have q1 := fun ob => a5 ob 1 (by omega)
  have q2 := fun ob => a5 ob 2 (by omega)
  have q3 := fun ob => a5 ob 3 (by omega)
  have HB2 := hide b2
  have HB3 := hide b3
  clear b1 b2 b3 a5 ck ci zi
  go_region
  go_wp2_with fail
  have hkey : keys.getD (i % keys.length) [] = keys[i % keys.length] := by simp [List.getD, hj]
  rw [hkey]
  (try simp only [Exit.inBlock, Exit.then])
  refine bodyPost_ret (v := keyVal keys[i % keys.length]) ?_ rfl ?_
  · simp [results, go_sem]
    simp [keyVal, List.getD, h4]
  · refine ⟨rfl, ?_, ?_⟩
    · exact (HB2.out.alloc _).drew
    · exact (HB3.out.alloc _).drew

theorem wsIsControl (t : Int) (w : World) : Calls Tryd.prog 37 #[.int .i64 t] w fun e w' => e = .returned (.bool (isControlN t)) ∧ w = w' := by
  unfold isControlN
  by_cases h8 : t = 8
  · subst h8
    go_enter Tryd.func37, Tryd.ntmps37
    go_wp2_with fail
    go_ret
    exact ⟨rfl, rfl⟩
  by_cases h9 : t = 9
  · subst h9
    clear h8
    go_enter Tryd.func37, Tryd.ntmps37
    go_wp2_with fail
    go_ret
    exact ⟨rfl, rfl⟩
  by_cases h10 : t = 10
  · subst h10
    clear h8 h9
    go_enter Tryd.func37, Tryd.ntmps37
    go_wp2_with fail
    go_ret
    exact ⟨rfl, rfl⟩
  have e8 : (t == 8) = false := beq_eq_false_iff_ne.2 h8
  have e9 : (t == 9) = false := beq_eq_false_iff_ne.2 h9
  have e10 : (t == 10) = false := beq_eq_false_iff_ne.2 h10
  rw [decide_eq_false h8, decide_eq_false h9, decide_eq_false h10]
  clear h8 h9 h10
  go_enter Tryd.func37, Tryd.ntmps37
  go_wp2_with fail
  go_ret
  exact ⟨rfl, rfl⟩
theorem wsIsData (t : Int) (w : World) : Calls Tryd.prog 48 #[.int .i64 t] w fun e w' => e = .returned (.bool (isDataN t)) ∧ w = w' := by
  unfold isDataN
  by_cases h1 : t = 1
  · subst h1
    go_enter Tryd.func48, Tryd.ntmps48
    go_wp2_with fail
    go_ret
    exact ⟨rfl, rfl⟩
  by_cases h2 : t = 2
  · subst h2
    clear h1
    go_enter Tryd.func48, Tryd.ntmps48
    go_wp2_with fail
    go_ret
    exact ⟨rfl, rfl⟩
  have e1 : (t == 1) = false := beq_eq_false_iff_ne.2 h1
  have e2 : (t == 2) = false := beq_eq_false_iff_ne.2 h2
  rw [decide_eq_false h1, decide_eq_false h2]
  clear h1 h2
  go_enter Tryd.func48, Tryd.ntmps48
  go_wp2_with fail
  go_ret
  exact ⟨rfl, rfl⟩

/-- The connection's cells. -/
structure Env where
  srv : Bool
  bc : Nat
  bt : Nat
  bw : Nat
  bk : Nat
  bi : Nat
  M : Nat
  base : Nat
  B : Nat
  W0 : Nat
  rd : Value
  sub : Value
  A : Option Addr
  c : Nat
  keys : List (List UInt8)
  T : List Value
def Env.mask (E : Env) : Value := .func (.func 29) #[] #[.pointer (some ⟨E.bk, 0, none⟩), .pointer (some ⟨E.bi, 0, none⟩)]
def Env.cells (E : Env) (wr : Value) (iw : Bool) (er : Value) : List Value :=
  [.iface 45 (.pointer (some ⟨E.bt, 0, none⟩)), .bool E.srv, E.sub, .slice (some ⟨E.bw, 0, none⟩) E.M E.M, .int .i64 (E.M : Int), wr, .bool iw, er, E.mask] ++ E.T
/-- What does not change with the messages. -/
structure Env.Ok (E : Env) : Prop where
  tc : E.bt ≠ E.bc
  tw : E.bt ≠ E.bw
  cw : E.bc ≠ E.bw
  kt : E.bk ≠ E.bt
  kc : E.bk ≠ E.bc
  kw : E.bk ≠ E.bw
  ki : E.bk ≠ E.bi
  it : E.bi ≠ E.bt
  ic : E.bi ≠ E.bc
  iw : E.bi ≠ E.bw
  bt : E.bt < E.base
  bc : E.bc < E.base
  bw : E.bw < E.base
  bk : E.bk < E.base
  bi : E.bi < E.base
  t0 : E.W0 ≤ E.bt
  c0 : E.W0 ≤ E.bc
  w0 : E.W0 ≤ E.bw
  k0 : E.W0 ≤ E.bk
  i0 : E.W0 ≤ E.bi
  b0 : E.B ≤ E.W0
  one : 7 ≤ E.W0
  m : 15 ≤ E.M
  m2 : E.M ≤ 100000
  ks : E.keys.length ≤ 100
  kl : E.srv = false → 0 < E.keys.length
/-- The connection between two messages: what was written, how many keys were used. -/
structure St (E : Env) (w : World) (wr : Value) (iw : Bool) (er v : Value) (xs : List UInt8) (i : Nat) : Prop where
  conn : Blk w E.bc 81 (E.cells wr iw er)
  wbuf : ∃ cs, Blk w E.bw 5 cs ∧ cs.length = E.M
  buf : BufAt w E.bt E.rd E.base v xs
  kbox : Blk w E.bk 22 [.slice E.A E.keys.length E.c]
  kidx : Blk w E.bi 3 [.int .i64 (i : Int)]
  keys : KeysRd w E.A E.B E.keys
  size : E.base ≤ w.heap.size
end Go.Proofs.YtjjahfhnebicjaaDoor
