/- The law FnWrite answers true for every input. No condition beyond the errors that the row lists. -/
import Derived.Test.YtjjahfhnebicjaaDoorArgs
import Derived.Deep.DeepWitnessRowRef
namespace Go.Proofs.YtjjahfhnebicjaaDoor.fnWrite
open Go.ChangeShapes Go.WideShapes Go.ChangeAt Go.RowKit
open Go.ChangeMaps (open_string shut_string)

theorem laidVars_mem {P : Program} {w : World} {n : String} {d : DataW Unit} : ∀ {l : List (String × DataW Unit)} {ps : List MemPlace}, DataW.LaidVars P w l ps → (n, d) ∈ l →
    ∃ g t cs fuel p, P.globalNamed n = some g ∧ (P.globals[g]?).map (·.type) = some t ∧ w.var? P n = some cs ∧ DataW.trod (fun _ => ()) P w 0 (fun _ => true) false fuel t cs.toList = some (d, p)
  | [], _, _, h => by cases h
  | (m, d') :: l, ps, ⟨g, t, cs, fuel, p, q, h1, h2, h3, h4, h5, _⟩, h => by
    rcases List.mem_cons.1 h with h | h
    · injection h with ha hb
      subst ha hb
      exact ⟨g, t, cs, fuel, p, h1, h2, h3, h4⟩
    · exact laidVars_mem h5 h

theorem iface_cells {P : Program} {W : World} {t : TypeId} {ms : Array (String × TypeId)} {fuel : Nat} {cs : List Value} {nm : String} {d : DataW Unit} {p : List MemPlace} (ht : P.underlying t = some (.interface ms))
    (h : DataW.trod (fun _ => ()) P W 0 (fun _ => true) false fuel t cs = some (.iface nm d, p)) : ∃ u x, cs = [.iface u x] := by
  cases fuel with
  | zero => simp [DataW.trod] at h
  | succ n =>
    unfold DataW.trod at h
    rw [ht] at h
    split at h <;> simp_all

theorem iface_of_laid {W : World} {l : List (String × DataW Unit)} (h : laidMet Tryd.prog l W) {n nm : String} {d : DataW Unit} (hm : (n, .iface nm d) ∈ l) (g : Nat) (hg : Tryd.prog.globalNamed n = some g) (ht : (Tryd.prog.globals[g]?).map (·.type) = some 59) :
    ∃ u x, W.cell? ⟨g, 0, none⟩ = some (.iface u x) := by
  obtain ⟨ps, hL, _⟩ := h
  obtain ⟨g', t, cs, fuel, p, hg', ht', hv, hd⟩ := laidVars_mem hL hm
  obtain rfl : g' = g := Option.some.inj (hg'.symm.trans hg)
  obtain rfl : t = 59 := Option.some.inj (ht'.symm.trans ht)
  obtain ⟨u, x, hcs⟩ := iface_cells Tryd.underlying59 hd
  refine ⟨u, x, ?_⟩
  rw [World.var?_cell hg' hv 0, ← Array.getElem?_toList, hcs]
  rfl

theorem own : ownKnob Tryd.prog.godebug = none := by kernel_rfl
theorem laidOut : laidOutB Tryd.prog = true := by kernel_rfl

theorem varsFive {H : Type} {enc : TypeId × Value → H} {P : Program} {w : World} {spare : Nat → Bool} {n0 n1 n2 n3 n4 : String} {gs : List (DataW H)} {ps : List MemPlace} (h : DataW.TrodVars enc P w spare [n0, n1, n2, n3, n4] gs ps) : ∃ a b c d e, gs = [a, b, c, d, e] := by
  cases gs with
  | nil => simp [DataW.TrodVars] at h
  | cons a gs =>
    obtain ⟨_, _, _, _, _, _, _, _, _, _, h, _⟩ := h
    cases gs with
    | nil => simp [DataW.TrodVars] at h
    | cons b gs =>
      obtain ⟨_, _, _, _, _, _, _, _, _, _, h, _⟩ := h
      cases gs with
      | nil => simp [DataW.TrodVars] at h
      | cons c gs =>
        obtain ⟨_, _, _, _, _, _, _, _, _, _, h, _⟩ := h
        obtain ⟨_, _, _, _, d, _, _, _, _, _, e, _, rfl, _⟩ := trodVars_two h
        exact ⟨a, b, c, d, e, rfl⟩

set_option maxRecDepth 100000 in
theorem contract (H : Type) (enc : TypeId × Value → H) (W : World) (base : Nat) (args : Array Value) (ds gs : List (DataW H)) (before : List MemPlace)
    (hval : ∀ (j : Nat) t v, Tryd.f3.params[j]? = some t → args[j]? = some v → Value.okWide Tryd.prog W .any base t v)
    (hW : DataW.Whole enc Tryd.prog Tryd.f3.params.toList Rows.fnWriteSpec.vars false W args.toList ds gs before) (hB : 7 ≤ W.heap.size) (u3 u5 : TypeId) (x3 x5 : Value)
    (hg3 : W.cell? ⟨3, 0, none⟩ = some (.iface u3 x3)) (hg5 : W.cell? ⟨5, 0, none⟩ = some (.iface u5 x5)) :
    Calls Tryd.prog 3 args W fun e W' => ∃ v, e = .returned v ∧ Rows.fnWriteSpec.post enc Tryd.prog Tryd.f3 false true false false W args v W' := by
  have hW' := hW
  obtain ⟨p, q, hA0, hV, rfl, hfz, hnd⟩ := hW
  have hA : DataW.TrodAll enc Tryd.prog W 0 (fun _ => true) true Tryd.f3.params.toList args.toList ds p := hA0
  rw [Tryd.params3] at hA hval
  obtain ⟨v0, vs0, d0, ds0, p0, q0, hargs, rfl, rfl, h0, r0⟩ := trodAll_cons hA
  obtain ⟨v1, vs1, d1, ds1, p1, q1, rfl, rfl, rfl, h1, r1⟩ := trodAll_cons r0
  obtain ⟨v2, vs2, d2, ds2, p2, q2, rfl, rfl, rfl, h2, r2⟩ := trodAll_cons r1
  obtain ⟨v3, vs3, d3, ds3, p3, q3, rfl, rfl, rfl, h3, r3⟩ := trodAll_cons r2
  obtain ⟨rfl, rfl, rfl⟩ := trodAll_nil r3
  obtain rfl : args = #[v0, v1, v2, v3] := by cases args; simp_all
  obtain ⟨_, _, _, _, _, rfl⟩ := varsFive hV
  obtain ⟨b, rfl, _⟩ := open_bool Tryd.underlying4 (hval 0 4 v0 rfl rfl) h0
  obtain ⟨n, rfl, _⟩ := open_int Tryd.underlying3 (hval 1 3 v1 rfl rfl) h1
  obtain ⟨KA, kc, keys, rfl, hkr⟩ := open_keys Tryd.underlying22 Tryd.underlying42 Tryd.underlying5 (by kernel_rfl) (by kernel_rfl) (hval 2 22 v2 rfl rfl) h2
  obtain ⟨AL, ac, rs, rfl, hrs⟩ := open_msgs Tryd.underlying23 Tryd.underlying35 (by kernel_rfl) (by kernel_rfl) (by kernel_rfl) (by kernel_rfl) (by kernel_rfl) Tryd.underlying3 Tryd.underlying26 Tryd.underlying5 Tryd.underlying9 (by kernel_rfl) (by kernel_rfl) (by kernel_rfl) (by kernel_rfl) (hval 3 23 v3 rfl rfl) h3
  refine (lawWalk b n keys KA kc rs AL ac W u3 u5 x3 x5 hB hkr hrs hg3 hg5).mono fun e W' ⟨he, hb⟩ => ?_
  exact ⟨_, he, law_post laidOut (by kernel_rfl) (by kernel_rfl) rfl Tryd.underlying4 hW' rfl hb⟩

/-- The text of a laid error, as the one cell of its block. -/
def oneText : DataW Unit → Array Value
  | .iface _ (.ptr (.agg [.lit l])) => #[l.value]
  | _ => #[]
/-- A world for the witness: the settled one with five blocks more, the five errors. -/
noncomputable def laidWorld (os : Os) : World :=
  let N := (World.settled Tryd.prog os).heap.size
  let w0 := World.holding Tryd.prog os ⟨#[.cells (oneText (Rows.laid_loop_example_pub_g03069_impl_errCode : DataW Unit)) 112, .cells (oneText (Rows.laid_loop_example_pub_g03069_pub_ws_errBadWriteOpCode : DataW Unit)) 112, .cells (oneText (Rows.laid_loop_example_pub_g03069_pub_ws_errInvalidControlFrame : DataW Unit)) 112, .cells (oneText (Rows.laid_loop_example_pub_g03069_pub_ws_ErrCloseSent : DataW Unit)) 112, .cells (oneText (Rows.laid_loop_example_pub_g03069_pub_ws_errWriteClosed : DataW Unit)) 112], #[], []⟩
  let put (h : Array Obj) (g : Nat) (cs : Array Value) : Array Obj := h.modify g fun
    | .cells _ t frozen => .cells cs t frozen
    | o => o
  let h0 := w0.heap
  let h1 := put h0 0 #[.iface 110 (.pointer (some ⟨N + 0, 0, none⟩))]
  let h2 := put h1 1 #[.iface 110 (.pointer (some ⟨N + 1, 0, none⟩))]
  let h3 := put h2 2 #[.iface 110 (.pointer (some ⟨N + 2, 0, none⟩))]
  let h4 := put h3 3 #[.iface 110 (.pointer (some ⟨N + 3, 0, none⟩))]
  let h5 := put h4 5 #[.iface 110 (.pointer (some ⟨N + 4, 0, none⟩))]
  { w0 with heap := h5 }
theorem laid_met (os : Os) : laidMet Tryd.prog Rows.fnWriteRow.laid ((laidWorld os).forCall (fun _ _ => 0) ⟨#[], #[.bool false, .int .i64 0, .slice none 0 0, .slice none 0 0], []⟩).memory :=
  laidMet_of_run' 8 (by kernel_rfl) (by kernel_rfl)
theorem reads (os : Os) {H : Type} (enc : TypeId × Value → H) : ∃ places, DataW.whole enc Tryd.prog ((laidWorld os).forCall (fun _ _ => 0) ⟨#[], #[.bool false, .int .i64 0, .slice none 0 0, .slice none 0 0], []⟩).memory Tryd.f3.params.toList Rows.fnWriteSpec.vars false #[Value.bool false, Value.int .i64 0, Value.slice none 0 0, Value.slice none 0 0].toList 8 = some ([.lit (.bool false), .lit (.int .i64 0), .nil, .nil], [.held (enc (110, .pointer (some ⟨(World.settled Tryd.prog os).heap.size + 1, 0, none⟩))), .held (enc (110, .pointer (some ⟨(World.settled Tryd.prog os).heap.size + 2, 0, none⟩))), .held (enc (110, .pointer (some ⟨(World.settled Tryd.prog os).heap.size + 3, 0, none⟩))), .held (enc (110, .pointer (some ⟨(World.settled Tryd.prog os).heap.size + 0, 0, none⟩))), .held (enc (110, .pointer (some ⟨(World.settled Tryd.prog os).heap.size + 4, 0, none⟩)))], places) := by
  have hw : (DataW.whole enc Tryd.prog ((laidWorld os).forCall (fun _ _ => 0) ⟨#[], #[.bool false, .int .i64 0, .slice none 0 0, .slice none 0 0], []⟩).memory Tryd.f3.params.toList Rows.fnWriteSpec.vars false #[Value.bool false, Value.int .i64 0, Value.slice none 0 0, Value.slice none 0 0].toList 8).map (fun x => (x.1, x.2.1)) = some ([.lit (.bool false), .lit (.int .i64 0), .nil, .nil], [.held (enc (110, .pointer (some ⟨(World.settled Tryd.prog os).heap.size + 1, 0, none⟩))), .held (enc (110, .pointer (some ⟨(World.settled Tryd.prog os).heap.size + 2, 0, none⟩))), .held (enc (110, .pointer (some ⟨(World.settled Tryd.prog os).heap.size + 3, 0, none⟩))), .held (enc (110, .pointer (some ⟨(World.settled Tryd.prog os).heap.size + 0, 0, none⟩))), .held (enc (110, .pointer (some ⟨(World.settled Tryd.prog os).heap.size + 4, 0, none⟩)))]) := by kernel_rfl
  obtain ⟨⟨x1, x2, x3⟩, hx, hx1⟩ := Option.map_eq_some_iff.1 hw
  simp only [Prod.mk.injEq] at hx1
  obtain ⟨rfl, rfl⟩ := hx1
  exact ⟨x3, hx⟩

theorem size_of_shaped {W : World} (h : W.ShapedOpen Tryd.prog) : 7 ≤ W.heap.size := by
  have h6 : 6 < Tryd.prog.globals.size := of_decide_eq_true (by kernel_rfl)
  have hr : (((begin Tryd.prog (fun _ _ => 0) default).world.heap[6]?).bind Obj.row?).isSome = true := by kernel_rfl
  obtain ⟨⟨z, t⟩, hz⟩ := Option.isSome_iff_exists.1 hr
  obtain ⟨cs, hc, _⟩ := h.1 6 z t h6 hz
  obtain ⟨hlt, _⟩ := Array.getElem?_eq_some_iff.1 hc
  omega

set_option maxRecDepth 100000 in
theorem lifted (os : Os) (started : os.Started) (H : Type) (enc : TypeId × Value → H) (F : Stop.Interp) :
    ReturnsInHanded {} Tryd.checked os 3 .any ((OpenSpec.ofChange Rows.fnWriteSpec).preRow enc Tryd.prog Tryd.f3 Rows.fnWriteRow.domain false Rows.fnWriteRow.laid) (((OpenSpec.ofChange Rows.fnWriteSpec).at F).post enc Tryd.prog Tryd.f3 false true false false) := by
  obtain ⟨places, hx⟩ := reads os enc
  refine returnsInHanded_of_row (C := Tryd.checked) (s := OpenSpec.ofChange Rows.fnWriteSpec) own started (by kernel_rfl) Tryd.func3
    (witness_row_atRef (enc := enc) (C := Tryd.checked) false (laidWorld os) #[.bool false, .int .i64 0, .slice none 0 0, .slice none 0 0] rfl (by kernel_rfl) (by kernel_rfl) (by kernel_rfl)
      (OpenSpec.preRow_of_cond 8 hx (by kernel_rfl) (fun k hk => by cases hk) (by kernel_rfl) (laid_met os))) ?_
  intro W base args ds gs before hval hW _ _ _ hL hS _
  obtain ⟨u3, x3, h3⟩ := iface_of_laid (l := Rows.fnWriteRow.laid) hL (.head _) 3 (by kernel_rfl) (by kernel_rfl)
  obtain ⟨u5, x5, h5⟩ := iface_of_laid (l := Rows.fnWriteRow.laid) hL (.tail _ (.tail _ (.head _))) 5 (by kernel_rfl) (by kernel_rfl)
  exact contract H enc W base args ds gs before hval hW (size_of_shaped hS) u3 u5 x3 x5 h3 h5

theorem said : Rows.FnWriteSaid :=
  OpenClaim.holds_of_cond 3 Tryd.f3 rfl rfl rfl rfl rfl rfl rfl ⟨rfl, rfl, rfl, rfl, rfl⟩ rfl rfl rfl rfl rfl (by kernel_rfl) Tryd.func3 (by kernel_rfl)
    (of_decide_eq_true (by kernel_rfl)) (by unfold Func.isWrapper; first | (rw [if_pos (by decide +kernel)]; kernel_rfl) | (rw [if_neg (by decide +kernel)]; exact ⟨rfl, rfl⟩))
    (fun os started H enc _ F => by rw [OpenClaim.pre_eq_preRow]; exact lifted os started H enc F)

theorem plain (f : FuncId) (fn : Func) (hf : Tryd.pinned.checked.prog.funcNamed "loop.example/pub-g03069/laws.FnWrite" = some f) (hfn : Tryd.pinned.checked.prog.funcs[f]? = some fn) :
    true = Tryd.pinned.checked.prog.looks [] ∧ ∀ (j : Nat) t, fn.params[j]? = some t → Tryd.pinned.checked.prog.wantsStandIn t = false := by
  obtain rfl : f = 3 := Option.some.inj ((show Tryd.prog.funcNamed "loop.example/pub-g03069/laws.FnWrite" = some 3 by kernel_rfl).symm.trans hf) |>.symm
  obtain rfl : fn = Tryd.f3 := (Option.some.inj (Tryd.func3.symm.trans hfn)).symm
  refine ⟨by kernel_rfl, fun j t ht => ?_⟩
  have hall : Tryd.f3.params.all (fun t => !Tryd.prog.wantsStandIn t) = true := by kernel_rfl
  have := Array.all_eq_true.1 hall
  obtain ⟨hj, rfl⟩ := Array.getElem?_eq_some_iff.1 ht
  have h2 := this j hj
  simp only [Bool.not_eq_true'] at h2
  exact h2

theorem card : Rows.FnWriteCardSaid :=
  Claim7.holds_tied_plain_at .later [] _ _ _ _ said (fun _ h => by cases h) (by kernel_rfl) (fun _ h => by cases h) fnWrite_row_tie rfl ⟨rfl, rfl⟩ (by kernel_rfl) rfl plain (by kernel_rfl)
end Go.Proofs.YtjjahfhnebicjaaDoor.fnWrite
namespace Go.Proofs.YtjjahfhnebicjaaDoor
theorem fnWrite_card : Rows.FnWriteCardSaid := fnWrite.card
#print axioms fnWrite_card
end Go.Proofs.YtjjahfhnebicjaaDoor
