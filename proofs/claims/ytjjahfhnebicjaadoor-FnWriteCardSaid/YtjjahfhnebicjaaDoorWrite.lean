/- (*bytes.Buffer).Write on the transport's buffer, (*transport).Write, (*bytes.Buffer).Bytes. -/
import Derived.Test.YtjjahfhnebicjaaDoorBuf
namespace Go.Proofs.YtjjahfhnebicjaaDoor
open Go.ChangeShapes Go.WideShapes Go.ChangeAt Go.RowKit

theorem splice_take {α : Type} (cells xs ys : List α) (l n cap : Nat) (hc : cells.length = cap) (htk : cells.take l = xs) (hy : ys.length = n) (hfit : l + n ≤ cap) : (splice cells l ys).take (l + n) = xs ++ ys := by
  have hxl : (cells.take l).length = l := by rw [List.length_take]; omega
  unfold splice
  rw [htk, ← List.append_assoc, List.take_left']
  rw [List.length_append, ← htk, hxl, hy]
theorem bv_take_one {cells : List Value} {l : Nat} {xs : List UInt8} (h : cells.take l = bv xs) : ∀ v ∈ cells.take l, v.oneCell' = true := by rw [h]; exact bv_one xs

/-- What a write leaves. -/
def Wrote (w : World) (bt : Nat) (rd v : Value) (base : Nat) (xs ys : List UInt8) (e : Ending) (w' : World) : Prop :=
  ∃ v', e = .returned (.tuple #[.int .i64 (ys.length : Int), .nilIface]) ∧ TrB w' bt rd v' 0 ∧ w'.ownsRow base 5 1 v' (xs.length + ys.length) (bv (xs ++ ys)) ∧ Fr (fun k => k = bt ∨ v.ownBlock = some k) w w' ∧ (v'.ownBlock = v.ownBlock ∨ ∃ N, v'.ownBlock = some N ∧ w.heap.size ≤ N)

/-- The last step of a write, outside the walk. -/
theorem wrote_end {w w1 w2 : World} {bt : Nat} {rd v : Value} {base N cap : Nat} {xs ys : List UInt8} {cells : List Value} (hT : TrB w1 bt rd (.slice (some ⟨N, 0, none⟩) (xs.length + ys.length) cap) 0) (hc : cells.length = cap) (htk : cells.take xs.length = bv xs)
    (hfit : xs.length + ys.length ≤ cap) (hm : cap ≤ maxLen) (hb : base ≤ N) (hNb : N ≠ bt) (hB2 : Blk w2 N 5 (splice cells xs.length (bv ys))) (hf2 : Fr (fun i => i = N) w1 w2)
    (hf1 : Fr (fun k => k = bt ∨ v.ownBlock = some k) w w1) (hN : v.ownBlock = some N ∨ w.heap.size ≤ N) :
    Wrote w bt rd v base xs ys (.returned (.tuple #[.int .i64 (ys.length : Int), .nilIface])) w2 := by
  refine ⟨_, rfl, Blk.kept hT hf2 (fun e => hNb e.symm), ?_, ?_, ?_⟩
  · have hl : (splice cells xs.length (bv ys)).length = cap := by rw [length_splice _ _ _ (by rw [bv_length]; omega)]; exact hc
    have h := own_of_blk hB2 hb hfit hl hm
    rw [splice_take cells (bv xs) (bv ys) xs.length ys.length cap hc htk (bv_length ys) hfit, ← bv_append] at h
    exact h
  · refine hf1.then_ hf2 (fun i hi e => ?_)
    subst e
    rcases hN with h | h
    · exact .inr h
    · omega
  · rcases hN with h | h
    · exact .inl h.symm
    · exact .inr ⟨N, rfl, h⟩

section
variable (bt : Nat) (rd v : Value) (base : Nat) (lr : Int) (xs ys : List UInt8) (A : Option Addr) (c B : Nat) (w : World)

set_option maxHeartbeats 4000000 in
set_option maxRecDepth 100000 in
theorem bufWrite_grow (h : TrB w bt rd v lr) (hy : 1 ≤ ys.length) (_ : xs.length + ys.length ≤ 1000000000) (hr : Rd w B A (bv ys)) (hB : B ≤ w.heap.size) (hA : ∀ g o, A = some ⟨g, o, none⟩ → g ≠ bt) (hbase : base ≤ w.heap.size)
    (kt : Calls Tryd.prog 72 #[.pointer (some ⟨bt, 1, none⟩), .int .i64 (ys.length : Int)] (w.setCell ⟨bt, 3, none⟩ (.int .i8 0)) fun e w' => e = .returned (.tuple #[.int .i64 0, .bool false]) ∧ w.setCell ⟨bt, 3, none⟩ (.int .i8 0) = w')
    (kg : Calls Tryd.prog 73 #[.pointer (some ⟨bt, 1, none⟩), .int .i64 (ys.length : Int)] (w.setCell ⟨bt, 3, none⟩ (.int .i8 0)) fun e w' => e = .returned (.int .i64 (xs.length : Int)) ∧ Roomy (w.setCell ⟨bt, 3, none⟩ (.int .i8 0)) bt rd 0 xs.length ys.length (bv xs) w') :
    Calls Tryd.prog 71 #[.pointer (some ⟨bt, 1, none⟩), .slice A ys.length c] w (Wrote w bt rd v base xs ys) := by
  obtain ⟨iu, hiu, hzu, hsu, hbu⟩ := info_parts Tryd.info_u8
  have hsz1 : (Tryd.prog.info? 5).map (·.size) = some 1 := by rw [hiu]; simp [hsu]
  have c3 := h.c3
  have z3 := h.fz 3
  have hlt := h.lt
  have hsz : (w.setCell ⟨bt, 3, none⟩ (.int .i8 0)).heap.size = w.heap.size := by simp [World.setCell]
  have hf0 : Fr (fun k => k = bt ∨ v.ownBlock = some k) w (w.setCell ⟨bt, 3, none⟩ (.int .i8 0)) := (Fr.refl _ w).setCell (fun _ => .inl rfl) _
  have hr0 : Rd (w.setCell ⟨bt, 3, none⟩ (.int .i8 0)) B A (bv ys) := by
    intro hp
    obtain ⟨g, o, rfl, hg, hc⟩ := hr hp
    exact ⟨g, o, rfl, hg, fun j u hu => by rw [World.cell?_setCell_other _ _ _ _ (by intro e; exact hA g o rfl (congrArg Addr.block e).symm)]; exact hc j u hu⟩
  have HT := hide kt
  have HG := hide kg
  have HF := hide hf0
  have HR := hide hr0
  have HA := hide hA
  clear kt kg hf0 hr0 hr hA h
  go_enter Tryd.func71, Tryd.ntmps71
  go_wp2_with fail
  refine HT.out.mono ?_
  rintro e w' ⟨rfl, rfl⟩
  go_wp2_with fail
  refine HG.out.mono ?_
  rintro e w1 ⟨rfl, N, cap, cells, hT1, hN1, hcl, htk, hfit, hm, hN, hfr⟩
  have hNw : w.heap.size ≤ N := by omega
  have c1 := hT1.c1
  have hcut := run_cut_from (P := Tryd.prog) 26 5 iu Tryd.underlying26 hiu hsu (some ⟨N, 0, none⟩) (xs.length + ys.length) cap xs.length (by omega)
  rw [Nat.add_sub_cancel_left] at hcut
  have hrd1 : Rd w1 B A (bv ys) := by
    intro hp
    obtain ⟨g, o, rfl, hg, hc⟩ := HR.out hp
    exact ⟨g, o, rfl, hg, fun j u hu => (hfr.cell (p := ⟨g, o + j, none⟩) (by show g < _; omega) (by show ¬ g = bt; exact HA.out g o rfl)).trans (hc j u hu)⟩
  have hf1 := HF.out.then_ hfr (fun i _ e => .inl e)
  have HAll := hide (And.intro hT1 (And.intro hcl (And.intro htk (And.intro hfit (And.intro hm (And.intro hN hf1))))))
  have HN1 := hide hN1
  have HRd := hide hrd1
  have hfit2 : xs.length + ys.length ≤ cells.length := by omega
  clear hT1 hN1 hcl htk hfit hm hN hf1 hrd1 hfr
  go_wp2_with (with_reducible refine wpList_cp _ rfl (.tmp 29) (.tmp 30) 26 26 rfl 5 Tryd.underlying26 hsz1 (cutA (some ⟨N, 0, none⟩) xs.length cap) A ys.length (cap - xs.length) ys.length c rfl rfl B N xs.length 5 cells (bv ys) (bv_length ys) HN1.out HRd.out (bv_one ys) ?hpos ?hfit ?_)
  case hpos =>
    intro hp
    rw [cutA_some _ _ _ _ (by have := HAll.out.2.1; omega), Nat.zero_add]
  case hfit => omega
  intro w2 hb2 hf2
  go_wp2_with fail
  go_ret2
  have hb2' := hb2.out
  rw [List.take_of_length_le (by rw [bv_length]; exact Nat.le_refl _)] at hb2'
  have h := wrote_end (v := v) (base := base) HAll.out.1 HAll.out.2.1 HAll.out.2.2.1 HAll.out.2.2.2.1 HAll.out.2.2.2.2.1 (by omega) (by omega) hb2' hf2.out HAll.out.2.2.2.2.2.2 (.inr hNw)
  simpa using h

set_option maxHeartbeats 4000000 in
set_option maxRecDepth 100000 in
theorem bufWrite_yes (g l cap : Nat) (cells : List Value) (hl : l = xs.length) (h : TrB w bt rd (.slice (some ⟨g, 0, none⟩) l cap) lr) (hN : Blk w g 5 cells) (hcl : cells.length = cap) (htk : cells.take xs.length = bv xs) (hfit : xs.length + ys.length ≤ cap) (hm : cap ≤ maxLen) (hgb : base ≤ g) (hgt : g ≠ bt)
    (hr : Rd w B A (bv ys)) (hA : ∀ g o, A = some ⟨g, o, none⟩ → g ≠ bt) (hv : v = .slice (some ⟨g, 0, none⟩) l cap) :
    Calls Tryd.prog 71 #[.pointer (some ⟨bt, 1, none⟩), .slice A ys.length c] w (Wrote w bt rd v base xs ys) := by
  subst hl
  obtain ⟨iu, hiu, hzu, hsu, hbu⟩ := info_parts Tryd.info_u8
  have hsz1 : (Tryd.prog.info? 5).map (·.size) = some 1 := by rw [hiu]; simp [hsu]
  have c3 := h.c3
  have z3 := h.fz 3
  have hcm : cap ≤ 9223372036854775807 := hm
  have kt := tryGrow_yes bt rd g xs.length cap ys.length 0 (w.setCell ⟨bt, 3, none⟩ (.int .i8 0)) (h.set3 0) hfit hcm
  have hT1 : TrB ((w.setCell ⟨bt, 3, none⟩ (.int .i8 0)).setCell ⟨bt, 1, none⟩ (.slice (some ⟨g, 0, none⟩) (xs.length + ys.length) cap)) bt rd (.slice (some ⟨g, 0, none⟩) (xs.length + ys.length) cap) 0 := (h.set3 0).set1 _
  have hN1 : Blk ((w.setCell ⟨bt, 3, none⟩ (.int .i8 0)).setCell ⟨bt, 1, none⟩ (.slice (some ⟨g, 0, none⟩) (xs.length + ys.length) cap)) g 5 cells := (hN.far hgt _).far hgt _
  have hf1 : Fr (fun k => k = bt ∨ v.ownBlock = some k) w ((w.setCell ⟨bt, 3, none⟩ (.int .i8 0)).setCell ⟨bt, 1, none⟩ (.slice (some ⟨g, 0, none⟩) (xs.length + ys.length) cap)) := ((Fr.refl _ w).setCell (p := ⟨bt, 3, none⟩) (fun _ => .inl rfl) _).setCell (p := ⟨bt, 1, none⟩) (fun _ => .inl rfl) _
  have hr1 : Rd ((w.setCell ⟨bt, 3, none⟩ (.int .i8 0)).setCell ⟨bt, 1, none⟩ (.slice (some ⟨g, 0, none⟩) (xs.length + ys.length) cap)) B A (bv ys) := by
    intro hp
    obtain ⟨g, o, rfl, hg, hc⟩ := hr hp
    exact ⟨g, o, rfl, hg, fun j u hu => by
      rw [World.cell?_setCell_other _ _ _ _ (by intro e; exact hA g o rfl (congrArg Addr.block e).symm), World.cell?_setCell_other _ _ _ _ (by intro e; exact hA g o rfl (congrArg Addr.block e).symm)]; exact hc j u hu⟩
  have hcut := run_cut_from (P := Tryd.prog) 26 5 iu Tryd.underlying26 hiu hsu (some ⟨g, 0, none⟩) (xs.length + ys.length) cap xs.length (by omega)
  rw [Nat.add_sub_cancel_left] at hcut
  have c1 := hT1.c1
  have hfit2 : xs.length + ys.length ≤ cells.length := by omega
  have HT := hide kt
  have HAll := hide (And.intro hT1 (And.intro hcl (And.intro htk (And.intro hfit (And.intro hm (And.intro hgb (And.intro hgt (And.intro hf1 (And.intro hv hcm)))))))))
  have HN1 := hide hN1
  have HRd := hide hr1
  clear kt hT1 hN1 hf1 hr1 hr hA h hN htk hcl hm hgb hgt hv hcm
  generalize hw1 : (w.setCell ⟨bt, 3, none⟩ (.int .i8 0)).setCell ⟨bt, 1, none⟩ (.slice (some ⟨g, 0, none⟩) (xs.length + ys.length) cap) = w1 at *
  clear hw1
  go_enter Tryd.func71, Tryd.ntmps71
  go_wp2_with fail
  refine HT.out.mono ?_
  rintro e w' ⟨rfl, rfl⟩
  go_wp2_with (with_reducible refine wpList_cp _ rfl (.tmp 29) (.tmp 30) 26 26 rfl 5 Tryd.underlying26 hsz1 (cutA (some ⟨g, 0, none⟩) xs.length cap) A ys.length (cap - xs.length) ys.length c rfl rfl B g xs.length 5 cells (bv ys) (bv_length ys) HN1.out HRd.out (bv_one ys) ?hpos ?hfit ?_)
  case hpos =>
    intro hp
    rw [cutA_some _ _ _ _ (by omega), Nat.zero_add]
  case hfit => omega
  intro w2 hb2 hf2
  go_wp2_with fail
  go_ret2
  have hb2' := hb2.out
  rw [List.take_of_length_le (by rw [bv_length]; exact Nat.le_refl _)] at hb2'
  obtain ⟨q1, q2, q3, q4, q5, q6, q7, q8, q9, _⟩ := HAll.out
  have h := wrote_end (v := v) (base := base) q1 q2 q3 q4 q5 q6 q7 hb2' hf2.out q8 (.inl (by rw [q9]; rfl))
  simpa using h
end

/-- The buffer of the transport holds the bytes xs. -/
def BufAt (w : World) (bt : Nat) (rd : Value) (base : Nat) (v : Value) (xs : List UInt8) : Prop :=
  (∃ lr, TrB w bt rd v lr) ∧ w.ownsRow base 5 1 v xs.length (bv xs) ∧ (xs = [] → v = .slice none 0 0) ∧ bt < base

theorem BufAt.keep {w w' : World} {bt base : Nat} {rd v : Value} {xs : List UInt8} {S : Nat → Prop} (h : BufAt w bt rd base v xs) (hf : Fr S w w') (h1 : ¬ S bt) (h2 : ∀ k, v.ownBlock = some k → ¬ S k) : BufAt w' bt rd base v xs := by
  obtain ⟨⟨lr, hT⟩, hown, hv, hb⟩ := h
  refine ⟨⟨lr, Blk.kept hT hf h1⟩, ?_, hv, hb⟩
  obtain ⟨a1, a2⟩ := hown
  refine ⟨a1, ?_⟩
  rcases a2 with a2 | ⟨g, cap, cur, e, hbb, hh, rest⟩
  · exact .inl a2
  · subst e
    exact .inr ⟨g, cap, cur, rfl, hbb, Blk.kept (cs := cur.toList) (by unfold Blk; simpa using hh) hf (h2 g rfl) |> (fun q => by unfold Blk at q; simpa using q), rest⟩

/-- What a write leaves, told of the buffer. -/
def WroteB (w : World) (bt : Nat) (rd v : Value) (base : Nat) (xs ys : List UInt8) (e : Ending) (w' : World) : Prop :=
  ∃ v', e = .returned (.tuple #[.int .i64 (ys.length : Int), .nilIface]) ∧ BufAt w' bt rd base v' (xs ++ ys) ∧ Fr (fun k => k = bt ∨ v.ownBlock = some k) w w' ∧ (v'.ownBlock = v.ownBlock ∨ ∃ N, v'.ownBlock = some N ∧ w.heap.size ≤ N)

theorem bufWrite (bt : Nat) (rd v : Value) (base : Nat) (xs ys : List UInt8) (A : Option Addr) (c B : Nat) (w : World) (h : BufAt w bt rd base v xs) (hy : 1 ≤ ys.length) (hlim : xs.length + ys.length ≤ 1000000000) (hr : Rd w B A (bv ys)) (hB : B ≤ w.heap.size)
    (hA : ∀ g o, A = some ⟨g, o, none⟩ → g ≠ bt) (hbase : base ≤ w.heap.size) :
    Calls Tryd.prog 71 #[.pointer (some ⟨bt, 1, none⟩), .slice A ys.length c] w (WroteB w bt rd v base xs ys) := by
  obtain ⟨⟨lr, hT⟩, hown, hv, hbt⟩ := h
  have fin : ∀ e w', Wrote w bt rd v base xs ys e w' → WroteB w bt rd v base xs ys e w' := by
    rintro e w' ⟨v', he, h1, h2, h3, h4⟩
    refine ⟨v', he, ⟨⟨0, h1⟩, by rw [List.length_append]; exact h2, fun hx => ?_, hbt⟩, h3, h4⟩
    have := congrArg List.length hx
    rw [List.length_append, List.length_nil] at this
    omega
  have hT3 := hT.set3 0
  cases hx : xs with
  | nil =>
    have hv0 := hv hx
    subst hx hv0
    by_cases h64 : ys.length ≤ 64
    · exact (bufWrite_grow bt rd _ base lr [] ys A c B w hT hy hlim hr hB hA hbase (tryGrow_no bt rd none 0 0 ys.length 0 _ hT3 (Nat.le_refl _) (by omega) (by omega) (by omega)) (grow_small bt rd ys.length 0 _ hT3 hy h64)).mono fin
    · exact (bufWrite_grow bt rd _ base lr [] ys A c B w hT hy hlim hr hB hA hbase (tryGrow_no bt rd none 0 0 ys.length 0 _ hT3 (Nat.le_refl _) (by omega) (by simp at hlim; omega) (by omega)) (grow_nil bt rd ys.length 0 _ hT3 (by omega) (by simp at hlim; omega))).mono fin
  | cons x0 xr =>
    have hl : 1 ≤ xs.length := by rw [hx]; simp
    rw [← hx]
    clear hx
    rcases hown.2 with ⟨_, h0⟩ | ⟨g, cap, cur, rfl, hgb, hg, hlc, hm, hsz, htk⟩
    · omega
    · have hB1 : Blk w g 5 cur.toList := by unfold Blk; simpa using hg
      have hcl : cur.toList.length = cap := by simpa using hsz
      have htk' : cur.toList.take xs.length = bv xs := by simpa using htk
      have hgt : g ≠ bt := by omega
      by_cases hfit : xs.length + ys.length ≤ cap
      · exact (bufWrite_yes bt rd _ base lr xs ys A c B w g xs.length cap cur.toList rfl hT hB1 hcl htk' hfit hm hgb hgt hr hA rfl).mono fin
      · have hB3 : Blk (w.setCell ⟨bt, 3, none⟩ (.int .i8 0)) g 5 cur.toList := hB1.far hgt _
        have kg := grow_row bt rd g xs.length cap ys.length 0 cur.toList _ hT3 hB3 hcl hl hlc hy (by omega) hlim (bv_take_one htk')
        rw [htk'] at kg
        exact (bufWrite_grow bt rd _ base lr xs ys A c B w hT hy hlim hr hB hA hbase (tryGrow_no bt rd _ xs.length cap ys.length 0 _ hT3 hlc (by omega) (by omega) (by omega)) kg).mono fin

set_option maxHeartbeats 4000000 in
theorem trWrite (bt : Nat) (rd v : Value) (base : Nat) (xs ys : List UInt8) (A : Option Addr) (c B : Nat) (w : World) (h : BufAt w bt rd base v xs) (hy : 1 ≤ ys.length) (hlim : xs.length + ys.length ≤ 1000000000) (hr : Rd w B A (bv ys)) (hB : B ≤ w.heap.size)
    (hA : ∀ g o, A = some ⟨g, o, none⟩ → g ≠ bt) (hbase : base ≤ w.heap.size) :
    Calls Tryd.prog 70 #[.pointer (some ⟨bt, 0, none⟩), .slice A ys.length c] w (WroteB w bt rd v base xs ys) := by
  have k := bufWrite bt rd v base xs ys A c B w h hy hlim hr hB hA hbase
  have K := hide k
  clear k h hr hA
  go_enter Tryd.func70, Tryd.ntmps70
  go_wp2_with fail
  refine K.out.mono ?_
  rintro e w' ⟨v', rfl, h2⟩
  have H2 := hide h2
  clear h2
  go_wp2_with fail
  go_ret2
  exact ⟨v', rfl, H2.out⟩

set_option maxHeartbeats 4000000 in
theorem bufBytes (bt : Nat) (rd v : Value) (base : Nat) (xs : List UInt8) (w : World) (h : BufAt w bt rd base v xs) :
    Calls Tryd.prog 25 #[.pointer (some ⟨bt, 1, none⟩)] w fun e w' => e = .returned v ∧ w.drew = w' := by
  obtain ⟨⟨lr, hT⟩, hown, _, _⟩ := h
  obtain ⟨iu, hiu, hzu, hsu, hbu⟩ := info_parts Tryd.info_u8
  obtain ⟨A, c, rfl, hn, hlc, _⟩ := own_shape hown
  have c1 := hT.c1
  have c2 := hT.c2
  have hcut := run_cut_from (P := Tryd.prog) 26 5 iu Tryd.underlying26 hiu hsu A xs.length c 0 (Nat.zero_le _)
  have e0 : cutA A 0 c = A := by
    unfold cutA
    split
    · rfl
    · cases A with
      | none => rfl
      | some a => simp [Addr.add]
  rw [e0, Nat.sub_zero, Nat.sub_zero, show ((0 : Nat) : Int) = 0 from rfl] at hcut
  clear hT hown hn hlc e0
  go_enter Tryd.func25, Tryd.ntmps25
  go_wp2_with fail
  go_region
  go_wp2_with fail
  go_ret
  exact ⟨rfl, rfl⟩
end Go.Proofs.YtjjahfhnebicjaaDoor
