/- writes; from the messages that are handed in to those of the program. -/
import Derived.Test.YtjjahfhnebicjaaDoorLaw
import Derived.Lib.SlBytesConst
namespace Go.Proofs.YtjjahfhnebicjaaDoor
open Go.ChangeShapes Go.WideShapes Go.ChangeAt Go.RowKit

def toMsg (r : RawM) : Msg := ⟨r.ty.toNat, r.data, r.code.toNat, r.text⟩
theorem goodM_parts {r : RawM} {last : Prop} (h : GoodM r last) : 0 ≤ r.ty ∧ 0 ≤ r.code ∧ MsgOk (toMsg r) ∧ (toMsg r).size ≤ 4200 ∧ (toMsg r).pay.length ≤ 4096 ∧ (r.ty = 8 → last) ∧ r.ty ≤ 10 := by
  obtain ⟨pl, hpre, hpl, hk⟩ := h
  rcases hpre with ⟨h8, hd, hlast, hc0, hc1, hpe, h5⟩ | ⟨h8, hc, ht, hpe⟩
  · have hty : (toMsg r).ty = 8 := by show r.ty.toNat = 8; omega
    have hpay : (toMsg r).pay = closeL r.code.toNat r.text := if_pos hty
    have htl : r.text.length ≤ pl := by
      rw [hpe]
      unfold closeL
      split
      · rename_i h; rw [h5 (by omega)]; simp
      · rw [List.length_append]; omega
    have h125 : pl ≤ 125 := by omega
    refine ⟨by omega, hc0, .inr (.inr ⟨hty, ?_, ?_, ?_, ?_⟩), ?_, ?_, fun _ => hlast, by omega⟩
    · show r.data.length ≤ 4096; omega
    · show r.code.toNat < 65536; omega
    · show r.text.length ≤ 100000; omega
    · show (closeL r.code.toNat r.text).length ≤ 125; omega
    · show r.data.length + r.text.length ≤ 4200; omega
    · rw [hpay]; omega
  · have hpos : 0 ≤ r.ty := by omega
    have hne : ¬ (toMsg r).ty = 8 := by show ¬ r.ty.toNat = 8; omega
    have hpay : (toMsg r).pay = r.data := if_neg hne
    have hts : r.text.length = 0 := by rw [ht]; rfl
    refine ⟨hpos, by omega, ?_, ?_, ?_, fun e => absurd e h8, by omega⟩
    · rcases hk with hk | ⟨k1, k2, k3⟩
      · exact .inl ⟨by show r.ty.toNat = 1 ∨ r.ty.toNat = 2; omega, by show r.data.length ≤ 4096; omega⟩
      · exact .inr (.inl ⟨by show r.ty.toNat = 9 ∨ r.ty.toNat = 10; omega, by show r.data.length ≤ 125; omega⟩)
    · show r.data.length + r.text.length ≤ 4200; omega
    · rw [hpay]; omega
theorem msgsOf {w : World} {B : Nat} {AL : Option Addr} {rs : List RawM} (h : RawsAt w B AL rs) (hg : GoodMs rs) : MsgsAt w B AL (rs.map toMsg) := by
  intro hp
  rw [List.length_map] at hp
  obtain ⟨g, o, e, hgB, hc⟩ := h hp
  refine ⟨g, o, e, hgB, fun j hj => ?_⟩
  rw [List.length_map] at hj
  obtain ⟨h1, h2, _⟩ := goodM_parts (hg.2 j hj)
  obtain ⟨A, c, d0, d1, d2, d3, hr, hn⟩ := hc j hj
  rw [List.getElem_map]
  refine ⟨A, c, ?_, d1, ?_, d3, hr, hn⟩
  · rw [d0]; show some (Value.int .i64 rs[j].ty) = some (.int .i64 ((rs[j].ty.toNat : Nat) : Int)); congr 2; omega
  · rw [d2]; show some (Value.int .i64 rs[j].code) = some (.int .i64 ((rs[j].code.toNat : Nat) : Int)); congr 2; omega
theorem sizes_bound : ∀ (ms : List Msg) (D : Nat), (∀ m ∈ ms, m.size ≤ D) → sizes ms ≤ ms.length * D
  | [], D, _ => by simp [sizes]
  | m :: ms, D, h => by
    have h1 := sizes_bound ms D (fun x hx => h x (List.mem_cons_of_mem _ hx))
    have h2 := h m (List.mem_cons_self ..)
    have e : sizes (m :: ms) = m.size + sizes ms := rfl
    rw [e, List.length_cons, Nat.succ_mul]
    omega
theorem cutL_facts (S t : Nat) (ds : List UInt8) : (cutL S t ds).length ≤ ds.length + 1 ∧ ∀ f ∈ cutL S t ds, f.data.length ≤ ds.length ∧ f.op ≤ t := by
  generalize hn : ds.length = n
  induction n using Nat.strongRecOn generalizing t ds with
  | _ n ih =>
    by_cases h : ds.length ≤ S ∨ S = 0
    · rw [cutL, if_pos h]
      refine ⟨by simp, fun f hf => ?_⟩
      rw [List.mem_singleton.1 hf]
      exact ⟨by show ds.length ≤ n; omega, Nat.le_refl _⟩
    · rw [cutL, if_neg h]
      have hd : (ds.drop S).length = ds.length - S := List.length_drop
      obtain ⟨h1, h2⟩ := ih (ds.length - S) (by omega) 0 (ds.drop S) hd
      refine ⟨by rw [List.length_cons]; omega, fun f hf => ?_⟩
      rcases List.mem_cons.1 hf with rfl | hf
      · exact ⟨by show (ds.take S).length ≤ n; rw [List.length_take]; omega, Nat.le_refl _⟩
      · obtain ⟨h3, h4⟩ := h2 f hf
        exact ⟨by omega, by omega⟩
theorem msgFms_facts (srv : Bool) (S : Nat) (m : Msg) : (msgFms srv S m).length ≤ m.pay.length + 1 ∧ ∀ f ∈ msgFms srv S m, f.data.length ≤ m.pay.length ∧ f.op ≤ m.ty := by
  unfold msgFms
  split
  · exact cutL_facts S m.ty m.pay
  · refine ⟨by simp, fun f hf => ?_⟩
    rw [List.mem_singleton.1 hf]
    exact ⟨Nat.le_refl _, Nat.le_refl _⟩
theorem frs_facts (srv : Bool) (S D T : Nat) : ∀ (ms : List Msg), (∀ m ∈ ms, m.pay.length ≤ D ∧ m.ty ≤ T) → (frs srv S ms).length ≤ ms.length * (D + 1) ∧ ∀ f ∈ frs srv S ms, f.data.length ≤ D ∧ f.op ≤ T
  | [], _ => ⟨by simp [frs], fun f hf => by cases hf⟩
  | m :: ms, h => by
    obtain ⟨h1, h2⟩ := frs_facts srv S D T ms (fun x hx => h x (List.mem_cons_of_mem _ hx))
    obtain ⟨h3, h4⟩ := h m (List.mem_cons_self ..)
    obtain ⟨h5, h6⟩ := msgFms_facts srv S m
    have e : frs srv S (m :: ms) = msgFms srv S m ++ frs srv S ms := rfl
    rw [e, List.length_append, List.length_cons, Nat.succ_mul]
    refine ⟨by omega, fun f hf => ?_⟩
    rcases List.mem_append.1 hf with hf | hf
    · obtain ⟨h7, h8⟩ := h6 f hf
      exact ⟨by omega, by omega⟩
    · exact h2 f hf
theorem fmsOut_bound (srv : Bool) (keys : List (List UInt8)) (D : Nat) (hk : ∀ i, (keyOf keys i).length ≤ 4) : ∀ (fs : List Fm) (i : Nat), (∀ f ∈ fs, f.data.length ≤ D) → (fmsOut srv keys i fs).length ≤ fs.length * (D + 8)
  | [], _, _ => by simp [fmsOut]
  | f :: fs, i, h => by
    have h1 := fmsOut_bound srv keys D hk fs (i + 1) (fun x hx => h x (List.mem_cons_of_mem _ hx))
    have h2 := h f (List.mem_cons_self ..)
    have h3 := hk i
    have h4 : (hdrL srv f.last f.op f.data.length).length ≤ 4 := by rw [hdrL_length]; split <;> omega
    have h5 : (if srv = true then f.data else keyOf keys i ++ maskL (keyOf keys i) 0 f.data).length ≤ 4 + D := by
      split
      · omega
      · rw [List.length_append, maskL_length]; omega
    simp only [fmsOut, List.length_append, List.length_cons, frameL, Nat.succ_mul]
    omega

set_option maxHeartbeats 1000000 in
set_option maxRecDepth 10000 in
theorem writesYes (w : World) (u3 u5 : TypeId) (x3 x5 : Value) (hB : 7 ≤ w.heap.size) (hg3 : w.cell? ⟨3, 0, none⟩ = some (.iface u3 x3)) (hg5 : w.cell? ⟨5, 0, none⟩ = some (.iface u5 x5)) :
    Calls Tryd.prog 10 #[] w fun e w' => e = .returned (.bool true) ∧ Below w.heap.size w w' := by
  have hb1 : ∀ o1 o2, Below w.heap.size w ((w.alloc o1).alloc o2) := fun o1 o2 => ((Below.refl _ _).alloc (Nat.le_refl _) _).alloc (by simp) _
  have hX : fmsOut true [] 0 (frs true 100 [⟨1, [97], 0, []⟩]) = [129, 1, 97] := by decide +kernel
  have hms : MsgsAt ((w.alloc (.cells #[.int .u8 97] 5 (1, 2))).alloc (.cells #[.int .i64 1, .slice (some ⟨w.heap.size, 0, none⟩) 1 1, .int .i64 0, .string { data := #[] }] 35)) ((w.alloc (.cells #[.int .u8 97] 5 (1, 2))).alloc (.cells #[.int .i64 1, .slice (some ⟨w.heap.size, 0, none⟩) 1 1, .int .i64 0, .string { data := #[] }] 35)).heap.size (some ⟨w.heap.size + 1, 0, none⟩) [⟨1, [97], 0, []⟩] := by
    intro _
    have h1 : ∀ o, ((w.alloc (.cells #[.int .u8 97] 5 (1, 2))).alloc o).cell? ⟨w.heap.size, 0, none⟩ = some (.int .u8 97) := fun o => Lib.cell?_alloc_marked o (by
      have hn := heap_alloc_new w (.cells #[.int .u8 97] 5 (1, 2))
      unfold World.cell?
      rw [hn]
      rfl)
    have h2 := Blk.new (w.alloc (.cells #[.int .u8 97] 5 (1, 2))) 35 [.int .i64 1, .slice (some ⟨w.heap.size, 0, none⟩) 1 1, .int .i64 0, .string { data := #[] }]
    simp only [World.size_alloc] at h2
    refine ⟨w.heap.size + 1, 0, rfl, by simp, fun j hj => ?_⟩
    have hj0 : j = 0 := by simp at hj; omega
    subst hj0
    exact ⟨some ⟨w.heap.size, 0, none⟩, 1, h2.cell 0, h2.cell 1, h2.cell 2, h2.cell 3, fun _ => ⟨w.heap.size, 0, rfl, by simp; omega, fun j u hu => by
      match j, hu with
      | 0, hu => simp [bv] at hu; subst hu; exact h1 _
      | j + 1, hu => simp [bv] at hu⟩, (by intro e; cases e), Nat.le_refl _⟩
  have kw := implWrite true 100 (by omega) (by omega) [] none 0 [⟨1, [97], 0, []⟩] (some ⟨w.heap.size + 1, 0, none⟩) 1 _ u3 u5 x3 x5 (Nat.le_trans hB (hb1 _ _).size) (by simp) (by intro e; cases e) (by intro e; simp at e) hms (by simp)
    (by intro m hm; rw [List.mem_singleton.1 hm]; exact .inl ⟨.inl rfl, by decide⟩) (by intro j hj hj2; simp at hj hj2) (by decide) (by rw [(hb1 _ _).cell (by show 3 < _; omega)]; exact hg3) (by rw [(hb1 _ _).cell (by show 5 < _; omega)]; exact hg5) [129, 1, 97] hX (by decide)
  have KW := hide kw
  have HB1 := hide hb1
  have hcs := fun (w : World) (C : Array Value) (n c : Nat) => Lib.run_convert_bytes_const (P := Tryd.prog) w 26 5 C n c Tryd.underlying26 Tryd.underlying5
  clear kw hms hX hb1
  go_enter Tryd.func10, Tryd.ntmps10
  go_wp2_with fail
  refine KW.out.mono ?_
  rintro e w2 ⟨r, rfl, hown, hb2⟩
  obtain ⟨A, c, rfl, _, _, hrd⟩ := own_shape hown
  have hcv := run_conv (P := Tryd.prog) w2 26 9 5 Tryd.underlying26 Tryd.underlying5 Tryd.underlying9 _ A c [129, 1, 97] hrd 3 rfl
  have hb3 : Below w.heap.size w w2 := (HB1.out _ _).trans (hb2.mono (by simp; omega))
  have HB3 := hide hb3
  clear hown hrd hb2 hb3
  go_wp2_with fail
  go_ret
  exact ⟨rfl, HB3.out⟩
end Go.Proofs.YtjjahfhnebicjaaDoor
