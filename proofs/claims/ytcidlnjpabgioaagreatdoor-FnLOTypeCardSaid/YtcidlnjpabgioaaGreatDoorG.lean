/- The walk of typ. -/
import Derived.Test.YtcidlnjpabgioaaGreatDoorF
import Derived.Deep.AppendLies
import Derived.Deep.RegionLaw
set_option linter.unusedSimpArgs false
set_option linter.unusedVariables false
namespace Go.Proofs.YtcidlnjpabgioaaGreatDoor
open Go.RowKit
open Pu (Bs)

theorem z_cells {w : World} {b : Nat} (h : w.heap[b]? = some (.cells #[.string ⟨#[]⟩, .int .i64 0, .slice none 0 0] 29 (0, 0))) :
    w.cell? ⟨b, 0, none⟩ = some (.string ⟨#[]⟩) ∧ w.cell? ⟨b, 1, none⟩ = some (.int .i64 0) ∧ w.cell? ⟨b, 2, none⟩ = some (.slice none 0 0) ∧ (∀ o, w.frozen? ⟨b, o, none⟩ = false) :=
  ⟨by rw [cell_blk h]; rfl, by rw [cell_blk h]; rfl, by rw [cell_blk h]; rfl, free_blk h⟩
/-- What typ hands back. -/
def TypOut (g d : Nat) (w : World) (e : Ending) (w' : World) : Prop :=
  ∃ nm sz A n c s, e = .returned (.agg #[.string nm, .int .i64 sz, .slice A n c]) ∧ Pu.Good d s ∧ IsTy w.heap.size w' (.agg #[.string nm, .int .i64 sz, .slice A n c]) s ∧ Cod w' g ∧ w.grownBy w' (some g)

theorem good_len {d : Nat} {s : Bs} (hd : d ≤ 3) (h : Pu.Good d s) : s.length ≤ 100000 := by
  have h1 := (Pu.Good.fine d s h).len
  have h2 : Pu.most d ≤ 100000 := by
    have : d = 0 ∨ d = 1 ∨ d = 2 ∨ d = 3 := by omega
    rcases this with rfl | rfl | rfl | rfl <;> decide
  omega

/-- A name over a new slice of types, stored into the result's block. -/
theorem node_end {g b0 d : Nat} {w w3 : World} {nm : Bs} {cs : List Value} {us : List Bs} {D : Nat → Prop} (hd : d ≤ 3) (hg : g < w.heap.size) (hb0 : w.heap.size ≤ b0) (hlt : b0 < w3.heap.size) (hC : Cod w3 g) (hq : w.grownBy w3 (some g))
    (hD : ∀ k, D k → b0 < k ∧ k < w3.heap.size) (hx : Held3 D w3 cs us) (hne : us ≠ []) (hn3 : us.length ≤ 3) (hnm : nm.length ≤ 1000) (hnf : (nm == [70, 105, 120, 101, 100, 83, 116, 114, 105, 110, 103]) = false) (hgood : Pu.Good d (Pu.wrap nm us)) (n : Nat) (hn : us.length = n) :
    IsTy w.heap.size ((((w3.setCell ⟨b0, 0, none⟩ (.string (S nm))).setCell ⟨b0, 1, none⟩ (.int .i64 0)).setCell ⟨b0, 2, none⟩ (.slice (some ⟨w3.heap.size, 0, none⟩) n n)).alloc (.cells cs.toArray 29))
      (.agg #[.string (S nm), .int .i64 0, .slice (some ⟨w3.heap.size, 0, none⟩) n n]) (Pu.wrap nm us) ∧
    Cod ((((w3.setCell ⟨b0, 0, none⟩ (.string (S nm))).setCell ⟨b0, 1, none⟩ (.int .i64 0)).setCell ⟨b0, 2, none⟩ (.slice (some ⟨w3.heap.size, 0, none⟩) n n)).alloc (.cells cs.toArray 29)) g ∧
    w.grownBy ((((w3.setCell ⟨b0, 0, none⟩ (.string (S nm))).setCell ⟨b0, 1, none⟩ (.int .i64 0)).setCell ⟨b0, 2, none⟩ (.slice (some ⟨w3.heap.size, 0, none⟩) n n)).alloc (.cells cs.toArray 29)) (some g) := by
  subst hn
  have b5 := (below_three (B := b0) (w := w3) (b := b0) (Nat.le_refl _) (.string (S nm)) (.int .i64 0) (.slice (some ⟨w3.heap.size, 0, none⟩) us.length us.length)).alloc (by simp; omega) (.cells cs.toArray 29)
  have e : textOf nm us = Pu.wrap nm us := if_neg hne
  refine ⟨?_, hC.keep (fun j hj => b5.block j (by omega)), grown_below hq (b5.mono hb0)⟩
  have hblk := new_blk (w := ((w3.setCell ⟨b0, 0, none⟩ (.string (S nm))).setCell ⟨b0, 1, none⟩ (.int .i64 0)).setCell ⟨b0, 2, none⟩ (.slice (some ⟨w3.heap.size, 0, none⟩) us.length us.length)) (n := w3.heap.size) (cs := cs.toArray) (t := 29) (by simp)
  have hag : ∀ k, D k → ((((w3.setCell ⟨b0, 0, none⟩ (.string (S nm))).setCell ⟨b0, 1, none⟩ (.int .i64 0)).setCell ⟨b0, 2, none⟩ (.slice (some ⟨w3.heap.size, 0, none⟩) us.length us.length)).alloc (.cells cs.toArray 29)).heap[k]? = w3.heap[k]? := fun k hk => by
    obtain ⟨h1, h2⟩ := hD k hk
    rw [Below.heap_alloc _ _ _ (by simp; omega), Below.heap_setCell _ _ _ _ (Nat.ne_of_gt h1), Below.heap_setCell _ _ _ _ (Nat.ne_of_gt h1), Below.heap_setCell _ _ _ _ (Nat.ne_of_gt h1)]
  have ht := txt_node (cap := us.length) nm 0 hblk (D := D) (fun k hk => by have := (hD k hk).2; have h2 := b5.size; omega) (fun j x h => by simpa using h) (hx.later hag) hn3 hnm hnf
  rw [e] at ht
  exact ⟨good_len hd hgood, _, fun k hk => by
    rcases hk with rfl | hk
    · exact ⟨by omega, blk_lt hblk⟩
    · have := hD k hk
      have h2 := b5.size
      exact ⟨by omega, by omega⟩, ht⟩

/-- A leaf stored into the result's block. -/
theorem leaf_end {g b0 d : Nat} {w w3 : World} {n : Bs} {k : Int} (hg : g < w.heap.size) (hb0 : w.heap.size ≤ b0) (hC : Cod w3 g) (hq : w.grownBy w3 (some g)) (hm : (n, k) ∈ leafPairs) :
    TypOut g d w (.returned (.agg #[.string (S n), .int .i64 k, .slice none 0 0])) (((w3.setCell ⟨b0, 0, none⟩ (.string (S n))).setCell ⟨b0, 1, none⟩ (.int .i64 k)).setCell ⟨b0, 2, none⟩ (.slice none 0 0)) := by
  have b5 := below_three (B := b0) (w := w3) (b := b0) (Nat.le_refl _) (.string (S n)) (.int .i64 k) (.slice none 0 0)
  obtain ⟨s, hs, ht⟩ := leaf_is (lo := w.heap.size) (w := ((w3.setCell ⟨b0, 0, none⟩ (.string (S n))).setCell ⟨b0, 1, none⟩ (.int .i64 k)).setCell ⟨b0, 2, none⟩ (.slice none 0 0)) hm
  refine ⟨_, _, _, _, _, s, rfl, ?_, ht, hC.keep (fun j hj => b5.block j (by omega)), grown_below hq (b5.mono hb0)⟩
  cases d
  · exact .inl hs
  · exact .inl (.inl hs)

set_option maxHeartbeats 3200000 in
set_option maxRecDepth 100000 in
theorem typ_zero (g : Nat) (w : World) (hC : Cod w g) : Calls Tryz.prog 4 #[.pointer (some ⟨g, 0, none⟩), .int .i64 0] w (TypOut g 0 w) := by
  have hlt := hC.lt
  have hgne : ¬ w.heap.size = g := by omega
  have HC := Lib.hid hC
  clear hC
  go_enter Tryz.func4, Tryz.ntmps4
  go_wp2_with fail
  have b1 : Below w.heap.size w (w.alloc (.cells #[.string ⟨#[]⟩, .int .i64 0, .slice none 0 0] 29)) := (Below.refl _ _).alloc (Nat.le_refl _) _
  refine (byte_any g _ (HC.out.below b1)).mono ?_
  rintro e w2 ⟨r, h0, h1, rfl, hC2, hgr2⟩
  have hB := blk_grown (z29 w) hgr2 hgne
  have hq := grown_of b1 hgr2
  have hlt2 := blk_lt hB
  have HC2 := Lib.hid hC2
  have HB := Lib.hid hB
  have HQ := Lib.hid hq
  clear hC2 hB hgr2 hq b1
  have hk : r % 10 % 5 = 0 ∨ r % 10 % 5 = 1 ∨ r % 10 % 5 = 2 ∨ r % 10 % 5 = 3 ∨ r % 10 % 5 = 4 := by omega
  rcases hk with hk | hk | hk | hk | hk
  · go_wp2_with fail
    refine (leaf_any g _ HC2.out).mono ?_
    rintro e w3 ⟨n, k, hm, rfl, hC3, hgr3⟩
    have hB3 := blk_grown HB.out hgr3 hgne
    obtain ⟨a0, a1, a2, f0⟩ := z_cells hB3
    have hlt3 := blk_lt hB3
    have hfin := leaf_end (d := 0) hlt (Nat.le_refl _) hC3 (grown_trans HQ.out hgr3) hm
    have HF := Lib.hid hfin
    clear hfin hB3 hC3 hgr3 hm
    unfold leafVal
    go_wp2_with fail
    refine bodyPost_ret (v := .agg #[.string (S n), .int .i64 k, .slice none 0 0]) (by simp [results, Tryz.results4, go_sem, a0, a1, a2]) rfl ?_
    exact HF.out
  · go_wp2_with fail
    refine (leaf_any g _ HC2.out).mono ?_
    rintro e w3 ⟨n, k, hm, rfl, hC3, hgr3⟩
    have hB3 := blk_grown HB.out hgr3 hgne
    obtain ⟨a0, a1, a2, f0⟩ := z_cells hB3
    have hlt3 := blk_lt hB3
    have hfin := leaf_end (d := 0) hlt (Nat.le_refl _) hC3 (grown_trans HQ.out hgr3) hm
    have HF := Lib.hid hfin
    clear hfin hB3 hC3 hgr3 hm
    unfold leafVal
    go_wp2_with fail
    refine bodyPost_ret (v := .agg #[.string (S n), .int .i64 k, .slice none 0 0]) (by simp [results, Tryz.results4, go_sem, a0, a1, a2]) rfl ?_
    exact HF.out
  · go_wp2_with fail
    refine (leaf_any g _ HC2.out).mono ?_
    rintro e w3 ⟨n, k, hm, rfl, hC3, hgr3⟩
    have hB3 := blk_grown HB.out hgr3 hgne
    obtain ⟨a0, a1, a2, f0⟩ := z_cells hB3
    have hlt3 := blk_lt hB3
    have hfin := leaf_end (d := 0) hlt (Nat.le_refl _) hC3 (grown_trans HQ.out hgr3) hm
    have HF := Lib.hid hfin
    clear hfin hB3 hC3 hgr3 hm
    unfold leafVal
    go_wp2_with fail
    refine bodyPost_ret (v := .agg #[.string (S n), .int .i64 k, .slice none 0 0]) (by simp [results, Tryz.results4, go_sem, a0, a1, a2]) rfl ?_
    exact HF.out
  · go_wp2_with fail
    refine (leaf_any g _ HC2.out).mono ?_
    rintro e w3 ⟨n, k, hm, rfl, hC3, hgr3⟩
    have hB3 := blk_grown HB.out hgr3 hgne
    obtain ⟨a0, a1, a2, f0⟩ := z_cells hB3
    have hlt3 := blk_lt hB3
    obtain ⟨s, hs, hsl, hcall⟩ := leaf_ty hm
    have hfin := node_end (d := 0) (nm := Pu.bNull) (cs := [.string (S n), .int .i64 k, .slice none 0 0]) (us := [s]) (D := fun _ => False) (by omega) hlt (Nat.le_refl _) hlt3 hC3 (grown_trans HQ.out hgr3) (fun _ h => h.elim)
      (Held3.snoc (xs := []) (us := []) Held3.nil rfl hsl (Txt.leaf hcall)) (by simp) (by simp) (by decide) rfl ((show Pu.Base _ → Pu.Good 0 _ from id) (.inr (.inl ⟨s, hs, rfl⟩))) 1 rfl
    have HF := Lib.hid hfin
    have HG := Lib.hid (show Pu.Good (0) (Pu.wrap Pu.bNull [s]) from (show Pu.Base _ → Pu.Good 0 _ from id) (.inr (.inl ⟨s, hs, rfl⟩)))
    clear hfin hB3 hC3 hgr3 hm hs hcall
    unfold leafVal
    go_wp2_with fail
    refine bodyPost_ret (v := .agg #[.string (S Pu.bNull), .int .i64 0, .slice (some ⟨w3.heap.size, 0, none⟩) 1 1]) (by simp [results, Tryz.results4, go_sem, a0, a1, a2, hlt3]; rfl) rfl ?_
    exact ⟨_, _, _, _, _, _, rfl, HG.out, HF.out.1, HF.out.2.1, HF.out.2.2⟩
  · obtain ⟨a0, a1, a2, f0⟩ := z_cells HB.out
    have hfin := node_end (d := 0) (nm := Pu.bLow) (cs := [.string (S Pu.bStr), .int .i64 0, .slice none 0 0]) (us := [Pu.bStr]) (D := fun _ => False) (by omega) hlt (Nat.le_refl _) hlt2 HC2.out HQ.out (fun _ h => h.elim)
      (Held3.snoc (xs := []) (us := []) Held3.nil rfl (by decide) (Txt.leaf fun w' => leaf_text w' Pu.bStr 0 (by decide) rfl)) (by simp) (by simp) (by decide) rfl ((show Pu.Base _ → Pu.Good 0 _ from id) (.inr (.inr rfl))) 1 rfl
    have HF := Lib.hid hfin
    clear hfin
    go_wp2_with fail
    refine bodyPost_ret (v := .agg #[.string (S Pu.bLow), .int .i64 0, .slice (some ⟨w2.heap.size, 0, none⟩) 1 1]) (by simp [results, Tryz.results4, go_sem, a0, a1, a2, hlt2]; rfl) rfl ?_
    exact ⟨_, _, _, _, _, _, rfl, (show Pu.Base _ → Pu.Good 0 _ from id) (.inr (.inr rfl)), HF.out.1, HF.out.2.1, HF.out.2.2⟩
end Go.Proofs.YtcidlnjpabgioaaGreatDoor
