/- The walks of CLType and of the law itself. -/
import Derived.Test.YtcidlnjpabgioaaGreatDoorU
import Derived.Test.YtcidlnjpabgioaaGreatDoorH
set_option linter.unusedSimpArgs false
set_option linter.unusedVariables false
namespace Go.Proofs.YtcidlnjpabgioaaGreatDoor
open Go.RowKit Go.Shelf
open Pu (Bs)

theorem typ_any (g : Nat) : ∀ (d : Nat), d ≤ 3 → ∀ w, Cod w g → Calls Tryz.prog 4 #[.pointer (some ⟨g, 0, none⟩), .int .i64 (d : Int)] w (TypOut g d w)
  | 0, _, w, h => typ_zero g w h
  | d + 1, hd, w, h => typ_step g d hd (typ_any g d (by omega)) w h

set_option maxRecDepth 100000 in
theorem cl_type (s : Bs) (hs : Pu.Good 3 s) (w : World) (hg : Glob w) : Calls Tryz.prog 5 #[.string (S s)] w (Gives w s) := by
  have HT := Lib.hid (tree_any 3 (Nat.le_refl _) s hs w hg)
  go_enter Tryz.func5, Tryz.ntmps5
  go_wp2_with (first
    | (go_at_call 10; refine (HT.out).mono ?_; rintro e w1 ⟨v, rfl, hv, hb⟩; obtain ⟨t, x, rfl⟩ := hv.nonnil; have HV := Lib.hid hv.says; clear hv)
    | (refine wpList_type rfl _ rfl _ rfl s (by decide) HV.out ?_; intro w2 hb2))
  go_ret
  exact ⟨rfl, hb.trans (hb2.mono hb.size)⟩

set_option maxRecDepth 100000 in
set_option maxHeartbeats 1600000 in
theorem law_any (A : Option Addr) (n cap : Nat) (w : World) (hg : Glob w) (hn : n ≤ cap) (hc : cap ≤ 9223372036854775807)
    (hA : 0 < n → ∃ b off, A = some ⟨b, off, none⟩ ∧ b < w.heap.size ∧ ∀ j, j < n → ∃ x : Int, w.cell? ⟨b, off + j, none⟩ = some (.int .u8 x) ∧ 0 ≤ x ∧ x ≤ 255) :
    Calls Tryz.prog 3 #[.slice A n cap] w fun e w' => e = .returned (.bool true) ∧ Below w.heap.size w w' := by
  have hb1 : Below w.heap.size w (w.alloc (.cells #[.slice A n cap, .int .u64 0] 26)) := (Below.refl _ _).alloc (Nat.le_refl _) _
  have hC : Cod (w.alloc (.cells #[.slice A n cap, .int .u64 0] 26)) w.heap.size := ⟨A, n, cap, 0, heap_alloc_new w _, hn, hc, fun h0 => by
    obtain ⟨b, off, rfl, hb, hx⟩ := hA h0
    refine ⟨b, off, rfl, hb, fun j hj => ?_⟩
    obtain ⟨x, h1, h2⟩ := hx j hj
    exact ⟨x, (hb1.cell (p := ⟨b, off + j, none⟩) hb).trans h1, h2⟩⟩
  have HT := Lib.hid (typ_any w.heap.size 3 (Nat.le_refl _) _ hC)
  have HB1 := Lib.hid hb1
  have HG := Lib.hid hg
  clear hA hC hb1 hg
  go_enter Tryz.func3, Tryz.ntmps3
  go_wp2_with (go_at_call 4; refine (HT.out).mono ?_; rintro e w2 ⟨nm, sz, A2, n2, c2, s, rfl, hgood, ⟨hsl, D, hD, ht⟩, hC2, hgr⟩)
  · go_ret
    exact ⟨rfl, Below.refl _ _⟩
  · have hb2 : Below w.heap.size w w2 := HB1.out.grown hgr HB1.out.size (fun j hj => by injection hj with hj; omega)
    have hb3 : Below w.heap.size w (w2.alloc (.cells #[.string nm, .int .i64 sz, .slice A2 n2 c2] 29)) := hb2.alloc hb2.size _
    have hB := heap_alloc_new w2 (.cells #[.string nm, .int .i64 sz, .slice A2 n2 c2] 29)
    have htx : ∀ w', Below (w2.heap.size + 1) (w2.alloc (.cells #[.string nm, .int .i64 sz, .slice A2 n2 c2] 29)) w' → Calls Tryz.prog 6 #[.agg #[.string nm, .int .i64 sz, .slice A2 n2 c2]] w' (Gives w' s) := fun w' hb => ht w' fun k hk => by
      have := (hD k hk).2
      exact (hb.block k (by omega)).trans (Below.heap_alloc _ _ _ this)
    have hcl : ∀ w', Below (w2.heap.size + 1) (w2.alloc (.cells #[.string nm, .int .i64 sz, .slice A2 n2 c2] 29)) w' → Calls Tryz.prog 5 #[.string (S s)] w' (Gives w' s) := fun w' hb => cl_type s hgood w' (((HG.out.later hb3)).later (hb.mono (by simp)))
    obtain ⟨W, hW⟩ : ∃ W, W = w2.alloc (.cells #[.string nm, .int .i64 sz, .slice A2 n2 c2] 29) := ⟨_, rfl⟩
    rw [← hW] at hB htx hcl ⊢
    have hsz : W.heap.size = w2.heap.size + 1 := by rw [hW]; simp
    have hlt : w2.heap.size < W.heap.size := by omega
    rw [← hsz] at htx hcl
    have a0 : W.cell? ⟨w2.heap.size, 0, none⟩ = some (.string nm) := by rw [cell_blk hB]; rfl
    have a1 : W.cell? ⟨w2.heap.size, 1, none⟩ = some (.int .i64 sz) := by rw [cell_blk hB]; rfl
    have a2 : W.cell? ⟨w2.heap.size, 2, none⟩ = some (.slice A2 n2 c2) := by rw [cell_blk hB]; rfl
    have HTX := Lib.hid htx
    have HCL := Lib.hid hcl
    have HB0 := Lib.hid ((Below.refl W.heap.size W).drew)
    have HB := Lib.hid (hW ▸ hb3)
    clear htx hcl hb2 hb3 hB ht hD hgr hC2 hW hsz
    go_region_law (first
      | (go_simp; go_at_call 6; refine (HTX.out _ HB0.out).mono ?_; rintro e w3 ⟨rfl, hc3⟩; have HB3 := Lib.hid (HB0.out.trans (hc3.mono HB0.out.size)); have hcc := cells_below HB3.out; clear hc3)
      | (go_simp; go_at_call 6; refine (HTX.out _ HB3.out).mono ?_; rintro e w4 ⟨rfl, hc4⟩; have HB4 := Lib.hid (HB3.out.trans (hc4.mono HB3.out.size)); have hcc4 := cells_below HB4.out; clear hc4)
      | (go_simp; go_at_call 6; refine (HTX.out _ HB4.out).mono ?_; rintro e w5 ⟨rfl, hc5⟩; have HB5 := Lib.hid (HB4.out.trans (hc5.mono HB4.out.size)); have hcc5 := cells_below HB5.out; clear hc5)
      | (go_simp; go_at_call 5; refine (HCL.out _ HB3.out).mono ?_; rintro e w4 ⟨rfl, hc4⟩; have HB4 := Lib.hid (HB3.out.trans (hc4.mono HB3.out.size)); have hcc4 := cells_below HB4.out; clear hc4)
      | (go_simp; go_at_call 5; refine (HCL.out _ HB4.out).mono ?_; rintro e w5 ⟨rfl, hc5⟩; have HB5 := Lib.hid (HB4.out.trans (hc5.mono HB4.out.size)); have hcc5 := cells_below HB5.out; clear hc5))
    all_goals go_wp2_with fail
    all_goals go_ret
    all_goals exact ⟨rfl, HB.out.trans (HB5.out.mono HB.out.size)⟩
end Go.Proofs.YtcidlnjpabgioaaGreatDoor
