/- The walk of typ, one deeper. -/
import Derived.Test.YtcidlnjpabgioaaGreatDoorG
set_option linter.unusedSimpArgs false
set_option linter.unusedVariables false
namespace Go.Proofs.YtcidlnjpabgioaaGreatDoor
open Go.RowKit
open Pu (Bs)

theorem info29 : (Tryz.prog.info? 29).map (fun i => (i.zero, i.size, i.bytes)) = some (some (.agg #[.string ⟨#[]⟩, .int .i64 0, .slice none 0 0]), 3, 48) := by kernel_rfl
/-- A round's head in a tuple: what is still to come, and what has been gathered. -/
def TupRel (g d b0 T M : Nat) (w : World) (x v : Value) (wr : World) : Prop :=
  ∃ (j : Nat) (us : List Bs) (xs : List Value) (D : Nat → Prop), us.length + j = M ∧ x = .int .i64 (j : Int) ∧ wr.heap[T]? = some (.cells #[.string (S Pu.bTup), .int .i64 0, v] 29 (0, 0)) ∧ wr.ownsRow (T + 1) 29 3 v us.length xs ∧
    (∀ k, D k → T + 1 ≤ k ∧ k < wr.heap.size ∧ some k ≠ v.ownBlock) ∧ Held3 D wr xs us ∧ (∀ u ∈ us, Pu.Good d u) ∧ Cod wr g ∧ w.grownBy wr (some g) ∧ wr.heap[b0]? = some (.cells #[.string ⟨#[]⟩, .int .i64 0, .slice none 0 0] 29 (0, 0))
theorem tup_cells {w : World} {b : Nat} {v : Value} (h : w.heap[b]? = some (.cells #[.string (S Pu.bTup), .int .i64 0, v] 29 (0, 0))) :
    w.cell? ⟨b, 0, none⟩ = some (.string (S Pu.bTup)) ∧ w.cell? ⟨b, 1, none⟩ = some (.int .i64 0) ∧ w.cell? ⟨b, 2, none⟩ = some v ∧ (∀ o, w.frozen? ⟨b, o, none⟩ = false) :=
  ⟨by rw [cell_blk h]; rfl, by rw [cell_blk h]; rfl, by rw [cell_blk h]; rfl, free_blk h⟩
theorem tup_ne {w : World} {T g n : Nat} {v : Value} {xs : List Value} (h : w.ownsRow (T + 1) 29 3 v n xs) (_h1 : ¬ T = g) (h2 : g < T) : v.ownBlock = none ∨ v.ownBlock ≠ some g := by
  cases hv : v.ownBlock with
  | none => exact .inl rfl
  | some k => exact .inr (fun e => by injection e with e; have := (h.lt k hv).1; omega)

theorem tup_keep {wr w4 w5 : World} {T n : Nat} {v : Value} {xs : List Value} {O : Obj} {o : Obj} (h : w4.heap[T]? = some O) (hg : (w4.alloc o).grownBy w5 v.ownBlock) (hown : wr.ownsRow (T + 1) 29 3 v n xs) : w5.heap[T]? = some O := by
  have hlt := blk_lt h
  exact (hg.block T (by simp; omega) (fun e => by have := (hown.lt T e.symm).1; omega)).trans ((Below.heap_alloc _ _ _ hlt).trans h)
theorem tup_round {g d b0 T M : Nat} {w wr w4 w5 : World} {v : Value} {j : Nat} {us : List Bs} {xs : List Value} {D D4 : Nat → Prop} {nm : ByteArray} {sz : Int} {A : Option Addr} {n c gg cap : Nat} {s : Bs} {o : Obj}
    (hg : g < b0) (hb : b0 < T) (hw : w.heap.size = b0) (hj : us.length + j = M) (h0 : 0 < j) (hT : wr.heap[T]? = some (.cells #[.string (S Pu.bTup), .int .i64 0, v] 29 (0, 0))) (hown : wr.ownsRow (T + 1) 29 3 v us.length xs)
    (hD : ∀ k, D k → T + 1 ≤ k ∧ k < wr.heap.size ∧ some k ≠ v.ownBlock) (hx : Held3 D wr xs us) (hgood : ∀ u ∈ us, Pu.Good d u) (hq : w.grownBy wr (some g)) (hB : wr.heap[b0]? = some (.cells #[.string ⟨#[]⟩, .int .i64 0, .slice none 0 0] 29 (0, 0)))
    (hgs : Pu.Good d s) (hsl : s.length ≤ 100000) (hD4 : ∀ k, D4 k → wr.drew.heap.size ≤ k ∧ k < w4.heap.size) (ht4 : Txt D4 w4 (.agg #[.string nm, .int .i64 sz, .slice A n c]) s) (hC4 : Cod w4 g) (hgr4 : wr.drew.grownBy w4 (some g))
    (hown5 : w5.ownsRow (T + 1) 29 3 (.slice (some ⟨gg, 0, none⟩) (us.length + 1) cap) (us.length + 1) (xs ++ [.string nm, .int .i64 sz, .slice A n c])) (hgrow5 : (w4.alloc o).grownBy w5 v.ownBlock) (hat5 : v.ownBlock = some gg ∨ gg = w4.heap.size + 1) :
    TupRel g d b0 T M w (.int .i64 ((j : Int) - 1)) (.slice (some ⟨gg, 0, none⟩) (us.length + 1) cap) (w5.setCell ⟨T, 2, none⟩ (.slice (some ⟨gg, 0, none⟩) (us.length + 1) cap)) := by
  have hTl := blk_lt hT
  have s4 := hgr4.size
  have s5 := hgrow5.size
  simp only [World.size_alloc, World.size_drew] at s4 s5
  have hsW : (w5.setCell ⟨T, 2, none⟩ (.slice (some ⟨gg, 0, none⟩) (us.length + 1) cap)).heap.size = w5.heap.size := by simp
  have ag4 : ∀ k, k < w4.heap.size → some k ≠ v.ownBlock → k ≠ T → (w5.setCell ⟨T, 2, none⟩ (.slice (some ⟨gg, 0, none⟩) (us.length + 1) cap)).heap[k]? = w4.heap[k]? := fun k hk hne hT => by
    rw [Below.heap_setCell _ _ _ _ hT, hgrow5.block k (by simp; omega) hne, Below.heap_alloc _ _ _ hk]
  have agr : ∀ k, k < wr.heap.size → some k ≠ v.ownBlock → k ≠ T → k ≠ g → (w5.setCell ⟨T, 2, none⟩ (.slice (some ⟨gg, 0, none⟩) (us.length + 1) cap)).heap[k]? = wr.heap[k]? := fun k hk hne hT hkg =>
    (ag4 k (by omega) hne hT).trans (hgr4.block k hk (fun e => hkg (by injection e)))
  have own : ∀ k, k ≤ T → some k ≠ v.ownBlock := fun k hk e => by have := (hown.lt k e.symm).1; omega
  have hT5 := tup_keep (blk_grown (w := wr.drew) hT hgr4 (by omega)) hgrow5 hown
  refine ⟨j - 1, us ++ [s], xs ++ [.string nm, .int .i64 sz, .slice A n c], fun k => D k ∨ D4 k, by simp; omega, by congr 1; omega, ?_, ?_, ?_, ?_, ?_, ?_, ?_, ?_⟩
  · simp [World.setCell, Array.getElem?_modify, hT5]
  · have := ownsRow_setCell_below hown5 (a := ⟨T, 2, none⟩) (Nat.lt_succ_self T) (.slice (some ⟨gg, 0, none⟩) (us.length + 1) cap)
    simpa using this
  · intro k hk
    rw [hsW]
    rcases hk with hk | hk
    · obtain ⟨h1, h2, h3⟩ := hD k hk
      refine ⟨h1, by omega, fun e => ?_⟩
      have e' : k = gg := by simpa [Value.ownBlock] using e
      subst e'
      rcases hat5 with h | h
      · exact h3 h.symm
      · omega
    · obtain ⟨h1, h2⟩ := hD4 k hk
      simp only [World.size_drew] at h1
      refine ⟨by omega, by omega, fun e => ?_⟩
      have e' : k = gg := by simpa [Value.ownBlock] using e
      subst e'
      rcases hat5 with h | h
      · have := (hown.lt k h).2
        omega
      · omega
  · have h1 := (hx.later (fun k hk => agr k (hD k hk).2.1 (hD k hk).2.2 (by have := (hD k hk).1; omega) (by have := (hD k hk).1; omega))).mono (D' := fun k => D k ∨ D4 k) (fun k hk => .inl hk)
    refine Held3.snoc h1 hown.1 hsl ((ht4.later fun k hk => ?_).mono fun k hk => .inr hk)
    obtain ⟨h2, h3⟩ := hD4 k hk
    simp only [World.size_drew] at h2
    exact ag4 k h3 (fun e => by have := (hown.lt k e.symm).2; omega) (by omega)
  · intro u hu
    rcases List.mem_append.1 hu with hu | hu
    · exact hgood u hu
    · obtain rfl := List.mem_singleton.1 hu
      exact hgs
  · exact hC4.keep fun k hk => ag4 k (by omega) (own k (by omega)) (by omega)
  · refine ⟨?_, ?_, ?_, by rw [hsW]; have := hq.size; omega, fun k hk hne => ?_⟩
    · exact hgrow5.os.trans (hgr4.os.trans hq.os)
    · exact hgrow5.tape.trans (hgr4.tape.trans hq.tape)
    · exact hgrow5.output.trans (hgr4.output.trans hq.output)
    · have := hq.size
      exact (agr k (by omega) (own k (by omega)) (by omega) (fun e => hne (by rw [e]))).trans (hq.block k hk hne)
  · exact (agr b0 (by omega) (own b0 (by omega)) (by omega) (by omega)).trans hB

theorem tup_form {wr : World} {T n : Nat} {v : Value} {xs : List Value} (h : wr.ownsRow (T + 1) 29 3 v n xs) (hn : 0 < n) :
    ∃ gg cap cur, v = .slice (some ⟨gg, 0, none⟩) n cap ∧ T + 1 ≤ gg ∧ wr.heap[gg]? = some (.cells cur 29 (0, 0)) ∧ n ≤ cap ∧ ∀ (j : Nat) (x : Value), xs[j]? = some x → cur[j]? = some x := by
  rcases h.2 with ⟨_, h0⟩ | ⟨gg, cap, cur, rfl, hg, hb, hc, _, _, ht⟩
  · omega
  · refine ⟨gg, cap, cur, rfl, hg, hb, hc, fun j x hx => ?_⟩
    rw [← ht, List.getElem?_take] at hx
    split at hx
    · simpa using hx
    · cases hx
/-- A tuple stored into the result's block. -/
theorem tup_end {g d T gg cap b0 : Nat} {w wr : World} {cur : Array Value} {us : List Bs} {xs : List Value} {D : Nat → Prop} (hd : d + 1 ≤ 3) (hg : g < w.heap.size) (hw : w.heap.size = b0) (hb : b0 < T) (hpos : 0 < us.length) (hn3 : us.length ≤ 3)
    (hT : wr.heap[T]? = some (.cells #[.string (S Pu.bTup), .int .i64 0, .slice (some ⟨gg, 0, none⟩) us.length cap] 29 (0, 0))) (hgg : T + 1 ≤ gg) (hblk : wr.heap[gg]? = some (.cells cur 29 (0, 0))) (_hc : us.length ≤ cap) (hcur : ∀ (j : Nat) (x : Value), xs[j]? = some x → cur[j]? = some x)
    (hD : ∀ k, D k → T + 1 ≤ k ∧ k < wr.heap.size ∧ some k ≠ (Value.slice (some ⟨gg, 0, none⟩) us.length cap).ownBlock) (hx : Held3 D wr xs us) (hgood : ∀ u ∈ us, Pu.Good d u) (hC : Cod wr g) (hq : w.grownBy wr (some g)) :
    TypOut g (d + 1) w (.returned (.agg #[.string (S Pu.bTup), .int .i64 0, .slice (some ⟨gg, 0, none⟩) us.length cap]))
      (((wr.setCell ⟨b0, 0, none⟩ (.string (S Pu.bTup))).setCell ⟨b0, 1, none⟩ (.int .i64 0)).setCell ⟨b0, 2, none⟩ (.slice (some ⟨gg, 0, none⟩) us.length cap)) := by
  have hTl := blk_lt hT
  have hggl := blk_lt hblk
  have b5 := below_three (B := b0) (w := wr) (b := b0) (Nat.le_refl _) (.string (S Pu.bTup)) (.int .i64 0) (.slice (some ⟨gg, 0, none⟩) us.length cap)
  have hs5 := b5.size
  have hne : us ≠ [] := fun e => by rw [e] at hpos; exact absurd hpos (Nat.lt_irrefl _)
  have e : textOf Pu.bTup us = Pu.wrap Pu.bTup us := if_neg hne
  have ag : ∀ k, k ≠ b0 → (((wr.setCell ⟨b0, 0, none⟩ (.string (S Pu.bTup))).setCell ⟨b0, 1, none⟩ (.int .i64 0)).setCell ⟨b0, 2, none⟩ (.slice (some ⟨gg, 0, none⟩) us.length cap)).heap[k]? = wr.heap[k]? := fun k hk => by
    rw [Below.heap_setCell _ _ _ _ hk, Below.heap_setCell _ _ _ _ hk, Below.heap_setCell _ _ _ _ hk]
  have ht := txt_node (cap := cap) Pu.bTup 0 ((ag gg (by omega)).trans hblk) (D := D) (fun k hk => by have := (hD k hk).2.1; omega) hcur (hx.later fun k hk => ag k (by have := (hD k hk).1; omega)) hn3 (by decide) rfl
  rw [e] at ht
  have hgd : Pu.Good (d + 1) (Pu.wrap Pu.bTup us) := .inr (.inr (.inr ⟨us, hpos, hn3, hgood, rfl⟩))
  refine ⟨_, _, _, _, _, _, rfl, hgd, ⟨good_len hd hgd, _, fun k hk => ?_, ht⟩, hC.keep (fun k hk => b5.block k (by omega)), grown_below hq (b5.mono (by omega))⟩
  rcases hk with rfl | hk
  · exact ⟨by omega, by omega⟩
  · have := hD k hk
    exact ⟨by omega, by omega⟩

set_option maxHeartbeats 6400000 in
set_option maxRecDepth 100000 in
theorem typ_step (g d : Nat) (hd3 : d + 1 ≤ 3) (ih : ∀ w, Cod w g → Calls Tryz.prog 4 #[.pointer (some ⟨g, 0, none⟩), .int .i64 (d : Int)] w (TypOut g d w)) (w : World) (hC : Cod w g) :
    Calls Tryz.prog 4 #[.pointer (some ⟨g, 0, none⟩), .int .i64 ((d : Int) + 1)] w (TypOut g (d + 1) w) := by
  have hlt := hC.lt
  have hgne : ¬ w.heap.size = g := by omega
  have hd0 : ((d : Int) + 1 == 0) = false := by simp; omega
  have HC := Lib.hid hC
  have IH := Lib.hid ih
  clear hC ih
  go_enter Tryz.func4, Tryz.ntmps4
  go_wp2_with fail
  have b1 : Below w.heap.size w (w.alloc (.cells #[.string ⟨#[]⟩, .int .i64 0, .slice none 0 0] 29)) := (Below.refl _ _).alloc (Nat.le_refl _) _
  refine (byte_any g _ (HC.out.below b1)).mono ?_
  rintro e w2 ⟨r, h0, h1, rfl, hC2, hgr2⟩
  have hB := blk_grown (z29 w) hgr2 hgne
  have hq := grown_of b1 hgr2
  have hlt2 := blk_lt hB
  have HC2 := Lib.hid hC2
  have HB := Lib.hid hB
  have HQ := Lib.hid hq
  clear hC2 hB hgr2 hq b1
  have hk : r % 10 = 0 ∨ r % 10 = 1 ∨ r % 10 = 2 ∨ r % 10 = 3 ∨ r % 10 = 4 ∨ r % 10 = 5 ∨ r % 10 = 6 ∨ r % 10 = 7 ∨ r % 10 = 8 ∨ r % 10 = 9 := by omega
  rcases hk with hk | hk | hk | hk | hk | hk | hk | hk | hk | hk
  · go_wp2_with fail
    refine (leaf_any g _ HC2.out).mono ?_
    rintro e w3 ⟨n, k, hm, rfl, hC3, hgr3⟩
    have hB3 := blk_grown HB.out hgr3 hgne
    obtain ⟨a0, a1, a2, f0⟩ := z_cells hB3
    have hlt3 := blk_lt hB3
    have hfin := leaf_end (d := d + 1) hlt (Nat.le_refl _) hC3 (grown_trans HQ.out hgr3) hm
    have HF := Lib.hid hfin
    clear hfin hB3 hC3 hgr3 hm
    unfold leafVal
    go_wp2_with fail
    refine bodyPost_ret (v := .agg #[.string (S n), .int .i64 k, .slice none 0 0]) (by simp [results, Tryz.results4, go_sem, a0, a1, a2]) rfl ?_
    exact HF.out
  · go_wp2_with fail
    refine (leaf_any g _ HC2.out).mono ?_
    rintro e w3 ⟨n, k, hm, rfl, hC3, hgr3⟩
    have hB3 := blk_grown HB.out hgr3 hgne
    obtain ⟨a0, a1, a2, f0⟩ := z_cells hB3
    have hlt3 := blk_lt hB3
    have hfin := leaf_end (d := d + 1) hlt (Nat.le_refl _) hC3 (grown_trans HQ.out hgr3) hm
    have HF := Lib.hid hfin
    clear hfin hB3 hC3 hgr3 hm
    unfold leafVal
    go_wp2_with fail
    refine bodyPost_ret (v := .agg #[.string (S n), .int .i64 k, .slice none 0 0]) (by simp [results, Tryz.results4, go_sem, a0, a1, a2]) rfl ?_
    exact HF.out
  · go_wp2_with fail
    refine (leaf_any g _ HC2.out).mono ?_
    rintro e w3 ⟨n, k, hm, rfl, hC3, hgr3⟩
    have hB3 := blk_grown HB.out hgr3 hgne
    obtain ⟨a0, a1, a2, f0⟩ := z_cells hB3
    have hlt3 := blk_lt hB3
    have hfin := leaf_end (d := d + 1) hlt (Nat.le_refl _) hC3 (grown_trans HQ.out hgr3) hm
    have HF := Lib.hid hfin
    clear hfin hB3 hC3 hgr3 hm
    unfold leafVal
    go_wp2_with fail
    refine bodyPost_ret (v := .agg #[.string (S n), .int .i64 k, .slice none 0 0]) (by simp [results, Tryz.results4, go_sem, a0, a1, a2]) rfl ?_
    exact HF.out
  · go_wp2_with fail
    refine (leaf_any g _ HC2.out).mono ?_
    rintro e w3 ⟨n, k, hm, rfl, hC3, hgr3⟩
    have hB3 := blk_grown HB.out hgr3 hgne
    obtain ⟨a0, a1, a2, f0⟩ := z_cells hB3
    have hlt3 := blk_lt hB3
    obtain ⟨s, hs, hsl, hcall⟩ := leaf_ty hm
    have hfin := node_end (d := d + 1) (nm := Pu.bNull) (cs := [.string (S n), .int .i64 k, .slice none 0 0]) (us := [s]) (D := fun _ => False) (by omega) hlt (Nat.le_refl _) hlt3 hC3 (grown_trans HQ.out hgr3) (fun _ h => h.elim)
      (Held3.snoc (xs := []) (us := []) Held3.nil rfl hsl (Txt.leaf hcall)) (by simp) (by simp) (by decide) rfl ((show Pu.Base _ → Pu.Good (d + 1) _ from .inl) (.inr (.inl ⟨s, hs, rfl⟩))) 1 rfl
    have HF := Lib.hid hfin
    have HG := Lib.hid (show Pu.Good (d + 1) (Pu.wrap Pu.bNull [s]) from (show Pu.Base _ → Pu.Good (d + 1) _ from .inl) (.inr (.inl ⟨s, hs, rfl⟩)))
    clear hfin hB3 hC3 hgr3 hm hs hcall
    unfold leafVal
    go_wp2_with fail
    refine bodyPost_ret (v := .agg #[.string (S Pu.bNull), .int .i64 0, .slice (some ⟨w3.heap.size, 0, none⟩) 1 1]) (by simp [results, Tryz.results4, go_sem, a0, a1, a2, hlt3]; rfl) rfl ?_
    exact ⟨_, _, _, _, _, _, rfl, HG.out, HF.out.1, HF.out.2.1, HF.out.2.2⟩
  · obtain ⟨a0, a1, a2, f0⟩ := z_cells HB.out
    have hfin := node_end (d := d + 1) (nm := Pu.bLow) (cs := [.string (S Pu.bStr), .int .i64 0, .slice none 0 0]) (us := [Pu.bStr]) (D := fun _ => False) (by omega) hlt (Nat.le_refl _) hlt2 HC2.out HQ.out (fun _ h => h.elim)
      (Held3.snoc (xs := []) (us := []) Held3.nil rfl (by decide) (Txt.leaf fun w' => leaf_text w' Pu.bStr 0 (by decide) rfl)) (by simp) (by simp) (by decide) rfl ((show Pu.Base _ → Pu.Good (d + 1) _ from .inl) (.inr (.inr rfl))) 1 rfl
    have HF := Lib.hid hfin
    clear hfin
    go_wp2_with fail
    refine bodyPost_ret (v := .agg #[.string (S Pu.bLow), .int .i64 0, .slice (some ⟨w2.heap.size, 0, none⟩) 1 1]) (by simp [results, Tryz.results4, go_sem, a0, a1, a2, hlt2]; rfl) rfl ?_
    exact ⟨_, _, _, _, _, _, rfl, (show Pu.Base _ → Pu.Good (d + 1) _ from .inl) (.inr (.inr rfl)), HF.out.1, HF.out.2.1, HF.out.2.2⟩
  · go_wp2_with fail
    refine (IH.out _ HC2.out).mono ?_
    rintro e w3 ⟨nm, sz, A, n, c, s, rfl, hgood, ⟨hsl, D, hD, ht⟩, hC3, hgr3⟩
    have hB3 := blk_grown HB.out hgr3 hgne
    obtain ⟨a0, a1, a2, f0⟩ := z_cells hB3
    have hlt3 := blk_lt hB3
    have hg1 : Pu.Good (d + 1) (Pu.wrap Pu.bArr [s]) := .inr (.inl ⟨s, hgood, rfl⟩)
    have hfin := node_end (d := d + 1) (nm := Pu.bArr) (cs := [.string nm, .int .i64 sz, .slice A n c]) (us := [s]) (D := D) hd3 hlt (Nat.le_refl _) hlt3 hC3 (grown_trans HQ.out hgr3) (fun k hk => ⟨Nat.lt_of_lt_of_le hlt2 (hD k hk).1, (hD k hk).2⟩)
      (Held3.snoc (xs := []) (us := []) Held3.nil rfl hsl ht) (by simp) (by simp) (by decide) rfl hg1 1 rfl
    have HF := Lib.hid hfin
    have HG := Lib.hid hg1
    clear hfin hB3 hC3 hgr3 hg1 hgood hD ht hsl
    go_wp2_with fail
    refine bodyPost_ret (v := .agg #[.string (S Pu.bArr), .int .i64 0, .slice (some ⟨w3.heap.size, 0, none⟩) 1 1]) (by simp [results, Tryz.results4, go_sem, a0, a1, a2, hlt3]; rfl) rfl ?_
    exact ⟨_, _, _, _, _, _, rfl, HG.out, HF.out.1, HF.out.2.1, HF.out.2.2⟩
  · go_wp2_with fail
    refine (IH.out _ HC2.out).mono ?_
    rintro e w3 ⟨nm, sz, A, n, c, s, rfl, hgood, ⟨hsl, D, hD, ht⟩, hC3, hgr3⟩
    have hB3 := blk_grown HB.out hgr3 hgne
    obtain ⟨a0, a1, a2, f0⟩ := z_cells hB3
    have hlt3 := blk_lt hB3
    have hg1 : Pu.Good (d + 1) (Pu.wrap Pu.bArr [s]) := .inr (.inl ⟨s, hgood, rfl⟩)
    have hfin := node_end (d := d + 1) (nm := Pu.bArr) (cs := [.string nm, .int .i64 sz, .slice A n c]) (us := [s]) (D := D) hd3 hlt (Nat.le_refl _) hlt3 hC3 (grown_trans HQ.out hgr3) (fun k hk => ⟨Nat.lt_of_lt_of_le hlt2 (hD k hk).1, (hD k hk).2⟩)
      (Held3.snoc (xs := []) (us := []) Held3.nil rfl hsl ht) (by simp) (by simp) (by decide) rfl hg1 1 rfl
    have HF := Lib.hid hfin
    have HG := Lib.hid hg1
    clear hfin hB3 hC3 hgr3 hg1 hgood hD ht hsl
    go_wp2_with fail
    refine bodyPost_ret (v := .agg #[.string (S Pu.bArr), .int .i64 0, .slice (some ⟨w3.heap.size, 0, none⟩) 1 1]) (by simp [results, Tryz.results4, go_sem, a0, a1, a2, hlt3]; rfl) rfl ?_
    exact ⟨_, _, _, _, _, _, rfl, HG.out, HF.out.1, HF.out.2.1, HF.out.2.2⟩
  · go_wp2_with fail
    refine (low_any g _ HC2.out).mono ?_
    rintro e w3 ⟨nm, sz, A, n, c, s, rfl, hgood, ⟨hsl, D, hD, ht⟩, hC3, hgr3⟩
    have HC3 := Lib.hid hC3
    have HT := Lib.hid ht
    have HD := Lib.hid hD
    have HGd := Lib.hid hgood
    have HG3 := Lib.hid hgr3
    clear hC3 ht hD hgood hgr3
    go_wp2_with fail
    refine (IH.out _ HC3.out).mono ?_
    rintro e w4 ⟨nm', sz', A', n', c', s', rfl, hgood', ⟨hsl', D', hD', ht'⟩, hC4, hgr4⟩
    have hs3 := HG3.out.size
    have hs4 := hgr4.size
    have hB4 := blk_grown (blk_grown HB.out HG3.out hgne) hgr4 hgne
    obtain ⟨a0, a1, a2, f0⟩ := z_cells hB4
    have hlt4 := blk_lt hB4
    have hg1 : Pu.Good (d + 1) (Pu.wrap Pu.bMap [s, s']) := .inr (.inr (.inl ⟨s, s', HGd.out, hgood', rfl⟩))
    have hag : ∀ k, D k → w4.heap[k]? = w3.heap[k]? := fun k hk => hgr4.block k (HD.out k hk).2 (fun e => by have := (HD.out k hk).1; injection e with e; omega)
    have hh := Held3.snoc (D := fun k => D k ∨ D' k) (xs := [.string nm, .int .i64 sz, .slice A n c]) (us := [s]) (Held3.snoc (xs := []) (us := []) Held3.nil rfl hsl ((HT.out.later hag).mono fun k hk => .inl hk)) rfl hsl' (ht'.mono fun k hk => .inr hk)
    have hfin := node_end (d := d + 1) (nm := Pu.bMap) (D := fun k => D k ∨ D' k) hd3 hlt (Nat.le_refl _) hlt4 hC4 (grown_trans (grown_trans HQ.out HG3.out) hgr4)
      (fun k hk => by rcases hk with hk | hk; have := HD.out k hk; exact ⟨by omega, by omega⟩; have := hD' k hk; exact ⟨by omega, by omega⟩) hh (by simp) (by simp) (by decide) rfl hg1 2 rfl
    have HF := Lib.hid hfin
    have HG := Lib.hid hg1
    clear hfin hB4 hC4 hgr4 hg1 hgood' hD' ht' hsl hsl' hag hh hs3 hs4
    go_wp2_with fail
    refine bodyPost_ret (v := .agg #[.string (S Pu.bMap), .int .i64 0, .slice (some ⟨w4.heap.size, 0, none⟩) 2 2]) (by simp [results, Tryz.results4, go_sem, a0, a1, a2, hlt4]; rfl) rfl ?_
    exact ⟨_, _, _, _, _, _, rfl, HG.out, HF.out.1, HF.out.2.1, HF.out.2.2⟩
  · go_wp2_with fail
    have bT : Below w2.heap.size w2 (w2.alloc (.cells #[.string (S Pu.bTup), .int .i64 0, .slice none 0 0] 29)) := (Below.refl _ _).alloc (Nat.le_refl _) _
    refine (byte_any g _ (HC2.out.below bT)).mono ?_
    rintro e w3 ⟨q, q0, q1, rfl, hC3, hgr3⟩
    have hne2 : ¬ w2.heap.size = g := by omega
    have hT3 := blk_grown (new_blk (w := w2) (cs := #[.string (S Pu.bTup), .int .i64 0, .slice none 0 0]) (t := 29) rfl) hgr3 hne2
    have hB3 := blk_grown (bT.block _ hlt2 |>.trans HB.out) hgr3 hgne
    have hq3 := grown_trans HQ.out (grown_of bT hgr3)
    have HC3 := Lib.hid hC3
    have HT3 := Lib.hid hT3
    have HB3 := Lib.hid hB3
    have HQ3 := Lib.hid hq3
    clear hC3 hT3 hB3 hq3 hgr3 bT
    obtain ⟨m, hm3, hm⟩ : ∃ m : Nat, m < 3 ∧ q % 3 = (m : Int) := ⟨(q % 3).toNat, by omega, by omega⟩
    go_wp2_with fail
    have HM := Lib.hid hm
    clear hm
    go_loopw [7] (fun x wr => ∃ v, TupRel g d w.heap.size w2.heap.size (m + 1) w x v wr) (fun x _ => (intOf x).toNat)
    case atStart => exact ⟨.slice none 0 0, m + 1, [], [], fun _ => False, by simp, by go_num, by simpa using HT3.out, World.ownsRow_nil _ _ _ _, fun _ h => h.elim, Held3.nil, by simp, HC3.out, HQ3.out, HB3.out⟩
    case round =>
      obtain ⟨v, j, us, xs, D', hj, rfl, hT, hown, hD, hx, hgood, hCr, hqr, hBr⟩ := hrel
      have hltr := blk_lt hT
      have hus : us.length ≤ 3 := by omega
      obtain ⟨t0, t1, t2, tf⟩ := tup_cells hT
      have HT := Lib.hid hT
      have HOWN := Lib.hid hown
      have HD := Lib.hid hD
      have HX := Lib.hid hx
      have HGOOD := Lib.hid hgood
      have HCR := Lib.hid hCr
      have HQR := Lib.hid hqr
      have HBR := Lib.hid hBr
      clear hT hown hD hx hgood hCr hqr hBr
      by_cases hj0 : 0 < j
      · obtain ⟨i0, hi, hz0, hz1, hz2⟩ := info_parts info29
        go_wp2_with fail
        have s1 : (d : Int) + 1 - 1 = d := by omega
        have s2 : IntKind.i64.wrap (d : Int) = d := IntWalk.i64_in _ (by omega)
        go_region_law (first
          | (refine step_append_lies _ (by rfl) _ _ _ (by rfl) (w2.heap.size + 1) 29 i0 _ 3 48 Tryz.underlying27 hi hz0 hz1 hz2 rfl (by omega) v us.length xs (by rfl) (((HOWN.out.drew).kept hgr4 (tup_ne HOWN.out hne2 (by omega))).alloc _) ⟨w4.heap.size, 0, none⟩ 1 1 [.string nm, .int .i64 sz, .slice A n c] (by rfl) (by rfl) (World.news_of_block (cs := #[.string nm, .int .i64 sz, .slice A n c]) (t := 29) (fr := (0, 0)) (heap_alloc_new w4 _)) (by simp [Value.oneCell']) (by omega) (by unfold maxLen; omega) (by omega) (by have := hgr4.size; simp at this ⊢; omega) (w4.heap.size + 1) (by simp) ?_; intro gg cap w5 hown5 hgrow5 hat5 hlt5; obtain ⟨_, _, tc5, tf5⟩ := tup_cells (tup_keep hT4 hgrow5 HOWN.out))
          | (go_simp; go_at_call 4; ((with_reducible refine (IH.out _ (show Cod wr.drew g from HCR.out.keep (fun _ _ => rfl))).mono ?_)); rintro e w4 ⟨nm, sz, A, n, c, s, rfl, hgood4, ⟨hsl, D4, hD4, ht4⟩, hC4, hgr4⟩; have hT4 := blk_grown (w := wr.drew) HT.out hgr4 hne2; have hl4 := blk_lt hT4; obtain ⟨_, _, t24, tf4⟩ := tup_cells hT4))
        all_goals go_wp2_with fail
        all_goals
          go_roundw
          case rel => exact ⟨_, tup_round hlt hlt2 rfl hj hj0 HT.out HOWN.out HD.out HX.out HGOOD.out HQR.out HBR.out hgood4 hsl hD4 ht4 hC4 hgr4 hown5 hgrow5 hat5⟩
          case measure => simp [intOf]; omega
      · obtain rfl : j = 0 := by omega
        obtain ⟨a0, a1, a2, f0⟩ := z_cells HBR.out
        have hltb := blk_lt HBR.out
        have hbne : w.heap.size ≠ w2.heap.size := by omega
        obtain ⟨gg, cap, cur, rfl, hgg, hblk, hncap, htake⟩ := tup_form HOWN.out (by omega)
        have hfin := tup_end hd3 hlt rfl hlt2 (by omega) hus HT.out hgg hblk hncap htake HD.out HX.out HGOOD.out HCR.out HQR.out
        have HF := Lib.hid hfin
        clear hfin htake hblk
        go_wp2_with fail
        refine bodyPost_ret (v := .agg #[.string (S Pu.bTup), .int .i64 0, .slice (some ⟨gg, 0, none⟩) us.length cap]) (by simp [results, Tryz.results4, go_sem, a0, a1, a2, hltb]; try rfl) rfl ?_
        exact HF.out
  · go_wp2_with fail
    refine (leaf_any g _ HC2.out).mono ?_
    rintro e w3 ⟨n, k, hm, rfl, hC3, hgr3⟩
    have hB3 := blk_grown HB.out hgr3 hgne
    obtain ⟨a0, a1, a2, f0⟩ := z_cells hB3
    have hlt3 := blk_lt hB3
    have hfin := leaf_end (d := d + 1) hlt (Nat.le_refl _) hC3 (grown_trans HQ.out hgr3) hm
    have HF := Lib.hid hfin
    clear hfin hB3 hC3 hgr3 hm
    unfold leafVal
    go_wp2_with fail
    refine bodyPost_ret (v := .agg #[.string (S n), .int .i64 k, .slice none 0 0]) (by simp [results, Tryz.results4, go_sem, a0, a1, a2]) rfl ?_
    exact HF.out
end Go.Proofs.YtcidlnjpabgioaaGreatDoor
