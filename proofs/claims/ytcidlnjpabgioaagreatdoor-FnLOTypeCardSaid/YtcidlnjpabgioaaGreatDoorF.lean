/- Values that read as types; the walk of low. -/
import Derived.Test.YtcidlnjpabgioaaGreatDoorE
set_option linter.unusedSimpArgs false
set_option linter.unusedVariables false
namespace Go.Proofs.YtcidlnjpabgioaaGreatDoor
open Go.RowKit
open Pu (Bs)

theorem cells_grown {W w1 : World} {g : Nat} (h : W.grownBy w1 (some g)) :
    (∀ b o, b < W.heap.size → ¬ b = g → w1.cell? ⟨b, o, none⟩ = W.cell? ⟨b, o, none⟩) ∧ (∀ b o, b < W.heap.size → ¬ b = g → w1.frozen? ⟨b, o, none⟩ = W.frozen? ⟨b, o, none⟩) :=
  ⟨fun b o hb hne => World.cell?_of_block (w := W) (a := ⟨b, o, none⟩) (h.block b hb (fun e => hne (by injection e))), fun b o hb hne => World.frozen?_of_block (w := W) (a := ⟨b, o, none⟩) (h.block b hb (fun e => hne (by injection e)))⟩

theorem new_blk {w : World} {n : Nat} {cs : Array Value} {t : TypeId} (h : w.heap.size = n) : (w.alloc (.cells cs t)).heap[n]? = some (.cells cs t (0, 0)) := by
  subst h
  exact heap_alloc_new w _
theorem blk_lt {w : World} {b : Nat} {o : Obj} (h : w.heap[b]? = some o) : b < w.heap.size := by
  rcases Nat.lt_or_ge b w.heap.size with h' | h'
  · exact h'
  · rw [Array.getElem?_eq_none h'] at h; cases h
/-- What text says of a value, in whatever world that agrees with w on these blocks. -/
def Txt (D : Nat → Prop) (w : World) (v : Value) (s : Bs) : Prop := ∀ w', (∀ k, D k → w'.heap[k]? = w.heap[k]?) → Calls Tryz.prog 6 #[v] w' (Gives w' s)
theorem Txt.later {D : Nat → Prop} {w w1 : World} {v : Value} {s : Bs} (h : Txt D w v s) (hk : ∀ k, D k → w1.heap[k]? = w.heap[k]?) : Txt D w1 v s := fun w' hw => h w' fun k hd => (hw k hd).trans (hk k hd)
theorem Txt.mono {D D' : Nat → Prop} {w : World} {v : Value} {s : Bs} (h : Txt D w v s) (hD : ∀ k, D k → D' k) : Txt D' w v s := fun w' hw => h w' fun k hd => hw k (hD k hd)
/-- A value that reads as a type of this text; what it hangs on lies from lo on. -/
def IsTy (lo : Nat) (w : World) (v : Value) (s : Bs) : Prop := s.length ≤ 100000 ∧ ∃ D : Nat → Prop, (∀ k, D k → lo ≤ k ∧ k < w.heap.size) ∧ Txt D w v s
theorem IsTy.later {lo : Nat} {w w1 : World} {v : Value} {s : Bs} (h : IsTy lo w v s) (hs : w.heap.size ≤ w1.heap.size) (hk : ∀ k, lo ≤ k → k < w.heap.size → w1.heap[k]? = w.heap[k]?) : IsTy lo w1 v s := by
  obtain ⟨hl, D, hD, ht⟩ := h
  exact ⟨hl, D, fun k hd => ⟨(hD k hd).1, Nat.lt_of_lt_of_le (hD k hd).2 hs⟩, ht.later fun k hd => hk k (hD k hd).1 (hD k hd).2⟩
theorem IsTy.down {lo lo' : Nat} {w : World} {v : Value} {s : Bs} (h : IsTy lo w v s) (hlo : lo' ≤ lo) : IsTy lo' w v s := by
  obtain ⟨hl, D, hD, ht⟩ := h
  exact ⟨hl, D, fun k hd => ⟨Nat.le_trans hlo (hD k hd).1, (hD k hd).2⟩, ht⟩

/-- Cells that hold such values, three a value. -/
def Held3 (D : Nat → Prop) (w : World) (xs : List Value) (us : List Bs) : Prop :=
  ∀ (k : Nat) (u : Bs), us[k]? = some u → u.length ≤ 100000 ∧ ∃ nm sz A n c, xs[k * 3]? = some (.string nm) ∧ xs[k * 3 + 1]? = some (.int .i64 sz) ∧ xs[k * 3 + 2]? = some (.slice A n c) ∧ Txt D w (.agg #[.string nm, .int .i64 sz, .slice A n c]) u
theorem Held3.later {D : Nat → Prop} {w w1 : World} {xs : List Value} {us : List Bs} (h : Held3 D w xs us) (hk : ∀ k, D k → w1.heap[k]? = w.heap[k]?) : Held3 D w1 xs us := fun k u hu => by
  obtain ⟨hl, nm, sz, A, n, c, h0, h1, h2, h3⟩ := h k u hu
  exact ⟨hl, nm, sz, A, n, c, h0, h1, h2, h3.later hk⟩
theorem Held3.mono {D D' : Nat → Prop} {w : World} {xs : List Value} {us : List Bs} (h : Held3 D w xs us) (hD : ∀ k, D k → D' k) : Held3 D' w xs us := fun k u hu => by
  obtain ⟨hl, nm, sz, A, n, c, h0, h1, h2, h3⟩ := h k u hu
  exact ⟨hl, nm, sz, A, n, c, h0, h1, h2, h3.mono hD⟩
theorem Held3.nil {D : Nat → Prop} {w : World} : Held3 D w [] [] := fun k u h => by simp at h
theorem Held3.snoc {D : Nat → Prop} {w : World} {xs : List Value} {us : List Bs} (h : Held3 D w xs us) (hl : xs.length = us.length * 3) {nm : ByteArray} {sz : Int} {A : Option Addr} {n c : Nat} {u : Bs} (hul : u.length ≤ 100000)
    (hu : Txt D w (.agg #[.string nm, .int .i64 sz, .slice A n c]) u) : Held3 D w (xs ++ [.string nm, .int .i64 sz, .slice A n c]) (us ++ [u]) := fun k x hx => by
  rcases Nat.lt_or_ge k us.length with hk | hk
  · rw [List.getElem?_append_left hk] at hx
    obtain ⟨hxl, nm', sz', A', n', c', h0, h1, h2, h3⟩ := h k x hx
    exact ⟨hxl, nm', sz', A', n', c', by rw [List.getElem?_append_left (by omega)]; exact h0, by rw [List.getElem?_append_left (by omega)]; exact h1, by rw [List.getElem?_append_left (by omega)]; exact h2, h3⟩
  · have hk' : k = us.length := by
      have := (List.getElem?_eq_some_iff.1 hx).1
      simp at this
      omega
    subst hk'
    have hx' : u = x := by simpa using hx
    subst hx'
    refine ⟨hul, nm, sz, A, n, c, ?_, ?_, ?_, hu⟩
    · rw [List.getElem?_append_right (by omega), hl]; simp
    · rw [List.getElem?_append_right (by omega), hl]; simp
    · rw [List.getElem?_append_right (by omega), hl]; simp

/-- A type with types in it. -/
theorem txt_node {D : Nat → Prop} {b cap : Nat} {w : World} {cur : Array Value} {xs : List Value} {us : List Bs} (nm : Bs) (sz : Int) (hblk : w.heap[b]? = some (.cells cur 29 (0, 0))) (hD : ∀ k, D k → k < w.heap.size)
    (hcur : ∀ (j : Nat) (x : Value), xs[j]? = some x → cur[j]? = some x) (hx : Held3 D w xs us) (hn3 : us.length ≤ 3) (hnm : nm.length ≤ 1000) (hne : (nm == [70, 105, 120, 101, 100, 83, 116, 114, 105, 110, 103]) = false) :
    Txt (fun k => k = b ∨ D k) w (.agg #[.string (S nm), .int .i64 sz, .slice (some ⟨b, 0, none⟩) us.length cap]) (textOf nm us) := by
  intro w' hw
  have hblk' := (hw b (.inl rfl)).trans hblk
  refine text_node w' nm sz _ cap us hn3 hnm hne fun k u hu => ?_
  obtain ⟨hul, nk, szk, Ak, n, c, h0, h1, h2, h3⟩ := hx k u hu
  refine ⟨hul, b, 0, nk, szk, Ak, n, c, rfl, ?_, ?_, ?_, ?_, fun w'' hw'' => h3 w'' fun j hj => ?_⟩
  · rcases Nat.lt_or_ge b w'.heap.size with h' | h'
    · exact h'
    · rw [Array.getElem?_eq_none h'] at hblk'; cases hblk'
  · rw [cell_blk hblk', Nat.zero_add]; exact hcur _ _ h0
  · rw [cell_blk hblk', Nat.zero_add]; exact hcur _ _ h1
  · rw [cell_blk hblk', Nat.zero_add]; exact hcur _ _ h2
  · have hj' := hw j (.inr hj)
    refine (hw''.block j ?_).trans hj'
    rcases Nat.lt_or_ge j w'.heap.size with h' | h'
    · exact h'
    · rw [Array.getElem?_eq_none h', Array.getElem?_eq_getElem (hD j hj)] at hj'; cases hj'

theorem leaf_text (w : World) (n : Bs) (k : Int) (hl : n.length ≤ 1000) (hne : (n == [70, 105, 120, 101, 100, 83, 116, 114, 105, 110, 103]) = false) : Calls Tryz.prog 6 #[leafVal n k] w (Gives w n) := by
  have h := text_node w n k none 0 [] (Nat.zero_le _) hl hne (fun k u h => by simp at h)
  have e : textOf n [] = n := if_pos rfl
  rw [e] at h
  exact h
theorem leafPairs_cases {n : Bs} {k : Int} (h : (n, k) ∈ leafPairs) :
    (n ∈ Pu.leaves ∧ n.length ≤ 1000 ∧ (n == [70, 105, 120, 101, 100, 83, 116, 114, 105, 110, 103]) = false) ∨ (n = [70, 105, 120, 101, 100, 83, 116, 114, 105, 110, 103] ∧ (k = 5 ∨ k = 16)) := by
  simp only [leafPairs, List.mem_cons, List.not_mem_nil, or_false, Prod.mk.injEq] at h
  rcases h with h | h | h | h | h | h | h | h | h | h | h | h | h | h | h | h <;> obtain ⟨rfl, rfl⟩ := h
  all_goals first
    | exact .inl ⟨by decide, by decide, rfl⟩
    | exact .inr ⟨rfl, .inl rfl⟩
    | exact .inr ⟨rfl, .inr rfl⟩
theorem leaf_ty {n : Bs} {k : Int} (h : (n, k) ∈ leafPairs) : ∃ s, s ∈ Pu.leaves ∧ s.length ≤ 100000 ∧ ∀ w, Calls Tryz.prog 6 #[leafVal n k] w (Gives w s) := by
  rcases leafPairs_cases h with ⟨hm, hl, hne⟩ | ⟨rfl, rfl | rfl⟩
  · exact ⟨n, hm, by omega, fun w => leaf_text w n k hl hne⟩
  · exact ⟨[70, 105, 120, 101, 100, 83, 116, 114, 105, 110, 103, 40, 53, 41], by decide, Nat.le_of_ble_eq_true rfl, fun w => text_fix5 w⟩
  · exact ⟨[70, 105, 120, 101, 100, 83, 116, 114, 105, 110, 103, 40, 49, 54, 41], by decide, Nat.le_of_ble_eq_true rfl, fun w => text_fix16 w⟩
theorem Txt.leaf {w : World} {v : Value} {s : Bs} (h : ∀ w, Calls Tryz.prog 6 #[v] w (Gives w s)) : Txt (fun _ => False) w v s := fun w' _ => h w'
theorem leaf_is {lo : Nat} {w : World} {n : Bs} {k : Int} (h : (n, k) ∈ leafPairs) : ∃ s, s ∈ Pu.leaves ∧ IsTy lo w (leafVal n k) s := by
  obtain ⟨s, hs, hl, hc⟩ := leaf_ty h
  exact ⟨s, hs, hl, fun _ => False, fun _ h => h.elim, Txt.leaf hc⟩

/-- What low hands back: a leaf, or LowCardinality of String. -/
def LowOut (g : Nat) (w : World) (e : Ending) (w' : World) : Prop :=
  ∃ nm sz A n c s, e = .returned (.agg #[.string nm, .int .i64 sz, .slice A n c]) ∧ (s ∈ Pu.leaves ∨ s = Pu.wrap Pu.bLow [Pu.bStr]) ∧ IsTy w.heap.size w' (.agg #[.string nm, .int .i64 sz, .slice A n c]) s ∧ Cod w' g ∧ w.grownBy w' (some g)

/-- LowCardinality of String, over a block that lies from lo on. -/
theorem low_is {lo b cap : Nat} {w : World} (hblk : w.heap[b]? = some (.cells #[.string (S Pu.bStr), .int .i64 0, .slice none 0 0] 29 (0, 0))) (hb : lo ≤ b) (hlt : b < w.heap.size) :
    IsTy lo w (.agg #[.string (S Pu.bLow), .int .i64 0, .slice (some ⟨b, 0, none⟩) 1 cap]) (Pu.wrap Pu.bLow [Pu.bStr]) := by
  have hx : Held3 (fun _ => False) w ([] ++ [.string (S Pu.bStr), .int .i64 0, .slice none 0 0]) ([] ++ [Pu.bStr]) :=
    Held3.snoc Held3.nil rfl (by decide) (Txt.leaf fun w' => leaf_text w' Pu.bStr 0 (by decide) rfl)
  have ht := txt_node (cap := cap) Pu.bLow 0 hblk (fun _ h => h.elim) (fun j x h => by simpa using h) hx (by decide) (by decide) rfl
  have e : textOf Pu.bLow ([] ++ [Pu.bStr]) = Pu.wrap Pu.bLow [Pu.bStr] := if_neg (by simp)
  rw [e] at ht
  exact ⟨by decide, _, fun k h => by rcases h with rfl | h; exact ⟨hb, hlt⟩; exact h.elim, ht⟩

set_option maxHeartbeats 1600000 in
set_option maxRecDepth 100000 in
theorem low_any (g : Nat) (w : World) (hC : Cod w g) : Calls Tryz.prog 9 #[.pointer (some ⟨g, 0, none⟩)] w (LowOut g w) := by
  have hlt := hC.lt
  have hgne : ¬ w.heap.size = g := by omega
  have HC := Lib.hid hC
  clear hC
  go_enter Tryz.func9, Tryz.ntmps9
  go_wp2_with fail
  have b1 : Below w.heap.size w (w.alloc (.cells #[.string ⟨#[]⟩, .int .i64 0, .slice none 0 0] 29)) := (Below.refl _ _).alloc (Nat.le_refl _) _
  refine (leaf_any g _ (HC.out.below b1)).mono ?_
  rintro e w2 ⟨n, k, hm, rfl, hC2, hgr2⟩
  obtain ⟨hk2, hf2⟩ := cells_grown hgr2
  have hs2 := hgr2.size
  simp only [World.size_alloc] at hs2
  have HG2 := Lib.hid hgr2
  have HM := Lib.hid hm
  have HC2 := Lib.hid hC2
  have B1 := Lib.hid b1
  clear hgr2 hm hC2 b1
  unfold leafVal
  go_wp2_with fail
  have b3 : Below w2.heap.size w2 (w2.alloc (.cells #[.string (S n), .int .i64 k, .slice none 0 0] 29)) := (Below.refl _ _).alloc (Nat.le_refl _) _
  refine (byte_any g _ (HC2.out.below b3)).mono ?_
  rintro e w4 ⟨r, h0, h1, rfl, hC4, hgr4⟩
  obtain ⟨hk4, hf4⟩ := cells_grown hgr4
  have hs4 := hgr4.size
  simp only [World.size_alloc] at hs4 hk4 hf4
  have hz : ¬ w2.heap.size = g := by omega
  have l1 : w.heap.size < w2.heap.size + 1 := by omega
  have l2 : w.heap.size < w2.heap.size := by omega
  have l3 : w2.heap.size < w2.heap.size + 1 := by omega
  have a0 : w4.cell? ⟨w.heap.size, 0, none⟩ = some (.string ⟨#[]⟩) := by rw [hk4 _ _ l1 hgne, World.cell?_alloc_past _ _ _ l2, hk2 _ _ (by simp) hgne, cell_blk (z29 w)]; rfl
  have a1 : w4.cell? ⟨w.heap.size, 1, none⟩ = some (.int .i64 0) := by rw [hk4 _ _ l1 hgne, World.cell?_alloc_past _ _ _ l2, hk2 _ _ (by simp) hgne, cell_blk (z29 w)]; rfl
  have a2 : w4.cell? ⟨w.heap.size, 2, none⟩ = some (.slice none 0 0) := by rw [hk4 _ _ l1 hgne, World.cell?_alloc_past _ _ _ l2, hk2 _ _ (by simp) hgne, cell_blk (z29 w)]; rfl
  have f0 : ∀ o, w4.frozen? ⟨w.heap.size, o, none⟩ = false := fun o => by rw [hf4 _ _ l1 hgne, World.frozen?_alloc_past _ _ _ l2, hf2 _ _ (by simp) hgne, free_blk (z29 w)]
  have d0 : w4.cell? ⟨w2.heap.size, 0, none⟩ = some (.string (S n)) := by rw [hk4 _ _ l3 hz, cell_blk (heap_alloc_new w2 _)]; rfl
  have d1 : w4.cell? ⟨w2.heap.size, 1, none⟩ = some (.int .i64 k) := by rw [hk4 _ _ l3 hz, cell_blk (heap_alloc_new w2 _)]; rfl
  have d2 : w4.cell? ⟨w2.heap.size, 2, none⟩ = some (.slice none 0 0) := by rw [hk4 _ _ l3 hz, cell_blk (heap_alloc_new w2 _)]; rfl
  have q1 : w.grownBy w4 (some g) := grown_trans (grown_of B1.out HG2.out) (grown_of b3 hgr4)
  have l4 : w.heap.size < w4.heap.size := by omega
  have n4 : ¬ w4.heap.size = g := by omega
  have Q1 := Lib.hid q1
  have HC4 := Lib.hid hC4
  clear hk2 hf2 hk4 hf4 hgr4 hC4 q1 b3 hs2 hs4 l1 l2 l3 hz
  by_cases hr : r % 4 = 0
  · go_wp2_with fail
    refine bodyPost_ret (v := .agg #[.string (S Pu.bLow), .int .i64 0, .slice (some ⟨w4.heap.size, 0, none⟩) 1 1]) (by simp [results, Tryz.results9, go_sem, a0, a1, a2, l4, n4, hgne]; rfl) rfl ?_
    have b5 := (below_three (B := w.heap.size) (w := w4) (b := w.heap.size) (Nat.le_refl _) (.string (S Pu.bLow)) (.int .i64 0) (.slice (some ⟨w4.heap.size, 0, none⟩) 1 1)).alloc (by simp; omega) (.cells #[.string (S Pu.bStr), .int .i64 0, .slice none 0 0] 29)
    have hblk := new_blk (w := ((w4.setCell ⟨w.heap.size, 0, none⟩ (.string (S Pu.bLow))).setCell ⟨w.heap.size, 1, none⟩ (.int .i64 0)).setCell ⟨w.heap.size, 2, none⟩ (.slice (some ⟨w4.heap.size, 0, none⟩) 1 1)) (n := w4.heap.size) (cs := #[.string (S Pu.bStr), .int .i64 0, .slice none 0 0]) (t := 29) (by simp)
    exact ⟨_, _, _, _, _, _, rfl, .inr rfl, low_is hblk (Nat.le_of_lt l4) (blk_lt hblk), HC4.out.keep (fun j hj => b5.block j (by omega)), grown_below Q1.out b5⟩
  · have hr' : (r % 4 == 0) = false := by simpa using hr
    clear hr
    go_wp2_with fail
    refine bodyPost_ret (v := .agg #[.string (S n), .int .i64 k, .slice none 0 0]) (by simp [results, Tryz.results9, go_sem, a0, a1, a2]) rfl ?_
    obtain ⟨s, hs, ht⟩ := leaf_is (lo := w.heap.size) (w := (((w4.setCell ⟨w.heap.size, 0, none⟩ (.string (S n))).setCell ⟨w.heap.size, 1, none⟩ (.int .i64 k)).setCell ⟨w.heap.size, 2, none⟩ (.slice none 0 0))) HM.out
    have b5 := below_three (B := w.heap.size) (w := w4) (b := w.heap.size) (Nat.le_refl _) (.string (S n)) (.int .i64 k) (.slice none 0 0)
    exact ⟨_, _, _, _, _, s, rfl, .inl hs, ht, HC4.out.keep (fun j hj => b5.block j (by omega)), grown_below Q1.out b5⟩
end Go.Proofs.YtcidlnjpabgioaaGreatDoor
