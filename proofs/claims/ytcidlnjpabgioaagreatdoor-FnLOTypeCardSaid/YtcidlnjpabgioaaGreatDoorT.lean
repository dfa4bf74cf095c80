/- The walk of tree at a name with texts in brackets. -/
import Derived.Test.YtcidlnjpabgioaaGreatDoorR
import Derived.Deep.RegionLaw
import Derived.Maps.AppendAt
set_option linter.unusedSimpArgs false
set_option linter.unusedVariables false
namespace Go.Proofs.YtcidlnjpabgioaaGreatDoor
open Go.RowKit Go.Shelf
open Pu (Bs)

/-- A part's column, behind the block made around it. -/
theorem Has.grown {lo hi B : Nat} {w w' : World} {v : Value} {s : Bs} {o : Obj} (h : Has lo hi w v s) (hlo : B ≤ lo) (hb : Kept B (w.alloc o).heap.size (w.alloc o) w') : Says Tryz.prog 7 w' v s :=
  (h.keep ((Kept.of ((Below.refl _ _).alloc (Nat.le_refl _) o) h.1).trans (hb.mono hlo (by have := h.1; simp; omega)))).says
theorem arr_out {lo hi : Nat} {w wr : World} {t : TypeId} {x : Value} {u : Bs} (hs : Has lo hi wr (.iface t x) u) (hlo : w.heap.size ≤ lo) (hul : u.length ≤ 100000) (hb : Below w.heap.size w wr) :
    ColOut (Pu.wrap Pu.bArr [u]) w (.returned (.iface 56 (.agg #[.pointer (some ⟨wr.heap.size, 0, none⟩)]))) (wr.alloc (.cells #[.slice none 0 0, .iface t x] 82)) := by
  refine ⟨_, rfl, has_wrap (WT := 56) (PT := 48) (COL := 82) (PF := 139) (v := .agg #[.slice none 0 0, .iface t x]) (by kernel_rfl) Tryz.underlying56 rfl rfl Tryz.isAgg48 rfl Tryz.underlying48 (fun w' hb' => ?_) (enters_of Tryz.func139 (by kernel_rfl) rfl _) (fun w' hb' => type_arr _ u hul w' (hs.grown hlo hb')), hb.alloc hb.size _⟩
  have hB := heap_alloc_new wr (.cells #[.slice none 0 0, .iface t x] 82)
  have hc0 := (hb'.cell (p := ⟨wr.heap.size, 0, none⟩) hb.size (by simp)).trans ((cell_blk hB 0).trans rfl)
  have hc1 := (hb'.cell (p := ⟨wr.heap.size, 1, none⟩) hb.size (by simp)).trans ((cell_blk hB 1).trans rfl)
  simp [go_sem, hc0, hc1]
theorem null_out {lo hi : Nat} {w wr : World} {t : TypeId} {x : Value} {u : Bs} (hs : Has lo hi wr (.iface t x) u) (hlo : w.heap.size ≤ lo) (hul : u.length ≤ 100000) (hb : Below w.heap.size w wr) :
    ColOut (Pu.wrap Pu.bNull [u]) w (.returned (.iface 60 (.agg #[.pointer (some ⟨wr.heap.size, 0, none⟩)]))) (wr.alloc (.cells #[.slice none 0 0, .iface t x] 85)) := by
  refine ⟨_, rfl, has_wrap (WT := 60) (PT := 57) (COL := 85) (PF := 158) (v := .agg #[.slice none 0 0, .iface t x]) (by kernel_rfl) Tryz.underlying60 rfl rfl Tryz.isAgg57 rfl Tryz.underlying57 (fun w' hb' => ?_) (enters_of Tryz.func158 (by kernel_rfl) rfl _) (fun w' hb' => type_null _ u hul w' (hs.grown hlo hb')), hb.alloc hb.size _⟩
  have hB := heap_alloc_new wr (.cells #[.slice none 0 0, .iface t x] 85)
  have hc0 := (hb'.cell (p := ⟨wr.heap.size, 0, none⟩) hb.size (by simp)).trans ((cell_blk hB 0).trans rfl)
  have hc1 := (hb'.cell (p := ⟨wr.heap.size, 1, none⟩) hb.size (by simp)).trans ((cell_blk hB 1).trans rfl)
  simp [go_sem, hc0, hc1]
theorem low_out {lo hi : Nat} {w wr : World} {t : TypeId} {x : Value} {u : Bs} (hs : Has lo hi wr (.iface t x) u) (hlo : w.heap.size ≤ lo) (hul : u.length ≤ 100000) (hb : Below w.heap.size w wr) :
    ColOut (Pu.wrap Pu.bLow [u]) w (.returned (.iface 68 (.agg #[.pointer (some ⟨wr.heap.size, 0, none⟩)]))) (wr.alloc (.cells #[.slice none 0 0, .iface 66 (.agg #[.iface t x]), .int .u8 0, .slice none 0 0, .slice none 0 0, .slice none 0 0, .slice none 0 0, .map none, .slice none 0 0] 97)) := by
  refine ⟨_, rfl, has_wrap (WT := 68) (PT := 61) (COL := 97) (PF := 167) (v := .agg #[.slice none 0 0, .iface 66 (.agg #[.iface t x]), .int .u8 0, .slice none 0 0, .slice none 0 0, .slice none 0 0, .slice none 0 0, .map none, .slice none 0 0]) (by kernel_rfl) Tryz.underlying68 rfl rfl Tryz.isAgg61 rfl Tryz.underlying61 (fun w' hb' => ?_) (enters_of Tryz.func167 (by kernel_rfl) rfl _) (fun w' hb' => type_low _ u hul w' (says_keys (hs.grown hlo hb'))), hb.alloc hb.size _⟩
  have hB := heap_alloc_new wr (.cells #[.slice none 0 0, .iface 66 (.agg #[.iface t x]), .int .u8 0, .slice none 0 0, .slice none 0 0, .slice none 0 0, .slice none 0 0, .map none, .slice none 0 0] 97)
  have hc0 := (hb'.cell (p := ⟨wr.heap.size, 0, none⟩) hb.size (by simp)).trans ((cell_blk hB 0).trans rfl)
  have hc1 := (hb'.cell (p := ⟨wr.heap.size, 1, none⟩) hb.size (by simp)).trans ((cell_blk hB 1).trans rfl)
  have hc2 := (hb'.cell (p := ⟨wr.heap.size, 2, none⟩) hb.size (by simp)).trans ((cell_blk hB 2).trans rfl)
  have hc3 := (hb'.cell (p := ⟨wr.heap.size, 3, none⟩) hb.size (by simp)).trans ((cell_blk hB 3).trans rfl)
  have hc4 := (hb'.cell (p := ⟨wr.heap.size, 4, none⟩) hb.size (by simp)).trans ((cell_blk hB 4).trans rfl)
  have hc5 := (hb'.cell (p := ⟨wr.heap.size, 5, none⟩) hb.size (by simp)).trans ((cell_blk hB 5).trans rfl)
  have hc6 := (hb'.cell (p := ⟨wr.heap.size, 6, none⟩) hb.size (by simp)).trans ((cell_blk hB 6).trans rfl)
  have hc7 := (hb'.cell (p := ⟨wr.heap.size, 7, none⟩) hb.size (by simp)).trans ((cell_blk hB 7).trans rfl)
  have hc8 := (hb'.cell (p := ⟨wr.heap.size, 8, none⟩) hb.size (by simp)).trans ((cell_blk hB 8).trans rfl)
  simp [go_sem, hc0, hc1, hc2, hc3, hc4, hc5, hc6, hc7, hc8]
theorem map_out {lo hi lo2 hi2 : Nat} {w wr : World} {t t2 : TypeId} {x x2 : Value} {u u2 : Bs} (hs : Has lo hi wr (.iface t x) u) (hlo : w.heap.size ≤ lo) (hs2 : Has lo2 hi2 wr (.iface t2 x2) u2) (hlo2 : w.heap.size ≤ lo2) (hul : u.length ≤ 100000) (hul2 : u2.length ≤ 100000) (hb : Below w.heap.size w wr) :
    ColOut (Pu.wrap Pu.bMap [u, u2]) w (.returned (.iface 72 (.agg #[.pointer (some ⟨wr.heap.size, 0, none⟩)]))) (wr.alloc (.cells #[.slice none 0 0, .iface 66 (.agg #[.iface t x]), .iface t2 x2] 99)) := by
  refine ⟨_, rfl, has_wrap (WT := 72) (PT := 69) (COL := 99) (PF := 176) (v := .agg #[.slice none 0 0, .iface 66 (.agg #[.iface t x]), .iface t2 x2]) (by kernel_rfl) Tryz.underlying72 rfl rfl Tryz.isAgg69 rfl Tryz.underlying69 (fun w' hb' => ?_) (enters_of Tryz.func176 (by kernel_rfl) rfl _) (fun w' hb' => type_map _ _ u u2 hul hul2 w' (says_keys (hs.grown hlo hb')) (hs2.grown hlo2 hb')), hb.alloc hb.size _⟩
  have hB := heap_alloc_new wr (.cells #[.slice none 0 0, .iface 66 (.agg #[.iface t x]), .iface t2 x2] 99)
  have hc0 := (hb'.cell (p := ⟨wr.heap.size, 0, none⟩) hb.size (by simp)).trans ((cell_blk hB 0).trans rfl)
  have hc1 := (hb'.cell (p := ⟨wr.heap.size, 1, none⟩) hb.size (by simp)).trans ((cell_blk hB 1).trans rfl)
  have hc2 := (hb'.cell (p := ⟨wr.heap.size, 2, none⟩) hb.size (by simp)).trans ((cell_blk hB 2).trans rfl)
  simp [go_sem, hc0, hc1, hc2]
/-- A tuple, once its columns lie in a row. -/
theorem tuple_out {w wr : World} {gg cap : Nat} {l : Value} {us : List Bs} (hel : ∀ (j : Nat) (u : Bs), us[j]? = some u → u.length ≤ 100000 ∧ ∃ v lo hi, wr.cell? ⟨gg, j, none⟩ = some v ∧ Has lo hi wr v u ∧ w.heap.size ≤ lo) (hgb : w.heap.size ≤ gg) (hgg : gg < wr.heap.size) (hpos : 0 < us.length) (hn3 : us.length ≤ 3) (hb : Below w.heap.size w wr) :
    ColOut (Pu.wrap Pu.bTup us) w (.returned (.iface 76 (.agg #[.slice (some ⟨gg, 0, none⟩) us.length cap, l]))) wr := by
  refine ⟨_, rfl, ⟨Nat.le_refl _, _, _, rfl, fun w' hb' => ⟨185, .slice (some ⟨gg, 0, none⟩) us.length cap, fun n => method_field_value (n := n + 6) (s := ⟨76, 0, false⟩) (by kernel_rfl) rfl Tryz.underlying76 rfl ?_ Tryz.underlying74, enters_of Tryz.func185 (by kernel_rfl) rfl _ w', type_tup us gg 0 cap w' (fun j u hu => ?_) (Nat.lt_of_lt_of_le hgg hb'.size) hpos hn3⟩⟩, hb⟩
  · simp [part, Tryz.isAgg74]
  · obtain ⟨h1, v, lo, hi, h2, h3, h4⟩ := hel j u hu
    exact ⟨h1, v, by rw [Nat.zero_add]; exact (hb'.cell (p := ⟨gg, j, none⟩) hgb hgg).trans h2, (h3.keep (hb'.mono h4 h3.1)).says⟩

theorem len_two {α : Type} {l : List α} (h : l.length = 2) : ∃ a b, l = [a, b] := by
  match l, h with
  | [a, b], _ => exact ⟨a, b, rfl⟩
/-- Each of the columns gathered says its text, and none lies where the row of them may yet be written. -/
def ColsAt (us : List Bs) (B : Nat) (l : Value) (vs : List Value) (wr : World) : Prop :=
  ∀ (j : Nat) (v : Value), vs[j]? = some v → ∃ u lo hi, us[j]? = some u ∧ Has lo hi wr v u ∧ B ≤ lo ∧ ∀ g, l.ownBlock = some g → g < lo ∨ hi ≤ g
/-- The columns gathered so far. -/
def ColsRel (us : List Bs) (B : Nat) (w0 : World) (l idx : Value) (wr : World) : Prop :=
  ∃ (k : Nat) (vs : List Value), k ≤ us.length ∧ idx = .int .i64 (k : Int) ∧ wr.ownsRow B 37 1 l k vs ∧ ColsAt us B l vs wr ∧ Below B w0 wr
theorem cols_form {w : World} {B n : Nat} {e : TypeId} {l : Value} {vs : List Value} (h : w.ownsRow B e 1 l n vs) (hn : 0 < n) :
    ∃ gg cap, l = .slice (some ⟨gg, 0, none⟩) n cap ∧ gg < w.heap.size ∧ B ≤ gg ∧ n ≤ cap ∧ ∀ (j : Nat) (x : Value), vs[j]? = some x → w.cell? ⟨gg, j, none⟩ = some x := by
  rcases h.2 with ⟨_, h0⟩ | ⟨gg, cap, cur, rfl, hg, hb, hc, _, _, ht⟩
  · omega
  · refine ⟨gg, cap, rfl, blk_lt hb, hg, hc, fun j x hx => ?_⟩
    rw [← ht, List.getElem?_take] at hx
    split at hx
    · rw [cell_blk hb]
      simpa using hx
    · cases hx
theorem row_cell {w : World} {B n : Nat} {v : Value} {us : List Bs} (h : w.ownsRow B 9 1 v n (us.map strV)) (hn : 0 < n) :
    ∃ gg cap, v = .slice (some ⟨gg, 0, none⟩) n cap ∧ gg < w.heap.size ∧ n ≤ cap ∧ ∀ (j : Nat) (u : Bs), us[j]? = some u → w.cell? ⟨gg, j, none⟩ = some (.string (S u)) := by
  obtain ⟨gg, cap, rfl, h1, _, h2, h3⟩ := cols_form h hn
  refine ⟨gg, cap, rfl, h1, h2, fun j u hu => h3 j _ ?_⟩
  rw [List.getElem?_map, hu]
  rfl
theorem info37 : (Tryz.prog.info? 37).map (fun i => (i.zero, i.size, i.bytes)) = some (some .nilIface, 1, 16) := by kernel_rfl

theorem cols_next {us : List Bs} {B k : Nat} {w0 wr w1 w2 : World} {l l' v : Value} {vs : List Value} (hk : k < us.length) (hown : wr.ownsRow B 37 1 l k vs) (hel : ColsAt us B l vs wr) (hb : Below B w0 wr) (hB : B ≤ wr.heap.size)
    (hs : Has wr.heap.size w1.heap.size w1 v us[k]) (hb1 : Below wr.heap.size wr w1) (hown2 : w2.ownsRow B 37 1 l' (k + 1) (vs ++ [v])) (hgr : (w1.alloc (.cells #[v] 37)).grownBy w2 l.ownBlock)
    (hat : l'.ownBlock = l.ownBlock ∨ l'.ownBlock = some (w1.heap.size + 1)) : ColsRel us B w0 l' (.int .i64 ((k : Int) + 1)) w2 := by
  have hs1 := hb1.size
  have hsz := hgr.size
  simp only [World.size_alloc] at hsz
  have hvl : vs.length = k := by have := hown.1; omega
  have hw2 : Below B w0 w2 := ((hb.trans (hb1.mono hB)).alloc (by omega) (.cells #[v] 37)).grown hgr (by simp; omega) (fun j hj => (hown.lt j hj).1)
  have hag : ∀ m, m < w1.heap.size → some m ≠ l.ownBlock → w2.heap[m]? = w1.heap[m]? := fun m hm hne => (hgr.block m (by simp; omega) hne).trans (Below.heap_alloc _ _ _ hm)
  refine ⟨k + 1, vs ++ [v], by omega, by go_num, hown2, fun j x hj => ?_, hw2⟩
  by_cases hjk : j < k
  · rw [List.getElem?_append_left (by omega)] at hj
    obtain ⟨u, lo, hi, hu, hh, hlo, hcl⟩ := hel j x hj
    have h1 := hh.1
    refine ⟨u, lo, hi, hu, hh.keep ⟨by omega, fun m h2 h3 => (hag m (by omega) (fun e => ?_)).trans (hb1.block m (by omega))⟩, hlo, fun g hg => ?_⟩
    · rcases hcl m e.symm with h | h <;> omega
    · rcases hat with h | h
      · exact hcl g (h.symm.trans hg)
      · rw [h] at hg
        injection hg with hg
        omega
  · have hlen := (List.getElem?_eq_some_iff.1 hj).1
    rw [List.length_append, List.length_singleton] at hlen
    obtain rfl : j = k := by omega
    have e : v = x := by
      rw [List.getElem?_append_right (by omega), hvl, Nat.sub_self] at hj
      simpa using hj
    subst e
    refine ⟨us[j], wr.heap.size, w1.heap.size, List.getElem?_eq_getElem hk, hs.keep ⟨by omega, fun m h2 h3 => hag m h3 (fun e => ?_)⟩, hB, fun g hg => ?_⟩
    · have := (hown.lt m e.symm).2
      omega
    · rcases hat with h | h
      · have := (hown.lt g (h.symm.trans hg)).2
        omega
      · rw [h] at hg
        injection hg with hg
        omega
theorem info415 : (Tryz.prog.info? 415).map (fun i => (i.zero, i.size, i.bytes)) = some (some .nilIface, 1, 16) := by kernel_rfl
theorem colt_cells {w : World} {b : Nat} {v l : Value} (h : w.heap[b]? = some (.cells #[v, l] 76 (0, 0))) :
    w.cell? ⟨b, 0, none⟩ = some v ∧ w.cell? ⟨b, 1, none⟩ = some l ∧ (∀ o, w.frozen? ⟨b, o, none⟩ = false) :=
  ⟨by rw [cell_blk h]; rfl, by rw [cell_blk h]; rfl, free_blk h⟩
/-- The columns of a tuple, moved so far into the tuple's own row. -/
def TupC (n T : Nat) (vs : List Value) (l : Value) (wr : World) (x : Value) (w2 : World) : Prop :=
  ∃ (k : Nat) (v : Value), k ≤ n ∧ x = .int .i64 (k : Int) ∧ w2.heap[T]? = some (.cells #[v, l] 76 (0, 0)) ∧ w2.ownsRow (T + 1) 415 1 v k (vs.take k) ∧ Below T wr w2
theorem colt_keep {w2 w3 : World} {T n : Nat} {v : Value} {xs : List Value} {O o : Obj} (h : w2.heap[T]? = some O) (hg : (w2.alloc o).grownBy w3 v.ownBlock) (hown : w2.ownsRow (T + 1) 415 1 v n xs) : w3.heap[T]? = some O := by
  have hlt := blk_lt h
  exact (hg.block T (by simp; omega) (fun e => by have := (hown.lt T e.symm).1; omega)).trans ((Below.heap_alloc _ _ _ hlt).trans h)
theorem colt_next {n T k : Nat} {vs : List Value} {l v v' y : Value} {wr w2 w3 : World} (hk : k < n) (hT : w2.heap[T]? = some (.cells #[v, l] 76 (0, 0))) (hown : w2.ownsRow (T + 1) 415 1 v k (vs.take k)) (hb : Below T wr w2) (hy : vs[k]? = some y)
    (hown3 : w3.ownsRow (T + 1) 415 1 v' (k + 1) (vs.take k ++ [y])) (hgr : (w2.alloc (.cells #[y] 415)).grownBy w3 v.ownBlock) : TupC n T vs l wr (.int .i64 ((k : Int) + 1)) (w3.setCell ⟨T, 0, none⟩ v') := by
  have hT3 := colt_keep hT hgr hown
  have hlt := blk_lt hT
  have hb3 : Below T wr w3 := (hb.alloc (Nat.le_of_lt hlt) (.cells #[y] 415)).grown hgr (by simp; omega) (fun j hj => by have := (hown.lt j hj).1; omega)
  refine ⟨k + 1, v', by omega, by go_num, by simp [World.setCell, Array.getElem?_modify, hT3], ?_, hb3.setCell (Nat.le_refl _) _⟩
  have h := ownsRow_setCell_below hown3 (a := ⟨T, 0, none⟩) (Nat.lt_succ_self T) v'
  have e : vs.take (k + 1) = vs.take k ++ [y] := by
    rw [List.take_add_one, hy]
    rfl
  rw [e]
  exact h

set_option maxRecDepth 100000 in
set_option maxHeartbeats 6400000 in
theorem tree_wrap {m : Nat} (nm : Bs) (us : List Bs) (w : World) (hnm : nm.all (fun c => Pu.plain c && decide (c.toNat < 128) && !Lib.isSp c) = true) (hnf : (nm == [70, 105, 120, 101, 100, 83, 116, 114, 105, 110, 103]) = false)
    (hpos : 0 < us.length) (hn3 : us.length ≤ 3) (hf : ∀ u ∈ us, Pu.Fine m u) (hul : ∀ u ∈ us, u.length ≤ 100000) (hlen : (Pu.wrap nm us).length ≤ 100000) (hg : Glob w) (ih : ∀ u ∈ us, ∀ w, Glob w → Calls Tryz.prog 10 #[.string (S u)] w (ColOut u w))
    (hform : ((nm = Pu.bArr ∨ nm = Pu.bNull ∨ nm = Pu.bLow) ∧ us.length = 1) ∨ (nm = Pu.bMap ∧ us.length = 2) ∨ nm = Pu.bTup) :
    Calls Tryz.prog 10 #[.string (S (Pu.wrap nm us))] w (ColOut (Pu.wrap nm us) w) := by
  have hne : us ≠ [] := fun e => by rw [e] at hpos; exact absurd hpos (Nat.lt_irrefl _)
  have hp := parted_wrap nm us w hnm hne hf hlen hg
  obtain ⟨t, ht⟩ : ∃ t, t = Pu.wrap nm us := ⟨_, rfl⟩
  rw [← ht] at hp ⊢
  have HP := Lib.hid hp
  have HT := Lib.hid ht
  have HF := Lib.hid hform
  have IH := Lib.hid ih
  have HN := Lib.hid hnm
  have HU := Lib.hid hul
  obtain ⟨i0, hi, hz0, hz1, hz2⟩ := info_parts info37
  clear hp hform ih ht hf hlen hnm hul
  go_enter Tryz.func10, Tryz.ntmps10
  go_wp2_with (go_at_call 13; refine (HP.out).mono ?_; rintro e w0 ⟨v, rfl, hown0, hb0⟩)
  obtain ⟨gg, cap, rfl, hgl, hnc, hcell⟩ := row_cell hown0 hpos
  have HC := Lib.hid hcell
  have HB0 := Lib.hid hb0
  have HG0 := Lib.hid (hg.later hb0)
  clear hcell hown0
  go_wp2
  have hl := run_len_slice (P := Tryz.prog) (w := w0) 44 3 (some ⟨gg, 0, none⟩) us.length cap (by simp [go_sem])
  rw [hl]
  go_wp2
  go_loopw [5, 21] (fun l i wr => ColsRel us w0.heap.size w0 l i wr) (fun _ i _ => us.length - (intOf i).toNat)
  case atStart => exact ⟨0, [], Nat.zero_le _, rfl, World.ownsRow_nil _ _ _ _, (fun j v h => by simp at h), Below.refl _ _⟩
  case round =>
    obtain ⟨k, vs, hk, rfl, hown, hel, hbl⟩ := hrel
    have hsz := hbl.size
    by_cases hlt : k < us.length
    · have hc := (hbl.cell (p := ⟨gg, k, none⟩) hgl).trans (HC.out k us[k] (List.getElem?_eq_getElem hlt))
      have HGR := Lib.hid (HG0.out.later hbl)
      have HI := Lib.hid (IH.out us[k] (List.getElem_mem hlt) wr HGR.out)
      have HOWN := Lib.hid hown
      have HEL := Lib.hid hel
      have HBL := Lib.hid hbl
      clear hown hel hbl
      go_wp2_with (first
        | (go_at_call 10; refine (HI.out).mono ?_; rintro e w1 ⟨v, rfl, hs1, hb1⟩; obtain ⟨t1, x1, rfl⟩ := hs1.nonnil)
        | (at_builtin; refine wpList_append_own_at _ rfl _ _ 47 rfl w0.heap.size 37 i0 .nilIface 1 16 Tryz.underlying47 hi hz0 hz1 hz2 rfl (by decide) _ _ _ rfl (((HOWN.out).kept (grown_of_below hb1 none) (own_none _)).alloc _) ⟨w1.heap.size, 0, none⟩ 1 1 [.iface t1 x1] rfl rfl ?c1 ?c2 ?c3 ?c4 ?c5 ?_))
      case c1 => exact cell_one_new _ _ _
      case c2 => simp [Value.oneCell']
      case c3 => unfold maxLen; omega
      case c4 => omega
      case c5 => have := hb1.size; simp; omega
      intro v' w2 hown2 hgrow2 _ hat2
      have hnext := cols_next hlt HOWN.out HEL.out HBL.out hsz hs1 hb1 hown2 hgrow2 hat2
      have HX := Lib.hid hnext
      clear hown2 hgrow2 hnext hs1 hat2
      go_wp2
      go_roundw
      case rel => exact HX.out
      case measure => simp [intOf]; omega
    · obtain rfl : k = us.length := by omega
      have hbw : Below w.heap.size w wr := HB0.out.trans (hbl.mono HB0.out.size)
      obtain ⟨g2, cap2, rfl, hg2, _, hnc2, hcel⟩ := cols_form hown hpos
      have hvl : vs.length = us.length := by have := hown.1; omega
      have HE := Lib.hid hel
      have HW := Lib.hid hbw
      have HL := Lib.hid hcel
      clear hel hbw hcel hbl hown
      rcases HF.out with ⟨h1, hu⟩ | ⟨h1, hu⟩ | h1
      · obtain ⟨u, rfl⟩ := List.length_eq_one_iff.1 hu
        obtain ⟨v0, rfl⟩ := List.length_eq_one_iff.1 (hvl.trans hu)
        obtain ⟨u', lo, hi', hu', hs, hlo, _⟩ := HE.out 0 v0 rfl
        have hlo := Nat.le_trans HB0.out.size hlo
        obtain rfl : u = u' := by simpa using hu'
        obtain ⟨t0, x0, rfl⟩ := hs.nonnil
        have hc0 := HL.out 0 _ rfl
        have HS := Lib.hid hs
        have hul := HU.out u (List.mem_singleton.2 rfl)
        simp only [List.length_singleton] at *
        clear hs hu hvl hu' 
        rcases h1 with rfl | rfl | rfl
        · go_wp2_with (go_at_call 14; refine (new_arr t0 x0 wr).mono ?_; rintro e w1 ⟨rfl, rfl⟩)
          go_ret
          rw [HT.out]
          exact arr_out HS.out hlo hul HW.out
        · go_wp2_with (go_at_call 15; refine (new_null t0 x0 wr).mono ?_; rintro e w1 ⟨rfl, rfl⟩)
          go_ret
          rw [HT.out]
          exact null_out HS.out hlo hul HW.out
        · go_wp2_with (go_at_call 16; refine (new_low 66 (.agg #[.iface t0 x0]) wr).mono ?_; rintro e w1 ⟨rfl, rfl⟩)
          go_ret
          rw [HT.out]
          exact low_out HS.out hlo hul HW.out
      · obtain ⟨u, u2, rfl⟩ := len_two hu
        obtain ⟨v0, v1, rfl⟩ := len_two (hvl.trans hu)
        obtain ⟨u', lo, hi', hu', hs, hlo, _⟩ := HE.out 0 v0 rfl
        obtain ⟨u2', lo2, hi2, hu2', hs2, hlo2, _⟩ := HE.out 1 v1 rfl
        have hlo := Nat.le_trans HB0.out.size hlo
        have hlo2 := Nat.le_trans HB0.out.size hlo2
        obtain rfl : u = u' := by simpa using hu'
        obtain rfl : u2 = u2' := by simpa using hu2'
        obtain ⟨t0, x0, rfl⟩ := hs.nonnil
        obtain ⟨t1, x1, rfl⟩ := hs2.nonnil
        have hc0 := HL.out 0 _ rfl
        have hc1 := HL.out 1 _ rfl
        have HS := Lib.hid (hs.later (Below.refl _ _).drew)
        have HS2 := Lib.hid (hs2.later (Below.refl _ _).drew)
        have hul := HU.out u (by simp)
        have hul2 := HU.out u2 (by simp)
        have hd0 : wr.drew.cell? ⟨g2, 0, none⟩ = some (.iface t0 x0) := hc0
        have hd1 : wr.drew.cell? ⟨g2, 1, none⟩ = some (.iface t1 x1) := hc1
        simp only [List.length_cons, List.length_nil, Nat.zero_add, Nat.reduceAdd] at *
        clear hs hs2 hu hvl hu' hu2'
        subst h1
        go_wp2_with fail
        go_region_law (go_simp; go_at_call 17; refine (new_map 66 (.agg #[.iface t0 x0]) t1 x1 _).mono ?_; rintro e w1 ⟨rfl, rfl⟩)
        all_goals go_wp2_with fail
        all_goals go_ret
        all_goals rw [HT.out]
        all_goals exact map_out HS.out hlo HS2.out hlo2 hul hul2 HW.out.drew
      · subst h1
        obtain ⟨i1, hi1, hy0, hy1, hy2⟩ := info_parts info415
        have hl2 := run_len_slice (P := Tryz.prog) (w := wr) 47 3 (some ⟨g2, 0, none⟩) us.length cap2 (by simp [go_sem])
        go_wp2_with fail
        obtain ⟨W, rfl⟩ : ∃ W, W = wr := ⟨_, rfl⟩
        go_loopw [109] (fun i w2 => TupC us.length W.heap.size vs (.slice (some ⟨g2, 0, none⟩) us.length cap2) W i w2) (fun i _ => us.length - (intOf i).toNat)
        case atStart => exact ⟨0, .slice none 0 0, Nat.zero_le _, rfl, heap_alloc_new W _, World.ownsRow_nil _ _ _ _, (Below.refl _ _).alloc (Nat.le_refl _) _⟩
        case round =>
          obtain ⟨k, v, hk, rfl, hT, hown, hbl⟩ := hrel
          obtain ⟨a0, a1, f0⟩ := colt_cells hT
          have hTl := blk_lt hT
          have hsz2 := hbl.size
          have HT2 := Lib.hid hT
          have HOWN := Lib.hid hown
          have HBL := Lib.hid hbl
          clear hT hown hbl
          by_cases hlt : k < us.length
          · obtain ⟨y, hy⟩ : ∃ y, vs[k]? = some y := ⟨_, List.getElem?_eq_getElem (by omega)⟩
            obtain ⟨_, _, _, _, hh, _⟩ := HE.out k y hy
            obtain ⟨t1, x1, rfl⟩ := hh.nonnil
            have hc := (HBL.out.cell (p := ⟨g2, k, none⟩) hg2).trans (HL.out k _ hy)
            have HY := Lib.hid hy
            clear hh hy
            go_wp2_with (first
              | (at_builtin; refine wpList_append_own _ rfl _ _ 74 rfl (W.heap.size + 1) 415 i1 .nilIface 1 16 Tryz.underlying74 hi1 hy0 hy1 hy2 rfl (by decide) _ _ _ rfl (HOWN.out.alloc _) ⟨wr.heap.size, 0, none⟩ 1 1 [.iface t1 x1] rfl rfl ?c1 ?c2 ?c3 ?c4 ?c5 ?_))
            case c1 => exact cell_one_new _ _ _
            case c2 => simp [Value.oneCell']
            case c3 => unfold maxLen; omega
            case c4 => omega
            case c5 => simp; omega
            intro v' w3 hown3 hgr3 _
            obtain ⟨g4, cap4, rfl, _⟩ := cols_form hown3 (Nat.succ_pos k)
            have hT3 := colt_keep HT2.out hgr3 HOWN.out
            have hnext := colt_next hlt HT2.out HOWN.out HBL.out HY.out hown3 hgr3
            obtain ⟨b0, b1, f3⟩ := colt_cells hT3
            have hTl3 := blk_lt hT3
            have HX := Lib.hid hnext
            clear hown3 hgr3 hT3 hnext
            go_wp2_with fail
            go_roundw
            case rel => exact HX.out
            case measure => simp [intOf]; omega
          · obtain rfl : k = us.length := by omega
            obtain ⟨g3, cap3, rfl, hg3, hg3b, hnc3, hcel3⟩ := cols_form HOWN.out hpos
            have hel3 : ∀ (j : Nat) (u : Bs), us[j]? = some u → u.length ≤ 100000 ∧ ∃ v lo hi, wr.cell? ⟨g3, j, none⟩ = some v ∧ Has lo hi wr v u ∧ w.heap.size ≤ lo := fun j u hu => by
              have hj := (List.getElem?_eq_some_iff.1 hu).1
              have hv : vs[j]? = some vs[j] := List.getElem?_eq_getElem (by omega)
              obtain ⟨u', lo, hi, hu', hh, hlo, _⟩ := HE.out j _ hv
              obtain rfl : u = u' := by rw [hu] at hu'; injection hu'
              exact ⟨HU.out u (List.mem_of_getElem? hu), _, lo, hi, hcel3 j _ (by rw [List.getElem?_take, if_pos (by omega)]; exact hv), hh.later HBL.out, Nat.le_trans HB0.out.size hlo⟩
            have hwb : Below w.heap.size w wr := HW.out.trans (HBL.out.mono HW.out.size)
            have hout := tuple_out (w := w) (cap := cap3) (l := .slice (some ⟨g2, 0, none⟩) us.length cap2) hel3 (by have := HW.out.size; omega) hg3 hpos hn3 hwb
            have HO := Lib.hid hout
            clear hel3 hcel3 hout hwb
            go_wp2_with fail
            go_ret
            rw [HT.out]
            exact HO.out
end Go.Proofs.YtcidlnjpabgioaaGreatDoor
