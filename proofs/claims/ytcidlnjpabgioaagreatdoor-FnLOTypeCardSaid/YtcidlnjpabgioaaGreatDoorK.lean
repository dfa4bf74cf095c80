/- Method Type, asked of the columns. -/
import Derived.Test.YtcidlnjpabgioaaGreatDoorJ
import Derived.Test.YtcidlnjpabgioaaGreatDoorM
import Derived.Shelf.Abstract
set_option linter.unusedSimpArgs false
set_option linter.unusedVariables false
namespace Go.Proofs.YtcidlnjpabgioaaGreatDoor
open Go.RowKit Go.Shelf
open Pu (Bs)

/-- Another world that holds what one world holds in a stretch of its blocks. -/
structure Kept (lo hi : Nat) (w w' : World) : Prop where
  size : hi ≤ w'.heap.size
  block : ∀ k, lo ≤ k → k < hi → w'.heap[k]? = w.heap[k]?
theorem Kept.cell {lo hi : Nat} {w w' : World} (h : Kept lo hi w w') {p : Addr} (h1 : lo ≤ p.block) (h2 : p.block < hi) : w'.cell? p = w.cell? p := by
  unfold World.cell?
  rw [h.block p.block h1 h2]
theorem Kept.trans {lo hi : Nat} {w w1 w2 : World} (h : Kept lo hi w w1) (h' : Kept lo hi w1 w2) : Kept lo hi w w2 := ⟨h'.size, fun k h1 h2 => (h'.block k h1 h2).trans (h.block k h1 h2)⟩
theorem Kept.mono {lo hi lo' hi' : Nat} {w w1 : World} (h : Kept lo hi w w1) (h1 : lo ≤ lo') (h2 : hi' ≤ hi) : Kept lo' hi' w w1 := ⟨Nat.le_trans h2 h.size, fun k h3 h4 => h.block k (by omega) (by omega)⟩
theorem Kept.of {lo hi : Nat} {w w1 : World} (hb : Below w.heap.size w w1) (h1 : hi ≤ w.heap.size) : Kept lo hi w w1 := ⟨Nat.le_trans h1 hb.size, fun k _ h3 => hb.block k (by omega)⟩
/-- A column whose method Type says this text as long as the blocks of a stretch are kept. -/
def Has (lo hi : Nat) (w : World) (v : Value) (s : Bs) : Prop :=
  hi ≤ w.heap.size ∧ ∃ t x, v = .iface t x ∧ ∀ w', Kept lo hi w w' → ∃ f r, (∀ n, (method (n + 7) t x "Type").run Tryz.prog w' = .ok (f, r) w') ∧ (callFunc f #[r]).run Tryz.prog w' = .ok (.enter f #[r]) w' ∧
    Calls Tryz.prog f #[r] w' (Gives w' s)
theorem Has.says {lo hi : Nat} {w : World} {v : Value} {s : Bs} (h : Has lo hi w v s) : Says Tryz.prog 7 w v s := by
  obtain ⟨hs, t, x, rfl, h⟩ := h
  exact ⟨t, x, rfl, fun w' hb => h w' (.of hb hs)⟩
theorem Has.keep {lo hi : Nat} {w w1 : World} {v : Value} {s : Bs} (h : Has lo hi w v s) (hk : Kept lo hi w w1) : Has lo hi w1 v s := by
  obtain ⟨_, t, x, rfl, h⟩ := h
  exact ⟨hk.size, t, x, rfl, fun w' hw => h w' (hk.trans hw)⟩
theorem Has.later {lo hi : Nat} {w w1 : World} {v : Value} {s : Bs} (h : Has lo hi w v s) (hb : Below w.heap.size w w1) : Has lo hi w1 v s := h.keep (.of hb h.1)
theorem Has.nonnil {lo hi : Nat} {w : World} {v : Value} {s : Bs} (h : Has lo hi w v s) : ∃ t x, v = .iface t x := h.says.nonnil

/-- What makes a column hands back. -/
def ColOut (s : Bs) (w : World) (e : Ending) (w' : World) : Prop := ∃ v, e = .returned v ∧ Has w.heap.size w'.heap.size w' v s ∧ Below w.heap.size w w'

/-- A leaf says the text of its column. -/
theorem has_leaf {LT PT COL PF b lo : Nat} {w : World} {fs : Array Field} {f : Field} {v f1 f2 : Value} {s : Bs} (hr : rowOf Tryz.prog LT "Type" = some (none, [⟨LT, 0, false⟩])) (hu : Tryz.prog.underlying LT = some (.struct fs)) (hfs : fs[0]? = some f) (hoff : f.offset = 0)
    (hag : ∀ w, (isAgg f.type).run Tryz.prog w = .ok false w) (hr2 : rowOf Tryz.prog PT "Type" = some (some (PF, false), [])) (hu2 : Tryz.prog.underlying PT = some (.pointer COL))
    (hl : ∀ w', Kept lo w.heap.size w w' → (loadVar COL ⟨b, 0, none⟩).run Tryz.prog w' = .ok v w') (hen : ∀ w', (callFunc PF #[v]).run Tryz.prog w' = .ok (.enter PF #[v]) w') (hc : ∀ w', Calls Tryz.prog PF #[v] w' (Gives w' s)) :
    Has lo w.heap.size w (.iface LT (.agg #[.iface PT (.pointer (some ⟨b, 0, none⟩)), f1, f2])) s := by
  refine ⟨Nat.le_refl _, _, _, rfl, fun w' hb => ⟨PF, v, fun n => ?_, hen w', hc w'⟩⟩
  rw [method_embed (n := n + 6) (s := ⟨LT, 0, false⟩) (t' := PT) (v' := .pointer (some ⟨b, 0, none⟩)) hr rfl hu hfs (by simp [part, hag, hoff])]
  exact method_load (n := n + 5) hr2 hu2 (hl w' hb)

/-- A column by pointer, in a struct of its own: it says what the pointed-to struct's Type says. -/
theorem has_wrap {WT PT COL PF b lo : Nat} {w : World} {fs : Array Field} {f : Field} {v : Value} {s : Bs} (hr : rowOf Tryz.prog WT "Type" = some (some (PF, false), [⟨WT, 0, false⟩])) (hu : Tryz.prog.underlying WT = some (.struct fs)) (hfs : fs[0]? = some f) (hoff : f.offset = 0)
    (hag : ∀ w, (isAgg f.type).run Tryz.prog w = .ok false w) (hty : f.type = PT) (hu2 : Tryz.prog.underlying PT = some (.pointer COL))
    (hl : ∀ w', Kept lo w.heap.size w w' → (loadVar COL ⟨b, 0, none⟩).run Tryz.prog w' = .ok v w') (hen : ∀ w', (callFunc PF #[v]).run Tryz.prog w' = .ok (.enter PF #[v]) w') (hc : ∀ w', Kept lo w.heap.size w w' → Calls Tryz.prog PF #[v] w' (Gives w' s)) :
    Has lo w.heap.size w (.iface WT (.agg #[.pointer (some ⟨b, 0, none⟩)])) s := by
  subst hty
  exact ⟨Nat.le_refl _, _, _, rfl, fun w' hb => ⟨PF, v, fun n => method_field_load (n := n + 6) hr rfl hu hfs (by simp [part, hag, hoff]) hu2 (hl w' hb), hen w', hc w' hb⟩⟩

/-- A column of keys says what its column says. -/
theorem says_keys {w : World} {v : Value} {s : Bs} (h : Says Tryz.prog 7 w v s) : Says Tryz.prog 8 w (.iface 66 (.agg #[v])) s := by
  obtain ⟨t, x, rfl, h⟩ := h
  refine ⟨_, _, rfl, fun w' hb => ?_⟩
  obtain ⟨f, r, hm, hen, hc⟩ := h w' hb
  refine ⟨f, r, fun n => ?_, hen, hc⟩
  rw [method_embed (n := n + 7) (s := ⟨66, 0, false⟩) (t' := t) (v' := x) (by kernel_rfl) rfl Tryz.underlying66 rfl (by simp [part, Tryz.isAgg37])]
  exact hm n

theorem one_str (w : World) (s : Bs) : ∀ (j : Nat) (u : Bs), [s][j]? = some u → (w.alloc (.cells #[.string (S s)] 39)).cell? ⟨w.heap.size, 0 + j, none⟩ = some (.string (S u)) := fun j u h => by
  have hj : j = 0 := by
    have := (List.getElem?_eq_some_iff.1 h).1
    simpa using this
  subst hj
  obtain rfl : s = u := by simpa using h
  rw [cell_blk (heap_alloc_new w _)]
  rfl
theorem two_strs (w : World) (s u : Bs) : ∀ (j : Nat) (x : Bs), [s, u][j]? = some x → (w.alloc (.cells #[.string (S s), .string (S u)] 39)).cell? ⟨w.heap.size, 0 + j, none⟩ = some (.string (S x)) := fun j x h => by
  have hj : j = 0 ∨ j = 1 := by
    have := (List.getElem?_eq_some_iff.1 h).1
    simp at this
    omega
  rw [cell_blk (heap_alloc_new w _)]
  rcases hj with rfl | rfl
  · obtain rfl : s = x := by simpa using h
    rfl
  · obtain rfl : u = x := by simpa using h
    rfl

set_option maxRecDepth 100000 in
set_option maxHeartbeats 800000 in
theorem type_arr (v : Value) (s : Bs) (hsl : s.length ≤ 100000) (w : World) (hs : Says Tryz.prog 7 w v s) : Calls Tryz.prog 139 #[.agg #[.slice none 0 0, v]] w (Gives w (Pu.wrap Pu.bArr [s])) := by
  have hs' := hs.later ((Below.refl _ _).alloc (Nat.le_refl _) (.cells #[.slice none 0 0, v] 82))
  obtain ⟨t, x, rfl⟩ := hs.nonnil
  have HS := Lib.hid hs'
  clear hs hs'
  go_enter Tryz.func139, Tryz.ntmps139
  go_wp2_with (refine wpList_type rfl _ rfl _ rfl s (by decide) HS.out ?_; intro w1 hb1)
  refine (sub_any Pu.bArr [s] w1.heap.size 0 1 _ (one_str w1 s) (by simp) (by simp) (by simp) (by simp) (by simp only [Pu.joinS]; omega) (by decide)).mono ?_
  rintro e w2 ⟨rfl, hb2⟩
  go_wp2
  go_ret
  exact ⟨rfl, ((((Below.refl _ _).alloc (Nat.le_refl _) _).trans (hb1.mono (by simp))).alloc (by have := hb1.size; simp at this; omega) _).trans (hb2.mono (by have := hb1.size; simp at this ⊢; omega))⟩

set_option maxRecDepth 100000 in
set_option maxHeartbeats 800000 in
theorem type_null (v : Value) (s : Bs) (hsl : s.length ≤ 100000) (w : World) (hs : Says Tryz.prog 7 w v s) : Calls Tryz.prog 158 #[.agg #[.slice none 0 0, v]] w (Gives w (Pu.wrap Pu.bNull [s])) := by
  have hs' := hs.later ((Below.refl _ _).alloc (Nat.le_refl _) (.cells #[.slice none 0 0, v] 85))
  obtain ⟨t, x, rfl⟩ := hs.nonnil
  have HS := Lib.hid hs'
  clear hs hs'
  go_enter Tryz.func158, Tryz.ntmps158
  go_wp2_with (refine wpList_type rfl _ rfl _ rfl s (by decide) HS.out ?_; intro w1 hb1)
  refine (sub_any Pu.bNull [s] w1.heap.size 0 1 _ (one_str w1 s) (by simp) (by simp) (by simp) (by simp) (by simp only [Pu.joinS]; omega) (by decide)).mono ?_
  rintro e w2 ⟨rfl, hb2⟩
  go_wp2
  go_ret
  exact ⟨rfl, ((((Below.refl _ _).alloc (Nat.le_refl _) _).trans (hb1.mono (by simp))).alloc (by have := hb1.size; simp at this; omega) _).trans (hb2.mono (by have := hb1.size; simp at this ⊢; omega))⟩

set_option maxRecDepth 100000 in
set_option maxHeartbeats 800000 in
theorem type_low (v : Value) (s : Bs) (hsl : s.length ≤ 100000) (w : World) (hs : Says Tryz.prog 8 w v s) : Calls Tryz.prog 167 #[.agg #[.slice none 0 0, v, .int .u8 0, .slice none 0 0, .slice none 0 0, .slice none 0 0, .slice none 0 0, .map none, .slice none 0 0]] w (Gives w (Pu.wrap Pu.bLow [s])) := by
  have hs' := hs.later ((Below.refl _ _).alloc (Nat.le_refl _) (.cells #[.slice none 0 0, v, .int .u8 0, .slice none 0 0, .slice none 0 0, .slice none 0 0, .slice none 0 0, .map none, .slice none 0 0] 97))
  obtain ⟨t, x, rfl⟩ := hs.nonnil
  have HS := Lib.hid hs'
  clear hs hs'
  go_enter Tryz.func167, Tryz.ntmps167
  go_wp2_with (refine wpList_type rfl _ rfl _ rfl s (by decide) HS.out ?_; intro w1 hb1)
  refine (sub_any Pu.bLow [s] w1.heap.size 0 1 _ (one_str w1 s) (by simp) (by simp) (by simp) (by simp) (by simp only [Pu.joinS]; omega) (by decide)).mono ?_
  rintro e w2 ⟨rfl, hb2⟩
  go_wp2
  go_ret
  exact ⟨rfl, ((((Below.refl _ _).alloc (Nat.le_refl _) _).trans (hb1.mono (by simp))).alloc (by have := hb1.size; simp at this; omega) _).trans (hb2.mono (by have := hb1.size; simp at this ⊢; omega))⟩

end Go.Proofs.YtcidlnjpabgioaaGreatDoor
