/- The walk of tree: its leaves, and all of it. -/
import Derived.Test.YtcidlnjpabgioaaGreatDoorP
import Derived.Test.YtcidlnjpabgioaaGreatDoorQ
import Derived.Test.YtcidlnjpabgioaaGreatDoorT
import Derived.Test.YtcidlnjpabgioaaGreatDoorG
set_option linter.unusedSimpArgs false
set_option linter.unusedVariables false
namespace Go.Proofs.YtcidlnjpabgioaaGreatDoor
open Go.RowKit Go.Shelf
open Pu (Bs)

set_option maxRecDepth 100000 in
set_option maxHeartbeats 1600000 in
theorem tree_plain (t : Bs) (w : World) (hlen : t.length ≤ 100000) (h40 : t.all (fun c => c != 40) = true) (h0 : (t == [70, 105, 120, 101, 100, 83, 116, 114, 105, 110, 103]) = false) (h1 : (t == [65, 114, 114, 97, 121]) = false) (h2 : (t == [78, 117, 108, 108, 97, 98, 108, 101]) = false) (h3 : (t == [76, 111, 119, 67, 97, 114, 100, 105, 110, 97, 108, 105, 116, 121]) = false) (h4 : (t == [77, 97, 112]) = false) (h5 : (t == [84, 117, 112, 108, 101]) = false)
    (hp : Calls Tryz.prog 18 #[.string (S t), .slice none 0 0] w (ColOut t w)) : Calls Tryz.prog 10 #[.string (S t)] w (ColOut t w) := by
  have HP := Lib.hid hp
  have HT := Lib.hid (parted_plain t w hlen (index_no t h40))
  clear hp hlen h40
  go_enter Tryz.func10, Tryz.ntmps10
  go_wp2_with (go_at_call 13; refine (HT.out).mono ?_; rintro e w0 ⟨rfl, rfl⟩)
  go_loopw [5, 21] (fun l i wr => l = .slice none 0 0 ∧ i = .int .i64 0 ∧ w = wr) (fun _ _ _ => 0)
  case atStart => exact ⟨rfl, rfl, rfl⟩
  case round =>
    obtain ⟨rfl, rfl, rfl⟩ := hrel
    go_wp2_with (go_at_call 18; refine (HP.out).mono ?_; rintro e w1 ⟨v, rfl, hv, hb⟩)
    go_ret
    exact ⟨v, rfl, hv, hb⟩
theorem Has.low {lo lo' hi : Nat} {w : World} {v : Value} {s : Bs} (h : Has lo hi w v s) (hl : lo' ≤ lo) : Has lo' hi w v s := by
  obtain ⟨a, t, x, rfl, h⟩ := h
  exact ⟨a, t, x, rfl, fun w' hk => h w' (hk.mono hl (Nat.le_refl _))⟩
set_option maxRecDepth 100000 in
set_option maxHeartbeats 1600000 in
theorem tree_fix (d : Bs) (w : World) (hd : Pu.Fine 15 d) (hdl : d.length ≤ 2) (hg : Glob w)
    (hp : ∀ (w : World) (b o c : Nat), b < w.heap.size → w.cell? ⟨b, o, none⟩ = some (.string (S d)) → Calls Tryz.prog 18 #[.string (S Pu.bFix), .slice (some ⟨b, o, none⟩) 1 c] w (ColOut (Pu.wrap Pu.bFix [d]) w)) :
    Calls Tryz.prog 10 #[.string (S (Pu.wrap Pu.bFix [d]))] w (ColOut (Pu.wrap Pu.bFix [d]) w) := by
  have hq := parted_wrap (m := 15) Pu.bFix [d] w (by decide) (by simp) (fun u hu => by simp only [List.mem_singleton] at hu; subst hu; exact hd) (by simp only [Pu.wrap, Pu.bFix, Pu.joinS, List.length_append, List.length_cons, List.length_nil]; omega) hg
  obtain ⟨t, ht⟩ : ∃ t, t = Pu.wrap Pu.bFix [d] := ⟨_, rfl⟩
  rw [← ht] at hq hp ⊢
  have HP := Lib.hid hp
  have HT := Lib.hid hq
  clear hp hq ht
  go_enter Tryz.func10, Tryz.ntmps10
  go_wp2_with (go_at_call 13; refine (HT.out).mono ?_; rintro e w0 ⟨v, rfl, hown0, hb0⟩; obtain ⟨gg, cap, rfl, hgl, hnc, hcell⟩ := row_cell hown0 (Nat.succ_pos 0); have hc := hcell 0 d rfl)
  clear hown0 hcell
  go_wp2_with (go_at_call 18; refine (HP.out w0 gg 0 cap hgl hc).mono ?_; rintro e w1 ⟨v, rfl, hv, hb⟩)
  go_ret
  exact ⟨v, rfl, hv.low hb0.size, hb0.trans (hb.mono hb0.size)⟩

theorem tree_leaf (s : Bs) (hs : s ∈ Pu.leaves) (w : World) (hg : Glob w) : Calls Tryz.prog 10 #[.string (S s)] w (ColOut s w) := by
  simp only [Pu.leaves, List.mem_cons, List.not_mem_nil, or_false] at hs
  rcases hs with rfl | rfl | rfl | rfl | rfl | rfl | rfl | rfl | rfl | rfl | rfl | rfl | rfl | rfl | rfl
  · exact tree_plain _ w (by decide) rfl rfl rfl rfl rfl rfl rfl (num_7 w hg)
  · exact tree_plain _ w (by decide) rfl rfl rfl rfl rfl rfl rfl (num_2 w hg)
  · exact tree_plain _ w (by decide) rfl rfl rfl rfl rfl rfl rfl (num_9 w hg)
  · exact tree_plain _ w (by decide) rfl rfl rfl rfl rfl rfl rfl (num_4 w hg)
  · exact tree_plain _ w (by decide) rfl rfl rfl rfl rfl rfl rfl (num_10 w hg)
  · exact tree_plain _ w (by decide) rfl rfl rfl rfl rfl rfl rfl (num_5 w hg)
  · exact tree_plain _ w (by decide) rfl rfl rfl rfl rfl rfl rfl (num_12 w hg)
  · exact tree_plain _ w (by decide) rfl rfl rfl rfl rfl rfl rfl (num_17 w hg)
  · exact tree_plain _ w (by decide) rfl rfl rfl rfl rfl rfl rfl (num_18 w hg)
  · exact tree_plain _ w (by decide) rfl rfl rfl rfl rfl rfl rfl (num_1 w hg)
  · exact tree_plain _ w (by decide) rfl rfl rfl rfl rfl rfl rfl (num_8 w hg)
  · exact tree_plain _ w (by decide) rfl rfl rfl rfl rfl rfl rfl (num_3 w hg)
  · exact tree_plain _ w (by decide) rfl rfl rfl rfl rfl rfl rfl (plain_str w)
  · exact tree_fix [53] w (Pu.leaf_plain (by decide) (by decide) (by decide)) (by decide) hg plain_fix5
  · exact tree_fix [49, 54] w (Pu.leaf_plain (by decide) (by decide) (by decide)) (by decide) hg plain_fix16

theorem leaf_len {u : Bs} (h : u ∈ Pu.leaves) : u.length ≤ 100000 := Nat.le_trans (Pu.leaves_fine u h).len (by decide)
theorem one_all {p : Bs → Prop} {u : Bs} (h : p u) : ∀ x ∈ [u], p x := fun x hx => by
  simp only [List.mem_singleton] at hx
  subst hx
  exact h
theorem two_all {p : Bs → Prop} {u v : Bs} (h : p u) (h2 : p v) : ∀ x ∈ [u, v], p x := fun x hx => by
  simp only [List.mem_cons, List.not_mem_nil, or_false] at hx
  rcases hx with rfl | rfl
  · exact h
  · exact h2
theorem base_len {s : Bs} (h : Pu.Base s) : s.length ≤ 100000 := good_len (d := 0) (by decide) h
theorem tree_low (w : World) (hg : Glob w) : Calls Tryz.prog 10 #[.string (S (Pu.wrap Pu.bLow [Pu.bStr]))] w (ColOut (Pu.wrap Pu.bLow [Pu.bStr]) w) :=
  tree_wrap Pu.bLow [Pu.bStr] w (by decide) rfl (by decide) (by decide) (one_all (p := fun u => Pu.Fine 15 u) Pu.str_fine) (one_all (p := fun u => u.length ≤ 100000) (by decide)) (by decide) hg
    (one_all (p := fun u => ∀ w, Glob w → Calls Tryz.prog 10 #[.string (S u)] w (ColOut u w)) (fun w hg => tree_leaf _ (by decide) w hg)) (.inl ⟨.inr (.inr rfl), rfl⟩)
theorem tree_base (s : Bs) (h : Pu.Base s) (w : World) (hg : Glob w) : Calls Tryz.prog 10 #[.string (S s)] w (ColOut s w) := by
  have hl := base_len h
  rcases h with h | ⟨u, hu, rfl⟩ | rfl
  · exact tree_leaf s h w hg
  · exact tree_wrap Pu.bNull [u] w (by decide) rfl (Nat.succ_pos _) (show 1 ≤ 3 by decide) (one_all (p := fun u => Pu.Fine 15 u) (Pu.leaves_fine u hu)) (one_all (p := fun u => u.length ≤ 100000) (leaf_len hu)) hl hg
      (one_all (p := fun u => ∀ w, Glob w → Calls Tryz.prog 10 #[.string (S u)] w (ColOut u w)) (fun w hg => tree_leaf u hu w hg)) (.inl ⟨.inr (.inl rfl), rfl⟩)
  · exact tree_low w hg
/-- tree makes, of each type's text, a column that says it. -/
theorem tree_any : ∀ (d : Nat), d ≤ 3 → ∀ (s : Bs), Pu.Good d s → ∀ (w : World), Glob w → Calls Tryz.prog 10 #[.string (S s)] w (ColOut s w)
  | 0, _, s, h, w, hg => tree_base s h w hg
  | d + 1, hd, s, h, w, hg => by
    have hl := good_len hd h
    have ih := tree_any d (by omega)
    have hd' : d ≤ 3 := by omega
    rcases h with h | ⟨u, hu, rfl⟩ | ⟨k, v, hk, hv, rfl⟩ | ⟨us, h0, h3, hus, rfl⟩
    · exact tree_base s h w hg
    · exact tree_wrap Pu.bArr [u] w (by decide) rfl (Nat.succ_pos _) (show 1 ≤ 3 by decide) (one_all (p := fun u => Pu.Fine (Pu.most d) u) (Pu.Good.fine d u hu)) (one_all (p := fun u => u.length ≤ 100000) (good_len hd' hu)) hl hg
        (one_all (p := fun u => ∀ w, Glob w → Calls Tryz.prog 10 #[.string (S u)] w (ColOut u w)) (ih u hu)) (.inl ⟨.inl rfl, rfl⟩)
    · have hkb : Pu.Base k := by
        rcases hk with hk | hk
        · exact .inl hk
        · exact .inr (.inr hk)
      exact tree_wrap Pu.bMap [k, v] w (by decide) rfl (Nat.succ_pos _) (show 2 ≤ 3 by decide) (two_all (p := fun u => Pu.Fine (Pu.most d) u) ((Pu.base_fine hkb).mono (Pu.most_le d)) (Pu.Good.fine d v hv)) (two_all (p := fun u => u.length ≤ 100000) (base_len hkb) (good_len hd' hv)) hl hg
        (two_all (p := fun u => ∀ w, Glob w → Calls Tryz.prog 10 #[.string (S u)] w (ColOut u w)) (tree_base k hkb) (ih v hv)) (.inr (.inl ⟨rfl, rfl⟩))
    · exact tree_wrap Pu.bTup us w (by decide) rfl h0 h3 (fun u hu => Pu.Good.fine d u (hus u hu)) (fun u hu => good_len hd' (hus u hu)) hl hg (fun u hu => ih u (hus u hu)) (.inr (.inr rfl))
end Go.Proofs.YtcidlnjpabgioaaGreatDoor
