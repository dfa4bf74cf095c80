/- Method Type of maps and tuples. -/
import Derived.Test.YtcidlnjpabgioaaGreatDoorK
import Derived.Deep.RegionLaw
set_option linter.unusedSimpArgs false
set_option linter.unusedVariables false
namespace Go.Proofs.YtcidlnjpabgioaaGreatDoor
open Go.RowKit Go.Shelf
open Pu (Bs)

set_option maxRecDepth 100000 in
set_option maxHeartbeats 1600000 in
theorem type_map (kv v : Value) (s u : Bs) (hsl : s.length ≤ 100000) (hul : u.length ≤ 100000) (w : World) (hk : Says Tryz.prog 8 w kv s) (hv : Says Tryz.prog 7 w v u) :
    Calls Tryz.prog 176 #[.agg #[.slice none 0 0, kv, v]] w (Gives w (Pu.wrap Pu.bMap [s, u])) := by
  obtain ⟨t1, x1, rfl⟩ := hk.nonnil
  obtain ⟨t2, x2, rfl⟩ := hv.nonnil
  have hb : Below w.heap.size w (w.alloc (.cells #[.slice none 0 0, .iface t1 x1, .iface t2 x2] 99)).drew := ((Below.refl _ _).alloc (Nat.le_refl _) _).drew
  have HK := Lib.hid hk
  have HV := Lib.hid hv
  have HB := Lib.hid hb
  clear hk hv hb
  go_enter Tryz.func176, Tryz.ntmps176
  go_wp2_with fail
  go_region_law (first
    | (refine step_type rfl _ rfl (.iface t1 x1) (by rfl) s (by decide) (HK.out.later HB.out) ?_; intro w1 hb1; have hc1 := cells_below hb1)
    | (refine step_type rfl _ rfl (.iface t2 x2) (by rfl) u (by decide) (HV.out.later HB.out) ?_; intro w1 hb1; have hc1 := cells_below hb1)
    | (refine step_type rfl _ rfl (.iface t1 x1) (by rfl) s (by decide) (HK.out.later (HB.out.trans (hb1.mono (by simp)))) ?_; intro w2 hb2; have hc2 := cells_below hb2)
    | (refine step_type rfl _ rfl (.iface t2 x2) (by rfl) u (by decide) (HV.out.later (HB.out.trans (hb1.mono (by simp)))) ?_; intro w2 hb2; have hc2 := cells_below hb2)
    | (go_simp; go_at_call 141; refine (sub_any Pu.bMap [s, u] w2.heap.size 0 2 _ (two_strs w2 s u) (by simp) (by simp) (by simp) (by simp) (by simp [Pu.joinS]; omega) (by decide)).mono ?_; rintro e w3 ⟨rfl, hb3⟩))
  all_goals go_wp2
  all_goals go_ret
  all_goals exact ⟨rfl, (((HB.out.trans (hb1.mono HB.out.size)).trans (hb2.mono (Nat.le_trans HB.out.size hb1.size))).alloc (Nat.le_trans HB.out.size (Nat.le_trans hb1.size hb2.size)) _).trans (hb3.mono (by have := HB.out.size; have := hb1.size; have := hb2.size; simp at *; omega))⟩
theorem info39 : (Tryz.prog.info? 39).map (fun i => (i.zero, i.size, i.bytes)) = some (some (.string ⟨#[]⟩), 1, 16) := by kernel_rfl

set_option maxRecDepth 100000 in
set_option maxHeartbeats 1600000 in
theorem type_tup (us : List Bs) (b o c : Nat) (w : World) (hel : ∀ (j : Nat) (u : Bs), us[j]? = some u → u.length ≤ 100000 ∧ ∃ v, w.cell? ⟨b, o + j, none⟩ = some v ∧ Says Tryz.prog 7 w v u) (hb : b < w.heap.size) (h0 : 0 < us.length) (hn : us.length ≤ 3) :
    Calls Tryz.prog 185 #[.slice (some ⟨b, o, none⟩) us.length c] w (Gives w (Pu.wrap Pu.bTup us)) := by
  have hlen : (Pu.joinS us).length ≤ 1000000 := by
    have h := Pu.joinS_len (m := 100000) (us := us) (fun u hu => by
      obtain ⟨i, hi⟩ := List.mem_iff_getElem?.1 hu
      exact (hel i u hi).1)
    have : us.length * (100000 + 2) ≤ 3 * (100000 + 2) := Nat.mul_le_mul_right _ hn
    omega
  have HE := Lib.hid hel
  clear hel
  obtain ⟨i0, hi, hz0, hz1, hz2⟩ := info_parts info39
  go_enter Tryz.func185, Tryz.ntmps185
  go_wp2
  go_loopw [3, 8] (fun v i wr => ∃ k : Nat, k ≤ us.length ∧ i = .int .i64 k ∧ wr.ownsRow w.heap.size 39 1 v k ((us.map strV).take k) ∧ Below w.heap.size w wr) (fun _ i _ => us.length - (intOf i).toNat)
  case atStart => exact ⟨0, Nat.zero_le _, rfl, World.ownsRow_nil _ _ _ _, Below.refl _ _⟩
  case round =>
    obtain ⟨k, hk, rfl, hown, hbl⟩ := hrel
    by_cases hlt : k < us.length
    · obtain ⟨_, v, hcv, hsv⟩ := HE.out k us[k] (List.getElem?_eq_getElem hlt)
      obtain ⟨t, x, rfl⟩ := hsv.nonnil
      have hc := (hbl.cell (p := ⟨b, o + k, none⟩) hb).trans hcv
      have hsz := hbl.size
      have HSV := Lib.hid (hsv.later hbl)
      have HOWN := Lib.hid hown
      have HBL := Lib.hid hbl
      clear hsv hown hbl hcv
      go_wp2_with (first
        | (refine wpList_type rfl _ rfl _ rfl us[k] (by decide) HSV.out ?_; intro w1 hb1)
        | (at_builtin; refine wpList_append_own _ rfl _ _ 404 rfl w.heap.size 39 i0 (.string ⟨#[]⟩) 1 16 Tryz.underlying404 hi hz0 hz1 hz2 rfl (by decide) _ _ _ rfl (((HOWN.out).kept (grown_of_below hb1 none) (own_none _)).alloc _) ⟨w1.heap.size, 0, none⟩ 1 1 [.string (S us[k])] rfl rfl ?c1 ?c2 ?c3 ?c4 ?c5 ?_))
      case c1 => exact cell_one_new _ _ _
      case c2 => simp [Value.oneCell']
      case c3 => unfold maxLen; omega
      case c4 => omega
      case c5 => have := hb1.size; simp; omega
      intro v' w2 hown2 hgrow2 _
      have hb2 := ((HBL.out.trans (hb1.mono hsz)).alloc (by have := hb1.size; omega) (.cells #[.string (S us[k])] 39)).grown hgrow2 (by have := hb1.size; simp; omega) (fun j hj => (HOWN.out.lt j hj).1)
      have hown3 : w2.ownsRow w.heap.size 39 1 v' (k + 1) ((us.map strV).take (k + 1)) := by
        rw [take_map_snoc us k hlt]
        exact hown2
      have HO := Lib.hid hown3
      have HB := Lib.hid hb2
      clear hown2 hgrow2 hown3 hb2 hc
      go_wp2
      go_roundw
      case rel => exact ⟨k + 1, by omega, by go_num, HO.out, HB.out⟩
      case measure => simp [intOf]; omega
    · obtain rfl : k = us.length := by omega
      rcases hown.2 with ⟨_, he⟩ | ⟨gg, cap, cur, rfl, hgg, hblk, hcapk, _, _, htake⟩
      · omega
      have hcl : ∀ (j : Nat) (u : Bs), us[j]? = some u → wr.cell? ⟨gg, 0 + j, none⟩ = some (.string (S u)) := fun j u hu => by
        rw [Nat.zero_add, cell_blk hblk]
        have hj := (List.getElem?_eq_some_iff.1 hu).1
        have h1 : ((us.map strV).take us.length)[j]? = some (strV u) := by
          rw [List.getElem?_take, if_pos hj, List.getElem?_map, hu]; rfl
        rw [← htake, List.getElem?_take] at h1
        split at h1
        · simpa [strV] using h1
        · cases h1
      have hsub := sub_any Pu.bTup us gg 0 cap wr hcl (blk_lt hblk) h0 hn hcapk hlen (by decide)
      have HSU := Lib.hid hsub
      have HB := Lib.hid hbl
      clear hsub hcl hblk htake hown hbl
      go_wp2_with (go_at_call 141; refine (HSU.out).mono ?_; rintro e w' ⟨rfl, hb1⟩)
      go_ret
      exact ⟨rfl, HB.out.trans (hb1.mono HB.out.size)⟩
end Go.Proofs.YtcidlnjpabgioaaGreatDoor
