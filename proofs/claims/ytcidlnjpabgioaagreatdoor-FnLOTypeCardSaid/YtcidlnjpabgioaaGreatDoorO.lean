/- The walk of parted. -/
import Derived.Test.YtcidlnjpabgioaaGreatDoorL
import Derived.Test.YtcidlnjpabgioaaGreatDoorJ
import Derived.Lib.SmallJoins
set_option linter.unusedSimpArgs false
set_option linter.unusedVariables false
namespace Go.Proofs.YtcidlnjpabgioaaGreatDoor
open Go.RowKit
open Pu (Bs)

/-- What the listed variables hold. -/
structure Glob (w : World) : Prop where
  tab : Lib.TabIs Tryz.prog w "strings.asciiSpace" .u8 Lib.asciiSpaceTab
  tabAt : ∃ g, Tryz.prog.globalNamed "strings.asciiSpace" = some g ∧ g < w.heap.size
  names : ∃ kb ko cap, w.cell? ⟨0, 0, none⟩ = some (.slice (some ⟨kb, ko, none⟩) 20 cap) ∧ kb < w.heap.size ∧ 0 < w.heap.size ∧ ∀ (j : Nat) (n : Bs), Pu.kinds[j]? = some n → w.cell? ⟨kb, ko + j, none⟩ = some (.string (S n))
theorem Glob.later {w w' : World} (h : Glob w) (hb : Below w.heap.size w w') : Glob w' := by
  obtain ⟨g, hg, hlt⟩ := h.tabAt
  obtain ⟨kb, ko, cap, h0, hk, hz, hn⟩ := h.names
  exact ⟨Joins.tab_stays hg h.tab hb (Nat.le_refl _), ⟨g, hg, Nat.lt_of_lt_of_le hlt hb.size⟩, ⟨kb, ko, cap, (hb.cell (p := ⟨0, 0, none⟩) hz).trans h0, Nat.lt_of_lt_of_le hk hb.size, Nat.lt_of_lt_of_le hz hb.size, fun j n hj => (hb.cell (p := ⟨kb, ko + j, none⟩) hk).trans (hn j n hj)⟩⟩

set_option maxRecDepth 100000 in
set_option maxHeartbeats 1600000 in
theorem parted_plain (t : Bs) (w : World) (hlen : t.length ≤ 100000) (hidx : Lib.indexByte t 40 = -1) :
    Calls Tryz.prog 13 #[.string (S t)] w fun e w' => e = .returned (.tuple #[.string (S t), .slice none 0 0]) ∧ w = w' := by
  have hi := index_any t w
  rw [hidx] at hi
  go_enter Tryz.func13, Tryz.ntmps13
  go_wp2_with (go_at_call 19; refine (hi).mono ?_; rintro e w' ⟨rfl, rfl⟩)
  go_ret2
  exact ⟨rfl, rfl⟩

theorem extract_S (t : Bs) (a b : Nat) : (S t).extract a b = S ((t.take b).drop a) := by
  rw [Lib.extract_eq, List.drop_take]
theorem trim_ext (t : Bs) (a k : Nat) (w : World) (hlen : t.length ≤ 100000) (hascii : ∀ c ∈ t, c.toNat < 128) (hg : Glob w) :
    Calls Tryz.prog 20 #[.string ((S t).extract a k)] w (Gives w (Lib.trimSpace ((t.take k).drop a))) := by
  rw [extract_S]
  refine trim_any _ w (by simp; omega) (fun c hc => hascii c (List.mem_of_mem_take (List.mem_of_mem_drop hc))) hg.tab

/-- A round's head: what the scan is to come to yet. -/
def PRel (t : Bs) (R : Pu.St) (w : World) (v at' dep kk : Value) (wr : World) : Prop :=
  ∃ (k p d : Nat) (out : List Bs), k ≤ t.length ∧ at' = .int .i64 (p : Int) ∧ dep = .int .i64 (d : Int) ∧ kk = .int .i64 (k : Int) ∧ p ≤ k ∧ d ≤ k ∧ out.length ≤ k ∧
    wr.ownsRow w.heap.size 9 1 v out.length (out.map strV) ∧ Below w.heap.size w wr ∧ Pu.go t k (t.drop k) ⟨p, d, out⟩ = R

theorem prel_go {t : Bs} {R : Pu.St} {k : Nat} {s : Pu.St} (hk : k < t.length) (h : Pu.go t k (t.drop k) s = R) : Pu.go t (k + 1) (t.drop (k + 1)) (Pu.stepc t k t[k] s) = R := by
  rw [List.drop_eq_getElem_cons hk] at h
  exact h

theorem u8_ne {c m : UInt8} {z : Int} (h : c ≠ m) (hn : (m.toNat : Int) = z) : ((c.toNat : Int) == z) = false := by
  simp only [beq_eq_false_iff_ne, ne_eq]
  intro e
  have : c.toNat = m.toNat := by omega
  exact h (UInt8.toNat_inj.1 this)
theorem stepc_open (t : Bs) (k : Nat) (s : Pu.St) : Pu.stepc t k 40 s = ⟨s.pos, s.depth + 1, s.out⟩ := by simp [Pu.stepc]
theorem stepc_close (t : Bs) (k : Nat) (s : Pu.St) (h : 0 < s.depth) : Pu.stepc t k 41 s = ⟨s.pos, s.depth - 1, s.out⟩ := by simp [Pu.stepc, h]
theorem stepc_cut (t : Bs) (k : Nat) (c : UInt8) (s : Pu.St) (h : s.depth = 0) (h40 : c ≠ 40) (hx : c = 44 ∨ k + 1 = t.length) : Pu.stepc t k c s = ⟨k + 1, s.depth, s.out ++ [Lib.trimSpace ((t.take k).drop s.pos)]⟩ := by
  unfold Pu.stepc
  rw [if_neg h40, if_neg (fun hh => by have := hh.2; omega), if_pos ⟨h, hx⟩]
theorem stepc_none (t : Bs) (k : Nat) (c : UInt8) (s : Pu.St) (h40 : c ≠ 40) (h41 : ¬ (c = 41 ∧ 0 < s.depth)) (hx : ¬ (s.depth = 0 ∧ (c = 44 ∨ k + 1 = t.length))) : Pu.stepc t k c s = s := by
  unfold Pu.stepc
  rw [if_neg h40, if_neg h41, if_neg hx]

set_option maxRecDepth 100000 in
set_option maxHeartbeats 6400000 in
theorem parted_core (t nm : Bs) (i : Nat) (R : Pu.St) (w : World) (hlen : t.length ≤ 100000) (hidx : Lib.indexByte t 40 = (i : Int)) (hi : i + 1 < t.length) (hascii : ∀ c ∈ t, c.toNat < 128) (hg : Glob w)
    (hlast : ∀ h : t.length - 1 < (S t).size, (S t)[t.length - 1] = 41) (hgo : Pu.go t (i + 1) (t.drop (i + 1)) ⟨i + 1, 0, []⟩ = R) :
    Calls Tryz.prog 13 #[.string (S t)] w fun e w' => ∃ v, e = .returned (.tuple #[.string (S (t.take i)), v]) ∧ w'.ownsRow w.heap.size 9 1 v R.out.length (R.out.map strV) ∧ Below w.heap.size w w' := by
  have hx := index_any t w
  rw [hidx] at hx
  have HX := Lib.hid hx
  have HG := Lib.hid hgo
  have HA := Lib.hid hascii
  obtain ⟨i0, hi0, hz0, hz1, hz2⟩ := info_parts info9
  clear hx hgo hascii hidx
  have hid0 : decide ((i : Int) < 0) = false := by simp
  go_enter Tryz.func13, Tryz.ntmps13
  go_wp2_with (go_at_call 19; refine (HX.out).mono ?_; rintro e w' ⟨rfl, rfl⟩)
  go_loopw [5, 6, 7, 8] (fun v a d k wr => PRel t R w v a d k wr) (fun _ _ _ k _ => t.length - (intOf k).toNat)
  case atStart => exact ⟨i + 1, i + 1, 0, [], by omega, by go_num, rfl, by go_num, Nat.le_refl _, Nat.zero_le _, Nat.zero_le _, World.ownsRow_nil _ _ _ _, Below.refl _ _, HG.out⟩
  case round =>
    obtain ⟨k, p, d, out, hkn, rfl, rfl, rfl, hp, hd, ho, hown, hbl, hgr⟩ := hrel
    have HOWN := Lib.hid hown
    have HBL := Lib.hid hbl
    have hbs := hbl.size
    by_cases hlt : k < t.length
    · have hnext := prel_go hlt hgr
      obtain ⟨c, hc⟩ : ∃ c, t[k] = c := ⟨_, rfl⟩
      rw [hc] at hnext
      have hget : ∀ h : k < (S t).size, (S t)[k] = c := fun h => hc
      have HN := Lib.hid hnext
      clear hgr hown hbl hc hnext
      have HGW := Lib.hid (hg.later HBL.out)
      by_cases h40 : c = 40
      · subst h40
        have HE := Lib.hid (stepc_open t k ⟨p, d, out⟩)
        go_wp2_with fail
        go_roundw
        case rel => exact ⟨k + 1, p, d + 1, out, by omega, rfl, by go_num, by go_num, by omega, by omega, by omega, HOWN.out, HBL.out, (congrArg (Pu.go t (k + 1) (t.drop (k + 1))) (HE.out)).symm.trans HN.out⟩
        case measure => simp [intOf]; omega
      · have hb40 := u8_ne h40 (z := 40) rfl
        by_cases h41 : c = 41
        · subst h41
          by_cases h0 : 0 < d
          · have HE := Lib.hid (stepc_close t k ⟨p, d, out⟩ h0)
            go_wp2_with fail
            go_roundw
            case rel => exact ⟨k + 1, p, d - 1, out, by omega, rfl, by congr 1; omega, by go_num, by omega, by omega, by omega, HOWN.out, HBL.out, (congrArg (Pu.go t (k + 1) (t.drop (k + 1))) (HE.out)).symm.trans HN.out⟩
            case measure => simp [intOf]; omega
          · have hd0 : ((d : Int) == 0) = true := by simp; omega
            have hnd : d ≤ 0 := by omega
            have H0 := Lib.hid (show d = 0 by omega)
            clear h0
            by_cases hkn1 : k + 1 = t.length
            · have hkb : ((k : Int) == (t.length : Int) - 1) = true := by simp only [beq_iff_eq]; omega
              have HE := Lib.hid (stepc_cut t k 41 ⟨p, d, out⟩ H0.out (by decide) (.inr hkn1))
              have HK := Lib.hid hkn1
              clear hkn1
              obtain ⟨x, hx⟩ : ∃ x, x = Lib.trimSpace ((t.take k).drop p) := ⟨_, rfl⟩
              have htr : Calls Tryz.prog 20 #[.string ((S t).extract p k)] wr (Gives wr x) := by rw [hx]; exact trim_ext t p k _ hlen HA.out HGW.out
              have HTR := Lib.hid htr
              have HXX := Lib.hid hx
              clear htr hx
              go_wp2_with (first
                | (go_at_call 20; refine (HTR.out).mono ?_; rintro e w1 ⟨rfl, hb1⟩)
                | (at_builtin; refine wpList_append_own _ rfl _ _ 44 rfl w.heap.size 9 i0 (.string ⟨#[]⟩) 1 16 Tryz.underlying44 hi0 hz0 hz1 hz2 rfl (by decide) _ _ _ rfl (((HOWN.out).kept (grown_of_below hb1 none) (own_none _)).alloc _) ⟨w1.heap.size, 0, none⟩ 1 1 [.string (S x)] rfl rfl (cell_one_new _ _ _) (by simp [Value.oneCell']) (by unfold maxLen; omega) (by omega) (by have := hb1.size; simp; omega) ?_; intro v' w2 hown2 hgrow2 _))
              have hb2 := ((HBL.out.trans (hb1.mono hbs)).alloc (by have := hb1.size; omega) (.cells #[.string (S x)] 9)).grown hgrow2 (by have := hb1.size; simp; omega) (fun j hj => (HOWN.out.lt j hj).1)
              have hown3 : w2.ownsRow w.heap.size 9 1 v' (out ++ [x]).length ((out ++ [x]).map strV) := by simpa [strV] using hown2
              have HO := Lib.hid hown3
              have HB := Lib.hid hb2
              clear hown2 hgrow2 hown3 hb2
              go_wp2_with fail
              go_roundw
              case rel => exact ⟨k + 1, k + 1, d, (out ++ [x]), by omega, by go_num, rfl, by go_num, by omega, by omega, by simp; omega, HO.out, HB.out, by rw [HXX.out]; exact (congrArg (Pu.go t (k + 1) (t.drop (k + 1))) (HE.out)).symm.trans HN.out⟩
              case measure => simp [intOf]; omega
            · have hkb : ((k : Int) == (t.length : Int) - 1) = false := by simp only [beq_eq_false_iff_ne, ne_eq]; omega
              have HE := Lib.hid (stepc_none t k 41 ⟨p, d, out⟩ (by decide) (fun h => by have := h.2; have := H0.out; simp at *; omega) (fun h => by rcases h.2 with h | h; exact absurd h (by decide); exact hkn1 h))
              clear hkn1
              go_wp2_with fail
              go_roundw
              case rel => exact ⟨k + 1, p, d, out, by omega, rfl, rfl, by go_num, by omega, by omega, by omega, HOWN.out, HBL.out, (congrArg (Pu.go t (k + 1) (t.drop (k + 1))) (HE.out)).symm.trans HN.out⟩
              case measure => simp [intOf]; omega
        · have hb41 := u8_ne h41 (z := 41) rfl
          by_cases h0 : 0 < d
          · have hd0 : ((d : Int) == 0) = false := by simp; omega
            have HE := Lib.hid (stepc_none t k c ⟨p, d, out⟩ h40 (fun h => h41 h.1) (fun h => by have := h.1; simp at this; omega))
            go_wp2_with fail
            go_roundw
            case rel => exact ⟨k + 1, p, d, out, by omega, rfl, rfl, by go_num, by omega, by omega, by omega, HOWN.out, HBL.out, (congrArg (Pu.go t (k + 1) (t.drop (k + 1))) (HE.out)).symm.trans HN.out⟩
            case measure => simp [intOf]; omega
          · have hd0 : ((d : Int) == 0) = true := by simp; omega
            have H0 := Lib.hid (show d = 0 by omega)
            clear h0
            by_cases h44 : c = 44
            · subst h44
              have HE := Lib.hid (stepc_cut t k 44 ⟨p, d, out⟩ H0.out (by decide) (.inl rfl))
              obtain ⟨x, hx⟩ : ∃ x, x = Lib.trimSpace ((t.take k).drop p) := ⟨_, rfl⟩
              have htr : Calls Tryz.prog 20 #[.string ((S t).extract p k)] wr (Gives wr x) := by rw [hx]; exact trim_ext t p k _ hlen HA.out HGW.out
              have HTR := Lib.hid htr
              have HXX := Lib.hid hx
              clear htr hx
              go_wp2_with (first
                | (go_at_call 20; refine (HTR.out).mono ?_; rintro e w1 ⟨rfl, hb1⟩)
                | (at_builtin; refine wpList_append_own _ rfl _ _ 44 rfl w.heap.size 9 i0 (.string ⟨#[]⟩) 1 16 Tryz.underlying44 hi0 hz0 hz1 hz2 rfl (by decide) _ _ _ rfl (((HOWN.out).kept (grown_of_below hb1 none) (own_none _)).alloc _) ⟨w1.heap.size, 0, none⟩ 1 1 [.string (S x)] rfl rfl (cell_one_new _ _ _) (by simp [Value.oneCell']) (by unfold maxLen; omega) (by omega) (by have := hb1.size; simp; omega) ?_; intro v' w2 hown2 hgrow2 _))
              have hb2 := ((HBL.out.trans (hb1.mono hbs)).alloc (by have := hb1.size; omega) (.cells #[.string (S x)] 9)).grown hgrow2 (by have := hb1.size; simp; omega) (fun j hj => (HOWN.out.lt j hj).1)
              have hown3 : w2.ownsRow w.heap.size 9 1 v' (out ++ [x]).length ((out ++ [x]).map strV) := by simpa [strV] using hown2
              have HO := Lib.hid hown3
              have HB := Lib.hid hb2
              clear hown2 hgrow2 hown3 hb2
              go_wp2_with fail
              go_roundw
              case rel => exact ⟨k + 1, k + 1, d, (out ++ [x]), by omega, by go_num, rfl, by go_num, by omega, by omega, by simp; omega, HO.out, HB.out, by rw [HXX.out]; exact (congrArg (Pu.go t (k + 1) (t.drop (k + 1))) (HE.out)).symm.trans HN.out⟩
              case measure => simp [intOf]; omega
            · have hb44 := u8_ne h44 (z := 44) rfl
              by_cases hkn1 : k + 1 = t.length
              · have hkb : ((k : Int) == (t.length : Int) - 1) = true := by simp only [beq_iff_eq]; omega
                have HE := Lib.hid (stepc_cut t k c ⟨p, d, out⟩ H0.out h40 (.inr hkn1))
                have HK := Lib.hid hkn1
                clear hkn1
                obtain ⟨x, hx⟩ : ∃ x, x = Lib.trimSpace ((t.take k).drop p) := ⟨_, rfl⟩
                have htr : Calls Tryz.prog 20 #[.string ((S t).extract p k)] wr (Gives wr x) := by rw [hx]; exact trim_ext t p k _ hlen HA.out HGW.out
                have HTR := Lib.hid htr
                have HXX := Lib.hid hx
                clear htr hx
                go_wp2_with (first
                  | (go_at_call 20; refine (HTR.out).mono ?_; rintro e w1 ⟨rfl, hb1⟩)
                  | (at_builtin; refine wpList_append_own _ rfl _ _ 44 rfl w.heap.size 9 i0 (.string ⟨#[]⟩) 1 16 Tryz.underlying44 hi0 hz0 hz1 hz2 rfl (by decide) _ _ _ rfl (((HOWN.out).kept (grown_of_below hb1 none) (own_none _)).alloc _) ⟨w1.heap.size, 0, none⟩ 1 1 [.string (S x)] rfl rfl (cell_one_new _ _ _) (by simp [Value.oneCell']) (by unfold maxLen; omega) (by omega) (by have := hb1.size; simp; omega) ?_; intro v' w2 hown2 hgrow2 _))
                have hb2 := ((HBL.out.trans (hb1.mono hbs)).alloc (by have := hb1.size; omega) (.cells #[.string (S x)] 9)).grown hgrow2 (by have := hb1.size; simp; omega) (fun j hj => (HOWN.out.lt j hj).1)
                have hown3 : w2.ownsRow w.heap.size 9 1 v' (out ++ [x]).length ((out ++ [x]).map strV) := by simpa [strV] using hown2
                have HO := Lib.hid hown3
                have HB := Lib.hid hb2
                clear hown2 hgrow2 hown3 hb2
                go_wp2_with fail
                go_roundw
                case rel => exact ⟨k + 1, k + 1, d, (out ++ [x]), by omega, by go_num, rfl, by go_num, by omega, by omega, by simp; omega, HO.out, HB.out, by rw [HXX.out]; exact (congrArg (Pu.go t (k + 1) (t.drop (k + 1))) (HE.out)).symm.trans HN.out⟩
                case measure => simp [intOf]; omega
              · have hkb : ((k : Int) == (t.length : Int) - 1) = false := by simp only [beq_eq_false_iff_ne, ne_eq]; omega
                have HE := Lib.hid (stepc_none t k c ⟨p, d, out⟩ h40 (fun h => h41 h.1) (fun h => by rcases h.2 with h | h; exact h44 h; exact hkn1 h))
                clear hkn1
                go_wp2_with fail
                go_roundw
                case rel => exact ⟨k + 1, p, d, out, by omega, rfl, rfl, by go_num, by omega, by omega, by omega, HOWN.out, HBL.out, (congrArg (Pu.go t (k + 1) (t.drop (k + 1))) (HE.out)).symm.trans HN.out⟩
                case measure => simp [intOf]; omega
    · obtain rfl : k = t.length := by omega
      have hR : R = ⟨p, d, out⟩ := by rw [← hgr, List.drop_length]; rfl
      have HR := Lib.hid hR
      clear hgr hown hbl hR
      go_wp2_with fail
      go_ret2
      exact ⟨_, by rw [extract_S]; rfl, by rw [HR.out]; exact HOWN.out, HBL.out⟩

theorem kind_at {w : World} {kb ko k : Nat} (hk : k < 20) (h : ∀ (j : Nat) (n : Bs), Pu.kinds[j]? = some n → w.cell? ⟨kb, ko + j, none⟩ = some (.string (S n))) : ∃ n, Pu.kinds[k]? = some n ∧ w.cell? ⟨kb, ko + k, none⟩ = some (.string (S n)) := by
  have hl : Pu.kinds.length = 20 := rfl
  exact ⟨_, List.getElem?_eq_getElem (by omega), h k _ (List.getElem?_eq_getElem (by omega))⟩
theorem kind_ne (K : Nat) (nm : Bs) (hall : (Pu.kinds.take K).all (fun n => !(n == nm)) = true) (k : Nat) (n : Bs) (_h1 : 1 ≤ k) (hlt : k < K) (hk : Pu.kinds[k]? = some n) : (n == nm) = false := by
  have hm : n ∈ Pu.kinds.take K := List.mem_of_getElem? (by rw [List.getElem?_take, if_pos hlt]; exact hk)
  simpa using List.all_eq_true.1 hall n hm
end Go.Proofs.YtcidlnjpabgioaaGreatDoor
