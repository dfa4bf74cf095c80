/- The walks of With and Sub. -/
import Derived.Test.YtcidlnjpabgioaaGreatDoorL
set_option linter.unusedSimpArgs false
set_option linter.unusedVariables false
namespace Go.Proofs.YtcidlnjpabgioaaGreatDoor
open Go.RowKit
open Pu (Bs)

theorem wrap_eq (nm : Bs) (us : List Bs) : S nm ++ ((⟨#[40]⟩ : ByteArray) ++ S (Pu.joinS us) ++ ⟨#[41]⟩) = S (Pu.wrap nm us) := by
  have e : S nm ++ ((⟨#[40]⟩ : ByteArray) ++ S (Pu.joinS us) ++ ⟨#[41]⟩) = S (nm ++ ([40] ++ Pu.joinS us ++ [41])) := by
    show S nm ++ (S [40] ++ S (Pu.joinS us) ++ S [41]) = _
    rw [S_append, S_append, S_append]
  rw [e]
  simp [Pu.wrap]
theorem wrap_len (nm : Bs) (us : List Bs) : (Pu.wrap nm us).length = nm.length + 2 + (Pu.joinS us).length := by simp [Pu.wrap]; omega

set_option maxRecDepth 100000 in
set_option maxHeartbeats 800000 in
theorem with_any (nm : Bs) (us : List Bs) (b o c : Nat) (w : World) (hcells : ∀ (j : Nat) (u : Bs), us[j]? = some u → w.cell? ⟨b, o + j, none⟩ = some (.string (S u))) (hb : b < w.heap.size) (h0 : 0 < us.length) (hn : us.length ≤ 3) (hcap : us.length ≤ c)
    (hlen : (Pu.joinS us).length ≤ 1000000) (hnm : nm.length ≤ 1000) : Calls Tryz.prog 142 #[.string (S nm), .slice (some ⟨b, o, none⟩) us.length c] w (Gives w (Pu.wrap nm us)) := by
  have hz : ((us.length : Int) == 0) = false := by simp only [beq_eq_false_iff_ne, ne_eq]; omega
  have HC := Lib.hid hcells
  clear hcells
  have hw := wrap_eq nm us
  have HW := Lib.hid hw
  clear hw
  obtain ⟨p, hp⟩ : ∃ p, p = Pu.joinS us := ⟨_, rfl⟩
  have hj := join_any us b o c w HC.out hb hn hcap hlen
  rw [← hp] at hj HW hlen
  have HJ := Lib.hid hj
  clear hj hp
  go_enter Tryz.func142, Tryz.ntmps142
  go_wp2_with (go_at_call 143; refine (HJ.out).mono ?_; rintro e w' ⟨rfl, hb1⟩)
  go_ret
  exact ⟨congrArg (fun b => Ending.returned (Value.string b)) HW.out, hb1⟩
theorem own_none (v : Value) : v.ownBlock = none ∨ v.ownBlock ≠ none := by cases v.ownBlock <;> simp
theorem string_any (s : ByteArray) (w : World) : Calls Tryz.prog 134 #[.string s] w fun e w' => e = .returned (.string s) ∧ w = w' := by
  go_enter Tryz.func134, Tryz.ntmps134
  go_wp2
  go_ret
  exact ⟨rfl, rfl⟩
theorem info9 : (Tryz.prog.info? 9).map (fun i => (i.zero, i.size, i.bytes)) = some (some (.string ⟨#[]⟩), 1, 16) := by kernel_rfl

def strV (u : Bs) : Value := .string (S u)
theorem take_map_snoc (us : List Bs) (k : Nat) (h : k < us.length) : (us.map strV).take (k + 1) = (us.map strV).take k ++ [.string (S us[k])] := by
  rw [List.take_succ_eq_append_getElem (by simpa using h)]
  simp [strV]

set_option maxRecDepth 100000 in
set_option maxHeartbeats 1600000 in
theorem sub_any (nm : Bs) (us : List Bs) (b o c : Nat) (w : World) (hcells : ∀ (j : Nat) (u : Bs), us[j]? = some u → w.cell? ⟨b, o + j, none⟩ = some (.string (S u))) (hb : b < w.heap.size) (h0 : 0 < us.length) (hn : us.length ≤ 3) (hcap : us.length ≤ c)
    (hlen : (Pu.joinS us).length ≤ 1000000) (hnm : nm.length ≤ 1000) : Calls Tryz.prog 141 #[.string (S nm), .slice (some ⟨b, o, none⟩) us.length c] w (Gives w (Pu.wrap nm us)) := by
  have HC := Lib.hid hcells
  clear hcells
  obtain ⟨i0, hi, hz0, hz1, hz2⟩ := info_parts info9
  go_enter Tryz.func141, Tryz.ntmps141
  go_wp2
  go_loopw [5, 10] (fun v i wr => ∃ k : Nat, k ≤ us.length ∧ i = .int .i64 k ∧ wr.ownsRow w.heap.size 9 1 v k ((us.map strV).take k) ∧ Below w.heap.size w wr) (fun _ i _ => us.length - (intOf i).toNat)
  case atStart => exact ⟨0, Nat.zero_le _, rfl, World.ownsRow_nil _ _ _ _, Below.refl _ _⟩
  case round =>
    obtain ⟨k, hk, rfl, hown, hbl⟩ := hrel
    by_cases hlt : k < us.length
    · have hc := (hbl.cell (p := ⟨b, o + k, none⟩) hb).trans (HC.out k us[k] (List.getElem?_eq_getElem hlt))
      have hsz := hbl.size
      go_wp2_with (first | (go_at_call 134; refine (string_any _ _).mono ?_; rintro e w' ⟨rfl, rfl⟩) | (at_builtin; refine wpList_append_own _ rfl _ _ 44 rfl w.heap.size 9 i0 (.string ⟨#[]⟩) 1 16 Tryz.underlying44 hi hz0 hz1 hz2 rfl (by decide) _ _ _ rfl (hown.alloc _) ⟨wr.heap.size, 0, none⟩ 1 1 [.string (S us[k])] rfl rfl ?c1 ?c2 ?c3 ?c4 ?c5 ?_))
      case c1 => exact cell_one_new _ _ _
      case c2 => simp [Value.oneCell']
      case c3 => unfold maxLen; omega
      case c4 => omega
      case c5 => simp; omega
      intro v' w1 hown1 hgrow1 _
      have hb1 := (hbl.alloc hsz (.cells #[.string (S us[k])] 9)).grown hgrow1 (by simp; omega) (fun j hj => (hown.lt j hj).1)
      have hown2 : w1.ownsRow w.heap.size 9 1 v' (k + 1) ((us.map strV).take (k + 1)) := by
        rw [take_map_snoc us k hlt]
        exact hown1
      have HO := Lib.hid hown2
      have HB := Lib.hid hb1
      clear hown1 hgrow1 hown hbl hc hown2 hb1
      go_wp2
      go_roundw
      case rel => exact ⟨k + 1, by omega, by go_num, HO.out, HB.out⟩
      case measure => simp [intOf]; omega
    · obtain rfl : k = us.length := by omega
      rcases hown.2 with ⟨_, he⟩ | ⟨gg, cap, cur, rfl, hgg, hblk, hcapk, _, _, htake⟩
      · omega
      have hcl : ∀ (j : Nat) (u : Bs), us[j]? = some u → wr.cell? ⟨gg, 0 + j, none⟩ = some (.string (S u)) := fun j u hu => by
        rw [Nat.zero_add, cell_blk hblk]
        have hj := (List.getElem?_eq_some_iff.1 hu).1
        have h1 : ((us.map strV).take us.length)[j]? = some (strV u) := by
          rw [List.getElem?_take, if_pos hj, List.getElem?_map, hu]; rfl
        rw [← htake, List.getElem?_take] at h1
        split at h1
        · simpa [strV] using h1
        · cases h1
      have hwith := with_any nm us gg 0 cap wr hcl (blk_lt hblk) h0 hn hcapk hlen hnm
      have HWI := Lib.hid hwith
      have HB := Lib.hid hbl
      clear hwith hcl hblk htake hown hbl
      go_wp2_with (go_at_call 142; refine (HWI.out).mono ?_; rintro e w' ⟨rfl, hb1⟩)
      go_ret
      exact ⟨rfl, HB.out.trans (hb1.mono HB.out.size)⟩
end Go.Proofs.YtcidlnjpabgioaaGreatDoor
