/- The walk of text. -/
import Derived.Test.YtcidlnjpabgioaaGreatDoorD
set_option linter.unusedSimpArgs false
set_option linter.unusedVariables false
namespace Go.Proofs.YtcidlnjpabgioaaGreatDoor
open Go.RowKit
open Pu (Bs)

/-- What text says of a name and the texts of the types within. -/
def textOf (nm : Bs) (us : List Bs) : Bs := if us = [] then nm else Pu.wrap nm us

set_option maxRecDepth 100000 in
set_option maxHeartbeats 800000 in
theorem text_fix5 (w : World) : Calls Tryz.prog 6 #[.agg #[.string (S [70, 105, 120, 101, 100, 83, 116, 114, 105, 110, 103]), .int .i64 5, .slice none 0 0]] w (Gives w [70, 105, 120, 101, 100, 83, 116, 114, 105, 110, 103, 40, 53, 41]) := by
  go_enter Tryz.func6, Tryz.ntmps6
  go_wp2_with (go_at_call 11; refine (dig_5 _).mono ?_; rintro e w' ⟨rfl, hb1⟩)
  go_ret
  exact ⟨rfl, ((Below.refl _ _).alloc (Nat.le_refl _) _).trans (hb1.mono (by simp))⟩
set_option maxRecDepth 100000 in
set_option maxHeartbeats 800000 in
theorem text_fix16 (w : World) : Calls Tryz.prog 6 #[.agg #[.string (S [70, 105, 120, 101, 100, 83, 116, 114, 105, 110, 103]), .int .i64 16, .slice none 0 0]] w (Gives w [70, 105, 120, 101, 100, 83, 116, 114, 105, 110, 103, 40, 49, 54, 41]) := by
  go_enter Tryz.func6, Tryz.ntmps6
  go_wp2_with (go_at_call 11; refine (dig_16 _).mono ?_; rintro e w' ⟨rfl, hb1⟩)
  go_ret
  exact ⟨rfl, ((Below.refl _ _).alloc (Nat.le_refl _) _).trans (hb1.mono (by simp))⟩

/-- The text behind k rounds. -/
def pre (nm : Bs) (us : List Bs) (k : Nat) : Bs := if k = 0 then nm else nm ++ 40 :: Pu.joinS (us.take k)

theorem pre_step (nm : Bs) (us : List Bs) (k : Nat) (hk : k < us.length) : (k = 0 → pre nm us (k + 1) = pre nm us k ++ [40] ++ us[k]) ∧ (¬ k = 0 → pre nm us (k + 1) = pre nm us k ++ [44, 32] ++ us[k]) := by
  have ht : us.take (k + 1) = us.take k ++ [us[k]] := by rw [List.take_succ_eq_append_getElem hk]
  refine ⟨fun h => ?_, fun h => ?_⟩
  · subst h
    simp [pre, ht, Pu.joinS]
  · have hne : us.take k ≠ [] := by
      intro e
      have := congrArg List.length e
      rw [List.length_take, List.length_nil] at this
      omega
    simp only [pre]
    rw [if_neg (by omega), if_neg h, ht, Pu.joinS_snoc _ _ hne]
    simp only [List.append_assoc, List.cons_append, List.nil_append]
theorem textOf_pre (nm : Bs) (us : List Bs) : textOf nm us = if us.length = 0 then pre nm us us.length else pre nm us us.length ++ [41] := by
  by_cases h : us.length = 0
  · have h' : us = [] := List.eq_nil_of_length_eq_zero h
    subst h'
    simp [textOf, pre]
  · have h' : us ≠ [] := fun e => h (by rw [e]; rfl)
    simp [textOf, pre, h', Pu.wrap]

theorem add3 {p q u m : Bs} (h : m = p ++ q ++ u) : Value.string (S p ++ ⟨q.toArray⟩ ++ S u) = .string (S m) := by
  have e : S p ++ ⟨q.toArray⟩ ++ S u = S (p ++ q ++ u) := by
    show S p ++ S q ++ S u = _
    rw [S_append, S_append]
  rw [e, h]
/-- The elements of a slice of types, and what their texts are. -/
def Elems (w : World) (A : Option Addr) (us : List Bs) : Prop :=
  ∀ (k : Nat) (u : Bs), us[k]? = some u → u.length ≤ 100000 ∧ ∃ b off nm sz Ak nk ck, A = some ⟨b, off, none⟩ ∧ b < w.heap.size ∧ w.cell? ⟨b, off + k * 3, none⟩ = some (.string nm) ∧
    w.cell? ⟨b, off + k * 3 + 1, none⟩ = some (.int .i64 sz) ∧ w.cell? ⟨b, off + k * 3 + 2, none⟩ = some (.slice Ak nk ck) ∧
    ∀ w', Below w.heap.size w w' → Calls Tryz.prog 6 #[.agg #[.string nm, .int .i64 sz, .slice Ak nk ck]] w' (Gives w' u)

theorem pre_len {w : World} {A : Option Addr} (nm : Bs) (us : List Bs) (k : Nat) (hn3 : us.length ≤ 3) (hnm : nm.length ≤ 1000) (hk : k ≤ us.length) (hel : Elems w A us) : (pre nm us k).length ≤ 1000000 := by
  have h := Pu.joinS_len (m := 100000) (us := us.take k) (fun u hu => by
    obtain ⟨i, hi⟩ := List.mem_iff_getElem?.1 (List.mem_of_mem_take hu)
    exact (hel i u hi).1)
  have h2 : (us.take k).length ≤ 3 := Nat.le_trans (List.length_take_le _ _) (by omega)
  have h3 : (us.take k).length * (100000 + 2) ≤ 3 * (100000 + 2) := Nat.mul_le_mul_right _ h2
  unfold pre
  split
  · omega
  · simp only [List.length_append, List.length_cons]; omega

set_option maxRecDepth 100000 in
set_option maxHeartbeats 1600000 in
theorem text_node (w : World) (nm : Bs) (sz : Int) (A : Option Addr) (c : Nat) (us : List Bs) (hn3 : us.length ≤ 3) (hnm : nm.length ≤ 1000) (hne : (nm == [70, 105, 120, 101, 100, 83, 116, 114, 105, 110, 103]) = false)
    (hel : Elems w A us) : Calls Tryz.prog 6 #[.agg #[.string (S nm), .int .i64 sz, .slice A us.length c]] w (Gives w (textOf nm us)) := by
  have HEL := Lib.hid hel
  clear hel
  go_enter Tryz.func6, Tryz.ntmps6
  go_wp2
  go_loopw [3, 19] (fun s i wr => ∃ k : Nat, k ≤ us.length ∧ i = .int .i64 k ∧ s = .string (S (pre nm us k)) ∧ Below (w.heap.size + 1) (w.alloc (.cells #[.string (S nm), .int .i64 sz, .slice A us.length c] 29)) wr) (fun _ i _ => us.length - (intOf i).toNat)
  case atStart => exact ⟨0, Nat.zero_le _, rfl, rfl, Below.refl _ _⟩
  case round =>
    obtain ⟨k, hk, rfl, rfl, hb⟩ := hrel
    have hp := pre_len nm us k hn3 hnm hk HEL.out
    by_cases hlt : k < us.length
    · obtain ⟨hu, b, off, nk, szk, Ak, lk, ck, rfl, hbw, c0, c1, c2, hcall⟩ := HEL.out k us[k] (List.getElem?_eq_getElem hlt)
      have e0 : wr.cell? ⟨b, off + k * 3, none⟩ = some (.string nk) := (hb.cell (p := ⟨b, off + k * 3, none⟩) (Nat.lt_succ_of_lt hbw)).trans ((World.cell?_alloc_past _ _ _ hbw).trans c0)
      have e1 : wr.cell? ⟨b, off + k * 3 + 1, none⟩ = some (.int .i64 szk) := (hb.cell (p := ⟨b, off + k * 3 + 1, none⟩) (Nat.lt_succ_of_lt hbw)).trans ((World.cell?_alloc_past _ _ _ hbw).trans c1)
      have e2 : wr.cell? ⟨b, off + k * 3 + 2, none⟩ = some (.slice Ak lk ck) := (hb.cell (p := ⟨b, off + k * 3 + 2, none⟩) (Nat.lt_succ_of_lt hbw)).trans ((World.cell?_alloc_past _ _ _ hbw).trans c2)
      have hb0 : Below w.heap.size w wr := ((Below.refl _ _).alloc (Nat.le_refl _) _).trans (hb.mono (Nat.le_succ _))
      have HC := Lib.hid hcall
      have hsz := hb.size
      simp only [World.size_alloc] at hsz
      have hstep := pre_step nm us k hlt
      have HS := Lib.hid hstep
      clear hcall hstep c0 c1 c2
      obtain ⟨u, hu'⟩ : ∃ u, u = us[k] := ⟨_, rfl⟩
      rw [← hu'] at hu HC HS
      have HU := Lib.hid hu'
      clear hu'
      obtain ⟨p, hp'⟩ : ∃ p, p = pre nm us k := ⟨_, rfl⟩
      rw [← hp'] at hp HS
      rw [← hp']
      clear hp'
      by_cases h0 : k = 0
      · subst h0
        simp only [Nat.zero_mul, Nat.add_zero] at e0 e1 e2
        go_wp2_with (go_at_call 6; refine (HC.out _ (hb0.alloc (Nat.le_of_succ_le hsz) _)).mono ?_; rintro e w1 ⟨rfl, hb1⟩)
        go_roundw
        case rel => exact ⟨1, by omega, rfl, add3 (by first | exact HS.out.1 rfl | exact HS.out.1 trivial), (hb.alloc hsz _).trans (hb1.mono (by simp; omega))⟩
        case measure => simp [intOf]; omega
      · go_wp2_with (go_at_call 6; refine (HC.out _ (hb0.alloc (Nat.le_of_succ_le hsz) _)).mono ?_; rintro e w1 ⟨rfl, hb1⟩)
        go_roundw
        case rel => exact ⟨k + 1, by omega, by go_num, add3 (HS.out.2 h0), (hb.alloc hsz _).trans (hb1.mono (by simp; omega))⟩
        case measure => simp [intOf]; omega
    · obtain rfl : k = us.length := by omega
      have hbox : wr.heap[w.heap.size]? = some (.cells #[.string (S nm), .int .i64 sz, .slice A us.length c] 29 (0, 0)) := (hb.block _ (Nat.lt_succ_self _)).trans (heap_alloc_new w _)
      have c2 : wr.cell? ⟨w.heap.size, 2, none⟩ = some (.slice A us.length c) := by rw [cell_blk hbox]; rfl
      have hend := textOf_pre nm us
      have HE := Lib.hid hend
      have hb0 : Below w.heap.size w wr := ((Below.refl _ _).alloc (Nat.le_refl _) _).trans (hb.mono (Nat.le_succ _))
      clear hend hbox
      obtain ⟨p, hp'⟩ : ∃ p, p = pre nm us us.length := ⟨_, rfl⟩
      rw [← hp'] at hp HE
      rw [← hp']
      clear hp'
      by_cases h0 : us.length = 0
      · have HE' : textOf nm us = p := by rw [HE.out, if_pos h0]
        have HE := Lib.hid HE'
        clear HE'
        go_wp2
        go_ret
        exact ⟨ret_str HE.out.symm, hb0⟩
      · have HE' : textOf nm us = p ++ [41] := by rw [HE.out, if_neg h0]
        have HE := Lib.hid HE'
        have hpos : 0 < us.length := by omega
        clear HE'
        go_wp2
        go_ret
        exact ⟨by rw [HE.out]; exact congrArg (fun b => Ending.returned (Value.string b)) (S_append p [41]), hb0⟩
end Go.Proofs.YtcidlnjpabgioaaGreatDoor
