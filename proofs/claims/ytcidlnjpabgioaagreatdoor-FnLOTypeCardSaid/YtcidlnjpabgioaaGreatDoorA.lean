/- The walks of the code's byte, the leaves, and loDigits. -/
import Derived.Test.YtcidlnjpabgioaaGreatDoorProg
import Derived.Test.YtcidlnjpabgioaaGreatDoorWords
import Derived.KernelRfl
import Derived.Lib.Hide
set_option linter.unusedSimpArgs false
set_option linter.unusedVariables false
namespace Go.Proofs.YtcidlnjpabgioaaGreatDoor
open Go.RowKit
open Pu (Bs)

/-- The block of the code: what is left of it, and the number. -/
def Cod (w : World) (g : Nat) : Prop :=
  ∃ (A : Option Addr) (n cap : Nat) (sd : Int), w.heap[g]? = some (.cells #[.slice A n cap, .int .u64 sd] 26 (0, 0)) ∧ n ≤ cap ∧ cap ≤ 9223372036854775807 ∧
    (0 < n → ∃ b off, A = some ⟨b, off, none⟩ ∧ b < g ∧ ∀ j, j < n → ∃ x : Int, w.cell? ⟨b, off + j, none⟩ = some (.int .u8 x) ∧ 0 ≤ x ∧ x ≤ 255)
theorem Cod.lt {w : World} {g : Nat} (h : Cod w g) : g < w.heap.size := by
  obtain ⟨A, n, cap, sd, h, _⟩ := h
  rcases Nat.lt_or_ge g w.heap.size with h' | h'
  · exact h'
  · rw [Array.getElem?_eq_none h'] at h; cases h
theorem Cod.keep {w w' : World} {g : Nat} (h : Cod w g) (hk : ∀ k, k ≤ g → w'.heap[k]? = w.heap[k]?) : Cod w' g := by
  obtain ⟨A, n, cap, sd, hg, hn, hc, hb⟩ := h
  refine ⟨A, n, cap, sd, (hk g (Nat.le_refl _)).trans hg, hn, hc, fun h0 => ?_⟩
  obtain ⟨b, off, hA, hlt, hx⟩ := hb h0
  refine ⟨b, off, hA, hlt, fun j hj => ?_⟩
  obtain ⟨x, h1, h2⟩ := hx j hj
  exact ⟨x, (World.cell?_of_block (hk b (by omega))).trans h1, h2⟩
theorem Cod.below {w w' : World} {g : Nat} (h : Cod w g) (hb : Below w.heap.size w w') : Cod w' g := h.keep fun k hk => hb.block k (by have := h.lt; omega)

/-- What byte leaves. -/
def ByteOut (g : Nat) (w : World) (e : Ending) (w' : World) : Prop := ∃ r : Int, 0 ≤ r ∧ r ≤ 255 ∧ e = .returned (.int .i64 r) ∧ Cod w' g ∧ w.grownBy w' (some g)

theorem cell_blk {w : World} {g : Nat} {t : TypeId} {cs : Array Value} (h : w.heap[g]? = some (.cells cs t (0, 0))) (i : Nat) : w.cell? ⟨g, i, none⟩ = cs[i]? := cell_of_row w g i cs t (0, 0) h
theorem free_blk {w : World} {g : Nat} {t : TypeId} {cs : Array Value} (h : w.heap[g]? = some (.cells cs t (0, 0))) (i : Nat) : w.frozen? ⟨g, i, none⟩ = false := by simp [World.frozen?, h]
/-- Two stores into the code's block. -/
theorem two_stores {w : World} {g : Nat} {u v x y : Value} (h : w.heap[g]? = some (.cells #[u, v] 26 (0, 0))) :
    ((w.setCell ⟨g, 0, none⟩ x).setCell ⟨g, 1, none⟩ y).heap[g]? = some (.cells #[x, y] 26 (0, 0)) ∧ w.grownBy ((w.setCell ⟨g, 0, none⟩ x).setCell ⟨g, 1, none⟩ y) (some g) := by
  refine ⟨?_, rfl, rfl, rfl, by simp [World.setCell], fun k hk hne => ?_⟩
  · simp [World.setCell, Array.getElem?_modify, h]
  · have : k ≠ g := fun e => hne (by rw [e])
    rw [Below.heap_setCell _ _ _ _ this, Below.heap_setCell _ _ _ _ this]
theorem one_store {w : World} {g : Nat} {u v y : Value} (h : w.heap[g]? = some (.cells #[u, v] 26 (0, 0))) :
    (w.setCell ⟨g, 1, none⟩ y).heap[g]? = some (.cells #[u, y] 26 (0, 0)) ∧ w.grownBy (w.setCell ⟨g, 1, none⟩ y) (some g) := by
  refine ⟨?_, rfl, rfl, rfl, by simp [World.setCell], fun k hk hne => ?_⟩
  · simp [World.setCell, Array.getElem?_modify, h]
  · have : k ≠ g := fun e => hne (by rw [e])
    rw [Below.heap_setCell _ _ _ _ this]

theorem and255 (x : Int) : 0 ≤ bits .and .u64 x 255 ∧ bits .and .u64 x 255 ≤ 255 := by
  have h : (BitVec.ofInt 64 x &&& BitVec.ofInt 64 255).toNat ≤ 255 := by
    rw [BitVec.toNat_and]; exact Nat.le_trans Nat.and_le_right (by decide)
  have e : bits .and .u64 x 255 = IntKind.u64.wrap ((BitVec.ofInt 64 x &&& BitVec.ofInt 64 255).toNat : Int) := rfl
  rw [e, IntKind.wrap_u64]
  omega
theorem w64_small {x : Int} (h0 : 0 ≤ x) (h1 : x ≤ 255) : wrap64 x = x := by unfold wrap64; omega

set_option maxHeartbeats 800000 in
/-- byte, no byte left. -/
theorem byte_none (g : Nat) (w : World) (A : Option Addr) (cap : Nat) (sd : Int) (hg : w.heap[g]? = some (.cells #[.slice A 0 cap, .int .u64 sd] 26 (0, 0))) (hcap : cap ≤ 9223372036854775807) :
    Calls Tryz.prog 7 #[.pointer (some ⟨g, 0, none⟩)] w (ByteOut g w) := by
  have c0 : w.cell? ⟨g, 0, none⟩ = some (.slice A 0 cap) := by rw [cell_blk hg]; rfl
  have c1 : w.cell? ⟨g, 1, none⟩ = some (.int .u64 sd) := by rw [cell_blk hg]; rfl
  have f1 : w.frozen? ⟨g, 1, none⟩ = false := free_blk hg 1
  have HG := Lib.hid hg
  clear hg
  go_enter Tryz.func7, Tryz.ntmps7
  go_wp2
  go_ret
  have hg := HG.out
  have hs := one_store (y := .int .u64 (IntKind.u64.wrap (IntKind.u64.wrap (sd * 6364136223846793005) + 1442695040888963407))) hg
  obtain ⟨ha0, ha1⟩ := and255 (IntKind.u64.wrap (IntKind.u64.wrap (sd * 6364136223846793005) + 1442695040888963407) / 1099511627776)
  refine ⟨_, ?_, ?_, rfl, ⟨A, 0, cap, _, hs.1, Nat.zero_le _, hcap, fun h => absurd h (Nat.lt_irrefl _)⟩, hs.2⟩
  · rw [w64_small ha0 ha1]; exact ha0
  · rw [w64_small ha0 ha1]; exact ha1

theorem byte_end {g : Nat} {w : World} {b off n cap : Nat} {sd : Int} (hcap : cap ≤ 9223372036854775807) (h0 : 0 < n) (hn : n ≤ cap) (hbg : b < g) (hg : w.heap[g]? = some (.cells #[.slice (some ⟨b, off, none⟩) n cap, .int .u64 sd] 26 (0, 0)))
    (hX : ∀ j, j < n → ∃ x : Int, w.cell? ⟨b, off + j, none⟩ = some (.int .u8 x) ∧ 0 ≤ x ∧ x ≤ 255) (x : Int) (hx1 : 0 ≤ x) (hx2 : x ≤ 255) (A : Option Addr) (y : Int) (hA : 0 < n - 1 → A = some ⟨b, off + 1, none⟩) :
    ByteOut g w (.returned (.int .i64 x)) ((w.setCell ⟨g, 0, none⟩ (.slice A (n - 1) (cap - 1))).setCell ⟨g, 1, none⟩ (.int .u64 y)) := by
  have hs := two_stores (x := .slice A (n - 1) (cap - 1)) (y := .int .u64 y) hg
  refine ⟨x, hx1, hx2, rfl, ⟨A, n - 1, cap - 1, y, hs.1, by omega, by omega, fun h => ⟨b, off + 1, hA h, hbg, fun j hj => ?_⟩⟩, hs.2⟩
  obtain ⟨z, hz, h1, h2⟩ := hX (1 + j) (by omega)
  refine ⟨z, ?_, h1, h2⟩
  rw [Nat.add_assoc]
  exact (World.cell?_of_block (w := w) (a := ⟨b, off + (1 + j), none⟩) (hs.2.block b (by have := World.block_lt_of_cell? w _ hz; simpa using this) (by simp; omega))).trans hz

set_option maxHeartbeats 800000 in
/-- byte, a byte left. -/
theorem byte_some (g : Nat) (w : World) (b off n cap : Nat) (sd x : Int) (h0 : 0 < n) (hn : n ≤ cap) (hbg : b < g) (hg : w.heap[g]? = some (.cells #[.slice (some ⟨b, off, none⟩) n cap, .int .u64 sd] 26 (0, 0))) (hcap : cap ≤ 9223372036854775807)
    (hX : ∀ j, j < n → ∃ x : Int, w.cell? ⟨b, off + j, none⟩ = some (.int .u8 x) ∧ 0 ≤ x ∧ x ≤ 255) (hx : w.cell? ⟨b, off, none⟩ = some (.int .u8 x)) (hx1 : 0 ≤ x) (hx2 : x ≤ 255) :
    Calls Tryz.prog 7 #[.pointer (some ⟨g, 0, none⟩)] w (ByteOut g w) := by
  have c0 : w.cell? ⟨g, 0, none⟩ = some (.slice (some ⟨b, off, none⟩) n cap) := by rw [cell_blk hg]; rfl
  have c1 : w.cell? ⟨g, 1, none⟩ = some (.int .u64 sd) := by rw [cell_blk hg]; rfl
  have f0 : w.frozen? ⟨g, 0, none⟩ = false := free_blk hg 0
  have f1 : w.frozen? ⟨g, 1, none⟩ = false := free_blk hg 1
  have hne : ¬ b = g := by omega
  have hne' : ¬ g = b := by omega
  have HG := Lib.hid hg
  have HX := Lib.hid hX
  clear hg hX
  go_enter Tryz.func7, Tryz.ntmps7
  go_wp2
  all_goals go_ret
  · obtain rfl : cap = 1 := by assumption
    have hA : 0 < n - 1 → (some (⟨b, off, none⟩ : Addr)) = some ⟨b, off + 1, none⟩ := fun h => absurd h (by omega)
    have hfin := byte_end hcap h0 hn hbg HG.out HX.out x hx1 hx2 (some ⟨b, off, none⟩) (IntKind.u64.wrap (bits BinOp.xor IntKind.u64 sd x * 1099511628211)) hA
    exact hfin
  · have hfin := byte_end hcap h0 hn hbg HG.out HX.out x hx1 hx2 (some ⟨b, off + 1, none⟩) (IntKind.u64.wrap (bits BinOp.xor IntKind.u64 sd x * 1099511628211)) (fun _ => rfl)
    exact hfin

theorem byte_any (g : Nat) (w : World) (hC : Cod w g) : Calls Tryz.prog 7 #[.pointer (some ⟨g, 0, none⟩)] w (ByteOut g w) := by
  obtain ⟨A, n, cap, sd, hg, hn, hc, hb⟩ := hC
  rcases Nat.eq_zero_or_pos n with h0 | h0
  · subst h0
    exact byte_none g w A cap sd hg hc
  · obtain ⟨b, off, rfl, hbg, hx⟩ := hb h0
    obtain ⟨x, h1, h2, h3⟩ := hx 0 h0
    exact byte_some g w b off n cap sd x h0 hn hbg hg hc hx h1 h2 h3
end Go.Proofs.YtcidlnjpabgioaaGreatDoor
