/- The library's functions that are called, in this claim's words. -/
import Derived.Test.YtcidlnjpabgioaaGreatDoorH
import Derived.Test.YtcidlnjpabgioaaGreatDoorShelf
import Derived.Lib.Space
import Derived.Lib.Bytealg
import Derived.Lib.Join
import Derived.Lib.ConvBytes
set_option linter.unusedSimpArgs false
set_option linter.unusedVariables false
namespace Go.Proofs.YtcidlnjpabgioaaGreatDoor
open Go.RowKit
open Pu (Bs)

theorem joinS_lib : ∀ us : List Bs, Lib.join us [44, 32] = Pu.joinS us
  | [] => rfl
  | [u] => Lib.join_one u _
  | u :: v :: us => by
    have ih := joinS_lib (v :: us)
    have e : Lib.join (u :: v :: us) [44, 32] = u ++ ([44, 32] ++ Lib.join (v :: us) [44, 32]) := by
      simp [Lib.join, List.intercalate, List.intersperse]
    rw [e, ih, Pu.joinS_cons]
    simp
theorem join_any (us : List Bs) (b o c : Nat) (w : World) (hcells : ∀ (j : Nat) (u : Bs), us[j]? = some u → w.cell? ⟨b, o + j, none⟩ = some (.string (S u))) (hb : b < w.heap.size) (hn : us.length ≤ 3) (hcap : us.length ≤ c) (hlen : (Pu.joinS us).length ≤ 1000000) :
    Calls Tryz.prog 143 #[.slice (some ⟨b, o, none⟩) us.length c, .string (S [44, 32])] w (Gives w (Pu.joinS us)) := by
  have e0 : (us.map S).map (·.data.toList) = us := by
    rw [List.map_map]
    exact (List.map_congr_left (g := id) fun x _ => by simp).trans (List.map_id us)
  have e1 : Lib.join ((us.map S).map (·.data.toList)) (S [44, 32]).data.toList = Pu.joinS us := by
    rw [e0]; exact joinS_lib us
  have h := Tryz.strings_Join b o c (us.map S) (S [44, 32]) w (fun j x hx => by
    rw [List.getElem?_map, Option.map_eq_some_iff] at hx
    obtain ⟨u, hu, rfl⟩ := hx
    exact hcells j u hu) hb (by simp; omega) (by simpa using hcap) (by rw [e1]; omega)
  rw [e1, List.length_map] at h
  exact h
theorem below_bytes (w : World) (t : ByteArray) : Below w.heap.size w (Lib.bytesWorld w 5 t) := by
  exact ⟨rfl, rfl, rfl, by rw [Lib.bytesWorld_size]; omega, fun k hk => Lib.bytesWorld_at_old w 5 t k hk⟩
theorem itoa_5 (w : World) : Calls Tryz.prog 99 #[.int .i64 5] w fun e w' => e = .returned (.string (S [53])) ∧ w = w' :=
  (Tryz.strconv_Itoa_small 5 (by decide) w).mono fun e w' ⟨he, hw⟩ => ⟨he.trans (congrArg (fun l => Ending.returned (.string (S l))) (show Lib.decDigits 5 = [53] by simp [Lib.decDigits])), hw.symm⟩
theorem itoa_16 (w : World) : Calls Tryz.prog 99 #[.int .i64 16] w fun e w' => e = .returned (.string (S [49, 54])) ∧ w = w' :=
  (Tryz.strconv_Itoa_small 16 (by decide) w).mono fun e w' ⟨he, hw⟩ => ⟨he.trans (congrArg (fun l => Ending.returned (.string (S l))) (show Lib.decDigits 16 = [49, 54] by simp [Lib.decDigits])), hw.symm⟩
theorem atoi_5 (w : World) : Calls Tryz.prog 23 #[.string (S [53])] w fun e w' => e = .returned (.tuple #[.int .i64 5, .nilIface]) ∧ Below w.heap.size w w' :=
  (Tryz.strconv_Atoi (S [53]) 5 (by decide) (by decide) w).mono fun e w' ⟨he, t, hw⟩ => ⟨he, hw ▸ below_bytes w t⟩
theorem atoi_16 (w : World) : Calls Tryz.prog 23 #[.string (S [49, 54])] w fun e w' => e = .returned (.tuple #[.int .i64 16, .nilIface]) ∧ Below w.heap.size w w' :=
  (Tryz.strconv_Atoi (S [49, 54]) 16 (by decide) (by decide) w).mono fun e w' ⟨he, t, hw⟩ => ⟨he, hw ▸ below_bytes w t⟩
theorem trim_any (l : Bs) (w : World) (hs : l.length ≤ 1000000) (hascii : ∀ c ∈ l, c.toNat < 128) (htab : Lib.TabIs Tryz.prog w "strings.asciiSpace" .u8 Lib.asciiSpaceTab) :
    Calls Tryz.prog 20 #[.string (S l)] w (Gives w (Lib.trimSpace l)) := by
  have h := Tryz.strings_TrimSpace (S l) w (by rw [S_size]; omega) (fun j b hb => hascii b (List.mem_of_getElem? (by simpa using hb))) htab
  exact h.mono fun e w' ⟨he, hw⟩ => ⟨he, hw ▸ below_bytes w (S l)⟩
theorem index_any (l : Bs) (w : World) : Calls Tryz.prog 19 #[.string (S l), .int .u8 40] w fun e w' => e = .returned (.int .i64 (Lib.indexByte l 40)) ∧ w = w' :=
  (Tryz.strings_IndexByte (S l) 40 w).mono fun e w' ⟨he, hw⟩ => ⟨he, hw.symm⟩
end Go.Proofs.YtcidlnjpabgioaaGreatDoor
