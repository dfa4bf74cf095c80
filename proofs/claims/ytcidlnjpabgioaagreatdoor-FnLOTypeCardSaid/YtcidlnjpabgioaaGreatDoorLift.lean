/- The law FnLOType holds at every start: whatever code it is given, the type of a column made by a type's text is that text. -/
import Derived.Test.YtcidlnjpabgioaaGreatDoorRows
import Derived.Test.YtcidlnjpabgioaaGreatDoorV
import Derived.Test.YtcidlnjpabgioaaGreatDoorWit
import Derived.Test.YtcidlnjpabgioaaGreatDoorFactA
import Derived.Test.YtcidlnjpabgioaaGreatDoorClosed
import Derived.ProofKit
import Derived.OpenShut
import Derived.LaidSub
import Derived.Lay
import Derived.SliceStrings
import Derived.ChangeSlices
import Derived.SevenTiedAt
import Derived.Stop.Joined
import Derived.MakeChecks
import Derived.Lib.LaidTab
set_option linter.unusedSimpArgs false
set_option linter.unusedVariables false
namespace Go.Proofs.YtcidlnjpabgioaaGreatDoor
open Go.ChangeShapes Go.WideShapes Go.ChangeAt Go.RowKit Go.WideElems
open Pu (Bs)

theorem own : ownKnob Tryz.prog.godebug = none := by kernel_rfl
theorem g_kinds : Tryz.prog.globalNamed "given.example/pub-bradawl/impl.kindNames" = some 0 := by kernel_rfl
theorem t_kinds : (Tryz.prog.globals[0]?).map (·.type) = some 44 := by kernel_rfl
theorem g_ascii : Tryz.prog.globalNamed "strings.asciiSpace" = some 1 := by kernel_rfl
theorem t_ascii : (Tryz.prog.globals[1]?).map (·.type) = some 130 := by kernel_rfl
theorem c_5 : Tryz.prog.cellsOf 5 = 1 := by kernel_rfl
theorem c_9 : Tryz.prog.cellsOf 9 = 1 := by kernel_rfl
theorem c_130 : Tryz.prog.cellsOf 130 = 256 := by kernel_rfl

/-- A cell that can be read lies in a block. -/
theorem cell_some {w : World} {a : Addr} {v : Value} (h : w.cell? a = some v) : a.spot = none ∧ a.block < w.heap.size := by
  unfold World.cell? at h
  split at h
  · rename_i hb
    refine ⟨?_, blk_lt hb⟩
    cases hs : a.spot with
    | none => rfl
    | some k => rw [hs] at h; simp at h
  · cases h
theorem add_none (b o j : Nat) : (⟨b, o, none⟩ : Addr).add j = ⟨b, o + j, none⟩ := by
  unfold Addr.add
  split
  · rename_i h
    rw [h]
    rfl
  · rfl
theorem add_cell {w : World} {b o : Nat} {sp : Option Nat} {v : Value} (h : w.cell? ((⟨b, o, sp⟩ : Addr).add 0) = some v) : b < w.heap.size ∧ sp = none :=
  ⟨(cell_some h).2, (cell_some h).1⟩
theorem var_below {P : Program} {B g : Nat} {W W' : World} {n : String} {cs : Array Value} (h : Below B W W') (hg : P.globalNamed n = some g) (hgB : g < B) (hv : W.var? P n = some cs) : W'.var? P n = some cs := by
  unfold World.var? at hv ⊢
  simp only [hg, Option.bind_some] at hv ⊢
  rw [h.block g hgB]
  exact hv

theorem laid_ascii : (Rows.fnLOTypeRow.laid.filter fun x => x.1 == "strings.asciiSpace") = [("strings.asciiSpace", Lib.tabData .u8 Lib.asciiSpaceTab)] := by kernel_rfl
theorem laid_kinds : (Rows.fnLOTypeRow.laid.filter fun x => x.1 == "given.example/pub-bradawl/impl.kindNames") = [("given.example/pub-bradawl/impl.kindNames", .slice (Pu.kinds.map fun n => .lit (.string n)) [])] := by kernel_rfl

/-- What the listed variables give the walks. -/
theorem glob_of_laid {W : World} (h : laidMetH Tryz.prog Rows.fnLOTypeRow.laid W) : Glob W := by
  have h1 := h.filter fun x => x.1 == "strings.asciiSpace"
  have h2 := h.filter fun x => x.1 == "given.example/pub-bradawl/impl.kindNames"
  rw [laid_ascii, MakeChecks.laidMetH_plain _ _ _ (by kernel_rfl)] at h1
  rw [laid_kinds, MakeChecks.laidMetH_plain _ _ _ (by kernel_rfl)] at h2
  have htab := Lib.tabIs_of_head g_ascii t_ascii Tryz.underlying130 Tryz.underlying5 c_5 c_130 h1
  have hcell0 := htab.cell g_ascii 0 (by simp [Lib.asciiSpaceTab])
  refine ⟨htab, ⟨1, g_ascii, (cell_some hcell0).2⟩, ?_⟩
  obtain ⟨ps, ⟨g, t, cs, fuel, p, q, hg, ht, hv, hd, _, _⟩, _, _⟩ := h2
  obtain rfl := Option.some.inj (g_kinds.symm.trans hg)
  obtain rfl := Option.some.inj (t_kinds.symm.trans ht)
  rcases open_strings Tryz.underlying44 Tryz.underlying9 c_9 hd with ⟨_, hx⟩ | ⟨⟨b, o, sp⟩, len, cap, ss, hcs, _, hl, _, hlen, hx, hel, _⟩
  · simp at hx
  · have hsp : ss.length = cap := by simpa using hlen
    obtain ⟨hx1, _⟩ := Prod.mk.inj hx
    obtain ⟨e1, e2⟩ := DataW.slice.inj hx1
    have hd0 : ss.drop len = [] := by
      have := congrArg List.length e2
      simp [strs] at this
      apply List.drop_eq_nil_of_le
      omega
    have hle : ss.length ≤ len := by simpa using List.drop_eq_nil_iff.1 hd0
    have hlc : len = cap := by omega
    rw [List.take_of_length_le hle] at e1
    have h20 : ss.length = 20 := by
      have h := congrArg List.length e1
      simp only [strs, List.length_map] at h
      exact h.symm.trans rfl
    have hc20 : cap = 20 := by omega
    subst hlc
    subst hc20
    have hv0 := World.var?_cell hg hv 0
    have hcs0 : cs[0]? = some (.slice (some ⟨b, o, sp⟩) 20 20) := by
      rw [← Array.getElem?_toList, hcs]
      rfl
    rw [hcs0] at hv0
    have hat : ∀ (j : Nat) (n : Bs), Pu.kinds[j]? = some n → W.cell? ((⟨b, o, sp⟩ : Addr).add j) = some (.string (S n)) := fun j n hj => by
      have hjl : j < ss.length := by
        have h := (List.getElem?_eq_some_iff.1 hj).1
        have hk : Pu.kinds.length = 20 := rfl
        omega
      have h := hel j hjl
      have e3 : (Pu.kinds.map fun n => (.lit (.string n) : DataW Unit))[j]? = (strs ss)[j]? := by rw [e1]
      rw [strs, List.getElem?_map, List.getElem?_map, hj, List.getElem?_eq_getElem hjl] at e3
      have e4 : n = ss[j].data.toList := by simpa using e3
      rw [h, List.getD, List.getElem?_eq_getElem hjl, e4]
      simp [S]
    obtain ⟨f2, rfl⟩ := add_cell (hat 0 [] rfl)
    exact ⟨b, o, 20, by simpa using hv0, f2, (cell_some hv0).2, fun j n hj => by rw [← add_none]; exact hat j n hj⟩

set_option maxRecDepth 100000 in
theorem lifted (os : Os) (started : os.Started) (H : Type) (enc : TypeId × Value → H) :
    ReturnsInHanded {} Tryz.checked os 3 .any (fun w args => (Rows.fnLOTypeSpec.pre enc Tryz.prog Tryz.f3 Rows.fnLOTypeRow.domain false w args ∧ laidMetH Tryz.prog Rows.fnLOTypeRow.laid w) ∧ sizedMet enc Tryz.prog Tryz.f3 (OpenSpec.ofChange Rows.fnLOTypeSpec) false w args)
      (Rows.fnLOTypeSpec.post enc Tryz.prog Tryz.f3 false true false false) := by
  refine returnsInHanded_of_change_and (C := Tryz.checked) (X := fun w _ => laidMetH Tryz.prog Rows.fnLOTypeRow.laid w) (fun _ _ _ hh h => h.of_heap hh) own started (by kernel_rfl) Tryz.func3
    (ChangeSpec.witness_shaped (enc := enc) (C := Tryz.checked) (os := os) (X := fun w _ => laidMetH Tryz.prog Rows.fnLOTypeRow.laid w) false (wit os) #[.slice none 0 0] 8 (wit_os os)
      (wit_shaped os) (wit_ok os) (wit_pre H enc os) (wit_sized H enc os) (by rw [MakeChecks.laidMetH_plain _ _ _ (by kernel_rfl)]; exact wit_met os)) ?_
  intro W base args ds gs before hval0 hW _ _ hL _
  have hval : ∀ (j : Nat) t v, Tryz.f3.params[j]? = some t → args[j]? = some v → Value.okWide Tryz.prog W .any base t v := hval0
  have hW' := hW
  obtain ⟨p, q, hA0, hV0, rfl, _, _⟩ := hW
  have hA : DataW.TrodAll enc Tryz.prog W 0 (fun _ => true) true Tryz.f3.params.toList args.toList ds p := hA0
  have hV : DataW.TrodVars enc Tryz.prog W (fun _ => true) ["given.example/pub-bradawl/impl.kindNames"] gs q := hV0
  rw [Tryz.params3] at hA hval
  obtain ⟨v0, d0, rfl, rfl, h0⟩ := trodAll_one hA
  have hV1 := hV
  obtain ⟨g, t, cs, fuel, d, p', rfl, hg, ht, hvar, hd, rfl⟩ := trodVars_one hV
  obtain ⟨A, len, cap, rfl⟩ := okWide_slice Tryz.underlying22 (hval 0 22 v0 rfl rfl)
  have hlt : ∀ x ∈ p, x.block < W.heap.size := fun x hx => hW'.lt x (List.mem_append_left _ hx)
  have hG := glob_of_laid hL
  have hlaw : Calls Tryz.prog 3 #[.slice A len cap] W fun e w' => e = .returned (.bool true) ∧ Below W.heap.size W w' := by
    obtain ⟨fuel0, hf⟩ := h0
    rcases open_ints Tryz.underlying22 Tryz.underlying5 c_5 hf with ⟨hcs, _⟩ | ⟨⟨b, o, sp⟩, len', cap', zs, hcs, _, hl, hm, hz, _, hcell, hwf⟩
    · have e : Value.slice A len cap = .slice none 0 0 := by simpa [Value.cells] using hcs
      injection e with e1 e2 e3
      subst e1; subst e2; subst e3
      exact law_any none 0 0 W hG (Nat.le_refl _) (by decide) (fun h => absurd h (Nat.lt_irrefl _))
    · have e : Value.slice A len cap = .slice (some ⟨b, o, sp⟩) len' cap' := by simpa [Value.cells] using hcs
      injection e with e1 e2 e3
      subst e1; subst e2; subst e3
      have hzl : zs.length = cap := by simpa using hz
      refine law_any (some ⟨b, o, sp⟩) len cap W hG hl (by unfold maxLen at hm; omega) (fun h => ?_)
      obtain ⟨f2, rfl⟩ := add_cell (hcell 0 (by omega))
      refine ⟨b, o, rfl, f2, fun j hj => ⟨zs.getD j 0, by rw [← add_none]; exact hcell j (by omega), ?_⟩⟩
      have hmem : zs.getD j 0 ∈ zs := by
        rw [List.getD, List.getElem?_eq_getElem (by omega)]
        exact List.getElem_mem _
      have := hwf _ hmem
      simp [Lit.wf] at this
      exact this
  refine hlaw.mono fun e W' ⟨he, hB⟩ => ?_
  subst he
  have hd0 := Below.trod laid_out (by kernel_rfl) (of_decide_eq_true (by kernel_rfl)) h0 hB hlt
  obtain rfl := Option.some.inj (g_kinds.symm.trans hg)
  obtain rfl := Option.some.inj (t_kinds.symm.trans ht)
  obtain ⟨v1, hcs1, hvc⟩ : ∃ v1 : Value, cs = #[v1] ∧ v1.cells = #[v1] := by
    rcases open_strings Tryz.underlying44 Tryz.underlying9 c_9 hd with ⟨hcs, _⟩ | ⟨a, l2, c2, _, hcs, _⟩
    · exact ⟨.slice none 0 0, by cases cs; simp_all, rfl⟩
    · exact ⟨.slice (some a) l2 c2, by cases cs; simp_all, rfl⟩
  subst hcs1
  have hltv : ∀ x ∈ p', x.block < W.heap.size := fun x hx => hW'.lt x (List.mem_append_right _ (List.mem_append_right _ hx))
  have hv0 : W.cell? ⟨0, 0, none⟩ = some v1 := by simpa using World.var?_cell hg hvar 0
  have h0lt : 0 < W.heap.size := (cell_some hv0).2
  obtain ⟨fuel', hd'⟩ := Below.trod laid_out (by kernel_rfl) (of_decide_eq_true (by kernel_rfl)) (v := v1) (⟨fuel, by rw [hvc]; exact hd⟩ : DataW.Trod enc Tryz.prog W 0 (fun _ => true) true 44 v1 d p') hB hltv
  have hv := trodVars_mk1 (enc := enc) (spare := fun b => decide (b < W.heap.size)) hg ht (var_below hB hg h0lt hvar) (by rw [hvc] at hd'; exact hd')
  have e1 : Rows.fnLOTypeSpec.fn H ([d0] ++ [d]) = { results := [.lit (.bool true)], args := [d0], vars := [d] } := rfl
  refine ⟨_, rfl, _, _, _, [], p, (MemPlace.row ⟨0, 0, none⟩ (#[v1] : Array Value).size ++ p'), hW', ?_, ?_, ?_, hB.frame _, fun h => by cases h⟩
  · rw [e1]; exact trodAll_mk1 (shut_bool Tryz.underlying4 _)
  · rw [e1]; exact trodAll_mk1 hd0
  · rw [e1]; exact hv

theorem fnLOType_holds : Rows.FnLOTypeSaid :=
  OpenClaim.holds_of_wide 3 Tryz.f3 rfl rfl rfl rfl rfl rfl rfl ⟨rfl, rfl, rfl, rfl, rfl⟩ rfl rfl rfl rfl rfl named3 Tryz.func3 closed
    (of_decide_eq_true (by kernel_rfl)) (by unfold Func.isWrapper; first | (rw [if_pos (by decide +kernel)]; kernel_rfl) | (rw [if_neg (by decide +kernel)]; exact ⟨rfl, rfl⟩))
    (fun os started H enc _ => lifted os started H enc)
#print axioms fnLOType_holds
end Go.Proofs.YtcidlnjpabgioaaGreatDoor
