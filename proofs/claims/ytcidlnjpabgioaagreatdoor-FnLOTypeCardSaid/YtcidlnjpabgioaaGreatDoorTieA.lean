/- The listed variables, and of what kind each is by the program's own words. -/
import Derived.Test.YtcidlnjpabgioaaGreatDoorRows
import Derived.LaidByTextLater
set_option linter.unusedSimpArgs false
set_option linter.unusedVariables false
namespace Go.Proofs.YtcidlnjpabgioaaGreatDoor
open Go
def listed : List (String × DataW Unit) := [("strings.asciiSpace", Rows.laid_strings_asciiSpace), ("unicode/utf8.acceptRanges", Rows.laid_unicode_utf8_acceptRanges), ("unicode.White_Space", Rows.laid_unicode_White_Space), ("given.example/pub-bradawl/impl.kindNames", Rows.laid_given_example_pub_bradawl_impl_kindNames), ("strconv.ErrSyntax", Rows.laid_strconv_ErrSyntax), ("strconv.ErrRange", Rows.laid_strconv_ErrRange), ("internal/strconv.uint64pow10", Rows.laid_internal_strconv_uint64pow10), ("math/bits.deBruijn32tab", Rows.laid_math_bits_deBruijn32tab), ("math/bits.deBruijn64tab", Rows.laid_math_bits_deBruijn64tab)]
def kinds9 : List LaidKind := [.data, .data, .listed, .data, .sentinel, .sentinel, .data, .data, .data]
/-- The words of the door, as bytes. -/
def doors : List (List UInt8) := [[117, 110, 105, 99, 111, 100, 101, 46, 87, 104, 105, 116, 101, 95, 83, 112, 97, 99, 101, 32, 104, 111, 108, 100, 115, 32, 119, 104, 97, 116, 32, 105, 116, 115, 32, 105, 110, 105, 116, 105, 97, 108, 105, 115, 101, 114, 32, 108, 97, 121, 115, 44, 32, 97, 110, 100, 32, 110, 111, 116, 104, 105, 110, 103, 32, 105, 110, 32, 116, 104, 101, 32, 108, 111, 97, 100, 101, 100, 32, 116, 101, 120, 116, 32, 119, 114, 105, 116, 101, 115, 32, 105, 116, 32, 111, 114, 32, 119, 104, 97, 116, 32, 105, 116, 32, 108, 101, 97, 100, 115, 32, 116, 111, 32, 40, 108, 111, 111, 107, 32, 49, 49, 45, 101, 108, 100, 101, 114, 41],
  [117, 110, 105, 99, 111, 100, 101, 46, 95, 87, 104, 105, 116, 101, 95, 83, 112, 97, 99, 101, 32, 104, 111, 108, 100, 115, 32, 119, 104, 97, 116, 32, 105, 116, 115, 32, 105, 110, 105, 116, 105, 97, 108, 105, 115, 101, 114, 32, 108, 97, 121, 115, 44, 32, 97, 110, 100, 32, 110, 111, 116, 104, 105, 110, 103, 32, 105, 110, 32, 116, 104, 101, 32, 108, 111, 97, 100, 101, 100, 32, 116, 101, 120, 116, 32, 119, 114, 105, 116, 101, 115, 32, 105, 116, 32, 111, 114, 32, 119, 104, 97, 116, 32, 105, 116, 32, 108, 101, 97, 100, 115, 32, 116, 111, 32, 40, 108, 111, 111, 107, 32, 49, 49, 45, 101, 108, 100, 101, 114, 41],
  [103, 105, 118, 101, 110, 46, 101, 120, 97, 109, 112, 108, 101, 47, 112, 117, 98, 45, 98, 114, 97, 100, 97, 119, 108, 47, 105, 109, 112, 108, 46, 107, 105, 110, 100, 78, 97, 109, 101, 115, 32, 105, 115, 32, 108, 97, 105, 100, 32, 98, 121, 32, 105, 116, 115, 32, 111, 119, 110, 32, 105, 110, 105, 116, 105, 97, 108, 105, 115, 101, 114, 44, 32, 112, 108, 97, 105, 110, 32, 100, 97, 116, 97, 32, 40, 108, 111, 111, 107, 32, 49, 49, 41],
  [103, 111, 115, 101, 109, 46, 99, 117, 116, 46, 118, 97, 114, 115, 32, 104, 111, 108, 100, 115, 32, 105, 110, 105, 116, 105, 97, 108, 105, 115, 101, 114, 115, 32, 97, 108, 111, 110, 101, 59, 32, 115, 101, 101, 32, 116, 104, 101, 32, 109, 97, 110, 105, 102, 101, 115, 116, 39, 115, 32, 114, 111, 119, 32, 99, 117, 116, 118, 97, 114, 115, 119, 111, 114, 100, 32, 40, 108, 111, 111, 107, 32, 49, 49, 44, 32, 116, 101, 115, 116, 32, 102, 105, 108, 101, 115, 32, 116, 111, 111, 41],
  [105, 110, 116, 101, 114, 110, 97, 108, 47, 115, 116, 114, 99, 111, 110, 118, 46, 117, 105, 110, 116, 54, 52, 112, 111, 119, 49, 48, 32, 105, 115, 32, 108, 97, 105, 100, 32, 98, 121, 32, 105, 116, 115, 32, 111, 119, 110, 32, 105, 110, 105, 116, 105, 97, 108, 105, 115, 101, 114, 44, 32, 112, 108, 97, 105, 110, 32, 100, 97, 116, 97, 32, 40, 108, 111, 111, 107, 32, 49, 49, 41],
  [109, 97, 116, 104, 47, 98, 105, 116, 115, 46, 100, 101, 66, 114, 117, 105, 106, 110, 51, 50, 116, 97, 98, 32, 105, 115, 32, 108, 97, 105, 100, 32, 98, 121, 32, 105, 116, 115, 32, 111, 119, 110, 32, 105, 110, 105, 116, 105, 97, 108, 105, 115, 101, 114, 44, 32, 112, 108, 97, 105, 110, 32, 100, 97, 116, 97, 32, 40, 108, 111, 111, 107, 32, 49, 49, 41],
  [109, 97, 116, 104, 47, 98, 105, 116, 115, 46, 100, 101, 66, 114, 117, 105, 106, 110, 54, 52, 116, 97, 98, 32, 105, 115, 32, 108, 97, 105, 100, 32, 98, 121, 32, 105, 116, 115, 32, 111, 119, 110, 32, 105, 110, 105, 116, 105, 97, 108, 105, 115, 101, 114, 44, 32, 112, 108, 97, 105, 110, 32, 100, 97, 116, 97, 32, 40, 108, 111, 111, 107, 32, 49, 49, 41],
  [115, 116, 114, 99, 111, 110, 118, 46, 69, 114, 114, 82, 97, 110, 103, 101, 32, 105, 115, 32, 108, 97, 105, 100, 32, 98, 121, 32, 105, 116, 115, 32, 111, 119, 110, 32, 99, 97, 108, 108, 32, 111, 102, 32, 101, 114, 114, 111, 114, 115, 46, 78, 101, 119, 32, 111, 110, 32, 111, 110, 101, 32, 108, 105, 116, 101, 114, 97, 108, 32, 40, 108, 111, 111, 107, 32, 49, 49, 41],
  [115, 116, 114, 99, 111, 110, 118, 46, 69, 114, 114, 83, 121, 110, 116, 97, 120, 32, 105, 115, 32, 108, 97, 105, 100, 32, 98, 121, 32, 105, 116, 115, 32, 111, 119, 110, 32, 99, 97, 108, 108, 32, 111, 102, 32, 101, 114, 114, 111, 114, 115, 46, 78, 101, 119, 32, 111, 110, 32, 111, 110, 101, 32, 108, 105, 116, 101, 114, 97, 108, 32, 40, 108, 111, 111, 107, 32, 49, 49, 41],
  [115, 116, 114, 105, 110, 103, 115, 46, 97, 115, 99, 105, 105, 83, 112, 97, 99, 101, 32, 105, 115, 32, 108, 97, 105, 100, 32, 98, 121, 32, 105, 116, 115, 32, 111, 119, 110, 32, 105, 110, 105, 116, 105, 97, 108, 105, 115, 101, 114, 44, 32, 112, 108, 97, 105, 110, 32, 100, 97, 116, 97, 32, 40, 108, 111, 111, 107, 32, 49, 49, 41],
  [116, 104, 101, 32, 108, 111, 111, 107, 32, 111, 102, 32, 103, 111, 115, 101, 109, 46, 99, 117, 116, 46, 118, 97, 114, 115, 32, 119, 101, 110, 116, 32, 111, 118, 101, 114, 32, 116, 104, 101, 32, 102, 111, 108, 100, 101, 114, 32, 116, 104, 97, 116, 32, 116, 104, 101, 32, 99, 97, 108, 108, 101, 114, 32, 110, 97, 109, 101, 100, 32, 97, 115, 32, 116, 104, 101, 32, 114, 101, 112, 111, 115, 105, 116, 111, 114, 121, 39, 115, 32, 114, 111, 111, 116, 32, 40, 108, 111, 111, 107, 32, 49, 49, 41],
  [117, 110, 105, 99, 111, 100, 101, 46, 87, 104, 105, 116, 101, 95, 83, 112, 97, 99, 101, 32, 105, 115, 32, 108, 97, 105, 100, 32, 98, 121, 32, 105, 116, 115, 32, 111, 119, 110, 32, 105, 110, 105, 116, 105, 97, 108, 105, 115, 101, 114, 44, 32, 111, 110, 32, 116, 104, 101, 32, 108, 105, 115, 116, 32, 111, 102, 32, 71, 111, 39, 115, 32, 111, 119, 110, 32, 116, 97, 98, 108, 101, 115, 32, 40, 108, 105, 115, 116, 32, 49, 48, 41],
  [117, 110, 105, 99, 111, 100, 101, 46, 95, 87, 104, 105, 116, 101, 95, 83, 112, 97, 99, 101, 32, 105, 115, 32, 108, 97, 105, 100, 32, 98, 121, 32, 105, 116, 115, 32, 111, 119, 110, 32, 105, 110, 105, 116, 105, 97, 108, 105, 115, 101, 114, 44, 32, 111, 110, 32, 116, 104, 101, 32, 108, 105, 115, 116, 32, 111, 102, 32, 71, 111, 39, 115, 32, 111, 119, 110, 32, 116, 97, 98, 108, 101, 115, 32, 40, 108, 105, 115, 116, 32, 49, 48, 41],
  [117, 110, 105, 99, 111, 100, 101, 47, 117, 116, 102, 56, 46, 97, 99, 99, 101, 112, 116, 82, 97, 110, 103, 101, 115, 32, 105, 115, 32, 108, 97, 105, 100, 32, 98, 121, 32, 105, 116, 115, 32, 111, 119, 110, 32, 105, 110, 105, 116, 105, 97, 108, 105, 115, 101, 114, 44, 32, 112, 108, 97, 105, 110, 32, 100, 97, 116, 97, 32, 40, 108, 111, 111, 107, 32, 49, 49, 41],
  [117, 110, 105, 99, 111, 100, 101, 47, 117, 116, 102, 56, 46, 102, 105, 114, 115, 116, 32, 105, 115, 32, 108, 97, 105, 100, 32, 98, 121, 32, 105, 116, 115, 32, 116, 101, 120, 116, 32, 97, 108, 111, 110, 101, 32, 40, 112, 105, 110, 110, 101, 100, 32, 49, 41]]
theorem doors_are : Tryz.prog.doorBytes = doors := by kernel_rfl
def tailsIn (v : String) : List (List UInt8) := doors.filterMap (bytesBehind v.toUTF8.data.toList)
theorem tails_are (v : String) : Tryz.prog.tailsOn v = tailsIn v := by unfold Program.tailsOn; rw [doors_are]; rfl
def wordedIn (v tail : String) : Bool := (tailsIn v).any fun r => bytesBehind tail.toUTF8.data.toList r == some []
theorem worded_in (v tail : String) : Tryz.prog.wordedOn v tail = wordedIn v tail := by unfold Program.wordedOn; rw [tails_are]; rfl
theorem kind_0 : Tryz.prog.kindBase "strings.asciiSpace" = some .data := by
  unfold Program.kindBase
  simp only [worded_in]
  kernel_rfl
theorem kind_1 : Tryz.prog.kindBase "unicode/utf8.acceptRanges" = some .data := by
  unfold Program.kindBase
  simp only [worded_in]
  kernel_rfl
theorem kind_2 : Tryz.prog.kindBase "unicode.White_Space" = some .listed := by
  unfold Program.kindBase
  simp only [worded_in]
  kernel_rfl
theorem kind_3 : Tryz.prog.kindBase "given.example/pub-bradawl/impl.kindNames" = some .data := by
  unfold Program.kindBase
  simp only [worded_in]
  kernel_rfl
theorem kind_4 : Tryz.prog.kindBase "strconv.ErrSyntax" = some .sentinel := by
  unfold Program.kindBase
  simp only [worded_in]
  kernel_rfl
theorem kind_5 : Tryz.prog.kindBase "strconv.ErrRange" = some .sentinel := by
  unfold Program.kindBase
  simp only [worded_in]
  kernel_rfl
theorem kind_6 : Tryz.prog.kindBase "internal/strconv.uint64pow10" = some .data := by
  unfold Program.kindBase
  simp only [worded_in]
  kernel_rfl
theorem kind_7 : Tryz.prog.kindBase "math/bits.deBruijn32tab" = some .data := by
  unfold Program.kindBase
  simp only [worded_in]
  kernel_rfl
theorem kind_8 : Tryz.prog.kindBase "math/bits.deBruijn64tab" = some .data := by
  unfold Program.kindBase
  simp only [worded_in]
  kernel_rfl
theorem later_of {P : Program} {v : String} {k : LaidKind} (h : P.kindBase v = some k) (hk : (match k with | .data | .sentinel | .listed => true | _ => false) = true) : P.kindOfLater v = some k := by
  unfold Program.kindOfLater
  rw [h]
  cases k <;> first | rfl | cases hk
theorem t_kinds9 : listed.map (fun x => Tryz.prog.kindOfLater x.1) = kinds9.map some := by
  simp only [listed, kinds9, List.map_cons, List.map_nil, later_of kind_0 rfl, later_of kind_1 rfl, later_of kind_2 rfl, later_of kind_3 rfl, later_of kind_4 rfl, later_of kind_5 rfl, later_of kind_6 rfl, later_of kind_7 rfl, later_of kind_8 rfl]
end Go.Proofs.YtcidlnjpabgioaaGreatDoor
