/-
  DERIVED: LAID BY THE SHELF's lay-shelf.mjs AT THE DUMP '/work/turn/r2/SEATS/Ytehgokciafpnbaa/translation/ytehgokciafpnbaa.cut.gsa' (alias 'Try'): THE LIBRARY CONTRACTS THAT ARE PROVED ONCE, OVER ANY PROGRAM AND ANY NUMBERING, AS THEOREMS OF THIS PROGRAM: WITHOUT A WALK: 'shelf_lay' reads the table of numbers off the bodies and has the kernel compare each body; then each contract is ONE APPLICATION. EACH COMMAND STANDS UNDER 'shelf_try': one that errs is rolled back and told in the build's print ('SHELF: NOT LAID: <name>: ..'); THE MODULE's LAST ROW OF PRINT COUNTS THEM ('SHELF: n LAID, m NOT LAID'): READ IT: a contract that is not laid is not there to be used.
-/
import Derived.Shelf.Lay
import Derived.Shelf.LaySoft
import Derived.Shelf.Small.Strs
import Derived.Test.YtehgokciafpnbaaProg
namespace Go.Proofs
open Go.Shelf
shelf_try shelf_lay Lays.n213 Nm 213 at Try as Try.lays213
shelf_try open Go.RowKit in
/-- internal/bytealg.CompareString (what strings.Compare calls): IT RETURNS 'Lib.compareBytes a b'; the world is as it was. (LAID: no walk: one application.) -/
theorem Try.bytealg_CompareString (a b : ByteArray) (w : World) :
    Calls Try.prog 52 #[.string a, .string b] w fun e w' => e = .returned (.int .i64 (Lib.compareBytes a.data.toList b.data.toList)) ∧ w' = w := Any.bytealg_CompareString Try.lays213 a b w
shelf_try #print axioms Try.bytealg_CompareString
shelf_try shelf_lay Lays.n106 Nm 106 at Try as Try.lays106
shelf_try open Go.RowKit in
/-- strings.Compare: "Compare returns an integer comparing two strings lexicographically. The result will be 0 if a == b, -1 if a < b, and +1 if a > b.": IT RETURNS 'Lib.compareBytes a b'; the world is as it was. (LAID: no walk: one application.) -/
theorem Try.strings_Compare (a b : ByteArray) (w : World) :
    Calls Try.prog 45 #[.string a, .string b] w fun e w' => e = .returned (.int .i64 (Lib.compareBytes a.data.toList b.data.toList)) ∧ w' = w := Any.strings_Compare Try.lays106 a b w
shelf_try #print axioms Try.strings_Compare
shelf_tried
end Go.Proofs
