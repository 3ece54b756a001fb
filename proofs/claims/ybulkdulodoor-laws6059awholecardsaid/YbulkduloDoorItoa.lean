/-
  'strconv.Itoa' (8): THE SHELF's CONTRACT, LAID AT THIS DUMP.
-/
import Derived.Test.YbulkduloDoorSlc
import Derived.Test.YbulkduloDoorProg
import Derived.Shelf.Strconv.Itoa3
import Derived.Shelf.Lay
import Derived.Ground.NamesProg
namespace Go.Proofs
open Go.Shelf
shelf_lay LaysM.n171 Nm 171 at Ybad as Ybad.laysItoa
end Go.Proofs
namespace Go.Proofs.YbulkduloDoor
open Go.Shelf

theorem itoa_any (n : Int) (h0 : -9223372036854775808 ≤ n) (h1 : n ≤ 9223372036854775807) (w : World) (htab : Lib.TabIs Ybad.prog w "internal/strconv.uint64pow10" .u64 Lib.pow10Tab) :
    Calls Ybad.prog 8 #[.int .i64 n] w fun e w' => e = .returned (.string ⟨(Lib.itoa n).toArray⟩) ∧ ∃ k os, w' = Sort.grow (w.drewN k) os := Any.strconv_Itoa Ybad.laysItoa n h0 h1 w htab

end Go.Proofs.YbulkduloDoor
