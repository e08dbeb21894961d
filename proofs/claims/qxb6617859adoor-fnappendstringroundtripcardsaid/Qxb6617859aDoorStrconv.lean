/- strconv.AppendInt at base 10: the shelf's contract, laid at this dump. -/
import Derived.Shelf.Strconv.AppendIntPublic10
import Derived.Shelf.Lay
import Derived.Ground.NamesProg
import Derived.Test.Qxb6617859aDoorRows
namespace Go.Proofs
open Go.Shelf

/-- The name of the table of powers of ten, as the row spells it. -/
def Tryd.tabName : String := Qxb6617859aDoor.Rows.fnAppendIntRoundTripRow.named.headD ""

shelf_lay LaysM.n176 Nm 176 at Tryd as Tryd.laysAI176
theorem Tryd.appendInt_10 (B n : Nat) (i : Int) (h0 : -9223372036854775808 ≤ i) (h1 : i ≤ 9223372036854775807) (sv : Value) (xs : List Value) (w : World) (hown : w.ownsRow B 5 1 sv n xs) (hBw : B ≤ w.heap.size) (hlim : n + 21 ≤ 140737488355328)
    (htab : Lib.TabBelow Tryd.prog B w Tryd.tabName .u64 Lib.pow10Tab) :
    Calls Tryd.prog 17 #[sv, .int .i64 i, .int .i64 10] w fun e w' => ∃ v', e = .returned v' ∧ w'.ownsRow B 5 1 v' (n + (Lib.itoa i).length) (xs ++ Lib.byteCells (Lib.itoa i)) ∧ RowKit.Below B w w' ∧ Lib.OthersKept 5 none w w' :=
  Any.strconv_AppendInt_10 Tryd.laysAI176 B n i h0 h1 sv xs w hown hBw hlim htab

end Go.Proofs
