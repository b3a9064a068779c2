/-
  sort.Ints over this program: the shelf's contract pays 'SortInts'.
-/
import Derived.Test.Qxb6628248aFmtShelf
import Derived.Test.Qxb6628248aFmtCoord
namespace Go.Proofs.Qxb6628248aFmt
theorem sortInts : SortInts := fun blk off cap zs w h1 h2 h3 => Tryf.sort_Ints blk off cap zs w h1 h2 h3
end Go.Proofs.Qxb6628248aFmt
