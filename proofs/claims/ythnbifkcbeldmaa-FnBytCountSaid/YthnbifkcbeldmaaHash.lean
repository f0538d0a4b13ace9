/- Contracts of the hashes and searches of Rabin and Karp and of LastIndex (strings): each returns what the plain function of the library says, and leaves the world as it was. Condition: the texts are shorter than 2^62 bytes. -/
import Derived.Test.YthnbifkcbeldmaaRows
import Derived.WalkKit
import Derived.WalkSpells
import Derived.WalkLawsBesides
import Derived.Lib.Walk
import Derived.Lib.Strings
import Derived.Lib.Slices
import Derived.Lib.Bytealg
import Derived.BigCall
import Derived.BigGuard
import Derived.Deep.Draws
import Derived.Laws.Strings3
import Derived.Lib.RabinKarpLaws
import Derived.Lib.LastIndexLaws
import Derived.Shelf.Strings.LastIndexAll
namespace Go.Proofs.Ythnbifkcbeldmaa
open Go.Shelf Go.RowKit Go.Lib

end Go.Proofs.Ythnbifkcbeldmaa
