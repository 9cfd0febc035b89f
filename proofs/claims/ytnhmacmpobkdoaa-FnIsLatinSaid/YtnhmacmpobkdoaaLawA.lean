/- What the laws over one drawn table share. -/
import Derived.Test.YtnhmacmpobkdoaaLawZ
import Derived.Test.YtnhmacmpobkdoaaDrawG
import Derived.Test.YtnhmacmpobkdoaaSpecC
import Derived.Test.YtnhmacmpobkdoaaImpl
namespace Go.Proofs.Ytnhmacmpobkdoaa
end Go.Proofs.Ytnhmacmpobkdoaa
