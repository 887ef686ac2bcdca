/- The tree that is made is the tree written down: Lean reckons it. No conditions. -/
import Derived.Test.YtcgnenhhmmmcaaaDoorHuffGrow
namespace Go.Proofs.YtcgnenhhmmmcaaaDoor.Huff

theorem rest_all : rest 257 0 [0, 0] = some treeF := by decide +kernel

end Go.Proofs.YtcgnenhhmmmcaaaDoor.Huff
