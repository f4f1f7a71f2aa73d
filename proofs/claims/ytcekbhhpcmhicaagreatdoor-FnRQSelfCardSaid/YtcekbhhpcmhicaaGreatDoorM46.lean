/- The row's closed facts: what recurs and is not followed; The row's closed facts: the variables named; The row's closed facts: laid out, rowed. -/
import Derived.JoinedOf
import Derived.ProofKit
import Derived.Test.YtcekbhhpcmhicaaGreatDoorCards
namespace Go.Proofs.YtcekbhhpcmhicaaGreatDoor.rqself
theorem jf1 : Tryz.pinned.checked.prog.recurses 4 = true := by kernel_rfl
theorem jf2 : Tryz.pinned.checked.prog.unfollowed 4 = true := by kernel_rfl
end Go.Proofs.YtcekbhhpcmhicaaGreatDoor.rqself
namespace Go.Proofs.YtcekbhhpcmhicaaGreatDoor.rqself
theorem jf3 : Tryz.pinned.checked.prog.varsNamed 4 = Rows.fnRQSelfRow.named := by kernel_rfl
theorem jf3b : Tryz.pinned.checked.prog.inPlace 4 = Rows.fnRQSelfRow.inPlace := by kernel_rfl
end Go.Proofs.YtcekbhhpcmhicaaGreatDoor.rqself
namespace Go.Proofs.YtcekbhhpcmhicaaGreatDoor.rqself
theorem jf4 : laidOutB Tryz.pinned.checked.prog = true := by kernel_rfl
theorem jf4b : mapsRowed Tryz.pinned.checked.prog = true := by kernel_rfl
end Go.Proofs.YtcekbhhpcmhicaaGreatDoor.rqself
