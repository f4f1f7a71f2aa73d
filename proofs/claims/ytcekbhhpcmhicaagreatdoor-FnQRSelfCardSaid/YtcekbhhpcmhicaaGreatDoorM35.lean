/- The row's closed facts: what recurs and is not followed; The row's closed facts: the variables named; The row's closed facts: laid out, rowed. -/
import Derived.JoinedOf
import Derived.ProofKit
import Derived.Test.YtcekbhhpcmhicaaGreatDoorCards
namespace Go.Proofs.YtcekbhhpcmhicaaGreatDoor.qrself
theorem jf1 : Tryz.pinned.checked.prog.recurses 3 = true := by kernel_rfl
theorem jf2 : Tryz.pinned.checked.prog.unfollowed 3 = true := by kernel_rfl
end Go.Proofs.YtcekbhhpcmhicaaGreatDoor.qrself
namespace Go.Proofs.YtcekbhhpcmhicaaGreatDoor.qrself
theorem jf3 : Tryz.pinned.checked.prog.varsNamed 3 = Rows.fnQRSelfRow.named := by kernel_rfl
theorem jf3b : Tryz.pinned.checked.prog.inPlace 3 = Rows.fnQRSelfRow.inPlace := by kernel_rfl
end Go.Proofs.YtcekbhhpcmhicaaGreatDoor.qrself
namespace Go.Proofs.YtcekbhhpcmhicaaGreatDoor.qrself
theorem jf4 : laidOutB Tryz.pinned.checked.prog = true := by kernel_rfl
theorem jf4b : mapsRowed Tryz.pinned.checked.prog = true := by kernel_rfl
end Go.Proofs.YtcekbhhpcmhicaaGreatDoor.qrself
