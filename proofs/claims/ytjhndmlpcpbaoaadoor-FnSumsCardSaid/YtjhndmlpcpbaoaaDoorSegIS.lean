/- The pieces of the library's compression of blocks (s), checked. -/
import Derived.Test.YtjhndmlpcpbaoaaDoorSegHS
import Derived.Test.YtjhndmlpcpbaoaaDoorCom1
namespace Go.Proofs.YtjhndmlpcpbaoaaDoor
open Go Go.Sx Go.Proofs
set_option maxRecDepth 100000
theorem segHAS : and3 (and3 oAS.stops (nilB oAS.st.obs) (loopB oAS.stk)) (cutB c0S oAS.st Tryd.f40.ntmps 7 flBS mlBS 72 (appX [.v 2, .v 3, .n 0] (zs 16)))
    (and3 (someB (oGS.exits lAS.2)) (obsB oHS.st.obs [.c .lss (.v 74) (.v 0) false]) (and3 (obsB oGS.st.obs [.c .lss (.v 74) (.v 0) false]) oHS.dones (cutMB c0S oHS.st 7 mlHS 512 []))) = true := by kernel_rfl
theorem segHBS : and3 (and3 (oBS false).stops (oBS true).stops (loopB (oBS false).stk))
    (and3 (obsB (oBS false).st.obs [.c .lss (.bin .add .u32 (.v 72) (.n 64)) (.n 64) false, .c .lss (.v 74) (.v 0) true]) (obsB (oBS true).st.obs [.c .lss (.bin .add .u32 (.v 72) (.n 64)) (.n 64) true, .c .lss (.v 74) (.v 0) true]) true)
    (and3 (cutB c0S (oBS false).st Tryd.f40.ntmps 7 flCS mlBS 91 (esBS false)) (cutB c0S (oBS true).st Tryd.f40.ntmps 7 flCS mlBS 91 (esBS true)) true) = true := by kernel_rfl
theorem segHCS : and3 (and3 (someB (oCS.exits lBS.2)) (rngObs 74 64 oCS.st.obs) (rngObs 74 64 oDS.st.obs)) (and3 oDS.stops (loopB oDS.stk) (cutB c0S oDS.st Tryd.f40.ntmps 7 (flRS 0) mlRS 256 (appX esMS (appX (zs 240) (vs 91 16))))) (and3 (lenB esMS 16) (rngL 128 256 esMS) true) = true := by kernel_rfl
theorem segHES : and3 (and3 (someB (oES.exits lDS.2)) (nilB oES.st.obs) (nilB oFS.st.obs)) (and3 oFS.dones (cutB c0S oFS.st Tryd.f40.ntmps 7 flBS mlBS 64 (appX esHS (appX [.v 107, .v 108, .add (.v 74) (.n 64)] (vs 256 16)))) true) (and3 (lenB esHS 8) (rngL 64 528 esHS) true) = true := by kernel_rfl
theorem eqAS : lAS.1 = cAS := by kernel_rfl
theorem eqBS : lBS.1 = cBS := by kernel_rfl
theorem eqDS : lDS.1 = cDS := by kernel_rfl
end Go.Proofs.YtjhndmlpcpbaoaaDoor

/- Small looks at the library's run (s): both ways to the loop over the block's bytes lead to one loop. -/
namespace Go.Proofs.YtjhndmlpcpbaoaaDoor
open Go Go.Sx Go.Proofs
set_option maxRecDepth 100000
theorem segXAS : and3 (loopB (oBS true).stk) (tupNil (resS c0S oHS.st Tryd.f40)) true = true := by kernel_rfl
theorem segXBS : loopOf (oBS true).stk = loopOf (oBS false).stk := by kernel_rfl
end Go.Proofs.YtjhndmlpcpbaoaaDoor
