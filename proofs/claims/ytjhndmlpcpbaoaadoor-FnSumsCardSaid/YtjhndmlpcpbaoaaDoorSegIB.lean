/- The pieces of the library's compression of blocks (b), checked. -/
import Derived.Test.YtjhndmlpcpbaoaaDoorSegHB
import Derived.Test.YtjhndmlpcpbaoaaDoorCom1
namespace Go.Proofs.YtjhndmlpcpbaoaaDoor
open Go Go.Sx Go.Proofs
set_option maxRecDepth 100000
theorem segHAB : and3 (and3 oAB.stops (nilB oAB.st.obs) (loopB oAB.stk)) (cutB c0B oAB.st Tryd.f38.ntmps 7 flBB mlBB 72 (appX [.v 2, .v 3, .n 0] (zs 16)))
    (and3 (someB (oGB.exits lAB.2)) (obsB oHB.st.obs [.c .lss (.v 74) (.v 0) false]) (and3 (obsB oGB.st.obs [.c .lss (.v 74) (.v 0) false]) oHB.dones (cutMB c0B oHB.st 7 mlHB 512 []))) = true := by kernel_rfl
theorem segHBB : and3 (and3 (oBB false).stops (oBB true).stops (loopB (oBB false).stk))
    (and3 (obsB (oBB false).st.obs [.c .lss (.bin .add .u64 (.v 72) (.n 128)) (.n 128) false, .c .lss (.v 74) (.v 0) true]) (obsB (oBB true).st.obs [.c .lss (.bin .add .u64 (.v 72) (.n 128)) (.n 128) true, .c .lss (.v 74) (.v 0) true]) true)
    (and3 (cutB c0B (oBB false).st Tryd.f38.ntmps 7 flCB mlBB 91 (esBB false)) (cutB c0B (oBB true).st Tryd.f38.ntmps 7 flCB mlBB 91 (esBB true)) true) = true := by kernel_rfl
theorem segHCB : and3 (and3 (someB (oCB.exits lBB.2)) (rngObs 74 128 oCB.st.obs) (rngObs 74 128 oDB.st.obs)) (and3 oDB.stops (loopB oDB.stk) (cutB c0B oDB.st Tryd.f38.ntmps 7 (flRB 0) mlRB 256 (appX esMB (appX (zs 240) (vs 91 16))))) (and3 (lenB esMB 16) (rngL 128 256 esMB) true) = true := by kernel_rfl
theorem segHEB : and3 (and3 (someB (oEB.exits lDB.2)) (nilB oEB.st.obs) (nilB oFB.st.obs)) (and3 oFB.dones (cutB c0B oFB.st Tryd.f38.ntmps 7 flBB mlBB 64 (appX esHB (appX [.v 107, .v 108, .add (.v 74) (.n 128)] (vs 256 16)))) true) (and3 (lenB esHB 8) (rngL 64 528 esHB) true) = true := by kernel_rfl
theorem eqAB : lAB.1 = cAB := by kernel_rfl
theorem eqBB : lBB.1 = cBB := by kernel_rfl
theorem eqDB : lDB.1 = cDB := by kernel_rfl
end Go.Proofs.YtjhndmlpcpbaoaaDoor

/- Small looks at the library's run (b): both ways to the loop over the block's bytes lead to one loop. -/
namespace Go.Proofs.YtjhndmlpcpbaoaaDoor
open Go Go.Sx Go.Proofs
set_option maxRecDepth 100000
theorem segXAB : and3 (loopB (oBB true).stk) (tupNil (resS c0B oHB.st Tryd.f38)) true = true := by kernel_rfl
theorem segXBB : loopOf (oBB true).stk = loopOf (oBB false).stk := by kernel_rfl
end Go.Proofs.YtjhndmlpcpbaoaaDoor
