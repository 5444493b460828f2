/- The pieces of the reference's compression (s), checked: its rounds are the library's. -/
import Derived.Test.YtjhndmlpcpbaoaaDoorSegHS
import Derived.Test.YtjhndmlpcpbaoaaDoorCom1
namespace Go.Proofs.YtjhndmlpcpbaoaaDoor
open Go Go.Sx Go.Proofs
set_option maxRecDepth 100000
theorem segJAS : and3 (and3 (and3 (oJS false).stops (nilB (oJS false).st.obs) (loopB (oJS false).stk)) (and3 (oJS true).stops (nilB (oJS true).st.obs) (loopB (oJS true).stk)) true)
    (and3 (and3 (someB ((oKS false).exits lJS.2)) (nilB (oKS false).st.obs) (nilB (oLS false).st.obs)) (and3 (someB ((oKS true).exits lJS.2)) (nilB (oKS true).st.obs) (nilB (oLS true).st.obs)) (and3 (and3 (oLS false).stops (loopB (oLS false).stk) true) (and3 (oLS true).stops (loopB (oLS true).stk) true) true))
    (and3 (cutB ccS (oLS false).st Tryd.f29.ntmps 35 (flTS 0) mlTS 256 (appX esMS (appX (zs 240) (esVS false)))) (cutB ccS (oLS true).st Tryd.f29.ntmps 35 (flTS 0) mlTS 256 (appX esMS (appX (zs 240) (esVS true)))) true) = true := by kernel_rfl
theorem segJLS : loopOf (oJS true).stk = loopOf (oJS false).stk := by kernel_rfl
theorem segJMS : loopOf (oLS true).stk = loopOf (oLS false).stk := by kernel_rfl
theorem eqJS : lJS.1 = cJS := by kernel_rfl
theorem eqLS : lLS.1 = cLS := by kernel_rfl
end Go.Proofs.YtjhndmlpcpbaoaaDoor

/- The expressions of the pieces (s), looked at: where their names lie; the first words; what the reference's compression gives. -/
namespace Go.Proofs.YtjhndmlpcpbaoaaDoor
open Go Go.Sx Go.Proofs
set_option maxRecDepth 100000
def esV0S (n : Int) : List E := appX (vs 64 8) [.n 1779033703, .n 3144134277, .n 1013904242, .n 2773480762, .bin .xor .u32 (.n 1359893119) (.cv .u32 (.v 9)), .bin .xor .u32 (.n 2600822924) (.cv .u32 (.shr (.cv .u64 (.v 9)) 32)), .n n, .n 1541459225]
def esB0S (c : E) : List E := appX (vs 64 8) [.n 1779033703, .n 3144134277, .n 1013904242, .n 2773480762, .bin .xor .u32 (.n 1359893119) (.bin .add .u32 (.v 72) (.n 64)), .bin .xor .u32 (.n 2600822924) c, .bin .xor .u32 (.n 528734635) (.v 1), .n 1541459225, .bin .add .u32 (.v 72) (.n 64), c]
theorem segEAS : and3 (rngL 128 192 esMS) (elsB (esVS false) (esV0S 528734635)) (elsB (esVS true) (esV0S 3766232660)) = true := by kernel_rfl
theorem segEBS : and3 (elsB (esBS false) (esB0S (.v 73))) (elsB (esBS true) (esB0S (.bin .add .u32 (.v 73) (.n 1)))) true = true := by kernel_rfl
theorem segEDS : rng2L 64 72 512 528 esHS = true := by kernel_rfl
theorem segECS : and3 (and3 (someB (oUS.exits lLS.2)) (nilB oUS.st.obs) (nilB oVS.st.obs)) oVS.rets (aggB (resS ccS oVS.st Tryd.f29) (ints .u32 esHS)) = true := by kernel_rfl
end Go.Proofs.YtjhndmlpcpbaoaaDoor
