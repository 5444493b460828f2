/- The pieces of the reference's compression (b), checked: its rounds are the library's. -/
import Derived.Test.YtjhndmlpcpbaoaaDoorSegHB
import Derived.Test.YtjhndmlpcpbaoaaDoorCom1
namespace Go.Proofs.YtjhndmlpcpbaoaaDoor
open Go Go.Sx Go.Proofs
set_option maxRecDepth 100000
theorem segJAB : and3 (and3 (and3 (oJB false).stops (nilB (oJB false).st.obs) (loopB (oJB false).stk)) (and3 (oJB true).stops (nilB (oJB true).st.obs) (loopB (oJB true).stk)) true)
    (and3 (and3 (someB ((oKB false).exits lJB.2)) (nilB (oKB false).st.obs) (nilB (oLB false).st.obs)) (and3 (someB ((oKB true).exits lJB.2)) (nilB (oKB true).st.obs) (nilB (oLB true).st.obs)) (and3 (and3 (oLB false).stops (loopB (oLB false).stk) true) (and3 (oLB true).stops (loopB (oLB true).stk) true) true))
    (and3 (cutB ccB (oLB false).st Tryd.f23.ntmps 35 (flTB 0) mlTB 256 (appX esMB (appX (zs 240) (esVB false)))) (cutB ccB (oLB true).st Tryd.f23.ntmps 35 (flTB 0) mlTB 256 (appX esMB (appX (zs 240) (esVB true)))) true) = true := by kernel_rfl
theorem segJLB : loopOf (oJB true).stk = loopOf (oJB false).stk := by kernel_rfl
theorem segJMB : loopOf (oLB true).stk = loopOf (oLB false).stk := by kernel_rfl
theorem eqJB : lJB.1 = cJB := by kernel_rfl
theorem eqLB : lLB.1 = cLB := by kernel_rfl
end Go.Proofs.YtjhndmlpcpbaoaaDoor

/- The expressions of the pieces (b), looked at: where their names lie; the first words; what the reference's compression gives. -/
namespace Go.Proofs.YtjhndmlpcpbaoaaDoor
open Go Go.Sx Go.Proofs
set_option maxRecDepth 100000
def esV0B (n : Int) : List E := appX (vs 64 8) [.n 7640891576956012808, .n 13503953896175478587, .n 4354685564936845355, .n 11912009170470909681, .bin .xor .u64 (.n 5840696475078001361) (.cv .u64 (.v 9)), .bin .xor .u64 (.n 11170449401992604703) (.shr (.cv .u64 (.v 9)) 64), .n n, .n 6620516959819538809]
def esB0B (c : E) : List E := appX (vs 64 8) [.n 7640891576956012808, .n 13503953896175478587, .n 4354685564936845355, .n 11912009170470909681, .bin .xor .u64 (.n 5840696475078001361) (.bin .add .u64 (.v 72) (.n 128)), .bin .xor .u64 (.n 11170449401992604703) c, .bin .xor .u64 (.n 2270897969802886507) (.v 1), .n 6620516959819538809, .bin .add .u64 (.v 72) (.n 128), c]
theorem segEAB : and3 (rngL 128 256 esMB) (elsB (esVB false) (esV0B 2270897969802886507)) (elsB (esVB true) (esV0B 16175846103906665108)) = true := by kernel_rfl
theorem segEBB : and3 (elsB (esBB false) (esB0B (.v 73))) (elsB (esBB true) (esB0B (.bin .add .u64 (.v 73) (.n 1)))) true = true := by kernel_rfl
theorem segEDB : rng2L 64 72 512 528 esHB = true := by kernel_rfl
theorem segECB : and3 (and3 (someB (oUB.exits lLB.2)) (nilB oUB.st.obs) (nilB oVB.st.obs)) oVB.rets (aggB (resS ccB oVB.st Tryd.f23) (ints .u64 esHB)) = true := by kernel_rfl
end Go.Proofs.YtjhndmlpcpbaoaaDoor
