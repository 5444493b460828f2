/- The run of the reference's hash (b), piece by piece: the first words, the data appended, the padding, a block, the end. -/
import Derived.Test.YtjhndmlpcpbaoaaDoorCom1
namespace Go.Proofs.YtjhndmlpcpbaoaaDoor
open Go Go.Sx Go.Proofs
set_option maxRecDepth 100000
/- Names: 0 the parameters, 1 the data. Numbers: 0 the data's length. -/
noncomputable def chB : Cfg := cfgW [] []
def vsFB (d : SV) : List SV := [.f (.sl 0 0 (.n 64) (.v 0 0)), nilS, d]
def parLB (z : Int) : List Int := z :: 0 :: 1 :: 1 :: zerL 60
noncomputable def sFB (z : Int) (d : SV) : St := mkSt Tryd.f14.ntmps 2 0 (en 0 (vsFB d)) [(0, ⟨lits .u8 (parLB z), 0⟩)] []
-- to the loop over the first words, and on to what makes the row
noncomputable def oF1B (z : Int) (d : SV) : Out := go chB true 2000 [.code (bodyOf Tryd.f14)] (sFB z d)
noncomputable def cF1B : Code := loopAt Tryd.f14 0
noncomputable def lF1B (z : Int) (d : SV) : Code × List It := loopP (oF1B z d)
noncomputable def oF2B (z : Int) (d : SV) : Out := go chB false 5000 [.code (.loop cF1B)] (oF1B z d).st
noncomputable def kF2B (z : Int) (d : SV) : List It := ((oF2B z d).exits (lF1B z d).2).getD []
noncomputable def oF3B (z : Int) (d : SV) : Out := go chB true 2 (kF2B z d) (oF2B z d).st
def flGB (d : SV) : List (Nat × SV) := [(0, .f (.sl 0 0 (.n 64) (.v 0 0))), (1, nilS), (2, d), (7, .f (.int .i64 (.n 128))), (8, .f (.ptr 14 0))]
def hwLB (z : Int) : List FV := lits .u64 (h0LB z)
noncomputable def sGB (z : Int) (d : SV) : St := mkSt Tryd.f14.ntmps 16 0 (flGB d) [(14, ⟨hwLB z, 2⟩)] []
noncomputable def stGB (d : SV) : Stand := (standOf (oF3B 48 d).stk (sGB 48 d)).getD stand0
-- the row is there: to the append
noncomputable def oG2B (d : SV) : Out := go chB true 2000 (.ops (stGB d).all (stGB d).l :: (stGB d).k) (mkSt Tryd.f14.ntmps 17 0 ((36, .f (.sl 16 0 (.n 0) (.v 16 0))) :: flGB d) [] [])
def flIB (d : SV) : List (Nat × SV) := (49, .f (.sl 16 0 (.n 0) (.v 16 0))) :: (50, d) :: flGB d
noncomputable def sIB (d : SV) : St := mkSt Tryd.f14.ntmps 17 0 (flIB d) [] []
noncomputable def stIB (d : SV) : Stand := (standOf (oG2B d).stk (sIB d)).getD stand0
-- appended: to the loop that pads
noncomputable def oI2B (d : SV) : Out := go chB true 2000 (.ops (stIB d).all (stIB d).l :: (stIB d).k) (mkSt Tryd.f14.ntmps 18 0 ((51, .f (.sl 17 0 (.v 0) (.v 17 0))) :: flIB d) [] [])
noncomputable def lIB (d : SV) : Code × List It := loopP (oI2B d)
noncomputable def cIB : Code := loopAt Tryd.f14 1
def flLB : List (Nat × SV) := [(0, .f (.sl 0 0 (.n 64) (.v 0 0))), (7, .f (.int .i64 (.n 128))), (8, .f (.ptr 14 0)), (10, .f (.sl 17 0 (.v 20) (.v 17 0))), (11, .f (.int .i64 (.v 0)))]
noncomputable def sLB (orc : List Bool) : St := mkSt Tryd.f14.ntmps 18 0 flLB [] orc
noncomputable def oLxB : Out := go chB false 2000 [.code cIB] (sLB [false, false])
noncomputable def oLgB (b : Bool) : Out := go chB false 2000 [.code cIB] (sLB (match b with | true => [true] | false => [false, true]))
def flMB : List (Nat × SV) := (64, .f (.sl 17 0 (.v 20) (.v 17 0))) :: (65, .f (.sl 18 0 (.n 1) (.l 1))) :: flLB
noncomputable def sMB : St := mkSt Tryd.f14.ntmps 19 0 flMB [(18, ⟨[.int .u8 (.n 0)], 2⟩)] []
noncomputable def stMB : Stand := (standOf (oLgB true).stk sMB).getD stand0
noncomputable def oM2B : Out := go chB false 2000 (.ops stMB.all stMB.l :: stMB.k) (mkSt Tryd.f14.ntmps 20 0 ((66, .f (.sl 19 0 (.v 21) (.v 19 0))) :: flMB) [] [])
-- padded: to the loop over the blocks
noncomputable def kLB : List It := (oLxB.exits (lIB dat).2).getD []
noncomputable def oN1B : Out := go chB true 2000 kLB oLxB.st
noncomputable def lNB : Code × List It := loopP oN1B
noncomputable def cNB : Code := loopAt Tryd.f14 2
def flNB : List (Nat × SV) := (12, .f (.int .i64 (.v 74))) :: flLB
noncomputable def cHB : Cfg := cfgW [] [14]
noncomputable def cHEB : Cfg := cfgE [] [14]
noncomputable def cHXB : Cfg := { cHB with ix := [⟨17, 0, .v 20, 74, 18, 128⟩] }
def mlNB (z : Int) : List (Nat × Win) := [(14, ⟨ws .u64 64 8, 1⟩), (0, ⟨lits .u8 (parLB z), 0⟩)]
noncomputable def sNBr (z : Int) (orc : List Bool) : St := mkSt Tryd.f14.ntmps 18 0 flNB (mlNB z) orc
noncomputable def oNbB (z : Int) (l : Bool) : Out := go cHXB true 2000 [.code cNB] (mkSt Tryd.f14.ntmps 19 0 flNB ((18, ⟨ws .u8 128 128, 0⟩) :: mlNB z) [true, l])
def flOB (l : Bool) : List (Nat × SV) := (85, .agg (ws .u64 64 8)) :: (91, .f (.sl 18 0 (.n 128) (.v 18 0))) :: (92, .f (.int .i64 (match l with | true => .v 0 | false => .add (.v 74) (.n 128)))) :: (93, .f (.bool l)) :: flNB
noncomputable def sOB (z : Int) (l : Bool) : St := mkSt Tryd.f14.ntmps 19 0 (flOB l) ((18, ⟨ws .u8 128 128, 0⟩) :: mlNB z) []
noncomputable def eOB (z : Int) (l : Bool) : Entry := entOf cHEB (oNbB z l).stk (sOB z l)
noncomputable def oO2B (z : Int) (l : Bool) : Out := go cHB false 2000 (eOB z l).k (mkSt Tryd.f14.ntmps 19 0 ((94, .agg (ws .u64 512 8)) :: flOB l) ((18, ⟨ws .u8 128 128, 0⟩) :: mlNB z) [])
def esOB : List E := appX (vs 512 8) [.n 0, .n 0, .add (.v 74) (.n 128)]
-- the end
noncomputable def oQ1B (z : Int) : Out := go cHB false 2000 [.code cNB] (sNBr z [false])
noncomputable def kQB (z : Int) : List It := ((oQ1B z).exits lNB.2).getD []
noncomputable def oQ2B (z : Int) : Out := go cHB true 2000 (kQB z) (oQ1B z).st
def flQeB : List (Nat × SV) := [(0, .f (.sl 0 0 (.n 64) (.v 0 0))), (8, .f (.ptr 14 0))]
noncomputable def sQeB (z : Int) : St := mkSt Tryd.f14.ntmps 18 0 flQeB (mlNB z) []
noncomputable def rgB (z : Int) : Array Oper × List It := regOf (oQ2B z).stk
noncomputable def endsB (z : Int) : Option (List St) := anyEnds cHB 5000 (rgB z).1 (rgB z).1.size (Array.replicate (rgB z).1.size false) (sQeB z)
def flZB (z : Int) : List (Nat × SV) := [(6, .f (.sl 155 0 (.n z) (.v 155 0)))]
def mlZB : List (Nat × Win) := [(155, ⟨ws .u8 600 64, 2⟩)]
noncomputable def oZB (z : Int) : Out := go cHB true 500 (rgB z).2 (mkSt Tryd.f14.ntmps 156 0 (flZB z) mlZB [])
def flL2B : List (Nat × SV) := [(0, .f (.sl 0 0 (.n 64) (.v 0 0))), (7, .f (.int .i64 (.n 128))), (8, .f (.ptr 14 0)), (10, .f (.sl 19 0 (.v 21) (.v 19 0))), (11, .f (.int .i64 (.v 0)))]
end Go.Proofs.YtjhndmlpcpbaoaaDoor
