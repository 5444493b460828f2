/- The run of the reference's hash (s), piece by piece: the first words, the data appended, the padding, a block, the end. -/
import Derived.Test.YtjhndmlpcpbaoaaDoorCom1
namespace Go.Proofs.YtjhndmlpcpbaoaaDoor
open Go Go.Sx Go.Proofs
set_option maxRecDepth 100000
/- Names: 0 the parameters, 1 the data. Numbers: 0 the data's length. -/
noncomputable def chS : Cfg := cfgW [] []
def vsFS (d : SV) : List SV := [.f (.sl 0 0 (.n 32) (.v 0 0)), nilS, d]
def parLS (z : Int) : List Int := z :: 0 :: 1 :: 1 :: zerL 28
noncomputable def sFS (z : Int) (d : SV) : St := mkSt Tryd.f17.ntmps 2 0 (en 0 (vsFS d)) [(0, ⟨lits .u8 (parLS z), 0⟩)] []
-- to the loop over the first words, and on to what makes the row
noncomputable def oF1S (z : Int) (d : SV) : Out := go chS true 2000 [.code (bodyOf Tryd.f17)] (sFS z d)
noncomputable def cF1S : Code := loopAt Tryd.f17 0
noncomputable def lF1S (z : Int) (d : SV) : Code × List It := loopP (oF1S z d)
noncomputable def oF2S (z : Int) (d : SV) : Out := go chS false 5000 [.code (.loop cF1S)] (oF1S z d).st
noncomputable def kF2S (z : Int) (d : SV) : List It := ((oF2S z d).exits (lF1S z d).2).getD []
noncomputable def oF3S (z : Int) (d : SV) : Out := go chS true 2 (kF2S z d) (oF2S z d).st
def flGS (d : SV) : List (Nat × SV) := [(0, .f (.sl 0 0 (.n 32) (.v 0 0))), (1, nilS), (2, d), (7, .f (.int .i64 (.n 64))), (8, .f (.ptr 14 0))]
def hwLS (z : Int) : List FV := lits .u32 (h0LS z)
noncomputable def sGS (z : Int) (d : SV) : St := mkSt Tryd.f17.ntmps 16 0 (flGS d) [(14, ⟨hwLS z, 2⟩)] []
noncomputable def stGS (d : SV) : Stand := (standOf (oF3S 32 d).stk (sGS 32 d)).getD stand0
-- the row is there: to the append
noncomputable def oG2S (d : SV) : Out := go chS true 2000 (.ops (stGS d).all (stGS d).l :: (stGS d).k) (mkSt Tryd.f17.ntmps 17 0 ((36, .f (.sl 16 0 (.n 0) (.v 16 0))) :: flGS d) [] [])
def flIS (d : SV) : List (Nat × SV) := (49, .f (.sl 16 0 (.n 0) (.v 16 0))) :: (50, d) :: flGS d
noncomputable def sIS (d : SV) : St := mkSt Tryd.f17.ntmps 17 0 (flIS d) [] []
noncomputable def stIS (d : SV) : Stand := (standOf (oG2S d).stk (sIS d)).getD stand0
-- appended: to the loop that pads
noncomputable def oI2S (d : SV) : Out := go chS true 2000 (.ops (stIS d).all (stIS d).l :: (stIS d).k) (mkSt Tryd.f17.ntmps 18 0 ((51, .f (.sl 17 0 (.v 0) (.v 17 0))) :: flIS d) [] [])
noncomputable def lIS (d : SV) : Code × List It := loopP (oI2S d)
noncomputable def cIS : Code := loopAt Tryd.f17 1
def flLS : List (Nat × SV) := [(0, .f (.sl 0 0 (.n 32) (.v 0 0))), (7, .f (.int .i64 (.n 64))), (8, .f (.ptr 14 0)), (10, .f (.sl 17 0 (.v 20) (.v 17 0))), (11, .f (.int .i64 (.v 0)))]
noncomputable def sLS (orc : List Bool) : St := mkSt Tryd.f17.ntmps 18 0 flLS [] orc
noncomputable def oLxS : Out := go chS false 2000 [.code cIS] (sLS [false, false])
noncomputable def oLgS (b : Bool) : Out := go chS false 2000 [.code cIS] (sLS (match b with | true => [true] | false => [false, true]))
def flMS : List (Nat × SV) := (64, .f (.sl 17 0 (.v 20) (.v 17 0))) :: (65, .f (.sl 18 0 (.n 1) (.l 1))) :: flLS
noncomputable def sMS : St := mkSt Tryd.f17.ntmps 19 0 flMS [(18, ⟨[.int .u8 (.n 0)], 2⟩)] []
noncomputable def stMS : Stand := (standOf (oLgS true).stk sMS).getD stand0
noncomputable def oM2S : Out := go chS false 2000 (.ops stMS.all stMS.l :: stMS.k) (mkSt Tryd.f17.ntmps 20 0 ((66, .f (.sl 19 0 (.v 21) (.v 19 0))) :: flMS) [] [])
-- padded: to the loop over the blocks
noncomputable def kLS : List It := (oLxS.exits (lIS dat).2).getD []
noncomputable def oN1S : Out := go chS true 2000 kLS oLxS.st
noncomputable def lNS : Code × List It := loopP oN1S
noncomputable def cNS : Code := loopAt Tryd.f17 2
def flNS : List (Nat × SV) := (12, .f (.int .i64 (.v 74))) :: flLS
noncomputable def cHS : Cfg := cfgW [] [14]
noncomputable def cHES : Cfg := cfgE [] [14]
noncomputable def cHXS : Cfg := { cHS with ix := [⟨17, 0, .v 20, 74, 18, 64⟩] }
def mlNS (z : Int) : List (Nat × Win) := [(14, ⟨ws .u32 64 8, 1⟩), (0, ⟨lits .u8 (parLS z), 0⟩)]
noncomputable def sNSr (z : Int) (orc : List Bool) : St := mkSt Tryd.f17.ntmps 18 0 flNS (mlNS z) orc
noncomputable def oNbS (z : Int) (l : Bool) : Out := go cHXS true 2000 [.code cNS] (mkSt Tryd.f17.ntmps 19 0 flNS ((18, ⟨ws .u8 128 64, 0⟩) :: mlNS z) [true, l])
def flOS (l : Bool) : List (Nat × SV) := (85, .agg (ws .u32 64 8)) :: (91, .f (.sl 18 0 (.n 64) (.v 18 0))) :: (92, .f (.int .i64 (match l with | true => .v 0 | false => .add (.v 74) (.n 64)))) :: (93, .f (.bool l)) :: flNS
noncomputable def sOS (z : Int) (l : Bool) : St := mkSt Tryd.f17.ntmps 19 0 (flOS l) ((18, ⟨ws .u8 128 64, 0⟩) :: mlNS z) []
noncomputable def eOS (z : Int) (l : Bool) : Entry := entOf cHES (oNbS z l).stk (sOS z l)
noncomputable def oO2S (z : Int) (l : Bool) : Out := go cHS false 2000 (eOS z l).k (mkSt Tryd.f17.ntmps 19 0 ((94, .agg (ws .u32 512 8)) :: flOS l) ((18, ⟨ws .u8 128 64, 0⟩) :: mlNS z) [])
def esOS : List E := appX (vs 512 8) [.n 0, .n 0, .add (.v 74) (.n 64)]
-- the end
noncomputable def oQ1S (z : Int) : Out := go cHS false 2000 [.code cNS] (sNSr z [false])
noncomputable def kQS (z : Int) : List It := ((oQ1S z).exits lNS.2).getD []
noncomputable def oQ2S (z : Int) : Out := go cHS true 2000 (kQS z) (oQ1S z).st
def flQeS : List (Nat × SV) := [(0, .f (.sl 0 0 (.n 32) (.v 0 0))), (8, .f (.ptr 14 0))]
noncomputable def sQeS (z : Int) : St := mkSt Tryd.f17.ntmps 18 0 flQeS (mlNS z) []
noncomputable def rgS (z : Int) : Array Oper × List It := regOf (oQ2S z).stk
noncomputable def endsS (z : Int) : Option (List St) := anyEnds cHS 5000 (rgS z).1 (rgS z).1.size (Array.replicate (rgS z).1.size false) (sQeS z)
def flZS (z : Int) : List (Nat × SV) := [(6, .f (.sl 91 0 (.n z) (.v 91 0)))]
def mlZS : List (Nat × Win) := [(91, ⟨ws .u8 600 32, 2⟩)]
noncomputable def oZS (z : Int) : Out := go cHS true 500 (rgS z).2 (mkSt Tryd.f17.ntmps 92 0 (flZS z) mlZS [])
def flL2S : List (Nat × SV) := [(0, .f (.sl 0 0 (.n 32) (.v 0 0))), (7, .f (.int .i64 (.n 64))), (8, .f (.ptr 14 0)), (10, .f (.sl 19 0 (.v 21) (.v 19 0))), (11, .f (.int .i64 (.v 0)))]
end Go.Proofs.YtjhndmlpcpbaoaaDoor
