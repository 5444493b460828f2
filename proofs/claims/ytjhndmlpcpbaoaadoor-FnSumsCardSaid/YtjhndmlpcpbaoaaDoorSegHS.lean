/- The run of the library's compression of blocks, piece by piece (s): to the loop over the blocks, the first words, the block's words, a round, the end of a block, the end. -/
import Derived.Test.YtjhndmlpcpbaoaaDoorCom1
namespace Go.Proofs.YtjhndmlpcpbaoaaDoor
open Go Go.Sx Go.Proofs
set_option maxRecDepth 100000
/- Names: 0 h, 1 c, 2 the blocks, 3 the table, 4 iv, 5 a variable without cells, 6 m, 7 the block. Numbers: 0 the length, 1 the flag, 2, 3 c at the start, 64 .. 71 h, 72, 73 c, 74 i, 75 .. 90 m, 91 .. 106 the first words, 107, 108 c, 128 .. the block's bytes, 256 .. 271 the block's words, 512 .. 527 the words of a round. -/
def preS : List FV := lits .u8 [0, 2, 4, 6, 1, 3, 5, 7, 8, 10, 12, 14, 9, 11, 13, 15, 14, 4, 9, 13, 10, 8, 15, 6, 1, 0, 11, 5, 12, 2, 7, 3, 11, 12, 5, 15, 8, 0, 2, 13, 10, 3, 7, 9, 14, 6, 1, 4, 7, 3, 13, 11, 9, 1, 12, 14, 2, 5, 4, 15, 6, 10, 0, 8, 9, 5, 2, 10, 0, 7, 4, 15, 14, 11, 6, 3, 1, 12, 8, 13, 2, 6, 0, 8, 12, 10, 11, 3, 4, 7, 15, 1, 13, 5, 14, 9, 12, 1, 14, 4, 5, 15, 13, 10, 0, 6, 9, 8, 7, 3, 2, 11, 13, 7, 12, 3, 11, 14, 1, 9, 5, 15, 8, 2, 0, 4, 6, 10, 6, 14, 11, 0, 15, 9, 3, 8, 12, 13, 1, 10, 2, 7, 4, 5, 10, 8, 7, 1, 2, 4, 6, 5, 15, 9, 3, 13, 11, 14, 12, 0]
def ivS : List FV := lits .u32 [1779033703, 3144134277, 1013904242, 2773480762, 1359893119, 2600822924, 528734635, 1541459225]
noncomputable def c0S : Cfg := cfgW [(4, 3), (2, 4), (1, 5)] [0, 1]
noncomputable def cXS : Cfg := { c0S with ix := [⟨2, 0, .v 0, 74, 7, 64⟩] }
def flAS : List (Nat × SV) := [(0, .f (.ptr 0 0)), (1, .f (.ptr 1 0)), (2, .f (.int .u32 (.v 1))), (3, .f (.sl 2 0 (.v 0) (.v 2 0)))]
def mlAS (c : Nat) : List (Nat × Win) := [(0, ⟨ws .u32 64 8, 1⟩), (1, ⟨ws .u32 c 2, 1⟩), (3, ⟨preS, 0⟩), (4, ⟨ivS, 0⟩), (5, ⟨[], 0⟩)]
noncomputable def sAS : St := mkSt Tryd.f40.ntmps 6 0 flAS (mlAS 2) []
noncomputable def oAS : Out := go c0S true 1000 [.code (bodyOf Tryd.f40)] sAS
noncomputable def lAS : Code × List It := loopP oAS
noncomputable def cAS : Code := loopAt Tryd.f40 0
noncomputable def cBS : Code := loopAt Tryd.f40 1
noncomputable def cDS : Code := loopAt Tryd.f40 2
-- a block
def flBS : List (Nat × SV) := (8, .f (.ptr 6 0)) :: (9, .f (.int .u32 (.v 72))) :: (10, .f (.int .u32 (.v 73))) :: (11, .f (.int .i64 (.v 74))) :: flAS
def mlBS : List (Nat × Win) := (6, ⟨ws .u32 75 16, 2⟩) :: mlAS 2
noncomputable def sBS (orc : List Bool) : St := mkSt Tryd.f40.ntmps 7 0 flBS mlBS orc
noncomputable def oBS (b : Bool) : Out := go c0S true 1000 [.code cAS] (sBS [true, b])
noncomputable def lBS : Code × List It := loopP (oBS false)
noncomputable def esBS (b : Bool) : List E := appX (eSlots (oBS b).st.F 12 16) (eSlots (oBS b).st.F 9 2)
def flCS : List (Nat × SV) := (106, .f (.int .i64 (.n 0))) :: (8, .f (.ptr 6 0)) :: (9, .f (.int .u32 (.v 107))) :: (10, .f (.int .u32 (.v 108))) :: (11, .f (.int .i64 (.v 74))) :: appX (slotsW .u32 12 91 16) flAS
noncomputable def sC0S : St := mkSt Tryd.f40.ntmps 7 0 flCS mlBS []
noncomputable def sCS : St := mkSt Tryd.f40.ntmps 8 0 flCS ((7, ⟨ws .u8 128 64, 0⟩) :: mlBS) []
noncomputable def oCS : Out := go cXS false 3000 [.code (.loop cBS)] sCS
noncomputable def kCS : List It := (oCS.exits lBS.2).getD []
noncomputable def oDS : Out := go cXS true 2000 kCS oCS.st
noncomputable def lDS : Code × List It := loopP oDS
/-- The block's words. -/
noncomputable def esMS : List E := eWin oCS.st 6
-- the rounds
def flRS (t : Int) : List (Nat × SV) := (143, .f (.int .i64 (.n t))) :: (8, .f (.ptr 6 0)) :: (9, .f (.int .u32 (.v 107))) :: (10, .f (.int .u32 (.v 108))) :: (11, .f (.int .i64 (.add (.v 74) (.n 64)))) :: appX (slotsW .u32 12 512 16) flAS
def mlRS : List (Nat × Win) := (6, ⟨ws .u32 256 16, 2⟩) :: mlAS 2
noncomputable def sRS (t : Int) : St := mkSt Tryd.f40.ntmps 7 0 (flRS t) mlRS []
noncomputable def oRS (t : Int) : Out := go c0S false 5000 [.code cDS] (sRS t)
noncomputable def esDS (t : Int) : List E := eSlots (oRS t).st.F 12 16
-- the end of a block
noncomputable def oES : Out := go c0S false 5000 [.code cDS] (sRS 10)
noncomputable def kES : List It := (oES.exits lDS.2).getD []
noncomputable def oFS : Out := go c0S false 5000 kES oES.st
/-- The new h. -/
noncomputable def esHS : List E := eWin oFS.st 0
-- the end
noncomputable def oGS : Out := go c0S false 5000 [.code cAS] (sBS [false])
noncomputable def kGS : List It := (oGS.exits lAS.2).getD []
noncomputable def oHS : Out := go c0S true 5000 kGS oGS.st
def mlHS : List (Nat × Win) := [(0, ⟨ws .u32 64 8, 1⟩), (1, ⟨ws .u32 72 2, 1⟩)]
end Go.Proofs.YtjhndmlpcpbaoaaDoor

/- The run of the reference's compression, piece by piece (s): the block's words, the first words, a round, the end. -/
namespace Go.Proofs.YtjhndmlpcpbaoaaDoor
open Go Go.Sx Go.Proofs
set_option maxRecDepth 100000
/- Numbers: 9 the count, 64 .. 71 h, 128 .. the block's bytes, then as in the library's run. -/
noncomputable def ccS : Cfg := cfgW [] []
noncomputable def sJS (l : Bool) : St := mkSt Tryd.f29.ntmps 1 0 [(0, .agg (ws .u32 64 8)), (1, .f (.sl 0 0 (.n 64) (.v 0 0))), (2, .f (.int .i64 (.v 9))), (3, .f (.bool l))] [(0, ⟨ws .u8 128 64, 0⟩)] []
noncomputable def oJS (l : Bool) : Out := go ccS true 2000 [.code (bodyOf Tryd.f29)] (sJS l)
noncomputable def cJS : Code := loopAt Tryd.f29 0
noncomputable def cLS : Code := loopAt Tryd.f29 1
noncomputable def lJS : Code × List It := loopP (oJS false)
noncomputable def oKS (l : Bool) : Out := go ccS false 5000 [.code (.loop cJS)] (oJS l).st
noncomputable def kKS (l : Bool) : List It := ((oKS l).exits lJS.2).getD []
noncomputable def oLS (l : Bool) : Out := go ccS true 5000 (kKS l) (oKS l).st
noncomputable def lLS : Code × List It := loopP (oLS false)
noncomputable def esVS (l : Bool) : List E := eWin (oLS l).st 22
def flTS (t : Int) : List (Nat × SV) := [(4, .f (.ptr 1 0)), (8, .f (.ptr 2 0)), (9, .f (.ptr 4 0)), (10, .f (.ptr 5 0)), (12, .f (.ptr 22 0)), (13, .f (.ptr 34 0)), (65, .f (.int .i64 (.n 10))), (66, .f (.int .i64 (.n t)))]
def mlTS : List (Nat × Win) := [(1, ⟨ws .u32 64 8, 2⟩), (2, ⟨lits .u32 [0, 0, 0, 0, 0, 0, 0, 0], 2⟩), (4, ⟨lits .i64 [32, 10, 16, 12, 8, 7], 2⟩), (5, ⟨ws .u32 256 16, 2⟩), (22, ⟨ws .u32 512 16, 2⟩)]
noncomputable def sTS (t : Int) : St := mkSt Tryd.f29.ntmps 35 0 (flTS t) mlTS []
noncomputable def oTS (t : Int) : Out := go ccS false 5000 [.code cLS] (sTS t)
/-- A round of both, looked at. -/
noncomputable def rndS (t : Int) : Bool :=
  and3 (and3 (oRS t).dones (nilB (oRS t).st.obs) (cutB c0S (oRS t).st Tryd.f40.ntmps 7 (flRS (t + 1)) mlRS 512 (esDS t)))
    (and3 (lenB (esDS t) 16) (rngL 256 528 (esDS t)) true)
    (and3 (oTS t).dones (nilB (oTS t).st.obs) (cutB ccS (oTS t).st Tryd.f29.ntmps 35 (flTS (t + 1)) mlTS 512 (esDS t)))
noncomputable def oUS : Out := go ccS false 5000 [.code cLS] (sTS 10)
noncomputable def kUS : List It := (oUS.exits lLS.2).getD []
noncomputable def oVS : Out := go ccS false 5000 kUS oUS.st
end Go.Proofs.YtjhndmlpcpbaoaaDoor
