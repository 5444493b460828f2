/- The run of the library's compression of blocks, piece by piece (b): to the loop over the blocks, the first words, the block's words, a round, the end of a block, the end. -/
import Derived.Test.YtjhndmlpcpbaoaaDoorCom1
namespace Go.Proofs.YtjhndmlpcpbaoaaDoor
open Go Go.Sx Go.Proofs
set_option maxRecDepth 100000
/- Names: 0 h, 1 c, 2 the blocks, 3 the table, 4 iv, 5 a variable without cells, 6 m, 7 the block. Numbers: 0 the length, 1 the flag, 2, 3 c at the start, 64 .. 71 h, 72, 73 c, 74 i, 75 .. 90 m, 91 .. 106 the first words, 107, 108 c, 128 .. the block's bytes, 256 .. 271 the block's words, 512 .. 527 the words of a round. -/
def preB : List FV := lits .u8 [0, 2, 4, 6, 1, 3, 5, 7, 8, 10, 12, 14, 9, 11, 13, 15, 14, 4, 9, 13, 10, 8, 15, 6, 1, 0, 11, 5, 12, 2, 7, 3, 11, 12, 5, 15, 8, 0, 2, 13, 10, 3, 7, 9, 14, 6, 1, 4, 7, 3, 13, 11, 9, 1, 12, 14, 2, 5, 4, 15, 6, 10, 0, 8, 9, 5, 2, 10, 0, 7, 4, 15, 14, 11, 6, 3, 1, 12, 8, 13, 2, 6, 0, 8, 12, 10, 11, 3, 4, 7, 15, 1, 13, 5, 14, 9, 12, 1, 14, 4, 5, 15, 13, 10, 0, 6, 9, 8, 7, 3, 2, 11, 13, 7, 12, 3, 11, 14, 1, 9, 5, 15, 8, 2, 0, 4, 6, 10, 6, 14, 11, 0, 15, 9, 3, 8, 12, 13, 1, 10, 2, 7, 4, 5, 10, 8, 7, 1, 2, 4, 6, 5, 15, 9, 3, 13, 11, 14, 12, 0, 0, 2, 4, 6, 1, 3, 5, 7, 8, 10, 12, 14, 9, 11, 13, 15, 14, 4, 9, 13, 10, 8, 15, 6, 1, 0, 11, 5, 12, 2, 7, 3]
def ivB : List FV := lits .u64 [7640891576956012808, 13503953896175478587, 4354685564936845355, 11912009170470909681, 5840696475078001361, 11170449401992604703, 2270897969802886507, 6620516959819538809]
noncomputable def c0B : Cfg := cfgW [(3, 3), (0, 4), (1, 5)] [0, 1]
noncomputable def cXB : Cfg := { c0B with ix := [⟨2, 0, .v 0, 74, 7, 128⟩] }
def flAB : List (Nat × SV) := [(0, .f (.ptr 0 0)), (1, .f (.ptr 1 0)), (2, .f (.int .u64 (.v 1))), (3, .f (.sl 2 0 (.v 0) (.v 2 0)))]
def mlAB (c : Nat) : List (Nat × Win) := [(0, ⟨ws .u64 64 8, 1⟩), (1, ⟨ws .u64 c 2, 1⟩), (3, ⟨preB, 0⟩), (4, ⟨ivB, 0⟩), (5, ⟨[], 0⟩)]
noncomputable def sAB : St := mkSt Tryd.f38.ntmps 6 0 flAB (mlAB 2) []
noncomputable def oAB : Out := go c0B true 1000 [.code (bodyOf Tryd.f38)] sAB
noncomputable def lAB : Code × List It := loopP oAB
noncomputable def cAB : Code := loopAt Tryd.f38 0
noncomputable def cBB : Code := loopAt Tryd.f38 1
noncomputable def cDB : Code := loopAt Tryd.f38 2
-- a block
def flBB : List (Nat × SV) := (8, .f (.ptr 6 0)) :: (9, .f (.int .u64 (.v 72))) :: (10, .f (.int .u64 (.v 73))) :: (11, .f (.int .i64 (.v 74))) :: flAB
def mlBB : List (Nat × Win) := (6, ⟨ws .u64 75 16, 2⟩) :: mlAB 2
noncomputable def sBB (orc : List Bool) : St := mkSt Tryd.f38.ntmps 7 0 flBB mlBB orc
noncomputable def oBB (b : Bool) : Out := go c0B true 1000 [.code cAB] (sBB [true, b])
noncomputable def lBB : Code × List It := loopP (oBB false)
noncomputable def esBB (b : Bool) : List E := appX (eSlots (oBB b).st.F 12 16) (eSlots (oBB b).st.F 9 2)
def flCB : List (Nat × SV) := (106, .f (.int .i64 (.n 0))) :: (8, .f (.ptr 6 0)) :: (9, .f (.int .u64 (.v 107))) :: (10, .f (.int .u64 (.v 108))) :: (11, .f (.int .i64 (.v 74))) :: appX (slotsW .u64 12 91 16) flAB
noncomputable def sC0B : St := mkSt Tryd.f38.ntmps 7 0 flCB mlBB []
noncomputable def sCB : St := mkSt Tryd.f38.ntmps 8 0 flCB ((7, ⟨ws .u8 128 128, 0⟩) :: mlBB) []
noncomputable def oCB : Out := go cXB false 3000 [.code (.loop cBB)] sCB
noncomputable def kCB : List It := (oCB.exits lBB.2).getD []
noncomputable def oDB : Out := go cXB true 2000 kCB oCB.st
noncomputable def lDB : Code × List It := loopP oDB
/-- The block's words. -/
noncomputable def esMB : List E := eWin oCB.st 6
-- the rounds
def flRB (t : Int) : List (Nat × SV) := (119, .f (.int .i64 (.n t))) :: (8, .f (.ptr 6 0)) :: (9, .f (.int .u64 (.v 107))) :: (10, .f (.int .u64 (.v 108))) :: (11, .f (.int .i64 (.add (.v 74) (.n 128)))) :: appX (slotsW .u64 12 512 16) flAB
def mlRB : List (Nat × Win) := (6, ⟨ws .u64 256 16, 2⟩) :: mlAB 2
noncomputable def sRB (t : Int) : St := mkSt Tryd.f38.ntmps 7 0 (flRB t) mlRB []
noncomputable def oRB (t : Int) : Out := go c0B false 5000 [.code cDB] (sRB t)
noncomputable def esDB (t : Int) : List E := eSlots (oRB t).st.F 12 16
-- the end of a block
noncomputable def oEB : Out := go c0B false 5000 [.code cDB] (sRB 12)
noncomputable def kEB : List It := (oEB.exits lDB.2).getD []
noncomputable def oFB : Out := go c0B false 5000 kEB oEB.st
/-- The new h. -/
noncomputable def esHB : List E := eWin oFB.st 0
-- the end
noncomputable def oGB : Out := go c0B false 5000 [.code cAB] (sBB [false])
noncomputable def kGB : List It := (oGB.exits lAB.2).getD []
noncomputable def oHB : Out := go c0B true 5000 kGB oGB.st
def mlHB : List (Nat × Win) := [(0, ⟨ws .u64 64 8, 1⟩), (1, ⟨ws .u64 72 2, 1⟩)]
end Go.Proofs.YtjhndmlpcpbaoaaDoor

/- The run of the reference's compression, piece by piece (b): the block's words, the first words, a round, the end. -/
namespace Go.Proofs.YtjhndmlpcpbaoaaDoor
open Go Go.Sx Go.Proofs
set_option maxRecDepth 100000
/- Numbers: 9 the count, 64 .. 71 h, 128 .. the block's bytes, then as in the library's run. -/
noncomputable def ccB : Cfg := cfgW [] []
noncomputable def sJB (l : Bool) : St := mkSt Tryd.f23.ntmps 1 0 [(0, .agg (ws .u64 64 8)), (1, .f (.sl 0 0 (.n 128) (.v 0 0))), (2, .f (.int .i64 (.v 9))), (3, .f (.bool l))] [(0, ⟨ws .u8 128 128, 0⟩)] []
noncomputable def oJB (l : Bool) : Out := go ccB true 2000 [.code (bodyOf Tryd.f23)] (sJB l)
noncomputable def cJB : Code := loopAt Tryd.f23 0
noncomputable def cLB : Code := loopAt Tryd.f23 1
noncomputable def lJB : Code × List It := loopP (oJB false)
noncomputable def oKB (l : Bool) : Out := go ccB false 5000 [.code (.loop cJB)] (oJB l).st
noncomputable def kKB (l : Bool) : List It := ((oKB l).exits lJB.2).getD []
noncomputable def oLB (l : Bool) : Out := go ccB true 5000 (kKB l) (oKB l).st
noncomputable def lLB : Code × List It := loopP (oLB false)
noncomputable def esVB (l : Bool) : List E := eWin (oLB l).st 22
def flTB (t : Int) : List (Nat × SV) := [(4, .f (.ptr 1 0)), (8, .f (.ptr 2 0)), (9, .f (.ptr 4 0)), (10, .f (.ptr 5 0)), (12, .f (.ptr 22 0)), (13, .f (.ptr 34 0)), (64, .f (.int .i64 (.n 12))), (65, .f (.int .i64 (.n t)))]
def mlTB : List (Nat × Win) := [(1, ⟨ws .u64 64 8, 2⟩), (2, ⟨lits .u64 [0, 0, 0, 0, 0, 0, 0, 0], 2⟩), (4, ⟨lits .i64 [64, 12, 32, 24, 16, 63], 2⟩), (5, ⟨ws .u64 256 16, 2⟩), (22, ⟨ws .u64 512 16, 2⟩)]
noncomputable def sTB (t : Int) : St := mkSt Tryd.f23.ntmps 35 0 (flTB t) mlTB []
noncomputable def oTB (t : Int) : Out := go ccB false 5000 [.code cLB] (sTB t)
/-- A round of both, looked at. -/
noncomputable def rndB (t : Int) : Bool :=
  and3 (and3 (oRB t).dones (nilB (oRB t).st.obs) (cutB c0B (oRB t).st Tryd.f38.ntmps 7 (flRB (t + 1)) mlRB 512 (esDB t)))
    (and3 (lenB (esDB t) 16) (rngL 256 528 (esDB t)) true)
    (and3 (oTB t).dones (nilB (oTB t).st.obs) (cutB ccB (oTB t).st Tryd.f23.ntmps 35 (flTB (t + 1)) mlTB 512 (esDB t)))
noncomputable def oUB : Out := go ccB false 5000 [.code cLB] (sTB 12)
noncomputable def kUB : List It := (oUB.exits lLB.2).getD []
noncomputable def oVB : Out := go ccB false 5000 kUB oUB.st
end Go.Proofs.YtjhndmlpcpbaoaaDoor
