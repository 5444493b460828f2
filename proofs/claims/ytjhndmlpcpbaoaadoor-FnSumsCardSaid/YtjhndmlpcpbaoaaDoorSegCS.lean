/- The run of the library's checkSum (s), piece by piece: to the first call, on to the copy, to the second call, to the end. -/
import Derived.Test.YtjhndmlpcpbaoaaDoorCom1
import Derived.Test.YtjhndmlpcpbaoaaDoorSxN
namespace Go.Proofs.YtjhndmlpcpbaoaaDoor
open Go Go.Sx Go.Proofs
set_option maxRecDepth 100000
/- Names: 0 sum, 1 the data, 2 iv, 3 a variable without cells, 4 h, 5 c, 6 the data's rest, 7 the last block (or 6, where there is but one block). Numbers: 0 the length, 5 the size, 64 .. 71 h, 72, 73 c, 80 how many bytes in full blocks, 81 how many in the last, 128 .. its bytes. -/
noncomputable def cpS : Cfg := cfgW [(2, 2), (1, 3)] [0]
noncomputable def cpES : Cfg := cfgE [(2, 2), (1, 3)] [0]
noncomputable def cpXS : Cfg := { cpS with ix := [⟨1, 0, .v 0, 80, 6, 1⟩] }
def vsPS : List SV := [.f (.ptr 0 0), .f (.int .i64 (.v 5)), .f (.sl 1 0 (.v 0) (.v 1 0))]
def mlPS : List (Nat × Win) := [(0, ⟨zeros .u8 32, 1⟩), (2, ⟨lits .u32 ivLS, 0⟩), (3, ⟨[], 0⟩)]
noncomputable def sPS (orc : List Bool) : St := mkSt Tryd.f25.ntmps 4 0 (en 0 vsPS) mlPS orc
-- more than a block
noncomputable def oPS (e : Bool) : Out := go cpS false 2000 [.code (bodyOf Tryd.f25)] (sPS [true, e])
def flQS (d : E) : List (Nat × SV) := [(0, .f (.ptr 0 0)), (1, .f (.int .i64 (.v 5))), (2, .f (.sl 1 0 (.v 0) (.v 1 0))), (6, .f (.ptr 4 0)), (7, .f (.ptr 5 0)), (8, .f (.int .i64 (.v 0))), (9, .f (.int .i64 (.v 80))), (37, .f (.sl 1 0 d (.v 1 0)))]
def mlQS : List (Nat × Win) := (4, ⟨ws .u32 64 8, 2⟩) :: (5, ⟨ws .u32 72 2, 2⟩) :: mlPS
noncomputable def sQS : St := mkSt Tryd.f25.ntmps 6 0 (flQS (.v 80)) mlQS []
noncomputable def esQS (e : Bool) : List E := appX (eWin (oPS e).st 4) (appX (eWin (oPS e).st 5) (appX (zs 6) [eOf ((oPS e).st.F.get 9)]))
-- one block
noncomputable def oP1S : Out := go cpS false 2000 [.code (bodyOf Tryd.f25)] (sPS [false])
-- no data at all
def vsNS : List SV := [.f (.ptr 0 0), .f (.int .i64 (.v 5)), .f (.lit (.slice none 0 0))]
noncomputable def sNS : St := mkSt Tryd.f25.ntmps 4 0 (en 0 vsNS) mlPS []
noncomputable def oNS : Out := go cpS false 2000 [.code (bodyOf Tryd.f25)] sNS
noncomputable def esNS : List E := appX (eWin oNS.st 4) (appX (zs 56) (appX (zs 128) (eWin oNS.st 5)))
-- behind the call
noncomputable def eQS : Entry := entOf cpES (oPS false).stk sQS
def mlQ2S : List (Nat × Win) := (4, ⟨ws .u32 100 8, 2⟩) :: (5, ⟨ws .u32 108 2, 2⟩) :: mlPS
noncomputable def sQ2S : St := mkSt Tryd.f25.ntmps 6 0 ((38, .tup []) :: flQS (.v 80)) mlQ2S []
noncomputable def oRSc : Out := go cpXS false 2000 eQS.k (mkSt Tryd.f25.ntmps 7 0 ((38, .tup []) :: flQS (.v 80)) mlQ2S [])
def esRS : List E := appX (vs 100 8) (appX (vs 108 2) (appX (zs 7) [.sub (.v 0) (.v 80)]))
-- the copy
def flSS (jd jb : Nat) : List (Nat × SV) := [(0, .f (.ptr 0 0)), (1, .f (.int .i64 (.v 5))), (6, .f (.ptr 4 0)), (7, .f (.ptr 5 0)), (10, .f (.ptr jb 0)), (42, .f (.sl jb 0 (.n 64) (.l 64))), (43, .f (.sl jd 0 (.v 81) (.v jd 0)))]
def mlSS (jb : Nat) : List (Nat × Win) := (jb, ⟨zeros .u8 64, 2⟩) :: mlQS
noncomputable def sSS (jd jb : Nat) : St := mkSt Tryd.f25.ntmps 8 0 (flSS jd jb) (mlSS jb) []
noncomputable def es1S : List E := appX (eWin oP1S.st 4) (appX (eWin oP1S.st 5) (appX (zs 6) [.n 0, .v 0]))
noncomputable def stSS : Stand := (standOf oP1S.stk (sSS 1 6)).getD stand0
-- behind it
def flT0S (jd jb : Nat) : List (Nat × SV) := (44, .f (.int .i64 (.v 81))) :: flSS jd jb
def mlT0S (jb : Nat) : List (Nat × Win) := (jb, ⟨ws .u8 128 64, 2⟩) :: mlQS
noncomputable def oT0S (jd jb : Nat) (e : Bool) : Out := go cpS false 2000 (.ops stSS.all stSS.l :: stSS.k) (mkSt Tryd.f25.ntmps 8 0 (flT0S jd jb) (mlT0S jb) [e])
def flUS (jb : Nat) : List (Nat × SV) := [(0, .f (.ptr 0 0)), (1, .f (.int .i64 (.v 5))), (6, .f (.ptr 4 0)), (7, .f (.ptr 5 0)), (10, .f (.ptr jb 0)), (61, .f (.sl jb 0 (.n 64) (.l 64)))]
def mlUS (jb : Nat) : List (Nat × Win) := (jb, ⟨ws .u8 128 64, 2⟩) :: (4, ⟨ws .u32 64 8, 2⟩) :: (5, ⟨ws .u32 256 2, 2⟩) :: mlPS
noncomputable def sU0S (jb : Nat) : St := mkSt Tryd.f25.ntmps 8 0 (flUS jb) (mlUS jb) []
noncomputable def eUS (jb : Nat) : Entry := entOf cpES (oT0S 1 6 false).stk (sU0S jb)
-- to the end
def flVS (z : Int) : List (Nat × SV) := [(0, .f (.ptr 0 0)), (1, .f (.int .i64 (.n z))), (6, .f (.ptr 4 0)), (7, .f (.ptr 5 0))]
def mlVS : List (Nat × Win) := (4, ⟨ws .u32 512 8, 2⟩) :: mlPS
noncomputable def oV0S (z : Int) : Out := go cpS false 5000 (eUS 6).k (mkSt Tryd.f25.ntmps 8 0 (flVS z) mlVS [])
end Go.Proofs.YtjhndmlpcpbaoaaDoor

/- The pieces of the library's checkSum (s), checked. -/
namespace Go.Proofs.YtjhndmlpcpbaoaaDoor
open Go Go.Sx Go.Proofs
set_option maxRecDepth 100000
def nFS : E := .bin .andNot .i64 (.v 0) (.n 63)
def nTS : E := .add (.bin .andNot .i64 (.v 0) (.n 63)) (.n (-64))
def esIS : List E := [.bin .xor .u32 (.n 1779033703) (.bin .or .u32 (.bin .or .u32 (.cv .u32 (.v 5)) (.n 65536)) (.n 16777216)), .n 3144134277, .n 1013904242, .n 2773480762, .n 1359893119, .n 2600822924, .n 528734635, .n 1541459225]
def esQ0S (n : E) : List E := appX esIS (appX (zs 8) [n])
def es10S : List E := appX esIS (appX (zs 8) [.n 0, .v 0])
def obFS : List Ob := [.c .leq (.n 0) nFS true, .c .leq nFS (.v 0) true, .c .eql (.v 0) nFS false, .c .gtr (.v 0) (.n 64) true]
def obTS : List Ob := [.c .leq (.n 0) nTS true, .c .leq nTS (.v 0) true, .rng nTS, .c .eql (.v 0) nFS true, .c .gtr (.v 0) (.n 64) true]
theorem ckAS : and3 (and3 (oPS false).stops (oPS true).stops (entB cpES 35 (oPS false).stk sQS)) (and3 (obsB (oPS false).st.obs obFS) (obsB (oPS true).st.obs obTS) true)
    (and3 (and3 (cutB cpS (oPS false).st Tryd.f25.ntmps 6 (flQS (.v 80)) mlQS 64 (esQS false)) (cutB cpS (oPS true).st Tryd.f25.ntmps 6 (flQS (.v 80)) mlQS 64 (esQS true)) true)
      (and3 (elsB (esQS false) (esQ0S nFS)) (elsB (esQS true) (esQ0S nTS)) true) (and3 (svsEq eQS.vs [.ptr 4 0, .ptr 5 0, .int .u32 (.n 0), .sl 1 0 (.v 80) (.v 1 0)]) (dstB eQS.dst 38) true)) = true := by kernel_rfl
theorem ckASS : (oPS true).stk = (oPS false).stk := by kernel_rfl
theorem ckRS : and3 oRSc.stops (nilB oRSc.st.obs) (cutB cpS oRSc.st Tryd.f25.ntmps 8 (flSS 6 7) (mlSS 7) 64 esRS) = true := by kernel_rfl
theorem ck1S : and3 (and3 oP1S.stops (obsB oP1S.st.obs [.c .gtr (.v 0) (.n 64) false]) (elsB es1S es10S)) (cutB cpS oP1S.st Tryd.f25.ntmps 8 (flSS 1 6) (mlSS 6) 64 es1S) true = true := by kernel_rfl
theorem ckF1S : standOf oP1S.stk (sSS 1 6) = some stSS := by kernel_rfl
theorem ckF2S : standOf oRSc.stk (sSS 6 7) = some stSS := by kernel_rfl
theorem ckGS : ∃ ty pos after guard, stSS.o = ⟨some 44, .call { callee := .builtin .copy, args := #[.tmp 42, .tmp 43], argTypes := #[22, 22] }, ty, pos, after, guard⟩ := ⟨stSS.o.type, stSS.o.pos, stSS.o.after, stSS.o.guard, by kernel_rfl⟩
def obUS (e : Bool) : List Ob := [.c .lss (.v 72) (.cv .u32 (.sub (.n 64) (.v 81))) e, .rng (.sub (.n 64) (.v 81))]
def hiES (e : Bool) : E := match e with | true => .bin .sub .u32 (.v 73) (.n 1) | false => .v 73
def esUS (e : Bool) : List E := [.bin .sub .u32 (.v 72) (.cv .u32 (.sub (.n 64) (.v 81))), hiES e]
noncomputable def ckTS (jd jb : Nat) (e : Bool) : Bool :=
  and3 (and3 (oT0S jd jb e).stops (obsB (oT0S jd jb e).st.obs (obUS e)) (elsB (eWin (oT0S jd jb e).st 5) (esUS e))) (cutB cpS (oT0S jd jb e).st Tryd.f25.ntmps 8 (flUS jb) (mlUS jb) 256 (eWin (oT0S jd jb e).st 5)) true
theorem ckTaS : and3 (ckTS 1 6 false) (ckTS 1 6 true) (and3 (ckTS 6 7 false) (ckTS 6 7 true) true) = true := by kernel_rfl
theorem ckS1S : (oT0S 1 6 true).stk = (oT0S 1 6 false).stk := by kernel_rfl
theorem ckS2S : (oT0S 6 7 false).stk = (oT0S 1 6 false).stk := by kernel_rfl
theorem ckS3S : (oT0S 6 7 true).stk = (oT0S 1 6 false).stk := by kernel_rfl
theorem ckUS : and3 (and3 (entB cpES 35 (oT0S 1 6 false).stk (sU0S 6)) (entB cpES 35 (oT0S 1 6 false).stk (sU0S 7)) true)
    (and3 (svsEq (eUS 6).vs [.ptr 4 0, .ptr 5 0, .int .u32 (.n 4294967295), .sl 6 0 (.n 64) (.l 64)]) (svsEq (eUS 7).vs [.ptr 4 0, .ptr 5 0, .int .u32 (.n 4294967295), .sl 7 0 (.n 64) (.l 64)]) true) (and3 (dstB (eUS 6).dst 62) (dstB (eUS 7).dst 62) true) = true := by kernel_rfl
theorem ckUkS : (eUS 7).k = (eUS 6).k := by kernel_rfl
theorem ckNS : and3 (and3 oNS.stops (nilB oNS.st.obs) (elsB (eWin oNS.st 4) esIS)) (cutB cpS oNS.st Tryd.f25.ntmps 8 (flUS 6) (mlUS 6) 64 esNS) (elsB (eWin oNS.st 5) [.n (4294967295 - 63), .n 4294967295]) = true := by kernel_rfl
theorem ckNSS : oNS.stk = (oT0S 1 6 false).stk := by kernel_rfl
noncomputable def ckVS (z : Nat) : Bool := and3 (and3 (oV0S z).rets (nilB (oV0S z).st.obs) (tupNil (resS cpS (oV0S z).st Tryd.f25))) (winB ((oV0S z).st.M.get 0) z (ints .u8 (byE 512 4 z))) true
theorem ckVS32 : ckVS 32 = true := by kernel_rfl
theorem ckWS32 : wr1 ((oV0S 32).st.M.get 0) = true := by kernel_rfl
theorem ckW_allS {z : Nat} (hz : z = 32) : wr1 ((oV0S z).st.M.get 0) = true := by
  subst hz
  exact ckWS32
theorem ckV_allS {z : Nat} (hz : z = 32) : ckVS z = true := by
  subst hz
  exact ckVS32
end Go.Proofs.YtjhndmlpcpbaoaaDoor
