/- The run of the library's checkSum (b), piece by piece: to the first call, on to the copy, to the second call, to the end. -/
import Derived.Test.YtjhndmlpcpbaoaaDoorCom1
import Derived.Test.YtjhndmlpcpbaoaaDoorSxN
namespace Go.Proofs.YtjhndmlpcpbaoaaDoor
open Go Go.Sx Go.Proofs
set_option maxRecDepth 100000
/- Names: 0 sum, 1 the data, 2 iv, 3 a variable without cells, 4 h, 5 c, 6 the data's rest, 7 the last block (or 6, where there is but one block). Numbers: 0 the length, 5 the size, 64 .. 71 h, 72, 73 c, 80 how many bytes in full blocks, 81 how many in the last, 128 .. its bytes. -/
noncomputable def cpB : Cfg := cfgW [(0, 2), (1, 3)] [0]
noncomputable def cpEB : Cfg := cfgE [(0, 2), (1, 3)] [0]
noncomputable def cpXB : Cfg := { cpB with ix := [⟨1, 0, .v 0, 80, 6, 1⟩] }
def vsPB : List SV := [.f (.ptr 0 0), .f (.int .i64 (.v 5)), .f (.sl 1 0 (.v 0) (.v 1 0))]
def mlPB : List (Nat × Win) := [(0, ⟨zeros .u8 64, 1⟩), (2, ⟨lits .u64 ivLB, 0⟩), (3, ⟨[], 0⟩)]
noncomputable def sPB (orc : List Bool) : St := mkSt Tryd.f19.ntmps 4 0 (en 0 vsPB) mlPB orc
-- more than a block
noncomputable def oPB (e : Bool) : Out := go cpB false 2000 [.code (bodyOf Tryd.f19)] (sPB [true, e])
def flQB (d : E) : List (Nat × SV) := [(0, .f (.ptr 0 0)), (1, .f (.int .i64 (.v 5))), (2, .f (.sl 1 0 (.v 0) (.v 1 0))), (6, .f (.ptr 4 0)), (7, .f (.ptr 5 0)), (8, .f (.int .i64 (.v 0))), (9, .f (.int .i64 (.v 80))), (37, .f (.sl 1 0 d (.v 1 0)))]
def mlQB : List (Nat × Win) := (4, ⟨ws .u64 64 8, 2⟩) :: (5, ⟨ws .u64 72 2, 2⟩) :: mlPB
noncomputable def sQB : St := mkSt Tryd.f19.ntmps 6 0 (flQB (.v 80)) mlQB []
noncomputable def esQB (e : Bool) : List E := appX (eWin (oPB e).st 4) (appX (eWin (oPB e).st 5) (appX (zs 6) [eOf ((oPB e).st.F.get 9)]))
-- one block
noncomputable def oP1B : Out := go cpB false 2000 [.code (bodyOf Tryd.f19)] (sPB [false])
-- no data at all
def vsNB : List SV := [.f (.ptr 0 0), .f (.int .i64 (.v 5)), .f (.lit (.slice none 0 0))]
noncomputable def sNB : St := mkSt Tryd.f19.ntmps 4 0 (en 0 vsNB) mlPB []
noncomputable def oNB : Out := go cpB false 2000 [.code (bodyOf Tryd.f19)] sNB
noncomputable def esNB : List E := appX (eWin oNB.st 4) (appX (zs 56) (appX (zs 128) (eWin oNB.st 5)))
-- behind the call
noncomputable def eQB : Entry := entOf cpEB (oPB false).stk sQB
def mlQ2B : List (Nat × Win) := (4, ⟨ws .u64 100 8, 2⟩) :: (5, ⟨ws .u64 108 2, 2⟩) :: mlPB
noncomputable def sQ2B : St := mkSt Tryd.f19.ntmps 6 0 ((38, .tup []) :: flQB (.v 80)) mlQ2B []
noncomputable def oRBc : Out := go cpXB false 2000 eQB.k (mkSt Tryd.f19.ntmps 7 0 ((38, .tup []) :: flQB (.v 80)) mlQ2B [])
def esRB : List E := appX (vs 100 8) (appX (vs 108 2) (appX (zs 7) [.sub (.v 0) (.v 80)]))
-- the copy
def flSB (jd jb : Nat) : List (Nat × SV) := [(0, .f (.ptr 0 0)), (1, .f (.int .i64 (.v 5))), (6, .f (.ptr 4 0)), (7, .f (.ptr 5 0)), (10, .f (.ptr jb 0)), (42, .f (.sl jb 0 (.n 128) (.l 128))), (43, .f (.sl jd 0 (.v 81) (.v jd 0)))]
def mlSB (jb : Nat) : List (Nat × Win) := (jb, ⟨zeros .u8 128, 2⟩) :: mlQB
noncomputable def sSB (jd jb : Nat) : St := mkSt Tryd.f19.ntmps 8 0 (flSB jd jb) (mlSB jb) []
noncomputable def es1B : List E := appX (eWin oP1B.st 4) (appX (eWin oP1B.st 5) (appX (zs 6) [.n 0, .v 0]))
noncomputable def stSB : Stand := (standOf oP1B.stk (sSB 1 6)).getD stand0
-- behind it
def flT0B (jd jb : Nat) : List (Nat × SV) := (44, .f (.int .i64 (.v 81))) :: flSB jd jb
def mlT0B (jb : Nat) : List (Nat × Win) := (jb, ⟨ws .u8 128 128, 2⟩) :: mlQB
noncomputable def oT0B (jd jb : Nat) (e : Bool) : Out := go cpB false 2000 (.ops stSB.all stSB.l :: stSB.k) (mkSt Tryd.f19.ntmps 8 0 (flT0B jd jb) (mlT0B jb) [e])
def flUB (jb : Nat) : List (Nat × SV) := [(0, .f (.ptr 0 0)), (1, .f (.int .i64 (.v 5))), (6, .f (.ptr 4 0)), (7, .f (.ptr 5 0)), (10, .f (.ptr jb 0)), (61, .f (.sl jb 0 (.n 128) (.l 128)))]
def mlUB (jb : Nat) : List (Nat × Win) := (jb, ⟨ws .u8 128 128, 2⟩) :: (4, ⟨ws .u64 64 8, 2⟩) :: (5, ⟨ws .u64 256 2, 2⟩) :: mlPB
noncomputable def sU0B (jb : Nat) : St := mkSt Tryd.f19.ntmps 8 0 (flUB jb) (mlUB jb) []
noncomputable def eUB (jb : Nat) : Entry := entOf cpEB (oT0B 1 6 false).stk (sU0B jb)
-- to the end
def flVB (z : Int) : List (Nat × SV) := [(0, .f (.ptr 0 0)), (1, .f (.int .i64 (.n z))), (6, .f (.ptr 4 0)), (7, .f (.ptr 5 0))]
def mlVB : List (Nat × Win) := (4, ⟨ws .u64 512 8, 2⟩) :: mlPB
noncomputable def oV0B (z : Int) : Out := go cpB false 5000 (eUB 6).k (mkSt Tryd.f19.ntmps 8 0 (flVB z) mlVB [])
end Go.Proofs.YtjhndmlpcpbaoaaDoor

/- The pieces of the library's checkSum (b), checked. -/
namespace Go.Proofs.YtjhndmlpcpbaoaaDoor
open Go Go.Sx Go.Proofs
set_option maxRecDepth 100000
def nFB : E := .bin .andNot .i64 (.v 0) (.n 127)
def nTB : E := .add (.bin .andNot .i64 (.v 0) (.n 127)) (.n (-128))
def esIB : List E := [.bin .xor .u64 (.n 7640891576956012808) (.bin .or .u64 (.bin .or .u64 (.cv .u64 (.v 5)) (.n 65536)) (.n 16777216)), .n 13503953896175478587, .n 4354685564936845355, .n 11912009170470909681, .n 5840696475078001361, .n 11170449401992604703, .n 2270897969802886507, .n 6620516959819538809]
def esQ0B (n : E) : List E := appX esIB (appX (zs 8) [n])
def es10B : List E := appX esIB (appX (zs 8) [.n 0, .v 0])
def obFB : List Ob := [.c .leq (.n 0) nFB true, .c .leq nFB (.v 0) true, .c .eql (.v 0) nFB false, .c .gtr (.v 0) (.n 128) true]
def obTB : List Ob := [.c .leq (.n 0) nTB true, .c .leq nTB (.v 0) true, .rng nTB, .c .eql (.v 0) nFB true, .c .gtr (.v 0) (.n 128) true]
theorem ckAB : and3 (and3 (oPB false).stops (oPB true).stops (entB cpEB 31 (oPB false).stk sQB)) (and3 (obsB (oPB false).st.obs obFB) (obsB (oPB true).st.obs obTB) true)
    (and3 (and3 (cutB cpB (oPB false).st Tryd.f19.ntmps 6 (flQB (.v 80)) mlQB 64 (esQB false)) (cutB cpB (oPB true).st Tryd.f19.ntmps 6 (flQB (.v 80)) mlQB 64 (esQB true)) true)
      (and3 (elsB (esQB false) (esQ0B nFB)) (elsB (esQB true) (esQ0B nTB)) true) (and3 (svsEq eQB.vs [.ptr 4 0, .ptr 5 0, .int .u64 (.n 0), .sl 1 0 (.v 80) (.v 1 0)]) (dstB eQB.dst 38) true)) = true := by kernel_rfl
theorem ckASB : (oPB true).stk = (oPB false).stk := by kernel_rfl
theorem ckRB : and3 oRBc.stops (nilB oRBc.st.obs) (cutB cpB oRBc.st Tryd.f19.ntmps 8 (flSB 6 7) (mlSB 7) 64 esRB) = true := by kernel_rfl
theorem ck1B : and3 (and3 oP1B.stops (obsB oP1B.st.obs [.c .gtr (.v 0) (.n 128) false]) (elsB es1B es10B)) (cutB cpB oP1B.st Tryd.f19.ntmps 8 (flSB 1 6) (mlSB 6) 64 es1B) true = true := by kernel_rfl
theorem ckF1B : standOf oP1B.stk (sSB 1 6) = some stSB := by kernel_rfl
theorem ckF2B : standOf oRBc.stk (sSB 6 7) = some stSB := by kernel_rfl
theorem ckGB : ∃ ty pos after guard, stSB.o = ⟨some 44, .call { callee := .builtin .copy, args := #[.tmp 42, .tmp 43], argTypes := #[22, 22] }, ty, pos, after, guard⟩ := ⟨stSB.o.type, stSB.o.pos, stSB.o.after, stSB.o.guard, by kernel_rfl⟩
def obUB (e : Bool) : List Ob := [.c .lss (.v 72) (.cv .u64 (.sub (.n 128) (.v 81))) e, .rng (.sub (.n 128) (.v 81))]
def hiEB (e : Bool) : E := match e with | true => .bin .sub .u64 (.v 73) (.n 1) | false => .v 73
def esUB (e : Bool) : List E := [.bin .sub .u64 (.v 72) (.cv .u64 (.sub (.n 128) (.v 81))), hiEB e]
noncomputable def ckTB (jd jb : Nat) (e : Bool) : Bool :=
  and3 (and3 (oT0B jd jb e).stops (obsB (oT0B jd jb e).st.obs (obUB e)) (elsB (eWin (oT0B jd jb e).st 5) (esUB e))) (cutB cpB (oT0B jd jb e).st Tryd.f19.ntmps 8 (flUB jb) (mlUB jb) 256 (eWin (oT0B jd jb e).st 5)) true
theorem ckTaB : and3 (ckTB 1 6 false) (ckTB 1 6 true) (and3 (ckTB 6 7 false) (ckTB 6 7 true) true) = true := by kernel_rfl
theorem ckS1B : (oT0B 1 6 true).stk = (oT0B 1 6 false).stk := by kernel_rfl
theorem ckS2B : (oT0B 6 7 false).stk = (oT0B 1 6 false).stk := by kernel_rfl
theorem ckS3B : (oT0B 6 7 true).stk = (oT0B 1 6 false).stk := by kernel_rfl
theorem ckUB : and3 (and3 (entB cpEB 31 (oT0B 1 6 false).stk (sU0B 6)) (entB cpEB 31 (oT0B 1 6 false).stk (sU0B 7)) true)
    (and3 (svsEq (eUB 6).vs [.ptr 4 0, .ptr 5 0, .int .u64 (.n 18446744073709551615), .sl 6 0 (.n 128) (.l 128)]) (svsEq (eUB 7).vs [.ptr 4 0, .ptr 5 0, .int .u64 (.n 18446744073709551615), .sl 7 0 (.n 128) (.l 128)]) true) (and3 (dstB (eUB 6).dst 62) (dstB (eUB 7).dst 62) true) = true := by kernel_rfl
theorem ckUkB : (eUB 7).k = (eUB 6).k := by kernel_rfl
theorem ckNB : and3 (and3 oNB.stops (nilB oNB.st.obs) (elsB (eWin oNB.st 4) esIB)) (cutB cpB oNB.st Tryd.f19.ntmps 8 (flUB 6) (mlUB 6) 64 esNB) (elsB (eWin oNB.st 5) [.n (18446744073709551615 - 127), .n 18446744073709551615]) = true := by kernel_rfl
theorem ckNSB : oNB.stk = (oT0B 1 6 false).stk := by kernel_rfl
noncomputable def ckVB (z : Nat) : Bool := and3 (and3 (oV0B z).rets (nilB (oV0B z).st.obs) (tupNil (resS cpB (oV0B z).st Tryd.f19))) (winB ((oV0B z).st.M.get 0) z (ints .u8 (byE 512 8 z))) true
theorem ckVB64 : ckVB 64 = true := by kernel_rfl
theorem ckVB48 : ckVB 48 = true := by kernel_rfl
theorem ckVB32 : ckVB 32 = true := by kernel_rfl
theorem ckWB64 : wr1 ((oV0B 64).st.M.get 0) = true := by kernel_rfl
theorem ckWB48 : wr1 ((oV0B 48).st.M.get 0) = true := by kernel_rfl
theorem ckWB32 : wr1 ((oV0B 32).st.M.get 0) = true := by kernel_rfl
theorem ckW_allB {z : Nat} (hz : z = 64 ∨ z = 48 ∨ z = 32) : wr1 ((oV0B z).st.M.get 0) = true := by
  rcases hz with rfl | rfl | rfl
  · exact ckWB64
  · exact ckWB48
  · exact ckWB32
theorem ckV_allB {z : Nat} (hz : z = 64 ∨ z = 48 ∨ z = 32) : ckVB z = true := by
  rcases hz with rfl | rfl | rfl
  · exact ckVB64
  · exact ckVB48
  · exact ckVB32
end Go.Proofs.YtjhndmlpcpbaoaaDoor
