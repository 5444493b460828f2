/- The pieces of the reference's hash (b), checked. -/
import Derived.Test.YtjhndmlpcpbaoaaDoorSegFB
namespace Go.Proofs.YtjhndmlpcpbaoaaDoor
open Go Go.Sx Go.Proofs
set_option maxRecDepth 100000
noncomputable def hkAB (z : Int) (d : SV) : Bool :=
  and3 (and3 (oF1B z d).stops (nilB (oF1B z d).st.obs) (loopB (oF1B z d).stk)) (and3 (someB ((oF2B z d).exits (lF1B z d).2)) (nilB (oF2B z d).st.obs) (nilB (oF3B z d).st.obs))
    (and3 (oF3B z d).stops (cutB chB (oF3B z d).st Tryd.f14.ntmps 16 (flGB d) [(14, ⟨hwLB z, 2⟩)] 64 []) true)
theorem hkAB64a : hkAB 64 dat = true := by kernel_rfl
theorem hkAB64n : hkAB 64 nilS = true := by kernel_rfl
theorem hkBB64a : (lF1B 64 dat).1 = cF1B := by kernel_rfl
theorem hkBB64n : (lF1B 64 nilS).1 = cF1B := by kernel_rfl
theorem hkCB64a : standOf (oF3B 64 dat).stk (sGB 64 dat) = some (stGB dat) := by kernel_rfl
theorem hkCB64n : standOf (oF3B 64 nilS).stk (sGB 64 nilS) = some (stGB nilS) := by kernel_rfl
theorem hkAB48a : hkAB 48 dat = true := by kernel_rfl
theorem hkAB48n : hkAB 48 nilS = true := by kernel_rfl
theorem hkBB48a : (lF1B 48 dat).1 = cF1B := by kernel_rfl
theorem hkBB48n : (lF1B 48 nilS).1 = cF1B := by kernel_rfl
theorem hkCB48a : standOf (oF3B 48 dat).stk (sGB 48 dat) = some (stGB dat) := by kernel_rfl
theorem hkCB48n : standOf (oF3B 48 nilS).stk (sGB 48 nilS) = some (stGB nilS) := by kernel_rfl
theorem hkAB32a : hkAB 32 dat = true := by kernel_rfl
theorem hkAB32n : hkAB 32 nilS = true := by kernel_rfl
theorem hkBB32a : (lF1B 32 dat).1 = cF1B := by kernel_rfl
theorem hkBB32n : (lF1B 32 nilS).1 = cF1B := by kernel_rfl
theorem hkCB32a : standOf (oF3B 32 dat).stk (sGB 32 dat) = some (stGB dat) := by kernel_rfl
theorem hkCB32n : standOf (oF3B 32 nilS).stk (sGB 32 nilS) = some (stGB nilS) := by kernel_rfl
theorem hkAallB {z : Nat} (hz : z = 64 ∨ z = 48 ∨ z = 32) {d : SV} (hd : isD d) : hkAB z d = true ∧ (lF1B z d).1 = cF1B ∧ standOf (oF3B z d).stk (sGB z d) = some (stGB d) := by
  rcases hd with rfl | rfl
  · rcases hz with rfl | rfl | rfl
    · exact ⟨hkAB64a, hkBB64a, hkCB64a⟩
    · exact ⟨hkAB48a, hkBB48a, hkCB48a⟩
    · exact ⟨hkAB32a, hkBB32a, hkCB32a⟩
  · rcases hz with rfl | rfl | rfl
    · exact ⟨hkAB64n, hkBB64n, hkCB64n⟩
    · exact ⟨hkAB48n, hkBB48n, hkCB48n⟩
    · exact ⟨hkAB32n, hkBB32n, hkCB32n⟩
theorem hkGB {d : SV} (hd : isD d) : ∃ ty pos after guard, (stGB d).o = ⟨some 36, .buildSlice 22 0 #[], ty, pos, after, guard⟩ := by
  rcases hd with rfl | rfl
  · exact ⟨(stGB dat).o.type, (stGB dat).o.pos, (stGB dat).o.after, (stGB dat).o.guard, by kernel_rfl⟩
  · exact ⟨(stGB nilS).o.type, (stGB nilS).o.pos, (stGB nilS).o.after, (stGB nilS).o.guard, by kernel_rfl⟩
theorem hkIB {d : SV} (hd : isD d) : and3 (oG2B d).stops (nilB (oG2B d).st.obs) (cutB chB (oG2B d).st Tryd.f14.ntmps 17 (flIB d) [] 64 []) = true := by
  rcases hd with rfl | rfl <;> kernel_rfl
theorem hkIsB {d : SV} (hd : isD d) : standOf (oG2B d).stk (sIB d) = some (stIB d) := by
  rcases hd with rfl | rfl <;> kernel_rfl
theorem hkIoB {d : SV} (hd : isD d) : ∃ ty pos after guard, (stIB d).o = ⟨some 51, .call { callee := .builtin .append, args := #[.tmp 49, .tmp 50], argTypes := #[22, 22] }, ty, pos, after, guard⟩ := by
  rcases hd with rfl | rfl
  · exact ⟨(stIB dat).o.type, (stIB dat).o.pos, (stIB dat).o.after, (stIB dat).o.guard, by kernel_rfl⟩
  · exact ⟨(stIB nilS).o.type, (stIB nilS).o.pos, (stIB nilS).o.after, (stIB nilS).o.guard, by kernel_rfl⟩
theorem hkLB {d : SV} (hd : isD d) : and3 (and3 (oI2B d).stops (nilB (oI2B d).st.obs) (loopB (oI2B d).stk)) (cutB chB (oI2B d).st Tryd.f14.ntmps 18 flLB [] 20 [.v 0]) true = true := by
  rcases hd with rfl | rfl <;> kernel_rfl
theorem hkLcB : (lIB dat).1 = cIB := by kernel_rfl
theorem hkLnB : loopOf (oI2B nilS).stk = loopOf (oI2B dat).stk := by kernel_rfl
def obXB : List Ob := [.c .neq (.bin .rem .i64 (.v 20) (.n 128)) (.n 0) false, .c .eql (.v 20) (.n 0) false]
theorem hkXB : and3 (someB (oLxB.exits (lIB dat).2)) (obsB oLxB.st.obs obXB) true = true := by kernel_rfl
theorem hkgB : and3 (and3 (oLgB true).stops (obsB (oLgB true).st.obs [.c .eql (.v 20) (.n 0) true]) (cutB chB (oLgB true).st Tryd.f14.ntmps 19 flMB [(18, ⟨[.int .u8 (.n 0)], 2⟩)] 64 []))
    (and3 (oLgB false).stops (obsB (oLgB false).st.obs [.c .neq (.bin .rem .i64 (.v 20) (.n 128)) (.n 0) true, .c .eql (.v 20) (.n 0) false]) (cutB chB (oLgB false).st Tryd.f14.ntmps 19 flMB [(18, ⟨[.int .u8 (.n 0)], 2⟩)] 64 [])) true = true := by kernel_rfl
theorem hkgsB : (oLgB false).stk = (oLgB true).stk := by kernel_rfl
theorem hkMB : standOf (oLgB true).stk sMB = some stMB := by kernel_rfl
theorem hkMoB : ∃ ty pos after guard, stMB.o = ⟨some 66, .call { callee := .builtin .append, args := #[.tmp 64, .tmp 65], argTypes := #[22, 22] }, ty, pos, after, guard⟩ :=
  ⟨stMB.o.type, stMB.o.pos, stMB.o.after, stMB.o.guard, by kernel_rfl⟩
theorem hkM2B : and3 oM2B.dones (nilB oM2B.st.obs) (cutB chB oM2B.st Tryd.f14.ntmps 20 flL2B [] 64 []) = true := by kernel_rfl
theorem hkNB : and3 (and3 oN1B.stops (obsB oN1B.st.obs obXB) (loopB oN1B.stk)) (cutB chB oN1B.st Tryd.f14.ntmps 18 flNB [] 74 [.n 0]) true = true := by kernel_rfl
theorem hkNcB : lNB.1 = cNB := by kernel_rfl
def obNB (l : Bool) : List Ob := match l with
  | true => [.rng (.add (.v 74) (.n 128)), .rng (.add (.v 74) (.n 128)), .c .eql (.add (.v 74) (.n 128)) (.v 20) true, .rng (.add (.v 74) (.n 128)), .c .lss (.v 74) (.v 20) true]
  | false => [.rng (.add (.v 74) (.n 128)), .rng (.add (.v 74) (.n 128)), .c .eql (.add (.v 74) (.n 128)) (.v 20) false, .rng (.add (.v 74) (.n 128)), .c .lss (.v 74) (.v 20) true]
def argOB (l : Bool) : List SV := [.agg (ws .u64 64 8), .f (.sl 18 0 (.n 128) (.v 18 0)), .f (.int .i64 (match l with | true => .v 0 | false => .add (.v 74) (.n 128))), .f (.bool l)]
noncomputable def hkbB (z : Int) (l : Bool) : Bool :=
  and3 (and3 (oNbB z l).stops (obsB (oNbB z l).st.obs (obNB l)) (cutB cHB (oNbB z l).st Tryd.f14.ntmps 19 (flOB l) ((18, ⟨ws .u8 128 128, 0⟩) :: mlNB z) 512 []))
    (and3 (entB cHEB 23 (oNbB z l).stk (sOB z l)) (dstB (eOB z l).dst 94) true)
    (and3 (oO2B z l).dones (obsB (oO2B z l).st.obs [.rng (.add (.v 74) (.n 128))]) (cutB cHB (oO2B z l).st Tryd.f14.ntmps 18 flNB (mlNB z) 64 esOB))
noncomputable def allCutB (z : Int) : List St → Bool
  | [] => true
  | s :: l => match cutB cHB s Tryd.f14.ntmps 156 (flZB z) mlZB 600 (byE 64 8 64) with | true => allCutB z l | false => false
noncomputable def hkQB (z : Int) : Bool :=
  and3 (and3 (someB ((oQ1B z).exits lNB.2)) (obsB (oQ1B z).st.obs [.c .lss (.v 74) (.v 20) false]) (obsB (oQ2B z).st.obs [.c .lss (.v 74) (.v 20) false]))
    (and3 (oQ2B z).stops (cutB cHB (oQ2B z).st Tryd.f14.ntmps 18 flQeB (mlNB z) 512 []) (regB (oQ2B z).stk))
    (and3 (and3 (someB (endsB z)) (allCutB z ((endsB z).getD [])) true) (and3 (oZB z).rets (nilB (oZB z).st.obs) true) (slB (resS cHB (oZB z).st Tryd.f14) 155 z))
theorem hkbB64t : hkbB 64 true = true := by kernel_rfl
theorem hkbB64f : hkbB 64 false = true := by kernel_rfl
theorem hkvB64t : (eOB 64 true).vs = argOB true := by kernel_rfl
theorem hkvB64f : (eOB 64 false).vs = argOB false := by kernel_rfl
theorem hkQB64 : hkQB 64 = true := by kernel_rfl
theorem hkbB48t : hkbB 48 true = true := by kernel_rfl
theorem hkbB48f : hkbB 48 false = true := by kernel_rfl
theorem hkvB48t : (eOB 48 true).vs = argOB true := by kernel_rfl
theorem hkvB48f : (eOB 48 false).vs = argOB false := by kernel_rfl
theorem hkQB48 : hkQB 48 = true := by kernel_rfl
theorem hkbB32t : hkbB 32 true = true := by kernel_rfl
theorem hkbB32f : hkbB 32 false = true := by kernel_rfl
theorem hkvB32t : (eOB 32 true).vs = argOB true := by kernel_rfl
theorem hkvB32f : (eOB 32 false).vs = argOB false := by kernel_rfl
theorem hkQB32 : hkQB 32 = true := by kernel_rfl
theorem hkballB {z : Nat} (hz : z = 64 ∨ z = 48 ∨ z = 32) (l : Bool) : hkbB z l = true ∧ (eOB z l).vs = argOB l := by
  cases l
  · rcases hz with rfl | rfl | rfl
    · exact ⟨hkbB64f, hkvB64f⟩
    · exact ⟨hkbB48f, hkvB48f⟩
    · exact ⟨hkbB32f, hkvB32f⟩
  · rcases hz with rfl | rfl | rfl
    · exact ⟨hkbB64t, hkvB64t⟩
    · exact ⟨hkbB48t, hkvB48t⟩
    · exact ⟨hkbB32t, hkvB32t⟩
theorem hkQallB {z : Nat} (hz : z = 64 ∨ z = 48 ∨ z = 32) : hkQB z = true := by
  rcases hz with rfl | rfl | rfl
  · exact hkQB64
  · exact hkQB48
  · exact hkQB32
end Go.Proofs.YtjhndmlpcpbaoaaDoor

/- Where the reference's hash (b) ends, its answer's cells are known. -/
namespace Go.Proofs.YtjhndmlpcpbaoaaDoor
open Go Go.Sx Go.Proofs
set_option maxRecDepth 100000
theorem hkWB64 : (oZB 64).st.M.get 155 = some ⟨ws .u8 600 64, 2⟩ := by kernel_rfl
theorem hkWB48 : (oZB 48).st.M.get 155 = some ⟨ws .u8 600 64, 2⟩ := by kernel_rfl
theorem hkWB32 : (oZB 32).st.M.get 155 = some ⟨ws .u8 600 64, 2⟩ := by kernel_rfl
theorem hkWallB {z : Nat} (hz : z = 64 ∨ z = 48 ∨ z = 32) : (oZB z).st.M.get 155 = some ⟨ws .u8 600 64, 2⟩ := by
  rcases hz with rfl | rfl | rfl
  · exact hkWB64
  · exact hkWB48
  · exact hkWB32
end Go.Proofs.YtjhndmlpcpbaoaaDoor
