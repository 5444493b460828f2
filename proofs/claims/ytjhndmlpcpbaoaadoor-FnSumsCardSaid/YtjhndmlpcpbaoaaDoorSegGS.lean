/- The pieces of the reference's hash (s), checked. -/
import Derived.Test.YtjhndmlpcpbaoaaDoorSegFS
namespace Go.Proofs.YtjhndmlpcpbaoaaDoor
open Go Go.Sx Go.Proofs
set_option maxRecDepth 100000
noncomputable def hkAS (z : Int) (d : SV) : Bool :=
  and3 (and3 (oF1S z d).stops (nilB (oF1S z d).st.obs) (loopB (oF1S z d).stk)) (and3 (someB ((oF2S z d).exits (lF1S z d).2)) (nilB (oF2S z d).st.obs) (nilB (oF3S z d).st.obs))
    (and3 (oF3S z d).stops (cutB chS (oF3S z d).st Tryd.f17.ntmps 16 (flGS d) [(14, ⟨hwLS z, 2⟩)] 64 []) true)
theorem hkAS32a : hkAS 32 dat = true := by kernel_rfl
theorem hkAS32n : hkAS 32 nilS = true := by kernel_rfl
theorem hkBS32a : (lF1S 32 dat).1 = cF1S := by kernel_rfl
theorem hkBS32n : (lF1S 32 nilS).1 = cF1S := by kernel_rfl
theorem hkCS32a : standOf (oF3S 32 dat).stk (sGS 32 dat) = some (stGS dat) := by kernel_rfl
theorem hkCS32n : standOf (oF3S 32 nilS).stk (sGS 32 nilS) = some (stGS nilS) := by kernel_rfl
theorem hkAallS {z : Nat} (hz : z = 32) {d : SV} (hd : isD d) : hkAS z d = true ∧ (lF1S z d).1 = cF1S ∧ standOf (oF3S z d).stk (sGS z d) = some (stGS d) := by
  rcases hd with rfl | rfl
  · subst hz
    exact ⟨hkAS32a, hkBS32a, hkCS32a⟩
  · subst hz
    exact ⟨hkAS32n, hkBS32n, hkCS32n⟩
theorem hkGS {d : SV} (hd : isD d) : ∃ ty pos after guard, (stGS d).o = ⟨some 36, .buildSlice 22 0 #[], ty, pos, after, guard⟩ := by
  rcases hd with rfl | rfl
  · exact ⟨(stGS dat).o.type, (stGS dat).o.pos, (stGS dat).o.after, (stGS dat).o.guard, by kernel_rfl⟩
  · exact ⟨(stGS nilS).o.type, (stGS nilS).o.pos, (stGS nilS).o.after, (stGS nilS).o.guard, by kernel_rfl⟩
theorem hkIS {d : SV} (hd : isD d) : and3 (oG2S d).stops (nilB (oG2S d).st.obs) (cutB chS (oG2S d).st Tryd.f17.ntmps 17 (flIS d) [] 64 []) = true := by
  rcases hd with rfl | rfl <;> kernel_rfl
theorem hkIsS {d : SV} (hd : isD d) : standOf (oG2S d).stk (sIS d) = some (stIS d) := by
  rcases hd with rfl | rfl <;> kernel_rfl
theorem hkIoS {d : SV} (hd : isD d) : ∃ ty pos after guard, (stIS d).o = ⟨some 51, .call { callee := .builtin .append, args := #[.tmp 49, .tmp 50], argTypes := #[22, 22] }, ty, pos, after, guard⟩ := by
  rcases hd with rfl | rfl
  · exact ⟨(stIS dat).o.type, (stIS dat).o.pos, (stIS dat).o.after, (stIS dat).o.guard, by kernel_rfl⟩
  · exact ⟨(stIS nilS).o.type, (stIS nilS).o.pos, (stIS nilS).o.after, (stIS nilS).o.guard, by kernel_rfl⟩
theorem hkLS {d : SV} (hd : isD d) : and3 (and3 (oI2S d).stops (nilB (oI2S d).st.obs) (loopB (oI2S d).stk)) (cutB chS (oI2S d).st Tryd.f17.ntmps 18 flLS [] 20 [.v 0]) true = true := by
  rcases hd with rfl | rfl <;> kernel_rfl
theorem hkLcS : (lIS dat).1 = cIS := by kernel_rfl
theorem hkLnS : loopOf (oI2S nilS).stk = loopOf (oI2S dat).stk := by kernel_rfl
def obXS : List Ob := [.c .neq (.bin .rem .i64 (.v 20) (.n 64)) (.n 0) false, .c .eql (.v 20) (.n 0) false]
theorem hkXS : and3 (someB (oLxS.exits (lIS dat).2)) (obsB oLxS.st.obs obXS) true = true := by kernel_rfl
theorem hkgS : and3 (and3 (oLgS true).stops (obsB (oLgS true).st.obs [.c .eql (.v 20) (.n 0) true]) (cutB chS (oLgS true).st Tryd.f17.ntmps 19 flMS [(18, ⟨[.int .u8 (.n 0)], 2⟩)] 64 []))
    (and3 (oLgS false).stops (obsB (oLgS false).st.obs [.c .neq (.bin .rem .i64 (.v 20) (.n 64)) (.n 0) true, .c .eql (.v 20) (.n 0) false]) (cutB chS (oLgS false).st Tryd.f17.ntmps 19 flMS [(18, ⟨[.int .u8 (.n 0)], 2⟩)] 64 [])) true = true := by kernel_rfl
theorem hkgsS : (oLgS false).stk = (oLgS true).stk := by kernel_rfl
theorem hkMS : standOf (oLgS true).stk sMS = some stMS := by kernel_rfl
theorem hkMoS : ∃ ty pos after guard, stMS.o = ⟨some 66, .call { callee := .builtin .append, args := #[.tmp 64, .tmp 65], argTypes := #[22, 22] }, ty, pos, after, guard⟩ :=
  ⟨stMS.o.type, stMS.o.pos, stMS.o.after, stMS.o.guard, by kernel_rfl⟩
theorem hkM2S : and3 oM2S.dones (nilB oM2S.st.obs) (cutB chS oM2S.st Tryd.f17.ntmps 20 flL2S [] 64 []) = true := by kernel_rfl
theorem hkNS : and3 (and3 oN1S.stops (obsB oN1S.st.obs obXS) (loopB oN1S.stk)) (cutB chS oN1S.st Tryd.f17.ntmps 18 flNS [] 74 [.n 0]) true = true := by kernel_rfl
theorem hkNcS : lNS.1 = cNS := by kernel_rfl
def obNS (l : Bool) : List Ob := match l with
  | true => [.rng (.add (.v 74) (.n 64)), .rng (.add (.v 74) (.n 64)), .c .eql (.add (.v 74) (.n 64)) (.v 20) true, .rng (.add (.v 74) (.n 64)), .c .lss (.v 74) (.v 20) true]
  | false => [.rng (.add (.v 74) (.n 64)), .rng (.add (.v 74) (.n 64)), .c .eql (.add (.v 74) (.n 64)) (.v 20) false, .rng (.add (.v 74) (.n 64)), .c .lss (.v 74) (.v 20) true]
def argOS (l : Bool) : List SV := [.agg (ws .u32 64 8), .f (.sl 18 0 (.n 64) (.v 18 0)), .f (.int .i64 (match l with | true => .v 0 | false => .add (.v 74) (.n 64))), .f (.bool l)]
noncomputable def hkbS (z : Int) (l : Bool) : Bool :=
  and3 (and3 (oNbS z l).stops (obsB (oNbS z l).st.obs (obNS l)) (cutB cHS (oNbS z l).st Tryd.f17.ntmps 19 (flOS l) ((18, ⟨ws .u8 128 64, 0⟩) :: mlNS z) 512 []))
    (and3 (entB cHES 29 (oNbS z l).stk (sOS z l)) (dstB (eOS z l).dst 94) true)
    (and3 (oO2S z l).dones (obsB (oO2S z l).st.obs [.rng (.add (.v 74) (.n 64))]) (cutB cHS (oO2S z l).st Tryd.f17.ntmps 18 flNS (mlNS z) 64 esOS))
noncomputable def allCutS (z : Int) : List St → Bool
  | [] => true
  | s :: l => match cutB cHS s Tryd.f17.ntmps 92 (flZS z) mlZS 600 (byE 64 4 32) with | true => allCutS z l | false => false
noncomputable def hkQS (z : Int) : Bool :=
  and3 (and3 (someB ((oQ1S z).exits lNS.2)) (obsB (oQ1S z).st.obs [.c .lss (.v 74) (.v 20) false]) (obsB (oQ2S z).st.obs [.c .lss (.v 74) (.v 20) false]))
    (and3 (oQ2S z).stops (cutB cHS (oQ2S z).st Tryd.f17.ntmps 18 flQeS (mlNS z) 512 []) (regB (oQ2S z).stk))
    (and3 (and3 (someB (endsS z)) (allCutS z ((endsS z).getD [])) true) (and3 (oZS z).rets (nilB (oZS z).st.obs) true) (slB (resS cHS (oZS z).st Tryd.f17) 91 z))
theorem hkbS32t : hkbS 32 true = true := by kernel_rfl
theorem hkbS32f : hkbS 32 false = true := by kernel_rfl
theorem hkvS32t : (eOS 32 true).vs = argOS true := by kernel_rfl
theorem hkvS32f : (eOS 32 false).vs = argOS false := by kernel_rfl
theorem hkQS32 : hkQS 32 = true := by kernel_rfl
theorem hkballS {z : Nat} (hz : z = 32) (l : Bool) : hkbS z l = true ∧ (eOS z l).vs = argOS l := by
  cases l
  · subst hz
    exact ⟨hkbS32f, hkvS32f⟩
  · subst hz
    exact ⟨hkbS32t, hkvS32t⟩
theorem hkQallS {z : Nat} (hz : z = 32) : hkQS z = true := by
  subst hz
  exact hkQS32
end Go.Proofs.YtjhndmlpcpbaoaaDoor

/- Where the reference's hash (s) ends, its answer's cells are known. -/
namespace Go.Proofs.YtjhndmlpcpbaoaaDoor
open Go Go.Sx Go.Proofs
set_option maxRecDepth 100000
theorem hkWS32 : (oZS 32).st.M.get 91 = some ⟨ws .u8 600 32, 2⟩ := by kernel_rfl
theorem hkWallS {z : Nat} (hz : z = 32) : (oZS z).st.M.get 91 = some ⟨ws .u8 600 32, 2⟩ := by
  subst hz
  exact hkWS32
end Go.Proofs.YtjhndmlpcpbaoaaDoor
