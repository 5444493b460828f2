/- Runs of the small functions (s): the parameters; the reference's hash of so many bytes; the sums of one size; what impl tells. -/
import Derived.Test.YtjhndmlpcpbaoaaDoorCom2
import Derived.Test.YtjhndmlpcpbaoaaDoorSegFS
namespace Go.Proofs.YtjhndmlpcpbaoaaDoor
open Go Go.Sx Go.Proofs
set_option maxRecDepth 100000
-- the parameters
noncomputable def oParS (z : Int) : Out := go chS false 1000 [.code (bodyOf Tryd.f18)] (mkSt Tryd.f18.ntmps 0 0 (en 0 [.f (.int .i64 (.n z)), .f (.int .i64 (.n 0))]) [] [])
noncomputable def ckParS (z : Int) : Bool := and3 (and3 (oParS z).rets (nilB (oParS z).st.obs) true) (slLB (resS chS (oParS z).st Tryd.f18) 1 32) (winB ((oParS z).st.M.get 1) 32 (lits .u8 (parLS z)))
-- the reference's hash of its own parameters
def flSaS (z : Int) : List (Nat × SV) := [(1, nilS), (2, .f (.row 0)), (7, .f (.int .i64 (.n z))), (9, .f (.int .i64 (.n 0)))]
noncomputable def oSaS (z : Int) : Out := go c2 false 500 [.code (bodyOf Tryd.f9)] (mkSt Tryd.f9.ntmps 1 0 (en 0 [.f (.int .i64 (.n z)), nilS, .f (.row 0)]) [] [])
noncomputable def sSaS (z : Int) : St := mkSt Tryd.f9.ntmps 1 0 (flSaS z) [] []
noncomputable def eSaS (z : Int) : Entry := entOf c2E (oSaS z).stk (sSaS z)
noncomputable def oSbS (z : Int) : Out := go c2 false 500 (eSaS z).k (mkSt Tryd.f9.ntmps 2 0 ((10, .f (.row 1)) :: flSaS z) [] [])
def flSbS : List (Nat × SV) := [(10, .f (.row 1)), (11, nilS), (12, .f (.row 0))]
noncomputable def sSbS : St := mkSt Tryd.f9.ntmps 2 0 flSbS [] []
noncomputable def eSbS (z : Int) : Entry := entOf c2E (oSbS z).stk sSbS
noncomputable def oScS (z : Int) : Out := go c2 false 500 (eSbS z).k (mkSt Tryd.f9.ntmps 3 0 ((13, .f (.row 2)) :: flSbS) [] [])
noncomputable def ckSS (z : Int) : Bool :=
  and3 (and3 (and3 (oSaS z).stops (nilB (oSaS z).st.obs) (cutB c2 (oSaS z).st Tryd.f9.ntmps 1 (flSaS z) [] 64 [])) (and3 (entB c2E 18 (oSaS z).stk (sSaS z)) (svsEq (eSaS z).vs [.int .i64 (.n z), .int .i64 (.n 0)]) (dstB (eSaS z).dst 10)) true)
    (and3 (and3 (oSbS z).stops (nilB (oSbS z).st.obs) (cutB c2 (oSbS z).st Tryd.f9.ntmps 2 flSbS [] 64 [])) (and3 (entB c2E 17 (oSbS z).stk sSbS) (dstB (eSbS z).dst 13) true) true)
    (and3 (oScS z).rets (nilB (oScS z).st.obs) (rowB (resS c2 (oScS z).st Tryd.f9) 2))
theorem ckParS32 : ckParS 32 = true := by kernel_rfl
theorem ckSS32 : ckSS 32 = true := by kernel_rfl
theorem ckSvS32 : (eSbS 32).vs = [.f (.row 1), nilS, .f (.row 0)] := by kernel_rfl
theorem ckPar_allS {z : Nat} (hz : z = 32) : ckParS z = true := by
  subst hz
  exact ckParS32
theorem ckS_allS {z : Nat} (hz : z = 32) : ckSS z = true ∧ (eSbS z).vs = [.f (.row 1), nilS, .f (.row 0)] := by
  subst hz
  exact ⟨ckSS32, ckSvS32⟩
end Go.Proofs.YtjhndmlpcpbaoaaDoor

/- Runs of the library's sums of one size (s). -/
namespace Go.Proofs.YtjhndmlpcpbaoaaDoor
open Go Go.Sx Go.Proofs
set_option maxRecDepth 100000
def flW16 : List (Nat × SV) := [(2, .f (.ptr 1 0)), (3, .f (.ptr 2 0)), (4, .f (.row 0))]
def mlW16 : List (Nat × Win) := [(1, ⟨zeros .u8 32, 2⟩), (2, ⟨zeros .u8 32, 2⟩)]
def mlE16 : List (Nat × Win) := [(1, ⟨zeros .u8 32, 2⟩), (2, ⟨[], 2⟩)]
def mlZ16 : List (Nat × Win) := [(1, ⟨zeros .u8 32, 2⟩), (2, ⟨ws .u8 600 32, 2⟩)]
noncomputable def oW16 : Out := go c2 false 500 [.code (bodyOf Tryd.f16)] (mkSt Tryd.f16.ntmps 1 0 (en 0 [.f (.row 0)]) [] [])
noncomputable def sW16 : St := mkSt Tryd.f16.ntmps 3 0 flW16 mlW16 []
noncomputable def eW16 : Entry := entOf c2E oW16.stk sW16
noncomputable def oX16 : Out := go c2 false 500 eW16.k (mkSt Tryd.f16.ntmps 3 0 ((5, .tup []) :: flW16) mlZ16 [])
theorem ckW16 : and3 (and3 oW16.stops (nilB oW16.st.obs) (cutB c2 oW16.st Tryd.f16.ntmps 3 flW16 mlW16 64 [])) (and3 (entB c2E 25 oW16.stk sW16) (dstB eW16.dst 5) true)
    (and3 oX16.rets (nilB oX16.st.obs) (aggB (resS c2 oX16.st Tryd.f16) (ws .u8 600 32))) = true := by kernel_rfl
theorem ckWv16 : eW16.vs = [.f (.ptr 2 0), .f (.int .i64 (.n 32)), .f (.row 0)] := by kernel_rfl
end Go.Proofs.YtjhndmlpcpbaoaaDoor

/- Runs of what impl tells (s). -/
namespace Go.Proofs.YtjhndmlpcpbaoaaDoor
open Go Go.Sx Go.Proofs
set_option maxRecDepth 100000
def fiA16 : List (Nat × SV) := [(4, .f (.row 0))]
noncomputable def oIA16 : Out := go c2 false 500 [.code (bodyOf Tryd.f8)] (mkSt Tryd.f8.ntmps 1 0 (en 0 [.f (.row 0)]) [] [])
noncomputable def sIA16 : St := mkSt Tryd.f8.ntmps 1 0 fiA16 [] []
noncomputable def eIA16 : Entry := entOf c2E oIA16.stk sIA16
noncomputable def oIB16 : Out := go c2 false 500 eIA16.k (mkSt Tryd.f8.ntmps 2 0 ((5, .f (.row 1)) :: fiA16) [] [])
def fiB16 : List (Nat × SV) := [(5, .f (.row 1))]
noncomputable def sIB16 : St := mkSt Tryd.f8.ntmps 2 0 fiB16 [] []
noncomputable def eIB16 : Entry := entOf c2E oIB16.stk sIB16
noncomputable def oIC16 : Out := go c2 false 500 eIB16.k (mkSt Tryd.f8.ntmps 2 0 ((6, .agg (ws .u8 600 32)) :: fiB16) [] [])
def fiC16 : List (Nat × SV) := [(7, .f (.sl 2 0 (.n 32) (.l 32)))]
def miC16 : List (Nat × Win) := [(2, ⟨ws .u8 600 32, 2⟩)]
noncomputable def sIC16 : St := mkSt Tryd.f8.ntmps 3 0 fiC16 miC16 []
noncomputable def eIC16 : Entry := entOf c2E oIC16.stk sIC16
noncomputable def oID16 : Out := go c2 false 500 eIC16.k (mkSt Tryd.f8.ntmps 4 0 ((8, .f (.row 3)) :: fiC16) [] [])
theorem ckI16 : and3 (and3 (and3 oIA16.stops (nilB oIA16.st.obs) (cutB c2 oIA16.st Tryd.f8.ntmps 1 fiA16 [] 64 [])) (and3 (entB c2E 10 oIA16.stk sIA16) (dstB eIA16.dst 5) true) true)
    (and3 (and3 oIB16.stops (nilB oIB16.st.obs) (cutB c2 oIB16.st Tryd.f8.ntmps 2 fiB16 [] 64 [])) (and3 (entB c2E 16 oIB16.stk sIB16) (dstB eIB16.dst 6) true) true)
    (and3 (and3 oIC16.stops (nilB oIC16.st.obs) (cutB c2 oIC16.st Tryd.f8.ntmps 3 fiC16 miC16 700 [])) (and3 (entB c2E 10 oIC16.stk sIC16) (dstB eIC16.dst 8) true) (and3 oID16.rets (nilB oID16.st.obs) (rowB (resS c2 oID16.st Tryd.f8) 3))) = true := by kernel_rfl
theorem ckIa16 : eIA16.vs = [.f (.row 0)] := by kernel_rfl
theorem ckIb16 : eIB16.vs = [.f (.row 1)] := by kernel_rfl
theorem ckIc16 : eIC16.vs = [.f (.sl 2 0 (.n 32) (.l 32))] := by kernel_rfl
end Go.Proofs.YtjhndmlpcpbaoaaDoor
