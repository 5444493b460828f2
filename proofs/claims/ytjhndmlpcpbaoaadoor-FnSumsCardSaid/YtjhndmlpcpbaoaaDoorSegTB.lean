/- Runs of the small functions (b): the parameters; the reference's hash of so many bytes; the sums of one size; what impl tells. -/
import Derived.Test.YtjhndmlpcpbaoaaDoorCom2
import Derived.Test.YtjhndmlpcpbaoaaDoorSegFB
namespace Go.Proofs.YtjhndmlpcpbaoaaDoor
open Go Go.Sx Go.Proofs
set_option maxRecDepth 100000
-- the parameters
noncomputable def oParB (z : Int) : Out := go chB false 1000 [.code (bodyOf Tryd.f15)] (mkSt Tryd.f15.ntmps 0 0 (en 0 [.f (.int .i64 (.n z)), .f (.int .i64 (.n 0))]) [] [])
noncomputable def ckParB (z : Int) : Bool := and3 (and3 (oParB z).rets (nilB (oParB z).st.obs) true) (slLB (resS chB (oParB z).st Tryd.f15) 1 64) (winB ((oParB z).st.M.get 1) 64 (lits .u8 (parLB z)))
-- the reference's hash of its own parameters
def flSaB (z : Int) : List (Nat × SV) := [(1, nilS), (2, .f (.row 0)), (7, .f (.int .i64 (.n z))), (9, .f (.int .i64 (.n 0)))]
noncomputable def oSaB (z : Int) : Out := go c2 false 500 [.code (bodyOf Tryd.f7)] (mkSt Tryd.f7.ntmps 1 0 (en 0 [.f (.int .i64 (.n z)), nilS, .f (.row 0)]) [] [])
noncomputable def sSaB (z : Int) : St := mkSt Tryd.f7.ntmps 1 0 (flSaB z) [] []
noncomputable def eSaB (z : Int) : Entry := entOf c2E (oSaB z).stk (sSaB z)
noncomputable def oSbB (z : Int) : Out := go c2 false 500 (eSaB z).k (mkSt Tryd.f7.ntmps 2 0 ((10, .f (.row 1)) :: flSaB z) [] [])
def flSbB : List (Nat × SV) := [(10, .f (.row 1)), (11, nilS), (12, .f (.row 0))]
noncomputable def sSbB : St := mkSt Tryd.f7.ntmps 2 0 flSbB [] []
noncomputable def eSbB (z : Int) : Entry := entOf c2E (oSbB z).stk sSbB
noncomputable def oScB (z : Int) : Out := go c2 false 500 (eSbB z).k (mkSt Tryd.f7.ntmps 3 0 ((13, .f (.row 2)) :: flSbB) [] [])
noncomputable def ckSB (z : Int) : Bool :=
  and3 (and3 (and3 (oSaB z).stops (nilB (oSaB z).st.obs) (cutB c2 (oSaB z).st Tryd.f7.ntmps 1 (flSaB z) [] 64 [])) (and3 (entB c2E 15 (oSaB z).stk (sSaB z)) (svsEq (eSaB z).vs [.int .i64 (.n z), .int .i64 (.n 0)]) (dstB (eSaB z).dst 10)) true)
    (and3 (and3 (oSbB z).stops (nilB (oSbB z).st.obs) (cutB c2 (oSbB z).st Tryd.f7.ntmps 2 flSbB [] 64 [])) (and3 (entB c2E 14 (oSbB z).stk sSbB) (dstB (eSbB z).dst 13) true) true)
    (and3 (oScB z).rets (nilB (oScB z).st.obs) (rowB (resS c2 (oScB z).st Tryd.f7) 2))
theorem ckParB64 : ckParB 64 = true := by kernel_rfl
theorem ckSB64 : ckSB 64 = true := by kernel_rfl
theorem ckSvB64 : (eSbB 64).vs = [.f (.row 1), nilS, .f (.row 0)] := by kernel_rfl
theorem ckParB48 : ckParB 48 = true := by kernel_rfl
theorem ckSB48 : ckSB 48 = true := by kernel_rfl
theorem ckSvB48 : (eSbB 48).vs = [.f (.row 1), nilS, .f (.row 0)] := by kernel_rfl
theorem ckParB32 : ckParB 32 = true := by kernel_rfl
theorem ckSB32 : ckSB 32 = true := by kernel_rfl
theorem ckSvB32 : (eSbB 32).vs = [.f (.row 1), nilS, .f (.row 0)] := by kernel_rfl
theorem ckPar_allB {z : Nat} (hz : z = 64 ∨ z = 48 ∨ z = 32) : ckParB z = true := by
  rcases hz with rfl | rfl | rfl
  · exact ckParB64
  · exact ckParB48
  · exact ckParB32
theorem ckS_allB {z : Nat} (hz : z = 64 ∨ z = 48 ∨ z = 32) : ckSB z = true ∧ (eSbB z).vs = [.f (.row 1), nilS, .f (.row 0)] := by
  rcases hz with rfl | rfl | rfl
  · exact ⟨ckSB64, ckSvB64⟩
  · exact ⟨ckSB48, ckSvB48⟩
  · exact ⟨ckSB32, ckSvB32⟩
end Go.Proofs.YtjhndmlpcpbaoaaDoor

/- Runs of the library's sums of one size (b). -/
namespace Go.Proofs.YtjhndmlpcpbaoaaDoor
open Go Go.Sx Go.Proofs
set_option maxRecDepth 100000
def flW11 : List (Nat × SV) := [(2, .f (.ptr 1 0)), (3, .f (.ptr 2 0)), (4, .f (.row 0))]
def mlW11 : List (Nat × Win) := [(1, ⟨zeros .u8 64, 2⟩), (2, ⟨zeros .u8 64, 2⟩)]
def mlE11 : List (Nat × Win) := [(1, ⟨zeros .u8 64, 2⟩), (2, ⟨[], 2⟩)]
def mlZ11 : List (Nat × Win) := [(1, ⟨zeros .u8 64, 2⟩), (2, ⟨ws .u8 600 64, 2⟩)]
noncomputable def oW11 : Out := go c2 false 500 [.code (bodyOf Tryd.f11)] (mkSt Tryd.f11.ntmps 1 0 (en 0 [.f (.row 0)]) [] [])
noncomputable def sW11 : St := mkSt Tryd.f11.ntmps 3 0 flW11 mlW11 []
noncomputable def eW11 : Entry := entOf c2E oW11.stk sW11
noncomputable def oX11 : Out := go c2 false 500 eW11.k (mkSt Tryd.f11.ntmps 3 0 ((5, .tup []) :: flW11) mlZ11 [])
theorem ckW11 : and3 (and3 oW11.stops (nilB oW11.st.obs) (cutB c2 oW11.st Tryd.f11.ntmps 3 flW11 mlW11 64 [])) (and3 (entB c2E 19 oW11.stk sW11) (dstB eW11.dst 5) true)
    (and3 oX11.rets (nilB oX11.st.obs) (aggB (resS c2 oX11.st Tryd.f11) (ws .u8 600 64))) = true := by kernel_rfl
theorem ckWv11 : eW11.vs = [.f (.ptr 2 0), .f (.int .i64 (.n 64)), .f (.row 0)] := by kernel_rfl
def flW12 : List (Nat × SV) := [(2, .f (.ptr 1 0)), (3, .f (.ptr 2 0)), (4, .f (.ptr 3 0)), (5, .f (.row 0))]
def mlW12 : List (Nat × Win) := [(1, ⟨zeros .u8 48, 2⟩), (2, ⟨zeros .u8 64, 2⟩), (3, ⟨zeros .u8 48, 2⟩)]
def mlE12 : List (Nat × Win) := [(1, ⟨zeros .u8 48, 2⟩), (2, ⟨[], 2⟩), (3, ⟨zeros .u8 48, 2⟩)]
def mlZ12 : List (Nat × Win) := [(1, ⟨zeros .u8 48, 2⟩), (2, ⟨ws .u8 600 48, 2⟩), (3, ⟨zeros .u8 48, 2⟩)]
noncomputable def oW12 : Out := go c2 false 500 [.code (bodyOf Tryd.f12)] (mkSt Tryd.f12.ntmps 1 0 (en 0 [.f (.row 0)]) [] [])
noncomputable def sW12 : St := mkSt Tryd.f12.ntmps 4 0 flW12 mlW12 []
noncomputable def eW12 : Entry := entOf c2E oW12.stk sW12
noncomputable def oX12 : Out := go c2 false 500 eW12.k (mkSt Tryd.f12.ntmps 4 0 ((6, .tup []) :: flW12) mlZ12 [])
theorem ckW12 : and3 (and3 oW12.stops (nilB oW12.st.obs) (cutB c2 oW12.st Tryd.f12.ntmps 4 flW12 mlW12 64 [])) (and3 (entB c2E 19 oW12.stk sW12) (dstB eW12.dst 6) true)
    (and3 oX12.rets (nilB oX12.st.obs) (aggB (resS c2 oX12.st Tryd.f12) (ws .u8 600 48))) = true := by kernel_rfl
theorem ckWv12 : eW12.vs = [.f (.ptr 2 0), .f (.int .i64 (.n 48)), .f (.row 0)] := by kernel_rfl
def flW13 : List (Nat × SV) := [(2, .f (.ptr 1 0)), (3, .f (.ptr 2 0)), (4, .f (.ptr 3 0)), (5, .f (.row 0))]
def mlW13 : List (Nat × Win) := [(1, ⟨zeros .u8 32, 2⟩), (2, ⟨zeros .u8 64, 2⟩), (3, ⟨zeros .u8 32, 2⟩)]
def mlE13 : List (Nat × Win) := [(1, ⟨zeros .u8 32, 2⟩), (2, ⟨[], 2⟩), (3, ⟨zeros .u8 32, 2⟩)]
def mlZ13 : List (Nat × Win) := [(1, ⟨zeros .u8 32, 2⟩), (2, ⟨ws .u8 600 32, 2⟩), (3, ⟨zeros .u8 32, 2⟩)]
noncomputable def oW13 : Out := go c2 false 500 [.code (bodyOf Tryd.f13)] (mkSt Tryd.f13.ntmps 1 0 (en 0 [.f (.row 0)]) [] [])
noncomputable def sW13 : St := mkSt Tryd.f13.ntmps 4 0 flW13 mlW13 []
noncomputable def eW13 : Entry := entOf c2E oW13.stk sW13
noncomputable def oX13 : Out := go c2 false 500 eW13.k (mkSt Tryd.f13.ntmps 4 0 ((6, .tup []) :: flW13) mlZ13 [])
theorem ckW13 : and3 (and3 oW13.stops (nilB oW13.st.obs) (cutB c2 oW13.st Tryd.f13.ntmps 4 flW13 mlW13 64 [])) (and3 (entB c2E 19 oW13.stk sW13) (dstB eW13.dst 6) true)
    (and3 oX13.rets (nilB oX13.st.obs) (aggB (resS c2 oX13.st Tryd.f13) (ws .u8 600 32))) = true := by kernel_rfl
theorem ckWv13 : eW13.vs = [.f (.ptr 2 0), .f (.int .i64 (.n 32)), .f (.row 0)] := by kernel_rfl
end Go.Proofs.YtjhndmlpcpbaoaaDoor

/- Runs of what impl tells (b). -/
namespace Go.Proofs.YtjhndmlpcpbaoaaDoor
open Go Go.Sx Go.Proofs
set_option maxRecDepth 100000
def fiA11 : List (Nat × SV) := [(0, .f (.int .i64 (.n 0))), (8, .f (.row 0))]
noncomputable def oIA11 : Out := go c2 false 500 [.code (bodyOf Tryd.f6)] (mkSt Tryd.f6.ntmps 1 0 (en 0 [.f (.int .i64 (.n 0)), .f (.row 0)]) [] [])
noncomputable def sIA11 : St := mkSt Tryd.f6.ntmps 1 0 fiA11 [] []
noncomputable def eIA11 : Entry := entOf c2E oIA11.stk sIA11
noncomputable def oIB11 : Out := go c2 false 500 eIA11.k (mkSt Tryd.f6.ntmps 2 0 ((9, .f (.row 1)) :: fiA11) [] [])
def fiB11 : List (Nat × SV) := [(13, .f (.row 1))]
noncomputable def sIB11 : St := mkSt Tryd.f6.ntmps 2 0 fiB11 [] []
noncomputable def eIB11 : Entry := entOf c2E oIB11.stk sIB11
noncomputable def oIC11 : Out := go c2 false 500 eIB11.k (mkSt Tryd.f6.ntmps 2 0 ((14, .agg (ws .u8 600 64)) :: fiB11) [] [])
def fiC11 : List (Nat × SV) := [(15, .f (.sl 2 0 (.n 64) (.l 64)))]
def miC11 : List (Nat × Win) := [(2, ⟨ws .u8 600 64, 2⟩)]
noncomputable def sIC11 : St := mkSt Tryd.f6.ntmps 3 0 fiC11 miC11 []
noncomputable def eIC11 : Entry := entOf c2E oIC11.stk sIC11
noncomputable def oID11 : Out := go c2 false 500 eIC11.k (mkSt Tryd.f6.ntmps 4 0 ((16, .f (.row 3)) :: fiC11) [] [])
theorem ckI11 : and3 (and3 (and3 oIA11.stops (nilB oIA11.st.obs) (cutB c2 oIA11.st Tryd.f6.ntmps 1 fiA11 [] 64 [])) (and3 (entB c2E 10 oIA11.stk sIA11) (dstB eIA11.dst 9) true) true)
    (and3 (and3 oIB11.stops (nilB oIB11.st.obs) (cutB c2 oIB11.st Tryd.f6.ntmps 2 fiB11 [] 64 [])) (and3 (entB c2E 11 oIB11.stk sIB11) (dstB eIB11.dst 14) true) true)
    (and3 (and3 oIC11.stops (nilB oIC11.st.obs) (cutB c2 oIC11.st Tryd.f6.ntmps 3 fiC11 miC11 700 [])) (and3 (entB c2E 10 oIC11.stk sIC11) (dstB eIC11.dst 16) true) (and3 oID11.rets (nilB oID11.st.obs) (rowB (resS c2 oID11.st Tryd.f6) 3))) = true := by kernel_rfl
theorem ckIa11 : eIA11.vs = [.f (.row 0)] := by kernel_rfl
theorem ckIb11 : eIB11.vs = [.f (.row 1)] := by kernel_rfl
theorem ckIc11 : eIC11.vs = [.f (.sl 2 0 (.n 64) (.l 64))] := by kernel_rfl
def fiA12 : List (Nat × SV) := [(0, .f (.int .i64 (.n 1))), (8, .f (.row 0))]
noncomputable def oIA12 : Out := go c2 false 500 [.code (bodyOf Tryd.f6)] (mkSt Tryd.f6.ntmps 1 0 (en 0 [.f (.int .i64 (.n 1)), .f (.row 0)]) [] [])
noncomputable def sIA12 : St := mkSt Tryd.f6.ntmps 1 0 fiA12 [] []
noncomputable def eIA12 : Entry := entOf c2E oIA12.stk sIA12
noncomputable def oIB12 : Out := go c2 false 500 eIA12.k (mkSt Tryd.f6.ntmps 2 0 ((9, .f (.row 1)) :: fiA12) [] [])
def fiB12 : List (Nat × SV) := [(19, .f (.row 1))]
noncomputable def sIB12 : St := mkSt Tryd.f6.ntmps 2 0 fiB12 [] []
noncomputable def eIB12 : Entry := entOf c2E oIB12.stk sIB12
noncomputable def oIC12 : Out := go c2 false 500 eIB12.k (mkSt Tryd.f6.ntmps 2 0 ((20, .agg (ws .u8 600 48)) :: fiB12) [] [])
def fiC12 : List (Nat × SV) := [(21, .f (.sl 2 0 (.n 48) (.l 48)))]
def miC12 : List (Nat × Win) := [(2, ⟨ws .u8 600 48, 2⟩)]
noncomputable def sIC12 : St := mkSt Tryd.f6.ntmps 3 0 fiC12 miC12 []
noncomputable def eIC12 : Entry := entOf c2E oIC12.stk sIC12
noncomputable def oID12 : Out := go c2 false 500 eIC12.k (mkSt Tryd.f6.ntmps 4 0 ((22, .f (.row 3)) :: fiC12) [] [])
theorem ckI12 : and3 (and3 (and3 oIA12.stops (nilB oIA12.st.obs) (cutB c2 oIA12.st Tryd.f6.ntmps 1 fiA12 [] 64 [])) (and3 (entB c2E 10 oIA12.stk sIA12) (dstB eIA12.dst 9) true) true)
    (and3 (and3 oIB12.stops (nilB oIB12.st.obs) (cutB c2 oIB12.st Tryd.f6.ntmps 2 fiB12 [] 64 [])) (and3 (entB c2E 12 oIB12.stk sIB12) (dstB eIB12.dst 20) true) true)
    (and3 (and3 oIC12.stops (nilB oIC12.st.obs) (cutB c2 oIC12.st Tryd.f6.ntmps 3 fiC12 miC12 700 [])) (and3 (entB c2E 10 oIC12.stk sIC12) (dstB eIC12.dst 22) true) (and3 oID12.rets (nilB oID12.st.obs) (rowB (resS c2 oID12.st Tryd.f6) 3))) = true := by kernel_rfl
theorem ckIa12 : eIA12.vs = [.f (.row 0)] := by kernel_rfl
theorem ckIb12 : eIB12.vs = [.f (.row 1)] := by kernel_rfl
theorem ckIc12 : eIC12.vs = [.f (.sl 2 0 (.n 48) (.l 48))] := by kernel_rfl
def fiA13 : List (Nat × SV) := [(0, .f (.int .i64 (.n 2))), (8, .f (.row 0))]
noncomputable def oIA13 : Out := go c2 false 500 [.code (bodyOf Tryd.f6)] (mkSt Tryd.f6.ntmps 1 0 (en 0 [.f (.int .i64 (.n 2)), .f (.row 0)]) [] [])
noncomputable def sIA13 : St := mkSt Tryd.f6.ntmps 1 0 fiA13 [] []
noncomputable def eIA13 : Entry := entOf c2E oIA13.stk sIA13
noncomputable def oIB13 : Out := go c2 false 500 eIA13.k (mkSt Tryd.f6.ntmps 2 0 ((9, .f (.row 1)) :: fiA13) [] [])
def fiB13 : List (Nat × SV) := [(25, .f (.row 1))]
noncomputable def sIB13 : St := mkSt Tryd.f6.ntmps 2 0 fiB13 [] []
noncomputable def eIB13 : Entry := entOf c2E oIB13.stk sIB13
noncomputable def oIC13 : Out := go c2 false 500 eIB13.k (mkSt Tryd.f6.ntmps 2 0 ((26, .agg (ws .u8 600 32)) :: fiB13) [] [])
def fiC13 : List (Nat × SV) := [(27, .f (.sl 2 0 (.n 32) (.l 32)))]
def miC13 : List (Nat × Win) := [(2, ⟨ws .u8 600 32, 2⟩)]
noncomputable def sIC13 : St := mkSt Tryd.f6.ntmps 3 0 fiC13 miC13 []
noncomputable def eIC13 : Entry := entOf c2E oIC13.stk sIC13
noncomputable def oID13 : Out := go c2 false 500 eIC13.k (mkSt Tryd.f6.ntmps 4 0 ((28, .f (.row 3)) :: fiC13) [] [])
theorem ckI13 : and3 (and3 (and3 oIA13.stops (nilB oIA13.st.obs) (cutB c2 oIA13.st Tryd.f6.ntmps 1 fiA13 [] 64 [])) (and3 (entB c2E 10 oIA13.stk sIA13) (dstB eIA13.dst 9) true) true)
    (and3 (and3 oIB13.stops (nilB oIB13.st.obs) (cutB c2 oIB13.st Tryd.f6.ntmps 2 fiB13 [] 64 [])) (and3 (entB c2E 13 oIB13.stk sIB13) (dstB eIB13.dst 26) true) true)
    (and3 (and3 oIC13.stops (nilB oIC13.st.obs) (cutB c2 oIC13.st Tryd.f6.ntmps 3 fiC13 miC13 700 [])) (and3 (entB c2E 10 oIC13.stk sIC13) (dstB eIC13.dst 28) true) (and3 oID13.rets (nilB oID13.st.obs) (rowB (resS c2 oID13.st Tryd.f6) 3))) = true := by kernel_rfl
theorem ckIa13 : eIA13.vs = [.f (.row 0)] := by kernel_rfl
theorem ckIb13 : eIB13.vs = [.f (.row 1)] := by kernel_rfl
theorem ckIc13 : eIC13.vs = [.f (.sl 2 0 (.n 32) (.l 32))] := by kernel_rfl
end Go.Proofs.YtjhndmlpcpbaoaaDoor
