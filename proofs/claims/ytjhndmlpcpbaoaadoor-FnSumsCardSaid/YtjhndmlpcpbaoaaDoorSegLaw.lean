/- The run of the law, from call to call. -/
import Derived.Test.YtjhndmlpcpbaoaaDoorCom2
namespace Go.Proofs.YtjhndmlpcpbaoaaDoor
open Go Go.Sx Go.Proofs
set_option maxRecDepth 100000
def datL : SV := .f (.sl 0 0 (.v 0) (.v 0 0))
def isL (d : SV) : Prop := d = datL ∨ d = nilS
noncomputable def sL0 (d : SV) (orc : List Bool) : St := mkSt Tryd.f3.ntmps 1 0 (en 0 [d]) [] orc
def orcL (d : SV) : List Bool := match d with | .f (.sl _ _ _ _) => [false, false] | _ => []
noncomputable def oLa : Out := go c2 false 3000 [.code (bodyOf Tryd.f3)] (sL0 datL [true])
noncomputable def oLb : Out := go c2 false 3000 [.code (bodyOf Tryd.f3)] (sL0 datL [false, true])
noncomputable def boolB (x : Option SV) : Bool := match x with | some (.f (.bool true)) => true | _ => false
theorem boolB_eq {x : Option SV} (h : boolB x = true) : x = some (.f (.bool true)) := by
  unfold boolB at h
  split at h
  · rfl
  · cases h
theorem ckLa : and3 (and3 oLa.rets (obsB oLa.st.obs [.c .gtr (.v 0) (.n 2147483647) true]) (boolB (resS c2 oLa.st Tryd.f3))) (and3 oLb.rets (obsB oLb.st.obs [.c .gtr (.v 0) (.n 1048576) true, .c .gtr (.v 0) (.n 2147483647) false]) (boolB (resS c2 oLb.st Tryd.f3))) true = true := by kernel_rfl
noncomputable def oL10 (d : SV) : Out := go c2 false 3000 [.code (bodyOf Tryd.f3)] (sL0 d (orcL d))

def fl1_0 (d : SV) : List (Nat × SV) := [(0, d), (11, .f (.int .i64 (.n 0))), (14, .f (.int .i64 (.n 0))), (3, .f (.int .i64 (.n 0))), (15, d)]
noncomputable def s1_0 (d : SV) : St := mkSt Tryd.f3.ntmps 1 0 (fl1_0 d) [] []
noncomputable def e1_0 (d : SV) : Entry := entOf c2E (oL10 d).stk (s1_0 d)
noncomputable def oL20 (d : SV) : Out := go c2 false 3000 (e1_0 d).k (mkSt Tryd.f3.ntmps 2 0 ((16, .f (.row 1)) :: fl1_0 d) [] [])
def fl2_0 (d : SV) : List (Nat × SV) := [(0, d), (11, .f (.int .i64 (.n 0))), (16, .f (.row 1)), (19, .f (.int .i64 (.n 64))), (20, d)]
noncomputable def s2_0 (d : SV) : St := mkSt Tryd.f3.ntmps 2 0 (fl2_0 d) [] []
noncomputable def e2_0 (d : SV) : Entry := entOf c2E (oL20 d).stk (s2_0 d)
noncomputable def oL30 (d : SV) : Out := go c2 false 3000 (e2_0 d).k (mkSt Tryd.f3.ntmps 3 0 ((21, .f (.row 2)) :: fl2_0 d) [] [])
def fl3_0 (d : SV) : List (Nat × SV) := [(0, d), (11, .f (.int .i64 (.n 0))), (16, .f (.row 1)), (21, .f (.row 2))]
noncomputable def s3_0 (d : SV) : St := mkSt Tryd.f3.ntmps 3 0 (fl3_0 d) [] []
noncomputable def e3_0 (d : SV) : Entry := entOf c2E (oL30 d).stk (s3_0 d)
noncomputable def oL11 (d : SV) : Out := go c2 false 3000 (e3_0 d).k (mkSt Tryd.f3.ntmps 3 0 ((22, .f (.bool true)) :: fl3_0 d) [] [])
noncomputable def ckL0 (d : SV) : Bool :=
  and3 (and3 (and3 (oL10 d).stops (cutB c2 (oL10 d).st Tryd.f3.ntmps 1 (fl1_0 d) [] 64 []) true) (and3 (entB c2E 6 (oL10 d).stk (s1_0 d)) (dstB (e1_0 d).dst 16) true) true)
    (and3 (and3 (oL20 d).stops (nilB (oL20 d).st.obs) (cutB c2 (oL20 d).st Tryd.f3.ntmps 2 (fl2_0 d) [] 64 [])) (and3 (entB c2E 7 (oL20 d).stk (s2_0 d)) (dstB (e2_0 d).dst 21) true) true)
    (and3 (and3 (oL30 d).stops (nilB (oL30 d).st.obs) (cutB c2 (oL30 d).st Tryd.f3.ntmps 3 (fl3_0 d) [] 64 [])) (and3 (entB c2E 5 (oL30 d).stk (s3_0 d)) (dstB (e3_0 d).dst 22) true) true)
theorem ckL0_all {d : SV} (hd : isL d) : ckL0 d = true := by rcases hd with rfl | rfl <;> kernel_rfl
theorem v1_0 {d : SV} (hd : isL d) : (e1_0 d).vs = [.f (.int .i64 (.n 0)), d] := by rcases hd with rfl | rfl <;> kernel_rfl
theorem v2_0 {d : SV} (hd : isL d) : (e2_0 d).vs = [.f (.int .i64 (.n 64)), nilS, d] := by rcases hd with rfl | rfl <;> kernel_rfl
theorem v3_0 {d : SV} (hd : isL d) : (e3_0 d).vs = [.f (.row 1), .f (.row 2)] := by rcases hd with rfl | rfl <;> kernel_rfl

def fl1_1 (d : SV) : List (Nat × SV) := [(0, d), (11, .f (.int .i64 (.n 1))), (14, .f (.int .i64 (.n 1))), (3, .f (.int .i64 (.n 1))), (15, d)]
noncomputable def s1_1 (d : SV) : St := mkSt Tryd.f3.ntmps 1 0 (fl1_1 d) [] []
noncomputable def e1_1 (d : SV) : Entry := entOf c2E (oL11 d).stk (s1_1 d)
noncomputable def oL21 (d : SV) : Out := go c2 false 3000 (e1_1 d).k (mkSt Tryd.f3.ntmps 2 0 ((16, .f (.row 1)) :: fl1_1 d) [] [])
def fl2_1 (d : SV) : List (Nat × SV) := [(0, d), (11, .f (.int .i64 (.n 1))), (16, .f (.row 1)), (19, .f (.int .i64 (.n 48))), (20, d)]
noncomputable def s2_1 (d : SV) : St := mkSt Tryd.f3.ntmps 2 0 (fl2_1 d) [] []
noncomputable def e2_1 (d : SV) : Entry := entOf c2E (oL21 d).stk (s2_1 d)
noncomputable def oL31 (d : SV) : Out := go c2 false 3000 (e2_1 d).k (mkSt Tryd.f3.ntmps 3 0 ((21, .f (.row 2)) :: fl2_1 d) [] [])
def fl3_1 (d : SV) : List (Nat × SV) := [(0, d), (11, .f (.int .i64 (.n 1))), (16, .f (.row 1)), (21, .f (.row 2))]
noncomputable def s3_1 (d : SV) : St := mkSt Tryd.f3.ntmps 3 0 (fl3_1 d) [] []
noncomputable def e3_1 (d : SV) : Entry := entOf c2E (oL31 d).stk (s3_1 d)
noncomputable def oL12 (d : SV) : Out := go c2 false 3000 (e3_1 d).k (mkSt Tryd.f3.ntmps 3 0 ((22, .f (.bool true)) :: fl3_1 d) [] [])
noncomputable def ckL1 (d : SV) : Bool :=
  and3 (and3 (and3 (oL11 d).stops (cutB c2 (oL11 d).st Tryd.f3.ntmps 1 (fl1_1 d) [] 64 []) true) (and3 (entB c2E 6 (oL11 d).stk (s1_1 d)) (dstB (e1_1 d).dst 16) true) true)
    (and3 (and3 (oL21 d).stops (nilB (oL21 d).st.obs) (cutB c2 (oL21 d).st Tryd.f3.ntmps 2 (fl2_1 d) [] 64 [])) (and3 (entB c2E 7 (oL21 d).stk (s2_1 d)) (dstB (e2_1 d).dst 21) true) true)
    (and3 (and3 (oL31 d).stops (nilB (oL31 d).st.obs) (cutB c2 (oL31 d).st Tryd.f3.ntmps 3 (fl3_1 d) [] 64 [])) (and3 (entB c2E 5 (oL31 d).stk (s3_1 d)) (dstB (e3_1 d).dst 22) true) true)
theorem ckL1_all {d : SV} (hd : isL d) : ckL1 d = true := by rcases hd with rfl | rfl <;> kernel_rfl
theorem v1_1 {d : SV} (hd : isL d) : (e1_1 d).vs = [.f (.int .i64 (.n 1)), d] := by rcases hd with rfl | rfl <;> kernel_rfl
theorem v2_1 {d : SV} (hd : isL d) : (e2_1 d).vs = [.f (.int .i64 (.n 48)), nilS, d] := by rcases hd with rfl | rfl <;> kernel_rfl
theorem v3_1 {d : SV} (hd : isL d) : (e3_1 d).vs = [.f (.row 1), .f (.row 2)] := by rcases hd with rfl | rfl <;> kernel_rfl

def fl1_2 (d : SV) : List (Nat × SV) := [(0, d), (11, .f (.int .i64 (.n 2))), (14, .f (.int .i64 (.n 2))), (3, .f (.int .i64 (.n 2))), (15, d)]
noncomputable def s1_2 (d : SV) : St := mkSt Tryd.f3.ntmps 1 0 (fl1_2 d) [] []
noncomputable def e1_2 (d : SV) : Entry := entOf c2E (oL12 d).stk (s1_2 d)
noncomputable def oL22 (d : SV) : Out := go c2 false 3000 (e1_2 d).k (mkSt Tryd.f3.ntmps 2 0 ((16, .f (.row 1)) :: fl1_2 d) [] [])
def fl2_2 (d : SV) : List (Nat × SV) := [(0, d), (11, .f (.int .i64 (.n 2))), (16, .f (.row 1)), (19, .f (.int .i64 (.n 32))), (20, d)]
noncomputable def s2_2 (d : SV) : St := mkSt Tryd.f3.ntmps 2 0 (fl2_2 d) [] []
noncomputable def e2_2 (d : SV) : Entry := entOf c2E (oL22 d).stk (s2_2 d)
noncomputable def oL32 (d : SV) : Out := go c2 false 3000 (e2_2 d).k (mkSt Tryd.f3.ntmps 3 0 ((21, .f (.row 2)) :: fl2_2 d) [] [])
def fl3_2 (d : SV) : List (Nat × SV) := [(0, d), (11, .f (.int .i64 (.n 2))), (16, .f (.row 1)), (21, .f (.row 2))]
noncomputable def s3_2 (d : SV) : St := mkSt Tryd.f3.ntmps 3 0 (fl3_2 d) [] []
noncomputable def e3_2 (d : SV) : Entry := entOf c2E (oL32 d).stk (s3_2 d)
noncomputable def oL13 (d : SV) : Out := go c2 false 3000 (e3_2 d).k (mkSt Tryd.f3.ntmps 3 0 ((22, .f (.bool true)) :: fl3_2 d) [] [])
noncomputable def ckL2 (d : SV) : Bool :=
  and3 (and3 (and3 (oL12 d).stops (cutB c2 (oL12 d).st Tryd.f3.ntmps 1 (fl1_2 d) [] 64 []) true) (and3 (entB c2E 6 (oL12 d).stk (s1_2 d)) (dstB (e1_2 d).dst 16) true) true)
    (and3 (and3 (oL22 d).stops (nilB (oL22 d).st.obs) (cutB c2 (oL22 d).st Tryd.f3.ntmps 2 (fl2_2 d) [] 64 [])) (and3 (entB c2E 7 (oL22 d).stk (s2_2 d)) (dstB (e2_2 d).dst 21) true) true)
    (and3 (and3 (oL32 d).stops (nilB (oL32 d).st.obs) (cutB c2 (oL32 d).st Tryd.f3.ntmps 3 (fl3_2 d) [] 64 [])) (and3 (entB c2E 5 (oL32 d).stk (s3_2 d)) (dstB (e3_2 d).dst 22) true) true)
theorem ckL2_all {d : SV} (hd : isL d) : ckL2 d = true := by rcases hd with rfl | rfl <;> kernel_rfl
theorem v1_2 {d : SV} (hd : isL d) : (e1_2 d).vs = [.f (.int .i64 (.n 2)), d] := by rcases hd with rfl | rfl <;> kernel_rfl
theorem v2_2 {d : SV} (hd : isL d) : (e2_2 d).vs = [.f (.int .i64 (.n 32)), nilS, d] := by rcases hd with rfl | rfl <;> kernel_rfl
theorem v3_2 {d : SV} (hd : isL d) : (e3_2 d).vs = [.f (.row 1), .f (.row 2)] := by rcases hd with rfl | rfl <;> kernel_rfl

theorem obL0 : obsB (oL10 datL).st.obs [.c .gtr (.v 0) (.n 1048576) false, .c .gtr (.v 0) (.n 2147483647) false] = true := by kernel_rfl
theorem obL0n : nilB (oL10 nilS).st.obs = true := by kernel_rfl
theorem obL {d : SV} (hd : isL d) : and3 (nilB (oL11 d).st.obs) (nilB (oL12 d).st.obs) (nilB (oL13 d).st.obs) = true := by rcases hd with rfl | rfl <;> kernel_rfl
def fl4 (d : SV) : List (Nat × SV) := [(0, d), (25, d)]
noncomputable def s4 (d : SV) : St := mkSt Tryd.f3.ntmps 1 0 (fl4 d) [] []
noncomputable def e4 (d : SV) : Entry := entOf c2E (oL13 d).stk (s4 d)
noncomputable def oL5 (d : SV) : Out := go c2 false 3000 (e4 d).k (mkSt Tryd.f3.ntmps 2 0 ((26, .f (.row 1)) :: fl4 d) [] [])
def fl5 (d : SV) : List (Nat × SV) := [(26, .f (.row 1)), (27, d)]
noncomputable def s5 (d : SV) : St := mkSt Tryd.f3.ntmps 2 0 (fl5 d) [] []
noncomputable def e5 (d : SV) : Entry := entOf c2E (oL5 d).stk (s5 d)
noncomputable def oL6 (d : SV) : Out := go c2 false 3000 (e5 d).k (mkSt Tryd.f3.ntmps 3 0 ((28, .f (.row 2)) :: fl5 d) [] [])
def fl6 : List (Nat × SV) := [(26, .f (.row 1)), (28, .f (.row 2))]
noncomputable def s6 : St := mkSt Tryd.f3.ntmps 3 0 fl6 [] []
noncomputable def e6 (d : SV) : Entry := entOf c2E (oL6 d).stk s6
noncomputable def oL7 (d : SV) : Out := go c2 false 3000 (e6 d).k (mkSt Tryd.f3.ntmps 3 0 ((29, .f (.bool true)) :: fl6) [] [])
noncomputable def ckL4 (d : SV) : Bool :=
  and3 (and3 (and3 (oL13 d).stops (cutB c2 (oL13 d).st Tryd.f3.ntmps 1 (fl4 d) [] 64 []) true) (and3 (entB c2E 8 (oL13 d).stk (s4 d)) (dstB (e4 d).dst 26) true) true)
    (and3 (and3 (oL5 d).stops (nilB (oL5 d).st.obs) (cutB c2 (oL5 d).st Tryd.f3.ntmps 2 (fl5 d) [] 64 [])) (and3 (entB c2E 9 (oL5 d).stk (s5 d)) (dstB (e5 d).dst 28) true) true)
    (and3 (and3 (oL6 d).stops (nilB (oL6 d).st.obs) (cutB c2 (oL6 d).st Tryd.f3.ntmps 3 fl6 [] 64 [])) (and3 (entB c2E 5 (oL6 d).stk s6) (dstB (e6 d).dst 29) true) (and3 (oL7 d).rets (nilB (oL7 d).st.obs) (boolB (resS c2 (oL7 d).st Tryd.f3))))
theorem ckL4_all {d : SV} (hd : isL d) : ckL4 d = true := by rcases hd with rfl | rfl <;> kernel_rfl
theorem v4 {d : SV} (hd : isL d) : (e4 d).vs = [d] := by rcases hd with rfl | rfl <;> kernel_rfl
theorem v5 {d : SV} (hd : isL d) : (e5 d).vs = [.f (.int .i64 (.n 32)), nilS, d] := by rcases hd with rfl | rfl <;> kernel_rfl
theorem v6 {d : SV} (hd : isL d) : (e6 d).vs = [.f (.row 1), .f (.row 2)] := by rcases hd with rfl | rfl <;> kernel_rfl
theorem oL10_eq (d : SV) : oL10 d = go c2 false 3000 [.code (bodyOf Tryd.f3)] (sL0 d (orcL d)) := rfl
theorem oL20_eq (d : SV) : oL20 d = go c2 false 3000 (e1_0 d).k (mkSt Tryd.f3.ntmps 2 0 ((16, .f (.row 1)) :: fl1_0 d) [] []) := rfl
theorem oL30_eq (d : SV) : oL30 d = go c2 false 3000 (e2_0 d).k (mkSt Tryd.f3.ntmps 3 0 ((21, .f (.row 2)) :: fl2_0 d) [] []) := rfl
theorem oL11_eq (d : SV) : oL11 d = go c2 false 3000 (e3_0 d).k (mkSt Tryd.f3.ntmps 3 0 ((22, .f (.bool true)) :: fl3_0 d) [] []) := rfl
theorem e1_0_eq (d : SV) : e1_0 d = entOf c2E (oL10 d).stk (s1_0 d) := rfl
theorem e2_0_eq (d : SV) : e2_0 d = entOf c2E (oL20 d).stk (s2_0 d) := rfl
theorem e3_0_eq (d : SV) : e3_0 d = entOf c2E (oL30 d).stk (s3_0 d) := rfl
theorem oL21_eq (d : SV) : oL21 d = go c2 false 3000 (e1_1 d).k (mkSt Tryd.f3.ntmps 2 0 ((16, .f (.row 1)) :: fl1_1 d) [] []) := rfl
theorem oL31_eq (d : SV) : oL31 d = go c2 false 3000 (e2_1 d).k (mkSt Tryd.f3.ntmps 3 0 ((21, .f (.row 2)) :: fl2_1 d) [] []) := rfl
theorem oL12_eq (d : SV) : oL12 d = go c2 false 3000 (e3_1 d).k (mkSt Tryd.f3.ntmps 3 0 ((22, .f (.bool true)) :: fl3_1 d) [] []) := rfl
theorem e1_1_eq (d : SV) : e1_1 d = entOf c2E (oL11 d).stk (s1_1 d) := rfl
theorem e2_1_eq (d : SV) : e2_1 d = entOf c2E (oL21 d).stk (s2_1 d) := rfl
theorem e3_1_eq (d : SV) : e3_1 d = entOf c2E (oL31 d).stk (s3_1 d) := rfl
theorem oL22_eq (d : SV) : oL22 d = go c2 false 3000 (e1_2 d).k (mkSt Tryd.f3.ntmps 2 0 ((16, .f (.row 1)) :: fl1_2 d) [] []) := rfl
theorem oL32_eq (d : SV) : oL32 d = go c2 false 3000 (e2_2 d).k (mkSt Tryd.f3.ntmps 3 0 ((21, .f (.row 2)) :: fl2_2 d) [] []) := rfl
theorem oL13_eq (d : SV) : oL13 d = go c2 false 3000 (e3_2 d).k (mkSt Tryd.f3.ntmps 3 0 ((22, .f (.bool true)) :: fl3_2 d) [] []) := rfl
theorem e1_2_eq (d : SV) : e1_2 d = entOf c2E (oL12 d).stk (s1_2 d) := rfl
theorem e2_2_eq (d : SV) : e2_2 d = entOf c2E (oL22 d).stk (s2_2 d) := rfl
theorem e3_2_eq (d : SV) : e3_2 d = entOf c2E (oL32 d).stk (s3_2 d) := rfl
theorem e4_eq (d : SV) : e4 d = entOf c2E (oL13 d).stk (s4 d) := rfl
theorem e5_eq (d : SV) : e5 d = entOf c2E (oL5 d).stk (s5 d) := rfl
theorem e6_eq (d : SV) : e6 d = entOf c2E (oL6 d).stk s6 := rfl
theorem oL5_eq (d : SV) : oL5 d = go c2 false 3000 (e4 d).k (mkSt Tryd.f3.ntmps 2 0 ((26, .f (.row 1)) :: fl4 d) [] []) := rfl
theorem oL6_eq (d : SV) : oL6 d = go c2 false 3000 (e5 d).k (mkSt Tryd.f3.ntmps 3 0 ((28, .f (.row 2)) :: fl5 d) [] []) := rfl
theorem oL7_eq (d : SV) : oL7 d = go c2 false 3000 (e6 d).k (mkSt Tryd.f3.ntmps 3 0 ((29, .f (.bool true)) :: fl6) [] []) := rfl
attribute [irreducible] oL10 e1_0 e2_0 e3_0 oL20 oL30 oL11 e1_1 e2_1 e3_1 oL21 oL31 oL12 e1_2 e2_2 e3_2 oL22 oL32 oL13 e4 e5 e6 oL5 oL6 oL7
end Go.Proofs.YtjhndmlpcpbaoaaDoor
