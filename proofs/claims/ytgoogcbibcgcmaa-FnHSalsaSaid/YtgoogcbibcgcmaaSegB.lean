/- The run of salsa.HSalsa20: to its loop, one round, the loop's end; then impl.HSalsa to its end, and the law to the call of spec.HSalsa. -/
import Derived.Test.YtgoogcbibcgcmaaSegA
namespace Go.Proofs.Ytgoogcbibcgcmaa
open Go Go.Sx Go.Proofs
set_option maxRecDepth 100000
noncomputable def s4 : St := s3.callee e3.fn e3.vs 0
noncomputable def o4 : Out := go c0 true 2000 [.code (bodyOf Try.f7)] s4
noncomputable def lp4 : Code × List It := (loopOf o4.stk).getD (.skip, [])
noncomputable def eSlots (F : Tr SV) (k : Nat) : Nat → List E
  | 0 => []
  | n + 1 => eOf (F.get k) :: eSlots F (k + 1) n
/-- The words at the start. -/
noncomputable def esX : List E := eSlots o4.st.F 8 16
def wSlots (d k : Nat) : Nat → List (Nat × SV)
  | 0 => []
  | n + 1 => (d, .f (.int .u32 (.v k))) :: wSlots (d + 1) (k + 1) n
def fl5 : List (Nat × SV) := (0, .f (.ptr 6 0)) :: (24, .f (.int .i64 (.v 112))) :: wSlots 8 96 16
def ml5 : List (Nat × Win) := [(0, ⟨u8s 0 16, 0⟩), (1, ⟨u8s 16 32, 0⟩), (2, ⟨u8s 48 16, 0⟩), (6, ⟨z8s 32, 2⟩)]
noncomputable def s5 (orc : List Bool) : St := mkSt Try.f7.ntmps 7 0 fl5 ml5 orc
noncomputable def loopB (k : List It) : Bool := match loopOf k with | some _ => true | none => false
noncomputable def someB {α : Type} (k : Option α) : Bool := match k with | some _ => true | none => false
-- a round
noncomputable def o5 : Out := go c0 false 3000 [.code lp4.1] (s5 [true])
/-- The words behind a round. -/
noncomputable def esD : List E := eSlots o5.st.F 8 16
def obT (n k : Int) : List Ob := [.rng (.add (.v 112) (.n k)), .c .lss (.v 112) (.n n) true]
def obF (n : Int) : List Ob := [.c .lss (.v 112) (.n n) false]
-- the end
noncomputable def o6 : Out := go c0 false 3000 [.code lp4.1] (s5 [false])
noncomputable def k6 : List It := (o6.exits lp4.2).getD []
noncomputable def o7 : Out := go c0 true 3000 k6 o6.st
noncomputable def v7 : SV := (resS c0 o7.st Try.f7).getD undefS
-- impl.HSalsa, from there
noncomputable def p8 : Option St := ({ o7.st with N := Try.f4.ntmps, F := ofL fl3, thr := 0, orc := [], obs := [] } : St).put e3.dst v7
noncomputable def s8 : St := p8.getD o7.st
noncomputable def o8 : Out := go c0 false 3000 e3.k s8
noncomputable def v8 : SV := (resS c0 o8.st Try.f4).getD undefS
-- the law, from there
noncomputable def p9 : Option St := ({ o8.st with N := Try.f3.ntmps, F := ofL fl1, thr := 0, orc := [], obs := [] } : St).put e1.dst v8
noncomputable def s9 : St := p9.getD o8.st
noncomputable def o9 : Out := go c0 false 3000 e1.k s9
noncomputable def rowOf (x : Option SV) : Nat := match x with | some (.f (.row r)) => r | _ => 999
noncomputable def s10 : St := o9.st.matR (rowOf (o9.st.F.get 41))
/-- The bytes of the answer, of the last words. -/
noncomputable def outB : List E := match s10.M.get 9 with | some W => eCells W.cells | none => []
def fl11 : List (Nat × SV) := [(41, sIn 9 32), (42, sIn 0 16), (43, sIn 1 32), (44, sIn 2 16)]
def ml11 : List (Nat × Win) := [(0, ⟨u8s 0 16, 0⟩), (1, ⟨u8s 16 32, 0⟩), (2, ⟨u8s 48 16, 0⟩), (9, ⟨u8s 64 32, 2⟩)]
noncomputable def s11 : St := mkSt Try.f3.ntmps 10 0 fl11 ml11 []
noncomputable def e11 : Entry := ent o9.stk s11
theorem segB :
    (and3 (and3 o4.stops (nilB o4.st.obs) (and3 (cutB c0 o4.st Try.f7.ntmps 7 fl5 ml5 96 (appX esX [.n 0])) (loopB o4.stk) (and3 (lenB esX 16) (rngL 0 64 esX) true)))
      (and3 (and3 o5.dones (obsB o5.st.obs (obT 20 2)) (cutB c0 o5.st Try.f7.ntmps 7 fl5 ml5 96 (appX esD [.add (.v 112) (.n 2)]))) (and3 (lenB esD 16) (rngL 96 112 esD) true)
        (and3 (and3 (someB (o6.exits lp4.2)) (obsB o6.st.obs (obF 20)) (obsB o7.st.obs (obF 20))) (and3 o7.rets (someB (resS c0 o7.st Try.f7)) (someB p8)) true))
      (and3 (and3 o8.rets (nilB o8.st.obs) (and3 (someB (resS c0 o8.st Try.f4)) (someB p9) true)) (and3 o9.stops (nilB o9.st.obs) (entB 6 o9.stk s11))
        (and3 (cutB c0 s10 Try.f3.ntmps 10 fl11 ml11 64 outB) (lenB outB 32) (rngL 96 112 outB)))) = true := by kernel_rfl
end Go.Proofs.Ytgoogcbibcgcmaa
