/- The run of spec.HSalsa: the filled state, the rounds, the bytes; then the law to the call of same. -/
import Derived.Test.YtgoogcbibcgcmaaSegB
namespace Go.Proofs.Ytgoogcbibcgcmaa
open Go Go.Sx Go.Proofs
set_option maxRecDepth 100000
noncomputable def s12 : St := s11.callee e11.fn e11.vs 0
noncomputable def o12 : Out := go c0 false 5000 [.code (bodyOf Try.f6)] s12
def fl13 : List (Nat × SV) := [(11, .agg (u32s 96 16))]
def ml13 : List (Nat × Win) := [(9, ⟨u8s 64 32, 2⟩)]
noncomputable def s13 : St := mkSt Try.f6.ntmps 10 0 fl13 ml13 []
noncomputable def e13 : Entry := ent o12.stk s13
noncomputable def s14 : St := s13.callee e13.fn e13.vs 0
noncomputable def o14 : Out := go c0 true 1000 [.code (bodyOf Try.f9)] s14
noncomputable def lp14 : Code × List It := (loopOf o14.stk).getD (.skip, [])
def fl15 : List (Nat × SV) := [(2, .f (.ptr 10 0)), (4, .f (.ptr 11 0)), (8, .f (.int .i64 (.n 10))), (9, .f (.int .i64 (.v 112)))]
def ml15 : List (Nat × Win) := [(9, ⟨u8s 64 32, 2⟩), (10, ⟨u32s 96 16, 2⟩), (11, ⟨z32s 16, 2⟩)]
noncomputable def s15 (orc : List Bool) : St := mkSt Try.f9.ntmps 12 0 fl15 ml15 orc
noncomputable def o15 : Out := go c0 false 5000 [.code lp14.1] (s15 [true])
noncomputable def o16 : Out := go c0 false 5000 [.code lp14.1] (s15 [false])
noncomputable def k16 : List It := (o16.exits lp14.2).getD []
noncomputable def o17 : Out := go c0 true 5000 k16 o16.st
noncomputable def v17 : SV := (resS c0 o17.st Try.f9).getD undefS
noncomputable def p18 : Option St := ({ o17.st with N := Try.f6.ntmps, F := ofL [], thr := 0, orc := [], obs := [] } : St).put e13.dst v17
noncomputable def s18 : St := p18.getD o17.st
noncomputable def o18 : Out := go c0 false 5000 e13.k s18
noncomputable def v18 : SV := (resS c0 o18.st Try.f6).getD undefS
noncomputable def p19 : Option St := ({ o18.st with N := Try.f3.ntmps, F := ofL fl11, thr := 0, orc := [], obs := [] } : St).put e11.dst v18
noncomputable def s19 : St := p19.getD o18.st
noncomputable def o19 : Out := go c0 false 3000 e11.k s19
noncomputable def s20 : St := o19.st.matR (rowOf (o19.st.F.get 45))
def fl21 : List (Nat × SV) := [(41, sIn 9 32), (45, sIn 87 32)]
def ml21 : List (Nat × Win) := [(9, ⟨u8s 64 32, 2⟩), (87, ⟨u8s 113 32, 2⟩)]
noncomputable def s21 : St := mkSt Try.f3.ntmps 88 0 fl21 ml21 []
noncomputable def e21 : Entry := ent o19.stk s21
-- .. and to the law's end
noncomputable def p22 : Option St := ({ s21 with N := Try.f3.ntmps, F := ofL fl21, thr := 0, orc := [], obs := [] } : St).put e21.dst (.f (.bool true))
noncomputable def s22 : St := p22.getD s21
noncomputable def o22 : Out := go c0 false 3000 e21.k s22
noncomputable def trueB (x : Option SV) : Bool := match x with | some (.f (.bool true)) => true | _ => false
theorem segC :
    (and3 (and3 o12.stops (nilB o12.st.obs) (and3 (cutB c0 o12.st Try.f6.ntmps 10 fl13 ml13 96 esX) (entB 9 o12.stk s13) true))
      (and3 (and3 o14.stops (nilB o14.st.obs) (and3 (cutB c0 o14.st Try.f9.ntmps 12 fl15 ml15 112 [.n 0]) (loopB o14.stk) true))
        (and3 o15.dones (obsB o15.st.obs (obT 10 1)) (cutB c0 o15.st Try.f9.ntmps 12 fl15 ml15 96 (appX esD [.add (.v 112) (.n 1)])))
        (and3 (and3 (someB (o16.exits lp14.2)) (obsB o16.st.obs (obF 10)) (obsB o17.st.obs (obF 10))) (and3 o17.rets (someB (resS c0 o17.st Try.f9)) (someB p18)) true))
      (and3 (and3 o18.rets (nilB o18.st.obs) (and3 (someB (resS c0 o18.st Try.f6)) (someB p19) true)) (and3 o19.stops (nilB o19.st.obs) (and3 (entB 5 o19.stk s21) (svsEq e21.vs [.sl 9 0 (.n 32) (.v 9 0), .sl 87 0 (.n 32) (.v 87 0)]) true))
        (and3 (cutB c0 s20 Try.f3.ntmps 88 fl21 ml21 113 outB) (someB p22) (and3 o22.rets (nilB o22.st.obs) (trueB (resS c0 o22.st Try.f3)))))) = true := by kernel_rfl
end Go.Proofs.Ytgoogcbibcgcmaa
