/- The runs of the functions that the law reaches, piece by piece: states written out, and what each piece's run ends with. -/
import Derived.Test.YtgoogcbibcgcmaaCfg
import Derived.Test.YtgoogcbibcgcmaaSxL
namespace Go.Proofs.Ytgoogcbibcgcmaa
open Go Go.Sx Go.Proofs
set_option maxRecDepth 100000
noncomputable def c0 : Cfg := cfgW [] []
noncomputable def cE : Cfg := cfgE [] []
noncomputable def bodyOf (fn : Func) : Code := fn.body.getD .skip
def u32s (k : Nat) : Nat → List FV
  | 0 => []
  | n + 1 => .int .u32 (.v k) :: u32s (k + 1) n
def u8s (k : Nat) : Nat → List FV
  | 0 => []
  | n + 1 => .int .u8 (.v k) :: u8s (k + 1) n
def z8s : Nat → List FV
  | 0 => []
  | n + 1 => .int .u8 (.n 0) :: z8s n
def z32s : Nat → List FV
  | 0 => []
  | n + 1 => .int .u32 (.n 0) :: z32s n
noncomputable def ent0 : Entry := ⟨0, Try.f3, .skip, [], none, []⟩
noncomputable def ent (k : List It) (s : St) : Entry := (enter cE k s).getD ent0
noncomputable def entB (f : Nat) (k : List It) (s : St) : Bool :=
  match enter cE k s with
  | some e => Nat.beq e.f f
  | none => false
/- Names: 0, 1, 2: the three arguments' cells. Numbers: 0 .. 63 the arguments' bytes, 64 .. 95 the bytes of what impl.HSalsa gives, 96 .. 111 sixteen words, 112 a counter. -/
def ml0 : List (Nat × Win) := [(0, ⟨u8s 0 16, 0⟩), (1, ⟨u8s 16 32, 0⟩), (2, ⟨u8s 48 16, 0⟩)]
def sIn (k : Nat) (n : Nat) : SV := .f (.sl k 0 (.n n) (.v k 0))
-- laws.FnHSalsa, to the call of impl.HSalsa
noncomputable def s0 : St := mkSt Try.f3.ntmps 3 0 [(0, sIn 0 16), (1, sIn 1 32), (2, sIn 2 16)] ml0 []
noncomputable def o1 : Out := go c0 false 1000 [.code (bodyOf Try.f3)] s0
def fl1 : List (Nat × SV) := [(0, sIn 0 16), (1, sIn 1 32), (2, sIn 2 16), (21, sIn 0 16), (22, sIn 1 32), (23, sIn 2 16)]
noncomputable def s1 : St := mkSt Try.f3.ntmps 3 0 fl1 ml0 []
noncomputable def e1 : Entry := ent o1.stk s1
theorem seg1 : (and3 o1.stops (nilB o1.st.obs) (and3 (cutB c0 o1.st Try.f3.ntmps 3 fl1 ml0 64 []) (entB 4 o1.stk s1) true)) = true := by kernel_rfl
-- impl.HSalsa, to the call of salsa.HSalsa20
noncomputable def s2 : St := s1.callee e1.fn e1.vs 0
noncomputable def o2 : Out := go c0 false 1000 [.code (bodyOf Try.f4)] s2
def fl3 : List (Nat × SV) := [(10, .f (.ptr 6 0)), (7, .f (.ptr 3 0)), (8, .f (.ptr 4 0)), (9, .f (.ptr 5 0))]
def ml3 : List (Nat × Win) := [(0, ⟨u8s 0 16, 0⟩), (1, ⟨u8s 16 32, 0⟩), (2, ⟨u8s 48 16, 0⟩), (3, ⟨u8s 0 16, 2⟩), (4, ⟨u8s 16 32, 2⟩), (5, ⟨u8s 48 16, 2⟩), (6, ⟨z8s 32, 2⟩)]
noncomputable def s3 : St := mkSt Try.f4.ntmps 7 0 fl3 ml3 []
noncomputable def e3 : Entry := ent o2.stk s3
theorem seg2 : (and3 o2.stops (nilB o2.st.obs) (and3 (cutB c0 o2.st Try.f4.ntmps 7 fl3 ml3 64 []) (entB 7 o2.stk s3) true)) = true := by kernel_rfl
end Go.Proofs.Ytgoogcbibcgcmaa
