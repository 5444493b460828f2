/- A symbolic executor over the model, part eight: the executor, and what its answers mean. -/
import Derived.Test.YtgoogcbibcgcmaaSxGa
namespace Go.Sx
open Go

/-! What is still to be carried out. -/
inductive It where
  | code (c : Code)
  | blk (id : Nat)
  | lp (c : Code) (n : Nat)
  | ops (all : Array Oper) (l : List Oper)

/-- At most n rounds more. -/
def Jn (P : Program) (c : Code) (Q : Exit → Act → World → Prop) : Nat → Act → World → Prop
  | 0, _, _ => False
  | n + 1, a, w => c.wp P (Exit.then (Jn P c Q n) Q) a w

theorem wp_loop_ghost {γ : Type} {P : Program} {Q : Exit → Act → World → Prop} {c : Code} (I : γ → Act → World → Prop) (μ : γ → Nat)
    (round : ∀ g a w, I g a w → c.wp P (Exit.then (fun a' w' => ∃ g', I g' a' w' ∧ μ g' < μ g) Q) a w) : ∀ g a w, I g a w → (Code.loop c).wp P Q a w := by
  intro g a w h₀ b k cs
  have key : ∀ n g a w, μ g = n → I g a w →
      ∃ e a' w', Q e a' w' ∧ Arrives P (lone (b.at a (.code c :: .inLoop c :: k)) cs w) b k cs e a' w' := by
    intro n
    induction n using Nat.strongRecOn with
    | _ n ih =>
      intro g a w hn hI
      obtain ⟨e, a₁, w₁, hq, harr⟩ := round g a w hI b (.inLoop c :: k) cs
      cases e with
      | normal =>
        obtain ⟨g', hI₁, hlt⟩ := hq
        obtain ⟨e₂, a₂, w₂, hq₂, harr₂⟩ := ih (μ g') (hn ▸ hlt) g' a₁ w₁ rfl hI₁
        exact ⟨e₂, a₂, w₂, hq₂, .of_steps (Steps.trans harr (.one step_inLoop)) harr₂⟩
      | exit id => exact ⟨_, a₁, w₁, hq, .pass (x := .inLoop c) rfl (fun _ _ => .inl (by simp)) harr⟩
      | goto l => exact ⟨_, a₁, w₁, hq, .pass (x := .inLoop c) rfl (fun _ _ => .inl (by simp)) harr⟩
      | ret => exact ⟨_, a₁, w₁, hq, .pass (x := .inLoop c) rfl (fun _ _ => .inl (by simp)) harr⟩
      | panic ch => exact ⟨_, a₁, w₁, hq, .pass (x := .inLoop c) rfl (fun _ _ => .inl (by simp)) harr⟩
      | outgrown => exact ⟨_, a₁, w₁, hq, .pass (x := .inLoop c) rfl (fun _ _ => .inl (by simp)) harr⟩
  obtain ⟨e, a', w', hq, harr⟩ := key _ g a w rfl h₀
  exact ⟨e, a', w', hq, .of_steps (.one step_loop) harr⟩

theorem wp_loop_Jn {P : Program} {Q : Exit → Act → World → Prop} {c : Code} {a : Act} {w : World} (n : Nat) (h : Jn P c Q n a w) : (Code.loop c).wp P Q a w := by
  refine wp_loop_ghost (fun n a w => Jn P c Q n a w) (fun n => n) ?_ n a w h
  intro n a w hn
  cases n with
  | zero => exact hn.elim
  | succ n =>
    exact Code.wp_mono (fun e a' w' q => by cases e <;> first | exact q | exact ⟨n, q, Nat.lt_succ_self n⟩) hn

/-- What is asked where the run comes to the list with this exit. -/
def wpK (P : Program) (Q : Exit → Act → World → Prop) : List It → Exit → Act → World → Prop
  | [], e, a, w => Q e a w
  | .code c :: k, e, a, w => match e with
    | .normal => c.wp P (wpK P Q k) a w
    | e => wpK P Q k e a w
  | .blk id :: k, e, a, w => match e with
    | .exit i => if i = id then wpK P Q k .normal a w else wpK P Q k (.exit i) a w
    | e => wpK P Q k e a w
  | .lp c n :: k, e, a, w => match e with
    | .normal => Jn P c (wpK P Q k) n a w
    | e => wpK P Q k e a w
  | .ops all l :: k, e, a, w => match e with
    | .normal => wpList P all (wpK P Q k) l a w
    | e => wpK P Q k e a w

def dropTo (id : Nat) : List It → Option (List It)
  | [] => none
  | x :: k => match x with
    | .blk i => match Nat.beq i id with
      | true => some k
      | false => dropTo id k
    | _ => dropTo id k

theorem wpK_exit {P : Program} {Q : Exit → Act → World → Prop} {id : Nat} {a : Act} {w : World} : ∀ {k k' : List It}, dropTo id k = some k' → wpK P Q k' .normal a w → wpK P Q k (.exit id) a w
  | [], _, h, _ => by cases h
  | .code c :: k, k', h, hq => wpK_exit (k := k) h hq
  | .lp c n :: k, k', h, hq => wpK_exit (k := k) h hq
  | .ops all l :: k, k', h, hq => wpK_exit (k := k) h hq
  | .blk i :: k, k', h, hq => by
    have h2 : (match Nat.beq i id with | true => some k | false => dropTo id k) = some k' := h
    clear h
    split at h2
    · rename_i hb
      have hk := Option.some.inj h2
      have hb := beq_eq hb
      subst hk
      subst hb
      show (if i = i then _ else _)
      rw [if_pos rfl]
      exact hq
    · rename_i hb
      have hne : ¬ id = i := by
        intro e
        rw [← e] at hb
        have : Nat.beq id id = true := Nat.beq_refl id
        rw [this] at hb
        cases hb
      show (if id = i then _ else _)
      rw [if_neg hne]
      exact wpK_exit (k := k) h2 hq
theorem wpK_exit_none {P : Program} {Q : Exit → Act → World → Prop} {id : Nat} {a : Act} {w : World} : ∀ {k : List It}, dropTo id k = none → Q (.exit id) a w → wpK P Q k (.exit id) a w
  | [], _, hq => hq
  | .code c :: k, h, hq => wpK_exit_none (k := k) h hq
  | .lp c n :: k, h, hq => wpK_exit_none (k := k) h hq
  | .ops all l :: k, h, hq => wpK_exit_none (k := k) h hq
  | .blk i :: k, h, hq => by
    have h : (match Nat.beq i id with | true => some k | false => dropTo id k) = none := h
    split at h
    · cases h
    · rename_i hb
      have hne : ¬ id = i := by
        intro e
        rw [← e] at hb
        have : Nat.beq id id = true := Nat.beq_refl id
        rw [this] at hb
        cases hb
      show (if id = i then _ else _)
      rw [if_neg hne]
      exact wpK_exit_none (k := k) h hq
theorem wpK_ret {P : Program} {Q : Exit → Act → World → Prop} {a : Act} {w : World} (hq : Q .ret a w) : ∀ k : List It, wpK P Q k .ret a w
  | [] => hq
  | .code _ :: k => wpK_ret hq k
  | .lp _ _ :: k => wpK_ret hq k
  | .ops _ _ :: k => wpK_ret hq k
  | .blk _ :: k => wpK_ret hq k

/-! The executor. -/
inductive Out where
  | done (s : St)
  | ret (s : St)
  | exit (id : Nat) (s : St)
  | stop (k : List It) (s : St)
def Out.st : Out → St
  | .done s => s
  | .ret s => s
  | .exit _ s => s
  | .stop _ s => s

def undefS : SV := .tup []
/-- A value into its slot. -/
noncomputable def St.put (s : St) (d : Option Tmp) (v : SV) : Option St :=
  match d with
  | none => some s
  | some d => match Nat.blt d s.N, Nat.ble d 8191 with
    | true, true => some { s with F := s.F.put d v }
    | _, _ => none

inductive Want where
  | yes | no | unknown
noncomputable def wantS (s : St) (all : Array Oper) (o : Oper) : Want :=
  match o.guard with
  | none => .yes
  | some (j, b) => match nth? all.toList j with
    | some oj => match oj.dst with
      | some d => match Nat.blt d s.N, s.F.get d with
        | true, some (.f (.bool b')) => match b, b' with
          | true, true => .yes
          | false, false => .yes
          | _, _ => .no
        | true, some (.tup []) => .no
        | _, _ => .unknown
      | none => .no
    | none => .unknown

noncomputable def effOp (cfg : Cfg) (s : St) (o : Op) : Option Ef :=
  match o with
  | .alloc t => eAlloc cfg s t
  | .box _ x => eBox cfg s x
  | .buildSlice t n parts => eBuildSlice cfg s t n parts
  | .store t x y => eStore cfg s t x y
  | .call c => match c.callee with
    | .builtin .append => match c.args.toList, c.argTypes.toList with
      | [x, y], [t, t'] => eAppend cfg s t t' x y
      | _, _ => none
    | _ => none
  | _ => none

noncomputable def evAll (cfg : Cfg) (F : Tr SV) : List Operand → Option (List SV)
  | [] => some []
  | x :: l => match evO cfg F x, evAll cfg F l with
    | some v, some r => some (v :: r)
    | _, _ => none
noncomputable def frame0 : List SV → Nat → Tr SV → Tr SV
  | [], _, F => F
  | v :: l, i, F => frame0 l (i + 1) (F.put i v)
/-- A call of a Go function whose body is known: its number, the function, its arguments. -/
noncomputable def callOf (cfg : Cfg) (s : St) (o : Op) : Option (FuncId × Func × Code × List SV) :=
  match o with
  | .call c => match c.callee with
    | .value (.func f) => match findF f cfg.fns, evAll cfg s.F c.args.toList with
      | some fn, some vs => match fn.body, Nat.ble (lenX vs) fn.ntmps, Nat.ble (lenX vs) 8191 with
        | some b, true, true => some (f, fn, b, vs)
        | _, _, _ => none
      | _, _ => none
    | _ => none
  | _ => none

noncomputable def resOne (cfg : Cfg) (s : St) : ResultVar → Option SV
  | .tmp t => s.F.get t
  | .cell p ty => match pLoad cfg s [] ty (.tmp p) with
    | some r => some r.v
    | none => none
def pack : SV → Option (Bool × List FV)
  | .f x => some (false, [x])
  | .agg l => some (true, l)
  | .tup _ => none
noncomputable def resAll (cfg : Cfg) (s : St) : List ResultVar → Option (List (Bool × List FV))
  | [] => some []
  | x :: l => match resOne cfg s x, resAll cfg s l with
    | some v, some r => match pack v with
      | some p => some (p :: r)
      | none => none
    | _, _ => none
noncomputable def resS (cfg : Cfg) (s : St) (fn : Func) : Option SV :=
  match fn.results.toList with
  | [x] => resOne cfg s x
  | l => match resAll cfg s l with
    | some r => some (.tup r)
    | none => none

/-- The operand whose address an operation wants. -/
def matOf : Op → Option Operand
  | .slice _ x _ _ _ => some x
  | .indexAddr _ x _ => some x
  | .sliceToArrayPointer _ x => some x
  | _ => none
noncomputable def matS (cfg : Cfg) (s : St) (o : Op) : Option (Nat × List FV) :=
  match matOf o with
  | some x => match evF cfg s x with
    | some (.row r) => match s.R.get r, Nat.ble s.nx 8191, Nat.ble s.thr r with
      | some (_, y :: l), true, true => some (r, y :: l)
      | _, _, _ => none
    | _ => none
  | none => none

def belowF (n : Nat) : FV → Bool
  | .ptr j _ => Nat.blt j n
  | .sl _ _ _ _ => false
  | .row r => Nat.blt r n
  | .ifc _ j _ => Nat.blt j n
  | _ => true
def belowL (n : Nat) : List FV → Bool
  | [] => true
  | x :: l => belowF n x && belowL n l
def belowP (n : Nat) : List (Bool × List FV) → Bool
  | [] => true
  | p :: l => belowL n p.2 && belowP n l
def belowS (n : Nat) : SV → Bool
  | .f x => belowF n x
  | .agg l => belowL n l
  | .tup l => belowP n l

/-- The state in which a callee begins. -/
noncomputable def St.callee (s : St) (fn : Func) (vs : List SV) (thr : Nat) : St := { s with N := fn.ntmps, F := frame0 vs 0 .e, thr := thr }
/-- .. and that of its caller behind it. -/
def St.back (s s1 : St) : St := { s1 with N := s.N, F := s.F, thr := s.thr }
/-- .. behind one that has only read. -/
def St.backQ (s s1 : St) : St := { s with orc := s1.orc, obs := s1.obs }
def St.pv (s : St) (r : Pv) : St := { s with orc := r.orc, obs := r.obs ++ s.obs }


def takeN {α : Type} : Nat → List α → List α
  | 0, _ => []
  | _ + 1, [] => []
  | n + 1, x :: l => x :: takeN n l

/-- Reading operations one after another. 'G': the executor for a callee. -/
noncomputable def qrun (cfg : Cfg) (G : List It → St → Out) (all : Array Oper) : List Oper → St → Option St
  | [], s => some s
  | o :: l, s => match wantS s all o with
    | .unknown => none
    | .no => match s.put o.dst undefS with
      | some s' => qrun cfg G all l s'
      | none => none
    | .yes => match pureOp cfg s o.op with
      | some r => match (s.pv r).put o.dst r.v with
        | some s' => qrun cfg G all l s'
        | none => none
      | none => match callOf cfg s o.op with
        | some (_, fn, b, vs) => match G [.code b] (s.callee fn vs s.nx) with
          | .ret s1 => match resS cfg s1 fn with
            | some v => match belowS s.nx v with
              | true => match (s.backQ s1).put o.dst v with
                | some s' => qrun cfg G all l s'
                | none => none
              | false => none
            | none => none
          | .done s1 => match resS cfg s1 fn with
            | some v => match belowS s.nx v with
              | true => match (s.backQ s1).put o.dst v with
                | some s' => qrun cfg G all l s'
                | none => none
              | false => none
            | none => none
          | _ => none
        | none => none

/-- How many operations stand ahead of the first that stores. -/
def headN : List Oper → Nat
  | [] => 0
  | o :: l => match o.op with
    | .store _ _ _ => 0
    | _ => headN l + 1

noncomputable def go (cfg : Cfg) (stopL : Bool) : Nat → List It → St → Out
  | 0, k, s => .stop k s
  | _ + 1, [], s => .done s
  | n + 1, it :: k, s => match it with
    | .blk _ => go cfg stopL n k s
    | .lp c m => match m with
      | 0 => .stop (.lp c 0 :: k) s
      | m + 1 => go cfg stopL n (.code c :: .lp c m :: k) s
    | .ops all l => match l with
      | [] => go cfg stopL n k s
      | o :: l => match wantS s all o with
        | .unknown => .stop (.ops all (o :: l) :: k) s
        | .no => match s.put o.dst undefS with
          | some s' => go cfg stopL n (.ops all l :: k) s'
          | none => .stop (.ops all (o :: l) :: k) s
        | .yes => match pureOp cfg s o.op with
          | some r => match (s.pv r).put o.dst r.v with
            | some s' => go cfg stopL n (.ops all l :: k) s'
            | none => .stop (.ops all (o :: l) :: k) s
          | none => match effOp cfg s o.op with
            | some e => match (s.eff e).put o.dst (e.v.getD undefS) with
              | some s' => go cfg stopL n (.ops all l :: k) s'
              | none => .stop (.ops all (o :: l) :: k) s
            | none => match callOf cfg s o.op with
              | some (_, fn, b, vs) => match go cfg false n [.code b] (s.callee fn vs s.thr) with
                | .ret s1 => match resS cfg s1 fn with
                  | some v => match (s.back s1).put o.dst v with
                    | some s' => go cfg stopL n (.ops all l :: k) s'
                    | none => .stop (.ops all (o :: l) :: k) s
                  | none => .stop (.ops all (o :: l) :: k) s
                | .done s1 => match resS cfg s1 fn with
                  | some v => match (s.back s1).put o.dst v with
                    | some s' => go cfg stopL n (.ops all l :: k) s'
                    | none => .stop (.ops all (o :: l) :: k) s
                  | none => .stop (.ops all (o :: l) :: k) s
                | _ => .stop (.ops all (o :: l) :: k) s
              | none => match matS cfg s o.op with
                | some (r, xs) => go cfg stopL n (.ops all (o :: l) :: k) (s.mat r xs)
                | none => .stop (.ops all (o :: l) :: k) s
    | .code c => match c with
      | .skip => go cfg stopL n k s
      | .seq x y => go cfg stopL n (.code x :: .code y :: k) s
      | .block id b => go cfg stopL n (.code b :: .blk id :: k) s
      | .exit id => match dropTo id k with
        | some k' => go cfg stopL n k' s
        | none => .exit id s
      | .ret => .ret s
      | .cond x p q => match evF cfg s x with
        | some (.bool true) => go cfg stopL n (.code p :: k) s
        | some (.bool false) => go cfg stopL n (.code q :: k) s
        | _ => .stop (.code (.cond x p q) :: k) s
      | .loop b => match stopL with
        | true => .stop (.code (.loop b) :: k) s
        | false => go cfg stopL n (.lp b 4096 :: k) s
      | .region id ops dr => match dr with
        | false => go cfg stopL n (.ops ops ops.toList :: k) s
        | true => match ops.size with
          | 0 => .stop (.code (.region id ops true) :: k) s
          | m + 1 => match Region.lexTailB .any ops m with
            | true => match qrun cfg (go cfg false n) ops (takeN m ops.toList) s with
              | some s' => go cfg stopL n (.ops ops (dropX m ops.toList) :: k) s'
              | none => match headRun cfg s ops (headN ops.toList) with
                | some s' => go cfg stopL n (.ops ops (dropX (headN ops.toList) ops.toList) :: k) s'
                | none => .stop (.code (.region id ops true) :: k) s
            | false => match headRun cfg s ops (headN ops.toList) with
              | some s' => go cfg stopL n (.ops ops (dropX (headN ops.toList) ops.toList) :: k) s'
              | none => .stop (.code (.region id ops true) :: k) s
      | c => .stop (.code c :: k) s

end Go.Sx
