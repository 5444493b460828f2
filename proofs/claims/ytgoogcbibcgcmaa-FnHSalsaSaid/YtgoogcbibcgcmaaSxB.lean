/- A symbolic executor over the model, part two: what a state says of a frame and of memory; operations that only read. -/
import Derived.Test.YtgoogcbibcgcmaaSxA
namespace Go.Sx
open Go

/-- A row of the types' table. -/
structure TI where
  t : TypeId
  desc : TypeDesc
  zero : Value
  size : Nat
  bytes : Nat

structure Cfg where
  tabs : List TI
  fns : List (FuncId × Func)
  w0s : List Nat
  gl : List (Nat × Nat)

def findT (t : TypeId) : List TI → Option TI
  | [] => none
  | x :: l => bif Nat.beq x.t t then some x else findT t l
def findF (f : FuncId) : List (FuncId × Func) → Option Func
  | [] => none
  | x :: l => bif Nat.beq x.1 f then some x.2 else findF f l
def findG (g : Nat) : List (Nat × Nat) → Option Nat
  | [] => none
  | x :: l => bif Nat.beq x.1 g then some x.2 else findG g l

structure TIok (P : Program) (x : TI) : Prop where
  u : P.underlying x.t = some x.desc
  i : (P.info? x.t).map (fun i => (i.zero, i.size, i.bytes)) = some (some x.zero, x.size, x.bytes)
structure FNok (P : Program) (x : FuncId × Func) : Prop where
  f : P.funcs[x.1]? = some x.2
  nm : (x.2.name == "runtime.NumGoroutine") = false
  b : x.2.body.isSome = true

structure CfgOk (P : Program) (cfg : Cfg) : Prop where
  t : ∀ x ∈ cfg.tabs, TIok P x
  f : ∀ x ∈ cfg.fns, FNok P x
  m : P.follows .mixedOrders = true

theorem beq_eq {a b : Nat} (h : Nat.beq a b = true) : a = b := Nat.eq_of_beq_eq_true h

theorem findT_mem {t : TypeId} : ∀ {l : List TI} {x : TI}, findT t l = some x → x ∈ l ∧ x.t = t
  | [], x, h => by cases h
  | y :: l, x, h => by
    unfold findT at h
    cases hb : Nat.beq y.t t with
    | true =>
      rw [hb] at h
      have : y = x := by simpa using h
      subst this
      exact ⟨by simp, beq_eq hb⟩
    | false =>
      rw [hb] at h
      obtain ⟨h1, h2⟩ := findT_mem h
      exact ⟨by simp [h1], h2⟩
theorem findF_mem {f : FuncId} : ∀ {l : List (FuncId × Func)} {x : Func}, findF f l = some x → (f, x) ∈ l
  | [], x, h => by cases h
  | y :: l, x, h => by
    unfold findF at h
    cases hb : Nat.beq y.1 f with
    | true =>
      rw [hb] at h
      have : y.2 = x := by simpa using h
      subst this
      have : y.1 = f := beq_eq hb
      subst this
      simp
    | false =>
      rw [hb] at h
      have := findF_mem h
      simp [this]
theorem findG_mem {g : Nat} : ∀ {l : List (Nat × Nat)} {x : Nat}, findG g l = some x → (g, x) ∈ l
  | [], x, h => by cases h
  | y :: l, x, h => by
    unfold findG at h
    cases hb : Nat.beq y.1 g with
    | true =>
      rw [hb] at h
      have : y.2 = x := by simpa using h
      subst this
      have : y.1 = g := beq_eq hb
      subst this
      simp
    | false =>
      rw [hb] at h
      have := findG_mem h
      simp [this]

section
variable {P : Program} {cfg : Cfg} (hc : CfgOk P cfg)
include hc
theorem CfgOk.under {t : TypeId} {x : TI} (h : findT t cfg.tabs = some x) (w : World) : (underlying t).run P w = .ok x.desc w := by
  obtain ⟨h1, h2⟩ := findT_mem h
  have := (hc.t x h1).u
  rw [h2] at this
  exact run_underlying this w
theorem CfgOk.under' {t : TypeId} {x : TI} (h : findT t cfg.tabs = some x) : P.underlying t = some x.desc := by
  obtain ⟨h1, h2⟩ := findT_mem h
  have := (hc.t x h1).u
  rwa [h2] at this
theorem CfgOk.info {t : TypeId} {x : TI} (h : findT t cfg.tabs = some x) : ∃ i, P.info? t = some i ∧ i.zero = some x.zero ∧ i.size = x.size ∧ i.bytes = x.bytes := by
  obtain ⟨h1, h2⟩ := findT_mem h
  have := (hc.t x h1).i
  rw [h2] at this
  cases hi : P.info? t with
  | none => rw [hi] at this; cases this
  | some i =>
    rw [hi] at this
    simp only [Option.map_some, Option.some.injEq, Prod.mk.injEq] at this
    exact ⟨i, rfl, this.1, this.2.1, this.2.2⟩
theorem CfgOk.sizeOf {t : TypeId} {x : TI} (h : findT t cfg.tabs = some x) (w : World) : (sizeOf t).run P w = .ok x.size w := by
  obtain ⟨i, hi, _, hs, _⟩ := hc.info h
  simp [Go.sizeOf, typeInfo, hi, hs, program, Sem.run]
theorem CfgOk.zeroOf {t : TypeId} {x : TI} (h : findT t cfg.tabs = some x) (w : World) : (zeroValue t).run P w = .ok x.zero w := by
  obtain ⟨i, hi, hz, _, _⟩ := hc.info h
  simp [zeroValue, typeInfo, hi, hz, program, Sem.run]
end

/-! What a state says. -/
def ofVal : Value → FV
  | .int k z => .int k (.n z)
  | .bool b => .bool b
  | v => .lit v
theorem den_ofVal (ρ : Env) (v : Value) : (ofVal v).den ρ = v := by cases v <;> rfl
theorem ok_ofVal (ρ : Env) (n : Nat) (v : Value) : (ofVal v).ok ρ n := by cases v <;> trivial
def ofValS : Value → SV
  | .agg cs => .agg (cs.toList.map ofVal)
  | v => .f (ofVal v)
theorem denL_ofVal (ρ : Env) (l : List Value) : denL ρ (l.map ofVal) = l := by
  simp only [denL, List.map_map]
  conv => rhs; rw [← List.map_id l]
  exact List.map_congr_left fun v _ => den_ofVal ρ v
theorem den_ofValS (ρ : Env) (v : Value) : (ofValS v).den ρ = v := by
  cases v <;> first | rfl | skip
  simp only [ofValS, SV.den, denL_ofVal]
theorem ok_ofValS (ρ : Env) (n : Nat) (v : Value) : (ofValS v).ok ρ n := by
  cases v <;> first | trivial | skip
  intro x hx
  simp only [List.mem_map] at hx
  obtain ⟨v, _, rfl⟩ := hx
  exact ok_ofVal ρ n v

structure FrOK (ρ : Env) (nx : Nat) (N : Nat) (F : Tr SV) (a : Act) : Prop where
  size : a.tmps.size = N
  defers : a.defers = []
  get : ∀ d x, F.get d = some x → x.ok ρ nx ∧ a.tmps.getD d undef = x.den ρ

structure MemOK (cfg : Cfg) (w0 : World) (ρ : Env) (s : St) (w : World) : Prop where
  os : w.os = w0.os
  tape : w.tape = w0.tape
  output : w.output = w0.output
  size : w0.heap.size ≤ w.heap.size
  keep : ∀ i, i < w0.heap.size → (∀ j ∈ cfg.w0s, ρ.b j ≠ i) → w.heap[i]? = w0.heap[i]?
  cell : ∀ j W, s.M.get j = some W → j < s.nx ∧ okL ρ s.nx W.cells ∧ ∀ i x, W.cells[i]? = some x → w.cell? ⟨ρ.b j, ρ.o j + i, none⟩ = some (x.den ρ)
  lt : ∀ j W, s.M.get j = some W → ρ.b j < w.heap.size
  free : ∀ j W, s.M.get j = some W → W.wr ≠ 0 → ∀ i, i < W.cells.length → w.frozen? ⟨ρ.b j, ρ.o j + i, none⟩ = false
  kind : ∀ j W, s.M.get j = some W → W.wr ≠ 0 → j ∈ cfg.w0s ∨ w0.heap.size ≤ ρ.b j
  sep : ∀ j W j' W', s.M.get j = some W → s.M.get j' = some W' → W.wr ≠ 0 → j ≠ j' → ρ.b j ≠ ρ.b j'
  row : ∀ r e xs, s.R.get r = some (e, xs) → r < s.nx ∧ okL ρ s.nx xs ∧ w.ownsRow w0.heap.size e 1 (ρ.r r) xs.length (denL ρ xs)
  sepR : ∀ r e xs g j W, s.R.get r = some (e, xs) → (ρ.r r).ownBlock = some g → s.M.get j = some W → ρ.b j ≠ g
  sepRR : ∀ r e xs r' e' xs' g, s.R.get r = some (e, xs) → s.R.get r' = some (e', xs') → r ≠ r' → (ρ.r r).ownBlock = some g → (ρ.r r').ownBlock ≠ some g
  als : ∀ r j n, s.A.get r = some (j, n) → r < s.nx ∧ j < s.nx ∧ ρ.r r = (FV.sl j 0 (.n n) (.v j 0)).den ρ ∧ n ≤ ρ.c j
  gl : ∀ g j, (g, j) ∈ cfg.gl → j < s.nx ∧ ρ.b j = g ∧ ρ.o j = 0
  w0 : ∀ j ∈ cfg.w0s, j < s.nx

def Obs (ρ : Env) (l : List Ob) : Prop := ∀ ob ∈ l, ob.den ρ.i

/-! Operands. -/
noncomputable def evO (cfg : Cfg) (F : Tr SV) : Operand → Option SV
  | .tmp t => F.get t
  | .const v => some (ofValS v)
  | .global g => match findG g cfg.gl with
    | some j => some (.f (.ptr j 0))
    | none => none
  | .func f => some (.f (.lit (.func (.func f) #[] #[])))

theorem evO_sound {cfg : Cfg} {w0 w : World} {ρ : Env} {s : St} {a : Act} (hF : FrOK ρ s.nx s.N s.F a) (hM : MemOK cfg w0 ρ s w) {x : Operand} {v : SV}
    (h : evO cfg s.F x = some v) : a.eval x = v.den ρ ∧ v.ok ρ s.nx := by
  cases x with
  | tmp t =>
    obtain ⟨h1, h2⟩ := hF.get t v h
    exact ⟨h2, h1⟩
  | const c =>
    have h := Option.some.inj h
    subst h
    exact ⟨(den_ofValS ρ c).symm, ok_ofValS ρ _ c⟩
  | global g =>
    have h' : (match findG g cfg.gl with | some j => some (SV.f (.ptr j 0)) | none => none) = some v := h
    split at h'
    · rename_i j hj
      have h' := Option.some.inj h'
      subst h'
      obtain ⟨h1, h2, h3⟩ := hM.gl g j (findG_mem hj)
      refine ⟨?_, h1⟩
      simp only [Act.eval, SV.den, FV.den, h2, h3, Nat.add_zero]
    · cases h'
  | func f =>
    have h := Option.some.inj h
    subst h
    exact ⟨rfl, trivial⟩

/-! Operations that only read: a value, the decisions left, and what is owed. -/
structure Pv where
  v : SV
  orc : List Bool
  obs : List Ob

def isCmp : BinOp → Bool
  | .eql | .neq | .lss | .leq | .gtr | .geq => true
  | _ => false
def isAri : BinOp → Bool
  | .add | .sub | .mul => true
  | _ => false
def isBit : BinOp → Bool
  | .and | .or | .xor | .andNot => true
  | _ => false
def isSh : BinOp → Bool
  | .shl | .shr => true
  | _ => false

def E.lit? : E → Option Int
  | .n z => some z
  | _ => none
theorem E.lit?_eq {x : E} {z : Int} (h : x.lit? = some z) : x = .n z := by cases x <;> first | (simp [E.lit?] at h; rw [h]) | cases h

def ariX (o : BinOp) (x y : E) : E :=
  match o with
  | .add => x.padd y
  | .sub => x.psub y
  | _ => x.pmul y

/-- Two integers, of kinds j and k. -/
def binS (orc : List Bool) (o : BinOp) (j : IntKind) (x : E) (k : IntKind) (y : E) : Option Pv :=
  match isSh o with
  | true => match y with
    | .n z => match decide (0 ≤ z) with
      | true => match o with
        | .shl => some ⟨.f (.int j (x.pshl j (min z.toNat j.bits))), orc, []⟩
        | _ => some ⟨.f (.int j (x.pshr (min z.toNat j.bits))), orc, []⟩
      | false => none
    | _ => none
  | false => match kEq j k with
    | false => none
    | true => match isCmp o with
      | true => match x.lit?, y.lit? with
        | some a, some b => some ⟨.f (.bool (cmpI o a b)), orc, []⟩
        | _, _ => match orc with
          | b :: r => some ⟨.f (.bool b), r, [.c o x y b]⟩
          | [] => some ⟨.f (.cmp o x y), [], []⟩
      | false => match isAri o with
        | true => match kEq j .i64 with
          | true => match x.lit?, y.lit? with
            | some a, some b => some ⟨.f (.int j (.n (binI o j a b))), orc, []⟩
            | _, _ => some ⟨.f (.int j (ariX o x y)), orc, [.rng (ariX o x y)]⟩
          | false => some ⟨.f (.int j (E.pbin o j x y)), orc, []⟩
        | false => match isBit o with
          | true => some ⟨.f (.int j (E.pbin o j x y)), orc, []⟩
          | false => match y with
            | .n z => match decide (z = 0) with
              | true => none
              | false => some ⟨.f (.int j (E.pbin o j x y)), orc, []⟩
            | _ => none

theorem eqGuard_int (P : Program) (w : World) (op : BinOp) (t : TypeId) (x y : Operand) (j k : IntKind) (a b : Int) : (eqGuard op t x y (.int j a) (.int k b)).run P w = .ok () w := by
  unfold eqGuard
  cases op <;> rfl

theorem wrap_i64_in {n : Int} (h : -9223372036854775808 ≤ n ∧ n ≤ 9223372036854775807) : IntKind.i64.wrap n = n := IntWalk.i64_in n h

theorem ariX_den (ρ : Nat → Int) (o : BinOp) (ho : isAri o = true) (x y : E) (h : Ob.den ρ (.rng (ariX o x y))) : (ariX o x y).den ρ = binI o .i64 (x.den ρ) (y.den ρ) := by
  cases o <;> simp [isAri] at ho
  · simp only [Ob.den, ariX, E.den_padd] at h
    simp only [ariX, E.den_padd, binI, wrap_i64_in h]
  · simp only [Ob.den, ariX, E.den_psub] at h
    simp only [ariX, E.den_psub, binI, wrap_i64_in h]
  · simp only [Ob.den, ariX, E.den_pmul] at h
    simp only [ariX, E.den_pmul, binI, wrap_i64_in h]

def shI (o : BinOp) (j : IntKind) (a b : Int) : Int :=
  match o with
  | .shl => j.wrap (a * 2 ^ min b.toNat j.bits)
  | _ => a.fdiv (2 ^ min b.toNat j.bits)
theorem binOp_sh (P : Program) (w : World) (o : BinOp) (t : TypeId) (j k : IntKind) (a b : Int) (ho : isSh o = true) (hb : 0 ≤ b) :
    (binOp o t (.int j a) (.int k b)).run P w = .ok (.int j (shI o j a b)) w := by
  have hb' : ¬ b < 0 := by omega
  cases o <;> simp [isSh] at ho <;> simp [binOp, Op.shift, hb', shI]

theorem binOp_ari (P : Program) (w : World) (o : BinOp) (t : TypeId) (j : IntKind) (a b : Int) (ho : isAri o = true ∨ isBit o = true) :
    (binOp o t (.int j a) (.int j b)).run P w = .ok (.int j (binI o j a b)) w := by
  rcases ho with ho | ho <;> cases o <;> simp [isAri, isBit] at ho <;> simp [binOp, Op.intArith, Op.intBits, binI]
theorem binOp_div (P : Program) (w : World) (o : BinOp) (t : TypeId) (j : IntKind) (a b : Int) (h1 : isSh o = false) (h2 : isCmp o = false) (h3 : isAri o = false) (h4 : isBit o = false) (hb : b ≠ 0) :
    (binOp o t (.int j a) (.int j b)).run P w = .ok (.int j (binI o j a b)) w := by
  cases o <;> simp [isSh, isCmp, isAri, isBit] at h1 h2 h3 h4 <;> simp [binOp, Op.intDiv, binI, hb]
theorem binOp_cmp (P : Program) (w : World) (o : BinOp) (t : TypeId) (j : IntKind) (a b : Int) (ho : isCmp o = true) :
    (binOp o t (.int j a) (.int j b)).run P w = .ok (.bool (cmpI o a b)) w := by
  cases o <;> simp [isCmp] at ho <;> simp [binOp, Op.intCmp, cmpI]

theorem binS_sound (P : Program) (w : World) (ρ : Env) (n : Nat) (t : TypeId) {orc : List Bool} {o : BinOp} {j k : IntKind} {x y : E} {r : Pv} (h : binS orc o j x k y = some r) (hob : Obs ρ r.obs) :
    (binOp o t (.int j (x.den ρ.i)) (.int k (y.den ρ.i))).run P w = .ok (r.v.den ρ) w ∧ r.v.ok ρ n := by
  unfold binS at h
  split at h
  · rename_i hsh
    split at h
    · rename_i z
      split at h
      · rename_i hz
        have hz' : 0 ≤ z := by simpa using hz
        have hr := binOp_sh P w o t j k (x.den ρ.i) z hsh hz'
        simp only [E.den] at hr ⊢
        split at h
        · have h := Option.some.inj h
          subst h
          rw [hr]
          exact ⟨by simp [SV.den, FV.den, E.den_pshl, shI], trivial⟩
        · rename_i hno
          have h := Option.some.inj h
          subst h
          rw [hr]
          refine ⟨?_, trivial⟩
          cases o <;> simp [isSh] at hsh
          · exact absurd rfl hno
          · simp [SV.den, FV.den, E.den_pshr, shI]
      · cases h
    · cases h
  · rename_i hsh
    split at h
    · cases h
    · rename_i hk
      have := kEq_eq hk
      subst this
      split at h
      · rename_i hcmp
        have hr := binOp_cmp P w o t j (x.den ρ.i) (y.den ρ.i) hcmp
        rw [hr]
        split at h
        · rename_i a b ha hb
          have h := Option.some.inj h
          subst h
          rw [E.lit?_eq ha, E.lit?_eq hb]
          exact ⟨rfl, trivial⟩
        · split at h
          · rename_i b rr
            have h := Option.some.inj h
            subst h
            have h1 := hob _ (List.mem_singleton.2 rfl)
            simp only [Ob.den] at h1
            rw [h1]
            exact ⟨rfl, trivial⟩
          · have h := Option.some.inj h
            subst h
            exact ⟨rfl, trivial⟩
      · rename_i hcmp
        split at h
        · rename_i hari
          have hr := binOp_ari P w o t j (x.den ρ.i) (y.den ρ.i) (.inl hari)
          rw [hr]
          split at h
          · rename_i h64
            have := kEq_eq h64
            subst this
            split at h
            · rename_i a b ha hb
              have h := Option.some.inj h
              subst h
              rw [E.lit?_eq ha, E.lit?_eq hb]
              exact ⟨rfl, trivial⟩
            · have h := Option.some.inj h
              subst h
              have h1 := ariX_den ρ.i o hari x y (hob _ (List.mem_singleton.2 rfl))
              exact ⟨by simp only [SV.den, FV.den, h1], trivial⟩
          · have h := Option.some.inj h
            subst h
            exact ⟨by simp only [SV.den, FV.den, E.den_pbin], trivial⟩
        · rename_i hari
          split at h
          · rename_i hbit
            have hr := binOp_ari P w o t j (x.den ρ.i) (y.den ρ.i) (.inr hbit)
            rw [hr]
            have h := Option.some.inj h
            subst h
            exact ⟨by simp only [SV.den, FV.den, E.den_pbin], trivial⟩
          · rename_i hbit
            split at h
            · rename_i z
              split at h
              · cases h
              · rename_i hz
                have hz' : z ≠ 0 := by simpa using hz
                have hr := binOp_div P w o t j (x.den ρ.i) z hsh hcmp hari hbit hz'
                simp only [E.den] at hr ⊢
                rw [hr]
                have h := Option.some.inj h
                subst h
                exact ⟨by simp only [SV.den, FV.den, E.den_pbin, E.den], trivial⟩
            · cases h

end Go.Sx
