/- A symbolic executor over the model, part one: symbolic integers and values, what they denote, the executor's state. -/
import Derived.WalkKit
import Derived.Deep.Quiet
import Derived.KernelRfl
namespace Go.Sx
open Go

/-! Symbolic integers. -/
inductive E where
  | v (i : Nat)
  | n (z : Int)
  | add (x y : E)
  | sub (x y : E)
  | mul (x y : E)
  | bin (o : BinOp) (k : IntKind) (x y : E)
  | shl (k : IntKind) (x : E) (s : Nat)
  | shr (x : E) (s : Nat)
  | cv (k : IntKind) (x : E)

/-- An operation on two integers of one kind, as the model has it. -/
def binI (o : BinOp) (k : IntKind) (x y : Int) : Int :=
  match o with
  | .add => k.wrap (x + y)
  | .sub => k.wrap (x - y)
  | .mul => k.wrap (x * y)
  | .quo => k.wrap (x.tdiv y)
  | .rem => x.tmod y
  | .and => k.wrap (BitVec.ofInt k.bits x &&& BitVec.ofInt k.bits y).toNat
  | .or => k.wrap (BitVec.ofInt k.bits x ||| BitVec.ofInt k.bits y).toNat
  | .xor => k.wrap (BitVec.ofInt k.bits x ^^^ BitVec.ofInt k.bits y).toNat
  | .andNot => k.wrap (BitVec.ofInt k.bits x &&& ~~~(BitVec.ofInt k.bits y)).toNat
  | _ => 0

/-- A comparison of two integers. -/
def cmpI (o : BinOp) (x y : Int) : Bool :=
  match o with
  | .eql => x == y
  | .neq => x != y
  | .lss => decide (x < y)
  | .leq => decide (x ≤ y)
  | .gtr => decide (x > y)
  | .geq => decide (x ≥ y)
  | _ => false

def E.den (ρ : Nat → Int) : E → Int
  | .v i => ρ i
  | .n z => z
  | .add x y => x.den ρ + y.den ρ
  | .sub x y => x.den ρ - y.den ρ
  | .mul x y => x.den ρ * y.den ρ
  | .bin o k x y => binI o k (x.den ρ) (y.den ρ)
  | .shl k x s => k.wrap (x.den ρ * 2 ^ s)
  | .shr x s => (x.den ρ).fdiv (2 ^ s)
  | .cv k x => k.wrap (x.den ρ)

/-! Smart constructors. -/
def kEq (j k : IntKind) : Bool :=
  match j, k with
  | .i8, .i8 | .i16, .i16 | .i32, .i32 | .i64, .i64 | .u8, .u8 | .u16, .u16 | .u32, .u32 | .u64, .u64 => true
  | _, _ => false
theorem kEq_eq {j k : IntKind} (h : kEq j k = true) : j = k := by cases j <;> cases k <;> first | rfl | cases h
theorem wrap_mod (k : IntKind) (n : Int) : k.wrap n % (2 ^ k.bits : Int) = n % (2 ^ k.bits : Int) := by
  unfold IntKind.wrap
  simp only
  split
  · rw [Int.sub_emod, Int.emod_self, Int.sub_zero, Int.emod_emod_of_dvd _ (Int.dvd_refl _), Int.emod_emod_of_dvd _ (Int.dvd_refl _)]
  · rw [Int.emod_emod_of_dvd _ (Int.dvd_refl _)]
theorem wrap_of_mod {k : IntKind} {m n : Int} (h : m % (2 ^ k.bits : Int) = n % (2 ^ k.bits : Int)) : k.wrap m = k.wrap n := by
  unfold IntKind.wrap
  rw [h]
theorem wrap_wrap (k : IntKind) (n : Int) : k.wrap (k.wrap n) = k.wrap n := wrap_of_mod (wrap_mod k n)
theorem wrap_emod (k : IntKind) (n : Int) : k.wrap (n % (2 ^ k.bits : Int)) = k.wrap n := by
  unfold IntKind.wrap
  rw [Int.emod_emod_of_dvd _ (Int.dvd_refl _)]
theorem or_zero_wrap (k : IntKind) (n : Int) : binI .or k 0 (k.wrap n) = k.wrap n := by
  have h : ((BitVec.ofInt k.bits 0 ||| BitVec.ofInt k.bits (k.wrap n)).toNat : Int) = (k.wrap n) % (2 ^ k.bits : Int) := by
    have h0 : BitVec.ofInt k.bits 0 = 0#k.bits := by simp
    rw [h0, BitVec.zero_or, BitVec.toNat_ofInt]
    have : (0 : Int) ≤ k.wrap n % ((2 ^ k.bits : Nat) : Int) := Int.emod_nonneg _ (by have := Nat.two_pow_pos k.bits; omega)
    rw [Int.toNat_of_nonneg this]
    norm_cast
  show k.wrap _ = _
  rw [h, wrap_emod, wrap_wrap]
def E.padd (x y : E) : E :=
  match x, y with
  | .n a, .n b => .n (a + b)
  | .add x' (.n a), .n b => .add x' (.n (a + b))
  | x, .n b => bif decide (b = 0) then x else .add x (.n b)
  | x, y => .add x y
def E.psub (x y : E) : E :=
  match x, y with
  | .n a, .n b => .n (a - b)
  | x, .n b => bif decide (b = 0) then x else .add x (.n (-b))
  | x, y => .sub x y
def E.pmul (x y : E) : E :=
  match x, y with
  | .n a, .n b => .n (a * b)
  | x, y => .mul x y
def E.pbin (o : BinOp) (k : IntKind) (x y : E) : E :=
  match x, y with
  | .n a, .n b => .n (binI o k a b)
  | .n a, .cv k' y => (match o with
    | .or => (match decide (a = 0), kEq k k' with
      | true, true => .cv k' y
      | _, _ => .bin o k x (.cv k' y))
    | o => .bin o k x (.cv k' y))
  | x, y => .bin o k x y
def E.pshl (k : IntKind) (x : E) (s : Nat) : E :=
  match x with
  | .n a => .n (k.wrap (a * 2 ^ s))
  | .cv k' y => (match kEq k k', Nat.beq s 0 with
    | true, true => .cv k' y
    | _, _ => .shl k (.cv k' y) s)
  | x => .shl k x s
def E.pshr (x : E) (s : Nat) : E :=
  match x with
  | .n a => .n (a.fdiv (2 ^ s))
  | x => (match Nat.beq s 0 with
    | true => x
    | false => .shr x s)
def E.pcv (k : IntKind) (x : E) : E :=
  match x with
  | .n a => .n (k.wrap a)
  | x => .cv k x

section
variable (ρ : Nat → Int)
theorem E.den_padd (x y : E) : (E.padd x y).den ρ = x.den ρ + y.den ρ := by
  unfold E.padd
  split
  · simp [E.den]
  · simp [E.den]; omega
  · rename_i b _ _
    by_cases h : b = 0 <;> simp [h, E.den]
  · simp [E.den]
theorem E.den_psub (x y : E) : (E.psub x y).den ρ = x.den ρ - y.den ρ := by
  unfold E.psub
  split
  · simp [E.den]
  · rename_i b _
    by_cases h : b = 0
    · simp [h, E.den]
    · simp [h, E.den]; omega
  · simp [E.den]
theorem E.den_pmul (x y : E) : (E.pmul x y).den ρ = x.den ρ * y.den ρ := by
  unfold E.pmul
  split <;> simp [E.den]
theorem E.den_pbin (o : BinOp) (k : IntKind) (x y : E) : (E.pbin o k x y).den ρ = binI o k (x.den ρ) (y.den ρ) := by
  unfold E.pbin
  split
  · simp [E.den]
  · split
    · split
      · rename_i h1 h2
        have h1 := of_decide_eq_true h1
        rw [← kEq_eq h2, h1]
        simp only [E.den, or_zero_wrap]
      · simp [E.den]
    · simp [E.den]
  · simp [E.den]
theorem E.den_pshl (k : IntKind) (x : E) (s : Nat) : (E.pshl k x s).den ρ = k.wrap (x.den ρ * 2 ^ s) := by
  unfold E.pshl
  split
  · simp [E.den]
  · split
    · rename_i h1 h2
      rw [← kEq_eq h1, Nat.eq_of_beq_eq_true h2]
      simp only [E.den, Int.pow_zero, Int.mul_one, wrap_wrap]
    · simp [E.den]
  · simp [E.den]
theorem E.den_pshr (x : E) (s : Nat) : (E.pshr x s).den ρ = (x.den ρ).fdiv (2 ^ s) := by
  unfold E.pshr
  split
  · simp [E.den]
  · split
    · rename_i h2
      rw [Nat.eq_of_beq_eq_true h2]
      simp
    · simp [E.den]
theorem E.den_pcv (k : IntKind) (x : E) : (E.pcv k x).den ρ = k.wrap (x.den ρ) := by
  unfold E.pcv
  split <;> simp [E.den]
end

/-! The environment: what the names stand for. -/
structure Env where
  i : Nat → Int
  b : Nat → Nat
  o : Nat → Nat
  c : Nat → Nat
  r : Nat → Value

/-- The same below 'n'. -/
structure Env.le (n : Nat) (ρ ρ' : Env) : Prop where
  i : ρ'.i = ρ.i
  b : ∀ j, j < n → ρ'.b j = ρ.b j
  o : ∀ j, j < n → ρ'.o j = ρ.o j
  c : ∀ j, j < n → ρ'.c j = ρ.c j
  r : ∀ j, j < n → ρ'.r j = ρ.r j

theorem Env.le.refl (n : Nat) (ρ : Env) : Env.le n ρ ρ := ⟨rfl, fun _ _ => rfl, fun _ _ => rfl, fun _ _ => rfl, fun _ _ => rfl⟩
theorem Env.le.trans {n m : Nat} {ρ ρ' ρ'' : Env} (h : Env.le n ρ ρ') (h' : Env.le m ρ' ρ'') (hn : n ≤ m) : Env.le n ρ ρ'' :=
  ⟨h'.i.trans h.i, fun j hj => (h'.b j (by omega)).trans (h.b j hj), fun j hj => (h'.o j (by omega)).trans (h.o j hj), fun j hj => (h'.c j (by omega)).trans (h.c j hj), fun j hj => (h'.r j (by omega)).trans (h.r j hj)⟩
theorem Env.le.mono {n m : Nat} {ρ ρ' : Env} (h : Env.le m ρ ρ') (hn : n ≤ m) : Env.le n ρ ρ' :=
  ⟨h.i, fun j hj => h.b j (by omega), fun j hj => h.o j (by omega), fun j hj => h.c j (by omega), fun j hj => h.r j (by omega)⟩

/-- A capacity. -/
inductive Cp where
  | l (n : Nat)
  | v (j d : Nat)
def Cp.den (ρ : Env) : Cp → Nat
  | .l n => n
  | .v j d => ρ.c j - d
def Cp.less (n : Nat) : Cp → Cp
  | .l m => .l (m - n)
  | .v j d => .v j (d + n)
theorem Cp.den_less (ρ : Env) (n : Nat) (c : Cp) : (c.less n).den ρ = c.den ρ - n := by
  cases c <;> simp [Cp.less, Cp.den]; omega
def Cp.ok (n : Nat) : Cp → Prop
  | .l _ => True
  | .v j _ => j < n

/-- A value of one cell. -/
inductive FV where
  | int (k : IntKind) (e : E)
  | bool (b : Bool)
  | cmp (o : BinOp) (x y : E)
  | ptr (j o : Nat)
  | sl (j o : Nat) (len : E) (cap : Cp)
  | row (r : Nat)
  | ifc (t j o : Nat)
  | lit (v : Value)

def FV.den (ρ : Env) : FV → Value
  | .int k e => .int k (e.den ρ.i)
  | .bool b => .bool b
  | .cmp o x y => .bool (cmpI o (x.den ρ.i) (y.den ρ.i))
  | .ptr j o => .pointer (some ⟨ρ.b j, ρ.o j + o, none⟩)
  | .sl j o len cap => .slice (some ⟨ρ.b j, ρ.o j + o, none⟩) (len.den ρ.i).toNat (cap.den ρ)
  | .row r => ρ.r r
  | .ifc t j o => .iface t (.pointer (some ⟨ρ.b j, ρ.o j + o, none⟩))
  | .lit v => v

/-- The names are old ones; a slice's length is a length. -/
def FV.ok (ρ : Env) (n : Nat) : FV → Prop
  | .ptr j _ => j < n
  | .sl j _ len cap => j < n ∧ cap.ok n ∧ 0 ≤ len.den ρ.i ∧ len.den ρ.i ≤ cap.den ρ
  | .row r => r < n
  | .ifc _ j _ => j < n
  | _ => True

theorem Cp.den_le {n : Nat} {ρ ρ' : Env} (h : Env.le n ρ ρ') {c : Cp} (hc : c.ok n) : c.den ρ' = c.den ρ := by
  cases c with
  | l m => rfl
  | v j d => simp only [Cp.den, h.c j hc]
theorem Cp.ok_mono {n m : Nat} (hnm : n ≤ m) {c : Cp} (hc : c.ok n) : c.ok m := by
  cases c with
  | l _ => trivial
  | v j d => exact Nat.lt_of_lt_of_le hc hnm

theorem FV.den_le {n : Nat} {ρ ρ' : Env} (h : Env.le n ρ ρ') {x : FV} (hx : x.ok ρ n) : x.den ρ' = x.den ρ := by
  cases x with
  | int k e => simp [FV.den, h.i]
  | bool b => rfl
  | cmp o x y => simp [FV.den, h.i]
  | ptr j o => simp only [FV.den, h.b j hx, h.o j hx]
  | sl j o len cap => simp only [FV.den, h.b j hx.1, h.o j hx.1, h.i, Cp.den_le h hx.2.1]
  | row r => exact h.r r hx
  | ifc t j o => simp only [FV.den, h.b j hx, h.o j hx]
  | lit v => rfl
theorem FV.ok_le {n m : Nat} {ρ ρ' : Env} (h : Env.le n ρ ρ') (hnm : n ≤ m) {x : FV} (hx : x.ok ρ n) : x.ok ρ' m := by
  cases x with
  | int k e => trivial
  | bool b => trivial
  | cmp o x y => trivial
  | ptr j o => exact Nat.lt_of_lt_of_le hx hnm
  | sl j o len cap => exact ⟨Nat.lt_of_lt_of_le hx.1 hnm, Cp.ok_mono hnm hx.2.1, by rw [h.i]; exact hx.2.2.1, by rw [h.i, Cp.den_le h hx.2.1]; exact hx.2.2.2⟩
  | row r => exact Nat.lt_of_lt_of_le hx hnm
  | ifc t j o => exact Nat.lt_of_lt_of_le hx hnm
  | lit v => trivial

/-- A value: of one cell, an array's or a struct's cells, or several results (each told whether it is an array or a struct). -/
inductive SV where
  | f (x : FV)
  | agg (l : List FV)
  | tup (l : List (Bool × List FV))

def denL (ρ : Env) (l : List FV) : List Value := l.map (FV.den ρ)
def okL (ρ : Env) (n : Nat) (l : List FV) : Prop := ∀ x ∈ l, x.ok ρ n

def partDen (ρ : Env) (p : Bool × List FV) : Value :=
  match p with
  | (true, l) => .agg (denL ρ l).toArray
  | (false, x :: _) => x.den ρ
  | (false, []) => undef

def SV.den (ρ : Env) : SV → Value
  | .f x => x.den ρ
  | .agg l => .agg (denL ρ l).toArray
  | .tup l => .tuple (l.map (partDen ρ)).toArray
def SV.ok (ρ : Env) (n : Nat) : SV → Prop
  | .f x => x.ok ρ n
  | .agg l => okL ρ n l
  | .tup l => ∀ p ∈ l, okL ρ n p.2

theorem denL_le {n : Nat} {ρ ρ' : Env} (h : Env.le n ρ ρ') {l : List FV} (hl : okL ρ n l) : denL ρ' l = denL ρ l :=
  List.map_congr_left fun x hx => FV.den_le h (hl x hx)
theorem okL_le {n m : Nat} {ρ ρ' : Env} (h : Env.le n ρ ρ') (hnm : n ≤ m) {l : List FV} (hl : okL ρ n l) : okL ρ' m l := fun x hx => FV.ok_le h hnm (hl x hx)
theorem partDen_le {n : Nat} {ρ ρ' : Env} (h : Env.le n ρ ρ') {p : Bool × List FV} (hl : okL ρ n p.2) : partDen ρ' p = partDen ρ p := by
  obtain ⟨b, l⟩ := p
  cases b with
  | true => simp only [partDen]; rw [denL_le h hl]
  | false =>
    cases l with
    | nil => rfl
    | cons x l => exact FV.den_le h (hl x (by simp))
theorem SV.den_le {n : Nat} {ρ ρ' : Env} (h : Env.le n ρ ρ') {x : SV} (hx : x.ok ρ n) : x.den ρ' = x.den ρ := by
  cases x with
  | f x => exact FV.den_le h hx
  | agg l => simp only [SV.den]; rw [denL_le h hx]
  | tup l =>
    simp only [SV.den]
    rw [List.map_congr_left fun p hp => partDen_le h (hx p hp)]
theorem SV.ok_le {n m : Nat} {ρ ρ' : Env} (h : Env.le n ρ ρ') (hnm : n ≤ m) {x : SV} (hx : x.ok ρ n) : x.ok ρ' m := by
  cases x with
  | f x => exact FV.ok_le h hnm hx
  | agg l => exact okL_le h hnm hx
  | tup l => exact fun p hp => okL_le h hnm (hx p hp)

/-! A table by number: a tree on the binary digits. -/
inductive Tr (α : Type) where
  | e
  | n (v : Option α) (l r : Tr α)

section
variable {α : Type}
noncomputable def Tr.get (t : Tr α) : Nat → Option α :=
  Tr.rec (motive := fun _ => Nat → Option α) (fun _ => none)
    (fun v _ _ gl gr i => Bool.rec (Bool.rec (gr (Nat.div i 2)) (gl (Nat.div i 2)) (Nat.beq (Nat.mod i 2) 0)) v (Nat.beq i 0)) t
def Tr.root : Tr α → Option α
  | .e => none
  | .n v _ _ => v
def Tr.left : Tr α → Tr α
  | .e => .e
  | .n _ l _ => l
def Tr.right : Tr α → Tr α
  | .e => .e
  | .n _ _ r => r
noncomputable def Tr.putD (d : Nat) : Nat → Option α → Tr α → Tr α :=
  Nat.rec (motive := fun _ => Nat → Option α → Tr α → Tr α) (fun _ _ t => t)
    (fun _ ih i x t => Bool.rec
      (Bool.rec (Tr.n t.root t.left (ih (Nat.div i 2) x t.right)) (Tr.n t.root (ih (Nat.div i 2) x t.left) t.right) (Nat.beq (Nat.mod i 2) 0))
      (Tr.n x t.left t.right) (Nat.beq i 0)) d
/-- The greatest number is below 2^13. -/
noncomputable def Tr.put (t : Tr α) (i : Nat) (x : α) : Tr α := Tr.putD 14 i (some x) t
noncomputable def Tr.del (t : Tr α) (i : Nat) : Tr α := Tr.putD 14 i none t

theorem Tr.get_e (i : Nat) : (Tr.e : Tr α).get i = none := rfl
theorem Tr.get_n (v : Option α) (l r : Tr α) (i : Nat) :
    (Tr.n v l r).get i = if i = 0 then v else if i % 2 = 0 then l.get (i / 2) else r.get (i / 2) := by
  show (Bool.rec (Bool.rec (r.get (Nat.div i 2)) (l.get (Nat.div i 2)) (Nat.beq (Nat.mod i 2) 0)) v (Nat.beq i 0) : Option α) = _
  by_cases h : i = 0
  · subst h; rfl
  · have h1 : Nat.beq i 0 = false := by cases hb : Nat.beq i 0 with | true => exact absurd (Nat.eq_of_beq_eq_true hb) h | false => rfl
    rw [h1, if_neg h]
    by_cases h2 : i % 2 = 0
    · rw [if_pos h2]
      have h3 : Nat.beq (Nat.mod i 2) 0 = true := by show Nat.beq (i % 2) 0 = true; rw [h2]; rfl
      rw [h3]; rfl
    · rw [if_neg h2]
      have h3 : Nat.beq (Nat.mod i 2) 0 = false := by cases hb : Nat.beq (Nat.mod i 2) 0 with | true => exact absurd (Nat.eq_of_beq_eq_true hb) h2 | false => rfl
      rw [h3]; rfl
theorem Tr.putD_zero (i : Nat) (x : Option α) (t : Tr α) : Tr.putD 0 i x t = t := rfl
theorem Tr.putD_succ (d i : Nat) (x : Option α) (t : Tr α) :
    Tr.putD (d + 1) i x t = if i = 0 then Tr.n x t.left t.right else if i % 2 = 0 then Tr.n t.root (Tr.putD d (i / 2) x t.left) t.right else Tr.n t.root t.left (Tr.putD d (i / 2) x t.right) := by
  show (Bool.rec (Bool.rec (Tr.n t.root t.left (Tr.putD d (Nat.div i 2) x t.right)) (Tr.n t.root (Tr.putD d (Nat.div i 2) x t.left) t.right) (Nat.beq (Nat.mod i 2) 0)) (Tr.n x t.left t.right) (Nat.beq i 0) : Tr α) = _
  by_cases h : i = 0
  · subst h; rfl
  · have h1 : Nat.beq i 0 = false := by cases hb : Nat.beq i 0 with | true => exact absurd (Nat.eq_of_beq_eq_true hb) h | false => rfl
    rw [h1, if_neg h]
    by_cases h2 : i % 2 = 0
    · rw [if_pos h2]
      have h3 : Nat.beq (Nat.mod i 2) 0 = true := by show Nat.beq (i % 2) 0 = true; rw [h2]; rfl
      rw [h3]; rfl
    · rw [if_neg h2]
      have h3 : Nat.beq (Nat.mod i 2) 0 = false := by cases hb : Nat.beq (Nat.mod i 2) 0 with | true => exact absurd (Nat.eq_of_beq_eq_true hb) h2 | false => rfl
      rw [h3]; rfl
theorem Tr.get_parts (t : Tr α) (i : Nat) : t.get i = if i = 0 then t.root else if i % 2 = 0 then t.left.get (i / 2) else t.right.get (i / 2) := by
  cases t with
  | e => simp [Tr.get_e, Tr.root, Tr.left, Tr.right]
  | n v l r => rw [Tr.get_n]; rfl
theorem Tr.get_putD_same : ∀ (d i : Nat) (x : Option α) (t : Tr α), i < 2 ^ d → (Tr.putD (d + 1) i x t).get i = x
  | 0, i, x, t, h => by
    have h0 : i = 0 := by simpa using h
    subst h0; rw [Tr.putD_succ]; simp [Tr.get_n]
  | d + 1, i, x, t, h => by
    rw [Tr.putD_succ]
    by_cases h0 : i = 0
    · subst h0; simp [Tr.get_n]
    · rw [if_neg h0]
      have hd : i / 2 < 2 ^ d := by rw [Nat.pow_succ] at h; omega
      by_cases h2 : i % 2 = 0
      · rw [if_pos h2, Tr.get_n, if_neg h0, if_pos h2]
        exact Tr.get_putD_same d _ _ _ hd
      · rw [if_neg h2, Tr.get_n, if_neg h0, if_neg h2]
        exact Tr.get_putD_same d _ _ _ hd
theorem Tr.get_putD_other : ∀ (d i j : Nat) (x : Option α) (t : Tr α), i ≠ j → (Tr.putD d i x t).get j = t.get j
  | 0, i, j, x, t, _ => rfl
  | d + 1, i, j, x, t, hne => by
    rw [Tr.putD_succ, Tr.get_parts t j]
    by_cases h0 : i = 0
    · rw [if_pos h0, Tr.get_n, if_neg (by omega : ¬ j = 0), if_neg (by omega : ¬ j = 0)]
    · rw [if_neg h0]
      by_cases h2 : i % 2 = 0
      · rw [if_pos h2, Tr.get_n]
        by_cases hj : j = 0
        · rw [if_pos hj, if_pos hj]
        · rw [if_neg hj, if_neg hj]
          by_cases hj2 : j % 2 = 0
          · rw [if_pos hj2, if_pos hj2]
            exact Tr.get_putD_other d _ _ _ _ (by omega)
          · rw [if_neg hj2, if_neg hj2]
      · rw [if_neg h2, Tr.get_n]
        by_cases hj : j = 0
        · rw [if_pos hj, if_pos hj]
        · rw [if_neg hj, if_neg hj]
          by_cases hj2 : j % 2 = 0
          · rw [if_pos hj2, if_pos hj2]
          · rw [if_neg hj2, if_neg hj2]
            exact Tr.get_putD_other d _ _ _ _ (by omega)
theorem Tr.get_put_same {t : Tr α} {i : Nat} {x : α} (h : i < 8192) : (t.put i x).get i = some x := Tr.get_putD_same 13 i _ t (by omega)
theorem Tr.get_put_other {t : Tr α} {i j : Nat} {x : α} (h : i ≠ j) : (t.put i x).get j = t.get j := Tr.get_putD_other 14 i j _ t h
theorem Tr.get_del_same {t : Tr α} {i : Nat} (h : i < 8192) : (t.del i).get i = none := Tr.get_putD_same 13 i _ t (by omega)
theorem Tr.get_del_other {t : Tr α} {i j : Nat} (h : i ≠ j) : (t.del i).get j = t.get j := Tr.get_putD_other 14 i j _ t h
end

theorem Tr.putD_putD {α : Type} : ∀ (d i : Nat) (x y : Option α) (t : Tr α), Tr.putD d i y (Tr.putD d i x t) = Tr.putD d i y t
  | 0, i, x, y, t => rfl
  | d + 1, i, x, y, t => by
    simp only [Tr.putD_succ]
    by_cases h0 : i = 0
    · simp only [if_pos h0]; rfl
    · by_cases h2 : i % 2 = 0
      · simp only [if_neg h0, if_pos h2]
        show Tr.n t.root (Tr.putD d (i / 2) y (Tr.putD d (i / 2) x t.left)) t.right = _
        rw [Tr.putD_putD d]
      · simp only [if_neg h0, if_neg h2]
        show Tr.n t.root t.left (Tr.putD d (i / 2) y (Tr.putD d (i / 2) x t.right)) = _
        rw [Tr.putD_putD d]
theorem Tr.put_put {α : Type} {t : Tr α} {i : Nat} {x y : α} : (t.put i x).put i y = t.put i y := Tr.putD_putD 14 i _ _ t

attribute [irreducible] Tr.get Tr.put Tr.del

/-- What is owed. -/
inductive Ob where
  | c (o : BinOp) (x y : E) (b : Bool)
  | rng (x : E)
def Ob.den (ρ : Nat → Int) : Ob → Prop
  | .c o x y b => cmpI o (x.den ρ) (y.den ρ) = b
  | .rng x => -9223372036854775808 ≤ x.den ρ ∧ x.den ρ ≤ 9223372036854775807

/-- Cells that are known, from a place on. 'wr': 0: they may be read; 1: written, and they were there at the beginning; 2: written, and they are the run's own. -/
structure Win where
  cells : List FV
  wr : Nat

/-- A state. -/
structure St where
  N : Nat
  F : Tr SV
  M : Tr Win
  R : Tr (TypeId × List FV)
  A : Tr (Nat × Nat)
  nx : Nat
  thr : Nat
  orc : List Bool
  obs : List Ob

end Go.Sx
