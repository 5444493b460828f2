/- Words used by the pieces of the compressions: cells with names, tables of numbers, where runs stand. -/
import Derived.Test.YtjhndmlpcpbaoaaDoorCfg
import Derived.Test.YtjhndmlpcpbaoaaDoorSxL
import Derived.Test.YtjhndmlpcpbaoaaDoorSxM
import Derived.Test.YtjhndmlpcpbaoaaDoorSxN
namespace Go.Proofs.YtjhndmlpcpbaoaaDoor
open Go Go.Sx Go.Proofs
set_option maxRecDepth 100000
noncomputable def bodyOf (fn : Func) : Code := fn.body.getD .skip
/-- Cells of one kind, by names from k on. -/
def ws (t : IntKind) (k : Nat) : Nat → List FV
  | 0 => []
  | n + 1 => .int t (.v k) :: ws t (k + 1) n
def lits (k : IntKind) : List Int → List FV
  | [] => []
  | z :: l => .int k (.n z) :: lits k l
/-- The bodies of the loops that stand in a text, the outer one first. -/
noncomputable def loopsF (n : Nat) : Code → List Code :=
  Nat.rec (motive := fun _ => Code → List Code) (fun _ => []) (fun _ ih c => match c with
    | .seq a b => appX (ih a) (ih b)
    | .block _ b => ih b
    | .cond _ a b => appX (ih a) (ih b)
    | .loop b => b :: ih b
    | _ => []) n
noncomputable def loopAt (fn : Func) (k : Nat) : Code := (nth? (loopsF 400 (bodyOf fn)) k).getD .skip
noncomputable def loopP (o : Out) : Code × List It := (loopOf o.stk).getD (.skip, [])
noncomputable def loopB (k : List It) : Bool := match loopOf k with | some _ => true | none => false
noncomputable def someB {α : Type} (k : Option α) : Bool := match k with | some _ => true | none => false
noncomputable def eSlots (F : Tr SV) (k : Nat) : Nat → List E
  | 0 => []
  | n + 1 => eOf (F.get k) :: eSlots F (k + 1) n
/-- The cells' expressions behind a window's name. -/
noncomputable def eWin (s : St) (j : Nat) : List E := match s.M.get j with | some W => eCells W.cells | none => []
noncomputable def aggE (v : Option SV) : List E := match v with | some (.agg l) => eCells l | _ => []
def slotsW (t : IntKind) (d k : Nat) : Nat → List (Nat × SV)
  | 0 => []
  | n + 1 => (d, .f (.int t (.v k))) :: slotsW t (d + 1) (k + 1) n
def vs (k : Nat) : Nat → List E
  | 0 => []
  | n + 1 => .v k :: vs (k + 1) n
def allR (t : Int) : Nat → (Int → Bool) → Bool
  | 0, _ => true
  | n + 1, f => match f t with | true => allR (t + 1) n f | false => false
theorem allR_get : ∀ {n : Nat} {t : Int} {f : Int → Bool}, allR t n f = true → ∀ k : Nat, k < n → f (t + k) = true
  | 0, _, _, _, k, h => by omega
  | n + 1, t, f, h, k, hk => by
    obtain ⟨h1, h2⟩ := and2 (show (match f t with | true => allR (t + 1) n f | false => false) = true from h)
    cases k with
    | zero => simpa using h1
    | succ k =>
      have := allR_get h2 k (by omega)
      rw [show t + ((k + 1 : Nat) : Int) = t + 1 + (k : Int) by omega]
      exact this
def zs : Nat → List E
  | 0 => []
  | n + 1 => .n 0 :: zs n
def elsB : List E → List E → Bool
  | [], l => nilB l
  | x :: l, l' => (match l' with | y :: l' => (match E.beq x y with | true => elsB l l' | false => false) | [] => false)
theorem elsB_eq : ∀ {l l' : List E}, elsB l l' = true → l = l'
  | [], l', h => by cases l' <;> first | rfl | cases h
  | x :: l, l', h => by
    cases l' with
    | nil => cases h
    | cons y l' =>
      obtain ⟨h1, h2⟩ := and2 (show (match E.beq x y with | true => elsB l l' | false => false) = true from h)
      rw [E.beq_eq _ _ h1, elsB_eq h2]
/-- What is owed is that x and at most n more is a number. -/
def rngOb (x : Nat) (n : Int) (b : Ob) : Bool :=
  match b with
  | .rng e => match e with
    | .add e z => match e, z with
      | .v y, .n z => and3 (Nat.beq y x) (decide (0 ≤ z)) (decide (z ≤ n))
      | _, _ => false
    | _ => false
  | _ => false
def rngObs (x : Nat) (n : Int) : List Ob → Bool
  | [] => true
  | b :: l => match rngOb x n b with | true => rngObs x n l | false => false
theorem rngOb_den {x : Nat} {n : Int} {b : Ob} (h : rngOb x n b = true) {ρ : Nat → Int} (h0 : 0 ≤ ρ x) (h1 : ρ x + n ≤ 9223372036854775807) : b.den ρ := by
  unfold rngOb at h
  split at h
  · split at h
    · split at h
      · obtain ⟨a1, a2, a3⟩ := and3_iff h
        have a1 := Nat.eq_of_beq_eq_true a1
        have a2 := of_decide_eq_true a2
        have a3 := of_decide_eq_true a3
        subst a1
        simp only [Ob.den, E.den]
        omega
      · cases h
    · cases h
  · cases h
theorem rngObs_den {x : Nat} {n : Int} {ρ : Env} (h0 : 0 ≤ ρ.i x) (h1 : ρ.i x + n ≤ 9223372036854775807) : ∀ {l : List Ob}, rngObs x n l = true → Obs ρ l
  | [], _ => fun _ h => by cases h
  | b :: l, h => by
    obtain ⟨a1, a2⟩ := and2 (show (match rngOb x n b with | true => rngObs x n l | false => false) = true from h)
    intro ob hob
    rcases List.mem_cons.1 hob with rfl | hob
    · exact rngOb_den a1 h0 h1
    · exact rngObs_den h0 h1 a2 ob hob
end Go.Proofs.YtjhndmlpcpbaoaaDoor

/- Words as lists of cells; small words used by the joins. -/
namespace Go.Proofs.YtjhndmlpcpbaoaaDoor
open Go Go.Sx Go.Proofs Go.RowKit
def words (t : IntKind) (n : Nat) (g : Nat → Int) : List Value := (List.range n).map fun k => .int t (g k)
theorem ws_get : ∀ {t : IntKind} {n k j : Nat}, j < n → (ws t k n)[j]? = some (.int t (.v (k + j)))
  | _, 0, _, _, h => by omega
  | _, n + 1, k, 0, _ => rfl
  | t, n + 1, k, j + 1, h => by
    show (ws t (k + 1) n)[j]? = _
    rw [ws_get (by omega : j < n), show k + 1 + j = k + (j + 1) by omega]
theorem ws_len : ∀ (t : IntKind) (n k : Nat), (ws t k n).length = n
  | _, 0, _ => rfl
  | t, n + 1, k => by simp [ws, ws_len t n]
theorem ws_ok (ρ : Env) (m : Nat) : ∀ (t : IntKind) (n k : Nat), okL ρ m (ws t k n)
  | _, 0, _ => fun _ h => by cases h
  | t, n + 1, k => fun x h => by
    rcases List.mem_cons.1 h with rfl | h
    · trivial
    · exact ws_ok ρ m t n (k + 1) x h
theorem ws_den (ρ : Env) (t : IntKind) (n k : Nat) (g : Nat → Int) (h : ∀ j, j < n → ρ.i (k + j) = g j) : denL ρ (ws t k n) = words t n g := by
  apply List.ext_getElem?
  intro j
  simp only [denL, List.getElem?_map, words]
  by_cases hj : j < n
  · rw [ws_get hj, List.getElem?_range hj]
    simp [FV.den, E.den, h j hj]
  · rw [List.getElem?_eq_none (by rw [ws_len]; omega), List.getElem?_eq_none (by simp; omega)]
    rfl
theorem words_congr {t : IntKind} {n : Nat} {g g' : Nat → Int} (h : ∀ k, k < n → g k = g' k) : words t n g = words t n g' :=
  List.map_congr_left fun k hk => by rw [h k (List.mem_range.1 hk)]
theorem words_get {t : IntKind} {n : Nat} {g : Nat → Int} {k : Nat} (h : k < n) : (words t n g)[k]? = some (.int t (g k)) := by
  simp [words, List.getElem?_range h]
theorem ws_cell {w : World} {ρ : Env} {t : IntKind} {n k b o : Nat} {g : Nat → Int} (hc : ∀ j, j < n → w.cell? ⟨b, o + j, none⟩ = some (.int t (g j))) (h : ∀ j, j < n → ρ.i (k + j) = g j) :
    ∀ (i : Nat) x, (ws t k n)[i]? = some x → w.cell? ⟨b, o + i, none⟩ = some (x.den ρ) := by
  intro i x hx
  have hi : i < n := by have := (List.getElem?_eq_some_iff.1 hx).1; rwa [ws_len] at this
  rw [ws_get hi] at hx
  have hx := Option.some.inj hx
  subst hx
  rw [hc i hi]
  simp [FV.den, E.den, h i hi]
theorem lits_cell {w : World} {ρ : Env} {t : IntKind} {b o : Nat} : ∀ {l : List Int}, (∀ (j : Nat) z, l[j]? = some z → w.cell? ⟨b, o + j, none⟩ = some (.int t z)) →
    ∀ (i : Nat) x, (lits t l)[i]? = some x → w.cell? ⟨b, o + i, none⟩ = some (x.den ρ) := by
  have key : ∀ (l : List Int) (i : Nat) x, (lits t l)[i]? = some x → ∃ z, l[i]? = some z ∧ x = .int t (.n z) := by
    intro l
    induction l with
    | nil => intro i x h; simp [lits] at h
    | cons z l ih =>
      intro i x h
      cases i with
      | zero =>
        have : FV.int t (.n z) = x := by simpa [lits] using h
        exact ⟨z, by simp, this.symm⟩
      | succ i =>
        obtain ⟨z', h1, h2⟩ := ih i x (by simpa [lits] using h)
        exact ⟨z', by simpa using h1, h2⟩
  intro l h i x hx
  obtain ⟨z, h1, rfl⟩ := key l i x hx
  exact h i z h1
theorem lits_ok (ρ : Env) (m : Nat) (t : IntKind) : ∀ (l : List Int), okL ρ m (lits t l)
  | [] => fun _ h => by cases h
  | z :: l => fun x h => by
    rcases List.mem_cons.1 h with rfl | h
    · trivial
    · exact lits_ok ρ m t l x h
def ints (t : IntKind) : List E → List FV
  | [] => []
  | e :: l => .int t e :: ints t l
def fvsB : List FV → List FV → Bool
  | [], l => nilB l
  | x :: l, l' => (match l' with | y :: l' => (match fvEq x y with | true => fvsB l l' | false => false) | [] => false)
theorem fvsB_eq : ∀ {l l' : List FV}, fvsB l l' = true → l = l'
  | [], l', h => by cases l' <;> first | rfl | cases h
  | x :: l, l', h => by
    cases l' with
    | nil => cases h
    | cons y l' =>
      obtain ⟨h1, h2⟩ := and2 (show (match fvEq x y with | true => fvsB l l' | false => false) = true from h)
      rw [fvEq_eq h1, fvsB_eq h2]
def aggB (v : Option SV) (l : List FV) : Bool := match v with | some (.agg l') => fvsB l' l | _ => false
theorem aggB_eq {v : Option SV} {l : List FV} (h : aggB v l = true) : v = some (.agg l) := by
  unfold aggB at h
  split at h
  · rw [fvsB_eq h]
  · cases h
theorem ints_get : ∀ {t : IntKind} {l : List E} {k : Nat} {e : E}, l[k]? = some e → (ints t l)[k]? = some (.int t e)
  | _, [], _, _, h => by simp at h
  | t, x :: l, 0, e, h => by
    have : x = e := by simpa using h
    subst this; rfl
  | t, x :: l, k + 1, e, h => by
    show (ints t l)[k]? = _
    exact ints_get (by simpa using h)
theorem ints_len : ∀ (t : IntKind) (l : List E), (ints t l).length = l.length
  | _, [] => rfl
  | t, x :: l => by simp [ints, ints_len t l]
theorem ints_den (ρ : Env) (t : IntKind) (l : List E) (n : Nat) (hn : l.length = n) (g : Nat → Int) (h : ∀ k, k < n → (l.getD k (.n 0)).den ρ.i = g k) : denL ρ (ints t l) = words t n g := by
  apply List.ext_getElem?
  intro j
  simp only [denL, List.getElem?_map]
  by_cases hj : j < n
  · have hl : l[j]? = some (l.getD j (.n 0)) := by
      rw [List.getD_eq_getElem?_getD]
      cases hx : l[j]? with
      | none => rw [List.getElem?_eq_none_iff] at hx; omega
      | some e => rfl
    rw [ints_get hl, words_get hj, ← h j hj]
    rfl
  · rw [List.getElem?_eq_none (by rw [ints_len]; omega), List.getElem?_eq_none (by simp [words]; omega)]
    rfl
theorem getD_some {l : List E} {k : Nat} (h : k < l.length) : l[k]? = some (l.getD k (.n 0)) := by
  rw [List.getD_eq_getElem?_getD]
  cases hx : l[k]? with
  | none => rw [List.getElem?_eq_none_iff] at hx; omega
  | some e => rfl
theorem zs_get : ∀ {n k : Nat}, k < n → (zs n)[k]? = some (.n 0)
  | 0, _, h => by omega
  | n + 1, 0, _ => rfl
  | n + 1, k + 1, h => by
    show (zs n)[k]? = _
    exact zs_get (by omega)
theorem zs_len : ∀ (n : Nat), (zs n).length = n
  | 0 => rfl
  | n + 1 => by simp [zs, zs_len n]
theorem vs_get : ∀ {n k j : Nat}, j < n → (vs k n)[j]? = some (.v (k + j))
  | 0, _, _, h => by omega
  | n + 1, k, 0, _ => rfl
  | n + 1, k, j + 1, h => by
    show (vs (k + 1) n)[j]? = _
    rw [vs_get (by omega : j < n), show k + 1 + j = k + (j + 1) by omega]
theorem vs_len : ∀ (n k : Nat), (vs k n).length = n
  | 0, _ => rfl
  | n + 1, k => by simp [vs, vs_len n]
/-- All its names are between a and b or between c and d. -/
def rng2N (a b c d i : Nat) : Bool := match Nat.ble a i, Nat.blt i b with
  | true, true => true
  | _, _ => (match Nat.ble c i with | true => Nat.blt i d | false => false)
theorem rng2N_or {a b c d i : Nat} (h : rng2N a b c d i = true) : (a ≤ i ∧ i < b) ∨ (c ≤ i ∧ i < d) := by
  unfold rng2N at h
  split at h
  · rename_i h1 h2
    exact .inl ⟨Nat.le_of_ble_eq_true h1, blt_lt h2⟩
  · split at h
    · rename_i h1
      exact .inr ⟨Nat.le_of_ble_eq_true h1, blt_lt h⟩
    · cases h
def rng2B (a b c d : Nat) : E → Bool
  | .v i => rng2N a b c d i
  | .n _ => true
  | .add x y => (match rng2B a b c d x with | true => rng2B a b c d y | false => false)
  | .sub x y => (match rng2B a b c d x with | true => rng2B a b c d y | false => false)
  | .mul x y => (match rng2B a b c d x with | true => rng2B a b c d y | false => false)
  | .bin _ _ x y => (match rng2B a b c d x with | true => rng2B a b c d y | false => false)
  | .shl _ x _ => rng2B a b c d x
  | .shr x _ => rng2B a b c d x
  | .cv _ x => rng2B a b c d x
theorem den_rng2 {a b c d : Nat} {ρ ρ' : Nat → Int} (h : ∀ i, (a ≤ i ∧ i < b) ∨ (c ≤ i ∧ i < d) → ρ' i = ρ i) : ∀ e : E, rng2B a b c d e = true → e.den ρ' = e.den ρ
  | .v i, hb => h i (rng2N_or hb)
  | .n z, _ => rfl
  | .add x y, hb => by
    obtain ⟨h1, h2⟩ := and2 (b := rng2B a b c d y) (a := rng2B a b c d x) hb
    simp only [E.den, den_rng2 h x h1, den_rng2 h y h2]
  | .sub x y, hb => by
    obtain ⟨h1, h2⟩ := and2 (b := rng2B a b c d y) (a := rng2B a b c d x) hb
    simp only [E.den, den_rng2 h x h1, den_rng2 h y h2]
  | .mul x y, hb => by
    obtain ⟨h1, h2⟩ := and2 (b := rng2B a b c d y) (a := rng2B a b c d x) hb
    simp only [E.den, den_rng2 h x h1, den_rng2 h y h2]
  | .bin _ _ x y, hb => by
    obtain ⟨h1, h2⟩ := and2 (b := rng2B a b c d y) (a := rng2B a b c d x) hb
    simp only [E.den, den_rng2 h x h1, den_rng2 h y h2]
  | .shl _ x _, hb => by simp only [E.den, den_rng2 h x hb]
  | .shr x _, hb => by simp only [E.den, den_rng2 h x hb]
  | .cv _ x, hb => by simp only [E.den, den_rng2 h x hb]
def rng2L (a b c d : Nat) : List E → Bool
  | [] => true
  | e :: l => (match rng2B a b c d e with | true => rng2L a b c d l | false => false)
theorem rng2L_get {a b c d : Nat} : ∀ {l : List E} {k : Nat} {e : E}, rng2L a b c d l = true → l[k]? = some e → rng2B a b c d e = true
  | [], k, e, _, h => by simp at h
  | x :: l, k, e, hb, h => by
    obtain ⟨h1, h2⟩ := and2 (show (match rng2B a b c d x with | true => rng2L a b c d l | false => false) = true from hb)
    cases k with
    | zero =>
      have : x = e := by simpa using h
      subst this; exact h1
    | succ k => exact rng2L_get h2 (by simpa using h)
/-- Sixteen, then zeroes up to 256, then more. -/
theorem padded {A V : List E} (hA : A.length = 16) : (∀ k, k < 16 → (appX A (appX (zs 240) V))[k]? = some (A.getD k (.n 0))) ∧ (∀ k, 16 ≤ k → k < 256 → (appX A (appX (zs 240) V))[k]? = some (.n 0)) ∧
    ∀ k, k < V.length → (appX A (appX (zs 240) V))[256 + k]? = some (V.getD k (.n 0)) := by
  simp only [appX_eq]
  refine ⟨fun k hk => ?_, fun k h1 h2 => ?_, fun k hk => ?_⟩
  · rw [List.getElem?_append_left (by omega)]
    exact getD_some (by omega)
  · rw [List.getElem?_append_right (by omega), List.getElem?_append_left (by rw [zs_len]; omega)]
    exact zs_get (by omega)
  · rw [List.getElem?_append_right (by omega), List.getElem?_append_right (by rw [zs_len]; omega), zs_len, show 256 + k - A.length - 240 = k by omega]
    exact getD_some hk
theorem loop_eq {k : List It} (h : loopB k = true) : ∃ p, loopOf k = some p ∧ k = .code (.loop p.1) :: p.2 := by
  unfold loopB at h
  split at h
  · rename_i p hp
    obtain ⟨c, k'⟩ := p
    exact ⟨(c, k'), hp, loopOf_eq hp⟩
  · cases h
theorem loopP_eq {o : Out} (h : loopB o.stk = true) : o.stk = .code (.loop (loopP o).1) :: (loopP o).2 := by
  obtain ⟨p, h1, h2⟩ := loop_eq h
  unfold loopP
  rw [h1]
  exact h2
theorem loopP_eq' {o o' : Out} (h : loopB o'.stk = true) (he : loopOf o'.stk = loopOf o.stk) : o'.stk = .code (.loop (loopP o).1) :: (loopP o).2 := by
  obtain ⟨p, h1, h2⟩ := loop_eq h
  unfold loopP
  rw [← he, h1]
  exact h2
theorem some_getD {α : Type} {x : Option α} {d : α} (h : someB x = true) : x = some (x.getD d) := by
  cases x with
  | none => cases h
  | some y => rfl
end Go.Proofs.YtjhndmlpcpbaoaaDoor

/- The package's variables as the law finds them; more small words. -/
namespace Go.Proofs.YtjhndmlpcpbaoaaDoor
open Go Go.Sx Go.Proofs Go.RowKit
noncomputable def tupNil (x : Option SV) : Bool := match x with | some (.tup l) => nilB l | _ => false
theorem tupNil_eq {x : Option SV} (h : tupNil x = true) : x = some (.tup []) := by
  unfold tupNil at h
  split at h
  · rename_i l
    cases l with
    | nil => rfl
    | cons _ _ => cases h
  · cases h
/-- Cells of one kind that read so. -/
def CellsAt (w : World) (b o : Nat) (t : IntKind) (l : List Int) : Prop := ∀ (j : Nat) z, l[j]? = some z → w.cell? ⟨b, o + j, none⟩ = some (.int t z)
def ivLS : List Int := [0x6a09e667, 0xbb67ae85, 0x3c6ef372, 0xa54ff53a, 0x510e527f, 0x9b05688c, 0x1f83d9ab, 0x5be0cd19]
def ivLB : List Int := [0x6a09e667f3bcc908, 0xbb67ae8584caa73b, 0x3c6ef372fe94f82b, 0xa54ff53a5f1d36f1, 0x510e527fade682d1, 0x9b05688c2b3e6c1f, 0x1f83d9abfb41bd6b, 0x5be0cd19137e2179]
def preLS : List Int := [0, 2, 4, 6, 1, 3, 5, 7, 8, 10, 12, 14, 9, 11, 13, 15, 14, 4, 9, 13, 10, 8, 15, 6, 1, 0, 11, 5, 12, 2, 7, 3, 11, 12, 5, 15, 8, 0, 2, 13, 10, 3, 7, 9, 14, 6, 1, 4, 7, 3, 13, 11, 9, 1, 12, 14, 2, 5, 4, 15, 6, 10, 0, 8, 9, 5, 2, 10, 0, 7, 4, 15, 14, 11, 6, 3, 1, 12, 8, 13, 2, 6, 0, 8, 12, 10, 11, 3, 4, 7, 15, 1, 13, 5, 14, 9, 12, 1, 14, 4, 5, 15, 13, 10, 0, 6, 9, 8, 7, 3, 2, 11, 13, 7, 12, 3, 11, 14, 1, 9, 5, 15, 8, 2, 0, 4, 6, 10, 6, 14, 11, 0, 15, 9, 3, 8, 12, 13, 1, 10, 2, 7, 4, 5, 10, 8, 7, 1, 2, 4, 6, 5, 15, 9, 3, 13, 11, 14, 12, 0]
def preLB : List Int := [0, 2, 4, 6, 1, 3, 5, 7, 8, 10, 12, 14, 9, 11, 13, 15, 14, 4, 9, 13, 10, 8, 15, 6, 1, 0, 11, 5, 12, 2, 7, 3, 11, 12, 5, 15, 8, 0, 2, 13, 10, 3, 7, 9, 14, 6, 1, 4, 7, 3, 13, 11, 9, 1, 12, 14, 2, 5, 4, 15, 6, 10, 0, 8, 9, 5, 2, 10, 0, 7, 4, 15, 14, 11, 6, 3, 1, 12, 8, 13, 2, 6, 0, 8, 12, 10, 11, 3, 4, 7, 15, 1, 13, 5, 14, 9, 12, 1, 14, 4, 5, 15, 13, 10, 0, 6, 9, 8, 7, 3, 2, 11, 13, 7, 12, 3, 11, 14, 1, 9, 5, 15, 8, 2, 0, 4, 6, 10, 6, 14, 11, 0, 15, 9, 3, 8, 12, 13, 1, 10, 2, 7, 4, 5, 10, 8, 7, 1, 2, 4, 6, 5, 15, 9, 3, 13, 11, 14, 12, 0, 0, 2, 4, 6, 1, 3, 5, 7, 8, 10, 12, 14, 9, 11, 13, 15, 14, 4, 9, 13, 10, 8, 15, 6, 1, 0, 11, 5, 12, 2, 7, 3]
/-- The variables' cells. -/
structure Glob (w : World) : Prop where
  size : 5 ≤ w.heap.size
  ivB : CellsAt w 0 0 .u64 ivLB
  ivS : CellsAt w 2 0 .u32 ivLS
  preB : CellsAt w 3 0 .u8 preLB
  preS : CellsAt w 4 0 .u8 preLS
theorem CellsAt.kp {w w' : World} {b o : Nat} {t : IntKind} {l : List Int} (h : CellsAt w b o t l) {B : Nat} {xs : List Nat} (k : Kp B xs w w') (hb : b < B) (hx : b ∉ xs) : CellsAt w' b o t l :=
  fun j z hz => by rw [k.cell hb hx]; exact h j z hz
theorem Glob.kp {w w' : World} (h : Glob w) {B : Nat} {xs : List Nat} (k : Kp B xs w w') (hB : 5 ≤ B) (hx : ∀ x ∈ xs, 5 ≤ x) : Glob w' := by
  have n : ∀ b, b < 5 → b ∉ xs := fun b hb hm => by have := hx b hm; omega
  exact ⟨Nat.le_trans h.size k.size, h.ivB.kp k (by omega) (n 0 (by omega)), h.ivS.kp k (by omega) (n 2 (by omega)), h.preB.kp k (by omega) (n 3 (by omega)), h.preS.kp k (by omega) (n 4 (by omega))⟩
theorem Glob.below {w w' : World} (h : Glob w) {B : Nat} (k : Below B w w') (hB : 5 ≤ B) : Glob w' := h.kp (Kp.of_below (xs := []) k) hB (by simp)
/-- Words that lie somewhere and may be written. -/
structure WordsAt (w : World) (b o : Nat) (t : IntKind) (n : Nat) (g : Nat → Int) : Prop where
  cell : ∀ k, k < n → w.cell? ⟨b, o + k, none⟩ = some (.int t (g k))
  free : ∀ k, k < n → w.frozen? ⟨b, o + k, none⟩ = false
theorem WordsAt.kp {w w' : World} {b o : Nat} {t : IntKind} {n : Nat} {g : Nat → Int} (h : WordsAt w b o t n g) {B : Nat} {xs : List Nat} (k : Kp B xs w w') (hb : b < B) (hx : b ∉ xs) : WordsAt w' b o t n g :=
  ⟨fun j hj => by rw [k.cell hb hx]; exact h.cell j hj, fun j hj => by rw [k.frozen hb hx]; exact h.free j hj⟩
theorem cell_lt {w : World} {b o : Nat} {v : Value} (h : w.cell? ⟨b, o, none⟩ = some v) : b < w.heap.size := by
  unfold World.cell? at h
  split at h
  · rename_i hh
    exact (Array.getElem?_eq_some_iff.1 hh).1
  · cases h
/-- A window's words, read off. -/
theorem wordsAt_of {cfg : Cfg} {w0 w : World} {ρ : Env} {s : St} (hM : MemOK cfg w0 ρ s w) {j wr n k : Nat} {t : IntKind} (hg : s.M.get j = some ⟨ws t k n, wr⟩) (hwr : wr ≠ 0) {g : Nat → Int} (h : ∀ i, i < n → ρ.i (k + i) = g i) :
    WordsAt w (ρ.b j) (ρ.o j) t n g := by
  refine ⟨fun i hi => ?_, fun i hi => hM.free j _ hg hwr i (by rw [ws_len]; exact hi)⟩
  rw [(hM.cell j _ hg).2.2 i _ (ws_get hi)]
  simp [FV.den, E.den, h i hi]
end Go.Proofs.YtjhndmlpcpbaoaaDoor

/- The bytes, zeroes behind them. -/
namespace Go.Proofs.YtjhndmlpcpbaoaaDoor
open Go Go.Sx Go.Proofs
def zeros (t : IntKind) : Nat → List FV
  | 0 => []
  | n + 1 => .int t (.n 0) :: zeros t n
noncomputable def ent0 : Entry := ⟨0, Tryd.f3, .skip, [], none, []⟩
noncomputable def entOf (cfg : Cfg) (k : List It) (s : St) : Entry := (enter cfg k s).getD ent0
noncomputable def entB (cfg : Cfg) (f : Nat) (k : List It) (s : St) : Bool :=
  match enter cfg k s with
  | some e => Nat.beq e.f f
  | none => false
noncomputable def stand0 : Stand := ⟨#[], ⟨none, .move (.const undef), default, default, #[], none⟩, [], []⟩
/-- The bytes, zeroes behind them. -/
def pad (L : Nat) (D : Nat → Int) (x : Nat) : Int := if x < L then D x else 0
theorem zeros_len : ∀ (t : IntKind) (n : Nat), (zeros t n).length = n
  | _, 0 => rfl
  | t, n + 1 => by simp [zeros, zeros_len t n]
theorem zeros_get : ∀ {t : IntKind} {n j : Nat}, j < n → (zeros t n)[j]? = some (.int t (.n 0))
  | _, 0, _, h => by omega
  | _, n + 1, 0, _ => rfl
  | t, n + 1, j + 1, h => by
    show (zeros t n)[j]? = _
    exact zeros_get (by omega)
theorem zeros_ok (ρ : Env) (m : Nat) (t : IntKind) (n : Nat) : okL ρ m (zeros t n) := fun x hx => by
  obtain ⟨j, hj⟩ := List.getElem?_of_mem hx
  have h1 : j < n := by have := (List.getElem?_eq_some_iff.1 hj).1; rwa [zeros_len] at this
  rw [zeros_get h1] at hj
  have hj := Option.some.inj hj
  subst hj
  trivial
theorem zeros_cell {w : World} {ρ : Env} {t : IntKind} {n b o : Nat} (hc : ∀ j, j < n → w.cell? ⟨b, o + j, none⟩ = some (.int t 0)) : ∀ (i : Nat) x, (zeros t n)[i]? = some x → w.cell? ⟨b, o + i, none⟩ = some (x.den ρ) := by
  intro i x hx
  have hi : i < n := by have := (List.getElem?_eq_some_iff.1 hx).1; rwa [zeros_len] at this
  rw [zeros_get hi] at hx
  have hx := Option.some.inj hx
  subst hx
  rw [hc i hi]
  rfl
/-- A byte of words of wb bytes each, the lowest byte first. -/
def byt (wb : Nat) (h : Nat → Int) (k : Nat) : Int := IntKind.u8.wrap ((h (k / wb)).fdiv (2 ^ (8 * (k % wb))))
def byE (m wb n : Nat) : List E := (List.range n).map fun k => .cv .u8 (E.pshr (.v (m + k / wb)) (8 * (k % wb)))
theorem byE_get {m wb n k : Nat} (h : k < n) : (byE m wb n)[k]? = some (.cv .u8 (E.pshr (.v (m + k / wb)) (8 * (k % wb)))) := by
  simp [byE, List.getElem?_range h]
theorem byE_den {ρ : Env} {m wb k : Nat} : (E.cv .u8 (E.pshr (.v (m + k / wb)) (8 * (k % wb)))).den ρ.i = byt wb (fun j => ρ.i (m + j)) k := by
  simp [E.den, E.den_pshr, byt]
/-- The first cells behind a window. -/
noncomputable def winB (W : Option Win) (n : Nat) (l : List FV) : Bool := match W with | some W => fvsB (takeN n W.cells) l | none => false
theorem winB_eq {W : Option Win} {n : Nat} {l : List FV} (h : winB W n l = true) : ∃ V, W = some V ∧ V.cells.take n = l := by
  unfold winB at h
  split at h
  · rename_i V
    exact ⟨V, rfl, by rw [← takeN_eq]; exact fvsB_eq h⟩
  · cases h
theorem ent_some {cfg : Cfg} {f : Nat} {k : List It} {s : St} (h : entB cfg f k s = true) : enter cfg k s = some (entOf cfg k s) ∧ (entOf cfg k s).f = f := by
  unfold entB at h
  unfold entOf
  split at h
  · rename_i e he
    rw [he]
    exact ⟨rfl, beq_eq h⟩
  · cases h
def dstB (d : Option Tmp) (n : Nat) : Bool := match d with | some m => Nat.beq m n | none => false
theorem dstB_eq {d : Option Tmp} {n : Nat} (h : dstB d n = true) : d = some n := by
  unfold dstB at h
  split at h
  · rw [beq_eq h]
  · cases h
theorem and_high (x k : Nat) (hk : k ≤ 64) (hx : x < 2 ^ 64) : x &&& (2 ^ 64 - 2 ^ k) = 2 ^ k * (x / 2 ^ k) := by
  have e1 : 2 ^ 64 - 2 ^ k = (2 ^ (64 - k) - 1) <<< k := by
    rw [Nat.shiftLeft_eq, Nat.sub_mul, ← Nat.pow_add, show 64 - k + k = 64 by omega, Nat.one_mul]
  have e2 : 2 ^ k * (x / 2 ^ k) = (x >>> k) <<< k := by
    rw [Nat.shiftLeft_eq, Nat.shiftRight_eq_div_pow, Nat.mul_comm]
  rw [e1, e2]
  apply Nat.eq_of_testBit_eq
  intro i
  rw [Nat.testBit_and, Nat.testBit_shiftLeft, Nat.testBit_shiftLeft, Nat.testBit_two_pow_sub_one, Nat.testBit_shiftRight]
  by_cases h : k ≤ i
  · rw [show k + (i - k) = i by omega]
    by_cases h2 : i < 64
    · have : i - k < 64 - k := by omega
      simp [h, this]
    · have : x.testBit i = false := Nat.testBit_lt_two_pow (Nat.lt_of_lt_of_le hx (Nat.pow_le_pow_right (by omega) (by omega)))
      simp [h, this]
  · simp [h]
theorem andNot_low (L k : Nat) (hk : k ≤ 30) (hL : L ≤ 2147483647) : binI .andNot .i64 (L : Int) ((2 ^ k - 1 : Nat) : Int) = ((2 ^ k * (L / 2 ^ k) : Nat) : Int) := by
  have hp : 2 ^ k ≤ 2 ^ 30 := Nat.pow_le_pow_right (by omega) hk
  have hp0 := Nat.two_pow_pos k
  have e : (BitVec.ofInt 64 (L : Int) &&& ~~~(BitVec.ofInt 64 ((2 ^ k - 1 : Nat) : Int))).toNat = 2 ^ k * (L / 2 ^ k) := by
    rw [BitVec.ofInt_natCast, BitVec.ofInt_natCast, BitVec.toNat_and, BitVec.toNat_not, BitVec.toNat_ofNat, BitVec.toNat_ofNat]
    rw [Nat.mod_eq_of_lt (by omega), Nat.mod_eq_of_lt (by omega), show 2 ^ 64 - 1 - (2 ^ k - 1) = 2 ^ 64 - 2 ^ k by omega]
    exact and_high L k (by omega) (by omega)
  show IntKind.i64.wrap ((BitVec.ofInt 64 (L : Int) &&& ~~~(BitVec.ofInt 64 ((2 ^ k - 1 : Nat) : Int))).toNat : Int) = _
  rw [e]
  have : 2 ^ k * (L / 2 ^ k) ≤ L := Nat.mul_div_le L (2 ^ k)
  exact wrap_i64_in ⟨by omega, by omega⟩
def zerL : Nat → List Int
  | 0 => []
  | n + 1 => 0 :: zerL n
def nilS : SV := .f (.lit (.slice none 0 0))
def dat : SV := .f (.sl 1 0 (.v 0) (.v 1 0))
noncomputable def regOf (k : List It) : Array Oper × List It := match k with | .code c :: k => (match c with | .region _ ops true => (ops, k) | _ => (#[], [])) | _ => (#[], [])
/-- The first words, the parameters taken in: the size is the first byte. -/
def h0LS (z : Int) : List Int := (1795745383 - z) :: [3144134277, 1013904242, 2773480762, 1359893119, 2600822924, 528734635, 1541459225]
def h0LB (z : Int) : List Int := (7640891576939301128 + z) :: [13503953896175478587, 4354685564936845355, 11912009170470909681, 5840696475078001361, 11170449401992604703, 2270897969802886507, 6620516959819538809]
def isD (d : SV) : Prop := d = dat ∨ d = nilS
noncomputable def regB (k : List It) : Bool := match k with | .code c :: _ => (match c with | .region _ _ true => true | _ => false) | _ => false
theorem regB_eq {k : List It} (h : regB k = true) : ∃ id, k = .code (.region id (regOf k).1 true) :: (regOf k).2 := by
  unfold regB at h
  split at h
  · split at h
    · exact ⟨_, rfl⟩
    · cases h
  · cases h
noncomputable def slB (v : Option SV) (j : Nat) (n : Int) : Bool := match v with | some (.f x) => fvEq x (.sl j 0 (.n n) (.v j 0)) | _ => false
theorem slB_eq {v : Option SV} {j : Nat} {n : Int} (h : slB v j n = true) : v = some (.f (.sl j 0 (.n n) (.v j 0))) := by
  unfold slB at h
  split at h
  · rw [fvEq_eq h]
  · cases h
noncomputable def wr1 (W : Option Win) : Bool := match W with | some W => Nat.beq W.wr 1 | none => false
theorem wr1_eq {W : Option Win} (h : wr1 W = true) {V : Win} (hV : W = some V) : V.wr = 1 := by
  subst hV
  exact beq_eq (show Nat.beq V.wr 1 = true from h)
end Go.Proofs.YtjhndmlpcpbaoaaDoor
