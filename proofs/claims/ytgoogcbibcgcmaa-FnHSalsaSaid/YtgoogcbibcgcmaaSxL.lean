/- A symbolic executor over the model, part twelve: runs joined one behind the other, with fresh names between. -/
import Derived.Test.YtgoogcbibcgcmaaSxK
namespace Go.Sx
open Go

/-! Equality, by reckoning. -/
def opEq (a b : BinOp) : Bool :=
  match a, b with
  | .add, .add | .sub, .sub | .mul, .mul | .quo, .quo | .rem, .rem | .and, .and | .or, .or | .xor, .xor | .andNot, .andNot => true
  | _, _ => false
theorem opEq_eq {a b : BinOp} (h : opEq a b = true) : a = b := by cases a <;> cases b <;> first | rfl | cases h

def E.beq : E → E → Bool
  | .v i, y => (match y with | .v j => Nat.beq i j | _ => false)
  | .n a, y => (match y with | .n b => decide (a = b) | _ => false)
  | .add x x', y => (match y with | .add z z' => (match E.beq x z with | true => E.beq x' z' | false => false) | _ => false)
  | .sub x x', y => (match y with | .sub z z' => (match E.beq x z with | true => E.beq x' z' | false => false) | _ => false)
  | .mul x x', y => (match y with | .mul z z' => (match E.beq x z with | true => E.beq x' z' | false => false) | _ => false)
  | .bin o k x x', y => (match y with | .bin o' k' z z' => (match opEq o o', kEq k k', E.beq x z with | true, true, true => E.beq x' z' | _, _, _ => false) | _ => false)
  | .shl k x s, y => (match y with | .shl k' z s' => (match kEq k k', Nat.beq s s' with | true, true => E.beq x z | _, _ => false) | _ => false)
  | .shr x s, y => (match y with | .shr z s' => (match Nat.beq s s' with | true => E.beq x z | false => false) | _ => false)
  | .cv k x, y => (match y with | .cv k' z => (match kEq k k' with | true => E.beq x z | false => false) | _ => false)

theorem E.beq_eq : ∀ (x y : E), E.beq x y = true → x = y
  | .v i, y, h => by
    cases y <;> first | cases h | skip
    have h : Nat.beq _ _ = true := h
    rw [Sx.beq_eq h]
  | .n a, y, h => by
    cases y <;> first | cases h | skip
    have h : decide _ = true := h
    rw [of_decide_eq_true h]
  | .add x x', y, h => by
    cases y <;> first | cases h | skip
    unfold E.beq at h; simp only at h
    split at h <;> first | cases h | skip
    rename_i h1
    rw [E.beq_eq _ _ h1, E.beq_eq _ _ h]
  | .sub x x', y, h => by
    cases y <;> first | cases h | skip
    unfold E.beq at h; simp only at h
    split at h <;> first | cases h | skip
    rename_i h1
    rw [E.beq_eq _ _ h1, E.beq_eq _ _ h]
  | .mul x x', y, h => by
    cases y <;> first | cases h | skip
    unfold E.beq at h; simp only at h
    split at h <;> first | cases h | skip
    rename_i h1
    rw [E.beq_eq _ _ h1, E.beq_eq _ _ h]
  | .bin o k x x', y, h => by
    cases y <;> first | cases h | skip
    unfold E.beq at h; simp only at h
    split at h <;> first | cases h | skip
    rename_i h1 h2 h3
    rw [opEq_eq h1, kEq_eq h2, E.beq_eq _ _ h3, E.beq_eq _ _ h]
  | .shl k x s, y, h => by
    cases y <;> first | cases h | skip
    unfold E.beq at h; simp only at h
    split at h <;> first | cases h | skip
    rename_i h1 h2
    rw [kEq_eq h1, Sx.beq_eq h2, E.beq_eq _ _ h]
  | .shr x s, y, h => by
    cases y <;> first | cases h | skip
    unfold E.beq at h; simp only at h
    split at h <;> first | cases h | skip
    rename_i h1
    rw [Sx.beq_eq h1, E.beq_eq _ _ h]
  | .cv k x, y, h => by
    cases y <;> first | cases h | skip
    unfold E.beq at h; simp only at h
    split at h <;> first | cases h | skip
    rename_i h1
    rw [kEq_eq h1, E.beq_eq _ _ h]

/-- All its names are below m. -/
def E.lowB (m : Nat) : E → Bool
  | .v i => Nat.blt i m
  | .n _ => true
  | .add x y => (match E.lowB m x with | true => E.lowB m y | false => false)
  | .sub x y => (match E.lowB m x with | true => E.lowB m y | false => false)
  | .mul x y => (match E.lowB m x with | true => E.lowB m y | false => false)
  | .bin _ _ x y => (match E.lowB m x with | true => E.lowB m y | false => false)
  | .shl _ x _ => E.lowB m x
  | .shr x _ => E.lowB m x
  | .cv _ x => E.lowB m x
theorem blt_lt {a b : Nat} (h : Nat.blt a b = true) : a < b := by
  have : Nat.ble (a + 1) b = true := h
  exact Nat.le_of_ble_eq_true this
theorem and2 {a b : Bool} (h : (match a with | true => b | false => false) = true) : a = true ∧ b = true := by
  cases a <;> first | exact ⟨rfl, h⟩ | cases h
theorem E.den_low {m : Nat} {ρ ρ' : Nat → Int} (h : ∀ i, i < m → ρ' i = ρ i) : ∀ e : E, E.lowB m e = true → e.den ρ' = e.den ρ
  | .v i, hb => h i (blt_lt hb)
  | .n z, _ => rfl
  | .add x y, hb => by
    obtain ⟨h1, h2⟩ := and2 (b := E.lowB m y) (a := E.lowB m x) hb
    simp only [E.den, E.den_low h x h1, E.den_low h y h2]
  | .sub x y, hb => by
    obtain ⟨h1, h2⟩ := and2 (b := E.lowB m y) (a := E.lowB m x) hb
    simp only [E.den, E.den_low h x h1, E.den_low h y h2]
  | .mul x y, hb => by
    obtain ⟨h1, h2⟩ := and2 (b := E.lowB m y) (a := E.lowB m x) hb
    simp only [E.den, E.den_low h x h1, E.den_low h y h2]
  | .bin _ _ x y, hb => by
    obtain ⟨h1, h2⟩ := and2 (b := E.lowB m y) (a := E.lowB m x) hb
    simp only [E.den, E.den_low h x h1, E.den_low h y h2]
  | .shl _ x _, hb => by simp only [E.den, E.den_low h x hb]
  | .shr x _, hb => by simp only [E.den, E.den_low h x hb]
  | .cv _ x, hb => by simp only [E.den, E.den_low h x hb]

/-! Fresh names for numbers. -/
def Env.ext (ρ : Env) (m : Nat) (es : List E) : Env :=
  { ρ with i := fun x => if x < m then ρ.i x else match es[x - m]? with | some e => e.den ρ.i | none => 0 }
theorem Env.ext_old (ρ : Env) {m : Nat} (es : List E) {x : Nat} (h : x < m) : (ρ.ext m es).i x = ρ.i x := by simp [Env.ext, h]
theorem Env.ext_new (ρ : Env) {m : Nat} {es : List E} {k : Nat} {e : E} (h : es[k]? = some e) : (ρ.ext m es).i (m + k) = e.den ρ.i := by
  have : ¬ m + k < m := by omega
  simp [Env.ext, this, h]

/-- The new number for the old one. -/
def cutE (m : Nat) (es : List E) (new old : E) : Bool :=
  match new with
  | .v x => match Nat.blt x m with
    | true => old.beq (.v x)
    | false => match nth? es (Nat.sub x m) with
      | some e => e.beq old
      | none => false
  | new => (match new.beq old with | true => E.lowB m new | false => false)
theorem cutE_sound {m : Nat} {es : List E} {new old : E} (h : cutE m es new old = true) (ρ : Env) : new.den (ρ.ext m es).i = old.den ρ.i := by
  unfold cutE at h
  split at h
  · rename_i x
    split at h
    · rename_i hx
      rw [E.beq_eq _ _ h]
      simp only [E.den]
      exact ρ.ext_old es (blt_lt hx)
    · rename_i hx
      split at h
      · rename_i e he
        rw [← E.beq_eq _ _ h]
        have hx' : ¬ x < m := fun hl => by
          have : Nat.blt x m = true := Nat.ble_eq_true_of_le hl
          rw [this] at hx; cases hx
        rw [nth?_eq] at he
        have := ρ.ext_new (m := m) he
        have hxx : m + Nat.sub x m = x := by show m + (x - m) = x; omega
        rw [hxx] at this
        exact this
      · cases h
  · obtain ⟨h1, h2⟩ := and2 h
    rw [← E.beq_eq _ _ h1]
    exact E.den_low (fun i hi => ρ.ext_old es hi) _ h2

def capEq (a b : Cp) : Bool :=
  match a, b with
  | .l n, .l m => Nat.beq n m
  | .v j d, .v j' d' => (match Nat.beq j j' with | true => Nat.beq d d' | false => false)
  | _, _ => false
theorem capEq_eq {a b : Cp} (h : capEq a b = true) : a = b := by
  cases a <;> cases b <;> first | cases h | skip
  · rw [beq_eq (show Nat.beq _ _ = true from h)]
  · obtain ⟨h1, h2⟩ := and2 h
    rw [beq_eq h1, beq_eq h2]
def capOkB (n : Nat) : Cp → Bool
  | .l _ => true
  | .v j _ => Nat.blt j n
theorem capOkB_ok {n : Nat} {c : Cp} (h : capOkB n c = true) : c.ok n := by
  cases c with
  | l _ => trivial
  | v j d => exact blt_lt h

def and3 (a b c : Bool) : Bool := match a with | true => (match b with | true => c | false => false) | false => false
theorem and3_iff {a b c : Bool} (h : and3 a b c = true) : a = true ∧ b = true ∧ c = true := by
  cases a <;> cases b <;> cases c <;> first | exact ⟨rfl, rfl, rfl⟩ | cases h

/-- The new value for the old one; its names are below n. -/
def cutF (m : Nat) (es : List E) (n : Nat) (new old : FV) : Bool :=
  match new, old with
  | .int k e, .int k' e' => (match kEq k k' with | true => cutE m es e e' | false => false)
  | .bool b, .bool b' => (match b, b' with | true, true => true | false, false => true | _, _ => false)
  | .ptr j o, .ptr j' o' => and3 (Nat.beq j j') (Nat.beq o o') (Nat.blt j n)
  | .sl j o l c, .sl j' o' l' c' => and3 (and3 (Nat.beq j j') (Nat.beq o o') (Nat.blt j n)) (cutE m es l l') (and3 (capEq c c') (capOkB n c) true)
  | .row r, .row r' => and3 (Nat.beq r r') (Nat.blt r n) true
  | .ifc t j o, .ifc t' j' o' => and3 (Nat.beq t t') (and3 (Nat.beq j j') (Nat.beq o o') true) (Nat.blt j n)
  | _, _ => false
theorem cutF_sound {m n n0 : Nat} {es : List E} {new old : FV} (h : cutF m es n new old = true) (ρ : Env) (ho : old.ok ρ n0) :
    new.den (ρ.ext m es) = old.den ρ ∧ new.ok (ρ.ext m es) n := by
  unfold cutF at h
  split at h
  · obtain ⟨h1, h2⟩ := and2 h
    rw [kEq_eq h1]
    exact ⟨by simp only [FV.den, cutE_sound h2 ρ], trivial⟩
  · rename_i b b'
    cases b <;> cases b' <;> first | exact ⟨rfl, trivial⟩ | cases h
  · obtain ⟨h1, h2, h3⟩ := and3_iff h
    rw [beq_eq h1, beq_eq h2]
    rw [beq_eq h1] at h3
    exact ⟨rfl, blt_lt h3⟩
  · rename_i j o l c j' o' l' c'
    obtain ⟨h1, h2, h3⟩ := and3_iff h
    obtain ⟨h4, h5, h6⟩ := and3_iff h1
    obtain ⟨h7, h8, _⟩ := and3_iff h3
    have hl := cutE_sound h2 ρ
    have hc := capEq_eq h7
    subst hc
    rw [beq_eq h4, beq_eq h5]
    rw [beq_eq h4] at h6
    obtain ⟨o1, o2, o3, o4⟩ := ho
    refine ⟨?_, blt_lt h6, capOkB_ok h8, ?_, ?_⟩
    · simp only [FV.den, hl]; rfl
    · rw [hl]; exact o3
    · rw [hl]; exact o4
  · obtain ⟨h1, h2, _⟩ := and3_iff h
    rw [beq_eq h1]
    rw [beq_eq h1] at h2
    exact ⟨rfl, blt_lt h2⟩
  · obtain ⟨h1, h2, h3⟩ := and3_iff h
    obtain ⟨h4, h5, _⟩ := and3_iff h2
    rw [beq_eq h1, beq_eq h4, beq_eq h5]
    rw [beq_eq h4] at h3
    exact ⟨rfl, blt_lt h3⟩
  · cases h

def cutL (m : Nat) (es : List E) (n : Nat) : List FV → List FV → Bool
  | [], l' => (match l' with | [] => true | _ => false)
  | x :: l, l' => (match l' with | [] => false | y :: l' => (match cutF m es n x y with | true => cutL m es n l l' | false => false))
theorem cutL_sound {m n n0 : Nat} {es : List E} (ρ : Env) : ∀ {new old : List FV}, cutL m es n new old = true → okL ρ n0 old →
    denL (ρ.ext m es) new = denL ρ old ∧ okL (ρ.ext m es) n new ∧ new.length = old.length
  | [], old, h, ho => by
    cases old <;> first | exact ⟨rfl, fun _ h => (by cases h), rfl⟩ | cases h
  | x :: l, old, h, ho => by
    cases old with
    | nil => cases h
    | cons y l' =>
      obtain ⟨h1, h2⟩ := and2 (show (match cutF m es n x y with | true => cutL m es n l l' | false => false) = true from h)
      obtain ⟨a1, a2⟩ := cutF_sound h1 ρ (ho y (by simp))
      obtain ⟨b1, b2, b3⟩ := cutL_sound ρ h2 (fun z hz => ho z (by simp [hz]))
      refine ⟨?_, ?_, by simp [b3]⟩
      · simp only [denL, List.map_cons] at b1 ⊢
        rw [a1, b1]
      · intro z hz
        rcases List.mem_cons.1 hz with rfl | hz
        · exact a2
        · exact b2 z hz

def cutS (m : Nat) (es : List E) (n : Nat) (new old : SV) : Bool :=
  match new, old with
  | .f x, .f y => cutF m es n x y
  | .agg l, .agg l' => cutL m es n l l'
  | _, _ => false
theorem cutS_sound {m n n0 : Nat} {es : List E} {new old : SV} (h : cutS m es n new old = true) (ρ : Env) (ho : old.ok ρ n0) :
    new.den (ρ.ext m es) = old.den ρ ∧ new.ok (ρ.ext m es) n := by
  unfold cutS at h
  split at h
  · exact cutF_sound h ρ ho
  · obtain ⟨h1, h2, _⟩ := cutL_sound ρ h ho
    exact ⟨by simp only [SV.den, h1], h2⟩
  · cases h

/-! Tables out of lists. -/
noncomputable def ofL {α : Type} : List (Nat × α) → Tr α
  | [] => .e
  | p :: l => (ofL l).put p.1 p.2
def idxB {α : Type} : List (Nat × α) → Bool
  | [] => true
  | p :: l => match Nat.ble p.1 8191 with | true => idxB l | false => false
theorem ofL_get {α : Type} : ∀ {l : List (Nat × α)} {d : Nat} {x : α}, idxB l = true → (ofL l).get d = some x → (d, x) ∈ l
  | [], d, x, _, h => by
    have h : (Tr.e : Tr α).get d = some x := h
    rw [Tr.get_e] at h; cases h
  | p :: l, d, x, hi, h => by
    obtain ⟨h1, h2⟩ := and2 (show (match Nat.ble p.1 8191 with | true => idxB l | false => false) = true from hi)
    have h1 := Nat.le_of_ble_eq_true h1
    have h : ((ofL l).put p.1 p.2).get d = some x := h
    by_cases e : p.1 = d
    · subst e
      rw [Tr.get_put_same (by omega)] at h
      have := Option.some.inj h
      subst this
      simp
    · rw [Tr.get_put_other e] at h
      have := ofL_get h2 h
      simp [this]

/-- A state written out. -/
noncomputable def mkSt (N nx thr : Nat) (fl : List (Nat × SV)) (ml : List (Nat × Win)) (orc : List Bool) : St :=
  { N := N, F := ofL fl, M := ofL ml, R := .e, A := .e, nx := nx, thr := thr, orc := orc, obs := [] }

/-- A row whose block has a name, by that name. -/
noncomputable def resF (A : Tr (Nat × Nat)) (x : SV) : SV :=
  match x with
  | .f v => match v with
    | .row r => match A.get r with
      | some p => .f (.sl p.1 0 (.n p.2) (.v p.1 0))
      | none => .f (.row r)
    | v => .f v
  | x => x
noncomputable def cutFr (m : Nat) (es : List E) (n : Nat) (A : Tr (Nat × Nat)) (F : Tr SV) : List (Nat × SV) → Bool
  | [] => true
  | p :: l => match F.get p.1 with
    | some y => (match cutS m es n p.2 (resF A y) with | true => cutFr m es n A F l | false => false)
    | none => false
noncomputable def cutMem (m : Nat) (es : List E) (n : Nat) (M : Tr Win) : List (Nat × Win) → Bool
  | [] => true
  | p :: l => match M.get p.1 with
    | some W => (match and3 (Nat.beq p.2.wr W.wr) (Nat.blt p.1 n) (cutL m es n p.2.cells W.cells) with | true => cutMem m es n M l | false => false)
    | none => false
def glB (n : Nat) : List (Nat × Nat) → Bool
  | [] => true
  | p :: l => match Nat.blt p.2 n with | true => glB n l | false => false
def w0B (n : Nat) : List Nat → Bool
  | [] => true
  | j :: l => match Nat.blt j n with | true => w0B n l | false => false

section
variable {P : Program} {cfg : Cfg} {w0 w : World} {ρ : Env} {a : Act}
theorem resF_sound {s : St} (hM : MemOK cfg w0 ρ s w) {x : SV} (hx : x.ok ρ s.nx) : (resF s.A x).den ρ = x.den ρ ∧ (resF s.A x).ok ρ s.nx := by
  unfold resF
  split
  · split
    · rename_i r
      split
      · rename_i p hA
        obtain ⟨j, n⟩ := p
        obtain ⟨h3, h4, h5, h6⟩ := hM.als r j n hA
        refine ⟨h5.symm, h4, h4, ?_, ?_⟩
        · simp only [E.den]; omega
        · simp only [E.den, Cp.den]; omega
      · exact ⟨rfl, hx⟩
    · exact ⟨rfl, hx⟩
  · exact ⟨rfl, hx⟩
theorem cutFr_sound {m n : Nat} {es : List E} {s : St} (hF : FrOK ρ s.nx s.N s.F a) (hM : MemOK cfg w0 ρ s w) : ∀ {l : List (Nat × SV)}, cutFr m es n s.A s.F l = true →
    ∀ d x, (d, x) ∈ l → x.ok (ρ.ext m es) n ∧ a.tmps.getD d undef = x.den (ρ.ext m es)
  | [], _, d, x, hm => by cases hm
  | p :: l, h, d, x, hm => by
    have h : (match s.F.get p.1 with | some y => (match cutS m es n p.2 (resF s.A y) with | true => cutFr m es n s.A s.F l | false => false) | none => false) = true := h
    split at h
    · rename_i y hy
      obtain ⟨h1, h2⟩ := and2 h
      rcases List.mem_cons.1 hm with e | hm
      · subst e
        obtain ⟨g1, g2⟩ := hF.get _ _ hy
        obtain ⟨r1, r2⟩ := resF_sound hM g1
        obtain ⟨c1, c2⟩ := cutS_sound h1 ρ r2
        exact ⟨c2, by rw [c1, r1]; exact g2⟩
      · exact cutFr_sound hF hM h2 d x hm
    · cases h
theorem cutMem_sound {m n : Nat} {es : List E} {s : St} : ∀ {l : List (Nat × Win)}, cutMem m es n s.M l = true →
    ∀ j W', (j, W') ∈ l → ∃ W, s.M.get j = some W ∧ W'.wr = W.wr ∧ j < n ∧ cutL m es n W'.cells W.cells = true
  | [], _, d, x, hm => by cases hm
  | p :: l, h, j, W', hm => by
    have h : (match s.M.get p.1 with | some W => (match and3 (Nat.beq p.2.wr W.wr) (Nat.blt p.1 n) (cutL m es n p.2.cells W.cells) with | true => cutMem m es n s.M l | false => false) | none => false) = true := h
    split at h
    · rename_i W hW
      obtain ⟨h1, h2⟩ := and2 h
      obtain ⟨h3, h4, h5⟩ := and3_iff h1
      rcases List.mem_cons.1 hm with e | hm
      · subst e
        exact ⟨W, hW, beq_eq h3, blt_lt h4, h5⟩
      · exact cutMem_sound h2 j W' hm
    · cases h
theorem glB_ok {n : Nat} : ∀ {l : List (Nat × Nat)}, glB n l = true → ∀ g j, (g, j) ∈ l → j < n
  | [], _, g, j, hm => by cases hm
  | p :: l, h, g, j, hm => by
    obtain ⟨h1, h2⟩ := and2 (show (match Nat.blt p.2 n with | true => glB n l | false => false) = true from h)
    rcases List.mem_cons.1 hm with e | hm
    · subst e; exact blt_lt h1
    · exact glB_ok h2 g j hm
theorem w0B_ok {n : Nat} : ∀ {l : List Nat}, w0B n l = true → ∀ j ∈ l, j < n
  | [], _, j, hm => by cases hm
  | p :: l, h, j, hm => by
    obtain ⟨h1, h2⟩ := and2 (show (match Nat.blt p n with | true => w0B n l | false => false) = true from h)
    rcases List.mem_cons.1 hm with e | hm
    · subst e; exact blt_lt h1
    · exact w0B_ok h2 j hm

/-- The memory's part of a cut. -/
noncomputable def cutMB (cfg : Cfg) (s : St) (nx : Nat) (ml : List (Nat × Win)) (m : Nat) (es : List E) : Bool :=
  and3 (idxB ml) (cutMem m es nx s.M ml) (and3 (glB nx cfg.gl) (w0B nx cfg.w0s) true)
theorem cutM_sound {s : St} {N nx thr m : Nat} {es : List E} {fl : List (Nat × SV)} {ml : List (Nat × Win)} {orc : List Bool} (h : cutMB cfg s nx ml m es = true)
    (hM : MemOK cfg w0 ρ s w) : MemOK cfg w0 (ρ.ext m es) (mkSt N nx thr fl ml orc) w := by
  obtain ⟨h1, h2, h3⟩ := and3_iff h
  obtain ⟨h4, h5, _⟩ := and3_iff h3
  have key : ∀ j W', (mkSt N nx thr fl ml orc).M.get j = some W' → ∃ W, s.M.get j = some W ∧ W'.wr = W.wr ∧ j < nx ∧ cutL m es nx W'.cells W.cells = true :=
    fun j W' hj => cutMem_sound h2 j W' (ofL_get h1 hj)
  constructor
  · exact hM.os
  · exact hM.tape
  · exact hM.output
  · exact hM.size
  · exact hM.keep
  · intro j W' hj
    obtain ⟨W, k1, k2, k3, k4⟩ := key j W' hj
    obtain ⟨c1, c2, c3⟩ := hM.cell j W k1
    obtain ⟨d1, d2, d3⟩ := cutL_sound ρ k4 c2
    refine ⟨k3, d2, fun i x hx => ?_⟩
    have e1 : (denL (ρ.ext m es) W'.cells)[i]? = some (x.den (ρ.ext m es)) := by simp [denL, hx]
    rw [d1] at e1
    simp only [denL, List.getElem?_map] at e1
    cases hy : W.cells[i]? with
    | none => rw [hy] at e1; cases e1
    | some y =>
      rw [hy] at e1
      have e1 : y.den ρ = x.den (ρ.ext m es) := by simpa using e1
      rw [← e1]
      exact c3 i y hy
  · intro j W' hj
    obtain ⟨W, k1, k2, k3, k4⟩ := key j W' hj
    exact hM.lt j W k1
  · intro j W' hj hwr i hi
    obtain ⟨W, k1, k2, k3, k4⟩ := key j W' hj
    obtain ⟨c1, c2, c3⟩ := hM.cell j W k1
    obtain ⟨d1, d2, d3⟩ := cutL_sound ρ k4 c2
    exact hM.free j W k1 (by rw [← k2]; exact hwr) i (by rw [← d3]; exact hi)
  · intro j W' hj hwr
    obtain ⟨W, k1, k2, k3, k4⟩ := key j W' hj
    exact hM.kind j W k1 (by rw [← k2]; exact hwr)
  · intro j W j' W' hj hj' hwr hne
    obtain ⟨V, k1, k2, k3, k4⟩ := key j W hj
    obtain ⟨V', k1', k2', k3', k4'⟩ := key j' W' hj'
    exact hM.sep j V j' V' k1 k1' (by rw [← k2]; exact hwr) hne
  · intro r e xs h
    have h : (Tr.e : Tr (TypeId × List FV)).get r = some (e, xs) := h
    rw [Tr.get_e] at h; cases h
  · intro r e xs g j W h
    have h : (Tr.e : Tr (TypeId × List FV)).get r = some (e, xs) := h
    rw [Tr.get_e] at h; cases h
  · intro r e xs r' e' xs' g h
    have h : (Tr.e : Tr (TypeId × List FV)).get r = some (e, xs) := h
    rw [Tr.get_e] at h; cases h
  · intro r j n h
    have h : (Tr.e : Tr (Nat × Nat)).get r = some (j, n) := h
    rw [Tr.get_e] at h; cases h
  · intro g j hm
    obtain ⟨_, g2, g3⟩ := hM.gl g j hm
    exact ⟨glB_ok h4 g j hm, g2, g3⟩
  · exact fun j hj => w0B_ok h5 j hj

/-- The state written out says what the old one said. -/
noncomputable def cutB (cfg : Cfg) (s : St) (N nx : Nat) (fl : List (Nat × SV)) (ml : List (Nat × Win)) (m : Nat) (es : List E) : Bool :=
  and3 (Nat.beq s.N N) (and3 (idxB fl) (cutFr m es nx s.A s.F fl) true) (cutMB cfg s nx ml m es)
theorem cut_sound {s : St} {N nx thr m : Nat} {es : List E} {fl : List (Nat × SV)} {ml : List (Nat × Win)} {orc : List Bool} (h : cutB cfg s N nx fl ml m es = true)
    (hF : FrOK ρ s.nx s.N s.F a) (hM : MemOK cfg w0 ρ s w) :
    FrOK (ρ.ext m es) nx N (mkSt N nx thr fl ml orc).F a ∧ MemOK cfg w0 (ρ.ext m es) (mkSt N nx thr fl ml orc) w := by
  obtain ⟨h1, h2, h3⟩ := and3_iff h
  obtain ⟨h4, h5, _⟩ := and3_iff h2
  refine ⟨⟨?_, hF.defers, fun d x hd => ?_⟩, cutM_sound h3 hM⟩
  · rw [hF.size]; exact beq_eq h1
  · exact cutFr_sound hF hM h5 d x (ofL_get h4 hd)

/-! Runs joined. -/
def Reach (P : Program) (cfg : Cfg) (w0 : World) (Q : Exit → Act → World → Prop) (k : List It) (s : St) (ρ : Env) : Prop :=
  ∀ a w, FrOK ρ s.nx s.N s.F a → MemOK cfg w0 ρ s w → wpK P Q k .normal a w
/-- Where the executor's run ends. -/
def OutR (P : Program) (cfg : Cfg) (w0 : World) (Q : Exit → Act → World → Prop) (o : Out) (ρ : Env) : Prop :=
  ∀ a w, FrOK ρ o.st.nx o.st.N o.st.F a → MemOK cfg w0 ρ o.st w → OutQ P Q o a w

theorem reach_go (hc : CfgOk P cfg) {Q : Exit → Act → World → Prop} {k : List It} {s : St} (b : Bool) (n : Nat) (hob : Obs ρ (go cfg b n k s).st.obs)
    (h : ∀ ρ', Env.le s.nx ρ ρ' → OutR P cfg w0 Q (go cfg b n k s) ρ') : Reach P cfg w0 Q k s ρ :=
  fun a w hF hM => (go_soundG hc n b).run k s Q ρ a w hF hM hob fun ρ' a' w' h1 h2 h3 => h ρ' h1 a' w' h2 h3

theorem reach_orc {Q : Exit → Act → World → Prop} {k : List It} {s : St} (orc : List Bool) (h : Reach P cfg w0 Q k { s with orc := orc } ρ) : Reach P cfg w0 Q k s ρ :=
  fun a w hF hM => h a w hF (hM.of_eq rfl rfl rfl rfl)

theorem reach_cut {Q : Exit → Act → World → Prop} {k : List It} {s : St} {N nx m : Nat} (thr : Nat) {es : List E} {fl : List (Nat × SV)} {ml : List (Nat × Win)} (orc : List Bool) (h : cutB cfg s N nx fl ml m es = true)
    (hR : Reach P cfg w0 Q k (mkSt N nx thr fl ml orc) (ρ.ext m es)) : Reach P cfg w0 Q k s ρ :=
  fun a w hF hM => hR a w (cut_sound h hF hM).1 (cut_sound (thr := thr) (orc := orc) h hF hM).2

def Out.stk : Out → List It
  | .stop k _ => k
  | _ => []
def Out.stops : Out → Bool
  | .stop _ _ => true
  | _ => false
theorem OutR.stop {Q : Exit → Act → World → Prop} {o : Out} (h : o.stops = true) (hR : Reach P cfg w0 Q o.stk o.st ρ) : OutR P cfg w0 Q o ρ := by
  cases o <;> first | exact hR | cases h
def Out.rets : Out → Bool
  | .ret _ => true
  | .done _ => true
  | _ => false

/-- What a callee's body owes: K, of the result. -/
def callQ (P : Program) (fn : Func) (K : Value → World → Prop) : Exit → Act → World → Prop :=
  bodyPost P fn fun e w => ∃ v, e = .returned v ∧ K v w
theorem OutR.back (hc : CfgOk P cfg) {fn : Func} {K : Value → World → Prop} {o : Out} {v : SV} (h : o.rets = true) (hres : resS cfg o.st fn = some v)
    (hK : ∀ w', MemOK cfg w0 ρ o.st w' → v.ok ρ o.st.nx → K (v.den ρ) w') : OutR P cfg w0 (callQ P fn K) o ρ := by
  intro a w hF hM
  obtain ⟨r1, r2⟩ := resS_sound hc hF hM hres
  have fin : a.defers = [] ∧ ∃ v, (results fn a.tmps).run P w = .ok v w ∧ ∃ u, Ending.returned v = .returned u ∧ K u w := ⟨hF.defers, _, r1, _, rfl, hK w hM r2⟩
  cases o <;> first | exact fin | cases h

/-- A call at which the executor stands. -/
structure Entry where
  f : FuncId
  fn : Func
  b : Code
  vs : List SV
  dst : Option Tmp
  k : List It
noncomputable def enter (cfg : Cfg) (k : List It) (s : St) : Option Entry :=
  match k with
  | .ops all l :: k => match l with
    | o :: l => match wantS s all o with
      | .yes => match callOf cfg s o.op with
        | some (f, fn, b, vs) => some ⟨f, fn, b, vs, o.dst, .ops all l :: k⟩
        | none => none
      | _ => none
    | [] => none
  | _ => none

theorem MemOK.conv {cfg' : Cfg} {s : St} (hM : MemOK cfg w0 ρ s w) (h1 : cfg'.gl = cfg.gl) (h2 : cfg'.w0s = cfg.w0s) : MemOK cfg' w0 ρ s w :=
  ⟨hM.os, hM.tape, hM.output, hM.size, fun i hi h => hM.keep i hi (by rw [← h2]; exact h), hM.cell, hM.lt, hM.free, fun j W h hw => by rw [h2]; exact hM.kind j W h hw, hM.sep, hM.row, hM.sepR, hM.sepRR, hM.als,
    fun g j h => hM.gl g j (by rw [← h1]; exact h), fun j h => hM.w0 j (by rw [← h2]; exact h)⟩

theorem reach_enter {cfgE : Cfg} (hc : CfgOk P cfgE) (hg : cfgE.gl = cfg.gl) (hw0 : cfgE.w0s = cfg.w0s) {Q : Exit → Act → World → Prop} {k : List It} {s : St} {e : Entry} (h : enter cfgE k s = some e) (thr : Nat)
    (hR : ∀ a, FrOK ρ s.nx s.N s.F a → Reach P cfg w0 (callQ P e.fn fun v w' => wpK P Q e.k .normal (a.put e.dst v) w') [.code e.b] (s.callee e.fn e.vs thr) ρ) :
    Reach P cfg w0 Q k s ρ := by
  intro a w hF hM
  unfold enter at h
  split at h
  · rename_i all l k
    split at h
    · rename_i o l
      split at h
      · rename_i hw
        split at h
        · rename_i f fn b vs hcall
          have h := Option.some.inj h
          subst h
          have hwy := wantS_sound hF (all := all) (o := o)
          rw [hw] at hwy
          show wpList P all (wpK P Q k) (o :: l) a w
          unfold wpList
          rw [if_pos (hwy.1 rfl)]
          refine .inl ?_
          unfold Oper.wp
          obtain ⟨c1, c2, c3, c4⟩ := callOf_sound hc hF (hM.conv hg hw0) hcall thr
          rw [c1 w]
          have hr := hR a hF _ w c4 (hM.of_eq rfl rfl rfl rfl)
          have hcalls : Calls P f (vs.map (SV.den ρ)).toArray w (fun e w => ∃ v, e = .returned v ∧ wpK P Q (.ops all l :: k) .normal (a.put o.dst v) w) := calls_of_wp c2 c3 hr
          exact hcalls.mono fun e w' hq => by
            obtain ⟨v, rfl, hq⟩ := hq
            exact hq
        · cases h
      · cases h
    · cases h
  · cases h

/-- The names below n and the numbers below m are as they were. -/
structure Ag (n m : Nat) (ρ ρ' : Env) : Prop where
  i : ∀ x, x < m → ρ'.i x = ρ.i x
  b : ∀ j, j < n → ρ'.b j = ρ.b j
  o : ∀ j, j < n → ρ'.o j = ρ.o j
  c : ∀ j, j < n → ρ'.c j = ρ.c j
  r : ∀ j, j < n → ρ'.r j = ρ.r j
theorem Ag.refl (n m : Nat) (ρ : Env) : Ag n m ρ ρ := ⟨fun _ _ => rfl, fun _ _ => rfl, fun _ _ => rfl, fun _ _ => rfl, fun _ _ => rfl⟩
theorem Ag.trans {n m : Nat} {ρ ρ' ρ'' : Env} (h : Ag n m ρ ρ') (h' : Ag n m ρ' ρ'') : Ag n m ρ ρ'' :=
  ⟨fun x hx => (h'.i x hx).trans (h.i x hx), fun x hx => (h'.b x hx).trans (h.b x hx), fun x hx => (h'.o x hx).trans (h.o x hx), fun x hx => (h'.c x hx).trans (h.c x hx), fun x hx => (h'.r x hx).trans (h.r x hx)⟩
theorem Ag.mono {n m n' m' : Nat} {ρ ρ' : Env} (h : Ag n m ρ ρ') (hn : n' ≤ n) (hm : m' ≤ m) : Ag n' m' ρ ρ' :=
  ⟨fun x hx => h.i x (by omega), fun x hx => h.b x (by omega), fun x hx => h.o x (by omega), fun x hx => h.c x (by omega), fun x hx => h.r x (by omega)⟩
theorem Ag.ofLe {n m : Nat} {ρ ρ' : Env} (h : Env.le n ρ ρ') : Ag n m ρ ρ' := ⟨fun x _ => by rw [h.i], h.b, h.o, h.c, h.r⟩
theorem Ag.ofExt (n : Nat) {m : Nat} (ρ : Env) (es : List E) : Ag n m ρ (ρ.ext m es) := ⟨fun _ hx => ρ.ext_old es hx, fun _ _ => rfl, fun _ _ => rfl, fun _ _ => rfl, fun _ _ => rfl⟩

/-- A value all of whose names are old: below n, its numbers below m. -/
def oldF (n m : Nat) (x : FV) : Bool :=
  match x with
  | .int _ e => e.lowB m
  | .bool _ => true
  | .cmp _ x y => (match x.lowB m with | true => y.lowB m | false => false)
  | .ptr j _ => Nat.blt j n
  | .sl j _ l c => and3 (Nat.blt j n) (l.lowB m) (capOkB n c)
  | .row r => Nat.blt r n
  | .ifc _ j _ => Nat.blt j n
  | .lit _ => true
def oldL (n m : Nat) : List FV → Bool
  | [] => true
  | x :: l => match oldF n m x with | true => oldL n m l | false => false
def oldS (n m : Nat) (x : SV) : Bool :=
  match x with
  | .f x => oldF n m x
  | .agg l => oldL n m l
  | .tup _ => false
def oldFr (n m : Nat) : List (Nat × SV) → Bool
  | [] => true
  | p :: l => match oldS n m p.2 with | true => oldFr n m l | false => false
theorem oldF_sound {n m n0 : Nat} {ρ ρ' : Env} (h : Ag n m ρ ρ') {x : FV} (hb : oldF n m x = true) (ho : x.ok ρ n0) : x.den ρ' = x.den ρ ∧ x.ok ρ' n := by
  cases x with
  | int k e => exact ⟨by simp only [FV.den, E.den_low h.i e hb], trivial⟩
  | bool b => exact ⟨rfl, trivial⟩
  | cmp o x y =>
    obtain ⟨h1, h2⟩ := and2 (show (match x.lowB m with | true => y.lowB m | false => false) = true from hb)
    exact ⟨by simp only [FV.den, E.den_low h.i _ h1, E.den_low h.i _ h2], trivial⟩
  | ptr j o =>
    have hj : j < n := blt_lt hb
    exact ⟨by simp only [FV.den, h.b j hj, h.o j hj], hj⟩
  | sl j o l c =>
    obtain ⟨h1, h2, h3⟩ := and3_iff hb
    have hj : j < n := blt_lt h1
    have hc : c.den ρ' = c.den ρ := by
      cases c with
      | l _ => rfl
      | v j d =>
        have : j < n := blt_lt h3
        simp only [Cp.den, h.c j this]
    have hl := E.den_low h.i _ h2
    obtain ⟨o1, o2, o3, o4⟩ := ho
    refine ⟨by simp only [FV.den, h.b j hj, h.o j hj, hl, hc], hj, capOkB_ok h3, ?_, ?_⟩
    · rw [hl]; exact o3
    · rw [hl, hc]; exact o4
  | row r => exact ⟨h.r r (blt_lt hb), blt_lt hb⟩
  | ifc t j o =>
    have hj : j < n := blt_lt hb
    exact ⟨by simp only [FV.den, h.b j hj, h.o j hj], hj⟩
  | lit v => exact ⟨rfl, trivial⟩
theorem oldL_sound {n m n0 : Nat} {ρ ρ' : Env} (h : Ag n m ρ ρ') : ∀ {l : List FV}, oldL n m l = true → okL ρ n0 l → denL ρ' l = denL ρ l ∧ okL ρ' n l
  | [], _, _ => ⟨rfl, fun _ h => by cases h⟩
  | x :: l, hb, ho => by
    obtain ⟨h1, h2⟩ := and2 (show (match oldF n m x with | true => oldL n m l | false => false) = true from hb)
    obtain ⟨a1, a2⟩ := oldF_sound h h1 (ho x (by simp))
    obtain ⟨b1, b2⟩ := oldL_sound h h2 (fun z hz => ho z (by simp [hz]))
    refine ⟨?_, ?_⟩
    · simp only [denL, List.map_cons] at b1 ⊢
      rw [a1, b1]
    · intro z hz
      rcases List.mem_cons.1 hz with rfl | hz
      · exact a2
      · exact b2 z hz
theorem oldS_sound {n m n0 : Nat} {ρ ρ' : Env} (h : Ag n m ρ ρ') {x : SV} (hb : oldS n m x = true) (ho : x.ok ρ n0) : x.den ρ' = x.den ρ ∧ x.ok ρ' n := by
  cases x with
  | f x => exact oldF_sound h hb ho
  | agg l =>
    obtain ⟨h1, h2⟩ := oldL_sound h hb ho
    exact ⟨by simp only [SV.den, h1], h2⟩
  | tup l => cases hb
theorem oldFr_mem {n m : Nat} : ∀ {l : List (Nat × SV)}, oldFr n m l = true → ∀ p ∈ l, oldS n m p.2 = true
  | [], _, p, hp => by cases hp
  | q :: l, hb, p, hp => by
    obtain ⟨h1, h2⟩ := and2 (show (match oldS n m q.2 with | true => oldFr n m l | false => false) = true from hb)
    rcases List.mem_cons.1 hp with rfl | hp
    · exact h1
    · exact oldFr_mem h2 p hp

/-- A frame written out stays true where its names do. -/
theorem FrOK.ag {n m N : Nat} {ρ ρ' : Env} {fl : List (Nat × SV)} (hF : FrOK ρ n N (ofL fl) a) (h : Ag n m ρ ρ') (hi : idxB fl = true) (hb : oldFr n m fl = true) : FrOK ρ' n N (ofL fl) a :=
  ⟨hF.size, hF.defers, fun d x hd => by
    obtain ⟨h1, h2⟩ := hF.get d x hd
    obtain ⟨c1, c2⟩ := oldS_sound h (oldFr_mem hb _ (ofL_get hi hd)) h1
    exact ⟨c2, by rw [c1]; exact h2⟩⟩

/-- On behind a call. -/
theorem reach_back {Q : Exit → Act → World → Prop} {k : List It} {n m N : Nat} {ρ ρ' : Env} {fl : List (Nat × SV)} {s1 : St} {d : Option Tmp} {v : SV} (orc : List Bool) (thr : Nat) {s2 : St}
    (hF : FrOK ρ n N (ofL fl) a) (h : Ag n m ρ ρ') (hi : idxB fl = true) (hb : oldFr n m fl = true) (hn : Nat.ble n s1.nx = true)
    (hM : MemOK cfg w0 ρ' s1 w) (hv : v.ok ρ' s1.nx)
    (hp : ({ s1 with N := N, F := ofL fl, thr := thr, orc := orc, obs := [] } : St).put d v = some s2)
    (hR : Reach P cfg w0 Q k s2 ρ') : wpK P Q k .normal (a.put d (v.den ρ')) w := by
  have hF1 := (hF.ag h hi hb).le (Env.le.refl _ _) (Nat.le_of_ble_eq_true hn)
  exact hR _ _ (FrOK.putS (s := { s1 with N := N, F := ofL fl, thr := thr, orc := orc, obs := [] }) hF1 hv hp) (MemOK.putS (s := { s1 with N := N, F := ofL fl, thr := thr, orc := orc, obs := [] }) (hM.of_eq rfl rfl rfl rfl) hp)

/-- A loop, by a state written out that holds ahead of each round. -/
theorem reach_loop {γ : Type} {Q : Exit → Act → World → Prop} {c : Code} {k : List It} {s : St} (S : St) (I : γ → Env → Prop) (μ : γ → Nat) (g0 : γ) (ρ0 : Env)
    (h0 : I g0 ρ0) (h1 : ∀ a w, FrOK ρ s.nx s.N s.F a → MemOK cfg w0 ρ s w → FrOK ρ0 S.nx S.N S.F a ∧ MemOK cfg w0 ρ0 S w)
    (round : ∀ g ρ, I g ρ → Reach P cfg w0 (Exit.then (fun a' w' => ∃ g', (∃ ρ', I g' ρ' ∧ FrOK ρ' S.nx S.N S.F a' ∧ MemOK cfg w0 ρ' S w') ∧ μ g' < μ g) (wpK P Q k)) [.code c] S ρ) :
    Reach P cfg w0 Q (.code (.loop c) :: k) s ρ := by
  intro a w hF hM
  obtain ⟨e1, e2⟩ := h1 a w hF hM
  show (Code.loop c).wp P (wpK P Q k) a w
  refine wp_loop_ghost (fun g a w => ∃ ρ', I g ρ' ∧ FrOK ρ' S.nx S.N S.F a ∧ MemOK cfg w0 ρ' S w) μ ?_ g0 a w ⟨ρ0, h0, e1, e2⟩
  intro g a w ⟨ρ', i1, i2, i3⟩
  exact Code.wp_mono (fun e a w q => by cases e <;> exact q) (round g ρ' i1 a w i2 i3)

def Out.dones : Out → Bool
  | .done _ => true
  | _ => false
/-- A round's end. -/
theorem OutR.round {A : Act → World → Prop} {B : Exit → Act → World → Prop} {o : Out} (h : o.dones = true) (hA : ∀ a w, FrOK ρ o.st.nx o.st.N o.st.F a → MemOK cfg w0 ρ o.st w → A a w) : OutR P cfg w0 (Exit.then A B) o ρ := by
  intro a w hF hM
  cases o <;> first | cases h | skip
  exact hA a w hF hM
def Out.exits (k : List It) : Out → Option (List It)
  | .exit id _ => dropTo id k
  | _ => none
/-- A loop's end. -/
theorem OutR.left {A : Act → World → Prop} {Q : Exit → Act → World → Prop} {k k' : List It} {o : Out} (h : o.exits k = some k') (hR : Reach P cfg w0 Q k' o.st ρ) : OutR P cfg w0 (Exit.then A (wpK P Q k)) o ρ := by
  intro a w hF hM
  cases o <;> first | cases h | skip
  exact wpK_exit h (hR a w hF hM)

/-- The function of an entry, by its number. -/
theorem enter_fn {k : List It} {s : St} {e : Entry} (h : enter cfg k s = some e) : findF e.f cfg.fns = some e.fn ∧ e.fn.body = some e.b := by
  unfold enter at h
  split at h
  · split at h
    · split at h
      · split at h
        · rename_i hcall
          have h := Option.some.inj h
          subst h
          unfold callOf at hcall
          split at hcall
          · split at hcall
            · split at hcall
              · rename_i fn' vs' hfn hvs
                split at hcall
                · rename_i b' hb h1 h2
                  have hcall := Option.some.inj hcall
                  simp only [Prod.mk.injEq] at hcall
                  obtain ⟨rfl, rfl, rfl, rfl⟩ := hcall
                  exact ⟨hfn, hb⟩
                · cases hcall
              · cases hcall
            · cases hcall
          · cases hcall
        · cases h
      · cases h
    · cases h
  · cases h

/-- A row gets its block's name. -/
noncomputable def matB (s : St) (r : Nat) : Option (List FV) :=
  match s.R.get r, Nat.ble s.nx 8191 with
  | some p, true => match p.2 with
    | _ :: _ => some p.2
    | [] => none
  | _, _ => none
noncomputable def St.matR (s : St) (r : Nat) : St :=
  match matB s r with
  | some xs => s.mat r xs
  | none => s
theorem reach_mat {Q : Exit → Act → World → Prop} {k : List It} {s : St} (r : Nat) (h : ∀ ρ', Env.le s.nx ρ ρ' → Reach P cfg w0 Q k (s.matR r) ρ') : Reach P cfg w0 Q k s ρ := by
  intro a w hF hM
  cases hm : matB s r with
  | none =>
    have := h ρ (.refl _ _)
    unfold St.matR at this
    rw [hm] at this
    exact this a w hF hM
  | some xs =>
    have hx := hm
    unfold matB at hx
    split at hx
    · rename_i p hp hb
      obtain ⟨e, ys⟩ := p
      simp only at hx
      split at hx
      · rename_i y l
        have hx := Option.some.inj hx
        subst hx
        have hn := Nat.le_of_ble_eq_true hb
        obtain ⟨ρ', m2, m3⟩ := hM.mat hp (by omega)
        have hR := h ρ' m2
        unfold St.matR at hR
        rw [hm] at hR
        exact hR a w (hF.le m2 (Nat.le_succ _)) m3
      · cases hx
    · cases hx

/-- A loop on top. -/
def loopOf (k : List It) : Option (Code × List It) :=
  match k with
  | .code (.loop c) :: k => some (c, k)
  | _ => none
theorem loopOf_eq {k : List It} {c : Code} {k' : List It} (h : loopOf k = some (c, k')) : k = .code (.loop c) :: k' := by
  unfold loopOf at h
  split at h
  · have h := Option.some.inj h
    simp only [Prod.mk.injEq] at h
    obtain ⟨rfl, rfl⟩ := h
    rfl
  · cases h

def eOf (x : Option SV) : E :=
  match x with
  | some (.f (.int _ e)) => e
  | _ => .n 0
def eCell (x : FV) : E :=
  match x with
  | .int _ e => e
  | _ => .n 0
def eCells : List FV → List E
  | [] => []
  | x :: l => eCell x :: eCells l
def nilB {α : Type} : List α → Bool
  | [] => true
  | _ => false
theorem Obs.nil {l : List Ob} (h : nilB l = true) (ρ : Env) : Obs ρ l := by
  cases l with
  | nil => intro ob hob; cases hob
  | cons _ _ => cases h

def cmpEq (a b : BinOp) : Bool :=
  match a, b with
  | .eql, .eql | .neq, .neq | .lss, .lss | .leq, .leq | .gtr, .gtr | .geq, .geq => true
  | _, _ => false
theorem cmpEq_eq {a b : BinOp} (h : cmpEq a b = true) : a = b := by cases a <;> cases b <;> first | rfl | cases h
def bEq (a b : Bool) : Bool := match a, b with | true, true => true | false, false => true | _, _ => false
theorem bEq_eq {a b : Bool} (h : bEq a b = true) : a = b := by cases a <;> cases b <;> first | rfl | cases h
def obB (a b : Ob) : Bool :=
  match a, b with
  | .c o x y t, .c o' x' y' t' => and3 (cmpEq o o') (E.beq x x') (and3 (E.beq y y') (bEq t t') true)
  | .rng x, .rng y => E.beq x y
  | _, _ => false
theorem obB_eq {a b : Ob} (h : obB a b = true) : a = b := by
  unfold obB at h
  split at h
  · obtain ⟨h1, h2, h3⟩ := and3_iff h
    obtain ⟨h4, h5, _⟩ := and3_iff h3
    rw [cmpEq_eq h1, E.beq_eq _ _ h2, E.beq_eq _ _ h4, bEq_eq h5]
  · rw [E.beq_eq _ _ h]
  · cases h
def obsB : List Ob → List Ob → Bool
  | [], l => nilB l
  | x :: l, l' => (match l' with | y :: l' => (match obB x y with | true => obsB l l' | false => false) | [] => false)
theorem obsB_eq : ∀ {l l' : List Ob}, obsB l l' = true → l = l'
  | [], l', h => by cases l' <;> first | rfl | cases h
  | x :: l, l', h => by
    cases l' with
    | nil => cases h
    | cons y l' =>
      obtain ⟨h1, h2⟩ := and2 (show (match obB x y with | true => obsB l l' | false => false) = true from h)
      rw [obB_eq h1, obsB_eq h2]

/-- To the place where the executor stands, by a state written out. -/
theorem reach_to (hc : CfgOk P cfg) {Q : Exit → Act → World → Prop} {k : List It} {s : St} (b : Bool) (n : Nat) {N nx m : Nat} (thr : Nat) {es : List E} {fl : List (Nat × SV)} {ml : List (Nat × Win)} (orc : List Bool)
    (h1 : (go cfg b n k s).stops = true) (h2 : nilB (go cfg b n k s).st.obs = true) (h3 : cutB cfg (go cfg b n k s).st N nx fl ml m es = true)
    (hR : ∀ ρ', Env.le s.nx ρ ρ' → Reach P cfg w0 Q (go cfg b n k s).stk (mkSt N nx thr fl ml orc) (ρ'.ext m es)) : Reach P cfg w0 Q k s ρ :=
  reach_go hc b n (Obs.nil h2 ρ) fun ρ' hle => OutR.stop h1 (reach_cut thr orc h3 (hR ρ' hle))
/-- To a callee's end. -/
theorem reach_ret (hc : CfgOk P cfg) {fn : Func} {K : Value → World → Prop} {k : List It} {s : St} (b : Bool) (n : Nat) {v : SV} (h1 : (go cfg b n k s).rets = true) (h2 : Obs ρ (go cfg b n k s).st.obs)
    (h3 : resS cfg (go cfg b n k s).st fn = some v)
    (hK : ∀ ρ' w', Env.le s.nx ρ ρ' → MemOK cfg w0 ρ' (go cfg b n k s).st w' → v.ok ρ' (go cfg b n k s).st.nx → K (v.den ρ') w') : Reach P cfg w0 (callQ P fn K) k s ρ :=
  reach_go hc b n h2 fun ρ' hle => OutR.back hc h1 h3 fun w' hM hv => hK ρ' w' hle hM hv

def fvEq (x y : FV) : Bool :=
  match x, y with
  | .int k e, .int k' e' => and3 (kEq k k') (E.beq e e') true
  | .ptr j o, .ptr j' o' => and3 (Nat.beq j j') (Nat.beq o o') true
  | .sl j o l c, .sl j' o' l' c' => and3 (and3 (Nat.beq j j') (Nat.beq o o') true) (E.beq l l') (capEq c c')
  | .bool a, .bool b => bEq a b
  | _, _ => false
theorem fvEq_eq {x y : FV} (h : fvEq x y = true) : x = y := by
  unfold fvEq at h
  split at h
  · obtain ⟨h1, h2, _⟩ := and3_iff h
    rw [kEq_eq h1, E.beq_eq _ _ h2]
  · obtain ⟨h1, h2, _⟩ := and3_iff h
    rw [beq_eq h1, beq_eq h2]
  · obtain ⟨h1, h2, h3⟩ := and3_iff h
    obtain ⟨h4, h5, _⟩ := and3_iff h1
    rw [beq_eq h4, beq_eq h5, E.beq_eq _ _ h2, capEq_eq h3]
  · rw [bEq_eq h]
  · cases h
def svsEq : List SV → List FV → Bool
  | [], l => nilB l
  | x :: l, l' => (match x, l' with | .f x, y :: l' => (match fvEq x y with | true => svsEq l l' | false => false) | _, _ => false)
theorem svsEq_eq : ∀ {l : List SV} {l' : List FV}, svsEq l l' = true → l = l'.map SV.f
  | [], l', h => by cases l' <;> first | rfl | cases h
  | x :: l, l', h => by
    cases l' with
    | nil => cases x <;> cases h
    | cons y l' =>
      cases x with
      | f x =>
        obtain ⟨h1, h2⟩ := and2 (show (match fvEq x y with | true => svsEq l l' | false => false) = true from h)
        rw [fvEq_eq h1, svsEq_eq h2]; rfl
      | agg _ => cases h
      | tup _ => cases h

/-- A call at which the executor stands, by a contract. -/
theorem reach_calls {cfgE : Cfg} (hc : CfgOk P cfgE) (hg : cfgE.gl = cfg.gl) (hw0 : cfgE.w0s = cfg.w0s) {Q : Exit → Act → World → Prop} {k : List It} {s : St} {e : Entry} (h : enter cfgE k s = some e)
    (hR : ∀ a w, FrOK ρ s.nx s.N s.F a → MemOK cfg w0 ρ s w → Calls P e.f (e.vs.map (SV.den ρ)).toArray w fun en w' => ∃ v, en = .returned v ∧ wpK P Q e.k .normal (a.put e.dst v) w') : Reach P cfg w0 Q k s ρ := by
  intro a w hF hM
  have hR := hR a w hF hM
  unfold enter at h
  split at h
  · rename_i all l k
    split at h
    · rename_i o l
      split at h
      · rename_i hw
        split at h
        · rename_i f fn b vs hcall
          have h := Option.some.inj h
          subst h
          have hwy := wantS_sound hF (all := all) (o := o)
          rw [hw] at hwy
          show wpList P all (wpK P Q k) (o :: l) a w
          unfold wpList
          rw [if_pos (hwy.1 rfl)]
          refine .inl ?_
          unfold Oper.wp
          obtain ⟨c1, c2, c3, c4⟩ := callOf_sound hc hF (hM.conv hg hw0) hcall 0
          rw [c1 w]
          exact hR.mono fun e w' hq => by
            obtain ⟨v, rfl, hq⟩ := hq
            exact hq
        · cases h
      · cases h
    · cases h
  · cases h

/-- All its names are between lo and hi. -/
def E.rngB (lo hi : Nat) : E → Bool
  | .v i => (match Nat.ble lo i with | true => Nat.blt i hi | false => false)
  | .n _ => true
  | .add x y => (match E.rngB lo hi x with | true => E.rngB lo hi y | false => false)
  | .sub x y => (match E.rngB lo hi x with | true => E.rngB lo hi y | false => false)
  | .mul x y => (match E.rngB lo hi x with | true => E.rngB lo hi y | false => false)
  | .bin _ _ x y => (match E.rngB lo hi x with | true => E.rngB lo hi y | false => false)
  | .shl _ x _ => E.rngB lo hi x
  | .shr x _ => E.rngB lo hi x
  | .cv _ x => E.rngB lo hi x
theorem E.den_rng {lo hi : Nat} {ρ ρ' : Nat → Int} (h : ∀ i, lo ≤ i → i < hi → ρ' i = ρ i) : ∀ e : E, E.rngB lo hi e = true → e.den ρ' = e.den ρ
  | .v i, hb => by
    obtain ⟨h1, h2⟩ := and2 (show (match Nat.ble lo i with | true => Nat.blt i hi | false => false) = true from hb)
    exact h i (Nat.le_of_ble_eq_true h1) (blt_lt h2)
  | .n z, _ => rfl
  | .add x y, hb => by
    obtain ⟨h1, h2⟩ := and2 (b := E.rngB lo hi y) (a := E.rngB lo hi x) hb
    simp only [E.den, E.den_rng h x h1, E.den_rng h y h2]
  | .sub x y, hb => by
    obtain ⟨h1, h2⟩ := and2 (b := E.rngB lo hi y) (a := E.rngB lo hi x) hb
    simp only [E.den, E.den_rng h x h1, E.den_rng h y h2]
  | .mul x y, hb => by
    obtain ⟨h1, h2⟩ := and2 (b := E.rngB lo hi y) (a := E.rngB lo hi x) hb
    simp only [E.den, E.den_rng h x h1, E.den_rng h y h2]
  | .bin _ _ x y, hb => by
    obtain ⟨h1, h2⟩ := and2 (b := E.rngB lo hi y) (a := E.rngB lo hi x) hb
    simp only [E.den, E.den_rng h x h1, E.den_rng h y h2]
  | .shl _ x _, hb => by simp only [E.den, E.den_rng h x hb]
  | .shr x _, hb => by simp only [E.den, E.den_rng h x hb]
  | .cv _ x, hb => by simp only [E.den, E.den_rng h x hb]
def rngL (lo hi : Nat) : List E → Bool
  | [] => true
  | e :: l => (match E.rngB lo hi e with | true => rngL lo hi l | false => false)
theorem rngL_get {lo hi : Nat} : ∀ {l : List E} {k : Nat} {e : E}, rngL lo hi l = true → l[k]? = some e → E.rngB lo hi e = true
  | [], k, e, _, h => by simp at h
  | x :: l, k, e, hb, h => by
    obtain ⟨h1, h2⟩ := and2 (show (match E.rngB lo hi x with | true => rngL lo hi l | false => false) = true from hb)
    cases k with
    | zero =>
      have : x = e := by simpa using h
      subst this; exact h1
    | succ k => exact rngL_get h2 (by simpa using h)
def lenB {α : Type} : List α → Nat → Bool
  | [], n => Nat.beq n 0
  | _ :: l, n => (match n with | 0 => false | n + 1 => lenB l n)
theorem lenB_eq {α : Type} : ∀ {l : List α} {n : Nat}, lenB l n = true → l.length = n
  | [], n, h => (beq_eq (show Nat.beq n 0 = true from h)).symm
  | _ :: l, 0, h => by cases h
  | _ :: l, n + 1, h => by simp [lenB_eq (l := l) (n := n) h]
end
end Go.Sx
