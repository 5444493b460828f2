/- A symbolic executor over the model, part seven, second half: a region that leaves its order open and whose first operations read or make new variables. -/
import Derived.Test.YtgoogcbibcgcmaaSxG
namespace Go.Sx
open Go

section
variable {P : Program} {ops : Array Oper} {md : Region.Mode} {Q : Exit → Act → World → Prop}

/-- The first n are listed. -/
def headL (n m : Nat) : Array Bool := (List.replicate n true ++ List.replicate (m - n) false).toArray

/-- Each of the first n waits for earlier ones alone. -/
def Region.backB (md : Region.Mode) (ops : Array Oper) (n : Nat) : Bool :=
  (List.range n).all fun i => match ops[i]? with
    | some o => o.after.toList.all fun e => match Region.binds md e with | true => decide (e.on < i) | false => true
    | none => false

theorem countP_set {n i : Nat} {listed : Array Bool} (hi : i < n) (hu : listed.getD i false = false) (hsz : i < listed.size) :
    (List.range n).countP (fun j => !(listed.setIfInBounds i true).getD j false) + 1 = (List.range n).countP (fun j => !listed.getD j false) := by
  induction n with
  | zero => omega
  | succ n ih =>
    rw [List.range_succ, List.countP_append, List.countP_append, List.countP_singleton, List.countP_singleton]
    by_cases hin : i = n
    · subst hin
      have h1 : (List.range i).countP (fun j => !(listed.setIfInBounds i true).getD j false) = (List.range i).countP (fun j => !listed.getD j false) := by
        apply List.countP_congr
        intro j hj
        have : j < i := by simpa using hj
        rw [getD_set_ne false (by omega)]
      have h2 : (listed.setIfInBounds i true).getD i false = true := by simp [hsz]
      rw [h1, h2, hu]
      simp
    · rw [getD_set_ne false hin]
      have := ih (by omega)
      omega

theorem ready_some {n : Nat} {listed : Array Bool} (hback : Region.backB md ops n = true) (hsz : listed.size = ops.size) (hn : n ≤ ops.size) {i : Nat} (hi : i < n) (hu : listed.getD i false = false) :
    Region.ready md ops listed ≠ [] := by
  induction i using Nat.strongRecOn with
  | _ i ih =>
    by_cases h : ∃ j, j < i ∧ listed.getD j false = false
    · obtain ⟨j, hj, hju⟩ := h
      exact ih j hj (by omega) hju
    · have hio : i < ops.size := by omega
      have hmem : i ∈ Region.ready md ops listed := by
        rw [mem_ready]
        refine ⟨getD_in (by omega) hu, ops[i], by simp [hio], fun e he hb => ?_⟩
        unfold Region.backB at hback
        rw [List.all_eq_true] at hback
        have h1 := hback i (by simpa using hi)
        simp only [hio, Array.getElem?_eq_getElem] at h1
        rw [List.all_eq_true] at h1
        have h2 := h1 e (by simpa using he)
        rw [hb] at h2
        have h3 : e.on < i := by simpa using h2
        cases hl : listed.getD e.on false with
        | true => rfl
        | false => exact absurd ⟨_, h3, hl⟩ h
      intro he
      rw [he] at hmem
      cases hmem

theorem wpAny_heads {n : Nat} (J : Array Bool → Act → World → Prop) (hs : Region.sinkB md ops n = true) (hch : Region.chainB md ops n = true) (hn : n < ops.size)
    (hback : Region.backB md ops n = true) (hseq : Region.seqB md ops (ops.size - n) n (headL n ops.size) = true)
    (step : ∀ listed a w i o, HeadInv md ops n listed → i < n → ops[i]? = some o → i ∈ Region.ready md ops listed → J listed a w →
      wpOp P ops Q i (fun a' w' => J (listed.setIfInBounds i true) a' w') a w)
    (hend : ∀ a w, J (headL n ops.size) a w → wpList P ops Q (ops.toList.drop n) a w) :
    ∀ (f : Nat) (listed : Array Bool) (a : Act) (w : World), HeadInv md ops n listed → (List.range n).countP (fun i => !listed.getD i false) = f → J listed a w →
      wpAny P md ops Q (f + (ops.size - n)) listed a w := by
  intro f
  induction f with
  | zero =>
    intro listed a w inv hc hJ
    have hall : ∀ i, i < n → listed.getD i false = true := by
      intro i hi
      rw [List.countP_eq_zero] at hc
      have := hc i (by simpa using hi)
      simpa using this
    have heq : listed = headL n ops.size := by
      have hsz2 : (headL n ops.size).size = ops.size := by simp [headL]; omega
      refine Array.ext (by rw [inv.size, hsz2]) fun i h1 h2 => ?_
      by_cases hi : i < n
      · have := hall i hi
        simp [h1] at this
        rw [this]
        simp [headL, hi]
      · have := inv.tail i (by omega) (by rw [← inv.size]; exact h1)
        simp [h1] at this
        rw [this]
        simp only [headL, List.getElem_toArray]
        rw [List.getElem_append_right (by simp; omega), List.getElem_replicate]
    subst heq
    rw [Nat.zero_add]
    have hdl : (ops.toList.drop n).length = ops.size - n := by simp
    have := wpAny_of_seq (md := md) (Q' := Q) (P := P) (ops.toList.drop n) n (headL n ops.size) a w (fun j => by simp [List.getElem?_drop]) (by rw [hdl]; exact hseq) (hend a w hJ)
    rwa [hdl] at this
  | succ f ih =>
    intro listed a w inv hc hJ
    have hex : ∃ i, i < n ∧ listed.getD i false = false := by
      have : 0 < (List.range n).countP (fun i => !listed.getD i false) := by omega
      rw [List.countP_pos_iff] at this
      obtain ⟨i, hi, hu⟩ := this
      exact ⟨i, by simpa using hi, by simpa using hu⟩
    obtain ⟨i0, hi0, hu0⟩ := hex
    rw [show f + 1 + (ops.size - n) = (f + (ops.size - n)) + 1 by omega]
    refine ⟨fun h0 => absurd h0 (ready_some hback inv.size (by omega) hi0 hu0), fun i hi => ?_⟩
    have hin : i < n := Nat.lt_of_not_le fun h => tail_waits hs hch hn inv _ i0 rfl hi0 (getD_in (by rw [inv.size]; omega) hu0) i h hi
    obtain ⟨hun, o, ho, _⟩ := mem_ready.1 hi
    refine wpOp_mono (fun a' w' hJ' => ?_) (step listed a w i o inv hin ho hi hJ)
    have hc' := countP_set (n := n) hin (getD_both hun) (by rw [inv.size]; omega)
    exact ih _ a' w' (inv.set hi hin) (by omega) hJ'
end

theorem blt_lt' {a b : Nat} (h : Nat.blt a b = true) : a < b := by
  have : Nat.ble (a + 1) b = true := h
  exact Nat.le_of_ble_eq_true this

/-! New blocks that no name is given to yet. -/
def NewB (ρ : Env) (w : World) (b : Nat) (l : List FV) : Prop :=
  b < w.heap.size ∧ (∀ k x, l[k]? = some x → w.cell? ⟨b, k, none⟩ = some (x.den ρ)) ∧ ∀ k, k < l.length → w.frozen? ⟨b, k, none⟩ = false
theorem NewB.alloc0 {ρ : Env} {w : World} {b : Nat} {l : List FV} (h : NewB ρ w b l) (o : Obj) : NewB ρ (w.alloc o) b l := by
  obtain ⟨h1, h2, h3⟩ := h
  refine ⟨by simp; omega, fun k x hx => ?_, fun k hk => ?_⟩
  · rw [World.cell?_alloc_lt w _ _ h1]
    exact h2 k x hx
  · rw [World.frozen?_alloc_old w _ _ (by simp; omega)]
    exact h3 k hk
theorem NewB.new (ρ : Env) (w : World) (l : List FV) (t : TypeId) : NewB ρ (w.alloc (.cells (denL ρ l).toArray t)) w.heap.size l :=
  ⟨by simp, fun k x hx => by rw [World.cell?_alloc_new]; simp [denL, hx], fun k _ => World.frozen?_alloc_at _ _ _ _ rfl⟩

inductive HI where
  | pv (v : SV)
  | al (l : List FV)

/-- What a listed item says. -/
def ItOK (ρ : Env) (s : St) (hs0 : Nat) (a : Act) (w : World) (β : Nat) (d : Tmp) : HI → Prop
  | .pv v => v.ok ρ s.nx ∧ a.tmps.getD d undef = v.den ρ
  | .al l => okL ρ 0 l ∧ a.tmps.getD d undef = .pointer (some ⟨β, 0, none⟩) ∧ hs0 ≤ β ∧ NewB ρ w β l

def appX {α : Type} : List α → List α → List α
  | [], m => m
  | x :: l, m => x :: appX l m
theorem appX_eq {α : Type} : ∀ l m : List α, appX l m = l ++ m
  | [], m => rfl
  | x :: l, m => by simp [appX, appX_eq l m]

noncomputable def putPreds (acc : List (Tmp × HI)) : List Edge → Tr SV → Tr SV
  | [], F => F
  | e :: l, F => match Region.binds .any e with
    | true => match nth? acc e.on with
      | some p => match p.2 with
        | .pv v => putPreds acc l (F.put p.1 v)
        | .al _ => putPreds acc l F
      | none => putPreds acc l F
    | false => putPreds acc l F

theorem putPreds_get (acc : List (Tmp × HI)) : ∀ (l : List Edge) (F : Tr SV) (d : Tmp) (x : SV), (putPreds acc l F).get d = some x → (∀ p ∈ acc, p.1 < 8192) →
    F.get d = some x ∨ ∃ e ∈ l, Region.binds .any e = true ∧ acc[e.on]? = some (d, .pv x)
  | [], F, d, x, h, _ => .inl h
  | e :: l, F, d, x, h, hlt => by
    have tail : ∀ F', (putPreds acc l F').get d = some x → (F'.get d = some x → F.get d = some x ∨ ∃ e' ∈ e :: l, Region.binds .any e' = true ∧ acc[e'.on]? = some (d, .pv x)) →
        F.get d = some x ∨ ∃ e' ∈ e :: l, Region.binds .any e' = true ∧ acc[e'.on]? = some (d, .pv x) := by
      intro F' h1 h2
      rcases putPreds_get acc l F' d x h1 hlt with h1 | ⟨e', he', hb, hx⟩
      · exact h2 h1
      · exact .inr ⟨e', by simp [he'], hb, hx⟩
    unfold putPreds at h
    split at h
    · rename_i hb
      split at h
      · rename_i p hp
        rw [nth?_eq] at hp
        split at h
        · rename_i v hv
          refine tail _ h fun h1 => ?_
          have hp8 := hlt p (List.mem_of_getElem? hp)
          by_cases e1 : p.1 = d
          · subst e1
            rw [Tr.get_put_same hp8] at h1
            have h1 := Option.some.inj h1
            subst h1
            refine .inr ⟨e, by simp, hb, ?_⟩
            rw [hp]
            obtain ⟨p1, p2⟩ := p
            simp only at hv
            rw [hv]
          · rw [Tr.get_put_other e1] at h1
            exact .inl h1
        · exact tail _ h .inl
      · exact tail _ h .inl
    · exact tail _ h .inl

/-- The items of the operations, one behind the other. -/
noncomputable def headItem (cfg : Cfg) (s : St) (F0 : Tr SV) (acc : List (Tmp × HI)) (o : Oper) : Option (Tmp × HI) :=
  match o.guard with
  | some _ => none
  | none => match o.dst with
    | none => none
    | some d => match Nat.blt d s.N, Nat.ble d 8191 with
      | true, true => match o.op with
        | .alloc t => match findT t cfg.tabs with
          | some td => match zeroL td.zero with
            | some l => some (d, .al l)
            | none => none
          | none => none
        | op => match pureOp cfg { s with F := putPreds acc o.after.toList F0 } op with
          | some r => match r.obs with
            | [] => some (d, .pv r.v)
            | _ => none
          | none => none
      | _, _ => none
noncomputable def headItems (cfg : Cfg) (s : St) (F0 : Tr SV) (acc : List (Tmp × HI)) : List Oper → Option (List (Tmp × HI))
  | [] => some acc
  | o :: l => match headItem cfg s F0 acc o with
    | some p => headItems cfg s F0 (appX acc [p]) l
    | none => none

theorem headItems_sound {cfg : Cfg} {s : St} {F0 : Tr SV} : ∀ (l : List Oper) (acc its : List (Tmp × HI)), headItems cfg s F0 acc l = some its →
    its.length = acc.length + l.length ∧ its.take acc.length = acc ∧ ∀ k o, l[k]? = some o → ∃ p, its[acc.length + k]? = some p ∧ headItem cfg s F0 (its.take (acc.length + k)) o = some p
  | [], acc, its, h => by
    have h := Option.some.inj h
    subst h
    exact ⟨by simp, by simp, fun k o hk => by simp at hk⟩
  | o :: l, acc, its, h => by
    unfold headItems at h
    split at h
    · rename_i p hp
      rw [appX_eq] at h
      obtain ⟨h1, h2, h3⟩ := headItems_sound l _ its h
      simp only [List.length_append, List.length_cons, List.length_nil] at h1 h2 h3
      have h4 : its.take acc.length = acc := by
        have := congrArg (List.take acc.length) h2
        rw [List.take_take] at this
        rw [Nat.min_eq_left (by omega)] at this
        rw [this]; simp
      have h5 : its[acc.length]? = some p := by
        have : (its.take (acc.length + (0 + 1)))[acc.length]? = some p := by rw [h2]; simp
        rw [List.getElem?_take] at this
        simpa using this
      refine ⟨by simp; omega, h4, fun k o' hk => ?_⟩
      cases k with
      | zero =>
        have : o = o' := by simpa using hk
        subst this
        exact ⟨p, h5, by rw [Nat.add_zero, h4]; exact hp⟩
      | succ k =>
        obtain ⟨q, q1, q2⟩ := h3 k o' (by simpa using hk)
        exact ⟨q, by rw [← q1]; congr 1; omega, by rw [← q2]; congr 2; omega⟩
    · cases h

/-! The frame without the slots that the operations fill. -/
noncomputable def delAll : List Oper → Tr SV → Tr SV
  | [], F => F
  | o :: l, F => match o.dst with
    | some d => delAll l (F.del d)
    | none => delAll l F
theorem delAll_get : ∀ (l : List Oper) (F : Tr SV) (d : Tmp) (x : SV), (∀ o ∈ l, ∀ d, o.dst = some d → d < 8192) → (delAll l F).get d = some x → F.get d = some x ∧ ∀ o ∈ l, o.dst ≠ some d
  | [], F, d, x, _, h => ⟨h, fun o ho => by cases ho⟩
  | o :: l, F, d, x, hlt, h => by
    have hlt' : ∀ o ∈ l, ∀ d, o.dst = some d → d < 8192 := fun o' ho' => hlt o' (by simp [ho'])
    unfold delAll at h
    split at h
    · rename_i d' hd'
      obtain ⟨h1, h2⟩ := delAll_get l _ d x hlt' h
      by_cases e : d' = d
      · subst e
        rw [Tr.get_del_same (hlt o (by simp) d' hd')] at h1; cases h1
      · rw [Tr.get_del_other e] at h1
        refine ⟨h1, fun o' ho' => ?_⟩
        rcases List.mem_cons.1 ho' with rfl | ho'
        · rw [hd']; exact fun h => e (Option.some.inj h)
        · exact h2 o' ho'
    · rename_i hd'
      obtain ⟨h1, h2⟩ := delAll_get l _ d x hlt' h
      refine ⟨h1, fun o' ho' => ?_⟩
      rcases List.mem_cons.1 ho' with rfl | ho'
      · rw [hd']; exact fun h => by cases h
      · exact h2 o' ho'

def memN (d : Nat) : List (Tmp × HI) → Bool
  | [] => false
  | p :: l => match Nat.beq p.1 d with | true => true | false => memN d l
def noDup : List (Tmp × HI) → Bool
  | [] => true
  | p :: l => match memN p.1 l with | true => false | false => noDup l
theorem memN_of {d : Nat} : ∀ {l : List (Tmp × HI)} {p : Tmp × HI}, p ∈ l → p.1 = d → memN d l = true
  | [], p, h, _ => by cases h
  | q :: l, p, h, e => by
    unfold memN
    split
    · rfl
    · rename_i hb
      rcases List.mem_cons.1 h with rfl | h
      · rw [e] at hb
        have : Nat.beq d d = true := Nat.beq_refl d
        rw [this] at hb; cases hb
      · exact memN_of h e
theorem noDup_ne : ∀ {l : List (Tmp × HI)} {i j : Nat} {p q : Tmp × HI}, noDup l = true → l[i]? = some p → l[j]? = some q → i ≠ j → p.1 ≠ q.1
  | [], i, j, p, q, _, h, _, _ => by simp at h
  | x :: l, i, j, p, q, hd, hi, hj, hne => by
    unfold noDup at hd
    split at hd
    · cases hd
    · rename_i hm
      intro e
      cases i with
      | zero =>
        cases j with
        | zero => exact hne rfl
        | succ j =>
          have : x = p := by simpa using hi
          subst this
          have := memN_of (d := x.1) (List.mem_of_getElem? (l := l) (i := j) (by simpa using hj)) e.symm
          rw [hm] at this; cases this
      | succ i =>
        cases j with
        | zero =>
          have : x = q := by simpa using hj
          subst this
          have := memN_of (d := x.1) (List.mem_of_getElem? (l := l) (i := i) (by simpa using hi)) e
          rw [hm] at this; cases this
        | succ j => exact noDup_ne hd (by simpa using hi) (by simpa using hj) (by omega) e

/-! The new blocks get their names. -/
noncomputable def nameS : List (Tmp × HI) → St → St
  | [], s => s
  | p :: l, s => match p.2 with
    | .pv v => nameS l { s with F := s.F.put p.1 v }
    | .al c => nameS l { s with F := s.F.put p.1 (.f (.ptr s.nx 0)), M := s.M.put s.nx ⟨c, 2⟩, nx := s.nx + 1 }

theorem FrOK.hav {ρ : Env} {nx N : Nat} {F : Tr SV} {a : Act} {d : Tmp} {x : SV} (h : FrOK ρ nx N F a) (hx : x.ok ρ nx) (hd : a.tmps.getD d undef = x.den ρ) (hd8 : d < 8192) : FrOK ρ nx N (F.put d x) a :=
  ⟨h.size, h.defers, fun d' y hy => by
    by_cases e : d = d'
    · subst e
      rw [Tr.get_put_same hd8] at hy
      have hy := Option.some.inj hy
      subst hy
      exact ⟨hx, hd⟩
    · rw [Tr.get_put_other e] at hy
      exact h.get d' y hy⟩

section
variable {P : Program} {cfg : Cfg} {w0 w : World} {ρ : Env} {s : St} {a : Act}
theorem nameS_sound {hs0 : Nat} {β : Nat → Nat} {A : Nat → Prop} (hw0 : w0.heap.size ≤ hs0) : ∀ (l : List (Tmp × HI)) (k : Nat) (ρ' : Env) (s' : St),
    FrOK ρ' s'.nx s'.N s'.F a → MemOK cfg w0 ρ' s' w → Env.le s.nx ρ ρ' → s.nx ≤ s'.nx → s'.nx + l.length ≤ 8192 →
    (∀ j W, s'.M.get j = some W → ρ'.b j < hs0 ∨ ∃ i, i < k ∧ A i ∧ ρ'.b j = β i) →
    (∀ r e xs g, s'.R.get r = some (e, xs) → (ρ'.r r).ownBlock = some g → g < hs0) →
    (∀ i p, l[i]? = some p → p.1 < 8192 ∧ ItOK ρ s hs0 a w (β (k + i)) p.1 p.2) →
    (∀ i p c, l[i]? = some p → p.2 = .al c → A (k + i) ∧ ∀ i', i' < k + i → A i' → β i' ≠ β (k + i)) →
    ∃ ρ'', Env.le s.nx ρ ρ'' ∧ FrOK ρ'' (nameS l s').nx (nameS l s').N (nameS l s').F a ∧ MemOK cfg w0 ρ'' (nameS l s') w
  | [], k, ρ', s', hF, hM, hle, _, _, _, _, _, _ => ⟨ρ', hle, hF, hM⟩
  | p :: l, k, ρ', s', hF, hM, hle, hnx, h8, hwin, hrow, hit, hinj => by
    obtain ⟨hp8, hp⟩ := hit 0 p rfl
    have hit' : ∀ i q, l[i]? = some q → q.1 < 8192 ∧ ItOK ρ s hs0 a w (β (k + 1 + i)) q.1 q.2 := fun i q hq => by
      have := hit (i + 1) q (by simpa using hq)
      rwa [show k + (i + 1) = k + 1 + i by omega] at this
    have hinj' : ∀ i q c, l[i]? = some q → q.2 = .al c → A (k + 1 + i) ∧ ∀ i', i' < k + 1 + i → A i' → β i' ≠ β (k + 1 + i) := fun i q c hq hc => by
      have := hinj (i + 1) q c (by simpa using hq) hc
      rwa [show k + (i + 1) = k + 1 + i by omega] at this
    simp only [List.length_cons] at h8
    obtain ⟨d, hi⟩ := p
    cases hi with
    | pv v =>
      obtain ⟨p1, p2⟩ := hp
      have hF1 : FrOK ρ' s'.nx s'.N (s'.F.put d v) a := hF.hav (SV.ok_le hle hnx p1) (by rw [SV.den_le hle p1]; exact p2) hp8
      exact nameS_sound hw0 l (k + 1) ρ' { s' with F := s'.F.put d v } hF1 (hM.of_eq rfl rfl rfl rfl) hle hnx (by show s'.nx + l.length ≤ 8192; omega)
        (fun j W hW => (hwin j W hW).imp id fun ⟨i, hi, hA, he⟩ => ⟨i, by omega, hA, he⟩) hrow hit' hinj'
    | al c =>
      obtain ⟨p1, p2, p3, p4, p5, p6⟩ := hp
      simp only [Nat.add_zero] at p2 p3 p4 p5 p6
      have hlt : s'.nx < 8192 := by omega
      have hle1 := Env.more_le ρ' s'.nx (β k) 0 0 undef
      have hbn : (ρ'.more s'.nx (β k) 0 0 undef).b s'.nx = β k := by simp [Env.more]
      have hon : (ρ'.more s'.nx (β k) 0 0 undef).o s'.nx = 0 := by simp [Env.more]
      have hle2 : Env.le s.nx ρ (ρ'.more s'.nx (β k) 0 0 undef) := hle.trans hle1 hnx
      have hM1 := hM.name (β k) 0 0 undef
      have hcd : ∀ x ∈ c, x.den (ρ'.more s'.nx (β k) 0 0 undef) = x.den ρ := fun x hx => FV.den_le (Env.le.mono hle2 (Nat.zero_le _)) (p1 x hx)
      have hM2 := hM1.addWin (j := s'.nx) (l := c) (wr := 2) (Nat.lt_succ_self _) hlt (okL_le (Env.le.mono hle2 (Nat.zero_le _)) (Nat.zero_le _) p1)
        (fun i x hx => by rw [hbn, hon, Nat.zero_add, hcd x (List.mem_of_getElem? hx)]; exact p5 i x hx)
        (by rw [hbn]; exact p4) (fun _ i hi => by rw [hbn, hon, Nat.zero_add]; exact p6 i hi) (fun _ => by rw [hbn]; right; omega)
        (fun j' W' hW' _ => by
          obtain ⟨q1, _⟩ := hM.cell j' W' hW'
          rw [hbn, hle1.b j' q1]
          rcases hwin j' W' hW' with h | ⟨i, hi, hA, h⟩
          · omega
          · rw [h]; exact (hinj 0 (d, .al c) c rfl rfl).2 i (by omega) hA)
        (fun r' e xs g hr hg => by
          obtain ⟨q1, _, q3⟩ := hM.row r' e xs hr
          rw [hle1.r r' q1] at hg
          rw [hbn]
          have := hrow r' e xs g hr hg
          omega)
      have hF1 : FrOK (ρ'.more s'.nx (β k) 0 0 undef) (s'.nx + 1) s'.N (s'.F.put d (.f (.ptr s'.nx 0))) a :=
        (hF.le hle1 (Nat.le_succ _)).hav (Nat.lt_succ_self _) (by rw [p2]; simp [SV.den, FV.den, hbn, hon]) hp8
      refine nameS_sound hw0 l (k + 1) _ { s' with F := s'.F.put d (.f (.ptr s'.nx 0)), M := s'.M.put s'.nx ⟨c, 2⟩, nx := s'.nx + 1 } hF1 (hM2.of_eq rfl rfl rfl rfl) hle2 (by show s.nx ≤ s'.nx + 1; omega) (by show s'.nx + 1 + l.length ≤ 8192; omega) ?_ ?_ hit' hinj'
      · intro j W hW
        have hW : (s'.M.put s'.nx ⟨c, 2⟩).get j = some W := hW
        by_cases e : s'.nx = j
        · subst e
          exact .inr ⟨k, by omega, (hinj 0 (d, .al c) c rfl rfl).1, hbn⟩
        · rw [Tr.get_put_other e] at hW
          obtain ⟨q1, _⟩ := hM.cell j W hW
          rw [hle1.b j q1]
          exact (hwin j W hW).imp id fun ⟨i, hi, hA, he⟩ => ⟨i, by omega, hA, he⟩
      · intro r e xs g hr hg
        obtain ⟨q1, _, q3⟩ := hM.row r e xs hr
        rw [hle1.r r q1] at hg
        exact hrow r e xs g hr hg
end

/-- The run of the first n operations of a region of open order; the rest follow one by one. -/
noncomputable def headRun (cfg : Cfg) (s : St) (ops : Array Oper) (n : Nat) : Option St :=
  match Nat.blt n ops.size, Region.sinkB .any ops n, Region.chainB .any ops n, Region.backB .any ops n, Region.seqB .any ops (ops.size - n) n (headL n ops.size) with
  | true, true, true, true, true => match headItems cfg s (delAll (ops.toList.take n) s.F) [] (ops.toList.take n) with
    | some its => match noDup its, Nat.ble (s.nx + n) 8192 with
      | true, true => some (nameS its { s with F := delAll (ops.toList.take n) s.F })
      | _, _ => none
    | none => none
  | _, _, _, _, _ => none

section
variable {P : Program} {cfg : Cfg} {w0 w : World} {ρ : Env} {s : St} {a : Act}

theorem headItem_dst {F0 : Tr SV} {acc : List (Tmp × HI)} {o : Oper} {p : Tmp × HI} (h : headItem cfg s F0 acc o = some p) : o.guard = none ∧ o.dst = some p.1 ∧ p.1 < s.N ∧ p.1 < 8192 ∧
    ((∃ t td l, o.op = .alloc t ∧ findT t cfg.tabs = some td ∧ zeroL td.zero = some l ∧ p.2 = .al l) ∨
     (∃ r, pureOp cfg { s with F := putPreds acc o.after.toList F0 } o.op = some r ∧ r.obs = [] ∧ p.2 = .pv r.v)) := by
  unfold headItem at h
  split at h
  · cases h
  · rename_i hg
    split at h
    · cases h
    · rename_i d hd
      split at h
      · rename_i h1 h2
        have h1 := blt_lt' h1
        have h2 := Nat.le_of_ble_eq_true h2
        split at h
        · rename_i t ht
          split at h
          · rename_i td htd
            split at h
            · rename_i l hl
              have h := Option.some.inj h
              subst h
              exact ⟨hg, hd, h1, Nat.lt_succ_of_le h2, .inl ⟨t, td, l, ht, htd, hl, rfl⟩⟩
            · cases h
          · cases h
        · rename_i hop
          split at h
          · rename_i r hr
            split at h
            · rename_i hobs
              have h := Option.some.inj h
              subst h
              exact ⟨hg, hd, h1, Nat.lt_succ_of_le h2, .inr ⟨r, hr, hobs, rfl⟩⟩
            · cases h
          · cases h
      · cases h

theorem headRun_sound (hc : CfgOk P cfg) {ops : Array Oper} {id n : Nat} {Q : Exit → Act → World → Prop} {s' : St} (h : headRun cfg s ops n = some s')
    (hF : FrOK ρ s.nx s.N s.F a) (hM : MemOK cfg w0 ρ s w)
    (K : ∀ ρ' a' w', Env.le s.nx ρ ρ' → FrOK ρ' s'.nx s'.N s'.F a' → MemOK cfg w0 ρ' s' w' → wpList P ops Q (ops.toList.drop n) a' w') : (Code.region id ops true).wp P Q a w := by
  unfold headRun at h
  split at h
  · rename_i b1 b2 b3 b4 b5
    split at h
    · rename_i its hits
      split at h
      · rename_i b6 b7
        have h := Option.some.inj h
        subst h
        have hn : n < ops.size := blt_lt' b1
        have h8 := Nat.le_of_ble_eq_true b7
        obtain ⟨i1, _, i3⟩ := headItems_sound _ _ _ hits
        have htl : (ops.toList.take n).length = n := by simp; omega
        simp only [List.length_nil, Nat.zero_add] at i1 i3
        rw [htl] at i1
        have hget : ∀ i, i < n → ∀ o, ops[i]? = some o → (ops.toList.take n)[i]? = some o := fun i hi o ho => by
          rw [List.getElem?_take, if_pos hi]; simpa using ho
        have hitem : ∀ i, i < n → ∀ o, ops[i]? = some o → ∃ p, its[i]? = some p ∧ headItem cfg s (delAll (ops.toList.take n) s.F) (its.take i) o = some p := fun i hi o ho => i3 i o (hget i hi o ho)
        have hits8 : ∀ (i : Nat) (p : Tmp × HI), its[i]? = some p → p.1 < 8192 := fun i p hp => by
          have hi : i < n := by rw [← i1]; exact (List.getElem?_eq_some_iff.1 hp).1
          obtain ⟨q, q1, q2⟩ := hitem i hi ops[i] (by simp)
          rw [hp] at q1
          have := Option.some.inj q1
          subst this
          exact (headItem_dst q2).2.2.2.1
        have hd8 : ∀ o ∈ ops.toList.take n, ∀ d, o.dst = some d → d < 8192 := fun o ho d hd => by
          obtain ⟨i, hi⟩ := List.getElem?_of_mem ho
          have hin : i < n := by rw [← htl]; exact (List.getElem?_eq_some_iff.1 hi).1
          have hio : ops[i]? = some o := by rw [List.getElem?_take, if_pos hin] at hi; simpa using hi
          obtain ⟨q, q1, q2⟩ := hitem i hin o hio
          obtain ⟨_, e2, _, e4, _⟩ := headItem_dst q2
          rw [hd] at e2
          have e2 := Option.some.inj e2
          rw [e2]; exact e4
        let F0 := delAll (ops.toList.take n) s.F
        let J : Array Bool → Act → World → Prop := fun listed a w => a.tmps.size = s.N ∧ a.defers = [] ∧ (∀ d x, F0.get d = some x → x.ok ρ s.nx ∧ a.tmps.getD d undef = x.den ρ) ∧
          MemOK cfg w0 ρ s w ∧ ∃ (hs0 : Nat) (β : Nat → Nat), (hs0 ≤ w.heap.size ∧ w0.heap.size ≤ hs0 ∧ (∀ j W, s.M.get j = some W → ρ.b j < hs0) ∧ (∀ r e xs g, s.R.get r = some (e, xs) → (ρ.r r).ownBlock = some g → g < hs0)) ∧
          (∀ i p, its[i]? = some p → listed.getD i false = true → ItOK ρ s hs0 a w (β i) p.1 p.2) ∧
          (∀ i j p c q c', its[i]? = some p → p.2 = .al c → its[j]? = some q → q.2 = .al c' → listed.getD i false = true → j ≠ i → listed.getD j false = true → β j ≠ β i)
        have hM1 : MemOK cfg w0 ρ s { w with drawn := w.drawn + 1 } := hM.drew
        have J0 : J (Array.replicate ops.size false) a { w with drawn := w.drawn + 1 } := by
          refine ⟨hF.size, hF.defers, fun d x hx => hF.get d x (delAll_get _ _ _ _ hd8 hx).1, hM1, w.heap.size, fun _ => 0, ⟨Nat.le_refl _, hM.size, hM.lt, fun r e xs g hr hg => ?_⟩, ?_, ?_⟩
          · obtain ⟨_, _, q3⟩ := hM.row r e xs hr
            exact (q3.lt g hg).2
          · intro i p _ hl; rw [getD_replicate_false] at hl; cases hl
          · intro i j p c _ _ _ _ _ _ hl; rw [getD_replicate_false] at hl; cases hl
        refine wp_region_any hc.m ?_
        have inv0 : HeadInv .any ops n (Array.replicate ops.size false) :=
          ⟨by simp, fun j oj _ hl => (by rw [getD_replicate_false] at hl; cases hl), fun t _ ht => getD_in (by simpa using ht) (getD_replicate_false _ _)⟩
        have hcount : (List.range n).countP (fun i => !(Array.replicate ops.size false).getD i false) = n := by
          rw [List.countP_eq_length.2 (fun i _ => by rw [getD_replicate_false]; rfl)]
          simp
        have hmain := wpAny_heads (md := .any) (P := P) (Q := Q) J b2 b3 hn b4 b5 ?_ ?_ n _ a _ inv0 hcount J0
        · rwa [show n + (ops.size - n) = ops.size by omega] at hmain
        · -- a step
          intro listed a w i o inv hin ho hr ⟨j1, j2, j3, j4, hs0, β, ⟨k1, k2, k3, k4⟩, j5, j6⟩
          obtain ⟨hun, o', ho', hall⟩ := mem_ready.1 hr
          rw [ho] at ho'
          have ho' := Option.some.inj ho'
          subst ho'
          have hunf := getD_both hun
          obtain ⟨p, hp, hpi⟩ := hitem i hin o ho
          obtain ⟨e1, e2, e3, e4, e5⟩ := headItem_dst hpi
          have hne : ∀ j q, its[j]? = some q → listed.getD j false = true → q.1 ≠ p.1 := fun j q hq hl => noDup_ne b6 hq hp (fun e => by rw [e] at hl; rw [hunf] at hl; cases hl)
          have hF0ne : ∀ d x, F0.get d = some x → p.1 ≠ d := fun d x hx e => (delAll_get _ _ _ _ hd8 hx).2 o (List.mem_of_getElem? (hget i hin o ho)) (by rw [e2, e])
          have hsz : i < listed.size := by rw [inv.size]; omega
          have hlist : ∀ j, (listed.setIfInBounds i true).getD j false = true → j = i ∨ (j ≠ i ∧ listed.getD j false = true) := fun j hl => by
            by_cases e : i = j
            · exact .inl e.symm
            · rw [getD_set_ne false e] at hl
              exact .inr ⟨fun h => e h.symm, hl⟩
          have hput : ∀ d v', d ≠ p.1 → (a.put (some p.1) v').tmps.getD d undef = a.tmps.getD d undef := fun d v' h => by
            simp [Act.put, Ne.symm h]
          have hputs : ∀ v', (a.put (some p.1) v').tmps.getD p.1 undef = v' := fun v' => by
            have : p.1 < a.tmps.size := by rw [j1]; exact e3
            simp [Act.put, this]
          unfold wpOp
          rw [ho]
          simp only
          rw [if_pos (by unfold Region.wanted; rw [e1])]
          refine .inl ?_
          unfold Oper.wp
          rcases e5 with ⟨t, td, l, hop, htd, hzl, hp2⟩ | ⟨r, hpr, hobs, hp2⟩
          · -- a new variable
            have e0 := hc.zeroOf htd w
            have hrun : (execOp a.eval o).run P w = .ok (.value (.pointer (some ⟨w.heap.size, 0, none⟩))) (w.alloc (.cells (denL ρ l).toArray t)) := by
              obtain ⟨dst, op, ty, pos, after, guard⟩ := o
              simp only at hop
              subst hop
              unfold execOp
              show (do pure (Next.value (← Instr.alloc t true (.tuple #[]))) : Sem Next).run P w = _
              unfold Instr.alloc newVar
              simp only [Sem.run_bind, e0, Result.andThen_ok, zeroL_den hzl ρ, run_newRow, Sem.run_pure]
            rw [hrun]
            show J (listed.setIfInBounds i true) (a.put o.dst _) _
            rw [e2]
            refine ⟨by simp [Act.put, j1], j2, fun d x hx => ?_, j4.alloc0 _, hs0, fun j => if j = i then w.heap.size else β j, ⟨by simp; omega, k2, k3, k4⟩, ?_, ?_⟩
            · rw [hput d _ (Ne.symm (hF0ne d x hx))]; exact j3 d x hx
            · intro j q hq hl
              show ItOK ρ s hs0 _ _ (if j = i then w.heap.size else β j) q.1 q.2
              rcases hlist j hl with rfl | ⟨hji, hlj⟩
              · rw [hp] at hq
                have := Option.some.inj hq
                subst this
                rw [if_pos rfl, hp2]
                exact ⟨zeroL_ok hzl ρ 0, hputs _, k1, NewB.new ρ w l t⟩
              · rw [if_neg hji]
                have hj := j5 j q hq hlj
                obtain ⟨q1, q2⟩ := q
                cases q2 with
                | pv v => exact ⟨hj.1, by rw [hput q1 _ (hne j _ hq hlj)]; exact hj.2⟩
                | al c => exact ⟨hj.1, by rw [hput q1 _ (hne j _ hq hlj)]; exact hj.2.1, hj.2.2.1, hj.2.2.2.alloc0 _⟩
            · have old : ∀ j q c, its[j]? = some q → q.2 = .al c → listed.getD j false = true → β j < w.heap.size := fun j q c hq hc hl => by
                have hj := j5 j q hq hl
                rw [hc] at hj
                exact hj.2.2.2.1
              intro j j' q c q' c' hq hc1 hq' hc2 hl hne' hl'
              show (if j' = i then w.heap.size else β j') ≠ (if j = i then w.heap.size else β j)
              rcases hlist j hl with rfl | ⟨hji, hlj⟩
              · rcases hlist j' hl' with rfl | ⟨hji', hlj'⟩
                · exact absurd rfl hne'
                · rw [if_pos rfl, if_neg hji']
                  have := old j' q' c' hq' hc2 hlj'
                  omega
              · rcases hlist j' hl' with rfl | ⟨hji', hlj'⟩
                · rw [if_pos rfl, if_neg hji]
                  have := old j q c hq hc1 hlj
                  omega
                · rw [if_neg hji, if_neg hji']
                  exact j6 j j' q c q' c' hq hc1 hq' hc2 hlj hne' hlj'
          · -- it reads
            have hFi : FrOK ρ s.nx s.N (putPreds (its.take i) o.after.toList F0) a := by
              refine ⟨j1, j2, fun d x hx => ?_⟩
              rcases putPreds_get _ _ _ _ _ hx (fun q hq => by
                obtain ⟨m, hm⟩ := List.getElem?_of_mem (List.mem_of_mem_take hq)
                exact hits8 m q hm) with hx | ⟨e, he, hb, hx⟩
              · exact j3 d x hx
              · rw [List.getElem?_take] at hx
                split at hx
                · have hl := hall e (by simpa using he) hb
                  have := j5 e.on _ hx hl
                  exact ⟨this.1, this.2⟩
                · cases hx
            obtain ⟨r1, r2⟩ := pureOp_sound (s := { s with F := putPreds (its.take i) o.after.toList F0 }) hc hFi (j4.of_eq rfl rfl rfl rfl) hpr (by rw [hobs]; intro ob hob; cases hob)
            rw [r1]
            show J (listed.setIfInBounds i true) (a.put o.dst _) _
            rw [e2]
            refine ⟨by simp [Act.put, j1], j2, fun d x hx => ?_, j4, hs0, β, ⟨k1, k2, k3, k4⟩, ?_, ?_⟩
            · rw [hput d _ (Ne.symm (hF0ne d x hx))]; exact j3 d x hx
            · intro j q hq hl
              rcases hlist j hl with rfl | ⟨hji, hl⟩
              · rw [hp] at hq
                have := Option.some.inj hq
                subst this
                rw [hp2]
                exact ⟨r2, hputs _⟩
              · have hj := j5 j q hq hl
                obtain ⟨q1, q2⟩ := q
                cases q2 with
                | pv v => exact ⟨hj.1, by rw [hput q1 _ (hne j _ hq hl)]; exact hj.2⟩
                | al c => exact ⟨hj.1, by rw [hput q1 _ (hne j _ hq hl)]; exact hj.2.1, hj.2.2.1, hj.2.2.2⟩
            · have nota : ∀ q c, its[i]? = some q → q.2 ≠ .al c := fun q c hq hc => by
                rw [hp] at hq
                have := Option.some.inj hq
                subst this
                rw [hp2] at hc
                cases hc
              intro j j' q c q' c' hq hc1 hq' hc2 hl hne' hl'
              rcases hlist j hl with rfl | ⟨hji, hlj⟩
              · exact absurd hc1 (nota q c hq)
              · rcases hlist j' hl' with rfl | ⟨hji', hlj'⟩
                · exact absurd hc2 (nota q' c' hq')
                · exact j6 j j' q c q' c' hq hc1 hq' hc2 hlj hne' hlj'
        · -- behind the first n
          intro a w ⟨j1, j2, j3, j4, hs0, β, ⟨k1, k2, k3, k4⟩, j5, j6⟩
          have hl : ∀ i, i < n → (headL n ops.size).getD i false = true := fun i hi => by
            have : i < (headL n ops.size).size := by simp [headL]; omega
            rw [Array.getD_eq_getD_getElem?]
            simp only [headL, List.getElem?_toArray]
            rw [List.getElem?_append_left (by simpa using hi), List.getElem?_replicate, if_pos hi]
            rfl
          have hin : ∀ i p, its[i]? = some p → i < n := fun i p hp => by rw [← i1]; exact (List.getElem?_eq_some_iff.1 hp).1
          obtain ⟨ρ', q1, q2, q3⟩ := nameS_sound (A := fun i => ∃ p c, its[i]? = some p ∧ p.2 = .al c) (s := s) (cfg := cfg) (ρ := ρ) k2 its 0 ρ { s with F := F0 } ⟨j1, j2, j3⟩ (j4.of_eq rfl rfl rfl rfl) (.refl _ _) (Nat.le_refl _)
            (by rw [i1]; exact h8) (fun j W hW => .inl (k3 j W hW)) k4
            (fun i p hp => by rw [Nat.zero_add]; exact ⟨hits8 i p hp, j5 i p hp (hl i (hin i p hp))⟩)
            (fun i p c hp hpc => by
              rw [Nat.zero_add]
              refine ⟨⟨p, c, hp, hpc⟩, fun i' hi' ⟨p', c', hp', hpc'⟩ => ?_⟩
              exact j6 i i' p c p' c' hp hpc hp' hpc' (hl i (hin i p hp)) (by omega) (hl i' (hin i' p' hp')))
          exact K ρ' a w q1 q2 q3
      · cases h
    · cases h
  · cases h
end

end Go.Sx
