/- A symbolic executor over the model, part seven, third half: a region that leaves its order open, with stores that follow one another. -/
import Derived.Test.YtjhndmlpcpbaoaaDoorSxGa
namespace Go.Sx
open Go

section
variable {P : Program} {ops : Array Oper} {md : Region.Mode} {Q : Exit → Act → World → Prop}
theorem wpAny_all (J : Array Bool → Act → World → Prop) (hback : Region.backB md ops ops.size = true)
    (step : ∀ listed a w i o, HeadInv md ops ops.size listed → ops[i]? = some o → i ∈ Region.ready md ops listed → J listed a w →
      wpOp P ops Q i (fun a' w' => J (listed.setIfInBounds i true) a' w') a w)
    (hend : ∀ listed a w, (∀ i, i < ops.size → listed.getD i false = true) → J listed a w → Q .normal a w) :
    ∀ (f : Nat) (listed : Array Bool) (a : Act) (w : World), HeadInv md ops ops.size listed → (List.range ops.size).countP (fun i => !listed.getD i false) = f → J listed a w →
      wpAny P md ops Q f listed a w := by
  intro f
  induction f with
  | zero =>
    intro listed a w inv hc hJ
    have hall : ∀ i, i < ops.size → listed.getD i false = true := by
      intro i hi
      rw [List.countP_eq_zero] at hc
      have := hc i (by simpa using hi)
      simpa using this
    refine ⟨?_, hend listed a w hall hJ⟩
    rw [List.eq_nil_iff_forall_not_mem]
    intro j hj
    obtain ⟨h1, o, ho, _⟩ := mem_ready.1 hj
    have hlt : j < ops.size := (Array.getElem?_eq_some_iff.1 ho).1
    have := hall j hlt
    rw [getD_both h1] at this
    cases this
  | succ f ih =>
    intro listed a w inv hc hJ
    have hex : ∃ i, i < ops.size ∧ listed.getD i false = false := by
      have : 0 < (List.range ops.size).countP (fun i => !listed.getD i false) := by omega
      rw [List.countP_pos_iff] at this
      obtain ⟨i, hi, hu⟩ := this
      exact ⟨i, by simpa using hi, by simpa using hu⟩
    obtain ⟨i0, hi0, hu0⟩ := hex
    refine ⟨fun h0 => absurd h0 (ready_some hback inv.size (Nat.le_refl _) hi0 hu0), fun i hi => ?_⟩
    obtain ⟨hun, o, ho, _⟩ := mem_ready.1 hi
    have hin : i < ops.size := (Array.getElem?_eq_some_iff.1 ho).1
    refine wpOp_mono (fun a' w' hJ' => ?_) (step listed a w i o inv ho hi hJ)
    have hc' := countP_set (n := ops.size) hin (getD_both hun) (by rw [inv.size]; exact hin)
    exact ih _ a' w' (inv.set hi hin) (by omega) hJ'
end

/-- An item: a slot's value; or the how-manieth store, and the windows behind it. -/
inductive SI where
  | pv (d : Tmp) (v : SV)
  | st (k : Nat) (M : Tr Win)

noncomputable def putPreds2 (acc : List SI) : List Edge → Tr SV → Tr SV
  | [], F => F
  | e :: l, F => match Region.binds .any e with
    | true => match nth? acc e.on with
      | some (.pv d v) => putPreds2 acc l (F.put d v)
      | _ => putPreds2 acc l F
    | false => putPreds2 acc l F
theorem putPreds2_get (acc : List SI) : ∀ (l : List Edge) (F : Tr SV) (d : Tmp) (x : SV), (putPreds2 acc l F).get d = some x → (∀ d v, SI.pv d v ∈ acc → d < 8192) →
    F.get d = some x ∨ ∃ e ∈ l, Region.binds .any e = true ∧ acc[e.on]? = some (.pv d x)
  | [], F, d, x, h, _ => .inl h
  | e :: l, F, d, x, h, hlt => by
    have tail : ∀ F', (putPreds2 acc l F').get d = some x → (F'.get d = some x → F.get d = some x ∨ ∃ e' ∈ e :: l, Region.binds .any e' = true ∧ acc[e'.on]? = some (.pv d x)) →
        F.get d = some x ∨ ∃ e' ∈ e :: l, Region.binds .any e' = true ∧ acc[e'.on]? = some (.pv d x) := by
      intro F' h1 h2
      rcases putPreds2_get acc l F' d x h1 hlt with h1 | ⟨e', he', hb, hx⟩
      · exact h2 h1
      · exact .inr ⟨e', by simp [he'], hb, hx⟩
    unfold putPreds2 at h
    split at h
    · rename_i hb
      split at h
      · rename_i d' v hp
        rw [nth?_eq] at hp
        refine tail _ h fun h1 => ?_
        have hp8 := hlt d' v (List.mem_of_getElem? hp)
        by_cases e1 : d' = d
        · subst e1
          rw [Tr.get_put_same hp8] at h1
          have h1 := Option.some.inj h1
          subst h1
          exact .inr ⟨e, by simp, hb, hp⟩
        · rw [Tr.get_put_other e1] at h1
          exact .inl h1
      · exact tail _ h .inl
    · exact tail _ h .inl

/-- It waits for this one. -/
def waits1 (i : Nat) : List Edge → Bool
  | [] => false
  | e :: l => match Region.binds .any e, Nat.beq e.on i with
    | true, true => true
    | _, _ => waits1 i l
theorem waits1_mem {i : Nat} : ∀ {l : List Edge}, waits1 i l = true → ∃ e ∈ l, Region.binds .any e = true ∧ e.on = i
  | [], h => by cases h
  | e :: l, h => by
    unfold waits1 at h
    split at h
    · rename_i h1 h2
      exact ⟨e, by simp, h1, beq_eq h2⟩
    · obtain ⟨e', h1, h2⟩ := waits1_mem h
      exact ⟨e', by simp [h1], h2⟩

/-- How far it has come: how many stores, the last one's place, the windows. -/
structure SP where
  k : Nat
  last : Option Nat
  M : Tr Win

noncomputable def storeItem (cfg : Cfg) (s : St) (F0 : Tr SV) (acc : List SI) (sp : SP) (o : Oper) : Option SI :=
  match o.guard with
  | some _ => none
  | none => match o.op with
    | .store t x y => match o.dst with
      | some _ => none
      | none => match (match sp.last with | none => true | some i => waits1 i o.after.toList) with
        | true => match eStore cfg { s with F := putPreds2 acc o.after.toList F0, M := sp.M } t x y with
          | some e => some (.st sp.k e.M)
          | none => none
        | false => none
    | op => match o.dst with
      | none => none
      | some d => match Nat.blt d s.N, Nat.ble d 8191 with
        | true, true => match pureOp cfg { s with F := putPreds2 acc o.after.toList F0, M := .e, R := .e, A := .e } op with
          | some r => match r.obs with
            | [] => some (.pv d r.v)
            | _ => none
          | none => none
        | _, _ => none
def SP.next (sp : SP) (i : Nat) : SI → SP
  | .pv _ _ => sp
  | .st k M => ⟨k + 1, some i, M⟩
noncomputable def storeItems (cfg : Cfg) (s : St) (F0 : Tr SV) (acc : List SI) (i : Nat) (sp : SP) : List Oper → Option (List SI × SP)
  | [] => some (acc, sp)
  | o :: l => match storeItem cfg s F0 acc sp o with
    | some p => storeItems cfg s F0 (appX acc [p]) (i + 1) (sp.next i p) l
    | none => none

structure SPI (s : St) (acc : List SI) (sp : SP) : Prop where
  z : sp.k = 0 → sp.last = none ∧ sp.M = s.M
  s : 0 < sp.k → ∃ i : Nat, sp.last = some i ∧ acc[i]? = some (SI.st (sp.k - 1) sp.M)
  lt : ∀ (i k : Nat) (M : Tr Win), acc[i]? = some (SI.st k M) → k < sp.k
  inj : ∀ (i i' k : Nat) (M M' : Tr Win), acc[i]? = some (SI.st k M) → acc[i']? = some (SI.st k M') → i = i'

theorem get_snoc {α : Type} {l : List α} {x y : α} {i : Nat} (h : (l ++ [x])[i]? = some y) : l[i]? = some y ∨ (i = l.length ∧ x = y) := by
  rcases Nat.lt_trichotomy i l.length with hi | hi | hi
  · rw [List.getElem?_append_left hi] at h; exact .inl h
  · subst hi; right; simpa using h
  · have hlen : (l ++ [x]).length ≤ i := by simp; omega
    rw [List.getElem?_eq_none hlen] at h; cases h
theorem snoc_get {α : Type} {l : List α} {x y : α} {i : Nat} (h : l[i]? = some y) : (l ++ [x])[i]? = some y := by
  have hi := (List.getElem?_eq_some_iff.1 h).1
  rw [List.getElem?_append_left hi]; exact h

theorem storeItem_k {cfg : Cfg} {s : St} {F0 : Tr SV} {acc : List SI} {sp : SP} {o : Oper} {k : Nat} {M : Tr Win} (h : storeItem cfg s F0 acc sp o = some (.st k M)) : k = sp.k := by
  unfold storeItem at h
  split at h
  · cases h
  · split at h
    · split at h
      · cases h
      · split at h
        · split at h
          · have h := Option.some.inj h
            cases h
            rfl
          · cases h
        · cases h
    · split at h
      · cases h
      · split at h
        · split at h
          · split at h
            · have h := Option.some.inj h
              cases h
            · cases h
          · cases h
        · cases h

theorem SPI.next {cfg : Cfg} {s : St} {F0 : Tr SV} {acc : List SI} {sp : SP} {o : Oper} {it : SI} (h : SPI s acc sp) (hit : storeItem cfg s F0 acc sp o = some it) : SPI s (acc ++ [it]) (sp.next acc.length it) := by
  cases it with
  | pv d v =>
    refine ⟨h.z, fun hk => ?_, fun i k M hi => ?_, fun i i' k M M' hi hi' => ?_⟩
    · obtain ⟨i, h1, h2⟩ := h.s hk
      exact ⟨i, h1, snoc_get h2⟩
    · rcases get_snoc hi with hi | ⟨_, hi⟩
      · exact h.lt i k M hi
      · cases hi
    · rcases get_snoc hi with hi | ⟨_, hi⟩
      · rcases get_snoc hi' with hi' | ⟨_, hi'⟩
        · exact h.inj i i' k M M' hi hi'
        · cases hi'
      · cases hi
  | st k0 M0 =>
    have hk := storeItem_k hit
    subst hk
    refine ⟨fun hz => ?_, fun _ => ⟨acc.length, rfl, by simp [SP.next]⟩, fun i k M hi => ?_, fun i i' k M M' hi hi' => ?_⟩
    · simp [SP.next] at hz
    · rcases get_snoc hi with hi | ⟨_, hi⟩
      · have := h.lt i k M hi
        show k < sp.k + 1
        omega
      · cases hi
        show sp.k < sp.k + 1
        omega
    · rcases get_snoc hi with hi | ⟨e, hi⟩
      · rcases get_snoc hi' with hi' | ⟨e', hi'⟩
        · exact h.inj i i' k M M' hi hi'
        · cases hi'
          have := h.lt i _ M hi
          omega
      · cases hi
        rcases get_snoc hi' with hi' | ⟨e', hi'⟩
        · have := h.lt i' _ M' hi'
          omega
        · rw [e, e']

theorem storeItems_sound {cfg : Cfg} {s : St} {F0 : Tr SV} : ∀ (l : List Oper) (acc : List SI) (sp : SP) (its : List SI) (spE : SP), storeItems cfg s F0 acc acc.length sp l = some (its, spE) → SPI s acc sp →
    SPI s its spE ∧ its.length = acc.length + l.length ∧ its.take acc.length = acc ∧
    ∀ k o, l[k]? = some o → ∃ it sp', its[acc.length + k]? = some it ∧ SPI s (its.take (acc.length + k)) sp' ∧ storeItem cfg s F0 (its.take (acc.length + k)) sp' o = some it
  | [], acc, sp, its, spE, h, hI => by
    have h := Option.some.inj h
    cases h
    exact ⟨hI, by simp, by simp, fun k o hk => by simp at hk⟩
  | o :: l, acc, sp, its, spE, h, hI => by
    unfold storeItems at h
    split at h
    · rename_i it hit
      rw [appX_eq] at h
      have hlen : acc.length + 1 = (acc ++ [it]).length := by simp
      rw [hlen] at h
      obtain ⟨g0, g1, g2, g3⟩ := storeItems_sound l _ _ its spE h (hI.next hit)
      simp only [List.length_append, List.length_cons, List.length_nil] at g1 g2 g3
      have h4 : its.take acc.length = acc := by
        have := congrArg (List.take acc.length) g2
        rw [List.take_take, Nat.min_eq_left (by omega)] at this
        rw [this]; simp
      have h5 : its[acc.length]? = some it := by
        have : (its.take (acc.length + (0 + 1)))[acc.length]? = some it := by rw [g2]; simp
        rw [List.getElem?_take] at this
        simpa using this
      refine ⟨g0, by simp; omega, h4, fun k o' hk => ?_⟩
      cases k with
      | zero =>
        have : o = o' := by simpa using hk
        subst this
        exact ⟨it, sp, h5, by rw [Nat.add_zero, h4]; exact hI, by rw [Nat.add_zero, h4]; exact hit⟩
      | succ k =>
        obtain ⟨q, sp', q1, q2, q3⟩ := g3 k o' (by simpa using hk)
        refine ⟨q, sp', by rw [← q1]; congr 1; omega, ?_, ?_⟩
        · rw [show acc.length + (k + 1) = acc.length + (0 + 1) + k by omega]; exact q2
        · rw [show acc.length + (k + 1) = acc.length + (0 + 1) + k by omega]; exact q3
    · cases h

theorem eStore_eq {cfg : Cfg} {s : St} {t : TypeId} {x y : Operand} {e : Ef} (h : eStore cfg s t x y = some e) : e.R = s.R ∧ e.A = s.A ∧ e.nx = s.nx ∧ e.v = none := by
  unfold eStore at h
  split at h
  · split at h
    · split at h
      · split at h
        · have h := Option.some.inj h
          subst h
          exact ⟨rfl, rfl, rfl, rfl⟩
        · cases h
      · cases h
    · cases h
  · cases h

def memP (d : Nat) : List SI → Bool
  | [] => false
  | p :: l => match p with
    | .pv d' _ => (match Nat.beq d' d with | true => true | false => memP d l)
    | .st _ _ => memP d l
def noDupP : List SI → Bool
  | [] => true
  | p :: l => match p with
    | .pv d _ => (match memP d l with | true => false | false => noDupP l)
    | .st _ _ => noDupP l
theorem memP_of {d : Nat} {v : SV} : ∀ {l : List SI}, SI.pv d v ∈ l → memP d l = true
  | [], h => by cases h
  | q :: l, h => by
    unfold memP
    split
    · rename_i d' v'
      split
      · rfl
      · rename_i hb
        rcases List.mem_cons.1 h with h | h
        · cases h
          have : Nat.beq d d = true := Nat.beq_refl d
          rw [this] at hb; cases hb
        · exact memP_of h
    · rcases List.mem_cons.1 h with h | h
      · cases h
      · exact memP_of h
theorem noDupP_ne : ∀ {l : List SI} {i j d d' : Nat} {v v' : SV}, noDupP l = true → l[i]? = some (.pv d v) → l[j]? = some (.pv d' v') → i ≠ j → d ≠ d'
  | [], i, j, d, d', v, v', _, h, _, _ => by simp at h
  | x :: l, i, j, d, d', v, v', hd, hi, hj, hne => by
    intro e
    subst e
    unfold noDupP at hd
    cases i with
    | zero =>
      have hx : x = .pv d v := by simpa using hi
      subst hx
      simp only at hd
      cases j with
      | zero => exact hne rfl
      | succ j =>
        have hm := memP_of (List.mem_of_getElem? (l := l) (i := j) (by simpa using hj))
        rw [hm] at hd
        cases hd
    | succ i =>
      cases j with
      | zero =>
        have hx : x = .pv d v' := by simpa using hj
        subst hx
        simp only at hd
        have hm := memP_of (List.mem_of_getElem? (l := l) (i := i) (by simpa using hi))
        rw [hm] at hd
        cases hd
      | succ j =>
        have hd' : noDupP l = true := by
          split at hd
          · split at hd
            · cases hd
            · exact hd
          · exact hd
        exact noDupP_ne hd' (by simpa using hi) (by simpa using hj) (by omega) rfl

noncomputable def putAll : List SI → Tr SV → Tr SV
  | [], F => F
  | p :: l, F => match p with
    | .pv d v => putAll l (F.put d v)
    | .st _ _ => putAll l F
theorem putAll_get : ∀ (l : List SI) (F : Tr SV) (d : Tmp) (x : SV), (∀ d v, SI.pv d v ∈ l → d < 8192) → (putAll l F).get d = some x → F.get d = some x ∨ SI.pv d x ∈ l
  | [], F, d, x, _, h => .inl h
  | p :: l, F, d, x, h8, h => by
    have h8' : ∀ d v, SI.pv d v ∈ l → d < 8192 := fun d v hm => h8 d v (by simp [hm])
    unfold putAll at h
    split at h
    · rename_i d' v
      rcases putAll_get l _ d x h8' h with h1 | h1
      · by_cases e : d' = d
        · subst e
          rw [Tr.get_put_same (h8 d' v (by simp))] at h1
          have h1 := Option.some.inj h1
          subst h1
          exact .inr (by simp)
        · rw [Tr.get_put_other e] at h1
          exact .inl h1
      · exact .inr (by simp [h1])
    · rcases putAll_get l _ d x h8' h with h1 | h1
      · exact .inl h1
      · exact .inr (by simp [h1])

noncomputable def storeRun (cfg : Cfg) (s : St) (ops : Array Oper) : Option St :=
  match Region.backB .any ops ops.size with
  | true => match storeItems cfg s (delAll ops.toList s.F) [] 0 ⟨0, none, s.M⟩ ops.toList with
    | some p => match noDupP p.1 with
      | true => some { s with F := putAll p.1 (delAll ops.toList s.F), M := p.2.M }
      | false => none
    | none => none
  | false => none

section
variable {P : Program} {cfg : Cfg} {w0 w : World} {ρ : Env} {s : St} {a : Act}

theorem MemOK.empty (h : MemOK cfg w0 ρ s w) (F : Tr SV) : MemOK cfg w0 ρ { s with F := F, M := .e, R := .e, A := .e } w := by
  constructor
  · exact h.os
  · exact h.tape
  · exact h.output
  · exact h.size
  · exact h.keep
  · intro j W hj; have hj : (Tr.e : Tr Win).get j = some W := hj; rw [Tr.get_e] at hj; cases hj
  · intro j W hj; have hj : (Tr.e : Tr Win).get j = some W := hj; rw [Tr.get_e] at hj; cases hj
  · intro j W hj; have hj : (Tr.e : Tr Win).get j = some W := hj; rw [Tr.get_e] at hj; cases hj
  · intro j W hj; have hj : (Tr.e : Tr Win).get j = some W := hj; rw [Tr.get_e] at hj; cases hj
  · intro j W j' W' hj; have hj : (Tr.e : Tr Win).get j = some W := hj; rw [Tr.get_e] at hj; cases hj
  · intro r e xs hj; have hj : (Tr.e : Tr (TypeId × List FV)).get r = some (e, xs) := hj; rw [Tr.get_e] at hj; cases hj
  · intro r e xs g j W hj; have hj : (Tr.e : Tr (TypeId × List FV)).get r = some (e, xs) := hj; rw [Tr.get_e] at hj; cases hj
  · intro r e xs r' e' xs' g hj; have hj : (Tr.e : Tr (TypeId × List FV)).get r = some (e, xs) := hj; rw [Tr.get_e] at hj; cases hj
  · intro r j n hj; have hj : (Tr.e : Tr (Nat × Nat)).get r = some (j, n) := hj; rw [Tr.get_e] at hj; cases hj
  · exact h.gl
  · exact h.w0
  · exact h.ix

theorem storeItem_cases {F0 : Tr SV} {acc : List SI} {sp : SP} {o : Oper} {it : SI} (h : storeItem cfg s F0 acc sp o = some it) : o.guard = none ∧
    ((∃ t x y e, o.op = .store t x y ∧ o.dst = none ∧ (∀ i, sp.last = some i → waits1 i o.after.toList = true) ∧ eStore cfg { s with F := putPreds2 acc o.after.toList F0, M := sp.M } t x y = some e ∧ it = .st sp.k e.M) ∨
     (∃ d r, o.dst = some d ∧ d < s.N ∧ d < 8192 ∧ pureOp cfg { s with F := putPreds2 acc o.after.toList F0, M := .e, R := .e, A := .e } o.op = some r ∧ r.obs = [] ∧ it = .pv d r.v)) := by
  unfold storeItem at h
  split at h
  · cases h
  · rename_i hg
    split at h
    · rename_i t x y hop
      split at h
      · cases h
      · rename_i hd
        split at h
        · rename_i hw
          split at h
          · rename_i e he
            have h := Option.some.inj h
            subst h
            refine ⟨hg, .inl ⟨t, x, y, e, hop, hd, fun i hi => ?_, he, rfl⟩⟩
            rw [hi] at hw
            exact hw
          · cases h
        · cases h
    · split at h
      · cases h
      · rename_i d hd
        split at h
        · rename_i b1 b2
          have b1 := blt_lt' b1
          have b2 := Nat.le_of_ble_eq_true b2
          split at h
          · rename_i r hr
            split at h
            · rename_i hobs
              have h := Option.some.inj h
              subst h
              exact ⟨hg, .inr ⟨d, r, hd, b1, Nat.lt_succ_of_le b2, hr, hobs, rfl⟩⟩
            · cases h
          · cases h
        · cases h

theorem storeRun_sound (hc : CfgOk P cfg) {ops : Array Oper} {id : Nat} {Q : Exit → Act → World → Prop} {s' : St} (h : storeRun cfg s ops = some s')
    (hF : FrOK ρ s.nx s.N s.F a) (hM : MemOK cfg w0 ρ s w)
    (K : ∀ a' w', FrOK ρ s'.nx s'.N s'.F a' → MemOK cfg w0 ρ s' w' → Q .normal a' w') : (Code.region id ops true).wp P Q a w := by
  unfold storeRun at h
  split at h
  · rename_i b4
    split at h
    · rename_i pr hits
      obtain ⟨its, spE⟩ := pr
      split at h
      · rename_i b6
        have h := Option.some.inj h
        subst h
        simp only at b6 K
        obtain ⟨g0, i1, _, i3⟩ := storeItems_sound (cfg := cfg) (s := s) _ [] ⟨0, none, s.M⟩ its spE hits ⟨fun _ => ⟨rfl, rfl⟩, fun h => (by cases h), fun i k M h => (by simp at h), fun i i' k M M' h => (by simp at h)⟩
        simp only [List.length_nil, Nat.zero_add] at i1 i3
        have hitem : ∀ (i : Nat) o, ops[i]? = some o → ∃ it sp', its[i]? = some it ∧ SPI s (its.take i) sp' ∧ storeItem cfg s (delAll ops.toList s.F) (its.take i) sp' o = some it := fun i o ho => i3 i o (by simpa using ho)
        have hlen : its.length = ops.size := by rw [i1]; simp
        have hop : ∀ (i : Nat) it, its[i]? = some it → ∃ o, ops[i]? = some o := fun i it hi => by
          have : i < ops.size := by rw [← hlen]; exact (List.getElem?_eq_some_iff.1 hi).1
          exact ⟨ops[i], by simp [this]⟩
        have hpv8 : ∀ (i : Nat) d v, its[i]? = some (.pv d v) → d < 8192 := fun i d v hi => by
          obtain ⟨o, ho⟩ := hop i _ hi
          obtain ⟨it, sp', q1, q2, q3⟩ := hitem i o ho
          rw [hi] at q1
          have q1 := Option.some.inj q1
          subst q1
          obtain ⟨_, ⟨t, x, y, e, _, _, _, _, q⟩ | ⟨d', r, _, _, h8, _, _, q⟩⟩ := storeItem_cases q3
          · cases q
          · cases q; exact h8
        have hmem8 : ∀ d v, SI.pv d v ∈ its → d < 8192 := fun d v hm => by
          obtain ⟨i, hi⟩ := List.getElem?_of_mem hm
          exact hpv8 i d v hi
        have hd8 : ∀ o ∈ ops.toList, ∀ d, o.dst = some d → d < 8192 := fun o ho d hd => by
          obtain ⟨i, hi⟩ := List.getElem?_of_mem ho
          obtain ⟨it, sp', q1, q2, q3⟩ := hitem i o (by simpa using hi)
          obtain ⟨_, ⟨t, x, y, e, _, e2, _⟩ | ⟨d', r, e2, _, h8, _⟩⟩ := storeItem_cases q3
          · rw [e2] at hd; cases hd
          · rw [e2] at hd
            have hd := Option.some.inj hd
            subst hd; exact h8
        let F0 := delAll ops.toList s.F
        let J : Array Bool → Act → World → Prop := fun listed a w => a.tmps.size = s.N ∧ a.defers = [] ∧ (∀ d x, F0.get d = some x → x.ok ρ s.nx ∧ a.tmps.getD d undef = x.den ρ) ∧
          (∀ (i : Nat) d v, its[i]? = some (SI.pv d v) → listed.getD i false = true → v.ok ρ s.nx ∧ a.tmps.getD d undef = v.den ρ) ∧
          ∃ (p : Nat) (M : Tr Win), p ≤ spE.k ∧ MemOK cfg w0 ρ { s with M := M } w ∧ (p = 0 → M = s.M) ∧ (∀ (i : Nat) M', 0 < p → its[i]? = some (SI.st (p - 1) M') → M = M') ∧
          (∀ (i k : Nat) M', its[i]? = some (SI.st k M') → (listed.getD i false = true ↔ k < p))
        have J0 : J (Array.replicate ops.size false) a { w with drawn := w.drawn + 1 } := by
          refine ⟨hF.size, hF.defers, fun d x hx => hF.get d x (delAll_get _ _ _ _ hd8 hx).1, ?_, 0, s.M, Nat.zero_le _, hM.drew.of_eq rfl rfl rfl rfl, fun _ => rfl, ?_, ?_⟩
          · intro i d v _ hl; rw [getD_replicate_false] at hl; cases hl
          · intro i M' h; cases h
          · intro i k M' _
            rw [getD_replicate_false]
            exact ⟨fun h => (by cases h), fun h => (by omega)⟩
        refine wp_region_any hc.m ?_
        have inv0 : HeadInv .any ops ops.size (Array.replicate ops.size false) :=
          ⟨by simp, fun j oj _ hl => (by rw [getD_replicate_false] at hl; cases hl), fun t h1 h2 => by omega⟩
        have hcount : (List.range ops.size).countP (fun i => !(Array.replicate ops.size false).getD i false) = ops.size := by
          rw [List.countP_eq_length.2 (fun i _ => by rw [getD_replicate_false]; rfl)]
          simp
        refine wpAny_all (md := .any) (P := P) (Q := Q) J b4 ?_ ?_ ops.size _ a _ inv0 hcount J0
        · -- a step
          intro listed a w i o inv ho hr ⟨j1, j2, j3, j4, p, M, jk, j5, j6, j7, j8⟩
          have hin : i < ops.size := (Array.getElem?_eq_some_iff.1 ho).1
          obtain ⟨hun, o', ho', hall⟩ := mem_ready.1 hr
          rw [ho] at ho'
          have ho' := Option.some.inj ho'
          subst ho'
          have hunf := getD_both hun
          obtain ⟨it, sp', hp, hspi, hpi⟩ := hitem i o ho
          obtain ⟨e1, e5⟩ := storeItem_cases hpi
          have hlist : ∀ j, (listed.setIfInBounds i true).getD j false = true → j = i ∨ (j ≠ i ∧ listed.getD j false = true) := fun j hl => by
            by_cases e : i = j
            · exact .inl e.symm
            · rw [getD_set_ne false e] at hl
              exact .inr ⟨fun h => e h.symm, hl⟩
          have hput : ∀ d d' v', d ≠ d' → (a.put (some d') v').tmps.getD d undef = a.tmps.getD d undef := fun d d' v' h => by
            simp [Act.put, Ne.symm h]
          have hFi : FrOK ρ s.nx s.N (putPreds2 (its.take i) o.after.toList F0) a := by
            refine ⟨j1, j2, fun d x hx => ?_⟩
            rcases putPreds2_get _ _ _ _ _ hx (fun d v hq => hmem8 d v (List.mem_of_mem_take hq)) with hx | ⟨e, he, hb, hx⟩
            · exact j3 d x hx
            · rw [List.getElem?_take] at hx
              split at hx
              · exact j4 e.on d x hx (hall e (by simpa using he) hb)
              · cases hx
          unfold wpOp
          rw [ho]
          simp only
          rw [if_pos (by unfold Region.wanted; rw [e1])]
          refine .inl ?_
          unfold Oper.wp
          rcases e5 with ⟨t, x, y, e, hop, hdst, hwait, hst, hit⟩ | ⟨d, r, hdst, h1, h2, hpr, hobs, hit⟩
          · -- a store
            subst hit
            -- it is the next one
            have hpk : p = sp'.k := by
              have hle : p ≤ sp'.k := Nat.le_of_not_lt fun h => by
                have := (j8 i sp'.k e.M hp).2 h
                rw [hunf] at this; cases this
              rcases Nat.eq_zero_or_pos sp'.k with hz | hz
              · omega
              · obtain ⟨i1', q1, q2⟩ := hspi.s hz
                obtain ⟨ed, d1, d2, d3⟩ := waits1_mem (hwait i1' q1)
                have hl := hall ed (by simpa using d1) d2
                rw [d3] at hl
                rw [List.getElem?_take] at q2
                split at q2
                · have := (j8 i1' _ _ q2).1 hl
                  omega
                · cases q2
            have hMM : M = sp'.M := by
              rcases Nat.eq_zero_or_pos sp'.k with hz | hz
              · rw [j6 (by omega), (hspi.z hz).2]
              · obtain ⟨i1', q1, q2⟩ := hspi.s hz
                rw [List.getElem?_take] at q2
                split at q2
                · exact j7 i1' _ (by omega) (by rw [hpk]; exact q2)
                · cases q2
            subst hMM
            obtain ⟨⟨w', r0, r1, r2⟩, _⟩ := eStore_sound (s := { s with F := putPreds2 (its.take i) o.after.toList F0, M := sp'.M }) hc hFi (j5.of_eq rfl rfl rfl rfl) hst
            obtain ⟨r3, r4, r5, _⟩ := eStore_eq hst
            have hrun : (execOp a.eval o).run P w = .ok .skip w' := by
              obtain ⟨dst, op, ty, pos, after, guard⟩ := o
              simp only at hop
              subst hop
              unfold execOp
              simp only [Sem.run_bind, r1, Result.andThen_ok, Sem.run_pure]
            rw [hrun]
            show J (listed.setIfInBounds i true) (a.put o.dst undef) w'
            rw [hdst]
            show J (listed.setIfInBounds i true) a w'
            refine ⟨j1, j2, j3, fun j d v hj hl => ?_, p + 1, e.M, (by have := g0.lt i _ _ hp; omega), r2.of_eq rfl r3.symm r4.symm r5.symm, fun h => (by cases h), fun j M' _ hj => ?_, fun j k M' hj => ?_⟩
            · rcases hlist j hl with rfl | ⟨_, hl⟩
              · rw [hp] at hj; cases hj
              · exact j4 j d v hj hl
            · rw [Nat.add_sub_cancel] at hj
              have : j = i := g0.inj j i p M' e.M hj (by rw [hpk]; exact hp)
              subst this
              rw [hp] at hj
              cases hj
              rfl
            · by_cases hji : i = j
              · subst hji
                rw [hp] at hj
                cases hj
                have : (listed.setIfInBounds i true).getD i false = true := by
                  have : i < listed.size := by rw [inv.size]; exact hin
                  simp [this]
                rw [this]
                exact ⟨fun _ => by omega, fun _ => rfl⟩
              · rw [getD_set_ne false hji, j8 j k M' hj]
                have hne : k ≠ sp'.k := fun hk => hji (g0.inj i j sp'.k e.M M' hp (by rw [← hk]; exact hj))
                omega
          · -- it reads
            subst hit
            have hF0ne : ∀ d' x, F0.get d' = some x → d' ≠ d := fun d' x hx hd => (delAll_get _ _ _ _ hd8 hx).2 o (List.mem_of_getElem? (i := i) (by simpa using ho)) (by rw [hdst, hd])
            have hne : ∀ (j : Nat) d' v, its[j]? = some (SI.pv d' v) → j ≠ i → d' ≠ d := fun j d' v hq hji => noDupP_ne b6 hq hp hji
            have hputs : ∀ v', (a.put (some d) v').tmps.getD d undef = v' := fun v' => by
              have : d < a.tmps.size := by rw [j1]; exact h1
              simp [Act.put, this]
            obtain ⟨r1, r2⟩ := pureOp_sound (s := { s with F := putPreds2 (its.take i) o.after.toList F0, M := .e, R := .e, A := .e }) hc hFi ((j5.empty F0).of_eq rfl rfl rfl rfl) hpr (by rw [hobs]; intro ob hob; cases hob)
            rw [r1]
            show J (listed.setIfInBounds i true) (a.put o.dst _) _
            rw [hdst]
            refine ⟨by simp [Act.put, j1], j2, fun d' x hx => ?_, fun j d' v hj hl => ?_, p, M, jk, j5, j6, j7, fun j k M' hj => ?_⟩
            · rw [hput d' d _ (hF0ne d' x hx)]; exact j3 d' x hx
            · rcases hlist j hl with rfl | ⟨hji, hl⟩
              · rw [hp] at hj
                cases hj
                exact ⟨r2, hputs _⟩
              · rw [hput d' d _ (hne j d' v hj hji)]
                exact j4 j d' v hj hl
            · by_cases hji : i = j
              · subst hji
                rw [hp] at hj
                cases hj
              · rw [getD_set_ne false hji]
                exact j8 j k M' hj
        · -- behind them all
          intro listed a w hl ⟨j1, j2, j3, j4, p, M, jk, j5, j6, j7, j8⟩
          have hall : ∀ (i : Nat) it, its[i]? = some it → listed.getD i false = true := fun i it hi => hl i (by rw [← hlen]; exact (List.getElem?_eq_some_iff.1 hi).1)
          have hp : M = spE.M := by
            rcases Nat.eq_zero_or_pos spE.k with hz | hz
            · rw [j6 (by omega), (g0.z hz).2]
            · obtain ⟨i, q1, q2⟩ := g0.s hz
              have := (j8 i _ _ q2).1 (hall i _ q2)
              have hpe : p = spE.k := by omega
              exact j7 i _ (by omega) (by rw [hpe]; exact q2)
          subst hp
          refine K a w ⟨j1, j2, fun d x hd => ?_⟩ (j5.of_eq rfl rfl rfl rfl)
          rcases putAll_get _ _ _ _ hmem8 hd with hd | hd
          · exact j3 d x hd
          · obtain ⟨i, hi⟩ := List.getElem?_of_mem hd
            exact j4 i d x hi (hall i _ hi)
      · cases h
    · cases h
  · cases h

/-- How many operations stand ahead of the first that stores. -/
def headN : List Oper → Nat
  | [] => 0
  | o :: l => match o.op with
    | .store _ _ _ => 0
    | _ => headN l + 1
/-- A region of open order that does not only read: by one of the two ways. -/
noncomputable def otherRun (cfg : Cfg) (s : St) (ops : Array Oper) : Option (List Oper × St) :=
  match headRun cfg s ops (headN ops.toList) with
  | some s' => some (ops.toList.drop (headN ops.toList), s')
  | none => match storeRun cfg s ops with
    | some s' => some ([], s')
    | none => none
theorem otherRun_sound (hc : CfgOk P cfg) {ops : Array Oper} {id : Nat} {Q : Exit → Act → World → Prop} {l : List Oper} {s' : St} (h : otherRun cfg s ops = some (l, s'))
    (hF : FrOK ρ s.nx s.N s.F a) (hM : MemOK cfg w0 ρ s w)
    (K : ∀ ρ' a' w', Env.le s.nx ρ ρ' → FrOK ρ' s'.nx s'.N s'.F a' → MemOK cfg w0 ρ' s' w' → wpList P ops Q l a' w') : (Code.region id ops true).wp P Q a w := by
  unfold otherRun at h
  split at h
  · rename_i s1 h1
    have h := Option.some.inj h
    cases h
    exact headRun_sound hc h1 hF hM K
  · split at h
    · rename_i s1 h1
      have h := Option.some.inj h
      cases h
      exact storeRun_sound hc h1 hF hM fun a' w' hF' hM' => K ρ a' w' (.refl _ _) hF' hM'
    · cases h
end
end Go.Sx
