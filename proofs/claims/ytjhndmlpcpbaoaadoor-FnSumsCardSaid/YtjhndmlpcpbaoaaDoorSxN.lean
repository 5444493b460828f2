/- A symbolic executor over the model, part fourteen: memory turned by a contract; names without cells; an operation by hand. -/
import Derived.Test.YtjhndmlpcpbaoaaDoorSxM
import Derived.Laws.IdiomCopy
namespace Go.Sx
open Go Go.RowKit

theorem Kp.setCells (w : World) (b : Nat) : ∀ (vs : List Value) (o : Nat) (B : Nat), Kp B [b] w (w.setCells b o vs) := by
  intro vs
  induction vs generalizing w with
  | nil => intro o B; exact .refl _ _ _
  | cons v vs ih =>
    intro o B
    have h1 : Kp B [b] w (w.setCell ⟨b, o, none⟩ v) := ⟨rfl, rfl, rfl, by simp [World.setCell], fun k _ hx => Below.heap_setCell _ _ _ _ (by simpa using hx)⟩
    exact h1.trans (ih _ (o + 1) B)

section
variable {P : Program} {cfg : Cfg} {w0 w : World} {ρ : Env} {a : Act}

/-- Some windows' blocks have turned, and what they hold now is known. -/
theorem MemOK.turn {N nx thr N' thr' : Nat} {fl fl' : List (Nat × SV)} {ml ml' : List (Nat × Win)} {orc orc' : List Bool} {xs : List Nat} {w' : World}
    (h : MemOK cfg w0 ρ (mkSt N nx thr fl ml orc) w) (hi : idxB ml' = true) (hk : Kp w.heap.size xs w w')
    (hx : ∀ x ∈ xs, ∃ j W, (ofL ml).get j = some W ∧ W.wr ≠ 0 ∧ ρ.b j = x)
    (hnew : ∀ p ∈ ml', ∃ W, (ofL ml).get p.1 = some W ∧ W.wr = p.2.wr ∧ ((p.2 = W ∧ ρ.b p.1 ∉ xs) ∨
      (okL ρ nx p.2.cells ∧ (∀ i x, p.2.cells[i]? = some x → w'.cell? ⟨ρ.b p.1, ρ.o p.1 + i, none⟩ = some (x.den ρ)) ∧ (∀ i, i < p.2.cells.length → w'.frozen? ⟨ρ.b p.1, ρ.o p.1 + i, none⟩ = false)))) :
    MemOK cfg w0 ρ (mkSt N' nx thr' fl' ml' orc') w' := by
  have key : ∀ j W', (mkSt N' nx thr' fl' ml' orc').M.get j = some W' → (j, W') ∈ ml' := fun j W h => ofL_get hi h
  have hsz := hk.size
  constructor
  · exact hk.os.trans h.os
  · exact hk.tape.trans h.tape
  · exact hk.output.trans h.output
  · exact Nat.le_trans h.size hsz
  · intro i hi' hn
    have h2 : i ∉ xs := fun hm => by
      obtain ⟨j, W, g1, g2, g3⟩ := hx i hm
      rcases h.kind j W g1 g2 with hc | hc
      · exact hn j hc g3
      · omega
    rw [hk.block i (Nat.lt_of_lt_of_le hi' h.size) h2]
    exact h.keep i hi' hn
  · intro j W' hj
    obtain ⟨W, g1, g2, g3⟩ := hnew _ (key j W' hj)
    obtain ⟨c1, c2, c3⟩ := h.cell j W g1
    rcases g3 with ⟨g3, g4⟩ | ⟨g3, g4, _⟩
    · have g3 : W' = W := g3
      subst g3
      refine ⟨c1, c2, fun i x hx => ?_⟩
      rw [hk.cell (h.lt j W' g1) g4]
      exact c3 i x hx
    · exact ⟨c1, g3, g4⟩
  · intro j W' hj
    obtain ⟨W, g1, _⟩ := hnew _ (key j W' hj)
    exact Nat.lt_of_lt_of_le (h.lt j W g1) hsz
  · intro j W' hj hwr i hi'
    obtain ⟨W, g1, g2, g3⟩ := hnew _ (key j W' hj)
    rcases g3 with ⟨g3, g4⟩ | ⟨_, _, g5⟩
    · have g3 : W' = W := g3
      subst g3
      rw [hk.frozen (h.lt j W' g1) g4]
      exact h.free j W' g1 hwr i hi'
    · exact g5 i hi'
  · intro j W' hj hwr
    obtain ⟨W, g1, g2, _⟩ := hnew _ (key j W' hj)
    exact h.kind j W g1 (by rw [g2]; exact hwr)
  · intro j W' j' W'' hj hj' hwr hne
    obtain ⟨W, g1, g2, _⟩ := hnew _ (key j W' hj)
    obtain ⟨V, k1, k2, _⟩ := hnew _ (key j' W'' hj')
    exact h.sep j W j' V g1 k1 (by rw [g2]; exact hwr) hne
  · intro r e xs h
    have h : (Tr.e : Tr (TypeId × List FV)).get r = some (e, xs) := h
    rw [Tr.get_e] at h; cases h
  · intro r e xs g j W h
    have h : (Tr.e : Tr (TypeId × List FV)).get r = some (e, xs) := h
    rw [Tr.get_e] at h; cases h
  · intro r e xs r' e' xs' g h
    have h : (Tr.e : Tr (TypeId × List FV)).get r = some (e, xs) := h
    rw [Tr.get_e] at h; cases h
  · intro r j n h
    have h : (Tr.e : Tr (Nat × Nat)).get r = some (j, n) := h
    rw [Tr.get_e] at h; cases h
  · exact h.gl
  · exact h.w0
  · exact h.ix

/-- Behind a call by contract: what it turned is named anew, from m on. -/
theorem MemOK.after {N nx thr N' thr' m : Nat} {fl fl' : List (Nat × SV)} {ml ml0 ml' : List (Nat × Win)} {orc orc' : List Bool} {xs : List Nat} {w' : World} (f : Nat → Int)
    (h : MemOK cfg w0 ρ (mkSt N nx thr fl ml orc) w) (hi0 : idxB ml0 = true) (hb0 : oldMem nx m ml0 = true) (hix : ixB nx m cfg.ix = true)
    (hdrop : ∀ p ∈ ml0, ∃ W, (ofL ml).get p.1 = some W ∧ W.wr = p.2.wr ∧ (p.2 = W ∨ p.2.cells = [])) (hi : idxB ml' = true) (hk : Kp w.heap.size xs w w')
    (hx : ∀ x ∈ xs, ∃ j W, (ofL ml0).get j = some W ∧ W.wr ≠ 0 ∧ ρ.b j = x)
    (hnew : ∀ p ∈ ml', ∃ W, (ofL ml0).get p.1 = some W ∧ W.wr = p.2.wr ∧ ((p.2 = W ∧ ρ.b p.1 ∉ xs) ∨
      (okL (ρ.extF m f) nx p.2.cells ∧ (∀ i x, p.2.cells[i]? = some x → w'.cell? ⟨ρ.b p.1, ρ.o p.1 + i, none⟩ = some (x.den (ρ.extF m f))) ∧ (∀ i, i < p.2.cells.length → w'.frozen? ⟨ρ.b p.1, ρ.o p.1 + i, none⟩ = false)))) :
    MemOK cfg w0 (ρ.extF m f) (mkSt N' nx thr' fl' ml' orc') w' := by
  have h1 : MemOK cfg w0 ρ (mkSt N nx thr fl ml0 orc) w := h.turn hi0 (Kp.refl _ [] _) (fun x hx => by cases hx) fun p hp => by
    obtain ⟨W, g1, g2, g3⟩ := hdrop p hp
    refine ⟨W, g1, g2, ?_⟩
    rcases g3 with g3 | g3
    · exact .inl ⟨g3, by simp⟩
    · right
      rw [g3]
      exact ⟨(fun _ h => by cases h), (fun i x hx => by simp at hx), (fun i hi => by simp at hi)⟩
  exact (h1.extF f hi0 hb0 hix).turn hi hk hx hnew

/-- copy, as an operation. -/
theorem run_copy_op {v : Value} {w' : World} {dst : Option Tmp} {x y : Operand} {t t' ty : TypeId} {pos : String} {after : Array Edge} {guard : Option (Nat × Bool)}
    (h : (Builtin.copy_ #[t, t'] ty #[a.eval x, a.eval y]).run P w = .ok v w') :
    (execOp a.eval ⟨dst, .call { callee := .builtin .copy, args := #[x, y], argTypes := #[t, t'] }, ty, pos, after, guard⟩).run P w = .ok (.value v) w' := by
  unfold execOp
  simp [resolve, invoke, builtin, h]

/-- A name more, for a place. -/
theorem Reach.name {Q : Exit → Act → World → Prop} {k : List It} {N nx thr : Nat} {fl : List (Nat × SV)} {ml : List (Nat × Win)} {orc : List Bool} (b o c : Nat)
    (hR : Reach P cfg w0 Q k (mkSt N (nx + 1) thr fl ml orc) (ρ.more nx b o c undef)) : Reach P cfg w0 Q k (mkSt N nx thr fl ml orc) ρ :=
  fun a w hF hM => hR a w (hF.le (Env.more_le ρ nx b o c undef) (Nat.le_succ _)) ((hM.name b o c undef).of_eq rfl rfl rfl rfl)

/-- The same slots by other words. -/
theorem FrOK.redo {N nx nx' : Nat} {fl fl' : List (Nat × SV)} (hF : FrOK ρ nx N (ofL fl) a) (hi : idxB fl' = true)
    (h : ∀ p ∈ fl', ∃ x, (ofL fl).get p.1 = some x ∧ (x.ok ρ nx → p.2.ok ρ nx' ∧ p.2.den ρ = x.den ρ)) : FrOK ρ nx' N (ofL fl') a :=
  ⟨hF.size, hF.defers, fun d y hd => by
    obtain ⟨x, h1, h2⟩ := h _ (ofL_get hi hd)
    obtain ⟨g1, g2⟩ := hF.get d x h1
    obtain ⟨h3, h4⟩ := h2 g1
    exact ⟨h3, by rw [g2]; exact h4.symm⟩⟩
theorem Reach.redo {Q : Exit → Act → World → Prop} {k : List It} {N nx thr : Nat} {fl fl' : List (Nat × SV)} {ml : List (Nat × Win)} {orc : List Bool} (hi : idxB fl' = true)
    (h : ∀ p ∈ fl', ∃ x, (ofL fl).get p.1 = some x ∧ (x.ok ρ nx → p.2.ok ρ nx ∧ p.2.den ρ = x.den ρ))
    (hR : Reach P cfg w0 Q k (mkSt N nx thr fl' ml orc) ρ) : Reach P cfg w0 Q k (mkSt N nx thr fl ml orc) ρ :=
  fun a w hF hM => hR a w (FrOK.redo hF hi h) (hM.of_eq rfl rfl rfl rfl)

/-- Where the executor stands at an operation that is carried out by hand. -/
structure Stand where
  all : Array Oper
  o : Oper
  l : List Oper
  k : List It
noncomputable def standOf (k : List It) (s : St) : Option Stand :=
  match k with
  | .ops all l :: k => match l with
    | o :: l => match wantS s all o with
      | .yes => some ⟨all, o, l, k⟩
      | _ => none
    | [] => none
  | _ => none
theorem reach_op {Q : Exit → Act → World → Prop} {k : List It} {s : St} {e : Stand} (h : standOf k s = some e)
    (hR : ∀ a w, FrOK ρ s.nx s.N s.F a → MemOK cfg w0 ρ s w → ∃ v w', (execOp a.eval e.o).run P w = .ok (.value v) w' ∧ wpK P Q (.ops e.all e.l :: e.k) .normal (a.put e.o.dst v) w') : Reach P cfg w0 Q k s ρ := by
  intro a w hF hM
  obtain ⟨v, w', h1, h2⟩ := hR a w hF hM
  unfold standOf at h
  split at h
  · rename_i all l k
    split at h
    · rename_i o l
      split at h
      · rename_i hw
        have h := Option.some.inj h
        subst h
        have hwy := wantS_sound hF (all := all) (o := o)
        rw [hw] at hwy
        show wpList P all (wpK P Q k) (o :: l) a w
        unfold wpList
        rw [if_pos (hwy.1 rfl)]
        refine .inl ?_
        unfold Oper.wp
        rw [h1]
        exact h2
      · cases h
    · cases h
  · cases h

/-- All interleavings of a region of open order: where each ends. -/
noncomputable def anyEnds (cfg : Cfg) (n : Nat) (ops : Array Oper) : Nat → Array Bool → St → Option (List St)
  | 0, listed, s => match Region.ready .any ops listed with
    | [] => some [s]
    | _ => none
  | f + 1, listed, s => match Region.ready .any ops listed with
    | [] => some [s]
    | i :: l => anyList (i :: l) fun i => match nth? ops.toList i with
      | none => none
      | some o => match go cfg false n [.ops ops [o]] s with
        | .done s' => match nilB s'.obs with
          | true => anyEnds cfg n ops f (listed.setIfInBounds i true) s'
          | false => none
        | _ => none
where
  anyList : List Nat → (Nat → Option (List St)) → Option (List St)
    | [], _ => some []
    | i :: l, g => match g i with
      | some r => match anyList l g with
        | some r' => some (appX r r')
        | none => none
      | none => none

theorem anyList_mem {g : Nat → Option (List St)} : ∀ {l : List Nat} {r : List St}, anyEnds.anyList l g = some r → ∀ i ∈ l, ∃ r', g i = some r' ∧ ∀ s ∈ r', s ∈ r
  | [], _, _, i, hi => by cases hi
  | j :: l, r, h, i, hi => by
    have h : (match g j with | some r => (match anyEnds.anyList l g with | some r' => some (appX r r') | none => none) | none => none) = some r := h
    split at h
    · rename_i r1 h1
      split at h
      · rename_i r2 h2
        have h := Option.some.inj h
        subst h
        rcases List.mem_cons.1 hi with rfl | hi
        · exact ⟨r1, h1, fun s hs => by rw [appX_eq]; simp [hs]⟩
        · obtain ⟨r', g1, g2⟩ := anyList_mem h2 i hi
          exact ⟨r', g1, fun s hs => by rw [appX_eq]; simp [g2 s hs]⟩
      · cases h
    · cases h

theorem anyEnds_sound (hc : CfgOk P cfg) {n : Nat} {ops : Array Oper} {Q : Exit → Act → World → Prop} : ∀ (f : Nat) (listed : Array Bool) (s : St) (r : List St) (ρ : Env) (a : Act) (w : World), anyEnds cfg n ops f listed s = some r →
    FrOK ρ s.nx s.N s.F a → MemOK cfg w0 ρ s w → (∀ s' ∈ r, ∀ ρ' a' w', Env.le s.nx ρ ρ' → FrOK ρ' s'.nx s'.N s'.F a' → MemOK cfg w0 ρ' s' w' → Q .normal a' w') → wpAny P .any ops Q f listed a w
  | 0, listed, s, r, ρ, a, w, h, hF, hM, hQ => by
    unfold anyEnds at h
    split at h
    · rename_i hr
      have h := Option.some.inj h
      subst h
      exact ⟨hr, hQ s (by simp) ρ a w (.refl _ _) hF hM⟩
    · cases h
  | f + 1, listed, s, r, ρ, a, w, h, hF, hM, hQ => by
    unfold anyEnds at h
    split at h
    · rename_i hr
      have h := Option.some.inj h
      subst h
      refine ⟨fun _ => hQ s (by simp) ρ a w (.refl _ _) hF hM, fun i hi => ?_⟩
      rw [hr] at hi; cases hi
    · rename_i i0 l0 hr
      refine ⟨fun h0 => (by rw [h0] at hr; cases hr), fun i hi => ?_⟩
      rw [hr] at hi
      obtain ⟨r', g1, g2⟩ := anyList_mem h i hi
      split at g1
      · cases g1
      · rename_i o ho
        rw [nth?_eq] at ho
        have ho : ops[i]? = some o := by simpa using ho
        split at g1
        · rename_i s' hgo
          split at g1
          · rename_i hob
            have hrun : wpK P (fun e a w => match e with | .normal => wpAny P .any ops Q f (listed.setIfInBounds i true) a w | e => Q e a w) [.ops ops [o]] .normal a w := by
              have hx := (go_soundG (P := P) (w0 := w0) hc n false).ext [.ops ops [o]] s
              refine (go_soundG hc n false).run [.ops ops [o]] s _ ρ a w hF hM (by rw [hgo]; exact Obs.nil hob _) fun ρ' a' w' h1 h2 h3 => ?_
              rw [hgo] at h2 h3 hx ⊢
              have hnx : s.nx ≤ s'.nx := hx.nx
              exact anyEnds_sound hc f (listed.setIfInBounds i true) s' r' ρ' a' w' g1 h2 h3 fun s'' hs'' ρ'' a'' w'' h4 h5 h6 => hQ s'' (g2 s'' hs'') ρ'' a'' w'' (h1.trans h4 hnx) h5 h6
            have hrun : wpList P ops (wpK P (fun e a w => match e with | .normal => wpAny P .any ops Q f (listed.setIfInBounds i true) a w | e => Q e a w) []) [o] a w := hrun
            have conv : ∀ K, Oper.wp P o a w K (fun e a w => match e with | .normal => wpAny P .any ops Q f (listed.setIfInBounds i true) a w | e => Q e a w) → Oper.wp P o a w K Q := by
              intro K h
              unfold Oper.wp at *
              generalize (execOp a.eval o).run P w = q at *
              cases q with
              | ok nxt w' => cases nxt <;> exact h
              | halt x w' => cases x <;> exact h
            unfold wpOp
            simp only [ho]
            unfold wpList at hrun
            split
            · rename_i hw
              rw [if_pos hw] at hrun
              rcases hrun with hrun | hrun
              · exact .inl (conv _ hrun)
              · exact .inr hrun
            · rename_i hw
              rw [if_neg hw] at hrun
              exact hrun
          · cases g1
        · cases g1

/-- A region of open order, all its ways looked at; they end alike. -/
theorem reach_any (hc : CfgOk P cfg) {Q : Exit → Act → World → Prop} {id : Nat} {ops : Array Oper} {k : List It} {s : St} (n : Nat) {r : List St} (h : anyEnds cfg n ops ops.size (Array.replicate ops.size false) s = some r)
    (hR : ∀ s' ∈ r, ∀ ρ', Env.le s.nx ρ ρ' → Reach P cfg w0 Q k s' ρ') : Reach P cfg w0 Q (.code (.region id ops true) :: k) s ρ := by
  intro a w hF hM
  show (Code.region id ops true).wp P (wpK P Q k) a w
  refine wp_region_any hc.m ?_
  exact anyEnds_sound hc _ _ s r ρ a _ h hF hM.drew fun s' hs' ρ' a' w' h1 h2 h3 => hR s' hs' ρ' h1 a' w' h2 h3
end
end Go.Sx
