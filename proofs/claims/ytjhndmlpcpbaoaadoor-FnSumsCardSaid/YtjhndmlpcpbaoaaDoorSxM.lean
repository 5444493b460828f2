/- A symbolic executor over the model, part thirteen: where a call begins; a world but for some blocks. -/
import Derived.Test.YtjhndmlpcpbaoaaDoorSxL
import Derived.Below
namespace Go.Sx
open Go Go.RowKit

/-- As it was below B, but for these blocks. -/
structure Kp (B : Nat) (xs : List Nat) (w w' : World) : Prop where
  os : w'.os = w.os
  tape : w'.tape = w.tape
  output : w'.output = w.output
  size : w.heap.size ≤ w'.heap.size
  block : ∀ k, k < B → k ∉ xs → w'.heap[k]? = w.heap[k]?
theorem Kp.below {B : Nat} {w w' : World} (h : Kp B [] w w') : Below B w w' := ⟨h.os, h.tape, h.output, h.size, fun k hk => h.block k hk (by simp)⟩
theorem Kp.of_below {B : Nat} {xs : List Nat} {w w' : World} (h : Below B w w') : Kp B xs w w' := ⟨h.os, h.tape, h.output, h.size, fun k hk _ => h.block k hk⟩
theorem Kp.refl (B : Nat) (xs : List Nat) (w : World) : Kp B xs w w := ⟨rfl, rfl, rfl, Nat.le_refl _, fun _ _ _ => rfl⟩
theorem Kp.trans {B : Nat} {xs : List Nat} {a b c : World} (h : Kp B xs a b) (k : Kp B xs b c) : Kp B xs a c :=
  ⟨k.os.trans h.os, k.tape.trans h.tape, k.output.trans h.output, Nat.le_trans h.size k.size, fun i hi hx => (k.block i hi hx).trans (h.block i hi hx)⟩
theorem Kp.mono {B B' : Nat} {xs xs' : List Nat} {w w' : World} (h : Kp B xs w w') (hB : B' ≤ B) (hx : ∀ k, k < B' → k ∈ xs → k ∈ xs') : Kp B' xs' w w' :=
  ⟨h.os, h.tape, h.output, h.size, fun k hk hn => h.block k (by omega) (fun hm => hn (hx k hk hm))⟩
theorem Kp.cell {B : Nat} {xs : List Nat} {w w' : World} (h : Kp B xs w w') {b o : Nat} (hb : b < B) (hx : b ∉ xs) : w'.cell? ⟨b, o, none⟩ = w.cell? ⟨b, o, none⟩ := by
  unfold World.cell?
  rw [h.block b hb hx]
theorem Kp.frozen {B : Nat} {xs : List Nat} {w w' : World} (h : Kp B xs w w') {b o : Nat} (hb : b < B) (hx : b ∉ xs) : w'.frozen? ⟨b, o, none⟩ = w.frozen? ⟨b, o, none⟩ := by
  unfold World.frozen?
  rw [h.block b hb hx]

section
variable {P : Program} {cfg : Cfg} {w0 w : World} {ρ : Env} {a : Act}
theorem MemOK.kp {s : St} (h : MemOK cfg w0 ρ s w) {xs : List Nat} (hx : ∀ j ∈ cfg.w0s, ρ.b j ∈ xs) : Kp w0.heap.size xs w0 w :=
  ⟨h.os, h.tape, h.output, h.size, fun k hk hn => h.keep k hk fun j hj e => hn (e ▸ hx j hj)⟩

/-- Where a run begins: windows as told. -/
theorem MemOK.init {N nx thr : Nat} {fl : List (Nat × SV)} {ml : List (Nat × Win)} {orc : List Bool} (hix : cfg.ix = []) (hi : idxB ml = true)
    (hcell : ∀ p ∈ ml, p.1 < nx ∧ okL ρ nx p.2.cells ∧ ∀ i x, p.2.cells[i]? = some x → w.cell? ⟨ρ.b p.1, ρ.o p.1 + i, none⟩ = some (x.den ρ))
    (hlt : ∀ p ∈ ml, ρ.b p.1 < w.heap.size)
    (hfree : ∀ p ∈ ml, p.2.wr ≠ 0 → p.1 ∈ cfg.w0s ∧ ∀ i, i < p.2.cells.length → w.frozen? ⟨ρ.b p.1, ρ.o p.1 + i, none⟩ = false)
    (hsep : ∀ p ∈ ml, ∀ q ∈ ml, p.2.wr ≠ 0 → p.1 ≠ q.1 → ρ.b p.1 ≠ ρ.b q.1)
    (hgl : ∀ g j, (g, j) ∈ cfg.gl → j < nx ∧ ρ.b j = g ∧ ρ.o j = 0) (hw0 : ∀ j ∈ cfg.w0s, j < nx) : MemOK cfg w ρ (mkSt N nx thr fl ml orc) w := by
  have key : ∀ j W, (mkSt N nx thr fl ml orc).M.get j = some W → (j, W) ∈ ml := fun j W h => ofL_get hi h
  constructor
  · rfl
  · rfl
  · rfl
  · exact Nat.le_refl _
  · intros; rfl
  · exact fun j W h => hcell _ (key j W h)
  · exact fun j W h => hlt _ (key j W h)
  · exact fun j W h hwr => (hfree _ (key j W h) hwr).2
  · exact fun j W h hwr => .inl (hfree _ (key j W h) hwr).1
  · exact fun j W j' W' h h' hwr hne => hsep _ (key j W h) _ (key j' W' h') hwr hne
  · intro r e xs h
    have h : (Tr.e : Tr (TypeId × List FV)).get r = some (e, xs) := h
    rw [Tr.get_e] at h; cases h
  · intro r e xs g j W h
    have h : (Tr.e : Tr (TypeId × List FV)).get r = some (e, xs) := h
    rw [Tr.get_e] at h; cases h
  · intro r e xs r' e' xs' g h
    have h : (Tr.e : Tr (TypeId × List FV)).get r = some (e, xs) := h
    rw [Tr.get_e] at h; cases h
  · intro r j n h
    have h : (Tr.e : Tr (Nat × Nat)).get r = some (j, n) := h
    rw [Tr.get_e] at h; cases h
  · exact hgl
  · exact hw0
  · intro p hp
    rw [hix] at hp
    cases hp

/-- The same state in a world that is now the first. -/
theorem MemOK.rebase {N nx thr : Nat} {fl fl' : List (Nat × SV)} {ml ml' : List (Nat × Win)} {orc orc' : List Bool} {cfg' : Cfg} {N' thr' : Nat} (h : MemOK cfg w0 ρ (mkSt N nx thr fl ml orc) w) (hi : idxB ml' = true)
    (hsub : ∀ p ∈ ml', (ofL ml).get p.1 = some p.2) (hwr : ∀ p ∈ ml', p.2.wr ≠ 0 → p.1 ∈ cfg'.w0s)
    (hgl : ∀ g j, (g, j) ∈ cfg'.gl → (g, j) ∈ cfg.gl) (hw0 : ∀ j ∈ cfg'.w0s, j < nx) (hix : cfg'.ix = []) : MemOK cfg' w ρ (mkSt N' nx thr' fl' ml' orc') w :=
  MemOK.init hix hi (fun p hp => h.cell p.1 p.2 (hsub p hp)) (fun p hp => h.lt p.1 p.2 (hsub p hp)) (fun p hp hw => ⟨hwr p hp hw, h.free p.1 p.2 (hsub p hp) hw⟩)
    (fun p hp q hq hw hne => h.sep p.1 p.2 q.1 q.2 (hsub p hp) (hsub q hq) hw hne) (fun g j hg => h.gl g j (hgl g j hg)) hw0

/-- Arguments in the first slots. -/
def en (k : Nat) : List SV → List (Nat × SV)
  | [] => []
  | v :: l => (k, v) :: en (k + 1) l
theorem en_mem : ∀ {l : List SV} {k d : Nat} {x : SV}, (d, x) ∈ en k l → ∃ j, d = k + j ∧ l[j]? = some x
  | [], _, _, _, h => by cases h
  | v :: l, k, d, x, h => by
    rcases List.mem_cons.1 h with h | h
    · simp only [Prod.mk.injEq] at h
      exact ⟨0, by omega, by simp [h.2]⟩
    · obtain ⟨j, h1, h2⟩ := en_mem h
      exact ⟨j + 1, by omega, by simpa using h2⟩
theorem en_idx : ∀ (l : List SV) (k : Nat), k + l.length ≤ 8192 → idxB (en k l) = true
  | [], _, _ => rfl
  | v :: l, k, h => by
    simp only [List.length_cons] at h
    show (match Nat.ble k 8191 with | true => idxB (en (k + 1) l) | false => false) = true
    rw [Nat.ble_eq_true_of_le (by omega : k ≤ 8191)]
    exact en_idx l (k + 1) (by omega)
theorem calls_reach {f : FuncId} {fn : Func} {b : Code} (hfn : P.funcs[f]? = some fn) (hbd : fn.body = some b) (vs : List SV) {nx thr : Nat} {ml : List (Nat × Win)} {orc : List Bool}
    (hN : Nat.ble vs.length fn.ntmps = true) (h8 : Nat.ble vs.length 8192 = true) (hok : ∀ v ∈ vs, v.ok ρ nx) {K : Value → World → Prop}
    (hM : MemOK cfg w ρ (mkSt fn.ntmps nx thr (en 0 vs) ml orc) w) (hR : Reach P cfg w (callQ P fn K) [.code b] (mkSt fn.ntmps nx thr (en 0 vs) ml orc) ρ) :
    Calls P f (vs.map (SV.den ρ)).toArray w fun e w' => ∃ v, e = .returned v ∧ K v w' := by
  have hN := Nat.le_of_ble_eq_true hN
  have h8 := Nat.le_of_ble_eq_true h8
  refine calls_of_wp hfn hbd (hR _ w ⟨?_, rfl, fun d x hd => ?_⟩ hM)
  · show ((vs.map (SV.den ρ)).toArray ++ Array.replicate _ undef : Array Value).size = fn.ntmps
    simp; omega
  · obtain ⟨j, h1, h2⟩ := en_mem (ofL_get (en_idx vs 0 (by omega)) hd)
    have h1 : d = j := by omega
    subst h1
    refine ⟨hok x (List.mem_of_getElem? h2), ?_⟩
    have hj := (List.getElem?_eq_some_iff.1 h2).1
    show ((vs.map (SV.den ρ)).toArray ++ _ : Array Value).getD d undef = _
    rw [Array.getD_eq_getD_getElem?, Array.getElem?_append_left (by simp; exact hj)]
    simp [h2]

/-- A window at a place that is known. -/
theorem Reach.window {Q : Exit → Act → World → Prop} {k : List It} {N nx thr : Nat} {fl : List (Nat × SV)} {ml : List (Nat × Win)} {orc : List Bool} (b o c : Nat) (l : List FV) (n8 : nx < 8192)
    (hw : ∀ w, MemOK cfg w0 ρ (mkSt N nx thr fl ml orc) w → okL (ρ.more nx b o c undef) (nx + 1) l ∧ (∀ i x, l[i]? = some x → w.cell? ⟨b, o + i, none⟩ = some (x.den (ρ.more nx b o c undef))) ∧ b < w.heap.size ∧ (∀ j W, (ofL ml).get j = some W → ρ.b j ≠ b))
    (hR : Reach P cfg w0 Q k (mkSt N (nx + 1) thr fl ((nx, ⟨l, 0⟩) :: ml) orc) (ρ.more nx b o c undef)) : Reach P cfg w0 Q k (mkSt N nx thr fl ml orc) ρ := by
  intro a w hF hM
  obtain ⟨h1, h2, h3, h4⟩ := hw w hM
  have hle := Env.more_le ρ nx b o c undef
  have hbn : (ρ.more nx b o c undef).b nx = b := by simp [Env.more]
  have hon : (ρ.more nx b o c undef).o nx = o := by simp [Env.more]
  have h5 := (hM.name b o c undef).addWin (j := nx) (l := l) (wr := 0) (Nat.lt_succ_self _) n8 h1 (fun i x hx => by
    show World.cell? w ⟨(ρ.more nx b o c undef).b nx, (ρ.more nx b o c undef).o nx + i, none⟩ = some (x.den (ρ.more nx b o c undef))
    rw [hbn, hon]; exact h2 i x hx)
    (by show (ρ.more nx b o c undef).b nx < _; rw [hbn]; exact h3) (fun h => absurd rfl h) (fun h => absurd rfl h)
    (fun j' W' hW' _ => by
      obtain ⟨q1, _⟩ := hM.cell j' W' hW'
      show (ρ.more nx b o c undef).b j' ≠ (ρ.more nx b o c undef).b nx
      rw [hbn, hle.b j' q1]
      exact h4 j' W' hW')
    (fun r e xs g hr => by
      have hr : (Tr.e : Tr (TypeId × List FV)).get r = some (e, xs) := hr
      rw [Tr.get_e] at hr; cases hr)
  exact hR a w (hF.le hle (Nat.le_succ _)) (h5.of_eq rfl rfl rfl rfl)

/-- Numbers from m on, by any function: they stand nowhere. -/
theorem Reach.numbers {Q : Exit → Act → World → Prop} {k : List It} {N nx thr m : Nat} {fl : List (Nat × SV)} {ml : List (Nat × Win)} {orc : List Bool} (f : Nat → Int)
    (hi : idxB ml = true) (hb : oldMem nx m ml = true) (hf : idxB fl = true) (hfb : oldFr nx m fl = true) (hx : ixB nx m cfg.ix = true)
    (hR : Reach P cfg w0 Q k (mkSt N nx thr fl ml orc) (ρ.extF m f)) : Reach P cfg w0 Q k (mkSt N nx thr fl ml orc) ρ :=
  fun a w hF hM => hR a w (FrOK.ag hF (ρ.extF_ag nx m f) hf hfb) (hM.extF f hi hb hx)
theorem Reach.withIx {Q : Exit → Act → World → Prop} {k : List It} {s : St} (l : List Ix) (hl : ∀ p ∈ l, IxOK ρ s.nx p) (hR : Reach P { cfg with ix := l } w0 Q k s ρ) : Reach P cfg w0 Q k s ρ :=
  fun a w hF hM => hR a w hF (hM.withIx l hl)
theorem Reach.noIx {Q : Exit → Act → World → Prop} {k : List It} {s : St} (hR : Reach P { cfg with ix := [] } w0 Q k s ρ) : Reach P cfg w0 Q k s ρ :=
  fun a w hF hM => hR a w hF hM.noIx
end
end Go.Sx
