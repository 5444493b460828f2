/- A symbolic executor over the model, part five: operations that turn memory. -/
import Derived.Test.YtgoogcbibcgcmaaSxD
namespace Go.Sx
open Go

section
variable {P : Program} {cfg : Cfg} {w0 w : World} {ρ : Env} {s : St} {a : Act}

theorem FrOK.le {ρ' : Env} {nx nx' N : Nat} {F : Tr SV} (h : FrOK ρ nx N F a) (hl : Env.le nx ρ ρ') (hn : nx ≤ nx') : FrOK ρ' nx' N F a :=
  ⟨h.size, h.defers, fun d x hx => ⟨SV.ok_le hl hn (h.get d x hx).1, (h.get d x hx).2.trans (SV.den_le hl (h.get d x hx).1).symm⟩⟩
theorem FrOK.put {nx N d : Nat} {F : Tr SV} {x : SV} (h : FrOK ρ nx N F a) (hx : x.ok ρ nx) (hd : d < N) (hd' : d < 8192) : FrOK ρ nx N (F.put d x) (a.put (some d) (x.den ρ)) := by
  refine ⟨by simp [Act.put, h.size], h.defers, fun d' y hy => ?_⟩
  by_cases e : d = d'
  · subst e
    rw [Tr.get_put_same hd'] at hy
    have hy := Option.some.inj hy
    subst hy
    refine ⟨hx, ?_⟩
    have : d < a.tmps.size := by rw [h.size]; exact hd
    simp [Act.put, this]
  · rw [Tr.get_put_other e] at hy
    obtain ⟨h1, h2⟩ := h.get d' y hy
    refine ⟨h1, ?_⟩
    rw [← h2]
    simp [Act.put, e]

/-- What the relation on memory reads of a state. -/
theorem MemOK.of_eq {s' : St} (h : MemOK cfg w0 ρ s w) (hM : s'.M = s.M) (hR : s'.R = s.R) (hA : s'.A = s.A) (hn : s'.nx = s.nx) : MemOK cfg w0 ρ s' w := by
  obtain ⟨os, tape, output, size, keep, cell, lt, free, kind, sep, row, sepR, sepRR, als, gl, w0'⟩ := h
  exact ⟨os, tape, output, size, keep, by rw [hM, hn]; exact cell, by rw [hM]; exact lt, by rw [hM]; exact free, by rw [hM]; exact kind, by rw [hM]; exact sep, by rw [hR, hn]; exact row, by rw [hR, hM]; exact sepR, by rw [hR]; exact sepRR, by rw [hA, hn]; exact als, by rw [hn]; exact gl, by rw [hn]; exact w0'⟩

theorem MemOK.drew (h : MemOK cfg w0 ρ s w) : MemOK cfg w0 ρ s { w with drawn := w.drawn + 1 } :=
  ⟨h.os, h.tape, h.output, h.size, h.keep, h.cell, h.lt, h.free, h.kind, h.sep, h.row, h.sepR, h.sepRR, h.als, h.gl, h.w0⟩

/-- A name more. -/
def Env.more (ρ : Env) (n : Nat) (b o c : Nat) (r : Value) : Env :=
  { i := ρ.i, b := fun j => if j = n then b else ρ.b j, o := fun j => if j = n then o else ρ.o j, c := fun j => if j = n then c else ρ.c j, r := fun j => if j = n then r else ρ.r j }
theorem Env.more_le (ρ : Env) (n b o c : Nat) (r : Value) : Env.le n ρ (ρ.more n b o c r) :=
  ⟨rfl, fun j hj => by simp [Env.more, Nat.ne_of_lt hj], fun j hj => by simp [Env.more, Nat.ne_of_lt hj], fun j hj => by simp [Env.more, Nat.ne_of_lt hj], fun j hj => by simp [Env.more, Nat.ne_of_lt hj]⟩

/-- The relation, a name more, nothing said of it. -/
theorem MemOK.name (h : MemOK cfg w0 ρ s w) (b o c : Nat) (r : Value) : MemOK cfg w0 (ρ.more s.nx b o c r) { s with nx := s.nx + 1 } w := by
  have hle := Env.more_le ρ s.nx b o c r
  have rlt : ∀ r e xs, s.R.get r = some (e, xs) → r < s.nx := fun r e xs hr => (h.row r e xs hr).1
  have jlt : ∀ j W, s.M.get j = some W → j < s.nx := fun j W hW => (h.cell j W hW).1
  refine ⟨h.os, h.tape, h.output, h.size, ?_, ?_, ?_, ?_, ?_, ?_, ?_, ?_, ?_, ?_, ?_, ?_⟩
  · intro i hi hj
    exact h.keep i hi fun j hjm => by have := hj j hjm; rw [hle.b j (h.w0 j hjm)] at this; exact this
  · intro j W hW
    obtain ⟨h1, h2, h3⟩ := h.cell j W hW
    refine ⟨Nat.lt_succ_of_lt h1, okL_le hle (Nat.le_succ _) h2, fun i x hx => ?_⟩
    rw [hle.b j h1, hle.o j h1, FV.den_le hle (h2 x (List.mem_of_getElem? hx))]
    exact h3 i x hx
  · intro j W hW; rw [hle.b j (jlt j W hW)]; exact h.lt j W hW
  · intro j W hW hwr i hi
    rw [hle.b j (jlt j W hW), hle.o j (jlt j W hW)]
    exact h.free j W hW hwr i hi
  · intro j W hW hwr
    rw [hle.b j (jlt j W hW)]
    exact h.kind j W hW hwr
  · intro j W j' W' hW hW' hwr hne
    rw [hle.b j (jlt j W hW), hle.b j' (jlt j' W' hW')]
    exact h.sep j W j' W' hW hW' hwr hne
  · intro r e xs hr
    obtain ⟨h1, h2, h3⟩ := h.row r e xs hr
    refine ⟨Nat.lt_succ_of_lt h1, okL_le hle (Nat.le_succ _) h2, ?_⟩
    rw [hle.r r h1, denL_le hle h2]
    exact h3
  · intro r e xs g j W hr hg hW
    rw [hle.r r (rlt r e xs hr)] at hg
    rw [hle.b j (jlt j W hW)]
    exact h.sepR r e xs g j W hr hg hW
  · intro r e xs r' e' xs' g hr hr' hne hg
    rw [hle.r r (rlt r e xs hr)] at hg
    rw [hle.r r' (rlt r' e' xs' hr')]
    exact h.sepRR r e xs r' e' xs' g hr hr' hne hg
  · intro r j n hA
    obtain ⟨h1, h2, h3, h4⟩ := h.als r j n hA
    refine ⟨Nat.lt_succ_of_lt h1, Nat.lt_succ_of_lt h2, ?_, by rw [hle.c j h2]; exact h4⟩
    rw [hle.r r h1, h3]
    exact (FV.den_le (x := .sl j 0 (.n n) (.v j 0)) hle ⟨h2, h2, by simp [E.den], by simp [E.den, Cp.den, h4]⟩).symm
  · intro g j hj
    obtain ⟨h1, h2, h3⟩ := h.gl g j hj
    exact ⟨Nat.lt_succ_of_lt h1, by rw [hle.b j h1]; exact h2, by rw [hle.o j h1]; exact h3⟩
  · intro j hj; exact Nat.lt_succ_of_lt (h.w0 j hj)

/-- A window more, under the newest name or another that bears none. -/
theorem MemOK.addWin (h : MemOK cfg w0 ρ s w) {j : Nat} {l : List FV} {wr : Nat} (hj : j < s.nx) (hj' : j < 8192) (hl : okL ρ s.nx l)
    (hcell : ∀ i x, l[i]? = some x → w.cell? ⟨ρ.b j, ρ.o j + i, none⟩ = some (x.den ρ)) (hlt : ρ.b j < w.heap.size)
    (hfree : wr ≠ 0 → ∀ i, i < l.length → w.frozen? ⟨ρ.b j, ρ.o j + i, none⟩ = false) (hkind : wr ≠ 0 → j ∈ cfg.w0s ∨ w0.heap.size ≤ ρ.b j)
    (hsep : ∀ j' W', s.M.get j' = some W' → j' ≠ j → ρ.b j' ≠ ρ.b j) (hsepR : ∀ r e xs g, s.R.get r = some (e, xs) → (ρ.r r).ownBlock = some g → ρ.b j ≠ g) :
    MemOK cfg w0 ρ { s with M := s.M.put j ⟨l, wr⟩ } w := by
  have get : ∀ j' W, (s.M.put j ⟨l, wr⟩).get j' = some W → (j' = j ∧ W = ⟨l, wr⟩) ∨ (j' ≠ j ∧ s.M.get j' = some W) := by
    intro j' W hW
    by_cases e : j = j'
    · subst e
      rw [Tr.get_put_same hj'] at hW
      exact .inl ⟨rfl, (Option.some.inj hW).symm⟩
    · rw [Tr.get_put_other e] at hW
      exact .inr ⟨fun h => e h.symm, hW⟩
  refine ⟨h.os, h.tape, h.output, h.size, h.keep, ?_, ?_, ?_, ?_, ?_, h.row, ?_, h.sepRR, h.als, h.gl, h.w0⟩
  · intro j' W hW
    rcases get j' W hW with ⟨rfl, rfl⟩ | ⟨_, hW⟩
    · exact ⟨hj, hl, hcell⟩
    · exact h.cell j' W hW
  · intro j' W hW
    rcases get j' W hW with ⟨rfl, rfl⟩ | ⟨_, hW⟩
    · exact hlt
    · exact h.lt j' W hW
  · intro j' W hW hwr
    rcases get j' W hW with ⟨rfl, rfl⟩ | ⟨_, hW⟩
    · exact hfree hwr
    · exact h.free j' W hW hwr
  · intro j' W hW hwr
    rcases get j' W hW with ⟨rfl, rfl⟩ | ⟨_, hW⟩
    · exact hkind hwr
    · exact h.kind j' W hW hwr
  · intro j1 W1 j2 W2 hW1 hW2 hwr hne
    rcases get j1 W1 hW1 with ⟨rfl, rfl⟩ | ⟨hn1, hX1⟩
    · rcases get j2 W2 hW2 with ⟨rfl, rfl⟩ | ⟨hn2, hX2⟩
      · exact absurd rfl hne
      · exact fun e => hsep j2 W2 hX2 hn2 e.symm
    · rcases get j2 W2 hW2 with ⟨rfl, rfl⟩ | ⟨hn2, hX2⟩
      · exact hsep j1 W1 hX1 hn1
      · exact h.sep j1 W1 j2 W2 hX1 hX2 hwr hne
  · intro r e xs g j' W hr hg hW
    rcases get j' W hW with ⟨rfl, rfl⟩ | ⟨_, hW⟩
    · exact hsepR r e xs g hr hg
    · exact h.sepR r e xs g j' W hr hg hW

/-- Blocks more. -/
theorem MemOK.alloc0 (h : MemOK cfg w0 ρ s w) (o : Obj) : MemOK cfg w0 ρ s (w.alloc o) := by
  refine ⟨h.os, h.tape, h.output, Nat.le_trans h.size (by simp), ?_, ?_, ?_, ?_, h.kind, h.sep, ?_, h.sepR, h.sepRR, h.als, h.gl, h.w0⟩
  · intro i hi hj
    rw [show (w.alloc o).heap[i]? = w.heap[i]? from heap_alloc_old w o (Nat.lt_of_lt_of_le hi h.size)]
    exact h.keep i hi hj
  · intro j W hW
    obtain ⟨h1, h2, h3⟩ := h.cell j W hW
    refine ⟨h1, h2, fun i x hx => ?_⟩
    rw [World.cell?_alloc_lt w _ _ (h.lt j W hW)]
    exact h3 i x hx
  · intro j W hW; have := h.lt j W hW; simp; omega
  · intro j W hW hwr i hi
    have := h.lt j W hW
    rw [World.frozen?_alloc_old w _ _ (by simp; omega)]
    exact h.free j W hW hwr i hi
  · intro r e xs hr
    obtain ⟨h1, h2, h3⟩ := h.row r e xs hr
    exact ⟨h1, h2, h3.alloc _⟩

/-- The state with a window more. -/
noncomputable def St.win (s : St) (l : List FV) (wr : Nat) : St := { s with M := s.M.put s.nx ⟨l, wr⟩, nx := s.nx + 1 }

/-- A new block, all its cells known. -/
theorem MemOK.alloc (h : MemOK cfg w0 ρ s w) {l : List FV} (hl : okL ρ s.nx l) (hn : s.nx < 8192) (t : TypeId) (c : Nat) (r : Value) :
    MemOK cfg w0 (ρ.more s.nx w.heap.size 0 c r) (s.win l 2) (w.alloc (.cells (denL ρ l).toArray t)) := by
  have h1 := (h.name w.heap.size 0 c r).alloc0 (.cells (denL ρ l).toArray t)
  have hle := Env.more_le ρ s.nx w.heap.size 0 c r
  have hbn : (ρ.more s.nx w.heap.size 0 c r).b s.nx = w.heap.size := by simp [Env.more]
  have hon : (ρ.more s.nx w.heap.size 0 c r).o s.nx = 0 := by simp [Env.more]
  have h2 := h1.addWin (j := s.nx) (l := l) (wr := 2) (Nat.lt_succ_self _) hn (okL_le hle (Nat.le_succ _) hl)
    (fun i x hx => by
      rw [hbn, hon, Nat.zero_add, World.cell?_alloc_new, FV.den_le hle (hl x (List.mem_of_getElem? hx))]
      simp [denL, hx])
    (by rw [hbn]; simp)
    (fun _ i _ => by rw [hbn]; exact World.frozen?_alloc_at _ _ _ _ rfl)
    (fun _ => by rw [hbn]; exact .inr h.size)
    (fun j' W' hW' _ => by
      obtain ⟨q1, _⟩ := h.cell j' W' hW'
      rw [hbn, hle.b j' q1]
      exact Nat.ne_of_lt (h.lt j' W' hW'))
    (fun r' e xs g hr hg => by
      obtain ⟨q1, _, q3⟩ := h.row r' e xs hr
      rw [hle.r r' q1] at hg
      rw [hbn]
      exact fun e => absurd (q3.lt g hg).2 (by omega))
  exact h2.of_eq rfl rfl rfl rfl

/-- A row more: an empty one in a block of its own. -/
noncomputable def St.newRow (s : St) (e : TypeId) : St := { s with R := s.R.put s.nx (e, []), nx := s.nx + 1 }

theorem MemOK.addRow (h : MemOK cfg w0 ρ s w) {r : Nat} {e : TypeId} {xs : List FV} (hr : r < s.nx) (hr' : r < 8192) (hx : okL ρ s.nx xs)
    (hown : w.ownsRow w0.heap.size e 1 (ρ.r r) xs.length (denL ρ xs)) (hsep : ∀ g j W, (ρ.r r).ownBlock = some g → s.M.get j = some W → ρ.b j ≠ g)
    (hsepR : ∀ r' e' xs' g, s.R.get r' = some (e', xs') → r' ≠ r → (ρ.r r').ownBlock = some g → (ρ.r r).ownBlock ≠ some g) :
    MemOK cfg w0 ρ { s with R := s.R.put r (e, xs) } w := by
  have get : ∀ r' W, (s.R.put r (e, xs)).get r' = some W → (r' = r ∧ W = (e, xs)) ∨ (r' ≠ r ∧ s.R.get r' = some W) := by
    intro r' W hW
    by_cases he : r = r'
    · subst he
      rw [Tr.get_put_same hr'] at hW
      exact .inl ⟨rfl, (Option.some.inj hW).symm⟩
    · rw [Tr.get_put_other he] at hW
      exact .inr ⟨fun h => he h.symm, hW⟩
  refine ⟨h.os, h.tape, h.output, h.size, h.keep, h.cell, h.lt, h.free, h.kind, h.sep, ?_, ?_, ?_, h.als, h.gl, h.w0⟩
  · intro r' e' xs' hq
    rcases get r' _ hq with ⟨rfl, hh⟩ | ⟨_, hq⟩
    · injection hh with h1 h2
      subst h1 h2
      exact ⟨hr, hx, hown⟩
    · exact h.row r' e' xs' hq
  · intro r' e' xs' g j W hq hg hW
    rcases get r' _ hq with ⟨rfl, hh⟩ | ⟨_, hq⟩
    · exact hsep g j W hg hW
    · exact h.sepR r' e' xs' g j W hq hg hW
  · intro r1 e1 x1 r2 e2 x2 g hq1 hq2 hne hg
    rcases get r1 _ hq1 with ⟨rfl, hh1⟩ | ⟨hn1, hX1⟩
    · rcases get r2 _ hq2 with ⟨rfl, hh2⟩ | ⟨hn2, hX2⟩
      · exact absurd rfl hne
      · intro hg2
        exact hsepR r2 e2 x2 g hX2 hn2 hg2 hg
    · rcases get r2 _ hq2 with ⟨rfl, hh2⟩ | ⟨hn2, hX2⟩
      · exact hsepR r1 e1 x1 g hX1 hn1 hg
      · exact h.sepRR r1 e1 x1 r2 e2 x2 g hX1 hX2 hne hg

theorem MemOK.delRow (h : MemOK cfg w0 ρ s w) (r : Nat) (hr : r < 8192) : MemOK cfg w0 ρ { s with R := s.R.del r } w := by
  have get : ∀ r' W, (s.R.del r).get r' = some W → r' ≠ r ∧ s.R.get r' = some W := by
    intro r' W hW
    by_cases he : r = r'
    · subst he
      rw [Tr.get_del_same hr] at hW
      cases hW
    · rw [Tr.get_del_other he] at hW
      exact ⟨fun h => he h.symm, hW⟩
  refine ⟨h.os, h.tape, h.output, h.size, h.keep, h.cell, h.lt, h.free, h.kind, h.sep, ?_, ?_, ?_, h.als, h.gl, h.w0⟩
  · intro r' e' xs' hq; exact h.row r' e' xs' (get r' _ hq).2
  · intro r' e' xs' g j W hq hg hW; exact h.sepR r' e' xs' g j W (get r' _ hq).2 hg hW
  · intro r1 e1 x1 r2 e2 x2 g hq1 hq2 hne hg; exact h.sepRR r1 e1 x1 r2 e2 x2 g (get r1 _ hq1).2 (get r2 _ hq2).2 hne hg

theorem MemOK.newRow (h : MemOK cfg w0 ρ s w) (hn : s.nx < 8192) (t : TypeId) :
    MemOK cfg w0 (ρ.more s.nx 0 0 0 (.slice (some ⟨w.heap.size, 0, none⟩) 0 0)) (s.newRow t) (w.alloc (.cells #[] t)) := by
  have h1 := (h.name 0 0 0 (.slice (some ⟨w.heap.size, 0, none⟩) 0 0)).alloc0 (.cells #[] t)
  have hle := Env.more_le ρ s.nx 0 0 0 (.slice (some ⟨w.heap.size, 0, none⟩) 0 0)
  have hrn : (ρ.more s.nx 0 0 0 (.slice (some ⟨w.heap.size, 0, none⟩) 0 0)).r s.nx = .slice (some ⟨w.heap.size, 0, none⟩) 0 0 := by simp [Env.more]
  have h2 := h1.addRow (r := s.nx) (e := t) (xs := []) (Nat.lt_succ_self _) hn (fun _ hx => by cases hx)
    (by rw [hrn]; exact World.ownsRow_made w #[] 0 h.size (by simp [maxLen]) (by simp))
    (fun g j W hg hW => by
      rw [hrn] at hg
      have hg : w.heap.size = g := by simpa [Value.ownBlock] using hg
      obtain ⟨q1, _⟩ := h.cell j W hW
      rw [hle.b j q1, ← hg]
      exact Nat.ne_of_lt (h.lt j W hW))
    (fun r' e' xs' g hr _ hg => by
      obtain ⟨q1, _, q3⟩ := h.row r' e' xs' hr
      rw [hle.r r' q1] at hg
      rw [hrn]
      intro hh
      have hh : w.heap.size = g := by simpa [Value.ownBlock] using hh
      have := (q3.lt g hg).2
      omega)
  exact h2.of_eq rfl rfl rfl rfl

/-- A store into a cell of a window that is written. -/
theorem MemOK.setCell (h : MemOK cfg w0 ρ s w) {j o : Nat} {W : Win} {x : FV} (hW : s.M.get j = some W) (hwr : W.wr ≠ 0) (ho : o < W.cells.length) (hj : j < 8192) (hx : x.ok ρ s.nx) :
    MemOK cfg w0 ρ { s with M := s.M.put j ⟨W.cells.set o x, W.wr⟩ } (w.setCell ⟨ρ.b j, ρ.o j + o, none⟩ (x.den ρ)) := by
  have get : ∀ j' W', (s.M.put j ⟨W.cells.set o x, W.wr⟩).get j' = some W' → (j' = j ∧ W' = ⟨W.cells.set o x, W.wr⟩) ∨ (j' ≠ j ∧ s.M.get j' = some W') := by
    intro j' W' hW'
    by_cases e : j = j'
    · subst e
      rw [Tr.get_put_same hj] at hW'
      exact .inl ⟨rfl, (Option.some.inj hW').symm⟩
    · rw [Tr.get_put_other e] at hW'
      exact .inr ⟨fun h => e h.symm, hW'⟩
  obtain ⟨hjn, hok, hcell⟩ := h.cell j W hW
  have hother : ∀ k, k ≠ ρ.b j → (w.setCell ⟨ρ.b j, ρ.o j + o, none⟩ (x.den ρ)).heap[k]? = w.heap[k]? := fun k hk => heap_setCell_other w _ k _ hk
  refine ⟨h.os, h.tape, h.output, by simpa using h.size, ?_, ?_, ?_, ?_, ?_, ?_, ?_, ?_, h.sepRR, h.als, h.gl, h.w0⟩
  · intro i hi hne
    rw [hother i ?_]
    · exact h.keep i hi hne
    · rcases h.kind j W hW hwr with hm | hge
      · exact fun e => hne j hm e.symm
      · omega
  · intro j' W' hW'
    rcases get j' W' hW' with ⟨rfl, rfl⟩ | ⟨hne, hW'⟩
    · refine ⟨hjn, fun y hy => ?_, fun i y hy => ?_⟩
      · rcases List.mem_or_eq_of_mem_set hy with hy | hy
        · exact hok y hy
        · rw [hy]; exact hx
      · simp only [List.getElem?_set] at hy
        by_cases e : o = i
        · subst e
          rw [if_pos rfl, if_pos ho] at hy
          have hy := Option.some.inj hy
          subst hy
          obtain ⟨y, hy⟩ : ∃ y, W.cells[o]? = some y := ⟨_, List.getElem?_eq_getElem ho⟩
          exact World.cell?_setCell_same w _ _ (hcell o y hy)
        · rw [if_neg e] at hy
          rw [World.cell?_setCell_other w _ _ _ (fun hh => e (by injection hh; omega))]
          exact hcell i y hy
    · obtain ⟨q1, q2, q3⟩ := h.cell j' W' hW'
      refine ⟨q1, q2, fun i y hy => ?_⟩
      rw [World.cell?_setCell_other w _ _ _ (fun hh => h.sep j W j' W' hW hW' hwr (fun e => hne e.symm) (by injection hh))]
      exact q3 i y hy
  · intro j' W' hW'
    rcases get j' W' hW' with ⟨rfl, rfl⟩ | ⟨hne, hW'⟩
    · simpa using h.lt j' W hW
    · simpa using h.lt j' W' hW'
  · intro j' W' hW' hwr' i hi
    rw [World.frozen?_setCell]
    rcases get j' W' hW' with ⟨rfl, rfl⟩ | ⟨hne, hW'⟩
    · exact h.free j' W hW hwr i (by simpa using hi)
    · exact h.free j' W' hW' hwr' i hi
  · intro j' W' hW' hwr'
    rcases get j' W' hW' with ⟨rfl, rfl⟩ | ⟨hne, hW'⟩
    · exact h.kind j' W hW hwr
    · exact h.kind j' W' hW' hwr'
  · intro j1 W1 j2 W2 hW1 hW2 hwr1 hne
    rcases get j1 W1 hW1 with ⟨rfl, rfl⟩ | ⟨hn1, hX1⟩
    · rcases get j2 W2 hW2 with ⟨rfl, rfl⟩ | ⟨hn2, hX2⟩
      · exact absurd rfl hne
      · exact h.sep j1 W j2 W2 hW hX2 hwr hne
    · rcases get j2 W2 hW2 with ⟨rfl, rfl⟩ | ⟨hn2, hX2⟩
      · exact h.sep j1 W1 j2 W hX1 hW hwr1 hne
      · exact h.sep j1 W1 j2 W2 hX1 hX2 hwr1 hne
  · intro r e xs hr
    obtain ⟨q1, q2, q3⟩ := h.row r e xs hr
    refine ⟨q1, q2, q3.kept (row := some (ρ.b j)) ⟨rfl, rfl, rfl, by simp, fun k _ hk => hother k (fun e => hk (by rw [e]))⟩ ?_⟩
    cases hg : (ρ.r r).ownBlock with
    | none => exact .inl rfl
    | some g => exact .inr (fun e => by injection e with e; exact h.sepR r _ xs g j W hr hg hW e.symm)
  · intro r e xs g j' W' hr hg hW'
    rcases get j' W' hW' with ⟨rfl, rfl⟩ | ⟨hne, hW'⟩
    · exact h.sepR r e xs g j' W hr hg hW
    · exact h.sepR r e xs g j' W' hr hg hW'

theorem MemOK.addAls (h : MemOK cfg w0 ρ s w) {r j n : Nat} (hr : r < s.nx) (hj : j < s.nx) (hr8 : r < 8192) (hv : ρ.r r = (FV.sl j 0 (.n n) (.v j 0)).den ρ) (hn : n ≤ ρ.c j) :
    MemOK cfg w0 ρ { s with A := s.A.put r (j, n) } w := by
  refine ⟨h.os, h.tape, h.output, h.size, h.keep, h.cell, h.lt, h.free, h.kind, h.sep, h.row, h.sepR, h.sepRR, ?_, h.gl, h.w0⟩
  intro r' j' n' hA
  have hA : (s.A.put r (j, n)).get r' = some (j', n') := hA
  by_cases he : r = r'
  · subst he
    rw [Tr.get_put_same hr8] at hA
    have hA := Option.some.inj hA
    injection hA with hA1 hA2
    subst hA1 hA2
    exact ⟨hr, hj, hv, hn⟩
  · rw [Tr.get_put_other he] at hA
    exact h.als r' j' n' hA

/-- A row into a window: its address, once there is one. -/
noncomputable def St.mat (s : St) (r : Nat) (xs : List FV) : St :=
  { s with M := s.M.put s.nx ⟨xs, 2⟩, R := s.R.del r, A := s.A.put r (s.nx, lenX xs), nx := s.nx + 1 }

theorem MemOK.mat (h : MemOK cfg w0 ρ s w) {r : Nat} {e : TypeId} {x : FV} {xs : List FV} (hr : s.R.get r = some (e, x :: xs)) (hn : s.nx < 8192) :
    ∃ ρ', Env.le s.nx ρ ρ' ∧ MemOK cfg w0 ρ' (s.mat r (x :: xs)) w := by
  obtain ⟨q1, q2, q3⟩ := h.row r e _ hr
  rcases q3.2 with ⟨_, h0⟩ | ⟨g, cap, cur, hv, hb, hg, hnc, hcm, hcs, htake⟩
  · simp at h0
  · have hle := Env.more_le ρ s.nx g 0 cap (ρ.r r)
    refine ⟨ρ.more s.nx g 0 cap (ρ.r r), hle, ?_⟩
    have hbn : (ρ.more s.nx g 0 cap (ρ.r r)).b s.nx = g := by simp [Env.more]
    have hon : (ρ.more s.nx g 0 cap (ρ.r r)).o s.nx = 0 := by simp [Env.more]
    have hcn : (ρ.more s.nx g 0 cap (ρ.r r)).c s.nx = cap := by simp [Env.more]
    have hr8 : r < 8192 := by omega
    have hob : (ρ.r r).ownBlock = some g := by rw [hv]; rfl
    have h1 := (h.name g 0 cap (ρ.r r)).delRow r hr8
    have hgl : g < w.heap.size := (Array.getElem?_eq_some_iff.1 hg).1
    have key : ∀ (r' : Nat) (e' : TypeId) (xs' : List FV) (g' : Nat), (s.R.del r).get r' = some (e', xs') → ((ρ.more s.nx g 0 cap (ρ.r r)).r r').ownBlock = some g' → (ρ.more s.nx g 0 cap (ρ.r r)).b s.nx ≠ g' := by
      intro r' e' xs' g' hr' hg'
      have hne : r ≠ r' := by
        intro he
        rw [← he, Tr.get_del_same hr8] at hr'
        cases hr'
      rw [Tr.get_del_other hne] at hr'
      obtain ⟨p1, _⟩ := h.row r' e' xs' hr'
      rw [hle.r r' p1] at hg'
      rw [hbn]
      intro he
      rw [← he] at hg'
      exact h.sepRR r e _ r' e' xs' g hr hr' hne hob hg'
    have h2 := h1.addWin (j := s.nx) (l := x :: xs) (wr := 2) (Nat.lt_succ_self _) hn (okL_le hle (Nat.le_succ _) q2)
      (fun i y hy => by
        rw [hbn, hon, Nat.zero_add, FV.den_le hle (q2 y (List.mem_of_getElem? hy))]
        have := q3.cells hob i (y.den ρ) (by simp only [denL, List.getElem?_map, hy, Option.map_some])
        rw [Addr.add_lit, Nat.zero_add] at this
        exact this)
      (by rw [hbn]; exact hgl)
      (fun _ i _ => by rw [hbn]; exact frozen_of_row w g _ cur e hg)
      (fun _ => by rw [hbn]; exact .inr hb)
      (fun j' W' hW' _ => by
        obtain ⟨p1, _⟩ := h.cell j' W' hW'
        rw [hbn, hle.b j' p1]
        exact h.sepR r e _ g j' W' hr hob hW')
      key
    have h3 := h2.addAls (r := r) (j := s.nx) (n := lenX (x :: xs)) (Nat.lt_succ_of_lt q1) (Nat.lt_succ_self _) hr8
      (by
        rw [lenX_eq]
        refine (hle.r r q1).trans (hv.trans ?_)
        simp only [FV.den, hbn, hon, Cp.den, hcn, E.den, Nat.sub_zero, Int.toNat_natCast, Nat.add_zero]) (by rw [hcn, lenX_eq]; exact hnc)
    exact h3.of_eq rfl rfl rfl rfl

/-- An append onto a row. -/
noncomputable def St.app (s : St) (r : Nat) (e : TypeId) (xs ys : List FV) : St := { s with R := (s.R.del r).put s.nx (e, xs ++ ys), nx := s.nx + 1 }

theorem MemOK.grown (h : MemOK cfg w0 ρ s w) {w' : World} {row : Option Nat} (hg : w.grownBy w' row) (hrow : ∀ g, row = some g → w0.heap.size ≤ g)
    (hM : ∀ j W g, s.M.get j = some W → row = some g → ρ.b j ≠ g) (hR : ∀ r e xs g, s.R.get r = some (e, xs) → row = some g → (ρ.r r).ownBlock ≠ some g) : MemOK cfg w0 ρ s w' := by
  have hblk : ∀ j W, s.M.get j = some W → w'.heap[ρ.b j]? = w.heap[ρ.b j]? := fun j W hW => hg.block _ (h.lt j W hW) (fun e => hM j W _ hW e.symm rfl)
  refine ⟨hg.os.trans h.os, hg.tape.trans h.tape, hg.output.trans h.output, Nat.le_trans h.size hg.size, ?_, ?_, ?_, ?_, h.kind, h.sep, ?_, h.sepR, h.sepRR, h.als, h.gl, h.w0⟩
  · intro i hi hj
    rw [hg.block i (Nat.lt_of_lt_of_le hi h.size) (fun e => by have := hrow i e.symm; omega)]
    exact h.keep i hi hj
  · intro j W hW
    obtain ⟨h1, h2, h3⟩ := h.cell j W hW
    exact ⟨h1, h2, fun i x hx => (World.cell?_of_block (hblk j W hW)).trans (h3 i x hx)⟩
  · intro j W hW; exact Nat.lt_of_lt_of_le (h.lt j W hW) hg.size
  · intro j W hW hwr i hi
    exact (World.frozen?_of_block (hblk j W hW)).trans (h.free j W hW hwr i hi)
  · intro r e xs hr
    obtain ⟨h1, h2, h3⟩ := h.row r e xs hr
    refine ⟨h1, h2, h3.kept hg ?_⟩
    cases hb : row with
    | none => cases (ρ.r r).ownBlock <;> simp
    | some g => exact .inr (hR r e xs g hr hb)

end
end Go.Sx
