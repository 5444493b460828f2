/- A symbolic executor over the model, part six: the operations that turn memory, one by one. -/
import Derived.Test.YtgoogcbibcgcmaaSxE
namespace Go.Sx
open Go

/-- What an operation leaves: its value, if it has one, and memory. -/
structure Ef where
  v : Option SV
  M : Tr Win
  R : Tr (TypeId × List FV)
  A : Tr (Nat × Nat)
  nx : Nat
def St.eff (s : St) (e : Ef) : St := { s with M := e.M, R := e.R, A := e.A, nx := e.nx }

section
variable {P : Program} {cfg : Cfg} {w0 w : World} {ρ : Env} {s : St} {a : Act}

/-- What lies below the threshold is as it was. -/
structure Keeps (s : St) (e : Ef) : Prop where
  nx : s.nx ≤ e.nx
  M : ∀ j, j < s.thr → j < s.nx → e.M.get j = s.M.get j
  R : ∀ j, j < s.thr → j < s.nx → e.R.get j = s.R.get j
  A : ∀ j, j < s.thr → j < s.nx → e.A.get j = s.A.get j

def ValAt (P : Program) (cfg : Cfg) (w0 : World) (ρ : Env) (s : St) (w : World) (m : Sem Value) (e : Ef) : Prop :=
  ∃ ρ' w' v, e.v = some v ∧ m.run P w = .ok (v.den ρ') w' ∧ Env.le s.nx ρ ρ' ∧ MemOK cfg w0 ρ' (s.eff e) w' ∧ v.ok ρ' e.nx

/-! A new block with a pointer to it, or a slice of it. -/
noncomputable def efWin (s : St) (l : List FV) (v : SV) : Ef := ⟨some v, s.M.put s.nx ⟨l, 2⟩, s.R, s.A, s.nx + 1⟩
theorem efWin_keeps (s : St) (l : List FV) (v : SV) : Keeps s (efWin s l v) :=
  ⟨Nat.le_succ _, fun j _ hn => Tr.get_put_other (by omega), fun _ _ _ => rfl, fun _ _ _ => rfl⟩

theorem run_newRow (P : Program) (w : World) (t : TypeId) (cs : Array Value) : (newRow t cs).run P w = .ok ⟨w.heap.size, 0, none⟩ (w.alloc (.cells cs t)) := by
  simp [newRow, newObj, Sem.run]

theorem efWin_mem (hM : MemOK cfg w0 ρ s w) {l : List FV} (hl : okL ρ s.nx l) (hn : s.nx < 8192) (t : TypeId) (v : SV) :
    MemOK cfg w0 (ρ.more s.nx w.heap.size 0 0 undef) (s.eff (efWin s l v)) (w.alloc (.cells (denL ρ l).toArray t)) :=
  (hM.alloc hl hn t 0 undef).of_eq rfl rfl rfl rfl

noncomputable def eAlloc (cfg : Cfg) (s : St) (t : TypeId) : Option Ef :=
  match findT t cfg.tabs with
  | some td => match zeroL td.zero, Nat.ble s.nx 8191 with
    | some l, true => some (efWin s l (.f (.ptr s.nx 0)))
    | _, _ => none
  | none => none
theorem eAlloc_sound (hc : CfgOk P cfg) (hM : MemOK cfg w0 ρ s w) {t : TypeId} {e : Ef} (h : eAlloc cfg s t = some e) :
    ValAt P cfg w0 ρ s w (Instr.alloc t true (.tuple #[])) e ∧ Keeps s e := by
  unfold eAlloc at h
  split at h
  · rename_i td ht
    split at h
    · rename_i l hl hb
      have h := Option.some.inj h
      subst h
      have hn : s.nx < 8192 := by have := Nat.le_of_ble_eq_true hb; omega
      have e0 := hc.zeroOf ht w
      refine ⟨⟨_, _, _, rfl, ?_, Env.more_le _ _ _ _ _ _, efWin_mem hM (zeroL_ok hl ρ _) hn t _, Nat.lt_succ_self _⟩, efWin_keeps _ _ _⟩
      unfold Instr.alloc newVar
      simp only [Sem.run_bind, e0, Result.andThen_ok, zeroL_den hl ρ, run_newRow, Sem.run_pure]
      simp [SV.den, FV.den, Env.more]
    · cases h
  · cases h

noncomputable def eBox (cfg : Cfg) (s : St) (x : Operand) : Option Ef :=
  match evO cfg s.F x with
  | some v => match cellsS v with
    | some l => match allFlat l, Nat.ble s.nx 8191 with
      | true, true => some (efWin s l (.f (.ptr s.nx 0)))
      | _, _ => none
    | none => none
  | none => none
theorem eBox_sound (hF : FrOK ρ s.nx s.N s.F a) (hM : MemOK cfg w0 ρ s w) {t : TypeId} {x : Operand} {e : Ef} (h : eBox cfg s x = some e) :
    ValAt P cfg w0 ρ s w (Instr.box t (a.eval x)) e ∧ Keeps s e := by
  unfold eBox at h
  split at h
  · rename_i v hv
    obtain ⟨h1, h2⟩ := evO_sound hF hM hv
    split at h
    · rename_i l hl
      split at h
      · rename_i hf hb
        have h := Option.some.inj h
        subst h
        have hn : s.nx < 8192 := by have := Nat.le_of_ble_eq_true hb; omega
        refine ⟨⟨_, _, _, rfl, ?_, Env.more_le _ _ _ _ _ _, efWin_mem hM (cellsS_ok hl h2) hn t _, Nat.lt_succ_self _⟩, efWin_keeps _ _ _⟩
        unfold Instr.box newVar
        simp only [h1, Sem.run_bind, Result.andThen_ok, cellsS_den hl hf ρ, run_newRow, Sem.run_pure]
        simp [SV.den, FV.den, Env.more]
      · cases h
    · cases h
  · cases h

noncomputable def efRow (s : St) (e : TypeId) : Ef := ⟨some (.f (.row s.nx)), s.M, s.R.put s.nx (e, []), s.A, s.nx + 1⟩
def repX {α : Type} (x : α) : Nat → List α
  | 0 => []
  | n + 1 => x :: repX x n
theorem repX_eq {α : Type} (x : α) : ∀ n, repX x n = List.replicate n x
  | 0 => rfl
  | n + 1 => by simp [repX, repX_eq x n, List.replicate_succ]

noncomputable def eBuildSlice (cfg : Cfg) (s : St) (t : TypeId) (len : Nat) (parts : Array (Nat × Operand)) : Option Ef :=
  match findT t cfg.tabs with
  | some td => match td.desc with
    | .slice e => match findT e cfg.tabs, Nat.ble s.nx 8191, Nat.ble len 16384 with
      | some te, true, true => match Nat.beq te.size 1, zeroL te.zero with
        | true, some [z] => match len with
          | 0 => match parts.toList with
            | [] => some (efRow s e)
            | _ => none
          | n + 1 => match fillS cfg s (fun i => some (i * 1, 1)) (repX z (n + 1)) parts.toList with
            | some l => some (efWin s l (.f (.sl s.nx 0 (.n ((n + 1 : Nat) : Int)) (.l (n + 1)))))
            | none => none
        | _, _ => none
      | _, _, _ => none
    | _ => none
  | none => none
theorem eBuildSlice_sound (hc : CfgOk P cfg) (hF : FrOK ρ s.nx s.N s.F a) (hM : MemOK cfg w0 ρ s w) {t : TypeId} {len : Nat} {parts : Array (Nat × Operand)} {e : Ef} (h : eBuildSlice cfg s t len parts = some e) :
    ValAt P cfg w0 ρ s w (Instr.buildSlice t len (parts.map fun (i, x) => (i, a.eval x))) e ∧ Keeps s e := by
  unfold eBuildSlice at h
  split at h
  · rename_i td ht
    have e1 := hc.under ht w
    split at h
    · rename_i el hd
      rw [hd] at e1
      split at h
      · rename_i te he hb hb2
        have hn : s.nx < 8192 := by have := Nat.le_of_ble_eq_true hb; omega
        have hlen : len ≤ 16384 := Nat.le_of_ble_eq_true hb2
        split at h
        · rename_i z h1 hz
          have h1 := beq_eq h1
          have e2 := hc.sizeOf he w
          have e3 := hc.zeroOf he w
          rw [h1] at e2
          split at h
          · split at h
            · rename_i hp
              have h := Option.some.inj h
              subst h
              have hp' : parts = #[] := by rw [← Array.toArray_toList (xs := parts), hp]
              subst hp'
              refine ⟨⟨_, _, _, rfl, ?_, Env.more_le _ _ _ _ _ _, (hM.newRow hn el).of_eq rfl rfl rfl rfl, Nat.lt_succ_self _⟩, ⟨Nat.le_succ _, fun _ _ _ => rfl, fun j _ hn => Tr.get_put_other (by omega), fun _ _ _ => rfl⟩⟩
              unfold Instr.buildSlice
              simp [e1, e2, Instr.fill, run_newRow, SV.den, FV.den, Env.more]
              congr 2
              apply Array.ext <;> simp
            · cases h
          · rename_i n
            split at h
            · rename_i l hl
              have h := Option.some.inj h
              subst h
              have hz0 := zeroL_den hz ρ
              obtain ⟨f1, f2, f3⟩ := fillS_sound hF hM _ _ _ _ (fun x hx => by
                rw [repX_eq] at hx
                rw [List.eq_of_mem_replicate hx]
                exact zeroL_ok hz ρ _ _ (by simp)) hl
              have f3' : l.length = n + 1 := by rw [f3, repX_eq]; simp
              refine ⟨⟨_, _, _, rfl, ?_, Env.more_le _ _ _ _ _ _, efWin_mem hM f2 hn el _, ⟨Nat.lt_succ_self _, trivial, by simp only [E.den]; omega, by simp [E.den, Cp.den]⟩⟩, efWin_keeps _ _ _⟩
              unfold Instr.buildSlice
              have hle : ¬ (n + 1) * 1 > 2 ^ 24 := by omega
              have hne : ¬ (n + 1) * 1 = 0 := by omega
              have hcells : ((Array.range ((n + 1) * 1)).map (te.zero.cells[· % te.zero.cells.size]!)) = (denL ρ (repX z (n + 1))).toArray := by
                rw [hz0, repX_eq]
                apply Array.ext
                · simp [denL]
                · intro i h1 h2
                  simp [denL, Nat.mod_one]
              have e4 : (do if (n + 1) * 1 = 0 then pure #[] else do pure (← zeroValue el).cells : Sem (Array Value)).run P w = .ok te.zero.cells w := by
                rw [if_neg hne]
                simp only [Sem.run_bind, e3, Result.andThen_ok, Sem.run_pure]
              simp only [Sem.run_bind, e1, e2, Result.andThen_ok, if_neg hle, if_neg hne, Sem.run_pure, e3, hcells, Array.toList_map]
              rw [f1]
              simp only [Sem.run_bind, run_newRow, Result.andThen_ok, Sem.run_pure]
              simp [SV.den, FV.den, Env.more, E.den, Cp.den]
            · cases h
        · cases h
      · cases h
    · cases h
  · cases h

/-! Stores. -/
def setX {α : Type} : List α → Nat → α → List α
  | [], _, _ => []
  | _ :: l, 0, y => y :: l
  | x :: l, i + 1, y => x :: setX l i y
theorem setX_eq {α : Type} : ∀ (l : List α) (i : Nat) (y : α), setX l i y = l.set i y
  | [], i, y => by simp [setX]
  | x :: l, 0, y => by simp [setX]
  | x :: l, i + 1, y => by simp [setX, setX_eq l i y]

/-- Cells stored one behind the other. -/
theorem run_storeCells_win {j o : Nat} {wr : Nat} (hwr : wr ≠ 0) (hj : j < 8192) : ∀ (l : List FV) (i : Nat) (cells : List FV) (s : St) (w : World), MemOK cfg w0 ρ s w → s.M.get j = some ⟨cells, wr⟩ →
    okL ρ s.nx l → allFlat l = true → o + i + l.length ≤ cells.length →
    ∃ w', (storeCells ⟨ρ.b j, ρ.o j + o, none⟩ (denL ρ l) i).run P w = .ok () w' ∧ MemOK cfg w0 ρ { s with M := s.M.put j ⟨splX (o + i) l cells, wr⟩ } w'
  | [], i, cells, s, w, hM, hW, _, _, hlen => by
    refine ⟨w, by simp [denL, storeCells], ?_⟩
    have e1 : splX (o + i) [] cells = cells := by rw [splX_eq _ _ _ (by simpa using hlen)]; simp
    rw [e1]
    obtain ⟨q1, q2, q3⟩ := hM.cell j _ hW
    exact hM.addWin q1 hj q2 q3 (hM.lt j _ hW) (hM.free j _ hW) (hM.kind j _ hW) (fun j' W' hW' hne => fun e => hM.sep j _ j' W' hW hW' hwr (fun e => hne e.symm) e.symm) (fun r e xs g hr hg => hM.sepR r e xs g j _ hr hg hW)
  | x :: l, i, cells, s, w, hM, hW, hok, hf, hlen => by
    simp only [List.length_cons] at hlen
    have hx := hok x (by simp)
    have hfx := allFlat_mem hf x (by simp)
    have hf' : allFlat l = true := by
      unfold allFlat at hf
      rw [hfx] at hf
      exact hf
    have hl : o + i < cells.length := by omega
    have hM1 := hM.setCell (j := j) (o := o + i) (W := ⟨cells, wr⟩) hW hwr hl hj hx
    obtain ⟨w', h1, h2⟩ := run_storeCells_win (o := o) hwr hj l (i + 1) (cells.set (o + i) x) _ _ hM1 (Tr.get_put_same hj) (fun y hy => hok y (by simp [hy])) hf' (by simp; omega)
    refine ⟨w', ?_, ?_⟩
    · simp only [denL, List.map_cons, storeCells, Sem.run_bind]
      have hcell : w.cell? ⟨ρ.b j, ρ.o j + o + i, none⟩ = some (cells[o + i].den ρ) := by
        rw [Nat.add_assoc]
        exact (hM.cell j _ hW).2.2 _ _ (List.getElem?_eq_getElem hl)
      have hfr : w.frozen? ⟨ρ.b j, ρ.o j + o + i, none⟩ = false := by rw [Nat.add_assoc]; exact hM.free j _ hW hwr _ hl
      rw [Addr.add_lit, run_store P w _ _ _ (FV.flat_one hfx ρ)]
      simp only [hcell, hfr, Bool.false_eq_true, if_false, Result.andThen_ok]
      rw [Nat.add_assoc (ρ.o j) o i]
      exact h1
    · have e1 : splX (o + (i + 1)) l (cells.set (o + i) x) = splX (o + i) (x :: l) cells := by
        rw [splX_eq _ _ _ (by simp; omega), splX_eq _ _ _ (by simp; omega)]
        apply List.ext_getElem?
        intro k
        simp only [List.getElem?_append, List.getElem?_take, List.getElem?_drop, List.getElem?_set, List.length_take, List.length_append, List.length_set, List.length_cons]
        have e1 : min (o + (i + 1)) cells.length = o + i + 1 := by omega
        have e2 : min (o + i) cells.length = o + i := by omega
        rw [e1, e2]
        by_cases g1 : k < o + i
        · have : o + i ≠ k := by omega
          simp [g1, show k < o + i + 1 by omega, this, show k < o + (i + 1) by omega, show k < o + i + 1 + l.length by omega, show k < o + i + (l.length + 1) by omega]
        · by_cases g2 : k = o + i
          · subst g2
            simp [hl, show o + i < o + (i + 1) by omega, show o + i < o + i + 1 + l.length by omega]
          · by_cases g3 : k < o + i + 1 + l.length
            · simp [g1, show ¬ k < o + i + 1 by omega, g3, show k < o + i + (l.length + 1) by omega]
              rw [show k - (o + i) = (k - (o + i + 1)) + 1 by omega, List.getElem?_cons_succ]
            · simp [g3, show ¬ k < o + i + (l.length + 1) by omega]
              have : o + i ≠ o + (i + 1) + l.length + (k - (o + i + 1 + l.length)) := by omega
              rw [if_neg this]
              congr 1
              omega
      rw [← e1]
      refine h2.of_eq ?_ rfl rfl rfl
      exact Tr.put_put.symm

/-- Stores go to no name below the threshold. -/
noncomputable def eStore (cfg : Cfg) (s : St) (t : TypeId) (x y : Operand) : Option Ef :=
  match findT t cfg.tabs, evF cfg s x, evO cfg s.F y with
  | some td, some (.ptr j o), some v => match s.M.get j, cellsS v with
    | some W, some l => match W.wr, allFlat l, Nat.beq (lenX l) td.size with
      | n + 1, true, true => match Nat.ble (o + lenX l) (lenX W.cells), Nat.ble j 8191, Nat.ble s.thr j with
        | true, true, true => some ⟨none, s.M.put j ⟨splX o l W.cells, n + 1⟩, s.R, s.A, s.nx⟩
        | _, _, _ => none
      | _, _, _ => none
    | _, _ => none
  | _, _, _ => none
def UnitAt (P : Program) (cfg : Cfg) (w0 : World) (ρ : Env) (s : St) (w : World) (m : Sem Unit) (e : Ef) : Prop :=
  ∃ w', e.v = none ∧ m.run P w = .ok () w' ∧ MemOK cfg w0 ρ (s.eff e) w'
theorem eStore_sound (hc : CfgOk P cfg) (hF : FrOK ρ s.nx s.N s.F a) (hM : MemOK cfg w0 ρ s w) {t : TypeId} {x y : Operand} {e : Ef} (h : eStore cfg s t x y = some e) :
    UnitAt P cfg w0 ρ s w (Instr.storeAt t (a.eval x) (a.eval y)) e ∧ Keeps s e := by
  unfold eStore at h
  split at h
  · rename_i td j o v ht hx hy
    obtain ⟨h1, h2⟩ := evF_sound hF hM hx
    obtain ⟨h3, h4⟩ := evO_sound hF hM hy
    split at h
    · rename_i W l hW hl
      split at h
      · rename_i n hwr hf hs
        have hs := beq_eq hs
        rw [lenX_eq] at hs
        split at h
        · rename_i b1 b2 b3
          have h := Option.some.inj h
          subst h
          have b1 := Nat.le_of_ble_eq_true b1
          have b2 := Nat.le_of_ble_eq_true b2
          have b3 := Nat.le_of_ble_eq_true b3
          rw [lenX_eq] at b1
          rw [lenX_eq] at b1
          have hW' : s.M.get j = some ⟨W.cells, n + 1⟩ := by
            have hwr : W.wr = n + 1 := hwr
            rw [hW, ← hwr]
          obtain ⟨w', g1, g2⟩ := run_storeCells_win (P := P) (o := o) (Nat.succ_ne_zero n) (by omega : j < 8192) l 0 W.cells s w hM hW' (cellsS_ok hl h4) hf (by omega)
          refine ⟨⟨w', rfl, ?_, g2.of_eq rfl rfl rfl rfl⟩, ⟨Nat.le_refl _, fun j' hj' _ => Tr.get_put_other (by omega), fun _ _ _ => rfl, fun _ _ _ => rfl⟩⟩
          rw [h1, h3]
          have e2 := hc.sizeOf ht w
          unfold Instr.storeAt storeVar
          have hcd := cellsS_den hl hf ρ
          simp only [FV.den, Instr.sureAddr, Sem.run_bind, Sem.run_pure, Result.andThen_ok, e2, hcd]
          have hlen : (denL ρ l).toArray.size = td.size := by simp [denL, hs]
          rw [if_neg (by simp [denL, hs])]
          exact g1
        · cases h
      · cases h
    · cases h
  · cases h

/-! append -/
theorem allFlat_one {l : List FV} (hf : allFlat l = true) (ρ : Env) : ∀ u ∈ denL ρ l, u.oneCell' = true := by
  intro u hu
  simp only [denL, List.mem_map] at hu
  obtain ⟨x, hx, rfl⟩ := hu
  exact FV.flat_one (allFlat_mem hf x hx) ρ

/-- The cells that a slice's first 'n' are, and where they lie; a row of the run's own, too. -/
noncomputable def srcCells (cfg : Cfg) (s : St) (x : Operand) : Option (List FV) :=
  match evF cfg s x with
  | some (.sl j o (.n z) _) => match s.M.get j with
    | some W => match decide (0 ≤ z) with
      | true => takeX z.toNat (dropX o W.cells)
      | false => none
    | none => none
  | some (.row r) => match s.R.get r with
    | some (_, x :: l) => some (x :: l)
    | _ => none
  | _ => none
theorem srcCells_sound (hF : FrOK ρ s.nx s.N s.F a) (hM : MemOK cfg w0 ρ s w) {x : Operand} {l : List FV} (h : srcCells cfg s x = some l) :
    okL ρ s.nx l ∧ ∃ ad c, a.eval x = .slice (some ad) l.length c ∧ ∀ i u, (denL ρ l)[i]? = some u → w.cell? (ad.add i) = some u := by
  unfold srcCells at h
  split at h
  · rename_i j o z cp hx
    obtain ⟨h1, h2⟩ := evF_sound hF hM hx
    split at h
    · rename_i W hW
      obtain ⟨q1, q2, q3⟩ := hM.cell j W hW
      split at h
      · rename_i hz
        have hz : 0 ≤ z := by simpa using hz
        obtain ⟨t1, t2⟩ := takeX_eq _ _ _ h
        rw [dropX_eq] at t1
        have hmem : ∀ i y, l[i]? = some y → W.cells[o + i]? = some y := by
          intro i y hy
          rw [t1, List.getElem?_take] at hy
          split at hy
          · simpa using hy
          · cases hy
        refine ⟨fun y hy => ?_, ⟨ρ.b j, ρ.o j + o, none⟩, cp.den ρ, ?_, fun i u hu => ?_⟩
        · obtain ⟨i, hi⟩ := List.getElem?_of_mem hy
          exact q2 y (List.mem_of_getElem? (hmem i y hi))
        · rw [h1, t2]
          simp [FV.den, E.den]
        · rw [Addr.add_lit, Nat.add_assoc]
          simp only [denL, List.getElem?_map] at hu
          cases hy : l[i]? with
          | none => rw [hy] at hu; cases hu
          | some y =>
            rw [hy] at hu
            have hu : y.den ρ = u := by simpa using hu
            rw [← hu]
            exact q3 _ _ (hmem i y hy)
      · cases h
    · cases h
  · rename_i r hx
    obtain ⟨h1, h2⟩ := evF_sound hF hM hx
    split at h
    · rename_i e x' l' hR
      have h := Option.some.inj h
      subst h
      obtain ⟨q1, q2, q3⟩ := hM.row r e _ hR
      refine ⟨q2, ?_⟩
      rcases q3.2 with ⟨_, h0⟩ | ⟨g, cap, cur, hv, hb, hg, hnc, hcm, hcs, htake⟩
      · simp at h0
      · refine ⟨⟨g, 0, none⟩, cap, ?_, ?_⟩
        · rw [h1]; exact hv
        · exact q3.cells (g := g) (by rw [hv]; rfl)
    · cases h
  · cases h

noncomputable def efApp (s : St) (r : Nat) (e : TypeId) (xs ys : List FV) : Ef := ⟨some (.f (.row s.nx)), s.M, (s.R.del r).put s.nx (e, xs ++ ys), s.A, s.nx + 1⟩

noncomputable def eAppend (cfg : Cfg) (s : St) (t t' : TypeId) (x y : Operand) : Option Ef :=
  match findT t cfg.tabs, Nat.beq t t' with
  | some td, true => match td.desc, evF cfg s x, srcCells cfg s y with
    | .slice e, some (.row r), some ys => match findT e cfg.tabs, s.R.get r with
      | some te, some (e', xs) => match Nat.beq e e', Nat.beq te.size 1, Nat.ble (lenX xs + lenX ys) 65536, Nat.ble te.bytes 65536, zeroL te.zero, allFlat ys, Nat.ble s.nx 8191, Nat.ble s.thr r with
        | true, true, true, true, some [_], true, true, true => some (efApp s r e xs ys)
        | _, _, _, _, _, _, _, _ => none
      | _, _ => none
    | _, _, _ => none
  | _, _ => none
theorem eAppend_sound (hc : CfgOk P cfg) (hF : FrOK ρ s.nx s.N s.F a) (hM : MemOK cfg w0 ρ s w) {t t' ty : TypeId} {x y : Operand} {e : Ef} (h : eAppend cfg s t t' x y = some e) :
    ValAt P cfg w0 ρ s w (Builtin.append_ #[t, t'] ty #[a.eval x, a.eval y]) e ∧ Keeps s e := by
  unfold eAppend at h
  split at h
  · rename_i td ht htt
    have htt := beq_eq htt
    subst htt
    split at h
    · rename_i el r ys hd hx hy
      obtain ⟨h1, h2⟩ := evF_sound hF hM hx
      obtain ⟨h3, ad, cp, h4, h5⟩ := srcCells_sound hF hM hy
      split at h
      · rename_i te e' xs he hR
        split at h
        · rename_i z b1 b2 b3 b4 hz b5 b6 b7
          have h := Option.some.inj h
          subst h
          have b1 := beq_eq b1
          subst b1
          have b2 := beq_eq b2
          have b3 := Nat.le_of_ble_eq_true b3
          have b4 := Nat.le_of_ble_eq_true b4
          have b6 := Nat.le_of_ble_eq_true b6
          have b7 := Nat.le_of_ble_eq_true b7
          rw [lenX_eq, lenX_eq] at b3
          obtain ⟨q1, q2, q3⟩ := hM.row r el xs hR
          have hu := hc.under' ht
          rw [hd] at hu
          obtain ⟨i, hi, hi1, hi2, hi3⟩ := hc.info he
          have hzc : te.zero.cells.size = 1 := by rw [zeroL_den hz ρ]; rfl
          have hlen : (denL ρ ys).length = ys.length * 1 := by simp [denL]
          obtain ⟨v', w', g1, g2, g3, g4, g5⟩ := run_append_own_at (P := P) w w0.heap.size t ty el i te.zero 1 te.bytes hu hi hi1 (by rw [hi2, b2]) hi3 hzc (by omega) (ρ.r r) xs.length (denL ρ xs) q3
            ad ys.length cp (denL ρ ys) hlen h5 (allFlat_one b5 ρ) (by unfold maxLen; omega) (by
              have : (xs.length + ys.length) * te.bytes ≤ 65536 * 65536 := Nat.mul_le_mul b3 b4
              omega) hM.size
          have hrb : ∀ g, (ρ.r r).ownBlock = some g → w0.heap.size ≤ g ∧ g < w.heap.size := q3.lt
          have hr8 : r < 8192 := by omega
          -- the row is taken away, the world grows, the new row is laid
          have m1 := (hM.name 0 0 0 v').delRow r hr8
          have hle := Env.more_le ρ s.nx 0 0 0 v'
          have hv'n : (ρ.more s.nx 0 0 0 v').r s.nx = v' := by simp [Env.more]
          have rget : ∀ r' e' xs', (s.R.del r).get r' = some (e', xs') → r' ≠ r ∧ r' < s.nx ∧ s.R.get r' = some (e', xs') := by
            intro r' e' xs' hq
            have hne : r ≠ r' := by
              intro he
              rw [← he, Tr.get_del_same hr8] at hq
              cases hq
            rw [Tr.get_del_other hne] at hq
            exact ⟨fun e => hne e.symm, (hM.row r' _ _ hq).1, hq⟩
          have m2 := m1.grown g3 (fun g hg => (hrb g hg).1) (fun j W g hW hg => by
              have hj := (hM.cell j W hW).1
              rw [hle.b j hj]
              exact hM.sepR r el xs g j W hR hg hW)
            (fun r' e' xs' g hq hg => by
              obtain ⟨p1, p2, p3⟩ := rget r' e' xs' hq
              rw [hle.r r' p2]
              exact hM.sepRR r el xs r' e' xs' g hR p3 (fun e => p1 e.symm) hg)
          have own' : ∀ g, v'.ownBlock = some g → (ρ.r r).ownBlock = some g ∨ g = w.heap.size := by
            intro g hg
            rcases g5 with g5 | g5
            · exact .inl (by rw [← g5]; exact hg)
            · rw [g5] at hg; exact .inr (by injection hg with hg; exact hg.symm)
          have m3 := m2.addRow (r := s.nx) (e := el) (xs := xs ++ ys) (Nat.lt_succ_self _) (by omega)
            (fun z hz => by
              rcases List.mem_append.1 hz with hz | hz
              · exact FV.ok_le hle (Nat.le_succ _) (q2 z hz)
              · exact FV.ok_le hle (Nat.le_succ _) (h3 z hz))
            (by
              rw [hv'n]
              have e1 : denL (ρ.more s.nx 0 0 0 v') (xs ++ ys) = denL ρ xs ++ denL ρ ys := by
                rw [← denL_le hle q2, ← denL_le hle h3]; simp [denL]
              rw [e1, List.length_append]
              exact g2)
            (fun g j W hg hW => by
              rw [hv'n] at hg
              have hj := (hM.cell j W hW).1
              rw [hle.b j hj]
              rcases own' g hg with hg | hg
              · exact hM.sepR r el xs g j W hR hg hW
              · have := hM.lt j W hW; omega)
            (fun r' e' xs' g hq _ hg => by
              obtain ⟨p1, p2, p3⟩ := rget r' e' xs' hq
              rw [hle.r r' p2] at hg
              rw [hv'n]
              intro hg'
              rcases own' g hg' with hg' | hg'
              · exact hM.sepRR r el xs r' e' xs' g hR p3 (fun e => p1 e.symm) hg' hg
              · have := ((hM.row r' e' xs' p3).2.2.lt g hg).2
                omega)
          refine ⟨⟨_, w', .f (.row s.nx), rfl, ?_, hle, m3.of_eq rfl rfl rfl rfl, Nat.lt_succ_self _⟩, ⟨Nat.le_succ _, fun _ _ _ => rfl, fun j hj hn => ?_, fun _ _ _ => rfl⟩⟩
          · rw [h1, h4]
            simp only [FV.den, SV.den, hv'n]
            exact g1
          · show ((s.R.del r).put s.nx (el, xs ++ ys)).get j = s.R.get j
            rw [Tr.get_put_other (by omega), Tr.get_del_other (by omega)]
        · cases h
      · cases h
    · cases h
  · cases h

end
end Go.Sx
