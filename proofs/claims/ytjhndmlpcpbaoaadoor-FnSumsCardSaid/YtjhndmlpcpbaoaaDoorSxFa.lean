/- A symbolic executor over the model, part six, second half: copy. -/
import Derived.Test.YtjhndmlpcpbaoaaDoorSxF
namespace Go.Sx
open Go

section
variable {P : Program} {cfg : Cfg} {w0 w : World} {ρ : Env} {s : St} {a : Act}

/-- copy: what is stored, and where. -/
noncomputable def copyTo (s : St) (j o : Nat) (l : List FV) : Option Ef :=
  match l with
  | [] => some ⟨some (.f (.int .i64 (.n 0))), s.M, s.R, s.A, s.nx⟩
  | x :: l => match s.M.get j with
    | some W => match W.wr, allFlat (x :: l), Nat.ble (o + lenX (x :: l)) (lenX W.cells), Nat.ble j 8191, Nat.ble s.thr j with
      | n + 1, true, true, true, true => some ⟨some (.f (.int .i64 (.n (lenX (x :: l) : Nat)))), s.M.put j ⟨splX o (x :: l) W.cells, n + 1⟩, s.R, s.A, s.nx⟩
      | _, _, _, _, _ => none
    | none => none
noncomputable def eCopy (cfg : Cfg) (s : St) (t : TypeId) (x y : Operand) : Option Ef :=
  match findT t cfg.tabs with
  | some td => match td.desc with
    | .slice e => match findT e cfg.tabs with
      | some te => match Nat.beq te.size 1, evF cfg s x with
        | true, some (.sl j o (.n d) _) => match evF cfg s y with
          | some (.lit (.slice none 0 _)) => copyTo s j o []
          | _ => match srcCells cfg s y with
            | some l => copyTo s j o (l.take d.toNat)
            | none => none
        | _, _ => none
      | none => none
    | _ => none
  | none => none

theorem copyTo_keeps {j o : Nat} {l : List FV} {e : Ef} (h : copyTo s j o l = some e) : Keeps s e := by
  unfold copyTo at h
  split at h
  · have h := Option.some.inj h
    subst h
    exact ⟨Nat.le_refl _, fun _ _ _ => rfl, fun _ _ _ => rfl, fun _ _ _ => rfl⟩
  · split at h
    · split at h
      · rename_i b
        have h := Option.some.inj h
        subst h
        have b := Nat.le_of_ble_eq_true b
        exact ⟨Nat.le_refl _, fun j' hj' _ => Tr.get_put_other (by omega), fun _ _ _ => rfl, fun _ _ _ => rfl⟩
      · cases h
    · cases h
theorem eCopy_keeps {t : TypeId} {x y : Operand} {e : Ef} (h : eCopy cfg s t x y = some e) : Keeps s e := by
  unfold eCopy at h
  split at h
  · split at h
    · split at h
      · split at h
        · split at h
          · exact copyTo_keeps h
          · split at h
            · exact copyTo_keeps h
            · cases h
        · cases h
      · cases h
    · cases h
  · cases h

theorem copyTo_sound (hM : MemOK cfg w0 ρ s w) {j o : Nat} {l : List FV} {e : Ef} (hl : okL ρ s.nx l) (h : copyTo s j o l = some e) :
    ∃ w', (do storeCells ⟨ρ.b j, ρ.o j + o, none⟩ (denL ρ l); pure (goInt l.length) : Sem Value).run P w = .ok (.int .i64 l.length) w' ∧ MemOK cfg w0 ρ (s.eff e) w' ∧ e.v = some (.f (.int .i64 (.n l.length))) ∧ e.nx = s.nx := by
  unfold copyTo at h
  split at h
  · have h := Option.some.inj h
    subst h
    exact ⟨w, by simp [denL, storeCells, goInt], hM.of_eq rfl rfl rfl rfl, rfl, rfl⟩
  · rename_i x l
    split at h
    · rename_i W hW
      split at h
      · rename_i n hwr hf b1 b2 b3
        have h := Option.some.inj h
        subst h
        have b1 := Nat.le_of_ble_eq_true b1
        have b2 := Nat.le_of_ble_eq_true b2
        rw [lenX_eq, lenX_eq] at b1
        have hW' : s.M.get j = some ⟨W.cells, n + 1⟩ := by
          have hwr : W.wr = n + 1 := hwr
          rw [hW, ← hwr]
        obtain ⟨w', g1, g2⟩ := run_storeCells_win (P := P) (o := o) (Nat.succ_ne_zero n) (by omega : j < 8192) (x :: l) 0 W.cells s w hM hW' hl hf (by omega)
        refine ⟨w', ?_, g2.of_eq rfl rfl rfl rfl, by rw [lenX_eq], rfl⟩
        simp only [Sem.run_bind, g1, Result.andThen_ok, Sem.run_pure, goInt]
      · cases h
    · cases h

theorem eCopy_sound (hc : CfgOk P cfg) (hF : FrOK ρ s.nx s.N s.F a) (hM : MemOK cfg w0 ρ s w) {t t' ty : TypeId} {x y : Operand} {e : Ef} (h : eCopy cfg s t x y = some e) :
    ValAt P cfg w0 ρ s w (Builtin.copy_ #[t, t'] ty #[a.eval x, a.eval y]) e ∧ Keeps s e := by
  refine ⟨?_, eCopy_keeps h⟩
  unfold eCopy at h
  split at h
  · rename_i td ht
    split at h
    · rename_i el hd
      split at h
      · rename_i te he
        split at h
        · rename_i j o d cp hs hx
          have hs := beq_eq hs
          obtain ⟨h1, h2⟩ := evF_sound hF hM hx
          have e1 := hc.under ht w
          rw [hd] at e1
          have e2 := hc.sizeOf he w
          rw [hs] at e2
          have fin : ∀ (l : List FV) (n : Nat), okL ρ s.nx l → copyTo s j o l = some e → (Builtin.lenOf (a.eval y)).run P w = .ok n w → l.length = Nat.min n d.toNat →
              (Builtin.firstCells 1 l.length (a.eval y)).run P w = .ok (denL ρ l).toArray w → ValAt P cfg w0 ρ s w (Builtin.copy_ #[t, t'] ty #[a.eval x, a.eval y]) e := by
            intro l n hl hcp hlen hmin hfirst
            obtain ⟨w', g1, g2, g3, g4⟩ := copyTo_sound (P := P) hM hl hcp
            refine ⟨ρ, w', _, g3, ?_, .refl _ _, g2, trivial⟩
            unfold Builtin.copy_
            rw [h1]
            simp only [FV.den, List.getElem?_toArray, List.getElem?_cons_zero, List.getElem?_cons_succ, Sem.run_bind, e1, Result.andThen_ok, hlen, e2, E.den, ← hmin, hfirst]
            simp only [Sem.run_bind, Sem.run_pure, goInt] at g1 ⊢
            exact g1
          split at h
          · rename_i cp' hy
            obtain ⟨k1, _⟩ := evF_sound hF hM hy
            refine fin [] 0 (fun _ h => by cases h) h ?_ (by simp) ?_
            · rw [k1]; rfl
            · rw [k1]; rfl
          · split at h
            · rename_i l hl
              obtain ⟨k1, ad, c, k2, k3⟩ := srcCells_sound hF hM hl
              refine fin (l.take d.toNat) l.length (fun z hz => k1 z (List.mem_of_mem_take hz)) h ?_ ?_ ?_
              · rw [k2]; rfl
              · rw [List.length_take]; exact Nat.min_comm _ _
              · rw [k2]
                unfold Builtin.firstCells
                rw [Nat.mul_one]
                have := run_loadCells_list (P := P) (w := w) ad (denL ρ (l.take d.toNat)) (fun i v hv => by
                  refine k3 i v ?_
                  have e0 : denL ρ (l.take d.toNat) = (denL ρ l).take d.toNat := by simp [denL, List.map_take]
                  rw [e0, List.getElem?_take] at hv
                  split at hv
                  · exact hv
                  · cases hv)
                have e1 : (denL ρ (l.take d.toNat)).length = (l.take d.toNat).length := by simp [denL]
                rw [e1] at this
                exact this
            · cases h
        · cases h
      · cases h
    · cases h
  · cases h
end
end Go.Sx
