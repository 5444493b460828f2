/- newDigest of both packages, without a key: by the executor. -/
import Derived.Test.YtdhnmhefdmlbiaaDoorCfg
import Derived.Test.YtdhnmhefdmlbiaaDoorSxL
import Derived.Below
namespace Go.Proofs.YtdhnmhefdmlbiaaDoor
open Go Go.Sx Go.Proofs Go.RowKit
set_option maxRecDepth 100000
noncomputable def bodyOf (fn : Func) : Code := fn.body.getD .skip
def ivS : List FV := [.int .u32 (.n 1779033703), .int .u32 (.n 3144134277), .int .u32 (.n 1013904242), .int .u32 (.n 2773480762), .int .u32 (.n 1359893119), .int .u32 (.n 2600822924), .int .u32 (.n 528734635), .int .u32 (.n 1541459225)]
def ivB : List FV := [.int .u64 (.n 7640891576956012808), .int .u64 (.n 13503953896175478587), .int .u64 (.n 4354685564936845355), .int .u64 (.n 11912009170470909681), .int .u64 (.n 5840696475078001361), .int .u64 (.n 11170449401992604703), .int .u64 (.n 2270897969802886507), .int .u64 (.n 6620516959819538809)]
def fl0 (n : Int) : List (Nat × SV) := [(0, .f (.int .i64 (.n n))), (1, .f (.lit (.slice none 0 0)))]
noncomputable def cS : Cfg := cfgW [(3, 0)] []
noncomputable def sS : St := mkSt Tryd.f7.ntmps 1 0 (fl0 32) [(0, ⟨ivS, 0⟩)] []
noncomputable def oS : Out := go cS false 1000 [.code (bodyOf Tryd.f7)] sS
noncomputable def cB : Cfg := cfgW [(4, 0)] []
noncomputable def sB : St := mkSt Tryd.f8.ntmps 1 0 (fl0 64) [(0, ⟨ivB, 0⟩)] []
noncomputable def oB : Out := go cB false 1000 [.code (bodyOf Tryd.f8)] sB
/-- Two results: a pointer to the window 1, and nil. -/
def ptrNil (x : Option SV) : Bool :=
  match x with
  | some (.tup [(false, [.ptr 1 0]), (false, [.lit .nilIface])]) => true
  | _ => false
theorem ptrNil_eq {x : Option SV} (h : ptrNil x = true) : x = some (.tup [(false, [.ptr 1 0]), (false, [.lit .nilIface])]) := by
  unfold ptrNil at h
  split at h
  · rfl
  · cases h
def sizeAt (n : Int) (W : Option Win) : Bool :=
  match W with
  | some W => match nth? W.cells 10 with
    | some x => fvEq x (.int .i64 (.n n))
    | none => false
  | none => false
theorem runS : (and3 oS.rets (nilB oS.st.obs) (and3 (ptrNil (resS cS oS.st Tryd.f7)) (sizeAt 32 (oS.st.M.get 1)) true)) = true := by kernel_rfl
theorem runB : (and3 oB.rets (nilB oB.st.obs) (and3 (ptrNil (resS cB oB.st Tryd.f8)) (sizeAt 64 (oB.st.M.get 1)) true)) = true := by kernel_rfl

def env0 (g : Nat) : Env := { i := fun _ => 0, b := fun _ => g, o := fun _ => 0, c := fun _ => 0, r := fun _ => undef }

theorem new_any {f g : Nat} {fn : Func} {n : Int} {iv : List FV} (hfn : Tryd.prog.funcs[f]? = some fn) (hbd : fn.body = some (bodyOf fn)) (hN : 2 ≤ fn.ntmps) (hiv : ∀ ρ m, okL ρ m iv)
    (hrun : (and3 (go (cfgW [(g, 0)] []) false 1000 [.code (bodyOf fn)] (mkSt fn.ntmps 1 0 (fl0 n) [(0, ⟨iv, 0⟩)] [])).rets
      (nilB (go (cfgW [(g, 0)] []) false 1000 [.code (bodyOf fn)] (mkSt fn.ntmps 1 0 (fl0 n) [(0, ⟨iv, 0⟩)] [])).st.obs)
      (and3 (ptrNil (resS (cfgW [(g, 0)] []) (go (cfgW [(g, 0)] []) false 1000 [.code (bodyOf fn)] (mkSt fn.ntmps 1 0 (fl0 n) [(0, ⟨iv, 0⟩)] [])).st fn))
        (sizeAt n ((go (cfgW [(g, 0)] []) false 1000 [.code (bodyOf fn)] (mkSt fn.ntmps 1 0 (fl0 n) [(0, ⟨iv, 0⟩)] [])).st.M.get 1)) true)) = true)
    (w : World) (hlt : g < w.heap.size) (hcell : ∀ ρ (i : Nat) x, iv[i]? = some x → w.cell? ⟨g, i, none⟩ = some (x.den ρ)) :
    Calls Tryd.prog f #[.int .i64 n, .slice none 0 0] w fun e w' => ∃ b o, e = .returned (.tuple #[.pointer (some ⟨b, o, none⟩), .nilIface]) ∧ w'.cell? ⟨b, o + 10, none⟩ = some (.int .i64 n) ∧ Below w.heap.size w w' := by
  obtain ⟨r1, r2, r3⟩ := and3_iff hrun
  obtain ⟨r4, r5, _⟩ := and3_iff r3
  have hget : ∀ j W, (mkSt fn.ntmps 1 0 (fl0 n) [(0, ⟨iv, 0⟩)] []).M.get j = some W → j = 0 ∧ W = ⟨iv, 0⟩ := fun j W h => by
    have := ofL_get (l := [(0, (⟨iv, 0⟩ : Win))]) (by rfl) h
    simpa using this
  have hM : MemOK (cfgW [(g, 0)] []) w (env0 g) (mkSt fn.ntmps 1 0 (fl0 n) [(0, ⟨iv, 0⟩)] []) w := by
    constructor
    · rfl
    · rfl
    · rfl
    · exact Nat.le_refl _
    · intros; rfl
    · intro j W hW
      obtain ⟨rfl, rfl⟩ := hget j W hW
      refine ⟨by show 0 < 1; omega, hiv _ _, fun i x hx => ?_⟩
      show w.cell? ⟨g, 0 + i, none⟩ = _
      rw [Nat.zero_add]
      exact hcell _ i x hx
    · intro j W hW; exact hlt
    · intro j W hW hwr
      obtain ⟨rfl, rfl⟩ := hget j W hW
      exact absurd rfl hwr
    · intro j W hW hwr
      obtain ⟨rfl, rfl⟩ := hget j W hW
      exact absurd rfl hwr
    · intro j W j' W' hW _ hwr
      obtain ⟨rfl, rfl⟩ := hget j W hW
      exact absurd rfl hwr
    · intro r e xs h
      have h : (Tr.e : Tr (TypeId × List FV)).get r = some (e, xs) := h
      rw [Tr.get_e] at h; cases h
    · intro r e xs g j W h
      have h : (Tr.e : Tr (TypeId × List FV)).get r = some (e, xs) := h
      rw [Tr.get_e] at h; cases h
    · intro r e xs r' e' xs' g h
      have h : (Tr.e : Tr (TypeId × List FV)).get r = some (e, xs) := h
      rw [Tr.get_e] at h; cases h
    · intro r j n h
      have h : (Tr.e : Tr (Nat × Nat)).get r = some (j, n) := h
      rw [Tr.get_e] at h; cases h
    · intro g' j h
      have h : (g', j) ∈ [(g, 0)] := h
      simp only [List.mem_singleton, Prod.mk.injEq] at h
      obtain ⟨rfl, rfl⟩ := h
      exact ⟨by show 0 < 1; omega, rfl, rfl⟩
    · intro j h; cases h
  have hreach := reach_ret (P := Tryd.prog) (w0 := w) (ρ := env0 g) (cfgW_ok [(g, 0)] []) (fn := fn) (K := fun v w' => ∃ b o, v = .tuple #[.pointer (some ⟨b, o, none⟩), .nilIface] ∧ w'.cell? ⟨b, o + 10, none⟩ = some (.int .i64 n) ∧ Below w.heap.size w w')
    false 1000 r1 (Obs.nil r2 _) (ptrNil_eq r4) (fun ρ' w' _ hM' _ => by
      unfold sizeAt at r5
      split at r5
      · rename_i W hW
        split at r5
        · rename_i x hx
          rw [nth?_eq] at hx
          have hc := (hM'.cell 1 W hW).2.2 10 x hx
          rw [fvEq_eq r5] at hc
          exact ⟨ρ'.b 1, ρ'.o 1, by simp [SV.den, partDen, FV.den], hc, hM'.os, hM'.tape, hM'.output, hM'.size, fun i hi => hM'.keep i hi (fun j hj => by cases hj)⟩
        · cases r5
      · cases r5)
  refine Calls.mono (calls_of_wp (R := fun e w' => ∃ v, e = .returned v ∧ ∃ b o, v = .tuple #[.pointer (some ⟨b, o, none⟩), .nilIface] ∧ w'.cell? ⟨b, o + 10, none⟩ = some (.int .i64 n) ∧ Below w.heap.size w w') hfn hbd ?_)
    (fun e w' ⟨v, he, b, o, hv, hB⟩ => ⟨b, o, by rw [he, hv], hB⟩)
  refine hreach _ w ⟨?_, rfl, fun d x hd => ?_⟩ hM
  · show (#[_, _] ++ Array.replicate _ undef : Array Value).size = fn.ntmps
    simp; omega
  · have hd := ofL_get (l := fl0 n) (by rfl) hd
    simp only [fl0, List.mem_cons, Prod.mk.injEq, List.not_mem_nil, or_false] at hd
    rcases hd with ⟨rfl, rfl⟩ | ⟨rfl, rfl⟩
    · refine ⟨trivial, ?_⟩
      show ((#[_, _] ++ _ : Array Value)).getD 0 undef = _
      rw [Array.getD_eq_getD_getElem?, Array.getElem?_append_left (by simp)]
      rfl
    · refine ⟨trivial, ?_⟩
      show ((#[_, _] ++ _ : Array Value)).getD 1 undef = _
      rw [Array.getD_eq_getD_getElem?, Array.getElem?_append_left (by simp)]
      rfl

theorem okL_lits (ρ : Env) (m : Nat) : ∀ (l : List FV), (∀ x ∈ l, ∃ k z, x = .int k (.n z)) → okL ρ m l
  | l, h => fun x hx => by obtain ⟨k, z, rfl⟩ := h x hx; trivial

theorem new_s (w : World) (hlt : 3 < w.heap.size) (hcell : ∀ ρ (i : Nat) x, ivS[i]? = some x → w.cell? ⟨3, i, none⟩ = some (x.den ρ)) :
    Calls Tryd.prog 7 #[.int .i64 32, .slice none 0 0] w fun e w' => ∃ b o, e = .returned (.tuple #[.pointer (some ⟨b, o, none⟩), .nilIface]) ∧ w'.cell? ⟨b, o + 10, none⟩ = some (.int .i64 32) ∧ Below w.heap.size w w' :=
  new_any Tryd.func7 (by kernel_rfl) (Nat.le_of_ble_eq_true (by kernel_rfl)) (fun ρ m => okL_lits ρ m _ (by simp [ivS])) runS w hlt hcell
theorem new_b (w : World) (hlt : 4 < w.heap.size) (hcell : ∀ ρ (i : Nat) x, ivB[i]? = some x → w.cell? ⟨4, i, none⟩ = some (x.den ρ)) :
    Calls Tryd.prog 8 #[.int .i64 64, .slice none 0 0] w fun e w' => ∃ b o, e = .returned (.tuple #[.pointer (some ⟨b, o, none⟩), .nilIface]) ∧ w'.cell? ⟨b, o + 10, none⟩ = some (.int .i64 64) ∧ Below w.heap.size w w' :=
  new_any Tryd.func8 (by kernel_rfl) (Nat.le_of_ble_eq_true (by kernel_rfl)) (fun ρ m => okL_lits ρ m _ (by simp [ivB])) runB w hlt hcell
end Go.Proofs.YtdhnmhefdmlbiaaDoor
