/- The law where the lengths are those that are asked: from any world in which the arguments' cells are known. -/
import Derived.Test.YtgoogcbibcgcmaaSegD
import Derived.Below
namespace Go.Proofs.Ytgoogcbibcgcmaa
open Go Go.Sx Go.Proofs Go.RowKit

def envOf (A0 A1 A2 : Addr) (q0 q1 q2 : Nat) (z0 z1 z2 : Nat → Int) : Env :=
  { i := fun x => if x < 16 then z0 x else if x < 48 then z1 (x - 16) else z2 (x - 48)
    b := fun j => match j with | 0 => A0.block | 1 => A1.block | _ => A2.block
    o := fun j => match j with | 0 => A0.off | 1 => A1.off | _ => A2.off
    c := fun j => match j with | 0 => q0 | 1 => q1 | _ => q2
    r := fun _ => undef }

theorem mem_ml0 {j : Nat} {W : Win} (h : s0.M.get j = some W) : (j = 0 ∧ W = ⟨u8s 0 16, 0⟩) ∨ (j = 1 ∧ W = ⟨u8s 16 32, 0⟩) ∨ (j = 2 ∧ W = ⟨u8s 48 16, 0⟩) := by
  have := ofL_get (l := ml0) (by rfl) h
  simpa [ml0] using this

theorem okL_u8s (ρ : Env) (n : Nat) : ∀ (m k : Nat), okL ρ n (u8s k m)
  | 0, _ => fun _ h => by cases h
  | m + 1, k => fun x h => by
    rcases List.mem_cons.1 h with rfl | h
    · trivial
    · exact okL_u8s ρ n m (k + 1) x h

theorem spot_none {w : World} {A : Addr} {v : Value} (h : w.cell? A = some v) : A = ⟨A.block, A.off, none⟩ := by
  obtain ⟨b, o, sp⟩ := A
  cases sp with
  | none => rfl
  | some k =>
    unfold World.cell? at h
    split at h <;> simp at h

theorem block_lt {w : World} {A : Addr} {v : Value} (h : w.cell? A = some v) : A.block < w.heap.size := by
  unfold World.cell? at h
  split at h
  · rename_i hh
    exact (Array.getElem?_eq_some_iff.1 hh).1
  · cases h

theorem law_on (w : World) (A0 A1 A2 : Addr) (q0 q1 q2 : Nat) (z0 z1 z2 : Nat → Int) (k0 : 16 ≤ q0) (k1 : 32 ≤ q1) (k2 : 16 ≤ q2)
    (h0 : ∀ i, i < 16 → w.cell? (A0.add i) = some (.int .u8 (z0 i))) (h1 : ∀ i, i < 32 → w.cell? (A1.add i) = some (.int .u8 (z1 i))) (h2 : ∀ i, i < 16 → w.cell? (A2.add i) = some (.int .u8 (z2 i))) :
    Calls Try.prog 3 #[.slice (some A0) 16 q0, .slice (some A1) 32 q1, .slice (some A2) 16 q2] w fun e w' => e = .returned (.bool true) ∧ Below w.heap.size w w' := by
  have hA0 : A0 = ⟨A0.block, A0.off, none⟩ := by
    have := spot_none (h0 0 (by omega))
    obtain ⟨b, o, sp⟩ := A0
    simpa [Addr.add] using this
  have hA1 : A1 = ⟨A1.block, A1.off, none⟩ := by
    have := spot_none (h1 0 (by omega))
    obtain ⟨b, o, sp⟩ := A1
    simpa [Addr.add] using this
  have hA2 : A2 = ⟨A2.block, A2.off, none⟩ := by
    have := spot_none (h2 0 (by omega))
    obtain ⟨b, o, sp⟩ := A2
    simpa [Addr.add] using this
  have b0 : A0.block < w.heap.size := block_lt (h0 0 (by omega))
  have b1 : A1.block < w.heap.size := block_lt (h1 0 (by omega))
  have b2 : A2.block < w.heap.size := block_lt (h2 0 (by omega))
  obtain ⟨B0, O0, S0⟩ := A0
  obtain ⟨B1, O1, S1⟩ := A1
  obtain ⟨B2, O2, S2⟩ := A2
  cases hA0; cases hA1; cases hA2
  let ρ := envOf ⟨B0, O0, none⟩ ⟨B1, O1, none⟩ ⟨B2, O2, none⟩ q0 q1 q2 z0 z1 z2
  have hreach := law16 (w0 := w) (K := fun v w' => v = .bool true ∧ Below w.heap.size w w') (fun ρ' s w' hM =>
    ⟨rfl, hM.os, hM.tape, hM.output, hM.size, fun i hi => hM.keep i hi (fun j hj => by cases hj)⟩) ρ
  have hM : MemOK c0 w ρ s0 w := by
    constructor
    · rfl
    · rfl
    · rfl
    · exact Nat.le_refl _
    · intros; rfl
    · intro j W hW
      rcases mem_ml0 hW with ⟨rfl, rfl⟩ | ⟨rfl, rfl⟩ | ⟨rfl, rfl⟩
      · refine ⟨by show 0 < 3; omega, okL_u8s _ _ _ _, fun i x hx => ?_⟩
        have hi : i < 16 := by have := (List.getElem?_eq_some_iff.1 hx).1; rwa [u8s_len] at this
        rw [u8s_get 16 0 i hi] at hx
        have hx := Option.some.inj hx
        subst hx
        have := h0 i hi
        rw [Addr.add_lit] at this
        show w.cell? ⟨B0, O0 + i, none⟩ = some (.int .u8 (if 0 + i < 16 then z0 (0 + i) else _))
        rw [if_pos (by omega), Nat.zero_add]
        exact this
      · refine ⟨by show 1 < 3; omega, okL_u8s _ _ _ _, fun i x hx => ?_⟩
        have hi : i < 32 := by have := (List.getElem?_eq_some_iff.1 hx).1; rwa [u8s_len] at this
        rw [u8s_get 32 16 i hi] at hx
        have hx := Option.some.inj hx
        subst hx
        have := h1 i hi
        rw [Addr.add_lit] at this
        show w.cell? ⟨B1, O1 + i, none⟩ = some (.int .u8 (if 16 + i < 16 then _ else if 16 + i < 48 then z1 (16 + i - 16) else _))
        rw [if_neg (by omega), if_pos (by omega), show 16 + i - 16 = i by omega]
        exact this
      · refine ⟨by show 2 < 3; omega, okL_u8s _ _ _ _, fun i x hx => ?_⟩
        have hi : i < 16 := by have := (List.getElem?_eq_some_iff.1 hx).1; rwa [u8s_len] at this
        rw [u8s_get 16 48 i hi] at hx
        have hx := Option.some.inj hx
        subst hx
        have := h2 i hi
        rw [Addr.add_lit] at this
        show w.cell? ⟨B2, O2 + i, none⟩ = some (.int .u8 (if 48 + i < 16 then _ else if 48 + i < 48 then _ else z2 (48 + i - 48)))
        rw [if_neg (by omega), if_neg (by omega), show 48 + i - 48 = i by omega]
        exact this
    · intro j W hW
      rcases mem_ml0 hW with ⟨rfl, rfl⟩ | ⟨rfl, rfl⟩ | ⟨rfl, rfl⟩
      · exact b0
      · exact b1
      · exact b2
    · intro j W hW hwr
      rcases mem_ml0 hW with ⟨rfl, rfl⟩ | ⟨rfl, rfl⟩ | ⟨rfl, rfl⟩ <;> exact absurd rfl hwr
    · intro j W hW hwr
      rcases mem_ml0 hW with ⟨rfl, rfl⟩ | ⟨rfl, rfl⟩ | ⟨rfl, rfl⟩ <;> exact absurd rfl hwr
    · intro j W j' W' hW _ hwr
      rcases mem_ml0 hW with ⟨rfl, rfl⟩ | ⟨rfl, rfl⟩ | ⟨rfl, rfl⟩ <;> exact absurd rfl hwr
    · intro r e xs h
      have h : (Tr.e : Tr (TypeId × List FV)).get r = some (e, xs) := h
      rw [Tr.get_e] at h; cases h
    · intro r e xs g j W h
      have h : (Tr.e : Tr (TypeId × List FV)).get r = some (e, xs) := h
      rw [Tr.get_e] at h; cases h
    · intro r e xs r' e' xs' g h
      have h : (Tr.e : Tr (TypeId × List FV)).get r = some (e, xs) := h
      rw [Tr.get_e] at h; cases h
    · intro r j n h
      have h : (Tr.e : Tr (Nat × Nat)).get r = some (j, n) := h
      rw [Tr.get_e] at h; cases h
    · intro g j h; cases h
    · intro j h; cases h
  have hb : Try.f3.body = some (bodyOf Try.f3) := by kernel_rfl
  have hN : 3 ≤ Try.f3.ntmps := Nat.le_of_ble_eq_true (by kernel_rfl)
  refine Calls.mono (calls_of_wp (R := fun e w' => ∃ v, e = .returned v ∧ v = .bool true ∧ Below w.heap.size w w') Try.func3 hb ?_) (fun e w' ⟨v, he, hv, hB⟩ => ⟨by rw [he, hv], hB⟩)
  refine hreach _ w ⟨?_, rfl, fun d x hd => ?_⟩ hM
  · show (#[_, _, _] ++ Array.replicate _ undef : Array Value).size = Try.f3.ntmps
    simp
  · have hd := ofL_get (l := [(0, sIn 0 16), (1, sIn 1 32), (2, sIn 2 16)]) (by rfl) hd
    simp only [List.mem_cons, Prod.mk.injEq, List.not_mem_nil, or_false] at hd
    rcases hd with ⟨rfl, rfl⟩ | ⟨rfl, rfl⟩ | ⟨rfl, rfl⟩
    · exact ⟨⟨by show 0 < 3; omega, by show 0 < 3; omega, by simp [E.den], by simp only [E.den]; show (16 : Nat) ≤ ((q0 - 0 : Nat) : Int); omega⟩, by simp; rfl⟩
    · exact ⟨⟨by show 1 < 3; omega, by show 1 < 3; omega, by simp [E.den], by simp only [E.den]; show (32 : Nat) ≤ ((q1 - 0 : Nat) : Int); omega⟩, by simp; rfl⟩
    · exact ⟨⟨by show 2 < 3; omega, by show 2 < 3; omega, by simp [E.den], by simp only [E.den]; show (16 : Nat) ≤ ((q2 - 0 : Nat) : Int); omega⟩, by simp; rfl⟩
end Go.Proofs.Ytgoogcbibcgcmaa
