/- Proved: laws.FnHSalsa (what impl.HSalsa gives is what spec.HSalsa gives, where the lengths are 16, 32 and 16; else nothing is given) returns true for every three slices of bytes, and each of them reads afterwards as it read before. Conditions: none beyond the row's own. -/
import Derived.Test.YtgoogcbibcgcmaaRows
import Derived.Test.YtgoogcbibcgcmaaOn
import Derived.Test.YtgoogcbibcgcmaaOff
import Derived.ProofKit
namespace Go.Proofs.Ytgoogcbibcgcmaa
open Go.ChangeShapes Go.WideShapes Go.ChangeAt Go.RowKit Go.WideElems

theorem Try.own : ownKnob Try.prog.godebug = none := by kernel_rfl
theorem Try.laidOut : laidOutB Try.prog = true := by kernel_rfl

/-- A slice of bytes that came in: nil, or its cells. -/
theorem bytes_in {H : Type} {enc : TypeId × Value → H} {W : World} {a0 : Option Addr} {len cap : Nat} {d : DataW H} {p : List MemPlace}
    (h : DataW.Trod enc Try.prog W 0 (fun _ => true) true 22 (.slice a0 len cap) d p) :
    0 < len → len ≤ cap ∧ ∃ (a : Addr) (zs : List Int), a0 = some a ∧ ∀ i, i < len → W.cell? (a.add i) = some (.int .u8 (zs.getD i 0)) := by
  intro hpos
  obtain ⟨fuel, hf⟩ := h
  rcases open_ints (e := 5) (k := .u8) (by kernel_rfl) (by kernel_rfl) (by kernel_rfl) hf with ⟨hcs, hx⟩ | ⟨a, len', cap', zs, hcs, _, hl, hm, hz, hx, hcell, hwz⟩
  · simp [Value.cells] at hcs
    omega
  · simp [Value.cells] at hcs
    obtain ⟨rfl, rfl, rfl⟩ := hcs
    simp only [if_true] at hz
    exact ⟨hl, a, zs, rfl, fun i hi => hcell i (by omega)⟩

set_option maxRecDepth 100000 in
theorem f_lifted (os : Os) (started : os.Started) (H : Type) (enc : TypeId × Value → H) :
    ReturnsInHanded {} Try.checked os 3 .any (Rows.fnHSalsaSpec.pre6 enc Try.prog Try.f3 Rows.fnHSalsaRow.domain false) (Rows.fnHSalsaSpec.post enc Try.prog Try.f3 false true false false) := by
  refine returnsInHanded_of_change (C := Try.checked) Try.own started (by kernel_rfl) Try.func3
    (ChangeSpec.witness6 (enc := enc) (C := Try.checked) false ⟨#[], #[.slice none 0 0, .slice none 0 0, .slice none 0 0], []⟩ 8 (by kernel_rfl) (by kernel_rfl) (by kernel_rfl) (by kernel_rfl)) ?_
  intro W base args ds gs before hval0 hW hcnd _
  have hval : ∀ (j : Nat) t v, Try.f3.params[j]? = some t → args[j]? = some v → Value.okWide Try.prog W .any base t v := hval0
  have hW' := hW
  obtain ⟨p, q, hA0, hV, rfl, hfz, hnd⟩ := hW
  have hA : DataW.TrodAll enc Try.prog W 0 (fun _ => true) true Try.f3.params.toList args.toList ds p := hA0
  rw [Try.params3] at hA hval
  obtain ⟨v0, v1, v2, d0, d1, d2, p0, p1, p2, rfl, rfl, rfl, h0, h1, h2⟩ := trodAll_three hA
  obtain ⟨rfl, rfl⟩ := trodVars_none hV
  obtain ⟨a0, l0, c0, rfl⟩ := okWide_slice (e := 5) (by kernel_rfl) (hval 0 22 v0 rfl rfl)
  obtain ⟨a1, l1, c1, rfl⟩ := okWide_slice (e := 5) (by kernel_rfl) (hval 1 22 v1 rfl rfl)
  obtain ⟨a2, l2, c2, rfl⟩ := okWide_slice (e := 5) (by kernel_rfl) (hval 2 22 v2 rfl rfl)
  clear hA0 hval0
  simp only [List.append_nil] at hW'
  have hlt : ∀ x ∈ p0 ++ p1 ++ p2, x.block < W.heap.size := fun x hx => by simpa using hW'.lt x hx
  have hargs : ∀ (W' : World) (v : Value) (d : DataW H) (p : List MemPlace), DataW.Trod enc Try.prog W 0 (fun _ => true) true 22 v d p → (∀ x ∈ p, x.block < W.heap.size) → Below W.heap.size W W' → DataW.Trod enc Try.prog W' 0 (fun b => decide (b < W.heap.size)) true 22 v d p :=
    fun W' v d p h hl hn => Below.trod Try.laidOut (by kernel_rfl) (of_decide_eq_true (by kernel_rfl)) h hn hl
  have walk : Calls Try.prog 3 #[.slice a0 l0 c0, .slice a1 l1 c1, .slice a2 l2 c2] W fun e w' => e = .returned (.bool true) ∧ Below W.heap.size W w' := by
    by_cases hl : l0 = 16 ∧ l1 = 32 ∧ l2 = 16
    · obtain ⟨rfl, rfl, rfl⟩ := hl
      obtain ⟨k0, A0, z0, rfl, g0⟩ := bytes_in h0 (by omega)
      obtain ⟨k1, A1, z1, rfl, g1⟩ := bytes_in h1 (by omega)
      obtain ⟨k2, A2, z2, rfl, g2⟩ := bytes_in h2 (by omega)
      exact law_on W A0 A1 A2 c0 c1 c2 (fun i => z0.getD i 0) (fun i => z1.getD i 0) (fun i => z2.getD i 0) k0 k1 k2 g0 g1 g2
    · exact (law_off a0 a1 a2 l0 c0 l1 c1 l2 c2 W hl).mono fun e w' ⟨he, hw⟩ => ⟨he, by rw [hw]; exact Below.refl _ _⟩
  refine walk.mono fun e W' ⟨he, hB⟩ => ?_
  subst he
  refine ⟨_, rfl, _, _, _, _, p0 ++ (p1 ++ p2), [], hW', trodAll_mk1 (shut_bool (by kernel_rfl) true), ?_, rfl, hB.frame _, fun h => by cases h⟩
  exact trodAll_mk3 (hargs W' _ _ _ h0 (fun x hx => hlt x (by simp [hx])) hB) (hargs W' _ _ _ h1 (fun x hx => hlt x (by simp [hx])) hB) (hargs W' _ _ _ h2 (fun x hx => hlt x (by simp [hx])) hB)

theorem fnHSalsa_holds : Rows.FnHSalsaSaid :=
  OpenClaim.holds_of_wide 3 Try.f3 rfl rfl rfl rfl rfl rfl rfl ⟨rfl, rfl, rfl, rfl, rfl⟩ rfl rfl rfl rfl rfl (by kernel_rfl) Try.func3 (by kernel_rfl)
    (of_decide_eq_true (by kernel_rfl)) (by unfold Func.isWrapper; first | (rw [if_pos (by decide +kernel)]; kernel_rfl) | (rw [if_neg (by decide +kernel)]; exact ⟨rfl, rfl⟩))
    (fun os started H enc _ => f_lifted os started H enc)
end Go.Proofs.Ytgoogcbibcgcmaa
