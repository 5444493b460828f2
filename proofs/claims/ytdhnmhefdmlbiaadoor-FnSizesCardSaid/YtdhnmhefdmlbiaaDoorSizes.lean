/- The row of laws.FnSizes, proved. -/
import Derived.Test.YtdhnmhefdmlbiaaDoorRows
import Derived.Test.YtdhnmhefdmlbiaaDoorWalkA
import Derived.ProofKit
import Derived.LaidMore
import Derived.OpenShut
import Derived.WideKeyArgs
import Derived.Stop.Joined
namespace Go.Proofs.YtdhnmhefdmlbiaaDoor
open Go.ChangeShapes Go.WideShapes Go.ChangeAt Go.RowKit Go.WideElems

theorem own : ownKnob Tryd.prog.godebug = none := by kernel_rfl
theorem laidOut : laidOutB Tryd.prog = true := by kernel_rfl
def laid5 : List (String × DataW Unit) := [("loop.example/pub-g03123/pub/crypto/blake2b.errKeySize", Rows.laid_loop_example_pub_g03123_pub_crypto_blake2b_errKeySize), ("loop.example/pub-g03123/pub/crypto/blake2b.errHashSize", Rows.laid_loop_example_pub_g03123_pub_crypto_blake2b_errHashSize), ("loop.example/pub-g03123/pub/crypto/blake2b.iv", Rows.laid_loop_example_pub_g03123_pub_crypto_blake2b_iv), ("loop.example/pub-g03123/pub/crypto/blake2s.errKeySize", Rows.laid_loop_example_pub_g03123_pub_crypto_blake2s_errKeySize), ("loop.example/pub-g03123/pub/crypto/blake2s.iv", Rows.laid_loop_example_pub_g03123_pub_crypto_blake2s_iv)]
theorem gB : Tryd.prog.globalNamed "loop.example/pub-g03123/pub/crypto/blake2b.iv" = some 4 := by kernel_rfl
theorem gS : Tryd.prog.globalNamed "loop.example/pub-g03123/pub/crypto/blake2s.iv" = some 3 := by kernel_rfl
theorem tB : (Tryd.prog.globals[4]?).map (·.type) = some 46 := by kernel_rfl
theorem tS : (Tryd.prog.globals[3]?).map (·.type) = some 40 := by kernel_rfl

/-- An array of integers whose reading is known: its cells. -/
theorem cells_of_array {W : World} {n : Nat} {t e : TypeId} {k : IntKind} {fuel : Nat} {cs : Array Value} {zs : List Int} {p : List MemPlace} (ht : Tryd.prog.underlying t = some (.array n e)) (he : Tryd.prog.underlying e = some (.int k)) (hc : Tryd.prog.cellsOf e = 1)
    (h : DataW.trod (fun _ => ()) Tryd.prog W 0 (fun _ => true) false fuel t cs.toList = some (.agg (zs.map fun z => .lit (.int k z)), p)) : ∀ (i : Nat) (z : Int), zs[i]? = some z → cs[i]? = some (.int k z) := by
  intro i z hz
  obtain ⟨xs, m, rfl, hx, hlen, hn, hel⟩ := DataW.trod_array ht h
  simp only [Prod.mk.injEq, DataW.agg.injEq] at hx
  have hi : i < n := by
    have h1 := (List.getElem?_eq_some_iff.1 hz).1
    have h2 := congrArg List.length hx.1
    simp at h2
    omega
  have h1 := hel i hi
  rw [hc, Nat.mul_one] at h1
  have hxi : i < xs.length := by omega
  have hxx : xs[i]? = some xs[i] := by simp [hxi]
  rw [hxx] at h1
  obtain ⟨z', e1, e2, _⟩ := DataW.trod_int he h1
  have e3 : (zs.map fun z => (DataW.lit (.int k z) : DataW Unit))[i]? = some (.lit (.int k z)) := by simp [hz]
  rw [hx.1] at e3
  simp only [List.getElem?_map, hxx, Option.map_some, Option.some.injEq] at e3
  rw [e2] at e3
  have e3 : z' = z := by simpa using e3
  subst e3
  have e4 : (cs.toList.drop i)[0]? = some (.int k z') := by
    have : ((cs.toList.drop i).take 1)[0]? = some (.int k z') := by rw [e1]; rfl
    simpa using this
  simpa using e4

/-- What the condition gives: the two tables' cells. -/
theorem of_laid {W : World} (h : laidMetH Tryd.prog laid5 W) :
    (∀ ρ (i : Nat) x, ivS[i]? = some x → W.cell? ⟨3, i, none⟩ = some (Sx.FV.den ρ x)) ∧ (∀ ρ (i : Nat) x, ivB[i]? = some x → W.cell? ⟨4, i, none⟩ = some (Sx.FV.den ρ x)) ∧ 4 < W.heap.size := by
  rw [MakeChecks.laidMetH_plain _ _ _ (by kernel_rfl)] at h
  obtain ⟨ps, ⟨_, _, _, _, _, _, _, _, _, _, ⟨_, _, _, _, _, _, _, _, _, _, ⟨g2, t2, cs2, f2, p2, q2, hg2, ht2, hv2, hd2, ⟨_, _, _, _, _, _, _, _, _, _, ⟨g4, t4, cs4, f4, p4, q4, hg4, ht4, hv4, hd4, _, _⟩, _⟩, _⟩, _⟩, _⟩, _, _⟩ := h
  obtain rfl := Option.some.inj (gB.symm.trans hg2)
  obtain rfl := Option.some.inj (gS.symm.trans hg4)
  obtain rfl := Option.some.inj (tB.symm.trans ht2)
  obtain rfl := Option.some.inj (tS.symm.trans ht4)
  have c4 := cells_of_array (W := W) (n := 8) (t := 40) (e := 39) (k := .u32) (zs := [1779033703, 3144134277, 1013904242, 2773480762, 1359893119, 2600822924, 528734635, 1541459225]) (by kernel_rfl) (by kernel_rfl) (by kernel_rfl) hd4
  have c2 := cells_of_array (W := W) (n := 8) (t := 46) (e := 45) (k := .u64) (zs := [7640891576956012808, 13503953896175478587, 4354685564936845355, 11912009170470909681, 5840696475078001361, 11170449401992604703, 2270897969802886507, 6620516959819538809]) (by kernel_rfl) (by kernel_rfl) (by kernel_rfl) hd2
  have lit : ∀ (k : IntKind) (zs : List Int) (ρ : Sx.Env) (i : Nat) x, (zs.map fun z => Sx.FV.int k (.n z))[i]? = some x → ∃ z, zs[i]? = some z ∧ Sx.FV.den ρ x = .int k z := by
    intro k zs ρ i x hx
    rw [List.getElem?_map] at hx
    cases hz : zs[i]? with
    | none => rw [hz] at hx; cases hx
    | some z =>
      rw [hz] at hx
      have hx := Option.some.inj hx
      subst hx
      exact ⟨z, rfl, rfl⟩
  refine ⟨fun ρ i x hx => ?_, fun ρ i x hx => ?_, ?_⟩
  · obtain ⟨z, hz, e⟩ := lit .u32 [1779033703, 3144134277, 1013904242, 2773480762, 1359893119, 2600822924, 528734635, 1541459225] ρ i x hx
    rw [World.var?_cell hg4 hv4, e]
    exact c4 i z hz
  · obtain ⟨z, hz, e⟩ := lit .u64 [7640891576956012808, 13503953896175478587, 4354685564936845355, 11912009170470909681, 5840696475078001361, 11170449401992604703, 2270897969802886507, 6620516959819538809] ρ i x hx
    rw [World.var?_cell hg2 hv2, e]
    exact c2 i z hz
  · have h1 := World.var?_cell hg2 hv2 0
    rw [c2 0 _ rfl] at h1
    unfold World.cell? at h1
    split at h1
    · rename_i hh
      exact (Array.getElem?_eq_some_iff.1 hh).1
    · cases h1

noncomputable def rowsOf (ns : List String) : Bool :=
  ns.all fun n => match Tryd.prog.globalNamed n with
    | some g => match (Tryd.prog.globals[g]?).map (·.type) with
      | some t => Tryd.prog.readableRec t && decide (t < Tryd.prog.types.size)
      | none => true
    | none => true
/-- The variables read as they did where nothing that was there has turned. -/
theorem vars_stay {H : Type} {enc : TypeId × Value → H} {W W' : World} (hb : Below W.heap.size W W') : ∀ (ns : List String) (gs : List (DataW H)) (ps : List MemPlace), rowsOf ns = true →
    DataW.TrodVars enc Tryd.prog W (fun _ => true) ns gs ps → (∀ x ∈ ps, x.block < W.heap.size) → DataW.TrodVars enc Tryd.prog W' (fun b => decide (b < W.heap.size)) ns gs ps
  | [], [], _, _, h, _ => h
  | [], _ :: _, _, _, h, _ => h.elim
  | _ :: _, [], _, _, h, _ => h.elim
  | n :: ns, d :: gs, ps, hr, h, hlt => by
    obtain ⟨g, t, cs, fuel, p, q, h1, h2, h3, h4, h5, rfl⟩ := h
    unfold rowsOf at hr
    rw [List.all_cons, Bool.and_eq_true] at hr
    obtain ⟨hr1, hr2⟩ := hr
    rw [h1] at hr1
    simp only [h2, Bool.and_eq_true, decide_eq_true_eq] at hr1
    refine ⟨g, t, cs, fuel, p, q, h1, h2, ?_, ?_, vars_stay hb ns gs q hr2 h5 (fun x hx => hlt x (by simp [hx])), rfl⟩
    · unfold World.var? at h3 ⊢
      rw [h1, Option.bind_some] at h3 ⊢
      cases hh : W.heap[g]? with
      | none => rw [hh] at h3; cases h3
      | some o =>
        rw [hb.block g (Array.getElem?_eq_some_iff.1 hh).1]
        exact h3
    · exact DataW.trod_stays (kids_book laidOut hr1.1) (book_sized hr1.1) (fun h => by cases h) ⟨hr1.2, book_self t⟩ h4 (fun x hx => hb.same (hlt x (by simp [hx]))) (fun x hx => by simpa using hlt x (by simp [hx]))

/-- The door's own heap meets the condition. -/
theorem door_met (os : Os) (args : Array Value) : laidMetH Tryd.prog laid5 ((World.doorLaid Tryd.prog 400 os).forCall (fun _ _ => 0) ⟨#[], args, []⟩).memory :=
  laidMetH_of_parts3 (fuel := 8) (laidMet_of_run' 8 (by kernel_rfl) (by kernel_rfl)) (by kernel_rfl) (by kernel_rfl)

set_option maxRecDepth 100000 in
theorem lifted (os : Os) (started : os.Started) (H : Type) (enc : TypeId × Value → H) :
    ReturnsInHanded {} Tryd.checked os 3 .any (fun w args => (Rows.fnSizesSpec.pre enc Tryd.prog Tryd.f3 [] false w args ∧ laidMetH Tryd.prog laid5 w) ∧ sizedMet enc Tryd.prog Tryd.f3 (OpenSpec.ofChange Rows.fnSizesSpec) false w args)
      (Rows.fnSizesSpec.post enc Tryd.prog Tryd.f3 false true false false) := by
  refine returnsInHanded_of_change_and (C := Tryd.checked) (X := fun w _ => laidMetH Tryd.prog laid5 w) (fun _ _ _ hh h => h.of_heap hh) own started (by kernel_rfl) Tryd.func3
    (ChangeSpec.witness_shaped (enc := enc) (C := Tryd.checked) (os := os) (X := fun w _ => laidMetH Tryd.prog laid5 w) false (World.doorLaid Tryd.prog 400 os) #[.bool false] 8 rfl (World.shaped_of_RefB (by kernel_rfl) (by kernel_rfl)) (by kernel_rfl) (by kernel_rfl) (by kernel_rfl) (door_met os _)) ?_
  intro W base args ds gs before hval0 hW _ _ hL _
  have hval : ∀ (j : Nat) t v, Tryd.f3.params[j]? = some t → args[j]? = some v → Value.okWide Tryd.prog W .any base t v := hval0
  have hW' := hW
  obtain ⟨p, q, hA0, hV, rfl, hfz, hnd⟩ := hW
  have hA : DataW.TrodAll enc Tryd.prog W 0 (fun _ => true) true Tryd.f3.params.toList args.toList ds p := hA0
  rw [Tryd.params3] at hA hval
  obtain ⟨v0, d0, rfl, rfl, h0⟩ := trodAll_one hA
  obtain ⟨small, rfl, rfl, rfl⟩ := open_bool Tryd.underlying4 (hval 0 4 v0 rfl rfl) h0
  obtain ⟨cs, cb, hlt⟩ := of_laid hL
  clear hA0 hval0
  match gs, hV with
  | [g1, g2, g3, g4, g5], hV =>
    have fin : ∀ W', Below W.heap.size W W' → Rows.fnSizesSpec.post enc Tryd.prog Tryd.f3 false true false false W #[.bool small] (.bool true) W' := fun W' hB =>
      ⟨_, _, _, _, _, _, hW', trodAll_mk1 (shut_bool Tryd.underlying4 _), trodAll_mk1 (shut_bool Tryd.underlying4 _), vars_stay hB _ _ _ (by kernel_rfl) hV (fun x hx => hW'.lt x (by simp [hx])), hB.frame _, fun h => by cases h⟩
    cases small
    · refine (law_false W hlt cb).mono fun e W' ⟨he, hB⟩ => ?_
      subst he
      exact ⟨_, rfl, fin W' hB⟩
    · refine (law_true W (by omega) cs).mono fun e W' ⟨he, hB⟩ => ?_
      subst he
      exact ⟨_, rfl, fin W' hB⟩

theorem fnSizes_holds : Rows.FnSizesSaid :=
  OpenClaim.holds_of_wide 3 Tryd.f3 rfl rfl rfl rfl rfl rfl rfl ⟨rfl, rfl, rfl, rfl, rfl⟩ rfl rfl rfl rfl rfl (by kernel_rfl) Tryd.func3 (by kernel_rfl)
    (of_decide_eq_true (by kernel_rfl)) (by unfold Func.isWrapper; first | (rw [if_pos (by decide +kernel)]; kernel_rfl) | (rw [if_neg (by decide +kernel)]; exact ⟨rfl, rfl⟩))
    (fun os started H enc _ => lifted os started H enc)
end Go.Proofs.YtdhnmhefdmlbiaaDoor
