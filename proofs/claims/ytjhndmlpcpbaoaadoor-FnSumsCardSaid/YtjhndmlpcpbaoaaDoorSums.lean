/- The row of laws.FnSums, proved. -/
import Derived.Test.YtjhndmlpcpbaoaaDoorRows
import Derived.Test.YtjhndmlpcpbaoaaDoorLaw
import Derived.ProofKit
import Derived.LaidMore
import Derived.OpenShut
import Derived.WideKeyArgs
import Derived.Stop.Joined
namespace Go.Proofs.YtjhndmlpcpbaoaaDoor
open Go.ChangeShapes Go.WideShapes Go.ChangeAt Go.RowKit Go.WideElems

theorem own : ownKnob Tryd.prog.godebug = none := by kernel_rfl
theorem laidOut : laidOutB Tryd.prog = true := by kernel_rfl
def laid4 : List (String × DataW Unit) := [("loop.example/pub-g03123/pub/crypto/blake2b.iv", Rows.laid_loop_example_pub_g03123_pub_crypto_blake2b_iv), ("loop.example/pub-g03123/pub/crypto/blake2b.precomputed", Rows.laid_loop_example_pub_g03123_pub_crypto_blake2b_precomputed), ("loop.example/pub-g03123/pub/crypto/blake2s.iv", Rows.laid_loop_example_pub_g03123_pub_crypto_blake2s_iv), ("loop.example/pub-g03123/pub/crypto/blake2s.precomputed", Rows.laid_loop_example_pub_g03123_pub_crypto_blake2s_precomputed)]
theorem g_ivB : Tryd.prog.globalNamed "loop.example/pub-g03123/pub/crypto/blake2b.iv" = some 0 := by kernel_rfl
theorem t_ivB : (Tryd.prog.globals[0]?).map (·.type) = some 46 := by kernel_rfl
theorem g_preB : Tryd.prog.globalNamed "loop.example/pub-g03123/pub/crypto/blake2b.precomputed" = some 3 := by kernel_rfl
theorem t_preB : (Tryd.prog.globals[3]?).map (·.type) = some 86 := by kernel_rfl
theorem g_ivS : Tryd.prog.globalNamed "loop.example/pub-g03123/pub/crypto/blake2s.iv" = some 2 := by kernel_rfl
theorem t_ivS : (Tryd.prog.globals[2]?).map (·.type) = some 54 := by kernel_rfl
theorem g_preS : Tryd.prog.globalNamed "loop.example/pub-g03123/pub/crypto/blake2s.precomputed" = some 4 := by kernel_rfl
theorem t_preS : (Tryd.prog.globals[4]?).map (·.type) = some 88 := by kernel_rfl

/-- An array of integers whose reading is known: its cells. -/
theorem cells_of_ints {W : World} {n : Nat} {t e : TypeId} {k : IntKind} {fuel : Nat} {cs : List Value} {zs : List Int} {p : List MemPlace} (ht : Tryd.prog.underlying t = some (.array n e)) (he : Tryd.prog.underlying e = some (.int k)) (hc : Tryd.prog.cellsOf e = 1)
    (h : DataW.trod (fun _ => ()) Tryd.prog W 0 (fun _ => true) false fuel t cs = some (.agg (zs.map fun z => .lit (.int k z)), p)) : ∀ (i : Nat) (z : Int), zs[i]? = some z → cs[i]? = some (.int k z) := by
  intro i z hz
  obtain ⟨xs, m, rfl, hx, hlen, hn, hel⟩ := DataW.trod_array ht h
  simp only [Prod.mk.injEq, DataW.agg.injEq] at hx
  have hi : i < n := by
    have h1 := (List.getElem?_eq_some_iff.1 hz).1
    have h2 := congrArg List.length hx.1
    simp at h2
    omega
  have h1 := hel i hi
  rw [hc, Nat.mul_one] at h1
  have hxi : i < xs.length := by omega
  have hxx : xs[i]? = some xs[i] := by simp [hxi]
  rw [hxx] at h1
  obtain ⟨z', e1, e2, _⟩ := DataW.trod_int he h1
  have e3 : (zs.map fun z => (DataW.lit (.int k z) : DataW Unit))[i]? = some (.lit (.int k z)) := by simp [hz]
  rw [hx.1] at e3
  simp only [List.getElem?_map, hxx, Option.map_some, Option.some.injEq] at e3
  rw [e2] at e3
  have e3 : z' = z := by simpa using e3
  subst e3
  have e4 : (cs.drop i)[0]? = some (.int k z') := by
    have : ((cs.drop i).take 1)[0]? = some (.int k z') := by rw [e1]; rfl
    simpa using this
  simpa using e4
/-- .. a table of such rows. -/
theorem cells_of_rows {W : World} {n l : Nat} {t r e : TypeId} {k : IntKind} {fuel : Nat} {cs : List Value} {zss : List (List Int)} {p : List MemPlace} (ht : Tryd.prog.underlying t = some (.array n r)) (hr : Tryd.prog.underlying r = some (.array l e)) (he : Tryd.prog.underlying e = some (.int k)) (hcr : Tryd.prog.cellsOf r = l) (hc : Tryd.prog.cellsOf e = 1)
    (h : DataW.trod (fun _ => ()) Tryd.prog W 0 (fun _ => true) false fuel t cs = some (.agg (zss.map fun zs => .agg (zs.map fun z => .lit (.int k z))), p)) :
    ∀ (a b : Nat) zs z, zss[a]? = some zs → zs[b]? = some z → b < l → cs[a * l + b]? = some (.int k z) := by
  intro a b zs z hzs hz hb
  obtain ⟨xs, m, rfl, hx, hlen, hn, hel⟩ := DataW.trod_array ht h
  simp only [Prod.mk.injEq, DataW.agg.injEq] at hx
  have hi : a < n := by
    have h1 := (List.getElem?_eq_some_iff.1 hzs).1
    have h2 := congrArg List.length hx.1
    simp at h2
    omega
  have h1 := hel a hi
  rw [hcr] at h1
  have hxi : a < xs.length := by omega
  have hxx : xs[a]? = some xs[a] := by simp [hxi]
  rw [hxx] at h1
  have e3 : (zss.map fun zs => (DataW.agg (zs.map fun z => .lit (.int k z)) : DataW Unit))[a]? = some (.agg (zs.map fun z => .lit (.int k z))) := by simp [hzs]
  rw [hx.1] at e3
  simp only [List.getElem?_map, hxx, Option.map_some, Option.some.injEq] at e3
  have h1' : DataW.trod (fun _ => ()) Tryd.prog W 0 (fun _ => true) false m r ((cs.drop (a * l)).take l) = some (.agg (zs.map fun z => .lit (.int k z)), (xs[a]).2) := by
    rw [h1, ← e3]
  have h2 := cells_of_ints hr he hc h1' b z hz
  rw [List.getElem?_take, if_pos hb, List.getElem?_drop] at h2
  exact h2

def rows16 (l : List Int) (n : Nat) : List (List Int) := (List.range n).map fun a => (l.drop (16 * a)).take 16
theorem rows16_get (l : List Int) (n j : Nat) (z : Int) (hn : l.length = 16 * n) (h : l[j]? = some z) : ∃ zs, (rows16 l n)[j / 16]? = some zs ∧ zs[j % 16]? = some z := by
  have hj := (List.getElem?_eq_some_iff.1 h).1
  refine ⟨(l.drop (16 * (j / 16))).take 16, ?_, ?_⟩
  · unfold rows16
    have : j / 16 < n := by omega
    simp [this]
  · rw [List.getElem?_take, if_pos (by omega), List.getElem?_drop, show 16 * (j / 16) + j % 16 = j by omega]
    exact h

/-- What the condition gives: the four tables' cells. -/
theorem of_laid {W : World} (h : laidMetH Tryd.prog laid4 W) : Glob W := by
  rw [MakeChecks.laidMetH_plain _ _ _ (by kernel_rfl)] at h
  obtain ⟨ps, ⟨ga, ta, csa, fa, pa, qa, hga, hta, hva, hda, ⟨gb, tb, csb, fb, pb, qb, hgb, htb, hvb, hdb, ⟨gc, tc, csc, fc, pc, qc, hgc, htc, hvc, hdc, ⟨gd, td, csd, fd, pd, qd, hgd, htd, hvd, hdd, _, _⟩, _⟩, _⟩, _⟩, _, _⟩ := h
  obtain rfl := Option.some.inj (g_ivB.symm.trans hga)
  obtain rfl := Option.some.inj (g_preB.symm.trans hgb)
  obtain rfl := Option.some.inj (g_ivS.symm.trans hgc)
  obtain rfl := Option.some.inj (g_preS.symm.trans hgd)
  obtain rfl := Option.some.inj (t_ivB.symm.trans hta)
  obtain rfl := Option.some.inj (t_preB.symm.trans htb)
  obtain rfl := Option.some.inj (t_ivS.symm.trans htc)
  obtain rfl := Option.some.inj (t_preS.symm.trans htd)
  rw [show (@Rows.laid_loop_example_pub_g03123_pub_crypto_blake2b_iv Unit) = .agg (ivLB.map fun z => .lit (.int .u64 z)) by kernel_rfl] at hda
  rw [show (@Rows.laid_loop_example_pub_g03123_pub_crypto_blake2s_iv Unit) = .agg (ivLS.map fun z => .lit (.int .u32 z)) by kernel_rfl] at hdc
  rw [show (@Rows.laid_loop_example_pub_g03123_pub_crypto_blake2b_precomputed Unit) = .agg ((rows16 preLB 12).map fun zs => .agg (zs.map fun z => .lit (.int .u8 z))) by kernel_rfl] at hdb
  rw [show (@Rows.laid_loop_example_pub_g03123_pub_crypto_blake2s_precomputed Unit) = .agg ((rows16 preLS 10).map fun zs => .agg (zs.map fun z => .lit (.int .u8 z))) by kernel_rfl] at hdd
  have ca := cells_of_ints (W := W) (n := 8) (t := 46) (e := 37) (k := .u64) (by kernel_rfl) (by kernel_rfl) (by kernel_rfl) hda
  have cc := cells_of_ints (W := W) (n := 8) (t := 54) (e := 39) (k := .u32) (by kernel_rfl) (by kernel_rfl) (by kernel_rfl) hdc
  have cb := cells_of_rows (W := W) (n := 12) (l := 16) (t := 86) (r := 85) (e := 5) (k := .u8) (by kernel_rfl) (by kernel_rfl) (by kernel_rfl) (by kernel_rfl) (by kernel_rfl) hdb
  have cd := cells_of_rows (W := W) (n := 10) (l := 16) (t := 88) (r := 85) (e := 5) (k := .u8) (by kernel_rfl) (by kernel_rfl) (by kernel_rfl) (by kernel_rfl) (by kernel_rfl) hdd
  have pS : CellsAt W 4 0 .u8 preLS := by
    intro j z hz
    obtain ⟨zs, h1, h2⟩ := rows16_get preLS 10 j z (by kernel_rfl) hz
    rw [World.var?_cell hgd hvd]
    have := cd (j / 16) (j % 16) zs z h1 h2 (by omega)
    rw [show j / 16 * 16 + j % 16 = 0 + j by omega] at this
    simpa using this
  refine ⟨?_, ?_, ?_, ?_, pS⟩
  · have h1 := cell_lt (pS 0 0 (by kernel_rfl))
    omega
  · intro j z hz
    rw [World.var?_cell hga hva]
    have := ca j z hz
    simpa using this
  · intro j z hz
    rw [World.var?_cell hgc hvc]
    have := cc j z hz
    simpa using this
  · intro j z hz
    obtain ⟨zs, h1, h2⟩ := rows16_get preLB 12 j z (by kernel_rfl) hz
    rw [World.var?_cell hgb hvb]
    have := cb (j / 16) (j % 16) zs z h1 h2 (by omega)
    rw [show j / 16 * 16 + j % 16 = 0 + j by omega] at this
    simpa using this

noncomputable def rowsOf (ns : List String) : Bool :=
  ns.all fun n => match Tryd.prog.globalNamed n with
    | some g => match (Tryd.prog.globals[g]?).map (·.type) with
      | some t => Tryd.prog.readableRec t && decide (t < Tryd.prog.types.size)
      | none => true
    | none => true
/-- The variables read as they did where nothing that was there has turned. -/
theorem vars_stay {H : Type} {enc : TypeId × Value → H} {W W' : World} (hb : Below W.heap.size W W') : ∀ (ns : List String) (gs : List (DataW H)) (ps : List MemPlace), rowsOf ns = true →
    DataW.TrodVars enc Tryd.prog W (fun _ => true) ns gs ps → (∀ x ∈ ps, x.block < W.heap.size) → DataW.TrodVars enc Tryd.prog W' (fun b => decide (b < W.heap.size)) ns gs ps
  | [], [], _, _, h, _ => h
  | [], _ :: _, _, _, h, _ => h.elim
  | _ :: _, [], _, _, h, _ => h.elim
  | n :: ns, d :: gs, ps, hr, h, hlt => by
    obtain ⟨g, t, cs, fuel, p, q, h1, h2, h3, h4, h5, rfl⟩ := h
    unfold rowsOf at hr
    rw [List.all_cons, Bool.and_eq_true] at hr
    obtain ⟨hr1, hr2⟩ := hr
    rw [h1] at hr1
    simp only [h2, Bool.and_eq_true, decide_eq_true_eq] at hr1
    refine ⟨g, t, cs, fuel, p, q, h1, h2, ?_, ?_, vars_stay hb ns gs q hr2 h5 (fun x hx => hlt x (by simp [hx])), rfl⟩
    · unfold World.var? at h3 ⊢
      rw [h1, Option.bind_some] at h3 ⊢
      cases hh : W.heap[g]? with
      | none => rw [hh] at h3; cases h3
      | some o =>
        rw [hb.block g (Array.getElem?_eq_some_iff.1 hh).1]
        exact h3
    · exact DataW.trod_stays (kids_book laidOut hr1.1) (book_sized hr1.1) (fun h => by cases h) ⟨hr1.2, book_self t⟩ h4 (fun x hx => hb.same (hlt x (by simp [hx]))) (fun x hx => by simpa using hlt x (by simp [hx]))

/-- The door's own heap meets the condition. -/
theorem door_met (os : Os) (args : Array Value) : laidMetH Tryd.prog laid4 ((World.doorLaid Tryd.prog 400 os).forCall (fun _ _ => 0) ⟨#[], args, []⟩).memory :=
  laidMetH_of_parts3 (fuel := 8) (laidMet_of_run' 8 (by kernel_rfl) (by kernel_rfl)) (by kernel_rfl) (by kernel_rfl)

/-- What is at hand of a slice of bytes that came in. -/
theorem data_in {H : Type} {enc : TypeId × Value → H} {W : World} {base : Nat} {a0 : Option Addr} {len cap : Nat} {d : DataW H} {p : List MemPlace}
    (hv : Value.okWide Tryd.prog W .any base 22 (.slice a0 len cap)) (h : DataW.Trod enc Tryd.prog W 0 (fun _ => true) true 22 (.slice a0 len cap) d p) : ∃ D, DataAt W (.slice a0 len cap) len D := by
  have hv' : Cell.ok Tryd.prog W .any base 22 (.slice a0 len cap) := by
    unfold Value.okWide Cell.okWide at hv
    rw [un22] at hv
    exact hv
  unfold Cell.ok at hv'
  rw [un22] at hv'
  cases a0 with
  | none =>
    obtain ⟨fuel, hf⟩ := h
    rcases open_ints (e := 5) (k := .u8) un22 (by kernel_rfl) (by kernel_rfl) hf with ⟨hcs, hx⟩ | ⟨a, len', cap', zs, hcs, _⟩
    · simp [Value.cells] at hcs
      obtain ⟨rfl, rfl⟩ := hcs
      exact ⟨fun _ => 0, .inr ⟨rfl, rfl⟩⟩
    · simp [Value.cells] at hcs
  | some a =>
    obtain ⟨hle, _, _, hs, row, cells, hsh, _⟩ := hv'
    obtain ⟨fuel, hf⟩ := h
    obtain ⟨b, o, sp⟩ := a
    obtain rfl : sp = none := hs
    have hb : b < W.heap.size := by
      unfold World.shape? at hsh
      split at hsh
      · rename_i hh
        exact (Array.getElem?_eq_some_iff.1 hh).1
      · cases hsh
    rcases open_ints (e := 5) (k := .u8) un22 (by kernel_rfl) (by kernel_rfl) hf with ⟨hcs, hx⟩ | ⟨a, len', cap', zs, hcs, _, hl, hm, hz, hx, hcell, hwz⟩
    · simp [Value.cells] at hcs
    · simp [Value.cells] at hcs
      obtain ⟨rfl, rfl, rfl⟩ := hcs
      simp only [if_true] at hz
      refine ⟨fun k => zs.getD k 0, .inl ⟨b, o, cap, rfl, hle, hb, fun k hk => ?_⟩⟩
      have := hcell k (by omega)
      rw [Addr.add_lit] at this
      exact this

set_option maxRecDepth 100000 in
theorem lifted (os : Os) (started : os.Started) (H : Type) (enc : TypeId × Value → H) :
    ReturnsInHanded {} Tryd.checked os 3 .any (fun w args => (Rows.fnSumsSpec.pre enc Tryd.prog Tryd.f3 [] false w args ∧ laidMetH Tryd.prog laid4 w) ∧ sizedMet enc Tryd.prog Tryd.f3 (OpenSpec.ofChange Rows.fnSumsSpec) false w args)
      (Rows.fnSumsSpec.post enc Tryd.prog Tryd.f3 false true false false) := by
  refine returnsInHanded_of_change_and (C := Tryd.checked) (X := fun w _ => laidMetH Tryd.prog laid4 w) (fun _ _ _ hh h => h.of_heap hh) own started (by kernel_rfl) Tryd.func3
    (ChangeSpec.witness_shaped (enc := enc) (C := Tryd.checked) (os := os) (X := fun w _ => laidMetH Tryd.prog laid4 w) false (World.doorLaid Tryd.prog 400 os) #[.slice none 0 0] 8 rfl (World.shaped_of_RefB (by kernel_rfl) (by kernel_rfl)) (by kernel_rfl) (by kernel_rfl) (by kernel_rfl) (door_met os _)) ?_
  intro W base args ds gs before hval0 hW _ _ hL _
  have hval : ∀ (j : Nat) t v, Tryd.f3.params[j]? = some t → args[j]? = some v → Value.okWide Tryd.prog W .any base t v := hval0
  have hW' := hW
  obtain ⟨p, q, hA0, hV, rfl, hfz, hnd⟩ := hW
  have hA : DataW.TrodAll enc Tryd.prog W 0 (fun _ => true) true Tryd.f3.params.toList args.toList ds p := hA0
  rw [Tryd.params3] at hA hval
  obtain ⟨v0, d0, rfl, rfl, h0⟩ := trodAll_one hA
  obtain ⟨a0, l0, c0, rfl⟩ := okWide_slice un22 (hval 0 22 v0 rfl rfl)
  obtain ⟨D, hD⟩ := data_in (hval 0 22 _ rfl rfl) h0
  have G := of_laid hL
  clear hA0 hval0
  match gs, hV with
  | [g1, g2, g3, g4], hV =>
    refine (law_calls W G _ l0 D hD).mono fun e W' ⟨he, hB⟩ => ?_
    subst he
    exact ⟨_, rfl, _, _, _, _, _, _, hW', trodAll_mk1 (shut_bool (by kernel_rfl) _), trodAll_mk1 (Below.trod laidOut (by kernel_rfl) (of_decide_eq_true (by kernel_rfl)) h0 hB (fun x hx => by have := hW'.lt x (by simp [hx]); simpa using this)), vars_stay hB _ _ _ (by kernel_rfl) hV (fun x hx => hW'.lt x (by simp [hx])), hB.frame _, fun h => by cases h⟩

theorem fnSums_holds : Rows.FnSumsSaid :=
  OpenClaim.holds_of_wide 3 Tryd.f3 rfl rfl rfl rfl rfl rfl rfl ⟨rfl, rfl, rfl, rfl, rfl⟩ rfl rfl rfl rfl rfl (by kernel_rfl) Tryd.func3 (by kernel_rfl)
    (of_decide_eq_true (by kernel_rfl)) (by unfold Func.isWrapper; first | (rw [if_pos (by decide +kernel)]; kernel_rfl) | (rw [if_neg (by decide +kernel)]; exact ⟨rfl, rfl⟩))
    (fun os started H enc _ => lifted os started H enc)
end Go.Proofs.YtjhndmlpcpbaoaaDoor
