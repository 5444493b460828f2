/- The compression (b) in plain words: the block's words, the rounds, the end. -/
import Derived.Test.YtjhndmlpcpbaoaaDoorSegKB
import Derived.Test.YtjhndmlpcpbaoaaDoorSegIB
import Derived.Test.YtjhndmlpcpbaoaaDoorSegRB
import Derived.WalkKit
import Derived.WalkSpells
import Derived.WalkLawsBesides
import Derived.Test.YtjhndmlpcpbaoaaDoorCom1
namespace Go.Proofs.YtjhndmlpcpbaoaaDoor
open Go Go.Sx Go.Proofs
theorem esM_rngB : rngL 128 256 esMB = true := (and3_iff segEAB).1
theorem esM_lenB : esMB.length = 16 := lenB_eq (and3_iff (and3_iff segHCB).2.2).1
theorem esH_lenB : esHB.length = 8 := lenB_eq (and3_iff (and3_iff segHEB).2.2).1
theorem roundB (t : Nat) (ht : t < 12) : and3 (oRB t).dones (nilB (oRB t).st.obs) (cutB c0B (oRB t).st Tryd.f38.ntmps 7 (flRB (t + 1)) mlRB 512 (esDB t)) = true := (and3_iff (rndB_all t ht)).1
theorem roundJB (t : Nat) (ht : t < 12) : and3 (oTB t).dones (nilB (oTB t).st.obs) (cutB ccB (oTB t).st Tryd.f23.ntmps 35 (flTB (t + 1)) mlTB 512 (esDB t)) = true := (and3_iff (rndB_all t ht)).2.2
theorem esD_lenB (t : Nat) (ht : t < 12) : (esDB t).length = 16 := lenB_eq (and3_iff (and3_iff (rndB_all t ht)).2.1).1
theorem esD_rngB (t : Nat) (ht : t < 12) : rngL 256 528 (esDB t) = true := (and3_iff (and3_iff (rndB_all t ht)).2.1).2.1

/-- The block's words. -/
noncomputable def mwB (b : Nat → Int) (k : Nat) : Int := (esMB.getD k (.n 0)).den fun x => b (x - 128)
/-- The words behind t rounds. -/
noncomputable def WdB (w m : Nat → Int) : Nat → Nat → Int
  | 0, k => w k
  | t + 1, k => ((esDB (t : Nat)).getD k (.n 0)).den fun x => if x < 512 then m (x - 256) else WdB w m t (x - 512)
/-- The new h. -/
noncomputable def finB (h w : Nat → Int) (k : Nat) : Int := (esHB.getD k (.n 0)).den fun x => if x < 512 then h (x - 64) else w (x - 512)
/-- The first words. -/
def v0B (h : Nat → Int) (c0 c1 f : Int) (k : Nat) : Int :=
  if k < 8 then h k else match k with
    | 8 => 7640891576956012808 | 9 => 13503953896175478587 | 10 => 4354685564936845355 | 11 => 11912009170470909681
    | 12 => binI .xor .u64 5840696475078001361 c0 | 13 => binI .xor .u64 11170449401992604703 c1 | 14 => binI .xor .u64 2270897969802886507 f | _ => 6620516959819538809
/-- The compression. -/
noncomputable def FB (h : Nat → Int) (c0 c1 f : Int) (b : Nat → Int) (k : Nat) : Int := finB h (WdB (v0B h c0 c1 f) (mwB b) 12) k

theorem mw_congrB {b b' : Nat → Int} (h : ∀ x, x < 128 → b x = b' x) (k : Nat) : mwB b k = mwB b' k := by
  by_cases hk : k < 16
  · exact E.den_rng (fun i h1 h2 => h _ (by omega)) _ (rngL_get esM_rngB (getD_some (by rw [esM_lenB]; exact hk)))
  · have : esMB.getD k (.n 0) = .n 0 := by
      rw [List.getD_eq_getElem?_getD, List.getElem?_eq_none (by rw [esM_lenB]; omega)]; rfl
    simp only [mwB, this, E.den]
theorem mw_highB {b : Nat → Int} {k : Nat} (hk : 16 ≤ k) : mwB b k = 0 := by
  have : esMB.getD k (.n 0) = .n 0 := by
    rw [List.getD_eq_getElem?_getD, List.getElem?_eq_none (by rw [esM_lenB]; omega)]; rfl
  simp only [mwB, this, E.den]
theorem Wd_congrB {w w' m m' : Nat → Int} (hw : ∀ k, k < 16 → w k = w' k) (hm : ∀ k, k < 256 → m k = m' k) : ∀ t k, t ≤ 12 → k < 16 → WdB w m t k = WdB w' m' t k
  | 0, k, _, hk => hw k hk
  | t + 1, k, ht, hk => by
    refine E.den_rng (fun i h1 h2 => ?_) _ (rngL_get (esD_rngB t (by omega)) (getD_some (by rw [esD_lenB t (by omega)]; exact hk)))
    by_cases hi : i < 512
    · simp only [if_pos hi]; exact hm _ (by omega)
    · simp only [if_neg hi]; exact Wd_congrB hw hm t (i - 512) (by omega) (by omega)
theorem fin_congrB {h h' w w' : Nat → Int} (hh : ∀ k, k < 8 → h k = h' k) (hw : ∀ k, k < 16 → w k = w' k) (k : Nat) (hk : k < 8) : finB h w k = finB h' w' k := by
  refine den_rng2 (fun i hi => ?_) _ (rng2L_get segEDB (getD_some (by rw [esH_lenB]; exact hk)))
  rcases hi with ⟨h1, h2⟩ | ⟨h1, h2⟩
  · rw [if_pos (by omega), if_pos (by omega)]; exact hh _ (by omega)
  · rw [if_neg (by omega), if_neg (by omega)]; exact hw _ (by omega)
theorem v0_congrB {h h' : Nat → Int} (hh : ∀ k, k < 8 → h k = h' k) (c0 c1 f : Int) (k : Nat) : v0B h c0 c1 f k = v0B h' c0 c1 f k := by
  unfold v0B
  split
  · rename_i hk; exact hh k hk
  · rfl
theorem F_congrB {h h' b b' : Nat → Int} (hh : ∀ k, k < 8 → h k = h' k) (hb : ∀ x, x < 128 → b x = b' x) (c0 c1 f : Int) (k : Nat) (hk : k < 8) : FB h c0 c1 f b k = FB h' c0 c1 f b' k :=
  fin_congrB hh (fun _ hk => Wd_congrB (fun k _ => v0_congrB hh c0 c1 f k) (fun k _ => mw_congrB hb k) _ _ (Nat.le_refl _) hk) k hk

/-- A round more. -/
theorem wd_nextB {w m : Nat → Int} {ρ : Env} {t : Nat} (ht : t < 12) (hm : ∀ k, k < 256 → ρ.i (256 + k) = m k) (hw : ∀ k, k < 16 → ρ.i (512 + k) = WdB w m t k) :
    ∀ k, k < 16 → (ρ.ext 512 (esDB t)).i (512 + k) = WdB w m (t + 1) k := by
  intro k hk
  rw [ρ.ext_new (m := 512) (getD_some (by rw [esD_lenB t ht]; exact hk))]
  refine E.den_rng (fun i h1 h2 => ?_) _ (rngL_get (esD_rngB t ht) (getD_some (by rw [esD_lenB t ht]; exact hk)))
  by_cases hi : i < 512
  · rw [if_pos hi]
    have := hm (i - 256) (by omega)
    rwa [show 256 + (i - 256) = i by omega] at this
  · rw [if_neg hi]
    have := hw (i - 512) (by omega)
    rwa [show 512 + (i - 512) = i by omega] at this
/-- The new h, of names. -/
theorem fin_outB {h w : Nat → Int} {ρ : Env} (hh : ∀ k, k < 8 → ρ.i (64 + k) = h k) (hw : ∀ k, k < 16 → ρ.i (512 + k) = w k) (k : Nat) (hk : k < 8) : (esHB.getD k (.n 0)).den ρ.i = finB h w k := by
  refine den_rng2 (fun i hi => ?_) _ (rng2L_get segEDB (getD_some (by rw [esH_lenB]; exact hk)))
  rcases hi with ⟨h1, h2⟩ | ⟨h1, h2⟩
  · rw [if_pos (by omega)]
    have := hh (i - 64) (by omega)
    rwa [show 64 + (i - 64) = i by omega] at this
  · rw [if_neg (by omega)]
    have := hw (i - 512) (by omega)
    rwa [show 512 + (i - 512) = i by omega] at this
/-- The block's words, of names. -/
theorem mw_outB {b : Nat → Int} {ρ : Env} (hb : ∀ x, x < 128 → ρ.i (128 + x) = b x) (k : Nat) (hk : k < 16) : (esMB.getD k (.n 0)).den ρ.i = mwB b k := by
  refine E.den_rng (fun i h1 h2 => ?_) _ (rngL_get esM_rngB (getD_some (by rw [esM_lenB]; exact hk)))
  have := hb (i - 128) (by omega)
  rwa [show 128 + (i - 128) = i by omega] at this
end Go.Proofs.YtjhndmlpcpbaoaaDoor

/- The reference's compression (b), called: what it gives is the compression in plain words, and nothing that was there turns. -/
namespace Go.Proofs.YtjhndmlpcpbaoaaDoor
open Go Go.Sx Go.Proofs Go.RowKit
theorem body23 : Tryd.f23.body = some (bodyOf Tryd.f23) := by kernel_rfl

def flagB (l : Bool) : Int := match l with | true => 18446744073709551615 | false => 0
theorem esV_eqB (l : Bool) : esVB l = esV0B (binI .xor .u64 2270897969802886507 (flagB l)) := by
  cases l
  · rw [elsB_eq (and3_iff segEAB).2.1]; rfl
  · rw [elsB_eq (and3_iff segEAB).2.2]; rfl
theorem esV_atB (l : Bool) {ρ : Env} {h : Nat → Int} {n : Int} (hh : ∀ k, k < 8 → ρ.i (64 + k) = h k) (h9 : ρ.i 9 = n) (hn : 0 ≤ n ∧ n < 4294967296) (k : Nat) (hk : k < 16) :
    ((esVB l).getD k (.n 0)).den ρ.i = v0B h n 0 (flagB l) k := by
  rw [esV_eqB]
  have w1 : IntKind.u64.wrap n = n := by
    unfold IntKind.wrap
    simp only [IntKind.signed, IntKind.bits]
    simp
    exact Int.emod_eq_of_lt (by omega) (by omega)
  have w2 : (IntKind.u64.wrap n).fdiv (2 ^ 64) = 0 := by
    have w3 : IntKind.u64.wrap n = n := by
      unfold IntKind.wrap
      simp only [IntKind.signed, IntKind.bits]
      simp
      exact Int.emod_eq_of_lt (by omega) (by omega)
    rw [w3, Int.fdiv_eq_ediv_of_nonneg _ (by omega)]
    exact Int.ediv_eq_zero_of_lt (by omega) (by omega)
  have w4 : IntKind.u64.wrap 0 = 0 := by rfl
  by_cases h8 : k < 8
  · have e : (esV0B (binI .xor .u64 2270897969802886507 (flagB l))).getD k (.n 0) = .v (64 + k) := by
      have : (esV0B (binI .xor .u64 2270897969802886507 (flagB l)))[k]? = some (.v (64 + k)) := by
        unfold esV0B
        rw [appX_eq, List.getElem?_append_left (by rw [vs_len]; exact h8)]
        exact vs_get h8
      rw [List.getD_eq_getElem?_getD, this]; rfl
    rw [e]
    unfold v0B
    rw [if_pos h8]
    exact hh k h8
  · unfold v0B
    rw [if_neg h8]
    match k, hk, h8 with
    | 8, _, _ => rfl
    | 9, _, _ => rfl
    | 10, _, _ => rfl
    | 11, _, _ => rfl
    | 12, _, _ =>
      show binI .xor .u64 5840696475078001361 (IntKind.u64.wrap (ρ.i 9)) = binI .xor .u64 5840696475078001361 n
      rw [h9, w1]
    | 13, _, _ =>
      show binI .xor .u64 11170449401992604703 ((IntKind.u64.wrap (ρ.i 9)).fdiv (2 ^ 64)) = binI .xor .u64 11170449401992604703 0
      rw [h9, w2]
    | 14, _, _ => rfl
    | 15, _, _ => rfl
    | k + 16, hk, _ => exact absurd hk (by omega)

set_option maxRecDepth 100000 in
theorem compB (w : World) (p o cap : Nat) (h b : Nat → Int) (n : Int) (l : Bool) (hcap : 128 ≤ cap) (hcell : ∀ k, k < 128 → w.cell? ⟨p, o + k, none⟩ = some (.int .u8 (b k))) (hlt : p < w.heap.size) (hn : 0 ≤ n ∧ n < 4294967296) :
    Calls Tryd.prog 23 #[.agg (words .u64 8 h).toArray, .slice (some ⟨p, o, none⟩) 128 cap, .int .i64 n, .bool l] w fun e w' => e = .returned (.agg (words .u64 8 (FB h n 0 (flagB l) b)).toArray) ∧ Below w.heap.size w w' := by
  obtain ⟨⟨j1, j2, _⟩, ⟨k1, k2, k3⟩, ⟨m1, m2, _⟩⟩ := (⟨and3_iff (and3_iff segJAB).1, and3_iff (and3_iff segJAB).2.1, and3_iff (and3_iff segJAB).2.2⟩ : (_ ∧ _ ∧ _) ∧ (_ ∧ _ ∧ _) ∧ (_ ∧ _ ∧ _))
  have A1 : (oJB l).stops = true ∧ nilB (oJB l).st.obs = true ∧ (oJB l).stk = .code (.loop cJB) :: lJB.2 := by
    cases l
    · obtain ⟨a1, a2, a3⟩ := and3_iff j1; exact ⟨a1, a2, by rw [← eqJB]; exact loopP_eq a3⟩
    · obtain ⟨a1, a2, a3⟩ := and3_iff j2; exact ⟨a1, a2, by rw [← eqJB]; exact loopP_eq' a3 segJLB⟩
  have A2 : someB ((oKB l).exits lJB.2) = true ∧ nilB (oKB l).st.obs = true ∧ nilB (oLB l).st.obs = true := by
    cases l
    · exact and3_iff k1
    · exact and3_iff k2
  have A3 : (oLB l).stops = true ∧ (oLB l).stk = .code (.loop cLB) :: lLB.2 := by
    obtain ⟨a1, a2, _⟩ := and3_iff k3
    cases l
    · obtain ⟨a3, a4, _⟩ := and3_iff a1; exact ⟨a3, by rw [← eqLB]; exact loopP_eq a4⟩
    · obtain ⟨a3, a4, _⟩ := and3_iff a2; exact ⟨a3, by rw [← eqLB]; exact loopP_eq' a4 segJMB⟩
  have A4 : cutB ccB (oLB l).st Tryd.f23.ntmps 35 (flTB 0) mlTB 256 (appX esMB (appX (zs 240) (esVB l))) = true := by
    cases l
    · exact m1
    · exact m2
  obtain ⟨E1, E2, E3⟩ := and3_iff segECB
  obtain ⟨e1, e2, e3⟩ := and3_iff E1
  obtain ⟨ρ, hρ⟩ : ∃ ρ : Env, ρ = { i := fun x => if x < 64 then n else if x < 128 then h (x - 64) else b (x - 128), b := fun _ => p, o := fun _ => o, c := fun _ => cap, r := fun _ => undef } := ⟨_, rfl⟩
  have i9 : ρ.i 9 = n := by rw [hρ]; rfl
  have ih : ∀ k, k < 8 → ρ.i (64 + k) = h k := fun k hk => by
    rw [hρ]
    show (if 64 + k < 64 then _ else if 64 + k < 128 then h (64 + k - 64) else _) = _
    rw [if_neg (by omega), if_pos (by omega), show 64 + k - 64 = k by omega]
  have ib : ∀ k, k < 128 → ρ.i (128 + k) = b k := fun k hk => by
    rw [hρ]
    show (if 128 + k < 64 then _ else if 128 + k < 128 then _ else b (128 + k - 128)) = _
    rw [if_neg (by omega), if_neg (by omega), show 128 + k - 128 = k by omega]
  have hb0 : ρ.b 0 = p := by rw [hρ]
  have ho0 : ρ.o 0 = o := by rw [hρ]
  have hc0 : ρ.c 0 = cap := by rw [hρ]
  clear hρ
  have hargs : [SV.agg (ws .u64 64 8), .f (.sl 0 0 (.n 128) (.v 0 0)), .f (.int .i64 (.v 9)), .f (.bool l)].map (SV.den ρ) = [.agg (words .u64 8 h).toArray, .slice (some ⟨p, o, none⟩) 128 cap, .int .i64 n, .bool l] := by
    simp only [List.map_cons, List.map_nil, SV.den, FV.den, E.den, Cp.den, hb0, ho0, hc0, i9, ws_den ρ .u64 8 64 h ih]
    rfl
  have key := calls_reach (P := Tryd.prog) (cfg := ccB) (w := w) (ρ := ρ) (f := 23) (fn := Tryd.f23) (b := bodyOf Tryd.f23) Tryd.func23 body23
    [SV.agg (ws .u64 64 8), .f (.sl 0 0 (.n 128) (.v 0 0)), .f (.int .i64 (.v 9)), .f (.bool l)] (nx := 1) (thr := 0) (ml := [(0, ⟨ws .u8 128 128, 0⟩)]) (orc := [])
    (by kernel_rfl) (by kernel_rfl) (fun v hv => by
      simp only [List.mem_cons, List.not_mem_nil, or_false] at hv
      rcases hv with rfl | rfl | rfl | rfl
      · exact ws_ok _ _ _ _ _
      · refine ⟨by omega, by show 0 < 1; omega, by simp only [E.den]; omega, ?_⟩
        simp only [E.den, Cp.den, hc0]; omega
      · trivial
      · trivial)
    (K := fun v w' => v = .agg (words .u64 8 (FB h n 0 (flagB l) b)).toArray ∧ Below w.heap.size w w') ?_ ?_
  · rw [hargs] at key
    refine key.mono fun e w' ⟨v, he, hv, hB⟩ => ?_
    exact ⟨by rw [he, hv], hB⟩
  · refine MemOK.init rfl rfl ?_ ?_ ?_ ?_ (fun g j hg => by cases hg) (fun j hj => by cases hj)
    · intro q hq
      rw [List.mem_singleton] at hq
      subst hq
      refine ⟨by show 0 < 1; omega, ws_ok _ _ _ _ _, ?_⟩
      show ∀ (i : Nat) x, (ws .u8 128 128)[i]? = some x → w.cell? ⟨ρ.b 0, ρ.o 0 + i, none⟩ = some (x.den ρ)
      rw [hb0, ho0]
      exact ws_cell hcell ib
    · intro q hq
      rw [List.mem_singleton] at hq
      subst hq
      show ρ.b 0 < _
      rw [hb0]; exact hlt
    · intro q hq hw
      rw [List.mem_singleton] at hq
      subst hq
      exact absurd rfl hw
    · intro q hq q' hq' hw
      rw [List.mem_singleton] at hq
      subst hq
      exact absurd rfl hw
  · show Go.Sx.Reach Tryd.prog ccB w _ _ (sJB l) ρ
    refine reach_go (cfgW_ok [] []) true 2000 (Obs.nil A1.2.1 _) fun ρ1 hle1 => OutR.stop A1.1 ?_
    show Go.Sx.Reach Tryd.prog ccB w _ (oJB l).stk (oJB l).st ρ1
    rw [A1.2.2]
    refine reach_split ?_
    refine reach_go (cfgW_ok [] []) false 5000 (Obs.nil A2.2.1 _) fun ρ2 hle2 => OutR.leftK (k' := kKB l) (some_getD A2.1) ?_
    refine reach_to (cfgW_ok [] []) true 5000 0 [] A3.1 A2.2.2 A4 fun ρ3 hle3 => ?_
    show Go.Sx.Reach Tryd.prog ccB w _ (oLB l).stk (sTB 0) _
    rw [A3.2]
    have hi3 : ρ3.i = ρ.i := by rw [hle3.i, hle2.i, hle1.i]
    obtain ⟨q1, q2, q3⟩ := padded (A := esMB) (V := esVB l) esM_lenB
    have hVl : (esVB l).length = 16 := by rw [esV_eqB]; rfl
    have hm : ∀ k, k < 256 → (ρ3.ext 256 (appX esMB (appX (zs 240) (esVB l)))).i (256 + k) = mwB b k := fun k hk => by
      by_cases h16 : k < 16
      · rw [ρ3.ext_new (m := 256) (q1 k h16)]
        exact mw_outB (fun x hx => by rw [hi3]; exact ib x hx) k h16
      · rw [ρ3.ext_new (m := 256) (q2 k (by omega) hk), mw_highB (by omega)]
        rfl
    have hw0 : ∀ k, k < 16 → (ρ3.ext 256 (appX esMB (appX (zs 240) (esVB l)))).i (512 + k) = v0B h n 0 (flagB l) k := fun k hk => by
      have := ρ3.ext_new (m := 256) (q3 k (by rw [hVl]; exact hk))
      rw [show 256 + (256 + k) = 512 + k by omega] at this
      rw [this]
      exact esV_atB l (fun k hk => by rw [hi3]; exact ih k hk) (by rw [hi3]; exact i9) hn k hk
    have hh : ∀ k, k < 8 → (ρ3.ext 256 (appX esMB (appX (zs 240) (esVB l)))).i (64 + k) = h k := fun k hk => by
      rw [Env.ext_old _ _ (by omega), hi3]; exact ih k hk
    generalize ρ3.ext 256 (appX esMB (appX (zs 240) (esVB l))) = ρL at hm hw0 hh
    refine reach_loopS (fun t : Nat => sTB t) (fun t ρ' => t ≤ 12 ∧ (∀ k, k < 16 → ρ'.i (512 + k) = WdB (v0B h n 0 (flagB l)) (mwB b) t k) ∧ Ag 35 512 ρL ρ') (fun t => 12 - t) 0 ρL
      ⟨by omega, hw0, .refl _ _ _⟩ (fun a w hF hM => ⟨hF, hM⟩) fun t ρ' ⟨ht, hw, hag⟩ => ?_
    rcases Nat.lt_or_ge t 12 with h1 | h1
    · obtain ⟨J1, J2, J3⟩ := and3_iff (roundJB t h1)
      refine reach_go (cfgW_ok [] []) false 5000 (Obs.nil J2 _) fun ρ5 hle5 => OutR.round J1 fun a w hF hM => ?_
      obtain ⟨c1, c2⟩ := cut_sound (thr := 0) (orc := []) J3 hF hM
      have hi5 : ρ5.i = ρ'.i := hle5.i
      refine ⟨t + 1, ⟨ρ5.ext 512 (esDB t), ⟨h1, ?_, ?_⟩, c1, c2⟩, by omega⟩
      · exact wd_nextB h1 (fun k hk => by rw [hi5, hag.i _ (by omega)]; exact hm k hk) (fun k hk => by rw [hi5]; exact hw k hk)
      · exact (hag.trans (Ag.ofLe hle5)).trans (Ag.ofExt 35 ρ5 (esDB t))
    · have ht : t = 12 := by omega
      subst ht
      refine reach_go (cfgW_ok [] []) false 5000 (Obs.nil e2 _) fun ρ5 hle5 => OutR.left (k' := kUB) (some_getD e1) ?_
      refine reach_ret (cfgW_ok [] []) false 5000 (v := .agg (ints .u64 esHB)) E2 (Obs.nil e3 _) (aggB_eq E3) fun ρ6 w6 hle6 hM6 _ => ?_
      have hi6 : ρ6.i = ρ'.i := by rw [hle6.i, hle5.i]
      refine ⟨?_, (hM6.kp (xs := []) (fun j hj => by cases hj)).below⟩
      simp only [SV.den]
      rw [ints_den ρ6 .u64 esHB 8 esH_lenB (FB h n 0 (flagB l) b) (fun k hk => by
        refine fin_outB (fun k hk => ?_) (fun k hk => ?_) k hk
        · rw [hi6, hag.i _ (by omega)]; exact hh k hk
        · rw [hi6]; exact hw k hk)]
end Go.Proofs.YtjhndmlpcpbaoaaDoor

/- The library's compression of blocks (b), called: h and c turn as the plain words say, and nothing else that was there does. -/
namespace Go.Proofs.YtjhndmlpcpbaoaaDoor
open Go Go.Sx Go.Proofs Go.RowKit
theorem body38 : Tryd.f38.body = some (bodyOf Tryd.f38) := by kernel_rfl

structure StaB where
  h : Nat → Int
  a : Int
  b : Int
/-- The counter, a block further. -/
def cntB (a : Int) : Int := binI .add .u64 a 128
def carryB (a b : Int) : Int := if cntB a < 128 then binI .add .u64 b 1 else b
noncomputable def stepB (f : Int) (d : Nat → Int) (s : StaB) : StaB := ⟨FB s.h (cntB s.a) (carryB s.a s.b) f d, cntB s.a, carryB s.a s.b⟩
/-- Behind t blocks. -/
noncomputable def staB (s : StaB) (f : Int) (D : Nat → Int) : Nat → StaB
  | 0 => s
  | t + 1 => stepB f (fun x => D (128 * t + x)) (staB s f D t)

theorem esB_eqB (c : Bool) : esBB c = esB0B (match c with | true => .bin .add .u64 (.v 73) (.n 1) | false => .v 73) := by
  cases c
  · rw [elsB_eq (and3_iff segEBB).1]
  · rw [elsB_eq (and3_iff segEBB).2.1]
theorem esB_atB (c : Bool) {ρ : Env} {s : StaB} {f : Int} (hh : ∀ k, k < 8 → ρ.i (64 + k) = s.h k) (ha : ρ.i 72 = s.a) (hb : ρ.i 73 = s.b) (hf : ρ.i 1 = f) (hc : c = decide (cntB s.a < 128)) :
    (∀ k, k < 16 → ((esBB c).getD k (.n 0)).den ρ.i = v0B s.h (cntB s.a) (carryB s.a s.b) f k) ∧ ((esBB c).getD 16 (.n 0)).den ρ.i = cntB s.a ∧ ((esBB c).getD 17 (.n 0)).den ρ.i = carryB s.a s.b := by
  have hhi : (match c with | true => E.bin .add .u64 (.v 73) (.n 1) | false => .v 73).den ρ.i = carryB s.a s.b := by
    subst hc
    unfold carryB
    by_cases h : cntB s.a < 128
    · rw [if_pos h, decide_eq_true h]
      show binI .add .u64 (ρ.i 73) 1 = _
      rw [hb]
    · rw [if_neg h, decide_eq_false h]
      exact hb
  have hcn : (E.bin .add .u64 (.v 72) (.n 128)).den ρ.i = cntB s.a := by
    show binI .add .u64 (ρ.i 72) 128 = _
    rw [ha]; rfl
  rw [esB_eqB]
  generalize (match c with | true => E.bin .add .u64 (.v 73) (.n 1) | false => .v 73) = e at hhi
  refine ⟨fun k hk => ?_, hcn, hhi⟩
  by_cases h8 : k < 8
  · have e1 : (esB0B e).getD k (.n 0) = .v (64 + k) := by
      have : (esB0B e)[k]? = some (.v (64 + k)) := by
        unfold esB0B
        rw [appX_eq, List.getElem?_append_left (by rw [vs_len]; exact h8)]
        exact vs_get h8
      rw [List.getD_eq_getElem?_getD, this]; rfl
    rw [e1]
    unfold v0B
    rw [if_pos h8]
    exact hh k h8
  · unfold v0B
    rw [if_neg h8]
    match k, hk, h8 with
    | 8, _, _ => rfl
    | 9, _, _ => rfl
    | 10, _, _ => rfl
    | 11, _, _ => rfl
    | 12, _, _ =>
      show binI .xor .u64 5840696475078001361 ((E.bin .add .u64 (.v 72) (.n 128)).den ρ.i) = binI .xor .u64 5840696475078001361 (cntB s.a)
      rw [hcn]
    | 13, _, _ =>
      show binI .xor .u64 11170449401992604703 (e.den ρ.i) = binI .xor .u64 11170449401992604703 (carryB s.a s.b)
      rw [hhi]
    | 14, _, _ =>
      show binI .xor .u64 2270897969802886507 (ρ.i 1) = binI .xor .u64 2270897969802886507 f
      rw [hf]
    | 15, _, _ => rfl
    | k + 16, hk, _ => exact absurd hk (by omega)

theorem esB_lenB (c : Bool) : (esBB c).length = 18 := by rw [esB_eqB]; rfl

theorem mem_mlAB {c j : Nat} {W : Win} (h : (ofL (mlAB c)).get j = some W) : (j = 0 ∧ W = ⟨ws .u64 64 8, 1⟩) ∨ (j = 1 ∧ W = ⟨ws .u64 c 2, 1⟩) ∨ (j = 3 ∧ W = ⟨preB, 0⟩) ∨ (j = 4 ∧ W = ⟨ivB, 0⟩) ∨ (j = 5 ∧ W = ⟨[], 0⟩) := by
  have := ofL_get (l := mlAB c) (by rfl) h
  simpa [mlAB] using this

set_option maxRecDepth 100000 in
set_option maxHeartbeats 1000000 in
theorem blkB (w : World) (ph oh pc oc pd od cap : Nat) (s : StaB) (f : Int) (D : Nat → Int) (nb : Nat) (G : Glob w) (hH : WordsAt w ph oh .u64 8 s.h) (hC : WordsAt w pc oc .u64 2 fun k => if k = 0 then s.a else s.b)
    (hD : ∀ k, k < 128 * nb → w.cell? ⟨pd, od + k, none⟩ = some (.int .u8 (D k))) (ld : pd < w.heap.size) (n1 : 5 ≤ ph) (n2 : 5 ≤ pc) (n3 : 5 ≤ pd) (n4 : ph ≠ pc) (n5 : pd ≠ ph) (n6 : pd ≠ pc)
    (hcap : 128 * nb ≤ cap) (hmax : 128 * nb ≤ 4611686018427387904) :
    Calls Tryd.prog 38 #[.pointer (some ⟨ph, oh, none⟩), .pointer (some ⟨pc, oc, none⟩), .int .u64 f, .slice (some ⟨pd, od, none⟩) (128 * nb) cap] w fun e w' => e = .returned (.tuple #[]) ∧ Kp w.heap.size [ph, pc] w w' ∧
      WordsAt w' ph oh .u64 8 (staB s f D nb).h ∧ WordsAt w' pc oc .u64 2 fun k => if k = 0 then (staB s f D nb).a else (staB s f D nb).b := by
  have lh : ph < w.heap.size := cell_lt (hH.cell 0 (by omega))
  have lc : pc < w.heap.size := cell_lt (hC.cell 0 (by omega))
  have lg := G.size
  obtain ⟨ρ, hρ⟩ : ∃ ρ : Env, ρ = { i := fun x => if x < 64 then (match x with | 0 => ((128 * nb : Nat) : Int) | 1 => f | 2 => s.a | _ => s.b) else s.h (x - 64),
                                    b := fun j => match j with | 0 => ph | 1 => pc | 2 => pd | 3 => 3 | 4 => 0 | _ => 1,
                                    o := fun j => match j with | 0 => oh | 1 => oc | 2 => od | _ => 0, c := fun _ => cap, r := fun _ => undef } := ⟨_, rfl⟩
  have r0 : ρ.i 0 = ((128 * nb : Nat) : Int) := by rw [hρ]; rfl
  have r1 : ρ.i 1 = f := by rw [hρ]; rfl
  have r2 : ρ.i 2 = s.a := by rw [hρ]; rfl
  have r3 : ρ.i 3 = s.b := by rw [hρ]; rfl
  have rh : ∀ k, k < 8 → ρ.i (64 + k) = s.h k := fun k hk => by
    rw [hρ]
    show (if 64 + k < 64 then _ else s.h (64 + k - 64)) = _
    rw [if_neg (by omega), show 64 + k - 64 = k by omega]
  have b0 : ρ.b 0 = ph := by subst hρ; rfl
  have b1 : ρ.b 1 = pc := by subst hρ; rfl
  have b2 : ρ.b 2 = pd := by subst hρ; rfl
  have b3 : ρ.b 3 = 3 := by subst hρ; rfl
  have b4 : ρ.b 4 = 0 := by subst hρ; rfl
  have b5 : ρ.b 5 = 1 := by subst hρ; rfl
  have o0 : ρ.o 0 = oh := by subst hρ; rfl
  have o1 : ρ.o 1 = oc := by subst hρ; rfl
  have o2 : ρ.o 2 = od := by subst hρ; rfl
  have o3 : ρ.o 3 = 0 := by subst hρ; rfl
  have o4 : ρ.o 4 = 0 := by subst hρ; rfl
  have o5 : ρ.o 5 = 0 := by subst hρ; rfl
  have c2 : ρ.c 2 = cap := by subst hρ; rfl
  clear hρ
  have hargs : [SV.f (.ptr 0 0), .f (.ptr 1 0), .f (.int .u64 (.v 1)), .f (.sl 2 0 (.v 0) (.v 2 0))].map (SV.den ρ) = [.pointer (some ⟨ph, oh, none⟩), .pointer (some ⟨pc, oc, none⟩), .int .u64 f, .slice (some ⟨pd, od, none⟩) (128 * nb) cap] := by
    simp only [List.map_cons, List.map_nil, SV.den, FV.den, E.den, Cp.den, b0, b1, b2, o0, o1, o2, c2, r0, r1, Int.toNat_natCast]
    rfl
  have key := calls_reach (P := Tryd.prog) (cfg := c0B) (w := w) (ρ := ρ) (f := 38) (fn := Tryd.f38) (b := bodyOf Tryd.f38) Tryd.func38 body38
    [SV.f (.ptr 0 0), .f (.ptr 1 0), .f (.int .u64 (.v 1)), .f (.sl 2 0 (.v 0) (.v 2 0))] (nx := 6) (thr := 0) (ml := mlAB 2) (orc := [])
    (by kernel_rfl) (by kernel_rfl) (fun v hv => by
      simp only [List.mem_cons, List.not_mem_nil, or_false] at hv
      rcases hv with rfl | rfl | rfl | rfl
      · show 0 < 6; omega
      · show 1 < 6; omega
      · trivial
      · refine ⟨by omega, by show 2 < 6; omega, ?_, ?_⟩
        · simp only [E.den, r0]; omega
        · simp only [E.den, Cp.den, r0, c2]; omega)
    (K := fun v w' => v = .tuple #[] ∧ Kp w.heap.size [ph, pc] w w' ∧ WordsAt w' ph oh .u64 8 (staB s f D nb).h ∧ WordsAt w' pc oc .u64 2 fun k => if k = 0 then (staB s f D nb).a else (staB s f D nb).b) ?_ ?_
  · rw [hargs] at key
    refine key.mono fun e w' ⟨v, he, hv, hB⟩ => ?_
    exact ⟨by rw [he, hv], hB⟩
  · refine MemOK.init rfl rfl ?_ ?_ ?_ ?_ ?_ ?_
    · intro q hq
      simp only [mlAB, List.mem_cons, List.not_mem_nil, or_false] at hq
      rcases hq with rfl | rfl | rfl | rfl | rfl
      · refine ⟨by show 0 < 6; omega, ws_ok _ _ _ _ _, ?_⟩
        show ∀ (i : Nat) x, (ws .u64 64 8)[i]? = some x → w.cell? ⟨ρ.b 0, ρ.o 0 + i, none⟩ = some (x.den ρ)
        rw [b0, o0]
        exact ws_cell hH.cell rh
      · refine ⟨by show 1 < 6; omega, ws_ok _ _ _ _ _, ?_⟩
        show ∀ (i : Nat) x, (ws .u64 2 2)[i]? = some x → w.cell? ⟨ρ.b 1, ρ.o 1 + i, none⟩ = some (x.den ρ)
        rw [b1, o1]
        refine ws_cell hC.cell fun j hj => ?_
        rcases (show j = 0 ∨ j = 1 by omega) with rfl | rfl
        · rw [if_pos rfl]; exact r2
        · rw [if_neg (by omega)]; exact r3
      · refine ⟨by show 3 < 6; omega, lits_ok _ _ _ _, ?_⟩
        show ∀ (i : Nat) x, (lits .u8 preLB)[i]? = some x → w.cell? ⟨ρ.b 3, ρ.o 3 + i, none⟩ = some (x.den ρ)
        rw [b3, o3]
        exact lits_cell G.preB
      · refine ⟨by show 4 < 6; omega, lits_ok _ _ _ _, ?_⟩
        show ∀ (i : Nat) x, (lits .u64 ivLB)[i]? = some x → w.cell? ⟨ρ.b 4, ρ.o 4 + i, none⟩ = some (x.den ρ)
        rw [b4, o4]
        exact lits_cell G.ivB
      · exact ⟨by show 5 < 6; omega, (fun _ h => by cases h), fun i x hx => by simp at hx⟩
    · intro q hq
      simp only [mlAB, List.mem_cons, List.not_mem_nil, or_false] at hq
      rcases hq with rfl | rfl | rfl | rfl | rfl
      · show ρ.b 0 < _; rw [b0]; exact lh
      · show ρ.b 1 < _; rw [b1]; exact lc
      · show ρ.b 3 < _; rw [b3]; omega
      · show ρ.b 4 < _; rw [b4]; omega
      · show ρ.b 5 < _; rw [b5]; omega
    · intro q hq hw
      simp only [mlAB, List.mem_cons, List.not_mem_nil, or_false] at hq
      rcases hq with rfl | rfl | rfl | rfl | rfl
      · refine ⟨by show 0 ∈ [0, 1]; simp, fun i hi => ?_⟩
        show w.frozen? ⟨ρ.b 0, ρ.o 0 + i, none⟩ = false
        rw [b0, o0]
        exact hH.free i (by rwa [ws_len] at hi)
      · refine ⟨by show 1 ∈ [0, 1]; simp, fun i hi => ?_⟩
        show w.frozen? ⟨ρ.b 1, ρ.o 1 + i, none⟩ = false
        rw [b1, o1]
        exact hC.free i (by rwa [ws_len] at hi)
      · exact absurd rfl hw
      · exact absurd rfl hw
      · exact absurd rfl hw
    · intro q hq q' hq' hw hne
      simp only [mlAB, List.mem_cons, List.not_mem_nil, or_false] at hq hq'
      rcases hq with rfl | rfl | rfl | rfl | rfl
      · rcases hq' with rfl | rfl | rfl | rfl | rfl
        · exact absurd rfl hne
        · show ρ.b 0 ≠ ρ.b 1; rw [b0, b1]; exact n4
        · show ρ.b 0 ≠ ρ.b 3; rw [b0, b3]; omega
        · show ρ.b 0 ≠ ρ.b 4; rw [b0, b4]; omega
        · show ρ.b 0 ≠ ρ.b 5; rw [b0, b5]; omega
      · rcases hq' with rfl | rfl | rfl | rfl | rfl
        · show ρ.b 1 ≠ ρ.b 0; rw [b0, b1]; exact Ne.symm n4
        · exact absurd rfl hne
        · show ρ.b 1 ≠ ρ.b 3; rw [b1, b3]; omega
        · show ρ.b 1 ≠ ρ.b 4; rw [b1, b4]; omega
        · show ρ.b 1 ≠ ρ.b 5; rw [b1, b5]; omega
      · exact absurd rfl hw
      · exact absurd rfl hw
      · exact absurd rfl hw
    · intro g j hg
      have hg : (g, j) ∈ [(3, 3), (0, 4), (1, 5)] := hg
      simp only [List.mem_cons, Prod.mk.injEq, List.not_mem_nil, or_false] at hg
      rcases hg with ⟨rfl, rfl⟩ | ⟨rfl, rfl⟩ | ⟨rfl, rfl⟩
      · exact ⟨by omega, by rw [b3], o3⟩
      · exact ⟨by omega, by rw [b4], o4⟩
      · exact ⟨by omega, by rw [b5], o5⟩
    · intro j hj
      have hj : j ∈ [0, 1] := hj
      simp only [List.mem_cons, List.not_mem_nil, or_false] at hj
      omega
  · show Go.Sx.Reach Tryd.prog c0B w _ _ sAB ρ
    obtain ⟨HA1, HA2, HA3⟩ := and3_iff segHAB
    obtain ⟨a1, a2, a3⟩ := and3_iff HA1
    obtain ⟨g1, g2, g3⟩ := and3_iff HA3
    obtain ⟨g4, g5, g6⟩ := and3_iff g3
    obtain ⟨HB1, HB2, HB3⟩ := and3_iff segHBB
    obtain ⟨HC1, HC2, HC3⟩ := and3_iff segHCB
    obtain ⟨HE1, HE2, HE3⟩ := and3_iff segHEB
    obtain ⟨xa, xb, _⟩ := and3_iff segXAB
    refine reach_to (cfgW_ok _ _) true 1000 0 [] a1 a2 HA2 fun ρ1 hle1 => ?_
    have hstA : oAB.stk = .code (.loop cAB) :: lAB.2 := by rw [← eqAB]; exact loopP_eq a3
    show Go.Sx.Reach Tryd.prog c0B w _ oAB.stk (sBB []) _
    rw [hstA]
    have hag1 : Ag 6 64 ρ (ρ1.ext 72 (appX [.v 2, .v 3, .n 0] (zs 16))) := (Ag.ofLe hle1).trans ((Ag.ofExt 6 ρ1 _).mono (Nat.le_refl _) (by omega))
    have hh1 : ∀ k, k < 8 → (ρ1.ext 72 (appX [.v 2, .v 3, .n 0] (zs 16))).i (64 + k) = s.h k := fun k hk => by
      rw [Env.ext_old _ _ (by omega), hle1.i]; exact rh k hk
    have h72 : (ρ1.ext 72 (appX [.v 2, .v 3, .n 0] (zs 16))).i 72 = s.a := by
      have := ρ1.ext_new (m := 72) (es := appX [.v 2, .v 3, .n 0] (zs 16)) (k := 0) (e := .v 2) rfl
      rw [this]
      show ρ1.i 2 = _
      rw [hle1.i]; exact r2
    have h73 : (ρ1.ext 72 (appX [.v 2, .v 3, .n 0] (zs 16))).i 73 = s.b := by
      have := ρ1.ext_new (m := 72) (es := appX [.v 2, .v 3, .n 0] (zs 16)) (k := 1) (e := .v 3) rfl
      rw [this]
      show ρ1.i 3 = _
      rw [hle1.i]; exact r3
    have h74 : (ρ1.ext 72 (appX [.v 2, .v 3, .n 0] (zs 16))).i 74 = ((128 * 0 : Nat) : Int) := by
      have := ρ1.ext_new (m := 72) (es := appX [.v 2, .v 3, .n 0] (zs 16)) (k := 2) (e := .n 0) rfl
      rw [this]; rfl
    generalize ρ1.ext 72 (appX [.v 2, .v 3, .n 0] (zs 16)) = ρL at hag1 hh1 h72 h73 h74
    refine reach_loop (sBB []) (fun (g : Nat) ρ' => ∃ t : Nat, t + g = nb ∧ Ag 6 64 ρ ρ' ∧ (∀ k, k < 8 → ρ'.i (64 + k) = (staB s f D t).h k) ∧ ρ'.i 72 = (staB s f D t).a ∧ ρ'.i 73 = (staB s f D t).b ∧ ρ'.i 74 = ((128 * t : Nat) : Int)) id nb ρL
      ⟨0, by omega, hag1, hh1, h72, h73, h74⟩ (fun a w hF hM => ⟨hF, hM⟩) fun g ρ' ⟨t, ht, hag, hh, ha, hb, hi⟩ => ?_
    have q0 : ρ'.i 0 = ((128 * nb : Nat) : Int) := by rw [hag.i 0 (by omega)]; exact r0
    rcases Nat.eq_zero_or_pos g with hg | hg
    · -- behind the last block
      subst hg
      have ht : t = nb := by omega
      subst ht
      refine reach_orc [false] ?_
      have hobF : ∀ (ρ'' : Env), ρ''.i = ρ'.i → ∀ l, obsB l [.c .lss (.v 74) (.v 0) false] = true → Obs ρ'' l := by
        intro ρ'' he l hl
        rw [obsB_eq hl]
        intro ob hob
        rw [List.mem_singleton] at hob
        subst hob
        show decide (ρ''.i 74 < ρ''.i 0) = false
        rw [he, hi, q0]
        exact decide_eq_false (by omega)
      refine reach_go (cfgW_ok _ _) false 5000 (hobF ρ' rfl _ g4) fun ρ5 hle5 => OutR.left (k' := kGB) (some_getD g1) ?_
      refine reach_ret (cfgW_ok _ _) true 5000 (v := .tup []) ?_ (hobF ρ5 hle5.i _ g2) (tupNil_eq xb) fun ρ6 w6 hle6 hM6 _ => ?_
      · show oHB.rets = true
        have g5 : oHB.dones = true := g5
        cases hx : oHB with
        | done _ => rfl
        | _ => rw [hx] at g5; cases g5
      · have hM7 := cutM_sound (N := 0) (thr := 0) (fl := []) (orc := []) g6 hM6
        have hag6 : Ag 6 64 ρ ρ6 := (hag.trans (Ag.ofLe (Env.le.mono hle5 (show 6 ≤ 7 by omega)))).trans (Ag.ofLe (Env.le.mono hle6 (by
          have := ((go_soundG (P := Tryd.prog) (w0 := w) (cfgW_ok [(3, 3), (0, 4), (1, 5)] [0, 1]) 5000 false).ext [.code cAB] (sBB [false])).nx
          exact Nat.le_trans (show 6 ≤ 7 by omega) this)))
        have hi6 : ρ6.i = ρ'.i := by rw [hle6.i, hle5.i]
        have e0 : (ρ6.ext 512 []).b 0 = ph := by show ρ6.b 0 = ph; rw [hag6.b 0 (by omega), b0]
        have e1 : (ρ6.ext 512 []).b 1 = pc := by show ρ6.b 1 = pc; rw [hag6.b 1 (by omega), b1]
        have e2 : (ρ6.ext 512 []).o 0 = oh := by show ρ6.o 0 = oh; rw [hag6.o 0 (by omega), o0]
        have e3 : (ρ6.ext 512 []).o 1 = oc := by show ρ6.o 1 = oc; rw [hag6.o 1 (by omega), o1]
        refine ⟨rfl, hM7.kp fun j hj => ?_, ?_, ?_⟩
        · have hj : j ∈ [0, 1] := hj
          simp only [List.mem_cons, List.not_mem_nil, or_false] at hj
          rcases hj with rfl | rfl
          · rw [e0]; simp
          · rw [e1]; simp
        · have := wordsAt_of hM7 (j := 0) (wr := 1) (n := 8) (k := 64) (t := .u64) (by kernel_rfl) (by omega) (g := (staB s f D t).h) fun i hi8 => by
            rw [Env.ext_old _ _ (by omega), hi6]; exact hh i hi8
          rwa [e0, e2] at this
        · have := wordsAt_of hM7 (j := 1) (wr := 1) (n := 2) (k := 72) (t := .u64) (by kernel_rfl) (by omega) (g := fun k => if k = 0 then (staB s f D t).a else (staB s f D t).b) fun i hi2 => by
            rw [Env.ext_old _ _ (by omega), hi6]
            rcases (show i = 0 ∨ i = 1 by omega) with rfl | rfl
            · rw [if_pos rfl]; exact ha
            · rw [if_neg (by omega)]; exact hb
          rwa [e1, e3] at this
    · -- a block
      have htn : t < nb := by omega
      have hbn : 128 * t + 128 ≤ 128 * nb := by
        have := Nat.mul_le_mul_left 128 (show t + 1 ≤ nb by omega)
        rwa [Nat.mul_add, Nat.mul_one] at this
      obtain ⟨cy, hcy⟩ : ∃ cy : Bool, cy = decide (cntB (staB s f D t).a < 128) := ⟨_, rfl⟩
      refine reach_orc [true, cy] ?_
      have B1 : (oBB cy).stops = true ∧ (oBB cy).stk = .code (.loop cBB) :: lBB.2 := by
        obtain ⟨x1, x2, x3⟩ := and3_iff HB1
        cases cy
        · exact ⟨x1, by rw [← eqBB]; exact loopP_eq x3⟩
        · exact ⟨x2, by rw [← eqBB]; exact loopP_eq' xa segXBB⟩
      have B2 : obsB (oBB cy).st.obs [.c .lss (.bin .add .u64 (.v 72) (.n 128)) (.n 128) cy, .c .lss (.v 74) (.v 0) true] = true := by
        obtain ⟨x1, x2, _⟩ := and3_iff HB2
        cases cy
        · exact x1
        · exact x2
      have B3 : cutB c0B (oBB cy).st Tryd.f38.ntmps 7 flCB mlBB 91 (esBB cy) = true := by
        obtain ⟨x1, x2, _⟩ := and3_iff HB3
        cases cy
        · exact x1
        · exact x2
      have hob : Obs ρ' (oBB cy).st.obs := by
        rw [obsB_eq B2]
        intro ob hob
        simp only [List.mem_cons, List.not_mem_nil, or_false] at hob
        rcases hob with rfl | rfl
        · show decide (binI .add .u64 (ρ'.i 72) 128 < 128) = cy
          rw [ha, hcy]; rfl
        · show decide (ρ'.i 74 < ρ'.i 0) = true
          rw [hi, q0]
          exact decide_eq_true (by omega)
      refine reach_go (cfgW_ok _ _) true 1000 hob fun ρ2 hle2 => OutR.stop B1.1 ?_
      show Go.Sx.Reach Tryd.prog c0B w _ (oBB cy).stk (oBB cy).st ρ2
      rw [B1.2]
      refine reach_cut 0 [] B3 ?_
      show Go.Sx.Reach Tryd.prog c0B w _ _ sC0B _
      have hi2 : ρ2.i = ρ'.i := hle2.i
      obtain ⟨v1, v2, v3⟩ := esB_atB cy (ρ := ρ2) (s := staB s f D t) (f := f) (fun k hk => by rw [hi2]; exact hh k hk) (by rw [hi2]; exact ha) (by rw [hi2]; exact hb) (by rw [hi2, hag.i 1 (by omega)]; exact r1) hcy
      have hV : ∀ k, k < 18 → (ρ2.ext 91 (esBB cy)).i (91 + k) = ((esBB cy).getD k (.n 0)).den ρ2.i := fun k hk => ρ2.ext_new (getD_some (by rw [esB_lenB]; exact hk))
      have hag2 : Ag 6 91 ρ' (ρ2.ext 91 (esBB cy)) := (Ag.ofLe (Env.le.mono hle2 (show 6 ≤ 7 by omega))).trans (Ag.ofExt 6 ρ2 _)
      have hw91 : ∀ k, k < 16 → (ρ2.ext 91 (esBB cy)).i (91 + k) = v0B (staB s f D t).h (cntB (staB s f D t).a) (carryB (staB s f D t).a (staB s f D t).b) f k := fun k hk => (hV k (by omega)).trans (v1 k hk)
      have h107 : (ρ2.ext 91 (esBB cy)).i 107 = cntB (staB s f D t).a := (hV 16 (by omega)).trans v2
      have h108 : (ρ2.ext 91 (esBB cy)).i 108 = carryB (staB s f D t).a (staB s f D t).b := (hV 17 (by omega)).trans v3
      generalize ρ2.ext 91 (esBB cy) = ρ3 at hag2 hw91 h107 h108
      -- the block's bytes
      refine Reach.numbers (m := 128) (fun x => D (128 * t + (x - 128))) (by kernel_rfl) (by kernel_rfl) (by kernel_rfl) (by kernel_rfl) rfl ?_
      have hag4 : Ag 6 91 ρ' (ρ3.extF 128 fun x => D (128 * t + (x - 128))) := hag2.trans ((Env.extF_ag ρ3 6 128 _).mono (Nat.le_refl _) (by omega))
      have hw91' : ∀ k, k < 18 → (ρ3.extF 128 fun x => D (128 * t + (x - 128))).i (91 + k) = ρ3.i (91 + k) := fun k hk => (Env.extF_ag ρ3 6 128 _).i _ (by omega)
      have hby : ∀ k, k < 128 → (ρ3.extF 128 fun x => D (128 * t + (x - 128))).i (128 + k) = D (128 * t + k) := fun k hk => by
        show (if 128 + k < 128 then _ else D (128 * t + (128 + k - 128))) = _
        rw [if_neg (by omega), show 128 + k - 128 = k by omega]
      generalize (ρ3.extF 128 fun x => D (128 * t + (x - 128))) = ρ4 at hag4 hw91' hby
      have B0 : ∀ j, j < 6 → ρ4.b j = ρ.b j := fun j hj => (hag4.b j hj).trans (hag.b j hj)
      refine Reach.window pd (od + 128 * t) (cap - 128 * t) (ws .u8 128 128) (by omega) (fun w1 hM1 => ?_) ?_
      · have hkp := hM1.kp (xs := [ph, pc]) fun j hj => by
          have hj : j ∈ [0, 1] := hj
          simp only [List.mem_cons, List.not_mem_nil, or_false] at hj
          rcases hj with rfl | rfl
          · rw [B0 0 (by omega), b0]; simp
          · rw [B0 1 (by omega), b1]; simp
        refine ⟨ws_ok _ _ _ _ _, ?_, Nat.lt_of_lt_of_le ld hkp.size, fun j W hj => ?_⟩
        · refine ws_cell (g := fun k => D (128 * t + k)) (fun j hj => ?_) hby
          rw [hkp.cell ld (by simp; omega), Nat.add_assoc]
          exact hD _ (by omega)
        · have hj := ofL_get (l := mlBB) (by kernel_rfl) hj
          simp only [mlBB, mlAB, List.mem_cons, Prod.mk.injEq, List.not_mem_nil, or_false] at hj
          rcases hj with ⟨rfl, rfl⟩ | ⟨rfl, _⟩ | ⟨rfl, _⟩ | ⟨rfl, _⟩ | ⟨rfl, _⟩ | ⟨rfl, _⟩
          · rcases hM1.kind 6 ⟨ws .u64 75 16, 2⟩ (show (ofL mlBB).get 6 = some ⟨ws .u64 75 16, 2⟩ by kernel_rfl) (by show 2 ≠ 0; omega) with h | h
            · have h : 6 ∈ [0, 1] := h
              simp at h
            · omega
          · rw [B0 0 (by omega), b0]; exact Ne.symm n5
          · rw [B0 1 (by omega), b1]; exact Ne.symm n6
          · rw [B0 3 (by omega), b3]; omega
          · rw [B0 4 (by omega), b4]; omega
          · rw [B0 5 (by omega), b5]; omega
      have hle4 := Env.more_le ρ4 7 pd (od + 128 * t) (cap - 128 * t) undef
      have m7b : (ρ4.more 7 pd (od + 128 * t) (cap - 128 * t) undef).b 7 = pd := by simp [Env.more]
      have m7o : (ρ4.more 7 pd (od + 128 * t) (cap - 128 * t) undef).o 7 = od + 128 * t := by simp [Env.more]
      have m7c : (ρ4.more 7 pd (od + 128 * t) (cap - 128 * t) undef).c 7 = cap - 128 * t := by simp [Env.more]
      have hag5 : Ag 6 91 ρ' (ρ4.more 7 pd (od + 128 * t) (cap - 128 * t) undef) := hag4.trans ((Ag.ofLe hle4).mono (by omega) (Nat.le_refl _))
      have hw5 : ∀ k, k < 18 → (ρ4.more 7 pd (od + 128 * t) (cap - 128 * t) undef).i (91 + k) = ρ3.i (91 + k) := hw91'
      have hby5 : ∀ k, k < 128 → (ρ4.more 7 pd (od + 128 * t) (cap - 128 * t) undef).i (128 + k) = D (128 * t + k) := hby
      generalize ρ4.more 7 pd (od + 128 * t) (cap - 128 * t) undef = ρ5 at m7b m7o m7c hag5 hw5 hby5
      have i74 : ρ5.i 74 = ((128 * t : Nat) : Int) := by rw [hag5.i 74 (by omega)]; exact hi
      have i0 : ρ5.i 0 = ((128 * nb : Nat) : Int) := by rw [hag5.i 0 (by omega)]; exact q0
      have B5 : ∀ j, j < 6 → ρ5.b j = ρ.b j := fun j hj => (hag5.b j hj).trans (hag.b j hj)
      have O5 : ∀ j, j < 6 → ρ5.o j = ρ.o j := fun j hj => (hag5.o j hj).trans (hag.o j hj)
      have C5 : ∀ j, j < 6 → ρ5.c j = ρ.c j := fun j hj => (hag5.c j hj).trans (hag.c j hj)
      refine Reach.withIx [⟨2, 0, .v 0, 74, 7, 128⟩] (fun p hp => ?_) ?_
      · rw [List.mem_singleton] at hp
        subst hp
        refine ⟨by show 2 < 8; omega, by show 7 < 8; omega, ?_, ?_, ?_, ?_, ?_⟩
        · show ρ5.b 7 = ρ5.b 2
          rw [m7b, B5 2 (by omega), b2]
        · show (ρ5.o 7 : Int) = ρ5.o 2 + (0 : Nat) + ρ5.i 74
          rw [m7o, O5 2 (by omega), o2, i74]; omega
        · show 0 ≤ ρ5.i 74
          rw [i74]; omega
        · show ρ5.i 74 + ((128 : Nat) : Int) ≤ ρ5.i 0
          rw [i74, i0]; omega
        · show (ρ5.c 7 : Int) + (0 : Nat) + ρ5.i 74 = ρ5.c 2
          rw [m7c, C5 2 (by omega), c2, i74]; omega
      show Go.Sx.Reach Tryd.prog cXB w _ _ sCB ρ5
      have hcX : CfgOk Tryd.prog cXB := ⟨tabs_ok, fns_ok, (cfgW_ok [(3, 3), (0, 4), (1, 5)] [0, 1]).m⟩
      obtain ⟨C1, C2, C3⟩ := and3_iff HC1
      obtain ⟨C4, C6, C7⟩ := and3_iff HC2
      refine reach_split ?_
      refine reach_go hcX false 3000 (rngObs_den (by rw [i74]; omega) (by rw [i74]; omega) C2) fun ρ6 hle6 => OutR.leftK (k' := kCB) (some_getD C1) ?_
      refine reach_go hcX true 2000 (rngObs_den (by rw [hle6.i, i74]; omega) (by rw [hle6.i, i74]; omega) C3) fun ρ7 hle7 => OutR.stop C4 ?_
      have hstD : oDB.stk = .code (.loop cDB) :: lDB.2 := by rw [← eqDB]; exact loopP_eq C6
      refine Reach.noIx ?_
      show Go.Sx.Reach Tryd.prog c0B w _ oDB.stk oDB.st ρ7
      rw [hstD]
      refine reach_cut 0 [] C7 ?_
      show Go.Sx.Reach Tryd.prog c0B w _ _ (sRB 0) _
      have hi7 : ρ7.i = ρ5.i := by rw [hle7.i, hle6.i]
      have nC : 8 ≤ oCB.st.nx := ((go_soundG (P := Tryd.prog) (w0 := w) hcX 3000 false).ext [.code (.loop cBB)] sCB).nx
      obtain ⟨z1, z2, z3⟩ := padded (A := esMB) (V := vs 91 16) esM_lenB
      have hm : ∀ k, k < 256 → (ρ7.ext 256 (appX esMB (appX (zs 240) (vs 91 16)))).i (256 + k) = mwB (fun x => D (128 * t + x)) k := fun k hk => by
        by_cases h16 : k < 16
        · rw [ρ7.ext_new (m := 256) (z1 k h16)]
          exact mw_outB (fun x hx => by rw [hi7]; exact hby5 x hx) k h16
        · rw [ρ7.ext_new (m := 256) (z2 k (by omega) hk), mw_highB (by omega)]
          rfl
      have hw0 : ∀ k, k < 16 → (ρ7.ext 256 (appX esMB (appX (zs 240) (vs 91 16)))).i (512 + k) = v0B (staB s f D t).h (cntB (staB s f D t).a) (carryB (staB s f D t).a (staB s f D t).b) f k := fun k hk => by
        have := ρ7.ext_new (m := 256) (z3 k (by rw [vs_len]; exact hk))
        rw [show 256 + (256 + k) = 512 + k by omega, List.getD_eq_getElem?_getD, vs_get hk] at this
        rw [this]
        show ρ7.i (91 + k) = _
        rw [hi7, hw5 k (by omega)]
        exact hw91 k hk
      have hag7 : Ag 6 91 ρ' (ρ7.ext 256 (appX esMB (appX (zs 240) (vs 91 16)))) :=
        ((hag5.trans (Ag.ofLe (Env.le.mono hle6 (show 6 ≤ 8 by omega)))).trans (Ag.ofLe (Env.le.mono hle7 (show 6 ≤ oCB.st.nx by omega)))).trans ((Ag.ofExt 6 ρ7 _).mono (Nat.le_refl _) (by omega))
      have k107 : (ρ7.ext 256 (appX esMB (appX (zs 240) (vs 91 16)))).i 107 = cntB (staB s f D t).a := by
        rw [Env.ext_old _ _ (by omega), hi7]; exact (hw5 16 (by omega)).trans h107
      have k108 : (ρ7.ext 256 (appX esMB (appX (zs 240) (vs 91 16)))).i 108 = carryB (staB s f D t).a (staB s f D t).b := by
        rw [Env.ext_old _ _ (by omega), hi7]; exact (hw5 17 (by omega)).trans h108
      generalize ρ7.ext 256 (appX esMB (appX (zs 240) (vs 91 16))) = ρ8 at hm hw0 hag7 k107 k108
      refine reach_loopS (fun t : Nat => sRB t) (fun r ρ' => r ≤ 12 ∧ (∀ k, k < 16 → ρ'.i (512 + k) = WdB (v0B (staB s f D t).h (cntB (staB s f D t).a) (carryB (staB s f D t).a (staB s f D t).b) f) (mwB fun x => D (128 * t + x)) r k) ∧ Ag 6 512 ρ8 ρ') (fun r => 12 - r) 0 ρ8
        ⟨by omega, hw0, .refl _ _ _⟩ (fun a w hF hM => ⟨hF, hM⟩) fun r ρ9 ⟨hr, hw9, hag9⟩ => ?_
      rcases Nat.lt_or_ge r 12 with h1 | h1
      · obtain ⟨J1, J2, J3⟩ := and3_iff (roundB r h1)
        refine reach_go (cfgW_ok _ _) false 5000 (Obs.nil J2 _) fun ρA hleA => OutR.round J1 fun a w hF hM => ?_
        obtain ⟨d1, d2⟩ := cut_sound (thr := 0) (orc := []) J3 hF hM
        refine ⟨r + 1, ⟨ρA.ext 512 (esDB r), ⟨h1, ?_, ?_⟩, d1, d2⟩, by omega⟩
        · exact wd_nextB h1 (fun k hk => by rw [hleA.i, hag9.i _ (by omega)]; exact hm k hk) (fun k hk => by rw [hleA.i]; exact hw9 k hk)
        · exact (hag9.trans (Ag.ofLe (Env.le.mono hleA (show 6 ≤ 7 by omega)))).trans (Ag.ofExt 6 ρA (esDB r))
      · have hr : r = 12 := by omega
        subst hr
        obtain ⟨E1, E2, E3⟩ := and3_iff HE1
        obtain ⟨E4, E5, _⟩ := and3_iff HE2
        refine reach_go (cfgW_ok _ _) false 5000 (Obs.nil E2 _) fun ρA hleA => OutR.left (k' := kEB) (some_getD E1) ?_
        refine reach_go (cfgW_ok _ _) false 5000 (Obs.nil E3 _) fun ρB hleB => OutR.round E4 fun a w hF hM => ?_
        obtain ⟨d1, d2⟩ := cut_sound (thr := 0) (orc := []) E5 hF hM
        have hiB : ρB.i = ρ9.i := by rw [hleB.i, hleA.i]
        have nE : 7 ≤ oEB.st.nx := ((go_soundG (P := Tryd.prog) (w0 := w) (cfgW_ok [(3, 3), (0, 4), (1, 5)] [0, 1]) 5000 false).ext [.code cDB] (sRB 12)).nx
        have n64 : ∀ k, k < 27 → (appX esHB (appX [.v 107, .v 108, .add (.v 74) (.n 128)] (vs 256 16)))[k]? = if k < 8 then some (esHB.getD k (.n 0)) else (appX [E.v 107, .v 108, .add (.v 74) (.n 128)] (vs 256 16))[k - 8]? := fun k hk => by
          rw [appX_eq]
          by_cases h8 : k < 8
          · rw [if_pos h8, List.getElem?_append_left (by rw [esH_lenB]; exact h8)]
            exact getD_some (by rw [esH_lenB]; exact h8)
          · rw [if_neg h8, List.getElem?_append_right (by rw [esH_lenB]; omega), esH_lenB]
        have hh8 : ∀ k, k < 8 → ρ9.i (64 + k) = (staB s f D t).h k := fun k hk => by
          rw [hag9.i _ (by omega), hag7.i _ (by omega)]; exact hh k hk
        refine ⟨g - 1, ⟨ρB.ext 64 (appX esHB (appX [.v 107, .v 108, .add (.v 74) (.n 128)] (vs 256 16))), ⟨t + 1, by omega, ?_, ?_, ?_, ?_, ?_⟩, d1, d2⟩, by show g - 1 < g; omega⟩
        · have hagB : Ag 6 64 ρ9 ρB := (Ag.ofLe (Env.le.mono hleA (show 6 ≤ 7 by omega))).trans (Ag.ofLe (Env.le.mono hleB (show 6 ≤ oEB.st.nx by omega)))
          exact (((hag.trans (hag7.mono (Nat.le_refl _) (by omega))).trans (hag9.mono (Nat.le_refl _) (by omega))).trans hagB).trans (Ag.ofExt 6 ρB _)
        · intro k hk
          have := n64 k (by omega)
          rw [if_pos hk] at this
          rw [ρB.ext_new (m := 64) this, fin_outB (ρ := ρB) (h := (staB s f D t).h) (w := WdB (v0B (staB s f D t).h (cntB (staB s f D t).a) (carryB (staB s f D t).a (staB s f D t).b) f) (mwB fun x => D (128 * t + x)) 12) (fun k hk => by rw [hiB]; exact hh8 k hk) (fun k hk => by rw [hiB]; exact hw9 k hk) k hk]
          rfl
        · have := n64 8 (by omega)
          rw [if_neg (by omega)] at this
          rw [ρB.ext_new (m := 64) (k := 8) (e := .v 107) this]
          show ρB.i 107 = _
          rw [hiB, hag9.i _ (by omega)]; exact k107
        · have := n64 9 (by omega)
          rw [if_neg (by omega)] at this
          rw [ρB.ext_new (m := 64) (k := 9) (e := .v 108) this]
          show ρB.i 108 = _
          rw [hiB, hag9.i _ (by omega)]; exact k108
        · have := n64 10 (by omega)
          rw [if_neg (by omega)] at this
          rw [ρB.ext_new (m := 64) (k := 10) (e := .add (.v 74) (.n 128)) this]
          show ρB.i 74 + 128 = _
          rw [hiB, hag9.i _ (by omega), hag7.i _ (by omega), hi, Nat.mul_add]; omega
end Go.Proofs.YtjhndmlpcpbaoaaDoor

/- The library's compression of blocks (b) behind its thin wrapper; an object's words by plain numbers. -/
namespace Go.Proofs.YtjhndmlpcpbaoaaDoor
open Go.RowKit
set_option maxHeartbeats 1000000 in
theorem hbkB (w : World) (ph oh pc oc pd od cap : Nat) (s : StaB) (f : Int) (D : Nat → Int) (nb : Nat) (G : Glob w) (hH : WordsAt w ph oh .u64 8 s.h) (hC : WordsAt w pc oc .u64 2 fun k => if k = 0 then s.a else s.b)
    (hD : ∀ k, k < 128 * nb → w.cell? ⟨pd, od + k, none⟩ = some (.int .u8 (D k))) (ld : pd < w.heap.size) (n1 : 5 ≤ ph) (n2 : 5 ≤ pc) (n3 : 5 ≤ pd) (n4 : ph ≠ pc) (n5 : pd ≠ ph) (n6 : pd ≠ pc)
    (hcap : 128 * nb ≤ cap) (hmax : 128 * nb ≤ 4611686018427387904) :
    Calls Tryd.prog 31 #[.pointer (some ⟨ph, oh, none⟩), .pointer (some ⟨pc, oc, none⟩), .int .u64 f, .slice (some ⟨pd, od, none⟩) (128 * nb) cap] w fun e w' => e = .returned (.tuple #[]) ∧ Sx.Kp w.heap.size [ph, pc] w w' ∧
      WordsAt w' ph oh .u64 8 (staB s f D nb).h ∧ WordsAt w' pc oc .u64 2 fun k => if k = 0 then (staB s f D nb).a else (staB s f D nb).b := by
  have hn := blkB w ph oh pc oc pd od cap s f D nb G hH hC hD ld n1 n2 n3 n4 n5 n6 hcap hmax
  clear G hH hC hD ld n1 n2 n3 n4 n5 n6 hcap hmax
  generalize 128 * nb = L at hn
  generalize staB s f D nb = t at hn
  go_enter Tryd.func31, Tryd.ntmps31
  go_wp2_with (go_at_call 38; refine hn.mono ?_; rintro _ w1 ⟨rfl, hK, hA, hB⟩)
  go_end0
  exact ⟨rfl, hK, hA, hB⟩
end Go.Proofs.YtjhndmlpcpbaoaaDoor

/- The hash (b) in plain words, and that the library's way to it ends there. -/
namespace Go.Proofs.YtjhndmlpcpbaoaaDoor
open Go Go.Sx Go.Proofs
/-- How many blocks. -/
def nbkB (L : Nat) : Nat := if L = 0 then 1 else (L + (128 - 1)) / 128
theorem nbk_posB (L : Nat) : 1 ≤ nbkB L := by
  unfold nbkB; split <;> omega
theorem nbk_leB (L : Nat) : L ≤ 128 * nbkB L := by
  unfold nbkB; split <;> omega
theorem nbk_geB (L : Nat) : 128 * (nbkB L - 1) ≤ L := by
  unfold nbkB; split <;> omega
theorem nbk_gtB {L : Nat} (h : 2 ≤ nbkB L) : 128 * (nbkB L - 1) < L := by
  unfold nbkB at *
  split at h
  · omega
  · rename_i h0; rw [if_neg h0]; omega
/-- The words behind t blocks. -/
noncomputable def hsB (h0 : Nat → Int) (L : Nat) (D : Nat → Int) : Nat → Nat → Int
  | 0 => h0
  | t + 1 => FB (hsB h0 L D t) (if t + 1 = nbkB L then (L : Int) else ((128 * (t + 1) : Nat) : Int)) 0 (flagB (decide (t + 1 = nbkB L))) fun x => pad L D (128 * t + x)

theorem wrap_inB {n : Int} (h0 : 0 ≤ n) (h1 : n < 4294967296) : IntKind.u64.wrap n = n := by
  unfold IntKind.wrap
  simp only [IntKind.signed, IntKind.bits]
  simp
  exact Int.emod_eq_of_lt (by omega) (by omega)

theorem fullB (h0 : Nat → Int) (L : Nat) (D : Nat → Int) (hL : L ≤ 2147483647) : ∀ t, t + 1 ≤ nbkB L →
    (∀ k, k < 8 → (staB ⟨h0, 0, 0⟩ 0 D t).h k = hsB h0 L D t k) ∧ (staB ⟨h0, 0, 0⟩ 0 D t).a = ((128 * t : Nat) : Int) ∧ (staB ⟨h0, 0, 0⟩ 0 D t).b = 0
  | 0, _ => ⟨fun _ _ => rfl, rfl, rfl⟩
  | t + 1, ht => by
    obtain ⟨h1, h2, h3⟩ := fullB h0 L D hL t (by omega)
    have g1 := nbk_geB L
    have g2 : 128 * (t + 1) ≤ L := Nat.le_trans (Nat.mul_le_mul_left 128 (by omega)) g1
    have hc : cntB (staB ⟨h0, 0, 0⟩ 0 D t).a = ((128 * (t + 1) : Nat) : Int) := by
      unfold cntB
      show IntKind.u64.wrap ((staB ⟨h0, 0, 0⟩ 0 D t).a + 128) = _
      rw [h2, wrap_inB (by omega) (by omega)]
      omega
    have hb : carryB (staB ⟨h0, 0, 0⟩ 0 D t).a (staB ⟨h0, 0, 0⟩ 0 D t).b = 0 := by
      unfold carryB
      rw [hc, if_neg (by omega)]
      exact h3
    refine ⟨fun k hk => ?_, hc, hb⟩
    show FB (staB ⟨h0, 0, 0⟩ 0 D t).h (cntB (staB ⟨h0, 0, 0⟩ 0 D t).a) (carryB (staB ⟨h0, 0, 0⟩ 0 D t).a (staB ⟨h0, 0, 0⟩ 0 D t).b) 0 (fun x => D (128 * t + x)) k = FB (hsB h0 L D t) (if t + 1 = nbkB L then (L : Int) else ((128 * (t + 1) : Nat) : Int)) 0 (flagB (decide (t + 1 = nbkB L))) (fun x => pad L D (128 * t + x)) k
    rw [hc, hb, if_neg (by omega), show decide (t + 1 = nbkB L) = false from decide_eq_false (by omega)]
    exact F_congrB h1 (fun x hx => by unfold pad; rw [if_pos (by omega)]) _ _ _ k hk

/-- The last block. -/
theorem lastB (h0 : Nat → Int) (L : Nat) (D : Nat → Int) (hL : L ≤ 2147483647) (h d : Nat → Int) (hh : ∀ k, k < 8 → h k = hsB h0 L D (nbkB L - 1) k) (hd : ∀ x, x < 128 → d x = pad L D (128 * (nbkB L - 1) + x))
    (a b a' b' rem : Int) (ha : a = ((128 * (nbkB L - 1) : Nat) : Int)) (hb : b = 0) (hr : rem = 128 - ((L : Int) - ((128 * (nbkB L - 1) : Nat) : Int))) (ha' : a' = binI .sub .u64 a rem) (hb' : b' = if a < rem then binI .sub .u64 b 1 else b) :
    ∀ k, k < 8 → (stepB (flagB true) d ⟨h, a', b'⟩).h k = hsB h0 L D (nbkB L) k := by
  intro k hk
  have g0 := nbk_posB L
  have g1 := nbk_geB L
  have g2 := nbk_leB L
  have g3 : 128 * nbkB L = 128 * (nbkB L - 1) + 128 := by
    conv => lhs; rw [show nbkB L = (nbkB L - 1) + 1 by omega]
    rw [Nat.mul_add]
  have hc : cntB a' = (L : Int) := by
    unfold cntB
    rw [ha']
    show IntKind.u64.wrap (IntKind.u64.wrap (a - rem) + 128) = _
    rw [wrap_add_left, show a - rem + 128 = (L : Int) by omega]
    exact wrap_inB (by omega) (by omega)
  have hcb : carryB a' b' = 0 := by
    unfold carryB
    rw [hc, hb']
    rcases Nat.lt_or_ge 1 (nbkB L) with g4 | g4
    · have g5 := nbk_gtB (L := L) (by omega)
      have g6 : 128 ≤ 128 * (nbkB L - 1) := by
        have := Nat.mul_le_mul_left 128 (show 1 ≤ nbkB L - 1 by omega)
        omega
      rw [if_neg (by omega), if_neg (by omega)]
      exact hb
    · have g5 : nbkB L = 1 := by omega
      rw [g5] at ha hr
      by_cases h1 : (L : Int) < 128
      · rw [if_pos h1, if_pos (by omega), hb]
        rfl
      · rw [if_neg h1, if_neg (by omega)]
        exact hb
  have e : nbkB L = (nbkB L - 1) + 1 := by omega
  rw [show hsB h0 L D (nbkB L) k = hsB h0 L D ((nbkB L - 1) + 1) k by rw [← e]]
  show FB h (cntB a') (carryB a' b') (flagB true) d k = FB (hsB h0 L D (nbkB L - 1)) (if nbkB L - 1 + 1 = nbkB L then (L : Int) else _) 0 (flagB (decide (nbkB L - 1 + 1 = nbkB L))) (fun x => pad L D (128 * (nbkB L - 1) + x)) k
  rw [hc, hcb, if_pos e.symm, show decide (nbkB L - 1 + 1 = nbkB L) = true from decide_eq_true e.symm]
  exact F_congrB hh hd _ _ _ k hk
end Go.Proofs.YtjhndmlpcpbaoaaDoor
