/- The pieces joined: laws.FnHSalsa over slices of 16, 32 and 16 bytes. -/
import Derived.Test.YtgoogcbibcgcmaaSegC
import Derived.Test.YtgoogcbibcgcmaaSame
namespace Go.Proofs.Ytgoogcbibcgcmaa
open Go Go.Sx Go.Proofs

theorem ent_some {f : Nat} {k : List It} {s : St} (h : entB f k s = true) : enter cE k s = some (ent k s) ∧ (ent k s).f = f := by
  unfold entB at h
  unfold ent
  split at h
  · rename_i e he
    rw [he]
    exact ⟨rfl, beq_eq h⟩
  · cases h
theorem ent_fn {f : Nat} {k : List It} {s : St} {fn : Func} (h : entB f k s = true) (hf : findF f fnsE = some fn) : (ent k s).fn = fn ∧ (ent k s).b = bodyOf fn := by
  obtain ⟨h1, h2⟩ := ent_some h
  obtain ⟨h3, h4⟩ := enter_fn h1
  rw [h2] at h3
  have h5 : some (ent k s).fn = some fn := h3.symm.trans hf
  have h5 := Option.some.inj h5
  refine ⟨h5, ?_⟩
  unfold bodyOf
  rw [← h5, h4]
  rfl
theorem some_getD {α : Type} {x : Option α} {d : α} (h : someB x = true) : x = some (x.getD d) := by
  cases x with
  | none => cases h
  | some y => rfl
theorem loop_eq {k : List It} (h : loopB k = true) : k = .code (.loop ((loopOf k).getD (.skip, [])).1) :: ((loopOf k).getD (.skip, [])).2 := by
  unfold loopB at h
  split at h
  · rename_i p hp
    obtain ⟨c, k'⟩ := p
    rw [hp]
    exact loopOf_eq hp
  · cases h
theorem u8s_get : ∀ (n k j : Nat), j < n → (u8s k n)[j]? = some (.int .u8 (.v (k + j)))
  | 0, _, _, h => by omega
  | n + 1, k, 0, _ => rfl
  | n + 1, k, j + 1, h => by
    show (u8s (k + 1) n)[j]? = _
    rw [u8s_get n (k + 1) j (by omega)]
    rw [show k + 1 + j = k + (j + 1) by omega]
theorem u8s_len : ∀ (n k : Nat), (u8s k n).length = n
  | 0, _ => rfl
  | n + 1, k => by simp [u8s, u8s_len n]

/-- The words behind t rounds. -/
noncomputable def Wd (b : Nat → Int) : Nat → Nat → Int
  | 0, k => (esX.getD k (.n 0)).den b
  | t + 1, k => (esD.getD k (.n 0)).den fun x => Wd b t (x - 96)

theorem esX_len : esX.length = 16 := lenB_eq (and3_iff (and3_iff (and3_iff (and3_iff segB).1).2.2).2.2).1
theorem esX_rng : rngL 0 64 esX = true := (and3_iff (and3_iff (and3_iff (and3_iff segB).1).2.2).2.2).2.1
theorem esD_len : esD.length = 16 := lenB_eq (and3_iff (and3_iff (and3_iff segB).2.1).2.1).1
theorem esD_rng : rngL 96 112 esD = true := (and3_iff (and3_iff (and3_iff segB).2.1).2.1).2.1
theorem outB_len : outB.length = 32 := lenB_eq (and3_iff (and3_iff (and3_iff segB).2.2).2.2).2.1
theorem outB_rng : rngL 96 112 outB = true := (and3_iff (and3_iff (and3_iff segB).2.2).2.2).2.2

theorem getD_some {l : List E} {k : Nat} (h : k < l.length) : l[k]? = some (l.getD k (.n 0)) := by
  rw [List.getD_eq_getElem?_getD]
  cases hx : l[k]? with
  | none => rw [List.getElem?_eq_none_iff] at hx; omega
  | some e => rfl

theorem Wd_congr {b b' : Nat → Int} (h : ∀ x, x < 64 → b x = b' x) : ∀ t k, k < 16 → Wd b t k = Wd b' t k
  | 0, k, hk => by
    show (esX.getD k (.n 0)).den b = (esX.getD k (.n 0)).den b'
    exact E.den_rng (fun i _ hi => h i hi) _ (rngL_get esX_rng (getD_some (by rw [esX_len]; exact hk)))
  | t + 1, k, hk => by
    show (esD.getD k (.n 0)).den (fun x => Wd b t (x - 96)) = (esD.getD k (.n 0)).den (fun x => Wd b' t (x - 96))
    exact E.den_rng (fun i h1 h2 => Wd_congr h t (i - 96) (by omega)) _ (rngL_get esD_rng (getD_some (by rw [esD_len]; exact hk)))

/-- The words at the start. -/
theorem wd_start (ρ : Env) (k : Nat) (hk : k < 16) (l : List E) : (ρ.ext 96 (appX esX l)).i (96 + k) = Wd ρ.i 0 k := by
  refine ρ.ext_new ?_
  rw [appX_eq, List.getElem?_append_left (by rw [esX_len]; exact hk)]
  exact getD_some (by rw [esX_len]; exact hk)
/-- .. behind a round more. -/
theorem wd_step (b : Nat → Int) (ρ : Env) (t : Nat) (h : ∀ k, k < 16 → ρ.i (96 + k) = Wd b t k) (c : Int) :
    (∀ k, k < 16 → (ρ.ext 96 (appX esD [.add (.v 112) (.n c)])).i (96 + k) = Wd b (t + 1) k) ∧ (ρ.ext 96 (appX esD [.add (.v 112) (.n c)])).i 112 = ρ.i 112 + c := by
  constructor
  · intro k hk
    have h1 := ρ.ext_new (m := 96) (es := appX esD [.add (.v 112) (.n c)]) (k := k) (e := esD.getD k (.n 0)) (by
      rw [appX_eq, List.getElem?_append_left (by rw [esD_len]; exact hk)]
      exact getD_some (by rw [esD_len]; exact hk))
    rw [h1]
    exact E.den_rng (fun i h1 h2 => by
      have := h (i - 96) (by omega)
      rw [show 96 + (i - 96) = i by omega] at this
      exact this) _ (rngL_get esD_rng (getD_some (by rw [esD_len]; exact hk)))
  · have h1 := ρ.ext_new (m := 96) (es := appX esD [.add (.v 112) (.n c)]) (k := 16) (e := .add (.v 112) (.n c)) (by
      rw [appX_eq, List.getElem?_append_right (by rw [esD_len]; omega), esD_len]
      rfl)
    exact h1

theorem fr_nil {ρ ρ' : Env} {n N : Nat} {F : Tr SV} {a : Act} (h : FrOK ρ n N F a) : FrOK ρ' n N (ofL []) a :=
  ⟨h.size, h.defers, fun d x hx => by
    have hx : (Tr.e : Tr SV).get d = some x := hx
    rw [Tr.get_e] at hx; cases hx⟩

section
variable {w0 : World} {K : Value → World → Prop} (hK : ∀ ρ' s w', MemOK c0 w0 ρ' s w' → K (.bool true) w')
include hK

set_option maxRecDepth 100000 in
/-- The two answers' bytes are alike. -/
theorem part5 (ρ : Env) (heq : ∀ k, k < 32 → ρ.i (113 + k) = ρ.i (64 + k)) : Go.Sx.Reach Try.prog c0 w0 (callQ Try.prog Try.f3 K) o19.stk s21 ρ := by
  have C1 := (and3_iff (and3_iff (and3_iff segC).2.2).2.1).2.2
  obtain ⟨c1, c2, _⟩ := and3_iff C1
  obtain ⟨_, c3, c4⟩ := and3_iff (and3_iff (and3_iff segC).2.2).2.2
  obtain ⟨c5, c6, c7⟩ := and3_iff c4
  obtain ⟨f1, f2⟩ := ent_some c1
  refine reach_calls (cfg := c0) (cfgE_ok [] []) rfl rfl f1 fun a w hF hM => ?_
  have hvs : e21.vs = [FV.sl 9 0 (.n 32) (.v 9 0), FV.sl 87 0 (.n 32) (.v 87 0)].map SV.f := svsEq_eq c2
  show Calls Try.prog e21.f (e21.vs.map (SV.den ρ)).toArray w _
  have hf : e21.f = 5 := f2
  rw [hvs, hf]
  have g9 : s21.M.get 9 = some ⟨u8s 64 32, 2⟩ := by kernel_rfl
  have g87 : s21.M.get 87 = some ⟨u8s 113 32, 2⟩ := by kernel_rfl
  have hxs : ∀ (j : Nat) x, ((List.range 32).map fun k => ρ.i (64 + k))[j]? = some x → j < 32 ∧ x = ρ.i (64 + j) := by
    intro j x hx
    have hj : j < 32 := by
      have := (List.getElem?_eq_some_iff.1 hx).1
      simpa using this
    refine ⟨hj, ?_⟩
    simp [hj] at hx
    exact hx.symm
  have h1 := same_calls w ⟨ρ.b 9, ρ.o 9 + 0, none⟩ ⟨ρ.b 87, ρ.o 87 + 0, none⟩ (ρ.c 9 - 0) (ρ.c 87 - 0) ((List.range 32).map fun k => ρ.i (64 + k))
    (fun j x hx => by
      obtain ⟨hj, rfl⟩ := hxs j x hx
      have := (hM.cell 9 _ g9).2.2 j _ (u8s_get 32 64 j hj)
      rw [Addr.add_lit, Nat.add_zero]
      exact this)
    (fun j x hx => by
      obtain ⟨hj, rfl⟩ := hxs j x hx
      have := (hM.cell 87 _ g87).2.2 j _ (u8s_get 32 113 j hj)
      rw [Addr.add_lit, Nat.add_zero, ← heq j hj]
      exact this)
  rw [List.length_map, List.length_range] at h1
  refine Calls.mono h1 fun en w' ⟨he, hw⟩ => ⟨_, he, ?_⟩
  subst hw
  refine reach_back (s1 := s21) (s2 := s22) (fl := fl21) (n := 88) (m := 0) (N := Try.f3.ntmps) (v := .f (.bool true)) (d := e21.dst) [] 0 hF (.refl _ _ _) (by kernel_rfl) (by kernel_rfl) (by kernel_rfl) hM trivial (some_getD c3) ?_
  refine reach_ret (cfgW_ok [] []) false 3000 c5 (Obs.nil c6 _) (v := .f (.bool true)) ?_ fun ρ' w'' _ hM' _ => hK _ _ _ hM'
  show resS c0 o22.st Try.f3 = _
  unfold trueB at c7
  split at c7
  · assumption
  · cases c7

/-- spec.HSalsa, from the call of it. -/
theorem part4 (ρ : Env) (hout : ∀ k, k < 32 → ρ.i (64 + k) = (outB.getD k (.n 0)).den fun x => Wd ρ.i 10 (x - 96)) : Go.Sx.Reach Try.prog c0 w0 (callQ Try.prog Try.f3 K) o9.stk s11 ρ := by
  have B2 := (and3_iff segB).2.2
  have b9 : entB 6 o9.stk s11 = true := (and3_iff (and3_iff B2).2.1).2.2
  obtain ⟨C1, C2, C3⟩ := and3_iff segC
  obtain ⟨a1, a2, a3⟩ := and3_iff C1
  obtain ⟨a4, a5, _⟩ := and3_iff a3
  obtain ⟨D1, D2, D3⟩ := and3_iff C2
  obtain ⟨d1, d2, d3⟩ := and3_iff D1
  obtain ⟨d4, d5, _⟩ := and3_iff d3
  obtain ⟨r1, r2, r3⟩ := and3_iff D2
  obtain ⟨x1, x2, _⟩ := and3_iff D3
  obtain ⟨x3, x4, x5⟩ := and3_iff x1
  obtain ⟨x6, x7, x8⟩ := and3_iff x2
  obtain ⟨y1, y2, y3⟩ := and3_iff (and3_iff C3).1
  obtain ⟨y4, y5, _⟩ := and3_iff y3
  obtain ⟨z1, z2, z3⟩ := and3_iff (and3_iff C3).2.1
  obtain ⟨z4, _, _⟩ := and3_iff (and3_iff C3).2.2
  -- into spec.HSalsa
  obtain ⟨f1, f2⟩ := ent_some b9
  obtain ⟨f3, f4⟩ := ent_fn (fn := Try.f6) b9 rfl
  refine reach_enter (cfg := c0) (cfgE_ok [] []) rfl rfl f1 0 fun a11 hF11 => ?_
  show Go.Sx.Reach Try.prog c0 w0 (callQ Try.prog (ent o9.stk s11).fn _) [.code (ent o9.stk s11).b] s12 ρ
  rw [f3, f4]
  refine reach_to (cfgW_ok [] []) false 5000 0 [] a1 a2 a4 fun ρ12 hle12 => ?_
  -- into rounds
  show Go.Sx.Reach Try.prog c0 w0 _ o12.stk s13 _
  obtain ⟨g1, g2⟩ := ent_some a5
  obtain ⟨g3, g4⟩ := ent_fn (fn := Try.f9) a5 rfl
  refine reach_enter (cfg := c0) (cfgE_ok [] []) rfl rfl g1 0 fun a13 hF13 => ?_
  show Go.Sx.Reach Try.prog c0 w0 (callQ Try.prog (ent o12.stk s13).fn _) [.code (ent o12.stk s13).b] s14 _
  rw [g3, g4]
  refine reach_to (cfgW_ok [] []) true 1000 0 [] d1 d2 d4 fun ρ14 hle14 => ?_
  -- the loop
  have hst : o14.stk = .code (.loop lp14.1) :: lp14.2 := loop_eq d5
  show Go.Sx.Reach Try.prog c0 w0 _ o14.stk (s15 []) _
  rw [hst]
  have hi13 : ∀ x, x < 64 → (ρ12.ext 96 esX).i x = ρ.i x := fun x hx => by rw [Env.ext_old _ _ (by omega), hle12.i]
  have hi15 : ∀ x, x < 112 → (ρ14.ext 112 [.n 0]).i x = (ρ12.ext 96 esX).i x := fun x hx => by rw [Env.ext_old _ _ hx, hle14.i]
  have hwd0 : ∀ k, k < 16 → (ρ14.ext 112 [.n 0]).i (96 + k) = Wd ρ.i 0 k := fun k hk => by
    rw [hi15 _ (by omega)]
    have := wd_start ρ12 k hk []
    rw [appX_eq, List.append_nil] at this
    rw [this]
    exact Wd_congr (fun x hx => by rw [hle12.i]) 0 k hk
  have h112 : (ρ14.ext 112 [.n 0]).i 112 = 0 := ρ14.ext_new (m := 112) (k := 0) (e := .n 0) rfl
  generalize hρL : ρ14.ext 112 [.n 0] = ρL at hi15 hwd0 h112
  refine reach_loop (s15 []) (fun (g : Nat) ρ' => ∃ t : Nat, t + g = 10 ∧ (∀ k, k < 16 → ρ'.i (96 + k) = Wd ρ.i t k) ∧ ρ'.i 112 = (t : Int) ∧ Ag 12 96 ρL ρ') id 10 ρL
    ⟨0, rfl, hwd0, h112, .refl _ _ _⟩ (fun a w hF hM => ⟨hF, hM⟩) fun g ρ' ⟨t, ht, hw, hc, hag⟩ => ?_
  rcases Nat.eq_zero_or_pos g with hg | hg
  · -- behind the last round
    subst hg
    have ht : t = 10 := by omega
    subst ht
    refine reach_orc [false] ?_
    have hobF : Obs ρ' o16.st.obs := by
      rw [obsB_eq x4]
      intro ob hob
      have : ob = .c .lss (.v 112) (.n 10) false := by simpa [obF] using hob
      subst this
      show cmpI .lss (ρ'.i 112) 10 = false
      rw [hc]; rfl
    refine reach_go (cfgW_ok [] []) false 5000 hobF fun ρ16 hle16 => ?_
    refine OutR.left (k' := k16) (some_getD x3) ?_
    have hobF2 : Obs ρ16 o17.st.obs := by
      rw [obsB_eq x5]
      intro ob hob
      have : ob = .c .lss (.v 112) (.n 10) false := by simpa [obF] using hob
      subst this
      show cmpI .lss (ρ16.i 112) 10 = false
      rw [hle16.i, hc]; rfl
    refine reach_ret (cfgW_ok [] []) true 5000 (v := v17) x6 hobF2 (some_getD x7) fun ρ17 w17 hle17 hM17 hv17 => ?_
    -- back in spec.HSalsa
    have hi17 : ρ17.i = ρ'.i := by rw [hle17.i, hle16.i]
    have n16 : 12 ≤ o16.st.nx := ((go_soundG (w0 := w0) (cfgW_ok [] []) 5000 false).ext [.code lp14.1] (s15 [false])).nx
    have n17 : 12 ≤ o17.st.nx := Nat.le_trans n16 ((go_soundG (w0 := w0) (cfgW_ok [] []) 5000 true).ext k16 o16.st).nx
    have n18' : s18.nx = o17.st.nx := (Ext.put (some_getD x8)).2.2.2.2.1
    have n18 : 12 ≤ o18.st.nx := Nat.le_trans (by omega) ((go_soundG (w0 := w0) (cfgW_ok [] []) 5000 false).ext e13.k s18).nx
    have ag17 : Ag 10 0 ρ ρ17 := by
      have q1 : Ag 10 0 ρ ρ12 := Ag.ofLe hle12
      have q2 : Ag 10 0 ρ12 (ρ12.ext 96 esX) := (Ag.ofExt 10 ρ12 esX).mono (Nat.le_refl _) (Nat.zero_le _)
      have q3 : Ag 10 0 (ρ12.ext 96 esX) ρ14 := Ag.ofLe hle14
      have q4 : Ag 10 0 ρ14 ρL := by rw [← hρL]; exact (Ag.ofExt 10 ρ14 [.n 0]).mono (Nat.le_refl _) (Nat.zero_le _)
      have q5 : Ag 10 0 ρL ρ' := hag.mono (by omega) (by omega)
      have q6 : Ag 10 0 ρ' ρ16 := Ag.ofLe (Env.le.mono hle16 (show 10 ≤ 12 by omega))
      have q7 : Ag 10 0 ρ16 ρ17 := Ag.ofLe (Env.le.mono hle17 (show 10 ≤ o16.st.nx by omega))
      exact ((((((q1.trans q2).trans q3).trans q4).trans q5).trans q6).trans q7)
    refine reach_back (s1 := o17.st) (s2 := s18) (fl := []) (n := 10) (m := 0) (N := Try.f6.ntmps) (v := v17) (d := e13.dst) [] 0 (fr_nil hF13) (.refl _ _ _) (by kernel_rfl) (by kernel_rfl) (Nat.ble_eq_true_of_le (by omega)) hM17 hv17 (some_getD x8) ?_
    refine reach_ret (cfgW_ok [] []) false 5000 (v := v18) y1 (Obs.nil y2 _) (some_getD y4) fun ρ18 w18 hle18 hM18 hv18 => ?_
    -- back in the law
    refine reach_back (s1 := o18.st) (s2 := s19) (fl := fl11) (n := 10) (m := 0) (N := Try.f3.ntmps) (v := v18) (d := e11.dst) [] 0 hF11 ?_ (by kernel_rfl) (by kernel_rfl) (Nat.ble_eq_true_of_le (by omega)) hM18 hv18 (some_getD y5) ?_
    · exact ag17.trans (Ag.ofLe (Env.le.mono hle18 (by omega)))
    refine reach_go (cfgW_ok [] []) false 3000 (Obs.nil z2 _) fun ρ19 hle19 => OutR.stop z1 ?_
    refine reach_mat (rowOf (o19.st.F.get 45)) fun ρ20 hle20 => ?_
    refine reach_cut 0 [] z4 ?_
    refine part5 hK _ fun k hk => ?_
    have hi20 : ρ20.i = ρ'.i := by rw [hle20.i, hle19.i, hle18.i, hi17]
    rw [Env.ext_old ρ20 outB (show 64 + k < 113 by omega), ρ20.ext_new (m := 113) (getD_some (by rw [outB_len]; exact hk)), hi20, hag.i _ (by omega), hi15 _ (by omega), Env.ext_old ρ12 esX (show 64 + k < 96 by omega), hle12.i, hout k hk]
    exact E.den_rng (fun i h1 h2 => by
      have := hw (i - 96) (by omega)
      rw [show 96 + (i - 96) = i by omega] at this
      exact this) _ (rngL_get outB_rng (getD_some (by rw [outB_len]; exact hk)))
  · -- a round
    refine reach_orc [true] ?_
    have hobT : Obs ρ' o15.st.obs := by
      rw [obsB_eq r2]
      intro ob hob
      simp only [obT, List.mem_cons, List.not_mem_nil, or_false] at hob
      rcases hob with rfl | rfl
      · show -9223372036854775808 ≤ ρ'.i 112 + 1 ∧ ρ'.i 112 + 1 ≤ 9223372036854775807
        rw [hc]; omega
      · show cmpI .lss (ρ'.i 112) 10 = true
        rw [hc]
        simp only [cmpI, decide_eq_true_eq]; omega
    refine reach_go (cfgW_ok [] []) false 5000 hobT fun ρ15 hle15 => ?_
    refine OutR.round r1 fun a w hF hM => ?_
    obtain ⟨n1, n2⟩ := wd_step ρ.i ρ15 t (by rw [hle15.i]; exact hw) 1
    refine ⟨g - 1, ⟨ρ15.ext 96 (appX esD [.add (.v 112) (.n 1)]), ⟨t + 1, by omega, n1, by rw [n2, hle15.i, hc]; rfl, ?_⟩, cut_sound (thr := 0) (orc := []) r3 hF hM⟩, by simp only [id]; omega⟩
    exact (hag.trans (Ag.ofLe hle15)).trans (Ag.ofExt _ _ _)

/-- The law, over arguments of the asked lengths. -/
theorem law16 (ρ : Env) : Go.Sx.Reach Try.prog c0 w0 (callQ Try.prog Try.f3 K) [.code (bodyOf Try.f3)] s0 ρ := by
  obtain ⟨A1, A2, A3⟩ := and3_iff seg1
  obtain ⟨A4, A5, _⟩ := and3_iff A3
  obtain ⟨E1, E2, E3⟩ := and3_iff seg2
  obtain ⟨E4, E5, _⟩ := and3_iff E3
  obtain ⟨B1, B2, B3⟩ := and3_iff segB
  obtain ⟨d1, d2, d3⟩ := and3_iff B1
  obtain ⟨d4, d5, _⟩ := and3_iff d3
  obtain ⟨D2, _, D3⟩ := and3_iff B2
  obtain ⟨r1, r2, r3⟩ := and3_iff D2
  obtain ⟨x1, x2, _⟩ := and3_iff D3
  obtain ⟨x3, x4, x5⟩ := and3_iff x1
  obtain ⟨x6, x7, x8⟩ := and3_iff x2
  obtain ⟨Y1, Y2, Y3⟩ := and3_iff B3
  obtain ⟨y1, y2, y3⟩ := and3_iff Y1
  obtain ⟨y4, y5, _⟩ := and3_iff y3
  have z1 : o9.stops = true ∧ nilB o9.st.obs = true := ⟨(and3_iff Y2).1, (and3_iff Y2).2.1⟩
  obtain ⟨z4, _, _⟩ := and3_iff Y3
  refine reach_to (cfgW_ok [] []) false 1000 0 [] A1 A2 A4 fun ρ1 hle1 => ?_
  -- into impl.HSalsa
  show Go.Sx.Reach Try.prog c0 w0 _ o1.stk s1 _
  obtain ⟨f1, f2⟩ := ent_some A5
  obtain ⟨f3, f4⟩ := ent_fn (fn := Try.f4) A5 rfl
  refine reach_enter (cfg := c0) (cfgE_ok [] []) rfl rfl f1 0 fun a1 hF1 => ?_
  show Go.Sx.Reach Try.prog c0 w0 (callQ Try.prog (ent o1.stk s1).fn _) [.code (ent o1.stk s1).b] s2 _
  rw [f3, f4]
  refine reach_to (cfgW_ok [] []) false 1000 0 [] E1 E2 E4 fun ρ2 hle2 => ?_
  -- into salsa.HSalsa20
  show Go.Sx.Reach Try.prog c0 w0 _ o2.stk s3 _
  obtain ⟨g1, g2⟩ := ent_some E5
  obtain ⟨g3, g4⟩ := ent_fn (fn := Try.f7) E5 rfl
  refine reach_enter (cfg := c0) (cfgE_ok [] []) rfl rfl g1 0 fun a3 hF3 => ?_
  show Go.Sx.Reach Try.prog c0 w0 (callQ Try.prog (ent o2.stk s3).fn _) [.code (ent o2.stk s3).b] s4 _
  rw [g3, g4]
  refine reach_to (cfgW_ok [] []) true 2000 0 [] d1 d2 d4 fun ρ4 hle4 => ?_
  -- the loop
  have hst : o4.stk = .code (.loop lp4.1) :: lp4.2 := loop_eq d5
  show Go.Sx.Reach Try.prog c0 w0 _ o4.stk (s5 []) _
  rw [hst]
  have hi1 : ∀ x, x < 64 → ρ4.i x = ρ.i x := fun x hx => by rw [hle4.i, Env.ext_old _ _ hx, hle2.i, Env.ext_old _ _ hx, hle1.i]
  have hwd0 : ∀ k, k < 16 → (ρ4.ext 96 (appX esX [.n 0])).i (96 + k) = Wd ρ.i 0 k := fun k hk => by
    rw [wd_start ρ4 k hk]
    exact Wd_congr hi1 0 k hk
  have h112 : (ρ4.ext 96 (appX esX [.n 0])).i 112 = 0 := by
    refine ρ4.ext_new (m := 96) (k := 16) (e := .n 0) ?_
    rw [appX_eq, List.getElem?_append_right (by rw [esX_len]; omega), esX_len]
    rfl
  have hiL : ∀ x, x < 64 → (ρ4.ext 96 (appX esX [.n 0])).i x = ρ.i x := fun x hx => by rw [Env.ext_old _ _ (by omega), hi1 x hx]
  have agL : Ag 7 64 (ρ2.ext 64 []) (ρ4.ext 96 (appX esX [.n 0])) := (Ag.ofLe (m := 64) (show Env.le 7 (ρ2.ext 64 []) ρ4 from hle4)).trans ((Ag.ofExt 7 ρ4 _).mono (Nat.le_refl _) (by omega))
  generalize ρ4.ext 96 (appX esX [.n 0]) = ρL at hwd0 h112 hiL agL
  refine reach_loop (s5 []) (fun (g : Nat) ρ' => ∃ t : Nat, t + g = 10 ∧ (∀ k, k < 16 → ρ'.i (96 + k) = Wd ρ.i t k) ∧ ρ'.i 112 = 2 * (t : Int) ∧ Ag 7 96 ρL ρ') id 10 ρL
    ⟨0, rfl, hwd0, h112, .refl _ _ _⟩ (fun a w hF hM => ⟨hF, hM⟩) fun g ρ' ⟨t, ht, hw, hc, hag⟩ => ?_
  rcases Nat.eq_zero_or_pos g with hg | hg
  · -- behind the last round
    subst hg
    have ht : t = 10 := by omega
    subst ht
    refine reach_orc [false] ?_
    have hobF : Obs ρ' o6.st.obs := by
      rw [obsB_eq x4]
      intro ob hob
      have : ob = .c .lss (.v 112) (.n 20) false := by simpa [obF] using hob
      subst this
      show cmpI .lss (ρ'.i 112) 20 = false
      rw [hc]; rfl
    refine reach_go (cfgW_ok [] []) false 3000 hobF fun ρ6 hle6 => ?_
    refine OutR.left (k' := k6) (some_getD x3) ?_
    have hobF2 : Obs ρ6 o7.st.obs := by
      rw [obsB_eq x5]
      intro ob hob
      have : ob = .c .lss (.v 112) (.n 20) false := by simpa [obF] using hob
      subst this
      show cmpI .lss (ρ6.i 112) 20 = false
      rw [hle6.i, hc]; rfl
    refine reach_ret (cfgW_ok [] []) true 3000 (v := v7) x6 hobF2 (some_getD x7) fun ρ7 w7 hle7 hM7 hv7 => ?_
    -- back in impl.HSalsa
    have n6 : 7 ≤ o6.st.nx := ((go_soundG (w0 := w0) (cfgW_ok [] []) 3000 false).ext [.code lp4.1] (s5 [false])).nx
    have n7 : 7 ≤ o7.st.nx := Nat.le_trans n6 ((go_soundG (w0 := w0) (cfgW_ok [] []) 3000 true).ext k6 o6.st).nx
    have n8' : s8.nx = o7.st.nx := (Ext.put (some_getD x8)).2.2.2.2.1
    have n8 : 7 ≤ o8.st.nx := Nat.le_trans (by omega) ((go_soundG (w0 := w0) (cfgW_ok [] []) 3000 false).ext e3.k s8).nx
    have ag7 : Ag 7 64 (ρ2.ext 64 []) ρ7 := by
      have q5 : Ag 7 64 ρL ρ' := hag.mono (by omega) (by omega)
      have q6 : Ag 7 64 ρ' ρ6 := Ag.ofLe hle6
      have q7 : Ag 7 64 ρ6 ρ7 := Ag.ofLe (Env.le.mono hle7 (show 7 ≤ o6.st.nx by omega))
      exact ((agL.trans q5).trans q6).trans q7
    refine reach_back (s1 := o7.st) (s2 := s8) (fl := fl3) (n := 7) (m := 64) (N := Try.f4.ntmps) (v := v7) (d := e3.dst) [] 0 hF3 ag7 (by kernel_rfl) (by kernel_rfl) (Nat.ble_eq_true_of_le (by omega)) hM7 hv7 (some_getD x8) ?_
    refine reach_ret (cfgW_ok [] []) false 3000 (v := v8) y1 (Obs.nil y2 _) (some_getD y4) fun ρ8 w8 hle8 hM8 hv8 => ?_
    -- back in the law
    refine reach_back (s1 := o8.st) (s2 := s9) (fl := fl1) (n := 3) (m := 64) (N := Try.f3.ntmps) (v := v8) (d := e1.dst) [] 0 hF1 ?_ (by kernel_rfl) (by kernel_rfl) (Nat.ble_eq_true_of_le (by omega)) hM8 hv8 (some_getD y5) ?_
    · have q1 : Ag 3 64 (ρ1.ext 64 []) ρ2 := Ag.ofLe hle2
      have q2 : Ag 3 64 ρ2 (ρ2.ext 64 []) := Ag.ofExt 3 ρ2 []
      exact ((q1.trans q2).trans (ag7.mono (by omega) (Nat.le_refl _))).trans (Ag.ofLe (Env.le.mono hle8 (by omega)))
    refine reach_go (cfgW_ok [] []) false 3000 (Obs.nil z1.2 _) fun ρ9 hle9 => OutR.stop z1.1 ?_
    refine reach_mat (rowOf (o9.st.F.get 41)) fun ρ10 hle10 => ?_
    refine reach_cut 0 [] z4 ?_
    refine part4 hK _ fun k hk => ?_
    have hi10 : ρ10.i = ρ'.i := by rw [hle10.i, hle9.i, hle8.i, hle7.i, hle6.i]
    rw [ρ10.ext_new (m := 64) (getD_some (by rw [outB_len]; exact hk)), hi10]
    refine E.den_rng (fun i h1 h2 => ?_) _ (rngL_get outB_rng (getD_some (by rw [outB_len]; exact hk)))
    have := hw (i - 96) (by omega)
    rw [show 96 + (i - 96) = i by omega] at this
    rw [this]
    refine (Wd_congr (fun x hx => ?_) 10 (i - 96) (by omega)).symm
    rw [Env.ext_old _ _ hx, hi10, hag.i _ (by omega), hiL x hx]
  · -- a round
    refine reach_orc [true] ?_
    have hobT : Obs ρ' o5.st.obs := by
      rw [obsB_eq r2]
      intro ob hob
      simp only [obT, List.mem_cons, List.not_mem_nil, or_false] at hob
      rcases hob with rfl | rfl
      · show -9223372036854775808 ≤ ρ'.i 112 + 2 ∧ ρ'.i 112 + 2 ≤ 9223372036854775807
        rw [hc]; omega
      · show cmpI .lss (ρ'.i 112) 20 = true
        rw [hc]
        simp only [cmpI, decide_eq_true_eq]; omega
    refine reach_go (cfgW_ok [] []) false 3000 hobT fun ρ5 hle5 => ?_
    refine OutR.round r1 fun a w hF hM => ?_
    obtain ⟨n1, n2⟩ := wd_step ρ.i ρ5 t (by rw [hle5.i]; exact hw) 2
    refine ⟨g - 1, ⟨ρ5.ext 96 (appX esD [.add (.v 112) (.n 2)]), ⟨t + 1, by omega, n1, by rw [n2, hle5.i, hc]; omega, ?_⟩, cut_sound (thr := 0) (orc := []) r3 hF hM⟩, by simp only [id]; omega⟩
    exact (hag.trans (Ag.ofLe hle5)).trans (Ag.ofExt _ _ _)
end
end Go.Proofs.Ytgoogcbibcgcmaa
