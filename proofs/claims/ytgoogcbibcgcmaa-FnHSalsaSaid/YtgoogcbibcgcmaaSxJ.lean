/- A symbolic executor over the model, part ten: the run of the executor speaks for the model's. -/
import Derived.Test.YtgoogcbibcgcmaaSxI
namespace Go.Sx
open Go

section
variable {P : Program} {cfg : Cfg} {w0 : World}

def OutQ (P : Program) (Q : Exit → Act → World → Prop) : Out → Act → World → Prop
  | .done _, a, w => Q .normal a w
  | .ret _, a, w => Q .ret a w
  | .exit id _, a, w => Q (.exit id) a w
  | .stop k _, a, w => wpK P Q k .normal a w

/-- What is known of an executor. -/
structure SoundG (P : Program) (cfg : Cfg) (w0 : World) (G : List It → St → Out) : Prop where
  ext : ∀ k s, Ext s (G k s).st
  run : ∀ k s Q ρ a w, FrOK ρ s.nx s.N s.F a → MemOK cfg w0 ρ s w → Obs ρ (G k s).st.obs →
    (∀ ρ' a' w', Env.le s.nx ρ ρ' → FrOK ρ' (G k s).st.nx (G k s).st.N (G k s).st.F a' → MemOK cfg w0 ρ' (G k s).st w' → OutQ P Q (G k s) a' w') → wpK P Q k .normal a w

theorem Obs.sub {ρ : Env} {l m : List Ob} (h : Obs ρ m) (hs : ∀ ob ∈ l, ob ∈ m) : Obs ρ l := fun ob hob => h ob (hs ob hob)

/-- The relation on memory, of fewer names. -/
theorem MemOK.restrict {ρ ρ' : Env} {s s1 : St} {w w1 : World} (h0 : MemOK cfg w0 ρ s w) (hle : Env.le s.nx ρ ρ') (h : MemOK cfg w0 ρ' s1 w1)
    (hM : ∀ j, j < s.nx → s1.M.get j = s.M.get j) (hR : ∀ j, j < s.nx → s1.R.get j = s.R.get j) : MemOK cfg w0 ρ s w1 := by
  have jl : ∀ j W, s.M.get j = some W → j < s.nx ∧ s1.M.get j = some W := fun j W hW => ⟨(h0.cell j W hW).1, (hM j (h0.cell j W hW).1).trans hW⟩
  have rl : ∀ r x, s.R.get r = some x → r < s.nx ∧ s1.R.get r = some x := fun r x hr => ⟨(h0.row r x.1 x.2 hr).1, (hR r (h0.row r x.1 x.2 hr).1).trans hr⟩
  refine ⟨h.os, h.tape, h.output, h.size, ?_, ?_, ?_, ?_, ?_, ?_, ?_, ?_, ?_, h0.als, h0.gl, h0.w0⟩
  · intro i hi hj
    exact h.keep i hi fun j hjm => by rw [hle.b j (h0.w0 j hjm)]; exact hj j hjm
  · intro j W hW
    obtain ⟨q1, q2⟩ := jl j W hW
    obtain ⟨_, p2, _⟩ := h0.cell j W hW
    obtain ⟨_, _, p3⟩ := h.cell j W q2
    refine ⟨q1, p2, fun i x hx => ?_⟩
    have := p3 i x hx
    rw [hle.b j q1, hle.o j q1, FV.den_le hle (p2 x (List.mem_of_getElem? hx))] at this
    exact this
  · intro j W hW
    obtain ⟨q1, q2⟩ := jl j W hW
    have := h.lt j W q2
    rwa [hle.b j q1] at this
  · intro j W hW hwr i hi
    obtain ⟨q1, q2⟩ := jl j W hW
    have := h.free j W q2 hwr i hi
    rwa [hle.b j q1, hle.o j q1] at this
  · intro j W hW hwr
    obtain ⟨q1, q2⟩ := jl j W hW
    have := h.kind j W q2 hwr
    rwa [hle.b j q1] at this
  · intro j W j' W' hW hW' hwr hne
    exact h0.sep j W j' W' hW hW' hwr hne
  · intro r e xs hr
    obtain ⟨q1, q2⟩ := rl r _ hr
    obtain ⟨_, p2, _⟩ := h0.row r e xs hr
    obtain ⟨_, _, p3⟩ := h.row r e xs q2
    refine ⟨q1, p2, ?_⟩
    rwa [hle.r r q1, denL_le hle p2] at p3
  · intro r e xs g j W hr hg hW
    exact h0.sepR r e xs g j W hr hg hW
  · intro r e xs r' e' xs' g hr hr' hne hg
    exact h0.sepRR r e xs r' e' xs' g hr hr' hne hg

theorem belowF_ok (ρ : Env) {n : Nat} {x : FV} (h : belowF n x = true) : x.ok ρ n := by
  cases x with
  | int k e => trivial
  | bool b => trivial
  | cmp o x y => trivial
  | ptr j o => have h : Nat.blt j n = true := h; show j < n; simpa using h
  | sl j o len cap => cases h
  | row r => have h : Nat.blt r n = true := h; show r < n; simpa using h
  | ifc t j o => have h : Nat.blt j n = true := h; show j < n; simpa using h
  | lit v => trivial
theorem belowL_ok (ρ : Env) {n : Nat} : ∀ {l : List FV}, belowL n l = true → okL ρ n l
  | [], _, x, hx => by cases hx
  | y :: l, h, x, hx => by
    simp only [belowL, Bool.and_eq_true] at h
    rcases List.mem_cons.1 hx with hx | hx
    · rw [hx]; exact belowF_ok ρ h.1
    · exact belowL_ok ρ h.2 x hx
theorem belowP_ok (ρ : Env) {n : Nat} : ∀ {l : List (Bool × List FV)}, belowP n l = true → ∀ p ∈ l, okL ρ n p.2
  | [], _, p, hp => by cases hp
  | q :: l, h, p, hp => by
    simp only [belowP, Bool.and_eq_true] at h
    rcases List.mem_cons.1 hp with hp | hp
    · rw [hp]; exact belowL_ok ρ h.1
    · exact belowP_ok ρ h.2 p hp
theorem belowS_ok (ρ : Env) {n : Nat} {v : SV} (h : belowS n v = true) : v.ok ρ n := by
  cases v with
  | f x => exact belowF_ok ρ h
  | agg l => exact belowL_ok ρ h
  | tup l => exact belowP_ok ρ h

theorem takeN_eq {α : Type} : ∀ (n : Nat) (l : List α), takeN n l = l.take n
  | 0, l => rfl
  | n + 1, [] => by simp [takeN]
  | n + 1, x :: l => by simp [takeN, takeN_eq n l]

/-- A call, by the executor's run of the callee. -/
theorem run_call (hc : CfgOk P cfg) {G : List It → St → Out} (hG : SoundG P cfg w0 G) {s : St} {ρ : Env} {a : Act} {o : Oper} {f : FuncId} {fn : Func} {b : Code} {vs : List SV} {s1 : St} {v : SV} {thr : Nat} {w : World} {R : Ending → World → Prop}
    (hF : FrOK ρ s.nx s.N s.F a) (hM : MemOK cfg w0 ρ s w) (hcall : callOf cfg s o.op = some (f, fn, b, vs)) (hout : G [.code b] (s.callee fn vs thr) = .ret s1 ∨ G [.code b] (s.callee fn vs thr) = .done s1)
    (hres : resS cfg s1 fn = some v) (hob : Obs ρ s1.obs)
    (hR : ∀ ρ' w', Env.le s.nx ρ ρ' → MemOK cfg w0 ρ' s1 w' → v.ok ρ' s1.nx → R (.returned (v.den ρ')) w') :
    Calls P f (vs.map (SV.den ρ)).toArray w R := by
  obtain ⟨_, h2, h3, h4⟩ := callOf_sound hc hF hM hcall thr
  refine calls_of_wp h2 h3 ?_
  have hst : (G [.code b] (s.callee fn vs thr)).st = s1 := by rcases hout with h | h <;> rw [h] <;> rfl
  have key := hG.run [.code b] (s.callee fn vs thr) (bodyPost P fn R) ρ _ w h4 (hM.of_eq rfl rfl rfl rfl) (by rw [hst]; exact hob) (fun ρ' a' w' hle hF' hM' => by
    rw [hst] at hF' hM'
    obtain ⟨r1, r2⟩ := resS_sound hc hF' hM' hres
    have fin : a'.defers = [] ∧ ∃ v, (results fn a'.tmps).run P w' = .ok v w' ∧ R (.returned v) w' := ⟨hF'.defers, _, r1, hR ρ' w' hle hM' r2⟩
    rcases hout with h | h <;> rw [h] <;> exact fin)
  exact key

/-- A callee that only reads, in every world of the class. -/
theorem quiet_call (hc : CfgOk P cfg) {G : List It → St → Out} (hG : SoundG P cfg w0 G) {s : St} {ρ : Env} {a : Act} {o : Oper} {f : FuncId} {fn : Func} {b : Code} {vs : List SV} {s1 : St} {v : SV}
    (hF : FrOK ρ s.nx s.N s.F a) (hcall : callOf cfg s o.op = some (f, fn, b, vs)) (hout : G [.code b] (s.callee fn vs s.nx) = .ret s1 ∨ G [.code b] (s.callee fn vs s.nx) = .done s1)
    (hres : resS cfg s1 fn = some v) (hb : belowS s.nx v = true) (hob : Obs ρ s1.obs) (w1 : World) (hw1 : MemOK cfg w0 ρ s w1) :
    o.quietAt P a (fun w => MemOK cfg w0 ρ s w) w1 (v.den ρ) := by
  obtain ⟨h1, _⟩ := callOf_sound hc hF hw1 hcall s.nx
  have hx := hG.ext [.code b] (s.callee fn vs s.nx)
  have hst : (G [.code b] (s.callee fn vs s.nx)).st = s1 := by rcases hout with h | h <;> rw [h] <;> rfl
  rw [hst] at hx
  unfold Oper.quietAt
  rw [h1 w1]
  refine ⟨rfl, run_call hc hG hF hw1 hcall hout hres hob fun ρ' w' hle hM' _ => ⟨?_, ?_⟩⟩
  · rw [SV.den_le hle (belowS_ok ρ hb)]
  · exact hw1.restrict hle hM' (fun j hj => hx.M j hj hj) (fun j hj => hx.R j hj hj)

theorem qrun_ext {G : List It → St → Out} (hG : SoundG P cfg w0 G) (all : Array Oper) : ∀ (l : List Oper) (s s' : St), qrun cfg G all l s = some s' →
    s'.M = s.M ∧ s'.R = s.R ∧ s'.A = s.A ∧ s'.nx = s.nx ∧ s'.N = s.N ∧ s'.thr = s.thr ∧ ∀ ob ∈ s.obs, ob ∈ s'.obs
  | [], s, s', h => by
    have h := Option.some.inj h
    subst h
    exact ⟨rfl, rfl, rfl, rfl, rfl, rfl, fun _ h => h⟩
  | o :: l, s, s', h => by
    have step : ∀ (s1 s2 : St) (d : Option Tmp) (v : SV), s1.M = s.M → s1.R = s.R → s1.A = s.A → s1.nx = s.nx → s1.N = s.N → s1.thr = s.thr → (∀ ob ∈ s.obs, ob ∈ s1.obs) → s1.put d v = some s2 → qrun cfg G all l s2 = some s' →
        s'.M = s.M ∧ s'.R = s.R ∧ s'.A = s.A ∧ s'.nx = s.nx ∧ s'.N = s.N ∧ s'.thr = s.thr ∧ ∀ ob ∈ s.obs, ob ∈ s'.obs := by
      intro s1 s2 d v e1 e2 e3 e4 e5 e6 e7 hp hq
      obtain ⟨_, p1, p2, p3, p4, p5, p6, p7⟩ := Ext.put hp
      obtain ⟨q1, q2, q3, q4, q5, q6, q7⟩ := qrun_ext hG all l s2 s' hq
      exact ⟨q1.trans (p1.trans e1), q2.trans (p2.trans e2), q3.trans (p3.trans e3), q4.trans (p4.trans e4), q5.trans (p5.trans e5), q6.trans (p7.trans e6), fun ob hob => q7 ob (by rw [p6]; exact e7 ob hob)⟩
    have callee : ∀ (fn : Func) (b : Code) (vs : List SV) (s1 s2 : St) (v : SV), (G [.code b] (s.callee fn vs s.nx)).st = s1 → (s.backQ s1).put o.dst v = some s2 → qrun cfg G all l s2 = some s' →
        s'.M = s.M ∧ s'.R = s.R ∧ s'.A = s.A ∧ s'.nx = s.nx ∧ s'.N = s.N ∧ s'.thr = s.thr ∧ ∀ ob ∈ s.obs, ob ∈ s'.obs := by
      intro fn b vs s1 s2 v hst hp hq
      have hx := hG.ext [.code b] (s.callee fn vs s.nx)
      rw [hst] at hx
      exact step (s.backQ s1) _ _ _ rfl rfl rfl rfl rfl rfl hx.obs hp hq
    unfold qrun at h
    split at h
    · cases h
    · split at h
      · rename_i hp
        exact step _ _ _ _ rfl rfl rfl rfl rfl rfl (fun _ h => h) hp h
      · cases h
    · split at h
      · rename_i r hr
        split at h
        · rename_i hp
          exact step (s.pv r) _ _ _ rfl rfl rfl rfl rfl rfl (Ext.pv s r).obs hp h
        · cases h
      · split at h
        · split at h
          · rename_i hout
            split at h
            · split at h
              · split at h
                · rename_i hp
                  exact callee _ _ _ _ _ _ (by rw [hout]; rfl) hp h
                · cases h
              · cases h
            · cases h
          · rename_i hout
            split at h
            · split at h
              · split at h
                · rename_i hp
                  exact callee _ _ _ _ _ _ (by rw [hout]; rfl) hp h
                · cases h
              · cases h
            · cases h
          · cases h
        · cases h

theorem qrun_sound (hc : CfgOk P cfg) {G : List It → St → Out} (hG : SoundG P cfg w0 G) (all : Array Oper) {ρ : Env} {w1 : World} : ∀ (l : List Oper) (s s' : St), qrun cfg G all l s = some s' → Obs ρ s'.obs →
    MemOK cfg w0 ρ s w1 → ∀ (K : Act → Prop) (a : Act), FrOK ρ s.nx s.N s.F a → (∀ a', FrOK ρ s'.nx s'.N s'.F a' → K a') → wpQuiet P all (fun w => MemOK cfg w0 ρ s w) K l a
  | [], s, s', h, _, _, K, a, hF, hK => by
    have h := Option.some.inj h
    subst h
    exact hK a hF
  | o :: l, s, s', h, hob, hw1, K, a, hF, hK => by
    have hwant := wantS_sound hF (all := all) (o := o)
    have step : ∀ (s1 s2 : St) (v : SV), s1.M = s.M → s1.R = s.R → s1.A = s.A → s1.nx = s.nx → s1.N = s.N → s1.F = s.F → v.ok ρ s.nx → s1.put o.dst v = some s2 → qrun cfg G all l s2 = some s' →
        wpQuiet P all (fun w => MemOK cfg w0 ρ s w) K l (a.put o.dst (v.den ρ)) := by
      intro s1 s2 v e1 e2 e3 e4 e5 e6 hv hp hq
      obtain ⟨_, p1, p2, p3, p4, p5, p6, p7⟩ := Ext.put hp
      have hF1 : FrOK ρ s1.nx s1.N s1.F a := by rw [e4, e5, e6]; exact hF
      have hF2 := hF1.putS (by rw [e4]; exact hv) hp
      have hCC : (fun w => MemOK cfg w0 ρ s w) = (fun w => MemOK cfg w0 ρ s2 w) := by
        funext w
        exact propext ⟨fun h => h.of_eq (p1.trans e1) (p2.trans e2) (p3.trans e3) (p4.trans e4), fun h => h.of_eq (p1.trans e1).symm (p2.trans e2).symm (p3.trans e3).symm (p4.trans e4).symm⟩
      rw [hCC]
      exact qrun_sound hc hG all l s2 s' hq hob (hw1.of_eq (p1.trans e1) (p2.trans e2) (p3.trans e3) (p4.trans e4)) K _ hF2 hK
    have callee : ∀ (f : FuncId) (fn : Func) (b : Code) (vs : List SV) (s1 s2 : St) (v : SV), Region.wanted o (yielded all a.tmps) = true → callOf cfg s o.op = some (f, fn, b, vs) →
        (G [.code b] (s.callee fn vs s.nx) = .ret s1 ∨ G [.code b] (s.callee fn vs s.nx) = .done s1) → resS cfg s1 fn = some v → belowS s.nx v = true →
        (s.backQ s1).put o.dst v = some s2 → qrun cfg G all l s2 = some s' → wpQuiet P all (fun w => MemOK cfg w0 ρ s w) K (o :: l) a := by
      intro f fn b vs s1 s2 v hw hcall hout hres hb hp hq
      have hob1 : Obs ρ s1.obs := by
        obtain ⟨_, _, _, _, _, _, q7⟩ := qrun_ext hG all l s2 s' hq
        obtain ⟨_, _, _, _, _, _, p6, _⟩ := Ext.put hp
        exact hob.sub fun ob h => q7 ob (by rw [p6]; exact h)
      unfold wpQuiet
      rw [if_pos hw]
      exact ⟨_, fun w hw => quiet_call hc hG hF hcall hout hres hb hob1 w hw, step (s.backQ s1) _ _ rfl rfl rfl rfl rfl rfl (belowS_ok ρ hb) hp hq⟩
    unfold qrun at h
    split at h
    · cases h
    · rename_i hno
      split at h
      · rename_i hp
        unfold wpQuiet
        rw [if_neg (by rw [hwant.2 hno]; simp)]
        exact step _ _ _ rfl rfl rfl rfl rfl rfl (undefS_ok _ _) hp h
      · cases h
    · rename_i hyes
      have hw := hwant.1 hyes
      split at h
      · rename_i r hr
        split at h
        · rename_i s2 hp
          have hob1 : Obs ρ r.obs := by
            obtain ⟨_, _, _, _, _, _, q7⟩ := qrun_ext hG all l s2 s' h
            obtain ⟨_, _, _, _, _, _, p6, _⟩ := Ext.put hp
            exact hob.sub fun ob h => q7 ob (by rw [p6]; simp [St.pv, h])
          unfold wpQuiet
          rw [if_pos hw]
          refine ⟨r.v.den ρ, fun w hw => ?_, step (s.pv r) _ _ rfl rfl rfl rfl rfl rfl (pureOp_sound hc hF hw1 hr hob1).2 hp h⟩
          unfold Oper.quietAt
          rw [(pureOp_sound hc hF hw hr hob1).1]
          exact ⟨rfl, rfl⟩
        · cases h
      · split at h
        · rename_i f fn b vs hcall
          split at h
          · rename_i s1 hout
            split at h
            · rename_i v hres
              split at h
              · rename_i hb
                split at h
                · rename_i s2 hp
                  exact callee f fn b vs s1 s2 v hw hcall (.inl hout) hres hb hp h
                · cases h
              · cases h
            · cases h
          · rename_i s1 hout
            split at h
            · rename_i v hres
              split at h
              · rename_i hb
                split at h
                · rename_i s2 hp
                  exact callee f fn b vs s1 s2 v hw hcall (.inr hout) hres hb hp h
                · cases h
              · cases h
            · cases h
          · cases h
        · cases h

theorem effOp_keeps {s : St} {o : Op} {e : Ef} (h : effOp cfg s o = some e) : Keeps s e := by
  have pt : ∀ (s : St) (l : List FV) (v : SV), Keeps s (efWin s l v) := efWin_keeps
  cases o <;> first | (cases h; done) | skip
  case alloc t =>
    have h : eAlloc cfg s t = some e := h
    unfold eAlloc at h
    split at h
    · split at h
      · have h := Option.some.inj h; subst h; exact pt _ _ _
      · cases h
    · cases h
  case box t x =>
    have h : eBox cfg s x = some e := h
    unfold eBox at h
    split at h
    · split at h
      · split at h
        · have h := Option.some.inj h; subst h; exact pt _ _ _
        · cases h
      · cases h
    · cases h
  case buildSlice t n parts =>
    have h : eBuildSlice cfg s t n parts = some e := h
    unfold eBuildSlice at h
    split at h
    · split at h
      · split at h
        · split at h
          · split at h
            · split at h
              · have h := Option.some.inj h; subst h
                exact ⟨Nat.le_succ _, fun _ _ _ => rfl, fun j _ hn => Tr.get_put_other (by omega), fun _ _ _ => rfl⟩
              · cases h
            · split at h
              · have h := Option.some.inj h; subst h; exact pt _ _ _
              · cases h
          · cases h
        · cases h
      · cases h
    · cases h
  case store t x y =>
    have h : eStore cfg s t x y = some e := h
    unfold eStore at h
    split at h
    · split at h
      · split at h
        · split at h
          · rename_i b1 b2 b3
            have h := Option.some.inj h; subst h
            have b3 := Nat.le_of_ble_eq_true b3
            exact ⟨Nat.le_refl _, fun j' hj' _ => Tr.get_put_other (by omega), fun _ _ _ => rfl, fun _ _ _ => rfl⟩
          · cases h
        · cases h
      · cases h
    · cases h
  case call c =>
    obtain ⟨callee, args, argTypes⟩ := c
    cases callee <;> first | (cases h; done) | skip
    rename_i b
    cases b <;> first | (cases h; done) | skip
    have h : (match args.toList, argTypes.toList with | [x, y], [t, t'] => eAppend cfg s t t' x y | _, _ => none) = some e := h
    split at h
    · unfold eAppend at h
      split at h
      · split at h
        · split at h
          · split at h
            · rename_i b7
              have h := Option.some.inj h; subst h
              have b7 := Nat.le_of_ble_eq_true b7
              refine ⟨Nat.le_succ _, fun _ _ _ => rfl, fun j hj hn => ?_, fun _ _ _ => rfl⟩
              show ((s.R.del _).put s.nx _).get j = s.R.get j
              rw [Tr.get_put_other (by omega), Tr.get_del_other (by omega)]
            · cases h
          · cases h
        · cases h
      · cases h
    · cases h
theorem matS_ext {s : St} {o : Op} {r : Nat} {xs : List FV} (h : matS cfg s o = some (r, xs)) : Ext s (s.mat r xs) := by
  unfold matS at h
  split at h
  · split at h
    · split at h
      · rename_i e y l hR hb ht
        have h := Option.some.inj h
        simp only [Prod.mk.injEq] at h
        obtain ⟨rfl, rfl⟩ := h
        exact Ext.mat (Nat.le_of_ble_eq_true ht)
      · cases h
    · cases h
  · cases h

theorem Ext.callee {s s1 : St} {fn : Func} {vs : List SV} (h : Ext (s.callee fn vs s.thr) s1) : Ext s (s.back s1) := ⟨h.nx, rfl, h.obs, h.M, h.R, h.A⟩

theorem go_ext {n : Nat} (hG0 : ∀ b, SoundG P cfg w0 (go cfg b n)) (b : Bool) (k : List It) (s : St) : Ext s (go cfg b (n + 1) k s).st := by
  have ih := (hG0 b).ext
  · cases k with
    | nil => exact .refl _
    | cons it k =>
      have nxt : ∀ {s1 s2 : St} {d : Option Tmp} {v : SV} (k' : List It), Ext s s1 → s1.put d v = some s2 → Ext s (go cfg b n k' s2).st := fun k' h hp => (h.trans (Ext.put hp).1).trans (ih k' _)
      unfold go
      cases it with
      | blk id => exact ih _ _
      | lp c m => cases m with
        | zero => exact .refl _
        | succ m => exact ih _ _
      | ops all l =>
        cases l with
        | nil => exact ih _ _
        | cons o l =>
          simp only
          split
          · exact .refl _
          · split
            · rename_i hp; exact nxt _ (.refl _) hp
            · exact .refl _
          · split
            · rename_i r hr
              split
              · rename_i hp; exact nxt _ (Ext.pv s r) hp
              · exact .refl _
            · split
              · rename_i e he
                split
                · rename_i hp; exact nxt _ (Ext.eff (effOp_keeps he)) hp
                · exact .refl _
              · split
                · rename_i f fn bd vs hcall
                  have hx := (hG0 false).ext [.code bd] (s.callee fn vs s.thr)
                  split
                  · rename_i s1 hout
                    rw [hout] at hx
                    split
                    · split
                      · rename_i hp; exact nxt _ (Ext.callee hx) hp
                      · exact .refl _
                    · exact .refl _
                  · rename_i s1 hout
                    rw [hout] at hx
                    split
                    · split
                      · rename_i hp; exact nxt _ (Ext.callee hx) hp
                      · exact .refl _
                    · exact .refl _
                  · exact .refl _
                · split
                  · rename_i r xs hm; exact (matS_ext hm).trans (ih _ _)
                  · exact .refl _
      | code c =>
        cases c <;> simp only <;> first | exact .refl _ | exact ih _ _ | skip
        case cond x p q =>
          split
          · exact ih _ _
          · exact ih _ _
          · exact .refl _
        case loop bd =>
          split
          · exact .refl _
          · exact ih _ _
        case exit id =>
          split
          · exact ih _ _
          · exact .refl _
        case region id ops dr =>
          split
          · exact ih _ _
          · split
            · exact .refl _
            · split
              · split
                · rename_i s' hq
                  obtain ⟨q1, q2, q3, q4, q5, q6, q7⟩ := qrun_ext (hG0 false) ops _ _ _ hq
                  have : Ext s s' := ⟨by omega, q6, q7, fun j _ _ => by rw [q1], fun j _ _ => by rw [q2], fun j _ _ => by rw [q3]⟩
                  exact this.trans (ih _ _)
                · split
                  · rename_i s' hh
                    exact (Ext.head hh).trans (ih _ _)
                  · exact .refl _
              · split
                · rename_i s' hh
                  exact (Ext.head hh).trans (ih _ _)
                · exact .refl _

end
end Go.Sx
