/- A symbolic executor over the model, part nine: the executor is sound. -/
import Derived.Test.YtgoogcbibcgcmaaSxH
namespace Go.Sx
open Go

structure Ext (s s' : St) : Prop where
  nx : s.nx ≤ s'.nx
  thr : s'.thr = s.thr
  obs : ∀ ob ∈ s.obs, ob ∈ s'.obs
  M : ∀ j, j < s.thr → j < s.nx → s'.M.get j = s.M.get j
  R : ∀ j, j < s.thr → j < s.nx → s'.R.get j = s.R.get j
  A : ∀ j, j < s.thr → j < s.nx → s'.A.get j = s.A.get j
theorem Ext.refl (s : St) : Ext s s := ⟨Nat.le_refl _, rfl, fun _ h => h, fun _ _ _ => rfl, fun _ _ _ => rfl, fun _ _ _ => rfl⟩
theorem Ext.trans {s s' s'' : St} (h : Ext s s') (h' : Ext s' s'') : Ext s s'' :=
  ⟨Nat.le_trans h.nx h'.nx, h'.thr.trans h.thr, fun ob hob => h'.obs ob (h.obs ob hob),
    fun j hj hn => (h'.M j (by rw [h.thr]; exact hj) (Nat.lt_of_lt_of_le hn h.nx)).trans (h.M j hj hn),
    fun j hj hn => (h'.R j (by rw [h.thr]; exact hj) (Nat.lt_of_lt_of_le hn h.nx)).trans (h.R j hj hn),
    fun j hj hn => (h'.A j (by rw [h.thr]; exact hj) (Nat.lt_of_lt_of_le hn h.nx)).trans (h.A j hj hn)⟩
theorem Ext.put {s s' : St} {d : Option Tmp} {v : SV} (h : s.put d v = some s') : Ext s s' ∧ s'.M = s.M ∧ s'.R = s.R ∧ s'.A = s.A ∧ s'.nx = s.nx ∧ s'.N = s.N ∧ s'.obs = s.obs ∧ s'.thr = s.thr := by
  unfold St.put at h
  split at h
  · have h := Option.some.inj h
    subst h
    exact ⟨.refl _, rfl, rfl, rfl, rfl, rfl, rfl, rfl⟩
  · split at h
    · have h := Option.some.inj h
      subst h
      exact ⟨⟨Nat.le_refl _, rfl, fun _ h => h, fun _ _ _ => rfl, fun _ _ _ => rfl, fun _ _ _ => rfl⟩, rfl, rfl, rfl, rfl, rfl, rfl, rfl⟩
    · cases h
theorem Ext.pv (s : St) (r : Pv) : Ext s (s.pv r) := ⟨Nat.le_refl _, rfl, fun ob h => by simp [St.pv, h], fun _ _ _ => rfl, fun _ _ _ => rfl, fun _ _ _ => rfl⟩
theorem Ext.eff {s : St} {e : Ef} (h : Keeps s e) : Ext s (s.eff e) := ⟨h.nx, rfl, fun _ h => h, h.M, h.R, h.A⟩
theorem Ext.name : ∀ (l : List (Tmp × HI)) (s : St), Ext s (nameS l s)
  | [], s => .refl _
  | p :: l, s => by
    unfold nameS
    split
    · rename_i v _
      have h : Ext s { s with F := s.F.put p.1 v } := ⟨Nat.le_refl _, rfl, fun _ h => h, fun _ _ _ => rfl, fun _ _ _ => rfl, fun _ _ _ => rfl⟩
      exact h.trans (Ext.name l _)
    · rename_i c _
      have h : Ext s { s with F := s.F.put p.1 (.f (.ptr s.nx 0)), M := s.M.put s.nx ⟨c, 2⟩, nx := s.nx + 1 } :=
        ⟨Nat.le_succ _, rfl, fun _ h => h, fun j _ hn => Tr.get_put_other (by omega), fun _ _ _ => rfl, fun _ _ _ => rfl⟩
      exact h.trans (Ext.name l _)
theorem Ext.head {cfg : Cfg} {s s' : St} {ops : Array Oper} {n : Nat} (h : headRun cfg s ops n = some s') : Ext s s' := by
  unfold headRun at h
  split at h
  · split at h
    · rename_i its _
      split at h
      · have h := Option.some.inj h
        subst h
        have h0 : Ext s { s with F := delAll (ops.toList.take n) s.F } := ⟨Nat.le_refl _, rfl, fun _ h => h, fun _ _ _ => rfl, fun _ _ _ => rfl, fun _ _ _ => rfl⟩
        exact h0.trans (Ext.name its _)
      · cases h
    · cases h
  · cases h
theorem Ext.mat {s : St} {r : Nat} {xs : List FV} (hr : s.thr ≤ r) : Ext s (s.mat r xs) :=
  ⟨Nat.le_succ _, rfl, fun _ h => h, fun j _ hn => Tr.get_put_other (by omega), fun j hj _ => Tr.get_del_other (by omega), fun j hj _ => Tr.get_put_other (by omega)⟩

section
variable {P : Program} {cfg : Cfg} {w0 w : World} {ρ : Env} {s : St} {a : Act}

theorem FrOK.putS {s' : St} {d : Option Tmp} {v : SV} (hF : FrOK ρ s.nx s.N s.F a) (hv : v.ok ρ s.nx) (h : s.put d v = some s') : FrOK ρ s'.nx s'.N s'.F (a.put d (v.den ρ)) := by
  unfold St.put at h
  split at h
  · have h := Option.some.inj h
    subst h
    exact hF
  · split at h
    · rename_i d _ _ b1 b2
      have h := Option.some.inj h
      subst h
      have b2 := Nat.le_of_ble_eq_true b2
      have b1 : d < s.N := by simpa using b1
      exact hF.put hv b1 (by omega)
    · cases h
theorem MemOK.putS {s' : St} {d : Option Tmp} {v : SV} (hM : MemOK cfg w0 ρ s w) (h : s.put d v = some s') : MemOK cfg w0 ρ s' w := by
  obtain ⟨_, h1, h2, h3, h4, _⟩ := Ext.put h
  exact hM.of_eq h1 h2 h3 h4
theorem undefS_den (ρ : Env) : undefS.den ρ = undef := rfl
theorem undefS_ok (ρ : Env) (n : Nat) : undefS.ok ρ n := fun _ hp => by cases hp

theorem wantS_sound (hF : FrOK ρ s.nx s.N s.F a) {all : Array Oper} {o : Oper} :
    (wantS s all o = .yes → Region.wanted o (yielded all a.tmps) = true) ∧ (wantS s all o = .no → Region.wanted o (yielded all a.tmps) = false) := by
  unfold wantS Region.wanted
  cases hg : o.guard with
  | none => simp
  | some g =>
    obtain ⟨j, b⟩ := g
    simp only
    rw [nth?_eq]
    have e0 : all.toList[j]? = all[j]? := by simp
    rw [e0]
    cases hoj : all[j]? with
    | none => simp
    | some oj =>
      simp only
      cases hd : oj.dst with
      | none => simp [yielded, hoj, hd]
      | some d =>
        simp only
        cases hb : Nat.blt d s.N with
        | false => simp
        | true =>
          have hb' : d < a.tmps.size := by rw [hF.size]; simpa using hb
          have hy : ∀ v, a.tmps.getD d undef = v → yielded all a.tmps j = (match v with | .bool b => some b | _ => none) := by
            intro v hv
            have : a.tmps[d]? = some v := by
              rw [← hv]
              simp [Array.getD, hb']
            simp only [yielded, hoj, hd, this, Option.bind_some]
            cases v <;> rfl
          cases hx : s.F.get d with
          | none => simp
          | some x =>
            obtain ⟨_, h2⟩ := hF.get d x hx
            cases x with
            | agg l => simp
            | tup l =>
              cases l with
              | nil =>
                have h3 : yielded all a.tmps j = none := hy _ h2
                rw [h3]
                simp
              | cons p q => simp
            | f x =>
              cases x with
              | bool b' =>
                have h3 : yielded all a.tmps j = some b' := hy _ h2
                rw [h3]
                cases b <;> cases b' <;> simp
              | _ => simp

theorem effOp_sound (hc : CfgOk P cfg) (hF : FrOK ρ s.nx s.N s.F a) (hM : MemOK cfg w0 ρ s w) {o : Oper} {e : Ef} (h : effOp cfg s o.op = some e) :
    Keeps s e ∧ ∃ ρ' w' nxt, (execOp a.eval o).run P w = .ok nxt w' ∧ Env.le s.nx ρ ρ' ∧ MemOK cfg w0 ρ' (s.eff e) w' ∧ (e.v.getD undefS).ok ρ' e.nx ∧ (nxt = .value ((e.v.getD undefS).den ρ') ∨ (nxt = .skip ∧ e.v = none)) := by
  have fin : ∀ {m : Sem Value}, ValAt P cfg w0 ρ s w m e → ∃ ρ' w' nxt, (do pure (Next.value (← m)) : Sem Next).run P w = .ok nxt w' ∧ Env.le s.nx ρ ρ' ∧ MemOK cfg w0 ρ' (s.eff e) w' ∧ (e.v.getD undefS).ok ρ' e.nx ∧ (nxt = .value ((e.v.getD undefS).den ρ') ∨ (nxt = .skip ∧ e.v = none)) := by
    rintro m ⟨ρ', w', v, h1, h2, h3, h4, h5⟩
    exact ⟨ρ', w', _, by simp only [Sem.run_bind, h2, Result.andThen_ok, Sem.run_pure]; rfl, h3, h4, by rw [h1]; exact h5, .inl (by rw [h1]; rfl)⟩
  obtain ⟨dst, op, ty, pos, after, guard⟩ := o
  unfold execOp
  cases op <;> first | (cases h; done) | skip
  case alloc t => obtain ⟨h1, h2⟩ := eAlloc_sound (P := P) hc hM h; exact ⟨h2, fin h1⟩
  case box t x => obtain ⟨h1, h2⟩ := eBox_sound (P := P) (t := t) hF hM h; exact ⟨h2, fin h1⟩
  case buildSlice t n parts => obtain ⟨h1, h2⟩ := eBuildSlice_sound (P := P) hc hF hM h; exact ⟨h2, fin h1⟩
  case store t x y =>
    obtain ⟨⟨w', h1, h2, h3⟩, h4⟩ := eStore_sound (P := P) hc hF hM h
    exact ⟨h4, ρ, w', .skip, by simp only [Sem.run_bind, h2, Result.andThen_ok, Sem.run_pure], .refl _ _, h3, by rw [h1]; exact undefS_ok _ _, .inr ⟨rfl, h1⟩⟩
  case call c =>
    obtain ⟨callee, args, argTypes⟩ := c
    cases callee <;> first | (cases h; done) | skip
    rename_i b
    cases b <;> first | (cases h; done) | skip
    have h : (match args.toList, argTypes.toList with | [x, y], [t, t'] => eAppend cfg s t t' x y | _, _ => none) = some e := h
    split at h
    · rename_i x y t t' hx ht
      have hx' : args = #[x, y] := by rw [← Array.toArray_toList (xs := args), hx]
      have ht' : argTypes = #[t, t'] := by rw [← Array.toArray_toList (xs := argTypes), ht]
      subst hx' ht'
      obtain ⟨h1, h2⟩ := eAppend_sound (P := P) (ty := ty) hc hF hM h
      refine ⟨h2, ?_⟩
      simpa [resolve, invoke, builtin] using fin h1
    · cases h

theorem evAll_sound (hF : FrOK ρ s.nx s.N s.F a) (hM : MemOK cfg w0 ρ s w) : ∀ (l : List Operand) (r : List SV), evAll cfg s.F l = some r → l.map a.eval = r.map (SV.den ρ) ∧ ∀ v ∈ r, v.ok ρ s.nx
  | [], r, h => by
    have h := Option.some.inj h
    subst h
    exact ⟨rfl, fun v hv => by cases hv⟩
  | x :: l, r, h => by
    unfold evAll at h
    split at h
    · rename_i v q hv hq
      have h := Option.some.inj h
      subst h
      obtain ⟨h1, h2⟩ := evO_sound hF hM hv
      obtain ⟨h3, h4⟩ := evAll_sound hF hM l q hq
      refine ⟨by simp [h1, h3], fun u hu => ?_⟩
      rcases List.mem_cons.1 hu with hu | hu
      · rw [hu]; exact h2
      · exact h4 u hu
    · cases h

theorem frame0_get : ∀ (l : List SV) (i : Nat) (F : Tr SV) (d : Nat) (x : SV), i + l.length ≤ 8192 → (frame0 l i F).get d = some x → (i ≤ d ∧ l[d - i]? = some x) ∨ F.get d = some x
  | [], i, F, d, x, _, h => .inr h
  | v :: l, i, F, d, x, hl, h => by
    simp only [List.length_cons] at hl
    rcases frame0_get l (i + 1) _ d x (by omega) h with ⟨h1, h2⟩ | h1
    · refine .inl ⟨by omega, ?_⟩
      rw [show d - i = (d - (i + 1)) + 1 by omega, List.getElem?_cons_succ]
      exact h2
    · by_cases e : i = d
      · subst e
        rw [Tr.get_put_same (by omega)] at h1
        refine .inl ⟨Nat.le_refl _, ?_⟩
        simpa using h1
      · rw [Tr.get_put_other e] at h1
        exact .inr h1

theorem callOf_sound (hc : CfgOk P cfg) (hF : FrOK ρ s.nx s.N s.F a) (hM : MemOK cfg w0 ρ s w) {o : Oper} {f : FuncId} {fn : Func} {b : Code} {vs : List SV} (h : callOf cfg s o.op = some (f, fn, b, vs)) (thr : Nat) :
    (∀ w, (execOp a.eval o).run P w = .ok (.enter f (vs.map (SV.den ρ)).toArray) w) ∧ P.funcs[f]? = some fn ∧ fn.body = some b ∧
    FrOK ρ s.nx (s.callee fn vs thr).N (s.callee fn vs thr).F { tmps := (vs.map (SV.den ρ)).toArray ++ Array.replicate (fn.ntmps - (vs.map (SV.den ρ)).toArray.size) undef, defers := [] } := by
  obtain ⟨dst, op, ty, pos, after, guard⟩ := o
  unfold callOf at h
  split at h
  · rename_i c hop
    simp only at hop
    subst hop
    split at h
    · rename_i g hcallee
      split at h
      · rename_i fn' vs' hfn hvs
        split at h
        · rename_i b' hb h1 h2
          have h := Option.some.inj h
          simp only [Prod.mk.injEq] at h
          obtain ⟨rfl, rfl, rfl, rfl⟩ := h
          have hfok := hc.f _ (findF_mem hfn)
          obtain ⟨e1, e2⟩ := evAll_sound hF hM _ _ hvs
          have h1 := Nat.le_of_ble_eq_true h1
          have h2 := Nat.le_of_ble_eq_true h2
          rw [lenX_eq] at h1 h2
          refine ⟨fun w => ?_, hfok.f, hb, ?_⟩
          · obtain ⟨callee, args, argTypes⟩ := c
            simp only at hcallee e1
            subst hcallee
            have e3 : args.map a.eval = (vs'.map (SV.den ρ)).toArray := by
              rw [← e1]
              rw [← Array.toList_map, Array.toArray_toList]
            unfold execOp
            have hname : (fn'.name == "runtime.NumGoroutine") = false := hfok.nm
            have hfn0 : P.funcs[g]? = some fn' := hfok.f
            simp only [resolve, e3, Act.eval, Deferred.ofValue, Sem.run_bind, Sem.run_pure, Result.andThen_ok, invoke]
            simp [callFunc, program, Sem.run, hfn0, hb]
            intro hn
            rw [hn] at hname
            simp at hname
          · refine ⟨by simp [St.callee]; omega, rfl, fun d x hx => ?_⟩
            rcases frame0_get _ _ _ _ _ (by omega) hx with ⟨_, hx⟩ | hx
            · simp only [Nat.sub_zero] at hx
              refine ⟨e2 x (List.mem_of_getElem? hx), ?_⟩
              have hd : d < vs'.length := (List.getElem?_eq_some_iff.1 hx).1
              have : (vs'.map (SV.den ρ)).toArray[d]? = some (x.den ρ) := by simp [hx]
              rw [Array.getD_eq_getD_getElem?, Array.getElem?_append_left (by simpa using hd), this]
              rfl
            · rw [Tr.get_e] at hx; cases hx
        · cases h
      · cases h
    · cases h
  · cases h

/-- What a result is read from. -/
def resV (tmps : Array Value) : ResultVar → Sem Value
  | .tmp t => pure (tmps.getD t undef)
  | .cell p t => do loadVar t (← asAddr (tmps.getD p undef))
theorem resV_eq (fn : Func) (tmps : Array Value) : results fn tmps = (do let vs ← fn.results.mapM (resV tmps); pure (if h : vs.size = 1 then vs[0] else .tuple vs)) := by
  unfold results
  congr 2

theorem resOne_sound (hc : CfgOk P cfg) (hF : FrOK ρ s.nx s.N s.F a) (hM : MemOK cfg w0 ρ s w) {x : ResultVar} {v : SV} (h : resOne cfg s x = some v) :
    (resV a.tmps x).run P w = .ok (v.den ρ) w ∧ v.ok ρ s.nx := by
  cases x with
  | tmp t =>
    obtain ⟨h1, h2⟩ := hF.get t v h
    exact ⟨by simp only [resV, Sem.run_pure, h2], h1⟩
  | cell p t =>
    have h : (match pLoad cfg s [] t (.tmp p) with | some r => some r.v | none => none) = some v := h
    split at h
    · rename_i r hr
      have h := Option.some.inj h
      subst h
      obtain ⟨h1, h2⟩ := pLoad_sound (P := P) hc hF hM hr
      refine ⟨?_, h2⟩
      have hptr : ∃ ad, a.eval (.tmp p) = .pointer (some ad) := by
        unfold pLoad at hr
        split at hr
        · rename_i j o td hx _
          obtain ⟨q, _⟩ := evF_sound hF hM hx
          exact ⟨_, q⟩
        · cases hr
      obtain ⟨ad, had⟩ := hptr
      rw [had] at h1
      have had' : a.tmps.getD p undef = .pointer (some ad) := had
      simp only [resV, had', asAddr, Sem.run_bind, Sem.run_pure, Result.andThen_ok]
      simpa [Instr.loadAt, Instr.sureAddr] using h1
    · cases h

theorem pack_sound {v : SV} {p : Bool × List FV} (h : pack v = some p) (ρ : Env) : partDen ρ p = v.den ρ ∧ ∀ n, v.ok ρ n → okL ρ n p.2 := by
  cases v with
  | f x =>
    have h := Option.some.inj h
    subst h
    exact ⟨rfl, fun n hx y hy => by rw [List.mem_singleton] at hy; rw [hy]; exact hx⟩
  | agg l =>
    have h := Option.some.inj h
    subst h
    exact ⟨rfl, fun n hx => hx⟩
  | tup l => cases h

theorem resAll_sound (hc : CfgOk P cfg) (hF : FrOK ρ s.nx s.N s.F a) (hM : MemOK cfg w0 ρ s w) : ∀ (l : List ResultVar) (r : List (Bool × List FV)), resAll cfg s l = some r →
    (l.mapM (resV a.tmps)).run P w = .ok (r.map (partDen ρ)) w ∧ (∀ p ∈ r, okL ρ s.nx p.2) ∧ r.length = l.length
  | [], r, h => by
    have h := Option.some.inj h
    subst h
    exact ⟨by simp, (fun p hp => nomatch hp), rfl⟩
  | x :: l, r, h => by
    unfold resAll at h
    split at h
    · rename_i v q hv hq
      split at h
      · rename_i p hp
        have h := Option.some.inj h
        subst h
        obtain ⟨h1, h2⟩ := resOne_sound (P := P) hc hF hM hv
        obtain ⟨h3, h4, h5⟩ := resAll_sound hc hF hM l q hq
        obtain ⟨h6, h7⟩ := pack_sound hp ρ
        refine ⟨?_, fun u hu => ?_, by simp [h5]⟩
        · rw [List.mapM_cons]
          simp only [Sem.run_bind]
          rw [h1]
          simp only [Result.andThen_ok, h3, Sem.run_pure, List.map_cons, h6]
        · rcases List.mem_cons.1 hu with hu | hu
          · rw [hu]; exact h7 _ h2
          · exact h4 u hu
      · cases h
    · cases h

theorem resS_sound (hc : CfgOk P cfg) (hF : FrOK ρ s.nx s.N s.F a) (hM : MemOK cfg w0 ρ s w) {fn : Func} {v : SV} (h : resS cfg s fn = some v) :
    (results fn a.tmps).run P w = .ok (v.den ρ) w ∧ v.ok ρ s.nx := by
  unfold resS at h
  rw [resV_eq, ← Array.toArray_toList (xs := fn.results), List.mapM_toArray]
  split at h
  · rename_i x hx
    obtain ⟨h1, h2⟩ := resOne_sound (P := P) hc hF hM h
    refine ⟨?_, h2⟩
    rw [hx]
    simp only [List.mapM_cons, List.mapM_nil, Sem.run_bind, Sem.run_map]
    rw [h1]
    simp
  · rename_i l hl
    split at h
    · rename_i r hr
      have h := Option.some.inj h
      subst h
      obtain ⟨h1, h2, h3⟩ := resAll_sound (P := P) hc hF hM _ _ hr
      refine ⟨?_, h2⟩
      simp only [Sem.run_bind, Sem.run_map]
      rw [h1]
      have hne : ¬ (List.map (partDen ρ) r).toArray.size = 1 := by
        intro e
        simp at e
        rw [h3] at e
        match hq : fn.results.toList, e with
        | [x], _ => exact hl x hq
      simp only [Result.andThen_ok, Sem.run_pure, dif_neg hne, SV.den]
    · cases h

theorem matS_sound (hM : MemOK cfg w0 ρ s w) {o : Op} {r : Nat} {xs : List FV} (h : matS cfg s o = some (r, xs)) : Ext s (s.mat r xs) ∧ ∃ ρ', Env.le s.nx ρ ρ' ∧ MemOK cfg w0 ρ' (s.mat r xs) w := by
  unfold matS at h
  split at h
  · split at h
    · rename_i r' _
      split at h
      · rename_i e y l hR hb ht
        have h := Option.some.inj h
        simp only [Prod.mk.injEq] at h
        obtain ⟨rfl, rfl⟩ := h
        have hb := Nat.le_of_ble_eq_true hb
        have ht := Nat.le_of_ble_eq_true ht
        exact ⟨Ext.mat ht, hM.mat hR (by omega)⟩
      · cases h
    · cases h
  · cases h

end
end Go.Sx
