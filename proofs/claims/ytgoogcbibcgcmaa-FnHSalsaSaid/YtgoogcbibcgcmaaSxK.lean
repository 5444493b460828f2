/- A symbolic executor over the model, part eleven: the executor's answer is the model's. -/
import Derived.Test.YtgoogcbibcgcmaaSxJ
namespace Go.Sx
open Go

section
variable {P : Program} {cfg : Cfg} {w0 : World}

theorem go_run (hc : CfgOk P cfg) {n : Nat} (hG0 : ∀ b, SoundG P cfg w0 (go cfg b n)) (b : Bool) (k : List It) (s : St) (Q : Exit → Act → World → Prop) (ρ : Env) (a : Act) (w : World)
    (hF : FrOK ρ s.nx s.N s.F a) (hM : MemOK cfg w0 ρ s w) (hob : Obs ρ (go cfg b (n + 1) k s).st.obs)
    (post : ∀ ρ' a' w', Env.le s.nx ρ ρ' → FrOK ρ' (go cfg b (n + 1) k s).st.nx (go cfg b (n + 1) k s).st.N (go cfg b (n + 1) k s).st.F a' → MemOK cfg w0 ρ' (go cfg b (n + 1) k s).st w' → OutQ P Q (go cfg b (n + 1) k s) a' w') :
    wpK P Q k .normal a w := by
  -- where the executor goes on from a later state
  have nxt : ∀ (k' : List It) (s2 : St) (ρ1 : Env) (a1 : Act) (w1 : World), Env.le s.nx ρ ρ1 → s.nx ≤ s2.nx → FrOK ρ1 s2.nx s2.N s2.F a1 → MemOK cfg w0 ρ1 s2 w1 →
      go cfg b (n + 1) k s = go cfg b n k' s2 → wpK P Q k' .normal a1 w1 := by
    intro k' s2 ρ1 a1 w1 hle hnx hF1 hM1 heq
    rw [heq] at hob post
    have hob1 : Obs ρ1 (go cfg b n k' s2).st.obs := fun ob h => by rw [hle.i]; exact hob ob h
    exact (hG0 b).run k' s2 Q ρ1 a1 w1 hF1 hM1 hob1 fun ρ' a' w' h1 h2 h3 => post ρ' a' w' (hle.trans h1 hnx) h2 h3
  -- where it stands
  have stand : ∀ (o : Out), go cfg b (n + 1) k s = o → o.st = s → OutQ P Q o a w := by
    intro o heq hst
    rw [heq] at post
    exact post ρ a w (.refl _ _) (by rw [hst]; exact hF) (by rw [hst]; exact hM)
  cases k with
  | nil => exact stand (.done s) rfl rfl
  | cons it k =>
    cases it with
    | blk id => exact nxt k s ρ a w (.refl _ _) (Nat.le_refl _) hF hM rfl
    | lp c m =>
      cases m with
      | zero => exact stand (.stop (.lp c 0 :: k) s) rfl rfl
      | succ m =>
        have h : c.wp P (wpK P Q (.lp c m :: k)) a w := nxt (.code c :: .lp c m :: k) s ρ a w (.refl _ _) (Nat.le_refl _) hF hM rfl
        show c.wp P (Exit.then (Jn P c (wpK P Q k) m) (wpK P Q k)) a w
        exact Code.wp_mono (fun e a w q => by cases e <;> exact q) h
    | ops all l =>
      cases l with
      | nil => exact nxt k s ρ a w (.refl _ _) (Nat.le_refl _) hF hM rfl
      | cons o l =>
        have hwant := wantS_sound hF (all := all) (o := o)
        have stop : go cfg b (n + 1) (.ops all (o :: l) :: k) s = .stop (.ops all (o :: l) :: k) s → wpK P Q (.ops all (o :: l) :: k) .normal a w := fun heq => stand _ heq rfl
        cases hw : wantS s all o with
        | unknown => exact stop (by unfold go; simp only [hw])
        | no =>
          cases hp : s.put o.dst undefS with
          | none => exact stop (by unfold go; simp only [hw, hp])
          | some s2 =>
            obtain ⟨_, p1, p2, p3, p4, p5, p6, p7⟩ := Ext.put hp
            have h : wpList P all (wpK P Q k) l (a.put o.dst undef) w := nxt (.ops all l :: k) s2 ρ (a.put o.dst undef) w (.refl _ _) (Nat.le_of_eq p4.symm) (hF.putS (undefS_ok _ _) hp) (hM.putS hp) (by (conv => lhs; unfold go); simp only [hw, hp])
            show wpList P all (wpK P Q k) (o :: l) a w
            unfold wpList
            rw [if_neg (by rw [hwant.2 hw]; simp)]
            exact h
        | yes =>
          have hwy := hwant.1 hw
          cases hpu : pureOp cfg s o.op with
          | some r =>
            cases hp : (s.pv r).put o.dst r.v with
            | none => exact stop (by unfold go; simp only [hw, hpu, hp])
            | some s2 =>
              obtain ⟨_, p1, p2, p3, p4, p5, p6, p7⟩ := Ext.put hp
              have heq : go cfg b (n + 1) (.ops all (o :: l) :: k) s = go cfg b n (.ops all l :: k) s2 := by
                conv => lhs; unfold go
                simp only [hw, hpu, hp]
              have hob1 : Obs ρ r.obs := by
                rw [heq] at hob
                exact hob.sub fun ob h => ((hG0 b).ext _ _).obs ob (by rw [p6]; simp [St.pv, h])
              obtain ⟨e1, e2⟩ := pureOp_sound hc hF hM hpu hob1
              have h : wpList P all (wpK P Q k) l (a.put o.dst (r.v.den ρ)) w := nxt (.ops all l :: k) s2 ρ _ w (.refl _ _) (Nat.le_of_eq p4.symm) (FrOK.putS (s := s.pv r) hF e2 hp) (MemOK.putS (s := s.pv r) (hM.of_eq rfl rfl rfl rfl) hp) heq
              show wpList P all (wpK P Q k) (o :: l) a w
              unfold wpList
              rw [if_pos hwy]
              refine .inl ?_
              unfold Oper.wp
              rw [e1]
              exact h
          | none =>
            cases hef : effOp cfg s o.op with
            | some e =>
              cases hp : (s.eff e).put o.dst (e.v.getD undefS) with
              | none => exact stop (by unfold go; simp only [hw, hpu, hef, hp])
              | some s2 =>
                obtain ⟨_, p1, p2, p3, p4, p5, p6, p7⟩ := Ext.put hp
                have heq : go cfg b (n + 1) (.ops all (o :: l) :: k) s = go cfg b n (.ops all l :: k) s2 := by
                  conv => lhs; unfold go
                  simp only [hw, hpu, hef, hp]
                obtain ⟨kp, ρ', w', nx, e1, e2, e3, e4, e5⟩ := effOp_sound hc hF hM hef
                have hF1 : FrOK ρ' (s.eff e).nx (s.eff e).N (s.eff e).F a := hF.le e2 kp.nx
                have h : wpList P all (wpK P Q k) l (a.put o.dst ((e.v.getD undefS).den ρ')) w' := nxt (.ops all l :: k) s2 ρ' _ w' e2 (by rw [p4]; exact kp.nx) (hF1.putS e4 hp) (e3.putS hp) heq
                show wpList P all (wpK P Q k) (o :: l) a w
                unfold wpList
                rw [if_pos hwy]
                refine .inl ?_
                unfold Oper.wp
                rw [e1]
                rcases e5 with e5 | ⟨e5, e6⟩
                · rw [e5]; exact h
                · rw [e5]
                  rw [e6] at h
                  exact h
            | none =>
              cases hcall : callOf cfg s o.op with
              | some x =>
                obtain ⟨f, fn, bd, vs⟩ := x
                have callee : ∀ (s1 : St), (go cfg false n [.code bd] (s.callee fn vs s.thr) = .ret s1 ∨ go cfg false n [.code bd] (s.callee fn vs s.thr) = .done s1) →
                    (∀ (v : SV) (s2 : St), resS cfg s1 fn = some v → (s.back s1).put o.dst v = some s2 → go cfg b (n + 1) (.ops all (o :: l) :: k) s = go cfg b n (.ops all l :: k) s2) →
                    (resS cfg s1 fn = none → go cfg b (n + 1) (.ops all (o :: l) :: k) s = .stop (.ops all (o :: l) :: k) s) →
                    (∀ v, resS cfg s1 fn = some v → (s.back s1).put o.dst v = none → go cfg b (n + 1) (.ops all (o :: l) :: k) s = .stop (.ops all (o :: l) :: k) s) →
                    wpK P Q (.ops all (o :: l) :: k) .normal a w := by
                  intro s1 hout g1 g2 g3
                  cases hres : resS cfg s1 fn with
                  | none => exact stop (g2 hres)
                  | some v =>
                    cases hp : (s.back s1).put o.dst v with
                    | none => exact stop (g3 v hres hp)
                    | some s2 =>
                      have heq := g1 v s2 hres hp
                      obtain ⟨_, p1, p2, p3, p4, p5, p6, p7⟩ := Ext.put hp
                      have hx := (hG0 false).ext [.code bd] (s.callee fn vs s.thr)
                      have hst : (go cfg false n [.code bd] (s.callee fn vs s.thr)).st = s1 := by rcases hout with h | h <;> rw [h] <;> rfl
                      rw [hst] at hx
                      have hob1 : Obs ρ s1.obs := by
                        rw [heq] at hob
                        exact hob.sub fun ob h => ((hG0 b).ext _ _).obs ob (by rw [p6]; exact h)
                      show wpList P all (wpK P Q k) (o :: l) a w
                      unfold wpList
                      rw [if_pos hwy]
                      refine .inl ?_
                      unfold Oper.wp
                      rw [(callOf_sound hc hF hM hcall s.thr).1 w]
                      refine run_call hc (hG0 false) hF hM hcall hout hres hob1 fun ρ' w' hle hM' hv => ?_
                      have hF1 : FrOK ρ' (s.back s1).nx (s.back s1).N (s.back s1).F a := hF.le hle hx.nx
                      exact nxt (.ops all l :: k) s2 ρ' _ w' hle (by rw [p4]; exact hx.nx) (hF1.putS hv hp) (MemOK.putS (s := s.back s1) (hM'.of_eq rfl rfl rfl rfl) hp) heq
                cases hout : go cfg false n [.code bd] (s.callee fn vs s.thr) with
                | ret s1 =>
                  exact callee s1 (.inl hout) (fun v s2 h1 h2 => by (conv => lhs; unfold go); simp only [hw, hpu, hef, hcall, hout, h1, h2])
                    (fun h1 => by (conv => lhs; unfold go); simp only [hw, hpu, hef, hcall, hout, h1]) (fun v h1 h2 => by (conv => lhs; unfold go); simp only [hw, hpu, hef, hcall, hout, h1, h2])
                | done s1 =>
                  exact callee s1 (.inr hout) (fun v s2 h1 h2 => by (conv => lhs; unfold go); simp only [hw, hpu, hef, hcall, hout, h1, h2])
                    (fun h1 => by (conv => lhs; unfold go); simp only [hw, hpu, hef, hcall, hout, h1]) (fun v h1 h2 => by (conv => lhs; unfold go); simp only [hw, hpu, hef, hcall, hout, h1, h2])
                | exit id s1 => exact stop (by unfold go; simp only [hw, hpu, hef, hcall, hout])
                | stop k1 s1 => exact stop (by unfold go; simp only [hw, hpu, hef, hcall, hout])
              | none =>
                cases hm : matS cfg s o.op with
                | none => exact stop (by unfold go; simp only [hw, hpu, hef, hcall, hm])
                | some x =>
                  obtain ⟨r, xs⟩ := x
                  obtain ⟨m1, ρ', m2, m3⟩ := matS_sound hM hm
                  exact nxt (.ops all (o :: l) :: k) (s.mat r xs) ρ' a w m2 m1.nx (hF.le m2 m1.nx) m3 (by (conv => lhs; unfold go); simp only [hw, hpu, hef, hcall, hm])
    | code c =>
      have stop : go cfg b (n + 1) (.code c :: k) s = .stop (.code c :: k) s → wpK P Q (.code c :: k) .normal a w := fun heq => stand _ heq rfl
      show c.wp P (wpK P Q k) a w
      cases c with
      | skip => exact wp_skip (nxt k s ρ a w (.refl _ _) (Nat.le_refl _) hF hM rfl)
      | seq x y =>
        have h : x.wp P (wpK P Q (.code y :: k)) a w := nxt (.code x :: .code y :: k) s ρ a w (.refl _ _) (Nat.le_refl _) hF hM rfl
        exact wp_seq (Code.wp_mono (fun e a w q => by cases e <;> exact q) h)
      | block id bd =>
        have h : bd.wp P (wpK P Q (.blk id :: k)) a w := nxt (.code bd :: .blk id :: k) s ρ a w (.refl _ _) (Nat.le_refl _) hF hM rfl
        exact wp_block (Code.wp_mono (fun e a w q => by cases e <;> exact q) h)
      | exit id =>
        refine wp_exit ?_
        cases hd : dropTo id k with
        | some k' => exact wpK_exit hd (nxt k' s ρ a w (.refl _ _) (Nat.le_refl _) hF hM (by (conv => lhs; unfold go); simp only [hd]))
        | none => exact wpK_exit_none hd (stand (.exit id s) (by unfold go; simp only [hd]) rfl)
      | ret => exact wp_ret (wpK_ret (stand (.ret s) rfl rfl) k)
      | cond x p q =>
        cases hx : evF cfg s x with
        | none => exact stop (by unfold go; simp only [hx])
        | some v =>
          cases v with
          | bool t =>
            have hev := (evF_sound hF hM hx).1
            cases t with
            | true => exact wp_cond_true hev (nxt (.code p :: k) s ρ a w (.refl _ _) (Nat.le_refl _) hF hM (by (conv => lhs; unfold go); simp only [hx]))
            | false => exact wp_cond_false hev (nxt (.code q :: k) s ρ a w (.refl _ _) (Nat.le_refl _) hF hM (by (conv => lhs; unfold go); simp only [hx]))
          | _ => exact stop (by unfold go; simp only [hx])
      | loop bd =>
        cases b with
        | true => exact stop rfl
        | false =>
          have h : Jn P bd (wpK P Q k) 4096 a w := nxt (.lp bd 4096 :: k) s ρ a w (.refl _ _) (Nat.le_refl _) hF hM rfl
          exact wp_loop_Jn 4096 h
      | region id ops dr =>
        cases dr with
        | false =>
          have h : wpList P ops (wpK P Q k) ops.toList a w := nxt (.ops ops ops.toList :: k) s ρ a w (.refl _ _) (Nat.le_refl _) hF hM rfl
          exact wp_region_list h
        | true =>
          cases hsz : ops.size with
          | zero => exact stop (by unfold go; simp only [hsz])
          | succ m =>
            cases hB : Region.lexTailB .any ops m with
            | false =>
              cases hh : headRun cfg s ops (headN ops.toList) with
              | none => exact stop (by unfold go; simp only [hsz, hB, hh])
              | some s' =>
                have heq : go cfg b (n + 1) (.code (.region id ops true) :: k) s = go cfg b n (.ops ops (dropX (headN ops.toList) ops.toList) :: k) s' := by
                  conv => lhs; unfold go
                  simp only [hsz, hB, hh]
                refine headRun_sound hc hh hF hM fun ρ' a' w' hle hF' hM' => ?_
                rw [← dropX_eq]
                exact nxt (.ops ops (dropX (headN ops.toList) ops.toList) :: k) s' ρ' a' w' hle (Ext.head hh).nx hF' hM' heq
            | true =>
              cases hq : qrun cfg (go cfg false n) ops (takeN m ops.toList) s with
              | none =>
                cases hh : headRun cfg s ops (headN ops.toList) with
                | none => exact stop (by unfold go; simp only [hsz, hB, hq, hh])
                | some s' =>
                  have heq : go cfg b (n + 1) (.code (.region id ops true) :: k) s = go cfg b n (.ops ops (dropX (headN ops.toList) ops.toList) :: k) s' := by
                    conv => lhs; unfold go
                    simp only [hsz, hB, hq, hh]
                  refine headRun_sound hc hh hF hM fun ρ' a' w' hle hF' hM' => ?_
                  rw [← dropX_eq]
                  exact nxt (.ops ops (dropX (headN ops.toList) ops.toList) :: k) s' ρ' a' w' hle (Ext.head hh).nx hF' hM' heq
              | some s' =>
                have heq : go cfg b (n + 1) (.code (.region id ops true) :: k) s = go cfg b n (.ops ops (dropX m ops.toList) :: k) s' := by
                  conv => lhs; unfold go
                  simp only [hsz, hB, hq]
                obtain ⟨q1, q2, q3, q4, q5, q6, q7⟩ := qrun_ext (hG0 false) ops _ _ _ hq
                have hob1 : Obs ρ s'.obs := by
                  rw [heq] at hob
                  exact hob.sub fun ob h => ((hG0 b).ext _ _).obs ob h
                have hMd : MemOK cfg w0 ρ s { w with drawn := w.drawn + 1 } := hM.drew
                refine wp_region_quiet_tail (C := fun w => MemOK cfg w0 ρ s w) hc.m hB hMd ?_
                rw [← takeN_eq]
                refine qrun_sound hc (hG0 false) ops _ _ _ hq hob1 hMd _ a hF fun a' hF' w' hw' => ?_
                rw [← dropX_eq]
                exact nxt (.ops ops (dropX m ops.toList) :: k) s' ρ a' w' (.refl _ _) (Nat.le_of_eq q4.symm) hF' (hw'.of_eq q1 q2 q3 q4) heq
      | rangeFunc f ps x y => exact stop rfl
      | scope bd => exact stop rfl
      | label l => exact stop rfl
      | goto l => exact stop rfl
      | refuse y => exact stop rfl

theorem go_soundG (hc : CfgOk P cfg) : ∀ (n : Nat) (b : Bool), SoundG P cfg w0 (go cfg b n) := by
  intro n
  induction n with
  | zero => exact fun b => ⟨fun k s => .refl _, fun k s Q ρ a w hF hM _ post => post ρ a w (.refl _ _) hF hM⟩
  | succ n ih => exact fun b => ⟨fun k s => go_ext ih b k s, fun k s Q ρ a w hF hM hob post => go_run hc ih b k s Q ρ a w hF hM hob post⟩

end
end Go.Sx
