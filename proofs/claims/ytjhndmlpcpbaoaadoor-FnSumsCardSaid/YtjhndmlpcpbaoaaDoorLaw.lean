/- The law, called: true, whatever the data. -/
import Derived.Test.YtjhndmlpcpbaoaaDoorSegLaw
import Derived.Test.YtjhndmlpcpbaoaaDoorImpS
import Derived.Test.YtjhndmlpcpbaoaaDoorImpB
import Derived.Test.YtjhndmlpcpbaoaaDoorCom2
namespace Go.Proofs.YtjhndmlpcpbaoaaDoor
open Go Go.Sx Go.Proofs Go.RowKit
theorem same_any (w : World) (u v : Value) (n : Nat) (g : Nat → Int) (hn : 0 < n) (hu : DataAt w u n g) (hv : DataAt w v n g) : Calls Tryd.prog 5 #[u, v] w fun e w' => e = .returned (.bool true) ∧ w' = w := by
  rcases hu with ⟨p, o, c, h1, _, _, h4⟩ | ⟨_, h2⟩
  · rcases hv with ⟨p', o', c', k1, _, _, k4⟩ | ⟨_, k2⟩
    · subst h1 k1
      have hx : ∀ (j : Nat) x, ((List.range n).map g)[j]? = some x → j < n ∧ x = g j := by
        intro j x hx
        have hj : j < n := by have := (List.getElem?_eq_some_iff.1 hx).1; simpa using this
        refine ⟨hj, ?_⟩
        simp [hj] at hx
        exact hx.symm
      have h := same_calls w ⟨p, o, none⟩ ⟨p', o', none⟩ c c' ((List.range n).map g) (fun j x hj => by
          obtain ⟨a, rfl⟩ := hx j x hj
          rw [Addr.add_lit]; exact h4 j a) (fun j x hj => by
          obtain ⟨a, rfl⟩ := hx j x hj
          rw [Addr.add_lit]; exact k4 j a)
      rw [List.length_map, List.length_range] at h
      exact h
    · omega
  · omega
theorem reach_goE {P : Program} {cfg : Cfg} {w0 : World} {ρ : Env} (hc : CfgOk P cfg) {Q : Exit → Act → World → Prop} {k : List It} {s : St} {b : Bool} {n : Nat} {o : Out} (ho : o = go cfg b n k s) (hob : Obs ρ o.st.obs)
    (h : ∀ ρ', Env.le s.nx ρ ρ' → OutR P cfg w0 Q o ρ') : Go.Sx.Reach P cfg w0 Q k s ρ := by
  subst ho
  exact reach_go hc b n hob h
theorem reach_toE {P : Program} {cfg : Cfg} {w0 : World} {ρ : Env} (hc : CfgOk P cfg) {Q : Exit → Act → World → Prop} {k : List It} {s : St} {b : Bool} {n : Nat} {o : Out} (ho : o = go cfg b n k s) {N nx m : Nat} (thr : Nat) {es : List E} {fl : List (Nat × SV)} {ml : List (Nat × Win)} (orc : List Bool)
    (h1 : o.stops = true) (h2 : nilB o.st.obs = true) (h3 : cutB cfg o.st N nx fl ml m es = true) (hR : ∀ ρ', Env.le s.nx ρ ρ' → Go.Sx.Reach P cfg w0 Q o.stk (mkSt N nx thr fl ml orc) (ρ'.ext m es)) : Go.Sx.Reach P cfg w0 Q k s ρ := by
  subst ho
  exact reach_to hc b n thr orc h1 h2 h3 hR
theorem reach_retE {P : Program} {cfg : Cfg} {w0 : World} {ρ : Env} (hc : CfgOk P cfg) {fn : Func} {K : Value → World → Prop} {k : List It} {s : St} {b : Bool} {n : Nat} {o : Out} (ho : o = go cfg b n k s) {v : SV} (h1 : o.rets = true) (h2 : Obs ρ o.st.obs) (h3 : resS cfg o.st fn = some v)
    (hK : ∀ ρ' w', Env.le s.nx ρ ρ' → MemOK cfg w0 ρ' o.st w' → v.ok ρ' o.st.nx → K (v.den ρ') w') : Go.Sx.Reach P cfg w0 (callQ P fn K) k s ρ := by
  subst ho
  exact reach_ret hc b n h1 h2 h3 hK
theorem d_ag {d : SV} (hd : isL d) {ρ ρ' : Env} (h : Ag 1 64 ρ ρ') : d.den ρ' = d.den ρ := by
  rcases hd with rfl | rfl
  · simp only [datL, SV.den, FV.den, E.den, Cp.den, h.i 0 (by omega), h.b 0 (by omega), h.o 0 (by omega), h.c 0 (by omega)]
  · rfl


set_option maxRecDepth 100000 in
set_option maxHeartbeats 1000000 in
theorem stepL0 {Q : Exit → Act → World → Prop} {d : SV} (hd : isL d) (w : World) (G : Glob w) (dv : Value) (L : Nat) (D : Nat → Int) (hdv : DataAt w dv L D) (hL : L ≤ 2147483647) (ρs : Env) (hden : d.den ρs = dv) (wA : World) (hkA : Below w.heap.size w wA) (ρ : Env) (hag : Ag 1 64 ρs ρ)
    (next : ∀ wB ρ', Below w.heap.size w wB → Ag 1 64 ρs ρ' → Go.Sx.Reach Tryd.prog c2 wB Q (oL11 d).stk (oL11 d).st ρ') (hst : (oL11 d).stops = true) (hnil : nilB (oL11 d).st.obs = true) : Go.Sx.Reach Tryd.prog c2 wA Q (oL10 d).stk (s1_0 d) ρ := by
  obtain ⟨A, B, C⟩ := and3_iff (ckL0_all hd)
  obtain ⟨_, A2, _⟩ := and3_iff A
  obtain ⟨a4, a5, _⟩ := and3_iff A2
  obtain ⟨B1, B2, _⟩ := and3_iff B
  obtain ⟨b1, b2, b3⟩ := and3_iff B1
  obtain ⟨b4, b5, _⟩ := and3_iff B2
  obtain ⟨C1, C2, _⟩ := and3_iff C
  obtain ⟨d1, d2, d3⟩ := and3_iff C1
  obtain ⟨d4, d5, _⟩ := and3_iff C2
  have lg := G.size
  obtain ⟨en1, en2⟩ := ent_some a4
  rw [← e1_0_eq] at en1 en2
  refine reach_calls (cfg := c2) (cfgE2_ok _ _) rfl rfl rfl en1 fun a1 w1 hF1 hM1 => ?_
  show Calls Tryd.prog (e1_0 d).f ((e1_0 d).vs.map (SV.den ρ)).toArray w1 (fun en w' => ∃ v, en = .returned v ∧ wpK Tryd.prog _ (e1_0 d).k .normal (a1.put (e1_0 d).dst v) w')
  have en2 : (e1_0 d).f = 6 := en2
  have hargs : [SV.f (.int .i64 (.n 0)), d].map (SV.den ρ) = [.int .i64 0, dv] := by
    simp only [List.map_cons, List.map_nil, d_ag hd hag, hden]
    rfl
  rw [v1_0 hd, hargs, en2, dstB_eq a5]
  have hk1' := (hM1.kp (xs := []) fun j hj => by cases hj).below
  have hk1 : Below w.heap.size w w1 := hkA.trans (hk1'.mono hkA.size)
  refine Calls.mono (imp11 w1 (G.below hk1 lg) dv L D (hdv.kp hk1) hL) fun en w2 ⟨u, he, hB2, hu⟩ => ⟨u, he, ?_⟩
  have hk2 : Below w.heap.size w w2 := hk1.trans (hB2.mono hk1.size)
  refine next_row (cfg := c2) (nx := 1) (fl := fl1_0 d) (N := Tryd.f3.ntmps) rfl rfl rfl [] hF1 (by rfl) (by omega) u w2 ?_
  have r1 : (ρ.more 1 0 0 0 u).r 1 = u := more_r _ _ _
  have hag2 : Ag 1 64 ρs (ρ.more 1 0 0 0 u) := hag.trans (Ag.ofLe (Env.more_le _ _ _ _ _ _))
  generalize ρ.more 1 0 0 0 u = ρ3 at r1 hag2
  refine reach_toE (cfgW2_ok _ _) (oL20_eq d) 0 [] b1 b2 b3 fun ρ4 hle4 => ?_
  show Go.Sx.Reach Tryd.prog c2 w2 _ (oL20 d).stk (s2_0 d) _
  have q1 : (ρ4.ext 64 []).r 1 = u := (hle4.r 1 (by show 1 < 2; omega)).trans r1
  have hag4 : Ag 1 64 ρs (ρ4.ext 64 []) := (hag2.trans (Ag.ofLe (Env.le.mono hle4 (show 1 ≤ 2 by omega)))).trans (Ag.ofExt 1 ρ4 [])
  generalize ρ4.ext 64 [] = ρ5 at q1 hag4
  obtain ⟨en3, en4⟩ := ent_some b4
  rw [← e2_0_eq] at en3 en4
  refine reach_calls (cfg := c2) (cfgE2_ok _ _) rfl rfl rfl en3 fun a3 w3 hF3 hM3 => ?_
  show Calls Tryd.prog (e2_0 d).f ((e2_0 d).vs.map (SV.den ρ5)).toArray w3 (fun en w' => ∃ v, en = .returned v ∧ wpK Tryd.prog _ (e2_0 d).k .normal (a3.put (e2_0 d).dst v) w')
  have en4 : (e2_0 d).f = 7 := en4
  have hargs2 : [SV.f (.int .i64 (.n 64)), nilS, d].map (SV.den ρ5) = [.int .i64 ((64 : Nat) : Int), .slice none 0 0, dv] := by
    simp only [List.map_cons, List.map_nil, d_ag hd hag4, hden]
    rfl
  rw [v2_0 hd, hargs2, en4, dstB_eq b5]
  have hk3' := (hM3.kp (xs := []) fun j hj => by cases hj).below
  have hk3 : Below w.heap.size w w3 := hk2.trans (hk3'.mono hk2.size)
  refine Calls.mono (specB w3 64 L (.inl rfl) hL D dv (hdv.kp hk3)) fun en w4 ⟨v, he2, hB4, hfr⟩ => ⟨v, he2, ?_⟩
  have hk4 : Below w.heap.size w w4 := hk3.trans (hB4.mono hk3.size)
  refine next_row (cfg := c2) (nx := 2) (fl := fl2_0 d) (N := Tryd.f3.ntmps) rfl rfl rfl [] hF3 (by rfl) (by omega) v w4 ?_
  have r2 : (ρ5.more 2 0 0 0 v).r 2 = v := more_r _ _ _
  have r1' : (ρ5.more 2 0 0 0 v).r 1 = u := by simp [Env.more]; exact q1
  have hag5 : Ag 1 64 ρs (ρ5.more 2 0 0 0 v) := hag4.trans (Ag.ofLe (Env.le.mono (Env.more_le _ _ _ _ _ _) (show 1 ≤ 2 by omega)))
  generalize ρ5.more 2 0 0 0 v = ρ6 at r2 r1' hag5
  refine reach_toE (cfgW2_ok _ _) (oL30_eq d) 0 [] d1 d2 d3 fun ρ7 hle7 => ?_
  show Go.Sx.Reach Tryd.prog c2 w4 _ (oL30 d).stk (s3_0 d) _
  have q1' : (ρ7.ext 64 []).r 1 = u := (hle7.r 1 (by show 1 < 3; omega)).trans r1'
  have q2' : (ρ7.ext 64 []).r 2 = v := (hle7.r 2 (by show 2 < 3; omega)).trans r2
  have hag7 : Ag 1 64 ρs (ρ7.ext 64 []) := (hag5.trans (Ag.ofLe (Env.le.mono hle7 (show 1 ≤ 3 by omega)))).trans (Ag.ofExt 1 ρ7 [])
  generalize ρ7.ext 64 [] = ρ8 at q1' q2' hag7
  obtain ⟨en5, en6⟩ := ent_some d4
  rw [← e3_0_eq] at en5 en6
  refine reach_calls (cfg := c2) (cfgE2_ok _ _) rfl rfl rfl en5 fun a5' w5 hF5 hM5 => ?_
  show Calls Tryd.prog (e3_0 d).f ((e3_0 d).vs.map (SV.den ρ8)).toArray w5 (fun en w' => ∃ v, en = .returned v ∧ wpK Tryd.prog _ (e3_0 d).k .normal (a5'.put (e3_0 d).dst v) w')
  have en6 : (e3_0 d).f = 5 := en6
  have hargs3 : [SV.f (.row 1), .f (.row 2)].map (SV.den ρ8) = [u, v] := by
    simp only [List.map_cons, List.map_nil, SV.den, FV.den, q1', q2']
  rw [v3_0 hd, hargs3, en6, dstB_eq d5]
  have hk5' := (hM5.kp (xs := []) fun j hj => by cases hj).below
  have hk5 : Below w.heap.size w w5 := hk4.trans (hk5'.mono hk4.size)
  have hu5 : DataAt w5 u 64 (byt 8 (hsB (h0B 64) L D (nbkB L))) := hu.kp (((hk3'.trans (hB4.mono hk3'.size)).trans (hk5'.mono (Nat.le_trans hk3'.size hB4.size))))
  have hv5 : DataAt w5 v 64 (byt 8 (hsB (h0B 64) L D (nbkB L))) := (hfr.kp hk5').data
  refine Calls.mono (same_any w5 u v 64 _ (by omega) hu5 hv5) fun en w6 ⟨he3, hw6⟩ => ⟨_, he3, ?_⟩
  subst hw6
  refine reach_back (w0 := w6) (cfg := c2) (s1 := mkSt Tryd.f3.ntmps 3 0 [] [] []) (s2 := mkSt Tryd.f3.ntmps 3 0 ((22, .f (.bool true)) :: fl3_0 d) [] []) (fl := fl3_0 d) (n := 3) (m := 64) (N := Tryd.f3.ntmps) (v := .f (.bool true)) (d := some 22) [] 0 hF5 (.refl _ _ ρ8) (by rcases hd with rfl | rfl <;> rfl) (by rcases hd with rfl | rfl <;> rfl) (by rfl) (MemOK.bare rfl rfl rfl w6 _ _ _ _ _ _) trivial (by rfl) ?_
  refine reach_goE (cfgW2_ok _ _) (oL11_eq d) (Obs.nil hnil _) fun ρ9 hle9 => OutR.stop hst ?_
  exact next w6 ρ9 hk5 (hag7.trans (Ag.ofLe (Env.le.mono hle9 (show 1 ≤ 3 by omega))))


set_option maxRecDepth 100000 in
set_option maxHeartbeats 1000000 in
theorem stepL1 {Q : Exit → Act → World → Prop} {d : SV} (hd : isL d) (w : World) (G : Glob w) (dv : Value) (L : Nat) (D : Nat → Int) (hdv : DataAt w dv L D) (hL : L ≤ 2147483647) (ρs : Env) (hden : d.den ρs = dv) (wA : World) (hkA : Below w.heap.size w wA) (ρ : Env) (hag : Ag 1 64 ρs ρ)
    (next : ∀ wB ρ', Below w.heap.size w wB → Ag 1 64 ρs ρ' → Go.Sx.Reach Tryd.prog c2 wB Q (oL12 d).stk (oL12 d).st ρ') (hst : (oL12 d).stops = true) (hnil : nilB (oL12 d).st.obs = true) : Go.Sx.Reach Tryd.prog c2 wA Q (oL11 d).stk (s1_1 d) ρ := by
  obtain ⟨A, B, C⟩ := and3_iff (ckL1_all hd)
  obtain ⟨_, A2, _⟩ := and3_iff A
  obtain ⟨a4, a5, _⟩ := and3_iff A2
  obtain ⟨B1, B2, _⟩ := and3_iff B
  obtain ⟨b1, b2, b3⟩ := and3_iff B1
  obtain ⟨b4, b5, _⟩ := and3_iff B2
  obtain ⟨C1, C2, _⟩ := and3_iff C
  obtain ⟨d1, d2, d3⟩ := and3_iff C1
  obtain ⟨d4, d5, _⟩ := and3_iff C2
  have lg := G.size
  obtain ⟨en1, en2⟩ := ent_some a4
  rw [← e1_1_eq] at en1 en2
  refine reach_calls (cfg := c2) (cfgE2_ok _ _) rfl rfl rfl en1 fun a1 w1 hF1 hM1 => ?_
  show Calls Tryd.prog (e1_1 d).f ((e1_1 d).vs.map (SV.den ρ)).toArray w1 (fun en w' => ∃ v, en = .returned v ∧ wpK Tryd.prog _ (e1_1 d).k .normal (a1.put (e1_1 d).dst v) w')
  have en2 : (e1_1 d).f = 6 := en2
  have hargs : [SV.f (.int .i64 (.n 1)), d].map (SV.den ρ) = [.int .i64 1, dv] := by
    simp only [List.map_cons, List.map_nil, d_ag hd hag, hden]
    rfl
  rw [v1_1 hd, hargs, en2, dstB_eq a5]
  have hk1' := (hM1.kp (xs := []) fun j hj => by cases hj).below
  have hk1 : Below w.heap.size w w1 := hkA.trans (hk1'.mono hkA.size)
  refine Calls.mono (imp12 w1 (G.below hk1 lg) dv L D (hdv.kp hk1) hL) fun en w2 ⟨u, he, hB2, hu⟩ => ⟨u, he, ?_⟩
  have hk2 : Below w.heap.size w w2 := hk1.trans (hB2.mono hk1.size)
  refine next_row (cfg := c2) (nx := 1) (fl := fl1_1 d) (N := Tryd.f3.ntmps) rfl rfl rfl [] hF1 (by rfl) (by omega) u w2 ?_
  have r1 : (ρ.more 1 0 0 0 u).r 1 = u := more_r _ _ _
  have hag2 : Ag 1 64 ρs (ρ.more 1 0 0 0 u) := hag.trans (Ag.ofLe (Env.more_le _ _ _ _ _ _))
  generalize ρ.more 1 0 0 0 u = ρ3 at r1 hag2
  refine reach_toE (cfgW2_ok _ _) (oL21_eq d) 0 [] b1 b2 b3 fun ρ4 hle4 => ?_
  show Go.Sx.Reach Tryd.prog c2 w2 _ (oL21 d).stk (s2_1 d) _
  have q1 : (ρ4.ext 64 []).r 1 = u := (hle4.r 1 (by show 1 < 2; omega)).trans r1
  have hag4 : Ag 1 64 ρs (ρ4.ext 64 []) := (hag2.trans (Ag.ofLe (Env.le.mono hle4 (show 1 ≤ 2 by omega)))).trans (Ag.ofExt 1 ρ4 [])
  generalize ρ4.ext 64 [] = ρ5 at q1 hag4
  obtain ⟨en3, en4⟩ := ent_some b4
  rw [← e2_1_eq] at en3 en4
  refine reach_calls (cfg := c2) (cfgE2_ok _ _) rfl rfl rfl en3 fun a3 w3 hF3 hM3 => ?_
  show Calls Tryd.prog (e2_1 d).f ((e2_1 d).vs.map (SV.den ρ5)).toArray w3 (fun en w' => ∃ v, en = .returned v ∧ wpK Tryd.prog _ (e2_1 d).k .normal (a3.put (e2_1 d).dst v) w')
  have en4 : (e2_1 d).f = 7 := en4
  have hargs2 : [SV.f (.int .i64 (.n 48)), nilS, d].map (SV.den ρ5) = [.int .i64 ((48 : Nat) : Int), .slice none 0 0, dv] := by
    simp only [List.map_cons, List.map_nil, d_ag hd hag4, hden]
    rfl
  rw [v2_1 hd, hargs2, en4, dstB_eq b5]
  have hk3' := (hM3.kp (xs := []) fun j hj => by cases hj).below
  have hk3 : Below w.heap.size w w3 := hk2.trans (hk3'.mono hk2.size)
  refine Calls.mono (specB w3 48 L (.inr (.inl rfl)) hL D dv (hdv.kp hk3)) fun en w4 ⟨v, he2, hB4, hfr⟩ => ⟨v, he2, ?_⟩
  have hk4 : Below w.heap.size w w4 := hk3.trans (hB4.mono hk3.size)
  refine next_row (cfg := c2) (nx := 2) (fl := fl2_1 d) (N := Tryd.f3.ntmps) rfl rfl rfl [] hF3 (by rfl) (by omega) v w4 ?_
  have r2 : (ρ5.more 2 0 0 0 v).r 2 = v := more_r _ _ _
  have r1' : (ρ5.more 2 0 0 0 v).r 1 = u := by simp [Env.more]; exact q1
  have hag5 : Ag 1 64 ρs (ρ5.more 2 0 0 0 v) := hag4.trans (Ag.ofLe (Env.le.mono (Env.more_le _ _ _ _ _ _) (show 1 ≤ 2 by omega)))
  generalize ρ5.more 2 0 0 0 v = ρ6 at r2 r1' hag5
  refine reach_toE (cfgW2_ok _ _) (oL31_eq d) 0 [] d1 d2 d3 fun ρ7 hle7 => ?_
  show Go.Sx.Reach Tryd.prog c2 w4 _ (oL31 d).stk (s3_1 d) _
  have q1' : (ρ7.ext 64 []).r 1 = u := (hle7.r 1 (by show 1 < 3; omega)).trans r1'
  have q2' : (ρ7.ext 64 []).r 2 = v := (hle7.r 2 (by show 2 < 3; omega)).trans r2
  have hag7 : Ag 1 64 ρs (ρ7.ext 64 []) := (hag5.trans (Ag.ofLe (Env.le.mono hle7 (show 1 ≤ 3 by omega)))).trans (Ag.ofExt 1 ρ7 [])
  generalize ρ7.ext 64 [] = ρ8 at q1' q2' hag7
  obtain ⟨en5, en6⟩ := ent_some d4
  rw [← e3_1_eq] at en5 en6
  refine reach_calls (cfg := c2) (cfgE2_ok _ _) rfl rfl rfl en5 fun a5' w5 hF5 hM5 => ?_
  show Calls Tryd.prog (e3_1 d).f ((e3_1 d).vs.map (SV.den ρ8)).toArray w5 (fun en w' => ∃ v, en = .returned v ∧ wpK Tryd.prog _ (e3_1 d).k .normal (a5'.put (e3_1 d).dst v) w')
  have en6 : (e3_1 d).f = 5 := en6
  have hargs3 : [SV.f (.row 1), .f (.row 2)].map (SV.den ρ8) = [u, v] := by
    simp only [List.map_cons, List.map_nil, SV.den, FV.den, q1', q2']
  rw [v3_1 hd, hargs3, en6, dstB_eq d5]
  have hk5' := (hM5.kp (xs := []) fun j hj => by cases hj).below
  have hk5 : Below w.heap.size w w5 := hk4.trans (hk5'.mono hk4.size)
  have hu5 : DataAt w5 u 48 (byt 8 (hsB (h0B 48) L D (nbkB L))) := hu.kp (((hk3'.trans (hB4.mono hk3'.size)).trans (hk5'.mono (Nat.le_trans hk3'.size hB4.size))))
  have hv5 : DataAt w5 v 48 (byt 8 (hsB (h0B 48) L D (nbkB L))) := (hfr.kp hk5').data
  refine Calls.mono (same_any w5 u v 48 _ (by omega) hu5 hv5) fun en w6 ⟨he3, hw6⟩ => ⟨_, he3, ?_⟩
  subst hw6
  refine reach_back (w0 := w6) (cfg := c2) (s1 := mkSt Tryd.f3.ntmps 3 0 [] [] []) (s2 := mkSt Tryd.f3.ntmps 3 0 ((22, .f (.bool true)) :: fl3_1 d) [] []) (fl := fl3_1 d) (n := 3) (m := 64) (N := Tryd.f3.ntmps) (v := .f (.bool true)) (d := some 22) [] 0 hF5 (.refl _ _ ρ8) (by rcases hd with rfl | rfl <;> rfl) (by rcases hd with rfl | rfl <;> rfl) (by rfl) (MemOK.bare rfl rfl rfl w6 _ _ _ _ _ _) trivial (by rfl) ?_
  refine reach_goE (cfgW2_ok _ _) (oL12_eq d) (Obs.nil hnil _) fun ρ9 hle9 => OutR.stop hst ?_
  exact next w6 ρ9 hk5 (hag7.trans (Ag.ofLe (Env.le.mono hle9 (show 1 ≤ 3 by omega))))


set_option maxRecDepth 100000 in
set_option maxHeartbeats 1000000 in
theorem stepL2 {Q : Exit → Act → World → Prop} {d : SV} (hd : isL d) (w : World) (G : Glob w) (dv : Value) (L : Nat) (D : Nat → Int) (hdv : DataAt w dv L D) (hL : L ≤ 2147483647) (ρs : Env) (hden : d.den ρs = dv) (wA : World) (hkA : Below w.heap.size w wA) (ρ : Env) (hag : Ag 1 64 ρs ρ)
    (next : ∀ wB ρ', Below w.heap.size w wB → Ag 1 64 ρs ρ' → Go.Sx.Reach Tryd.prog c2 wB Q (oL13 d).stk (oL13 d).st ρ') (hst : (oL13 d).stops = true) (hnil : nilB (oL13 d).st.obs = true) : Go.Sx.Reach Tryd.prog c2 wA Q (oL12 d).stk (s1_2 d) ρ := by
  obtain ⟨A, B, C⟩ := and3_iff (ckL2_all hd)
  obtain ⟨_, A2, _⟩ := and3_iff A
  obtain ⟨a4, a5, _⟩ := and3_iff A2
  obtain ⟨B1, B2, _⟩ := and3_iff B
  obtain ⟨b1, b2, b3⟩ := and3_iff B1
  obtain ⟨b4, b5, _⟩ := and3_iff B2
  obtain ⟨C1, C2, _⟩ := and3_iff C
  obtain ⟨d1, d2, d3⟩ := and3_iff C1
  obtain ⟨d4, d5, _⟩ := and3_iff C2
  have lg := G.size
  obtain ⟨en1, en2⟩ := ent_some a4
  rw [← e1_2_eq] at en1 en2
  refine reach_calls (cfg := c2) (cfgE2_ok _ _) rfl rfl rfl en1 fun a1 w1 hF1 hM1 => ?_
  show Calls Tryd.prog (e1_2 d).f ((e1_2 d).vs.map (SV.den ρ)).toArray w1 (fun en w' => ∃ v, en = .returned v ∧ wpK Tryd.prog _ (e1_2 d).k .normal (a1.put (e1_2 d).dst v) w')
  have en2 : (e1_2 d).f = 6 := en2
  have hargs : [SV.f (.int .i64 (.n 2)), d].map (SV.den ρ) = [.int .i64 2, dv] := by
    simp only [List.map_cons, List.map_nil, d_ag hd hag, hden]
    rfl
  rw [v1_2 hd, hargs, en2, dstB_eq a5]
  have hk1' := (hM1.kp (xs := []) fun j hj => by cases hj).below
  have hk1 : Below w.heap.size w w1 := hkA.trans (hk1'.mono hkA.size)
  refine Calls.mono (imp13 w1 (G.below hk1 lg) dv L D (hdv.kp hk1) hL) fun en w2 ⟨u, he, hB2, hu⟩ => ⟨u, he, ?_⟩
  have hk2 : Below w.heap.size w w2 := hk1.trans (hB2.mono hk1.size)
  refine next_row (cfg := c2) (nx := 1) (fl := fl1_2 d) (N := Tryd.f3.ntmps) rfl rfl rfl [] hF1 (by rfl) (by omega) u w2 ?_
  have r1 : (ρ.more 1 0 0 0 u).r 1 = u := more_r _ _ _
  have hag2 : Ag 1 64 ρs (ρ.more 1 0 0 0 u) := hag.trans (Ag.ofLe (Env.more_le _ _ _ _ _ _))
  generalize ρ.more 1 0 0 0 u = ρ3 at r1 hag2
  refine reach_toE (cfgW2_ok _ _) (oL22_eq d) 0 [] b1 b2 b3 fun ρ4 hle4 => ?_
  show Go.Sx.Reach Tryd.prog c2 w2 _ (oL22 d).stk (s2_2 d) _
  have q1 : (ρ4.ext 64 []).r 1 = u := (hle4.r 1 (by show 1 < 2; omega)).trans r1
  have hag4 : Ag 1 64 ρs (ρ4.ext 64 []) := (hag2.trans (Ag.ofLe (Env.le.mono hle4 (show 1 ≤ 2 by omega)))).trans (Ag.ofExt 1 ρ4 [])
  generalize ρ4.ext 64 [] = ρ5 at q1 hag4
  obtain ⟨en3, en4⟩ := ent_some b4
  rw [← e2_2_eq] at en3 en4
  refine reach_calls (cfg := c2) (cfgE2_ok _ _) rfl rfl rfl en3 fun a3 w3 hF3 hM3 => ?_
  show Calls Tryd.prog (e2_2 d).f ((e2_2 d).vs.map (SV.den ρ5)).toArray w3 (fun en w' => ∃ v, en = .returned v ∧ wpK Tryd.prog _ (e2_2 d).k .normal (a3.put (e2_2 d).dst v) w')
  have en4 : (e2_2 d).f = 7 := en4
  have hargs2 : [SV.f (.int .i64 (.n 32)), nilS, d].map (SV.den ρ5) = [.int .i64 ((32 : Nat) : Int), .slice none 0 0, dv] := by
    simp only [List.map_cons, List.map_nil, d_ag hd hag4, hden]
    rfl
  rw [v2_2 hd, hargs2, en4, dstB_eq b5]
  have hk3' := (hM3.kp (xs := []) fun j hj => by cases hj).below
  have hk3 : Below w.heap.size w w3 := hk2.trans (hk3'.mono hk2.size)
  refine Calls.mono (specB w3 32 L (.inr (.inr rfl)) hL D dv (hdv.kp hk3)) fun en w4 ⟨v, he2, hB4, hfr⟩ => ⟨v, he2, ?_⟩
  have hk4 : Below w.heap.size w w4 := hk3.trans (hB4.mono hk3.size)
  refine next_row (cfg := c2) (nx := 2) (fl := fl2_2 d) (N := Tryd.f3.ntmps) rfl rfl rfl [] hF3 (by rfl) (by omega) v w4 ?_
  have r2 : (ρ5.more 2 0 0 0 v).r 2 = v := more_r _ _ _
  have r1' : (ρ5.more 2 0 0 0 v).r 1 = u := by simp [Env.more]; exact q1
  have hag5 : Ag 1 64 ρs (ρ5.more 2 0 0 0 v) := hag4.trans (Ag.ofLe (Env.le.mono (Env.more_le _ _ _ _ _ _) (show 1 ≤ 2 by omega)))
  generalize ρ5.more 2 0 0 0 v = ρ6 at r2 r1' hag5
  refine reach_toE (cfgW2_ok _ _) (oL32_eq d) 0 [] d1 d2 d3 fun ρ7 hle7 => ?_
  show Go.Sx.Reach Tryd.prog c2 w4 _ (oL32 d).stk (s3_2 d) _
  have q1' : (ρ7.ext 64 []).r 1 = u := (hle7.r 1 (by show 1 < 3; omega)).trans r1'
  have q2' : (ρ7.ext 64 []).r 2 = v := (hle7.r 2 (by show 2 < 3; omega)).trans r2
  have hag7 : Ag 1 64 ρs (ρ7.ext 64 []) := (hag5.trans (Ag.ofLe (Env.le.mono hle7 (show 1 ≤ 3 by omega)))).trans (Ag.ofExt 1 ρ7 [])
  generalize ρ7.ext 64 [] = ρ8 at q1' q2' hag7
  obtain ⟨en5, en6⟩ := ent_some d4
  rw [← e3_2_eq] at en5 en6
  refine reach_calls (cfg := c2) (cfgE2_ok _ _) rfl rfl rfl en5 fun a5' w5 hF5 hM5 => ?_
  show Calls Tryd.prog (e3_2 d).f ((e3_2 d).vs.map (SV.den ρ8)).toArray w5 (fun en w' => ∃ v, en = .returned v ∧ wpK Tryd.prog _ (e3_2 d).k .normal (a5'.put (e3_2 d).dst v) w')
  have en6 : (e3_2 d).f = 5 := en6
  have hargs3 : [SV.f (.row 1), .f (.row 2)].map (SV.den ρ8) = [u, v] := by
    simp only [List.map_cons, List.map_nil, SV.den, FV.den, q1', q2']
  rw [v3_2 hd, hargs3, en6, dstB_eq d5]
  have hk5' := (hM5.kp (xs := []) fun j hj => by cases hj).below
  have hk5 : Below w.heap.size w w5 := hk4.trans (hk5'.mono hk4.size)
  have hu5 : DataAt w5 u 32 (byt 8 (hsB (h0B 32) L D (nbkB L))) := hu.kp (((hk3'.trans (hB4.mono hk3'.size)).trans (hk5'.mono (Nat.le_trans hk3'.size hB4.size))))
  have hv5 : DataAt w5 v 32 (byt 8 (hsB (h0B 32) L D (nbkB L))) := (hfr.kp hk5').data
  refine Calls.mono (same_any w5 u v 32 _ (by omega) hu5 hv5) fun en w6 ⟨he3, hw6⟩ => ⟨_, he3, ?_⟩
  subst hw6
  refine reach_back (w0 := w6) (cfg := c2) (s1 := mkSt Tryd.f3.ntmps 3 0 [] [] []) (s2 := mkSt Tryd.f3.ntmps 3 0 ((22, .f (.bool true)) :: fl3_2 d) [] []) (fl := fl3_2 d) (n := 3) (m := 64) (N := Tryd.f3.ntmps) (v := .f (.bool true)) (d := some 22) [] 0 hF5 (.refl _ _ ρ8) (by rcases hd with rfl | rfl <;> rfl) (by rcases hd with rfl | rfl <;> rfl) (by rfl) (MemOK.bare rfl rfl rfl w6 _ _ _ _ _ _) trivial (by rfl) ?_
  refine reach_goE (cfgW2_ok _ _) (oL13_eq d) (Obs.nil hnil _) fun ρ9 hle9 => OutR.stop hst ?_
  exact next w6 ρ9 hk5 (hag7.trans (Ag.ofLe (Env.le.mono hle9 (show 1 ≤ 3 by omega))))



set_option maxRecDepth 100000 in
set_option maxHeartbeats 1000000 in
theorem stepL3 {d : SV} (hd : isL d) (w : World) (G : Glob w) (dv : Value) (L : Nat) (D : Nat → Int) (hdv : DataAt w dv L D) (hL : L ≤ 2147483647) (ρs : Env) (hden : d.den ρs = dv) (wA : World) (hkA : Below w.heap.size w wA) (ρ : Env) (hag : Ag 1 64 ρs ρ) :
    Go.Sx.Reach Tryd.prog c2 wA (callQ Tryd.prog Tryd.f3 fun v w' => v = .bool true ∧ Below w.heap.size w w') (oL13 d).stk (s4 d) ρ := by
  obtain ⟨A, B, C⟩ := and3_iff (ckL4_all hd)
  obtain ⟨_, A2, _⟩ := and3_iff A
  obtain ⟨a4, a5, _⟩ := and3_iff A2
  obtain ⟨B1, B2, _⟩ := and3_iff B
  obtain ⟨b1, b2, b3⟩ := and3_iff B1
  obtain ⟨b4, b5, _⟩ := and3_iff B2
  obtain ⟨C1, C2, C3⟩ := and3_iff C
  obtain ⟨d1, d2, d3⟩ := and3_iff C1
  obtain ⟨d4, d5, _⟩ := and3_iff C2
  obtain ⟨d6, d7, d8⟩ := and3_iff C3
  have lg := G.size
  obtain ⟨en1, en2⟩ := ent_some a4
  rw [← e4_eq] at en1 en2
  refine reach_calls (cfg := c2) (cfgE2_ok _ _) rfl rfl rfl en1 fun a1 w1 hF1 hM1 => ?_
  show Calls Tryd.prog (e4 d).f ((e4 d).vs.map (SV.den ρ)).toArray w1 (fun en w' => ∃ v, en = .returned v ∧ wpK Tryd.prog _ (e4 d).k .normal (a1.put (e4 d).dst v) w')
  have en2 : (e4 d).f = 8 := en2
  have hargs : [d].map (SV.den ρ) = [dv] := by
    simp only [List.map_cons, List.map_nil, d_ag hd hag, hden]
  rw [v4 hd, hargs, en2, dstB_eq a5]
  have hk1' := (hM1.kp (xs := []) fun j hj => by cases hj).below
  have hk1 : Below w.heap.size w w1 := hkA.trans (hk1'.mono hkA.size)
  refine Calls.mono (imp16 w1 (G.below hk1 lg) dv L D (hdv.kp hk1) hL) fun en w2 ⟨u, he, hB2, hu⟩ => ⟨u, he, ?_⟩
  have hk2 : Below w.heap.size w w2 := hk1.trans (hB2.mono hk1.size)
  refine next_row (cfg := c2) (nx := 1) (fl := fl4 d) (N := Tryd.f3.ntmps) rfl rfl rfl [] hF1 (by rfl) (by omega) u w2 ?_
  have r1 : (ρ.more 1 0 0 0 u).r 1 = u := more_r _ _ _
  have hag2 : Ag 1 64 ρs (ρ.more 1 0 0 0 u) := hag.trans (Ag.ofLe (Env.more_le _ _ _ _ _ _))
  generalize ρ.more 1 0 0 0 u = ρ3 at r1 hag2
  refine reach_toE (cfgW2_ok _ _) (oL5_eq d) 0 [] b1 b2 b3 fun ρ4 hle4 => ?_
  show Go.Sx.Reach Tryd.prog c2 w2 _ (oL5 d).stk (s5 d) _
  have q1 : (ρ4.ext 64 []).r 1 = u := (hle4.r 1 (by show 1 < 2; omega)).trans r1
  have hag4 : Ag 1 64 ρs (ρ4.ext 64 []) := (hag2.trans (Ag.ofLe (Env.le.mono hle4 (show 1 ≤ 2 by omega)))).trans (Ag.ofExt 1 ρ4 [])
  generalize ρ4.ext 64 [] = ρ5 at q1 hag4
  obtain ⟨en3, en4⟩ := ent_some b4
  rw [← e5_eq] at en3 en4
  refine reach_calls (cfg := c2) (cfgE2_ok _ _) rfl rfl rfl en3 fun a3 w3 hF3 hM3 => ?_
  show Calls Tryd.prog (e5 d).f ((e5 d).vs.map (SV.den ρ5)).toArray w3 (fun en w' => ∃ v, en = .returned v ∧ wpK Tryd.prog _ (e5 d).k .normal (a3.put (e5 d).dst v) w')
  have en4 : (e5 d).f = 9 := en4
  have hargs2 : [SV.f (.int .i64 (.n 32)), nilS, d].map (SV.den ρ5) = [.int .i64 ((32 : Nat) : Int), .slice none 0 0, dv] := by
    simp only [List.map_cons, List.map_nil, d_ag hd hag4, hden]
    rfl
  rw [v5 hd, hargs2, en4, dstB_eq b5]
  have hk3' := (hM3.kp (xs := []) fun j hj => by cases hj).below
  have hk3 : Below w.heap.size w w3 := hk2.trans (hk3'.mono hk2.size)
  refine Calls.mono (specS w3 32 L rfl hL D dv (hdv.kp hk3)) fun en w4 ⟨v, he2, hB4, hfr⟩ => ⟨v, he2, ?_⟩
  have hk4 : Below w.heap.size w w4 := hk3.trans (hB4.mono hk3.size)
  refine next_row (cfg := c2) (nx := 2) (fl := fl5 d) (N := Tryd.f3.ntmps) rfl rfl rfl [] hF3 (by rfl) (by omega) v w4 ?_
  have r2 : (ρ5.more 2 0 0 0 v).r 2 = v := more_r _ _ _
  have r1' : (ρ5.more 2 0 0 0 v).r 1 = u := by simp [Env.more]; exact q1
  generalize ρ5.more 2 0 0 0 v = ρ6 at r2 r1'
  refine reach_toE (cfgW2_ok _ _) (oL6_eq d) 0 [] d1 d2 d3 fun ρ7 hle7 => ?_
  show Go.Sx.Reach Tryd.prog c2 w4 _ (oL6 d).stk s6 _
  have q1' : (ρ7.ext 64 []).r 1 = u := (hle7.r 1 (by show 1 < 3; omega)).trans r1'
  have q2' : (ρ7.ext 64 []).r 2 = v := (hle7.r 2 (by show 2 < 3; omega)).trans r2
  generalize ρ7.ext 64 [] = ρ8 at q1' q2'
  obtain ⟨en5, en6⟩ := ent_some d4
  rw [← e6_eq] at en5 en6
  refine reach_calls (cfg := c2) (cfgE2_ok _ _) rfl rfl rfl en5 fun a5' w5 hF5 hM5 => ?_
  show Calls Tryd.prog (e6 d).f ((e6 d).vs.map (SV.den ρ8)).toArray w5 (fun en w' => ∃ v, en = .returned v ∧ wpK Tryd.prog _ (e6 d).k .normal (a5'.put (e6 d).dst v) w')
  have en6 : (e6 d).f = 5 := en6
  have hargs3 : [SV.f (.row 1), .f (.row 2)].map (SV.den ρ8) = [u, v] := by
    simp only [List.map_cons, List.map_nil, SV.den, FV.den, q1', q2']
  rw [v6 hd, hargs3, en6, dstB_eq d5]
  have hk5' := (hM5.kp (xs := []) fun j hj => by cases hj).below
  have hk5 : Below w.heap.size w w5 := hk4.trans (hk5'.mono hk4.size)
  have hu5 : DataAt w5 u 32 (byt 4 (hsS (h0S 32) L D (nbkS L))) := hu.kp (((hk3'.trans (hB4.mono hk3'.size)).trans (hk5'.mono (Nat.le_trans hk3'.size hB4.size))))
  have hv5 : DataAt w5 v 32 (byt 4 (hsS (h0S 32) L D (nbkS L))) := (hfr.kp hk5').data
  refine Calls.mono (same_any w5 u v 32 _ (by omega) hu5 hv5) fun en w6 ⟨he3, hw6⟩ => ⟨_, he3, ?_⟩
  subst hw6
  refine reach_back (w0 := w6) (cfg := c2) (s1 := mkSt Tryd.f3.ntmps 3 0 [] [] []) (s2 := mkSt Tryd.f3.ntmps 3 0 ((29, .f (.bool true)) :: fl6) [] []) (fl := fl6) (n := 3) (m := 64) (N := Tryd.f3.ntmps) (v := .f (.bool true)) (d := some 29) [] 0 hF5 (.refl _ _ ρ8) (by rfl) (by rfl) (by rfl) (MemOK.bare rfl rfl rfl w6 _ _ _ _ _ _) trivial (by rfl) ?_
  refine reach_retE (cfgW2_ok _ _) (oL7_eq d) (v := .f (.bool true)) d6 (Obs.nil d7 _) (boolB_eq d8) fun ρ9 w9 hle9 hM9 _ => ?_
  have hk9 := (hM9.kp (xs := []) fun j hj => by cases hj).below
  exact ⟨rfl, hk5.trans (hk9.mono hk5.size)⟩

theorem body3 : Tryd.f3.body = some (bodyOf Tryd.f3) := by kernel_rfl
set_option maxRecDepth 100000 in
set_option maxHeartbeats 1000000 in
theorem law_calls (w : World) (G : Glob w) (dv : Value) (L : Nat) (D : Nat → Int) (hdv : DataAt w dv L D) : Calls Tryd.prog 3 #[dv] w fun e w' => e = .returned (.bool true) ∧ Below w.heap.size w w' := by
  obtain ⟨d, p, o, c, hd, hden, hok, hdn⟩ : ∃ (d : SV) (p o c : Nat), isL d ∧ d.den (env1 L p o c) = dv ∧ d.ok (env1 L p o c) 1 ∧ (d = nilS → L = 0) := by
    rcases hdv with ⟨p, o, c, h1, h2, _, _⟩ | ⟨h1, h2⟩
    · refine ⟨datL, p, o, c, .inl rfl, ?_, ?_, fun h => by cases h⟩
      · rw [h1]
        simp only [datL, SV.den, FV.den, E.den, Cp.den, env1, Int.toNat_natCast]; rfl
      · refine ⟨by omega, by show 0 < 1; omega, ?_, ?_⟩
        · show (0 : Int) ≤ (L : Int); omega
        · show (L : Int) ≤ ((c - 0 : Nat) : Int); omega
    · exact ⟨nilS, 0, 0, 0, .inr rfl, by rw [h1]; rfl, trivial, fun _ => h2⟩
  have key := calls_reach (P := Tryd.prog) (cfg := c2) (w := w) (ρ := env1 L p o c) (f := 3) (fn := Tryd.f3) (b := bodyOf Tryd.f3) Tryd.func3 body3 [d] (nx := 1) (thr := 0) (ml := []) (orc := [])
    (by rfl) (by rfl) (fun v hv => by
      rw [List.mem_singleton] at hv
      subst hv
      exact hok) (K := fun v w' => v = .bool true ∧ Below w.heap.size w w') (MemOK.bare rfl rfl rfl w _ _ _ _ _ _)
  have hargs : [d].map (SV.den (env1 L p o c)) = [dv] := by simp only [List.map_cons, List.map_nil, hden]
  rw [hargs] at key
  refine Calls.mono (key ?_) fun e w' ⟨v, he, hv, hB⟩ => ⟨by rw [he, hv], hB⟩
  clear key hargs
  have fin : L ≤ 1048576 → Obs (env1 L p o c) (oL10 d).st.obs → Go.Sx.Reach Tryd.prog c2 w (callQ Tryd.prog Tryd.f3 fun v w' => v = .bool true ∧ Below w.heap.size w w') [.code (bodyOf Tryd.f3)] (sL0 d (orcL d)) (env1 L p o c) := by
    intro hL hob
    have hL' : L ≤ 2147483647 := by omega
    obtain ⟨A0, _, _⟩ := and3_iff (ckL0_all hd)
    obtain ⟨A01, _, _⟩ := and3_iff A0
    obtain ⟨s0, c0', _⟩ := and3_iff A01
    obtain ⟨A1, _, _⟩ := and3_iff (ckL1_all hd)
    obtain ⟨A11, _, _⟩ := and3_iff A1
    obtain ⟨s1, c1', _⟩ := and3_iff A11
    obtain ⟨A2, _, _⟩ := and3_iff (ckL2_all hd)
    obtain ⟨A21, _, _⟩ := and3_iff A2
    obtain ⟨s2, c2', _⟩ := and3_iff A21
    obtain ⟨A3, _, _⟩ := and3_iff (ckL4_all hd)
    obtain ⟨A31, _, _⟩ := and3_iff A3
    obtain ⟨s3, c3', _⟩ := and3_iff A31
    obtain ⟨n1, n2, n3⟩ := and3_iff (obL hd)
    refine reach_goE (cfgW2_ok _ _) (oL10_eq d) hob fun ρ1 hle1 => OutR.stop s0 ?_
    show Go.Sx.Reach Tryd.prog c2 w _ (oL10 d).stk (oL10 d).st ρ1
    refine reach_cut 0 [] c0' ?_
    show Go.Sx.Reach Tryd.prog c2 w _ (oL10 d).stk (s1_0 d) _
    have hag1 : Ag 1 64 (env1 L p o c) (ρ1.ext 64 []) := (Ag.ofLe hle1).trans (Ag.ofExt 1 ρ1 [])
    refine stepL0 hd w G dv L D hdv hL' _ hden w (Below.refl _ w) _ hag1 (fun wB ρ2 hkB hag2 => ?_) s1 n1
    refine reach_cut 0 [] c1' ?_
    refine stepL1 hd w G dv L D hdv hL' _ hden wB hkB _ (hag2.trans (Ag.ofExt 1 ρ2 [])) (fun wC ρ3 hkC hag3 => ?_) s2 n2
    refine reach_cut 0 [] c2' ?_
    refine stepL2 hd w G dv L D hdv hL' _ hden wC hkC _ (hag3.trans (Ag.ofExt 1 ρ3 [])) (fun wD ρ4 hkD hag4 => ?_) s3 n3
    refine reach_cut 0 [] c3' ?_
    exact stepL3 hd w G dv L D hdv hL' _ hden wD hkD _ (hag4.trans (Ag.ofExt 1 ρ4 []))
  rcases hd with rfl | rfl
  · obtain ⟨X, Y, _⟩ := and3_iff ckLa
    obtain ⟨x1, x2, x3⟩ := and3_iff X
    obtain ⟨y1, y2, y3⟩ := and3_iff Y
    rcases Nat.lt_or_ge 2147483647 L with h1 | h1
    · refine reach_orc [true] ?_
      refine reach_ret (cfgW2_ok _ _) false 3000 (v := .f (.bool true)) x1 ?_ (boolB_eq x3) fun ρ9 w9 _ hM9 _ => ⟨rfl, (hM9.kp (xs := []) fun j hj => by cases hj).below⟩
      show Obs _ oLa.st.obs
      rw [obsB_eq x2]
      intro ob hob
      rw [List.mem_singleton] at hob
      subst hob
      show decide ((L : Int) > 2147483647) = true
      exact decide_eq_true (by omega)
    · rcases Nat.lt_or_ge 1048576 L with h2 | h2
      · refine reach_orc [false, true] ?_
        refine reach_ret (cfgW2_ok _ _) false 3000 (v := .f (.bool true)) y1 ?_ (boolB_eq y3) fun ρ9 w9 _ hM9 _ => ⟨rfl, (hM9.kp (xs := []) fun j hj => by cases hj).below⟩
        show Obs _ oLb.st.obs
        rw [obsB_eq y2]
        intro ob hob
        simp only [List.mem_cons, List.not_mem_nil, or_false] at hob
        rcases hob with rfl | rfl
        · show decide ((L : Int) > 1048576) = true
          exact decide_eq_true (by omega)
        · show decide ((L : Int) > 2147483647) = false
          exact decide_eq_false (by omega)
      · refine reach_orc [false, false] (fin h2 ?_)
        rw [obsB_eq obL0]
        intro ob hob
        simp only [List.mem_cons, List.not_mem_nil, or_false] at hob
        rcases hob with rfl | rfl
        · show decide ((L : Int) > 1048576) = false
          exact decide_eq_false (by omega)
        · show decide ((L : Int) > 2147483647) = false
          exact decide_eq_false (by omega)
  · exact fin (by rw [hdn rfl]; omega) (Obs.nil obL0n _)
end Go.Proofs.YtjhndmlpcpbaoaaDoor
