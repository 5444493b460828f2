/- The reference's hash of so many bytes (b), called. -/
import Derived.Test.YtjhndmlpcpbaoaaDoorSegTB
import Derived.Test.YtjhndmlpcpbaoaaDoorHshB
import Derived.Test.YtjhndmlpcpbaoaaDoorChkB
namespace Go.Proofs.YtjhndmlpcpbaoaaDoor
open Go Go.Sx Go.Proofs Go.RowKit
theorem body15 : Tryd.f15.body = some (bodyOf Tryd.f15) := by kernel_rfl
theorem body7 : Tryd.f7.body = some (bodyOf Tryd.f7) := by kernel_rfl
theorem parL_lenB (z : Int) : (parLB z).length = 64 := by
  have : ∀ n, (zerL n).length = n := by
    intro n
    induction n with
    | zero => rfl
    | succ n ih => simp [zerL, ih]
  simp [parLB, this]
theorem parB (w : World) (z : Nat) (hz : z = 64 ∨ z = 48 ∨ z = 32) : Calls Tryd.prog 15 #[.int .i64 z, .int .i64 0] w fun e w' => ∃ v, e = .returned v ∧ ∃ p o, v = .slice (some ⟨p, o, none⟩) 64 64 ∧ Below w.heap.size w w' ∧ p < w'.heap.size ∧ CellsAt w' p o .u8 (parLB z) := by
  obtain ⟨A1, A2, A3⟩ := and3_iff (ckPar_allB hz)
  obtain ⟨a1, a2, _⟩ := and3_iff A1
  refine calls_reach (P := Tryd.prog) (cfg := chB) (w := w) (ρ := envV undef) (f := 15) (fn := Tryd.f15) (b := bodyOf Tryd.f15) Tryd.func15 body15 [.f (.int .i64 (.n z)), .f (.int .i64 (.n 0))] (nx := 0) (thr := 0) (ml := []) (orc := [])
    (by rfl) (by rfl) (fun v hv => by
      simp only [List.mem_cons, List.not_mem_nil, or_false] at hv
      rcases hv with rfl | rfl <;> trivial) (K := fun v w' => ∃ p o, v = .slice (some ⟨p, o, none⟩) 64 64 ∧ Below w.heap.size w w' ∧ p < w'.heap.size ∧ CellsAt w' p o .u8 (parLB z)) (MemOK.bare rfl rfl rfl w _ _ _ _ _ _) ?_
  refine reach_ret (cfgW_ok _ _) false 1000 (v := .f (.sl 1 0 (.n 64) (.l 64))) a1 (Obs.nil a2 _) (slLB_eq A2) fun ρ1 w1 hle1 hM1 _ => ?_
  obtain ⟨W, hW, hT⟩ := winB_eq A3
  refine ⟨ρ1.b 1, ρ1.o 1 + 0, rfl, (hM1.kp (xs := []) fun j hj => by cases hj).below, hM1.lt 1 W hW, fun j zz hj => ?_⟩
  have hjl : j < 64 := by
    have := (List.getElem?_eq_some_iff.1 hj).1
    rwa [parL_lenB] at this
  have h1 : W.cells[j]? = some (.int .u8 (.n zz)) := by
    have : (W.cells.take 64)[j]? = some (.int .u8 (.n zz)) := by
      rw [hT]; exact lits_get hj
    rwa [List.getElem?_take, if_pos hjl] at this
  rw [Nat.add_zero, (hM1.cell 1 W hW).2.2 j _ h1]
  rfl

theorem specB (w : World) (z L : Nat) (hz : z = 64 ∨ z = 48 ∨ z = 32) (hL : L ≤ 2147483647) (D : Nat → Int) (dv : Value) (hdv : DataAt w dv L D) :
    Calls Tryd.prog 7 #[.int .i64 z, .slice none 0 0, dv] w fun e w' => ∃ v, e = .returned v ∧ Below w.heap.size w w' ∧ Fresh w.heap.size z (byt 8 (hsB (h0B z) L D (nbkB L))) v w' := by
  obtain ⟨S, hvs⟩ := ckS_allB hz
  obtain ⟨A, B, C⟩ := and3_iff S
  obtain ⟨A1, A2, _⟩ := and3_iff A
  obtain ⟨a1, a2, a3⟩ := and3_iff A1
  obtain ⟨a4, a5, a6⟩ := and3_iff A2
  obtain ⟨B1, B2, _⟩ := and3_iff B
  obtain ⟨b1, b2, b3⟩ := and3_iff B1
  obtain ⟨b4, b5, _⟩ := and3_iff B2
  obtain ⟨c1, c2', c3⟩ := and3_iff C
  refine calls_reach (P := Tryd.prog) (cfg := c2) (w := w) (ρ := envV dv) (f := 7) (fn := Tryd.f7) (b := bodyOf Tryd.f7) Tryd.func7 body7 [.f (.int .i64 (.n z)), nilS, .f (.row 0)] (nx := 1) (thr := 0) (ml := []) (orc := [])
    (by rfl) (by rfl) (fun v hv => by
      simp only [List.mem_cons, List.not_mem_nil, or_false] at hv
      rcases hv with rfl | rfl | rfl
      · trivial
      · trivial
      · show 0 < 1; omega) (K := fun v w' => Below w.heap.size w w' ∧ Fresh w.heap.size z (byt 8 (hsB (h0B z) L D (nbkB L))) v w') (MemOK.bare rfl rfl rfl w _ _ _ _ _ _) ?_
  refine reach_to (cfgW2_ok _ _) false 500 0 [] a1 a2 a3 fun ρ1 hle1 => ?_
  show Go.Sx.Reach Tryd.prog c2 w _ (oSaB z).stk (sSaB z) _
  have hr0 : (ρ1.ext 64 []).r 0 = dv := (hle1.r 0 (by show 0 < 1; omega))
  generalize ρ1.ext 64 [] = ρ2 at hr0
  obtain ⟨en1, en2⟩ := ent_some a4
  refine reach_calls (cfg := c2) (cfgE2_ok _ _) rfl rfl rfl en1 fun a1' w1 hF1 hM1 => ?_
  show Calls Tryd.prog (eSaB z).f ((eSaB z).vs.map (SV.den ρ2)).toArray w1 (fun en w' => ∃ v, en = .returned v ∧ wpK Tryd.prog _ (eSaB z).k .normal (a1'.put (eSaB z).dst v) w')
  have en2 : (eSaB z).f = 15 := en2
  rw [svsEq_eq a5, en2, dstB_eq a6]
  have hk1 := (hM1.kp (xs := []) fun j hj => by cases hj).below
  refine Calls.mono (parB w1 z hz) fun en w2 ⟨v, he, p, o, hv, hB2, lp, hP⟩ => ⟨v, he, ?_⟩
  have hk2 : Below w.heap.size w w2 := hk1.trans (hB2.mono hk1.size)
  refine next_row (cfg := c2) (nx := 1) (fl := flSaB z) (N := Tryd.f7.ntmps) rfl rfl rfl [] hF1 (by rfl) (by omega) v w2 ?_
  have r1 : (ρ2.more 1 0 0 0 v).r 1 = v := more_r _ _ _
  have r0 : (ρ2.more 1 0 0 0 v).r 0 = dv := by
    simp [Env.more]; exact hr0
  generalize ρ2.more 1 0 0 0 v = ρ3 at r0 r1
  refine reach_to (cfgW2_ok _ _) false 500 0 [] b1 b2 b3 fun ρ4 hle4 => ?_
  show Go.Sx.Reach Tryd.prog c2 w2 _ (oSbB z).stk sSbB _
  have q0 : (ρ4.ext 64 []).r 0 = dv := (hle4.r 0 (by show 0 < 2; omega)).trans r0
  have q1 : (ρ4.ext 64 []).r 1 = v := (hle4.r 1 (by show 1 < 2; omega)).trans r1
  generalize ρ4.ext 64 [] = ρ5 at q0 q1
  obtain ⟨en3, en4⟩ := ent_some b4
  refine reach_calls (cfg := c2) (cfgE2_ok _ _) rfl rfl rfl en3 fun a3' w3 hF3 hM3 => ?_
  show Calls Tryd.prog (eSbB z).f ((eSbB z).vs.map (SV.den ρ5)).toArray w3 (fun en w' => ∃ v, en = .returned v ∧ wpK Tryd.prog _ (eSbB z).k .normal (a3'.put (eSbB z).dst v) w')
  have en4 : (eSbB z).f = 14 := en4
  have hargs : [SV.f (.row 1), nilS, .f (.row 0)].map (SV.den ρ5) = [v, .slice none 0 0, dv] := by
    simp only [List.map_cons, List.map_nil, nilS, SV.den, FV.den, q0, q1]
  rw [hvs, hargs, en4, dstB_eq b5, hv]
  have hk3' := hM3.kp (xs := []) fun j hj => by cases hj
  have hk3 : Below w.heap.size w w3 := hk2.trans (hk3'.below.mono hk2.size)
  refine Calls.mono (hashB w3 z L hz hL D p o 64 dv (hP.kp hk3' lp (by simp)) (Nat.lt_of_lt_of_le lp hk3'.size) (Nat.le_refl _) (hdv.kp hk3)) fun en w4 ⟨u, hu, hB4, hfr⟩ => ⟨u, hu, ?_⟩
  refine next_row (cfg := c2) (nx := 2) (fl := flSbB) (N := Tryd.f7.ntmps) rfl rfl rfl [] hF3 (by rfl) (by omega) u w4 ?_
  have r2 : (ρ5.more 2 0 0 0 u).r 2 = u := more_r _ _ _
  generalize ρ5.more 2 0 0 0 u = ρ6 at r2
  refine reach_ret (cfgW2_ok _ _) false 500 (v := .f (.row 2)) c1 (Obs.nil c2' _) (rowB_eq c3) fun ρ7 w7 hle7 hM7 _ => ?_
  have he : (SV.f (.row 2)).den ρ7 = u := (hle7.r 2 (by show 2 < 3; omega)).trans r2
  have hk7 := (hM7.kp (xs := []) fun j hj => by cases hj).below
  rw [he]
  obtain ⟨p', o', c', f1, f2, f3, f4, f5⟩ := hfr.kp hk7
  exact ⟨(hk3.trans (hB4.mono hk3.size)).trans (hk7.mono (Nat.le_trans hk3.size hB4.size)), p', o', c', f1, f2, Nat.le_trans hk3.size f3, f4, f5⟩
end Go.Proofs.YtjhndmlpcpbaoaaDoor

/- The library's sums of one size (b), called. -/
namespace Go.Proofs.YtjhndmlpcpbaoaaDoor
open Go Go.Sx Go.Proofs Go.RowKit
theorem chkAnyB (w : World) (G : Glob w) (ps os z L : Nat) (D : Nat → Int) (hz : z = 64 ∨ z = 48 ∨ z = 32) (n1 : 5 ≤ ps) (dv : Value) (hdv : DataAt w dv L D) (h5 : Above 5 dv) (hne : ∀ g, dv.ownBlock = some g → g ≠ ps) (hsum : WordsAt w ps os .u8 64 fun _ => 0) (hL : L ≤ 2147483647) :
    Calls Tryd.prog 19 #[.pointer (some ⟨ps, os, none⟩), .int .i64 z, dv] w fun e w' => ∃ v, e = .returned v ∧ KSB w ps os z (hsB (h0B z) L D (nbkB L)) v w' := by
  rcases hdv with ⟨p, o, c, h1, h2, h3, h4⟩ | ⟨h1, h2⟩
  · subst h1
    exact chkB w G ps os p o c z L D hz n1 (hne p rfl) (h5 p rfl) h3 hsum h4 h2 hL
  · subst h1 h2
    exact chkNilB w G ps os z D hz n1 hsum
theorem body11 : Tryd.f11.body = some (bodyOf Tryd.f11) := by kernel_rfl
set_option maxRecDepth 100000 in
set_option maxHeartbeats 1000000 in
theorem sum11 (w : World) (G : Glob w) (dv : Value) (L : Nat) (D : Nat → Int) (hdv : DataAt w dv L D) (h5 : Above 5 dv) (hL : L ≤ 2147483647) :
    Calls Tryd.prog 11 #[dv] w fun e w' => ∃ v, e = .returned v ∧ v = .agg (words .u8 64 (byt 8 (hsB (h0B 64) L D (nbkB L)))).toArray ∧ Below w.heap.size w w' := by
  obtain ⟨A, B, C⟩ := and3_iff ckW11
  obtain ⟨a1, a2, a3⟩ := and3_iff A
  obtain ⟨b1, b2, _⟩ := and3_iff B
  obtain ⟨d1, d2, d3⟩ := and3_iff C
  refine calls_reach (P := Tryd.prog) (cfg := c2) (w := w) (ρ := envV dv) (f := 11) (fn := Tryd.f11) (b := bodyOf Tryd.f11) Tryd.func11 body11 [.f (.row 0)] (nx := 1) (thr := 0) (ml := []) (orc := [])
    (by rfl) (by rfl) (fun v hv => by
      rw [List.mem_singleton] at hv
      subst hv
      show 0 < 1; omega) (K := fun v w' => v = .agg (words .u8 64 (byt 8 (hsB (h0B 64) L D (nbkB L)))).toArray ∧ Below w.heap.size w w') (MemOK.bare rfl rfl rfl w _ _ _ _ _ _) ?_
  refine reach_to (cfgW2_ok _ _) false 500 0 [] a1 a2 a3 fun ρ1 hle1 => ?_
  show Go.Sx.Reach Tryd.prog c2 w _ oW11.stk sW11 _
  have hr0 : (ρ1.ext 64 []).r 0 = dv := (hle1.r 0 (by show 0 < 1; omega))
  generalize ρ1.ext 64 [] = ρ at hr0
  obtain ⟨en1, en2⟩ := ent_some b1
  refine reach_calls (cfg := c2) (cfgE2_ok _ _) rfl rfl rfl en1 fun a1' w1 hF1 hM1 => ?_
  show Calls Tryd.prog eW11.f (eW11.vs.map (SV.den ρ)).toArray w1 (fun en w' => ∃ v, en = .returned v ∧ wpK Tryd.prog _ eW11.k .normal (a1'.put eW11.dst v) w')
  have en2 : eW11.f = 19 := en2
  have hargs : [SV.f (.ptr 2 0), .f (.int .i64 (.n 64)), .f (.row 0)].map (SV.den ρ) = [.pointer (some ⟨ρ.b 2, ρ.o 2, none⟩), .int .i64 ((64 : Nat) : Int), dv] := by
    simp only [List.map_cons, List.map_nil, SV.den, FV.den, hr0]
    rfl
  rw [ckWv11, hargs, en2, dstB_eq b2]
  have hk1' := hM1.kp (xs := []) fun j hj => by cases hj
  have hk1 := hk1'.below
  have lg := G.size
  have g2 : sW11.M.get 2 = some ⟨zeros .u8 64, 2⟩ := by kernel_rfl
  have k2 : w.heap.size ≤ ρ.b 2 := by
    rcases hM1.kind 2 _ g2 (by show 2 ≠ 0; omega) with hc | hc
    · cases hc
    · exact hc
  have hsum : WordsAt w1 (ρ.b 2) (ρ.o 2) .u8 64 fun _ => 0 := ⟨fun k hk => (hM1.cell 2 _ g2).2.2 k _ (zeros_get hk), fun k hk => hM1.free 2 _ g2 (by show 2 ≠ 0; omega) k (by rw [zeros_len]; exact hk)⟩
  refine Calls.mono (chkAnyB w1 (G.below hk1 lg) (ρ.b 2) (ρ.o 2) 64 L D (.inl rfl) (by omega) dv (hdv.kp hk1) h5 (fun g hg => ?_) hsum hL) fun en w2 ⟨v, he, hv, hk2, hW2⟩ => ⟨v, he, ?_⟩
  · rcases hdv with ⟨p, o, c, h1, h2, h3, h4⟩ | ⟨h1, h2⟩
    · subst h1
      have : p = g := by simpa [Value.ownBlock] using hg
      omega
    · subst h1
      cases hg
  subst hv
  have hag := ρ.extF_ag 3 600 fun x => byt 8 (hsB (h0B 64) L D (nbkB L)) (x - 600)
  have h600 : ∀ k, k < 64 → (ρ.extF 600 fun x => byt 8 (hsB (h0B 64) L D (nbkB L)) (x - 600)).i (600 + k) = byt 8 (hsB (h0B 64) L D (nbkB L)) k := fun k _ => by
    show (if 600 + k < 600 then _ else byt 8 (hsB (h0B 64) L D (nbkB L)) (600 + k - 600)) = _
    rw [if_neg (by omega), show 600 + k - 600 = k by omega]
  have hM2 : MemOK c2 w (ρ.extF 600 fun x => byt 8 (hsB (h0B 64) L D (nbkB L)) (x - 600)) (mkSt Tryd.f11.ntmps 3 0 [] mlZ11 []) w2 := by
    refine MemOK.after (ml0 := mlE11) (xs := [ρ.b 2]) _ hM1 (by kernel_rfl) (by kernel_rfl) (by kernel_rfl) ?_ (by kernel_rfl) hk2 ?_ ?_
    · intro p hp
      simp only [mlE11, List.mem_cons, List.not_mem_nil, or_false] at hp
      rcases hp with rfl | rfl
      · exact ⟨⟨zeros .u8 64, 2⟩, by kernel_rfl, rfl, .inl rfl⟩
      · exact ⟨_, g2, rfl, .inr rfl⟩
    · intro x hx
      rw [List.mem_singleton] at hx
      subst hx
      exact ⟨2, ⟨[], 2⟩, by kernel_rfl, by show 2 ≠ 0; omega, rfl⟩
    · intro p hp
      have sep0 : ∀ j W, sW11.M.get j = some W → j ≠ 2 → ρ.b j ∉ [ρ.b 2] := fun j W hj hne hm => by
        rw [List.mem_singleton] at hm
        exact hM1.sep 2 _ j W g2 hj (by show 2 ≠ 0; omega) (Ne.symm hne) hm.symm
      simp only [mlZ11, List.mem_cons, List.not_mem_nil, or_false] at hp
      rcases hp with rfl | rfl
      · exact ⟨⟨zeros .u8 64, 2⟩, by kernel_rfl, rfl, .inl ⟨rfl, sep0 1 ⟨zeros .u8 64, 2⟩ (by kernel_rfl) (by omega)⟩⟩
      · refine ⟨⟨[], 2⟩, by kernel_rfl, rfl, .inr ⟨ws_ok _ _ _ _ _, ?_, ?_⟩⟩
        · show ∀ (i : Nat) x, (ws .u8 600 64)[i]? = some x → w2.cell? ⟨ρ.b 2, ρ.o 2 + i, none⟩ = some (x.den _)
          exact ws_cell hW2.cell h600
        · intro i hi
          exact hW2.free i (by have hi : i < (ws .u8 600 64).length := hi; rwa [ws_len] at hi)
  refine reach_back (s1 := mkSt Tryd.f11.ntmps 3 0 [] mlZ11 []) (s2 := mkSt Tryd.f11.ntmps 3 0 ((5, .tup []) :: flW11) mlZ11 []) (fl := flW11) (n := 3) (m := 600) (N := Tryd.f11.ntmps) (v := .tup []) (d := some 5) [] 0 hF1 hag (by kernel_rfl) (by kernel_rfl) (by kernel_rfl) hM2 (fun _ hp => by cases hp) (by kernel_rfl) ?_
  refine reach_ret (cfgW2_ok _ _) false 500 (v := .agg (ws .u8 600 64)) d1 (Obs.nil d2 _) (aggB_eq d3) fun ρ6 w6 hle6 hM6 _ => ?_
  refine ⟨?_, (hM6.kp (xs := []) fun j hj => by cases hj).below⟩
  simp only [SV.den]
  rw [ws_den ρ6 .u8 64 600 _ (fun k hk => (congrFun hle6.i _).trans (h600 k hk))]
theorem body12 : Tryd.f12.body = some (bodyOf Tryd.f12) := by kernel_rfl
set_option maxRecDepth 100000 in
set_option maxHeartbeats 1000000 in
theorem sum12 (w : World) (G : Glob w) (dv : Value) (L : Nat) (D : Nat → Int) (hdv : DataAt w dv L D) (h5 : Above 5 dv) (hL : L ≤ 2147483647) :
    Calls Tryd.prog 12 #[dv] w fun e w' => ∃ v, e = .returned v ∧ v = .agg (words .u8 48 (byt 8 (hsB (h0B 48) L D (nbkB L)))).toArray ∧ Below w.heap.size w w' := by
  obtain ⟨A, B, C⟩ := and3_iff ckW12
  obtain ⟨a1, a2, a3⟩ := and3_iff A
  obtain ⟨b1, b2, _⟩ := and3_iff B
  obtain ⟨d1, d2, d3⟩ := and3_iff C
  refine calls_reach (P := Tryd.prog) (cfg := c2) (w := w) (ρ := envV dv) (f := 12) (fn := Tryd.f12) (b := bodyOf Tryd.f12) Tryd.func12 body12 [.f (.row 0)] (nx := 1) (thr := 0) (ml := []) (orc := [])
    (by rfl) (by rfl) (fun v hv => by
      rw [List.mem_singleton] at hv
      subst hv
      show 0 < 1; omega) (K := fun v w' => v = .agg (words .u8 48 (byt 8 (hsB (h0B 48) L D (nbkB L)))).toArray ∧ Below w.heap.size w w') (MemOK.bare rfl rfl rfl w _ _ _ _ _ _) ?_
  refine reach_to (cfgW2_ok _ _) false 500 0 [] a1 a2 a3 fun ρ1 hle1 => ?_
  show Go.Sx.Reach Tryd.prog c2 w _ oW12.stk sW12 _
  have hr0 : (ρ1.ext 64 []).r 0 = dv := (hle1.r 0 (by show 0 < 1; omega))
  generalize ρ1.ext 64 [] = ρ at hr0
  obtain ⟨en1, en2⟩ := ent_some b1
  refine reach_calls (cfg := c2) (cfgE2_ok _ _) rfl rfl rfl en1 fun a1' w1 hF1 hM1 => ?_
  show Calls Tryd.prog eW12.f (eW12.vs.map (SV.den ρ)).toArray w1 (fun en w' => ∃ v, en = .returned v ∧ wpK Tryd.prog _ eW12.k .normal (a1'.put eW12.dst v) w')
  have en2 : eW12.f = 19 := en2
  have hargs : [SV.f (.ptr 2 0), .f (.int .i64 (.n 48)), .f (.row 0)].map (SV.den ρ) = [.pointer (some ⟨ρ.b 2, ρ.o 2, none⟩), .int .i64 ((48 : Nat) : Int), dv] := by
    simp only [List.map_cons, List.map_nil, SV.den, FV.den, hr0]
    rfl
  rw [ckWv12, hargs, en2, dstB_eq b2]
  have hk1' := hM1.kp (xs := []) fun j hj => by cases hj
  have hk1 := hk1'.below
  have lg := G.size
  have g2 : sW12.M.get 2 = some ⟨zeros .u8 64, 2⟩ := by kernel_rfl
  have k2 : w.heap.size ≤ ρ.b 2 := by
    rcases hM1.kind 2 _ g2 (by show 2 ≠ 0; omega) with hc | hc
    · cases hc
    · exact hc
  have hsum : WordsAt w1 (ρ.b 2) (ρ.o 2) .u8 64 fun _ => 0 := ⟨fun k hk => (hM1.cell 2 _ g2).2.2 k _ (zeros_get hk), fun k hk => hM1.free 2 _ g2 (by show 2 ≠ 0; omega) k (by rw [zeros_len]; exact hk)⟩
  refine Calls.mono (chkAnyB w1 (G.below hk1 lg) (ρ.b 2) (ρ.o 2) 48 L D (.inr (.inl rfl)) (by omega) dv (hdv.kp hk1) h5 (fun g hg => ?_) hsum hL) fun en w2 ⟨v, he, hv, hk2, hW2⟩ => ⟨v, he, ?_⟩
  · rcases hdv with ⟨p, o, c, h1, h2, h3, h4⟩ | ⟨h1, h2⟩
    · subst h1
      have : p = g := by simpa [Value.ownBlock] using hg
      omega
    · subst h1
      cases hg
  subst hv
  have hag := ρ.extF_ag 4 600 fun x => byt 8 (hsB (h0B 48) L D (nbkB L)) (x - 600)
  have h600 : ∀ k, k < 48 → (ρ.extF 600 fun x => byt 8 (hsB (h0B 48) L D (nbkB L)) (x - 600)).i (600 + k) = byt 8 (hsB (h0B 48) L D (nbkB L)) k := fun k _ => by
    show (if 600 + k < 600 then _ else byt 8 (hsB (h0B 48) L D (nbkB L)) (600 + k - 600)) = _
    rw [if_neg (by omega), show 600 + k - 600 = k by omega]
  have hM2 : MemOK c2 w (ρ.extF 600 fun x => byt 8 (hsB (h0B 48) L D (nbkB L)) (x - 600)) (mkSt Tryd.f12.ntmps 4 0 [] mlZ12 []) w2 := by
    refine MemOK.after (ml0 := mlE12) (xs := [ρ.b 2]) _ hM1 (by kernel_rfl) (by kernel_rfl) (by kernel_rfl) ?_ (by kernel_rfl) hk2 ?_ ?_
    · intro p hp
      simp only [mlE12, List.mem_cons, List.not_mem_nil, or_false] at hp
      rcases hp with rfl | rfl | rfl
      · exact ⟨⟨zeros .u8 48, 2⟩, by kernel_rfl, rfl, .inl rfl⟩
      · exact ⟨_, g2, rfl, .inr rfl⟩
      · exact ⟨⟨zeros .u8 48, 2⟩, by kernel_rfl, rfl, .inl rfl⟩
    · intro x hx
      rw [List.mem_singleton] at hx
      subst hx
      exact ⟨2, ⟨[], 2⟩, by kernel_rfl, by show 2 ≠ 0; omega, rfl⟩
    · intro p hp
      have sep0 : ∀ j W, sW12.M.get j = some W → j ≠ 2 → ρ.b j ∉ [ρ.b 2] := fun j W hj hne hm => by
        rw [List.mem_singleton] at hm
        exact hM1.sep 2 _ j W g2 hj (by show 2 ≠ 0; omega) (Ne.symm hne) hm.symm
      simp only [mlZ12, List.mem_cons, List.not_mem_nil, or_false] at hp
      rcases hp with rfl | rfl | rfl
      · exact ⟨⟨zeros .u8 48, 2⟩, by kernel_rfl, rfl, .inl ⟨rfl, sep0 1 ⟨zeros .u8 48, 2⟩ (by kernel_rfl) (by omega)⟩⟩
      · refine ⟨⟨[], 2⟩, by kernel_rfl, rfl, .inr ⟨ws_ok _ _ _ _ _, ?_, ?_⟩⟩
        · show ∀ (i : Nat) x, (ws .u8 600 48)[i]? = some x → w2.cell? ⟨ρ.b 2, ρ.o 2 + i, none⟩ = some (x.den _)
          exact ws_cell hW2.cell h600
        · intro i hi
          exact hW2.free i (by have hi : i < (ws .u8 600 48).length := hi; rwa [ws_len] at hi)
      · exact ⟨⟨zeros .u8 48, 2⟩, by kernel_rfl, rfl, .inl ⟨rfl, sep0 3 ⟨zeros .u8 48, 2⟩ (by kernel_rfl) (by omega)⟩⟩
  refine reach_back (s1 := mkSt Tryd.f12.ntmps 4 0 [] mlZ12 []) (s2 := mkSt Tryd.f12.ntmps 4 0 ((6, .tup []) :: flW12) mlZ12 []) (fl := flW12) (n := 4) (m := 600) (N := Tryd.f12.ntmps) (v := .tup []) (d := some 6) [] 0 hF1 hag (by kernel_rfl) (by kernel_rfl) (by kernel_rfl) hM2 (fun _ hp => by cases hp) (by kernel_rfl) ?_
  refine reach_ret (cfgW2_ok _ _) false 500 (v := .agg (ws .u8 600 48)) d1 (Obs.nil d2 _) (aggB_eq d3) fun ρ6 w6 hle6 hM6 _ => ?_
  refine ⟨?_, (hM6.kp (xs := []) fun j hj => by cases hj).below⟩
  simp only [SV.den]
  rw [ws_den ρ6 .u8 48 600 _ (fun k hk => (congrFun hle6.i _).trans (h600 k hk))]
theorem body13 : Tryd.f13.body = some (bodyOf Tryd.f13) := by kernel_rfl
set_option maxRecDepth 100000 in
set_option maxHeartbeats 1000000 in
theorem sum13 (w : World) (G : Glob w) (dv : Value) (L : Nat) (D : Nat → Int) (hdv : DataAt w dv L D) (h5 : Above 5 dv) (hL : L ≤ 2147483647) :
    Calls Tryd.prog 13 #[dv] w fun e w' => ∃ v, e = .returned v ∧ v = .agg (words .u8 32 (byt 8 (hsB (h0B 32) L D (nbkB L)))).toArray ∧ Below w.heap.size w w' := by
  obtain ⟨A, B, C⟩ := and3_iff ckW13
  obtain ⟨a1, a2, a3⟩ := and3_iff A
  obtain ⟨b1, b2, _⟩ := and3_iff B
  obtain ⟨d1, d2, d3⟩ := and3_iff C
  refine calls_reach (P := Tryd.prog) (cfg := c2) (w := w) (ρ := envV dv) (f := 13) (fn := Tryd.f13) (b := bodyOf Tryd.f13) Tryd.func13 body13 [.f (.row 0)] (nx := 1) (thr := 0) (ml := []) (orc := [])
    (by rfl) (by rfl) (fun v hv => by
      rw [List.mem_singleton] at hv
      subst hv
      show 0 < 1; omega) (K := fun v w' => v = .agg (words .u8 32 (byt 8 (hsB (h0B 32) L D (nbkB L)))).toArray ∧ Below w.heap.size w w') (MemOK.bare rfl rfl rfl w _ _ _ _ _ _) ?_
  refine reach_to (cfgW2_ok _ _) false 500 0 [] a1 a2 a3 fun ρ1 hle1 => ?_
  show Go.Sx.Reach Tryd.prog c2 w _ oW13.stk sW13 _
  have hr0 : (ρ1.ext 64 []).r 0 = dv := (hle1.r 0 (by show 0 < 1; omega))
  generalize ρ1.ext 64 [] = ρ at hr0
  obtain ⟨en1, en2⟩ := ent_some b1
  refine reach_calls (cfg := c2) (cfgE2_ok _ _) rfl rfl rfl en1 fun a1' w1 hF1 hM1 => ?_
  show Calls Tryd.prog eW13.f (eW13.vs.map (SV.den ρ)).toArray w1 (fun en w' => ∃ v, en = .returned v ∧ wpK Tryd.prog _ eW13.k .normal (a1'.put eW13.dst v) w')
  have en2 : eW13.f = 19 := en2
  have hargs : [SV.f (.ptr 2 0), .f (.int .i64 (.n 32)), .f (.row 0)].map (SV.den ρ) = [.pointer (some ⟨ρ.b 2, ρ.o 2, none⟩), .int .i64 ((32 : Nat) : Int), dv] := by
    simp only [List.map_cons, List.map_nil, SV.den, FV.den, hr0]
    rfl
  rw [ckWv13, hargs, en2, dstB_eq b2]
  have hk1' := hM1.kp (xs := []) fun j hj => by cases hj
  have hk1 := hk1'.below
  have lg := G.size
  have g2 : sW13.M.get 2 = some ⟨zeros .u8 64, 2⟩ := by kernel_rfl
  have k2 : w.heap.size ≤ ρ.b 2 := by
    rcases hM1.kind 2 _ g2 (by show 2 ≠ 0; omega) with hc | hc
    · cases hc
    · exact hc
  have hsum : WordsAt w1 (ρ.b 2) (ρ.o 2) .u8 64 fun _ => 0 := ⟨fun k hk => (hM1.cell 2 _ g2).2.2 k _ (zeros_get hk), fun k hk => hM1.free 2 _ g2 (by show 2 ≠ 0; omega) k (by rw [zeros_len]; exact hk)⟩
  refine Calls.mono (chkAnyB w1 (G.below hk1 lg) (ρ.b 2) (ρ.o 2) 32 L D (.inr (.inr rfl)) (by omega) dv (hdv.kp hk1) h5 (fun g hg => ?_) hsum hL) fun en w2 ⟨v, he, hv, hk2, hW2⟩ => ⟨v, he, ?_⟩
  · rcases hdv with ⟨p, o, c, h1, h2, h3, h4⟩ | ⟨h1, h2⟩
    · subst h1
      have : p = g := by simpa [Value.ownBlock] using hg
      omega
    · subst h1
      cases hg
  subst hv
  have hag := ρ.extF_ag 4 600 fun x => byt 8 (hsB (h0B 32) L D (nbkB L)) (x - 600)
  have h600 : ∀ k, k < 32 → (ρ.extF 600 fun x => byt 8 (hsB (h0B 32) L D (nbkB L)) (x - 600)).i (600 + k) = byt 8 (hsB (h0B 32) L D (nbkB L)) k := fun k _ => by
    show (if 600 + k < 600 then _ else byt 8 (hsB (h0B 32) L D (nbkB L)) (600 + k - 600)) = _
    rw [if_neg (by omega), show 600 + k - 600 = k by omega]
  have hM2 : MemOK c2 w (ρ.extF 600 fun x => byt 8 (hsB (h0B 32) L D (nbkB L)) (x - 600)) (mkSt Tryd.f13.ntmps 4 0 [] mlZ13 []) w2 := by
    refine MemOK.after (ml0 := mlE13) (xs := [ρ.b 2]) _ hM1 (by kernel_rfl) (by kernel_rfl) (by kernel_rfl) ?_ (by kernel_rfl) hk2 ?_ ?_
    · intro p hp
      simp only [mlE13, List.mem_cons, List.not_mem_nil, or_false] at hp
      rcases hp with rfl | rfl | rfl
      · exact ⟨⟨zeros .u8 32, 2⟩, by kernel_rfl, rfl, .inl rfl⟩
      · exact ⟨_, g2, rfl, .inr rfl⟩
      · exact ⟨⟨zeros .u8 32, 2⟩, by kernel_rfl, rfl, .inl rfl⟩
    · intro x hx
      rw [List.mem_singleton] at hx
      subst hx
      exact ⟨2, ⟨[], 2⟩, by kernel_rfl, by show 2 ≠ 0; omega, rfl⟩
    · intro p hp
      have sep0 : ∀ j W, sW13.M.get j = some W → j ≠ 2 → ρ.b j ∉ [ρ.b 2] := fun j W hj hne hm => by
        rw [List.mem_singleton] at hm
        exact hM1.sep 2 _ j W g2 hj (by show 2 ≠ 0; omega) (Ne.symm hne) hm.symm
      simp only [mlZ13, List.mem_cons, List.not_mem_nil, or_false] at hp
      rcases hp with rfl | rfl | rfl
      · exact ⟨⟨zeros .u8 32, 2⟩, by kernel_rfl, rfl, .inl ⟨rfl, sep0 1 ⟨zeros .u8 32, 2⟩ (by kernel_rfl) (by omega)⟩⟩
      · refine ⟨⟨[], 2⟩, by kernel_rfl, rfl, .inr ⟨ws_ok _ _ _ _ _, ?_, ?_⟩⟩
        · show ∀ (i : Nat) x, (ws .u8 600 32)[i]? = some x → w2.cell? ⟨ρ.b 2, ρ.o 2 + i, none⟩ = some (x.den _)
          exact ws_cell hW2.cell h600
        · intro i hi
          exact hW2.free i (by have hi : i < (ws .u8 600 32).length := hi; rwa [ws_len] at hi)
      · exact ⟨⟨zeros .u8 32, 2⟩, by kernel_rfl, rfl, .inl ⟨rfl, sep0 3 ⟨zeros .u8 32, 2⟩ (by kernel_rfl) (by omega)⟩⟩
  refine reach_back (s1 := mkSt Tryd.f13.ntmps 4 0 [] mlZ13 []) (s2 := mkSt Tryd.f13.ntmps 4 0 ((6, .tup []) :: flW13) mlZ13 []) (fl := flW13) (n := 4) (m := 600) (N := Tryd.f13.ntmps) (v := .tup []) (d := some 6) [] 0 hF1 hag (by kernel_rfl) (by kernel_rfl) (by kernel_rfl) hM2 (fun _ hp => by cases hp) (by kernel_rfl) ?_
  refine reach_ret (cfgW2_ok _ _) false 500 (v := .agg (ws .u8 600 32)) d1 (Obs.nil d2 _) (aggB_eq d3) fun ρ6 w6 hle6 hM6 _ => ?_
  refine ⟨?_, (hM6.kp (xs := []) fun j hj => by cases hj).below⟩
  simp only [SV.den]
  rw [ws_den ρ6 .u8 32 600 _ (fun k hk => (congrFun hle6.i _).trans (h600 k hk))]
end Go.Proofs.YtjhndmlpcpbaoaaDoor

/- What impl tells (b), called. -/
namespace Go.Proofs.YtjhndmlpcpbaoaaDoor
open Go Go.Sx Go.Proofs Go.RowKit
theorem body6 : Tryd.f6.body = some (bodyOf Tryd.f6) := by kernel_rfl
set_option maxRecDepth 100000 in
set_option maxHeartbeats 1000000 in
theorem imp11 (w : World) (G : Glob w) (dv : Value) (L : Nat) (D : Nat → Int) (hdv : DataAt w dv L D) (hL : L ≤ 2147483647) :
    Calls Tryd.prog 6 #[.int .i64 0, dv] w fun e w' => ∃ v, e = .returned v ∧ Below w.heap.size w w' ∧ DataAt w' v 64 (byt 8 (hsB (h0B 64) L D (nbkB L))) := by
  obtain ⟨A, B, C⟩ := and3_iff ckI11
  obtain ⟨A1, A2, _⟩ := and3_iff A
  obtain ⟨a1, a2, a3⟩ := and3_iff A1
  obtain ⟨a4, a5, _⟩ := and3_iff A2
  obtain ⟨B1, B2, _⟩ := and3_iff B
  obtain ⟨b1, b2, b3⟩ := and3_iff B1
  obtain ⟨b4, b5, _⟩ := and3_iff B2
  obtain ⟨C1, C2, C3⟩ := and3_iff C
  obtain ⟨d1, d2, d3⟩ := and3_iff C1
  obtain ⟨d4, d5, _⟩ := and3_iff C2
  obtain ⟨d6, d7, d8⟩ := and3_iff C3
  have lg := G.size
  refine calls_reach (P := Tryd.prog) (cfg := c2) (w := w) (ρ := envV dv) (f := 6) (fn := Tryd.f6) (b := bodyOf Tryd.f6) Tryd.func6 body6 [.f (.int .i64 (.n 0)), .f (.row 0)] (nx := 1) (thr := 0) (ml := []) (orc := [])
    (by rfl) (by rfl) (fun v hv => by
      simp only [List.mem_cons, List.not_mem_nil, or_false] at hv
      rcases hv with rfl | rfl
      · trivial
      · show 0 < 1; omega) (K := fun v w' => Below w.heap.size w w' ∧ DataAt w' v 64 (byt 8 (hsB (h0B 64) L D (nbkB L)))) (MemOK.bare rfl rfl rfl w _ _ _ _ _ _) ?_
  refine reach_to (cfgW2_ok _ _) false 500 0 [] a1 a2 a3 fun ρ1 hle1 => ?_
  show Go.Sx.Reach Tryd.prog c2 w _ oIA11.stk sIA11 _
  have hr0 : (ρ1.ext 64 []).r 0 = dv := (hle1.r 0 (by show 0 < 1; omega))
  generalize ρ1.ext 64 [] = ρ2 at hr0
  obtain ⟨en1, en2⟩ := ent_some a4
  refine reach_calls (cfg := c2) (cfgE2_ok _ _) rfl rfl rfl en1 fun a1' w1 hF1 hM1 => ?_
  show Calls Tryd.prog eIA11.f (eIA11.vs.map (SV.den ρ2)).toArray w1 (fun en w' => ∃ v, en = .returned v ∧ wpK Tryd.prog _ eIA11.k .normal (a1'.put eIA11.dst v) w')
  have en2 : eIA11.f = 10 := en2
  have hargs : [SV.f (.row 0)].map (SV.den ρ2) = [dv] := by
    simp only [List.map_cons, List.map_nil, SV.den, FV.den, hr0]
  rw [ckIa11, hargs, en2, dstB_eq a5]
  have hk1 := (hM1.kp (xs := []) fun j hj => by cases hj).below
  refine Calls.mono (clone_calls w1 dv L D hL (hdv.kp hk1)) fun en w2 ⟨u, he, hB2, hu, hab⟩ => ⟨u, he, ?_⟩
  have hk2 : Below w.heap.size w w2 := hk1.trans (hB2.mono hk1.size)
  refine next_row (cfg := c2) (nx := 1) (fl := fiA11) (N := Tryd.f6.ntmps) rfl rfl rfl [] hF1 (by rfl) (by omega) u w2 ?_
  have r1 : (ρ2.more 1 0 0 0 u).r 1 = u := more_r _ _ _
  generalize ρ2.more 1 0 0 0 u = ρ3 at r1
  refine reach_to (cfgW2_ok _ _) false 500 0 [] b1 b2 b3 fun ρ4 hle4 => ?_
  show Go.Sx.Reach Tryd.prog c2 w2 _ oIB11.stk sIB11 _
  have q1 : (ρ4.ext 64 []).r 1 = u := (hle4.r 1 (by show 1 < 2; omega)).trans r1
  generalize ρ4.ext 64 [] = ρ5 at q1
  obtain ⟨en3, en4⟩ := ent_some b4
  refine reach_calls (cfg := c2) (cfgE2_ok _ _) rfl rfl rfl en3 fun a3' w3 hF3 hM3 => ?_
  show Calls Tryd.prog eIB11.f (eIB11.vs.map (SV.den ρ5)).toArray w3 (fun en w' => ∃ v, en = .returned v ∧ wpK Tryd.prog _ eIB11.k .normal (a3'.put eIB11.dst v) w')
  have en4 : eIB11.f = 11 := en4
  have hargs2 : [SV.f (.row 1)].map (SV.den ρ5) = [u] := by
    simp only [List.map_cons, List.map_nil, SV.den, FV.den, q1]
  rw [ckIb11, hargs2, en4, dstB_eq b5]
  have hk3' := (hM3.kp (xs := []) fun j hj => by cases hj).below
  have hk3 : Below w.heap.size w w3 := hk2.trans (hk3'.mono hk2.size)
  refine Calls.mono (sum11 w3 (G.below hk3 lg) u L D (hu.kp hk3') (fun g hg => by have := hab g hg; have := hk1.size; omega) hL) fun en w4 ⟨y, he2, hy, hB4⟩ => ⟨y, he2, ?_⟩
  subst hy
  have hk4 : Below w.heap.size w w4 := hk3.trans (hB4.mono hk3.size)
  have hag := ρ5.extF_ag 2 600 fun x => byt 8 (hsB (h0B 64) L D (nbkB L)) (x - 600)
  have h600 : ∀ k, k < 64 → (ρ5.extF 600 fun x => byt 8 (hsB (h0B 64) L D (nbkB L)) (x - 600)).i (600 + k) = byt 8 (hsB (h0B 64) L D (nbkB L)) k := fun k _ => by
    show (if 600 + k < 600 then _ else byt 8 (hsB (h0B 64) L D (nbkB L)) (600 + k - 600)) = _
    rw [if_neg (by omega), show 600 + k - 600 = k by omega]
  have hval : Value.agg (words .u8 64 (byt 8 (hsB (h0B 64) L D (nbkB L)))).toArray = (SV.agg (ws .u8 600 64)).den (ρ5.extF 600 fun x => byt 8 (hsB (h0B 64) L D (nbkB L)) (x - 600)) := by
    simp only [SV.den]
    rw [ws_den _ .u8 64 600 _ h600]
  rw [hval]
  refine reach_back (w0 := w4) (cfg := c2) (s1 := mkSt Tryd.f6.ntmps 2 0 [] [] []) (s2 := mkSt Tryd.f6.ntmps 2 0 ((14, .agg (ws .u8 600 64)) :: fiB11) [] []) (fl := fiB11) (n := 2) (m := 600) (N := Tryd.f6.ntmps) (v := .agg (ws .u8 600 64)) (d := some 14) [] 0 hF3 hag (by rfl) (by rfl) (by rfl) (MemOK.bare rfl rfl rfl w4 _ _ _ _ _ _) (ws_ok _ _ _ _ _) (by rfl) ?_
  refine reach_to (cfgW2_ok _ _) false 500 0 [] d1 d2 d3 fun ρ6 hle6 => ?_
  show Go.Sx.Reach Tryd.prog c2 w4 _ oIC11.stk sIC11 _
  have h700 : ∀ k, k < 64 → (ρ6.ext 700 []).i (600 + k) = byt 8 (hsB (h0B 64) L D (nbkB L)) k := fun k hk => by
    rw [Env.ext_old _ _ (by omega), hle6.i]; exact h600 k hk
  generalize ρ6.ext 700 [] = ρ7 at h700
  obtain ⟨en5, en6⟩ := ent_some d4
  refine reach_calls (cfg := c2) (cfgE2_ok _ _) rfl rfl rfl en5 fun a5' w5 hF5 hM5 => ?_
  show Calls Tryd.prog eIC11.f (eIC11.vs.map (SV.den ρ7)).toArray w5 (fun en w' => ∃ v, en = .returned v ∧ wpK Tryd.prog _ eIC11.k .normal (a5'.put eIC11.dst v) w')
  have en6 : eIC11.f = 10 := en6
  have hargs3 : [SV.f (.sl 2 0 (.n 64) (.l 64))].map (SV.den ρ7) = [.slice (some ⟨ρ7.b 2, ρ7.o 2 + 0, none⟩) 64 64] := rfl
  rw [ckIc11, hargs3, en6, dstB_eq d5]
  have hk5' := (hM5.kp (xs := []) fun j hj => by cases hj).below
  have hk5 : Below w.heap.size w w5 := hk4.trans (hk5'.mono hk4.size)
  have g2 : sIC11.M.get 2 = some ⟨ws .u8 600 64, 2⟩ := by kernel_rfl
  refine Calls.mono (clone_calls w5 _ 64 (byt 8 (hsB (h0B 64) L D (nbkB L))) (by omega) (.inl ⟨ρ7.b 2, ρ7.o 2 + 0, 64, rfl, Nat.le_refl _, hM5.lt 2 _ g2, fun k hk => by
    rw [Nat.add_zero, (hM5.cell 2 _ g2).2.2 k _ (ws_get hk)]
    simp only [FV.den, E.den]
    rw [h700 k hk]⟩)) fun en w6 ⟨t, he3, hB6, ht, _⟩ => ⟨t, he3, ?_⟩
  have hk6 : Below w.heap.size w w6 := hk5.trans (hB6.mono hk5.size)
  refine next_row (cfg := c2) (nx := 3) (fl := fiC11) (N := Tryd.f6.ntmps) rfl rfl rfl [] hF5 (by rfl) (by omega) t w6 ?_
  have r3 : (ρ7.more 3 0 0 0 t).r 3 = t := more_r _ _ _
  generalize ρ7.more 3 0 0 0 t = ρ8 at r3
  refine reach_ret (cfgW2_ok _ _) false 500 (v := .f (.row 3)) d6 (Obs.nil d7 _) (rowB_eq d8) fun ρ9 w9 hle9 hM9 _ => ?_
  have he9 : (SV.f (.row 3)).den ρ9 = t := (hle9.r 3 (by show 3 < 4; omega)).trans r3
  have hk9 := (hM9.kp (xs := []) fun j hj => by cases hj).below
  rw [he9]
  exact ⟨hk6.trans (hk9.mono hk6.size), ht.kp hk9⟩
set_option maxRecDepth 100000 in
set_option maxHeartbeats 1000000 in
theorem imp12 (w : World) (G : Glob w) (dv : Value) (L : Nat) (D : Nat → Int) (hdv : DataAt w dv L D) (hL : L ≤ 2147483647) :
    Calls Tryd.prog 6 #[.int .i64 1, dv] w fun e w' => ∃ v, e = .returned v ∧ Below w.heap.size w w' ∧ DataAt w' v 48 (byt 8 (hsB (h0B 48) L D (nbkB L))) := by
  obtain ⟨A, B, C⟩ := and3_iff ckI12
  obtain ⟨A1, A2, _⟩ := and3_iff A
  obtain ⟨a1, a2, a3⟩ := and3_iff A1
  obtain ⟨a4, a5, _⟩ := and3_iff A2
  obtain ⟨B1, B2, _⟩ := and3_iff B
  obtain ⟨b1, b2, b3⟩ := and3_iff B1
  obtain ⟨b4, b5, _⟩ := and3_iff B2
  obtain ⟨C1, C2, C3⟩ := and3_iff C
  obtain ⟨d1, d2, d3⟩ := and3_iff C1
  obtain ⟨d4, d5, _⟩ := and3_iff C2
  obtain ⟨d6, d7, d8⟩ := and3_iff C3
  have lg := G.size
  refine calls_reach (P := Tryd.prog) (cfg := c2) (w := w) (ρ := envV dv) (f := 6) (fn := Tryd.f6) (b := bodyOf Tryd.f6) Tryd.func6 body6 [.f (.int .i64 (.n 1)), .f (.row 0)] (nx := 1) (thr := 0) (ml := []) (orc := [])
    (by rfl) (by rfl) (fun v hv => by
      simp only [List.mem_cons, List.not_mem_nil, or_false] at hv
      rcases hv with rfl | rfl
      · trivial
      · show 0 < 1; omega) (K := fun v w' => Below w.heap.size w w' ∧ DataAt w' v 48 (byt 8 (hsB (h0B 48) L D (nbkB L)))) (MemOK.bare rfl rfl rfl w _ _ _ _ _ _) ?_
  refine reach_to (cfgW2_ok _ _) false 500 0 [] a1 a2 a3 fun ρ1 hle1 => ?_
  show Go.Sx.Reach Tryd.prog c2 w _ oIA12.stk sIA12 _
  have hr0 : (ρ1.ext 64 []).r 0 = dv := (hle1.r 0 (by show 0 < 1; omega))
  generalize ρ1.ext 64 [] = ρ2 at hr0
  obtain ⟨en1, en2⟩ := ent_some a4
  refine reach_calls (cfg := c2) (cfgE2_ok _ _) rfl rfl rfl en1 fun a1' w1 hF1 hM1 => ?_
  show Calls Tryd.prog eIA12.f (eIA12.vs.map (SV.den ρ2)).toArray w1 (fun en w' => ∃ v, en = .returned v ∧ wpK Tryd.prog _ eIA12.k .normal (a1'.put eIA12.dst v) w')
  have en2 : eIA12.f = 10 := en2
  have hargs : [SV.f (.row 0)].map (SV.den ρ2) = [dv] := by
    simp only [List.map_cons, List.map_nil, SV.den, FV.den, hr0]
  rw [ckIa12, hargs, en2, dstB_eq a5]
  have hk1 := (hM1.kp (xs := []) fun j hj => by cases hj).below
  refine Calls.mono (clone_calls w1 dv L D hL (hdv.kp hk1)) fun en w2 ⟨u, he, hB2, hu, hab⟩ => ⟨u, he, ?_⟩
  have hk2 : Below w.heap.size w w2 := hk1.trans (hB2.mono hk1.size)
  refine next_row (cfg := c2) (nx := 1) (fl := fiA12) (N := Tryd.f6.ntmps) rfl rfl rfl [] hF1 (by rfl) (by omega) u w2 ?_
  have r1 : (ρ2.more 1 0 0 0 u).r 1 = u := more_r _ _ _
  generalize ρ2.more 1 0 0 0 u = ρ3 at r1
  refine reach_to (cfgW2_ok _ _) false 500 0 [] b1 b2 b3 fun ρ4 hle4 => ?_
  show Go.Sx.Reach Tryd.prog c2 w2 _ oIB12.stk sIB12 _
  have q1 : (ρ4.ext 64 []).r 1 = u := (hle4.r 1 (by show 1 < 2; omega)).trans r1
  generalize ρ4.ext 64 [] = ρ5 at q1
  obtain ⟨en3, en4⟩ := ent_some b4
  refine reach_calls (cfg := c2) (cfgE2_ok _ _) rfl rfl rfl en3 fun a3' w3 hF3 hM3 => ?_
  show Calls Tryd.prog eIB12.f (eIB12.vs.map (SV.den ρ5)).toArray w3 (fun en w' => ∃ v, en = .returned v ∧ wpK Tryd.prog _ eIB12.k .normal (a3'.put eIB12.dst v) w')
  have en4 : eIB12.f = 12 := en4
  have hargs2 : [SV.f (.row 1)].map (SV.den ρ5) = [u] := by
    simp only [List.map_cons, List.map_nil, SV.den, FV.den, q1]
  rw [ckIb12, hargs2, en4, dstB_eq b5]
  have hk3' := (hM3.kp (xs := []) fun j hj => by cases hj).below
  have hk3 : Below w.heap.size w w3 := hk2.trans (hk3'.mono hk2.size)
  refine Calls.mono (sum12 w3 (G.below hk3 lg) u L D (hu.kp hk3') (fun g hg => by have := hab g hg; have := hk1.size; omega) hL) fun en w4 ⟨y, he2, hy, hB4⟩ => ⟨y, he2, ?_⟩
  subst hy
  have hk4 : Below w.heap.size w w4 := hk3.trans (hB4.mono hk3.size)
  have hag := ρ5.extF_ag 2 600 fun x => byt 8 (hsB (h0B 48) L D (nbkB L)) (x - 600)
  have h600 : ∀ k, k < 48 → (ρ5.extF 600 fun x => byt 8 (hsB (h0B 48) L D (nbkB L)) (x - 600)).i (600 + k) = byt 8 (hsB (h0B 48) L D (nbkB L)) k := fun k _ => by
    show (if 600 + k < 600 then _ else byt 8 (hsB (h0B 48) L D (nbkB L)) (600 + k - 600)) = _
    rw [if_neg (by omega), show 600 + k - 600 = k by omega]
  have hval : Value.agg (words .u8 48 (byt 8 (hsB (h0B 48) L D (nbkB L)))).toArray = (SV.agg (ws .u8 600 48)).den (ρ5.extF 600 fun x => byt 8 (hsB (h0B 48) L D (nbkB L)) (x - 600)) := by
    simp only [SV.den]
    rw [ws_den _ .u8 48 600 _ h600]
  rw [hval]
  refine reach_back (w0 := w4) (cfg := c2) (s1 := mkSt Tryd.f6.ntmps 2 0 [] [] []) (s2 := mkSt Tryd.f6.ntmps 2 0 ((20, .agg (ws .u8 600 48)) :: fiB12) [] []) (fl := fiB12) (n := 2) (m := 600) (N := Tryd.f6.ntmps) (v := .agg (ws .u8 600 48)) (d := some 20) [] 0 hF3 hag (by rfl) (by rfl) (by rfl) (MemOK.bare rfl rfl rfl w4 _ _ _ _ _ _) (ws_ok _ _ _ _ _) (by rfl) ?_
  refine reach_to (cfgW2_ok _ _) false 500 0 [] d1 d2 d3 fun ρ6 hle6 => ?_
  show Go.Sx.Reach Tryd.prog c2 w4 _ oIC12.stk sIC12 _
  have h700 : ∀ k, k < 48 → (ρ6.ext 700 []).i (600 + k) = byt 8 (hsB (h0B 48) L D (nbkB L)) k := fun k hk => by
    rw [Env.ext_old _ _ (by omega), hle6.i]; exact h600 k hk
  generalize ρ6.ext 700 [] = ρ7 at h700
  obtain ⟨en5, en6⟩ := ent_some d4
  refine reach_calls (cfg := c2) (cfgE2_ok _ _) rfl rfl rfl en5 fun a5' w5 hF5 hM5 => ?_
  show Calls Tryd.prog eIC12.f (eIC12.vs.map (SV.den ρ7)).toArray w5 (fun en w' => ∃ v, en = .returned v ∧ wpK Tryd.prog _ eIC12.k .normal (a5'.put eIC12.dst v) w')
  have en6 : eIC12.f = 10 := en6
  have hargs3 : [SV.f (.sl 2 0 (.n 48) (.l 48))].map (SV.den ρ7) = [.slice (some ⟨ρ7.b 2, ρ7.o 2 + 0, none⟩) 48 48] := rfl
  rw [ckIc12, hargs3, en6, dstB_eq d5]
  have hk5' := (hM5.kp (xs := []) fun j hj => by cases hj).below
  have hk5 : Below w.heap.size w w5 := hk4.trans (hk5'.mono hk4.size)
  have g2 : sIC12.M.get 2 = some ⟨ws .u8 600 48, 2⟩ := by kernel_rfl
  refine Calls.mono (clone_calls w5 _ 48 (byt 8 (hsB (h0B 48) L D (nbkB L))) (by omega) (.inl ⟨ρ7.b 2, ρ7.o 2 + 0, 48, rfl, Nat.le_refl _, hM5.lt 2 _ g2, fun k hk => by
    rw [Nat.add_zero, (hM5.cell 2 _ g2).2.2 k _ (ws_get hk)]
    simp only [FV.den, E.den]
    rw [h700 k hk]⟩)) fun en w6 ⟨t, he3, hB6, ht, _⟩ => ⟨t, he3, ?_⟩
  have hk6 : Below w.heap.size w w6 := hk5.trans (hB6.mono hk5.size)
  refine next_row (cfg := c2) (nx := 3) (fl := fiC12) (N := Tryd.f6.ntmps) rfl rfl rfl [] hF5 (by rfl) (by omega) t w6 ?_
  have r3 : (ρ7.more 3 0 0 0 t).r 3 = t := more_r _ _ _
  generalize ρ7.more 3 0 0 0 t = ρ8 at r3
  refine reach_ret (cfgW2_ok _ _) false 500 (v := .f (.row 3)) d6 (Obs.nil d7 _) (rowB_eq d8) fun ρ9 w9 hle9 hM9 _ => ?_
  have he9 : (SV.f (.row 3)).den ρ9 = t := (hle9.r 3 (by show 3 < 4; omega)).trans r3
  have hk9 := (hM9.kp (xs := []) fun j hj => by cases hj).below
  rw [he9]
  exact ⟨hk6.trans (hk9.mono hk6.size), ht.kp hk9⟩
set_option maxRecDepth 100000 in
set_option maxHeartbeats 1000000 in
theorem imp13 (w : World) (G : Glob w) (dv : Value) (L : Nat) (D : Nat → Int) (hdv : DataAt w dv L D) (hL : L ≤ 2147483647) :
    Calls Tryd.prog 6 #[.int .i64 2, dv] w fun e w' => ∃ v, e = .returned v ∧ Below w.heap.size w w' ∧ DataAt w' v 32 (byt 8 (hsB (h0B 32) L D (nbkB L))) := by
  obtain ⟨A, B, C⟩ := and3_iff ckI13
  obtain ⟨A1, A2, _⟩ := and3_iff A
  obtain ⟨a1, a2, a3⟩ := and3_iff A1
  obtain ⟨a4, a5, _⟩ := and3_iff A2
  obtain ⟨B1, B2, _⟩ := and3_iff B
  obtain ⟨b1, b2, b3⟩ := and3_iff B1
  obtain ⟨b4, b5, _⟩ := and3_iff B2
  obtain ⟨C1, C2, C3⟩ := and3_iff C
  obtain ⟨d1, d2, d3⟩ := and3_iff C1
  obtain ⟨d4, d5, _⟩ := and3_iff C2
  obtain ⟨d6, d7, d8⟩ := and3_iff C3
  have lg := G.size
  refine calls_reach (P := Tryd.prog) (cfg := c2) (w := w) (ρ := envV dv) (f := 6) (fn := Tryd.f6) (b := bodyOf Tryd.f6) Tryd.func6 body6 [.f (.int .i64 (.n 2)), .f (.row 0)] (nx := 1) (thr := 0) (ml := []) (orc := [])
    (by rfl) (by rfl) (fun v hv => by
      simp only [List.mem_cons, List.not_mem_nil, or_false] at hv
      rcases hv with rfl | rfl
      · trivial
      · show 0 < 1; omega) (K := fun v w' => Below w.heap.size w w' ∧ DataAt w' v 32 (byt 8 (hsB (h0B 32) L D (nbkB L)))) (MemOK.bare rfl rfl rfl w _ _ _ _ _ _) ?_
  refine reach_to (cfgW2_ok _ _) false 500 0 [] a1 a2 a3 fun ρ1 hle1 => ?_
  show Go.Sx.Reach Tryd.prog c2 w _ oIA13.stk sIA13 _
  have hr0 : (ρ1.ext 64 []).r 0 = dv := (hle1.r 0 (by show 0 < 1; omega))
  generalize ρ1.ext 64 [] = ρ2 at hr0
  obtain ⟨en1, en2⟩ := ent_some a4
  refine reach_calls (cfg := c2) (cfgE2_ok _ _) rfl rfl rfl en1 fun a1' w1 hF1 hM1 => ?_
  show Calls Tryd.prog eIA13.f (eIA13.vs.map (SV.den ρ2)).toArray w1 (fun en w' => ∃ v, en = .returned v ∧ wpK Tryd.prog _ eIA13.k .normal (a1'.put eIA13.dst v) w')
  have en2 : eIA13.f = 10 := en2
  have hargs : [SV.f (.row 0)].map (SV.den ρ2) = [dv] := by
    simp only [List.map_cons, List.map_nil, SV.den, FV.den, hr0]
  rw [ckIa13, hargs, en2, dstB_eq a5]
  have hk1 := (hM1.kp (xs := []) fun j hj => by cases hj).below
  refine Calls.mono (clone_calls w1 dv L D hL (hdv.kp hk1)) fun en w2 ⟨u, he, hB2, hu, hab⟩ => ⟨u, he, ?_⟩
  have hk2 : Below w.heap.size w w2 := hk1.trans (hB2.mono hk1.size)
  refine next_row (cfg := c2) (nx := 1) (fl := fiA13) (N := Tryd.f6.ntmps) rfl rfl rfl [] hF1 (by rfl) (by omega) u w2 ?_
  have r1 : (ρ2.more 1 0 0 0 u).r 1 = u := more_r _ _ _
  generalize ρ2.more 1 0 0 0 u = ρ3 at r1
  refine reach_to (cfgW2_ok _ _) false 500 0 [] b1 b2 b3 fun ρ4 hle4 => ?_
  show Go.Sx.Reach Tryd.prog c2 w2 _ oIB13.stk sIB13 _
  have q1 : (ρ4.ext 64 []).r 1 = u := (hle4.r 1 (by show 1 < 2; omega)).trans r1
  generalize ρ4.ext 64 [] = ρ5 at q1
  obtain ⟨en3, en4⟩ := ent_some b4
  refine reach_calls (cfg := c2) (cfgE2_ok _ _) rfl rfl rfl en3 fun a3' w3 hF3 hM3 => ?_
  show Calls Tryd.prog eIB13.f (eIB13.vs.map (SV.den ρ5)).toArray w3 (fun en w' => ∃ v, en = .returned v ∧ wpK Tryd.prog _ eIB13.k .normal (a3'.put eIB13.dst v) w')
  have en4 : eIB13.f = 13 := en4
  have hargs2 : [SV.f (.row 1)].map (SV.den ρ5) = [u] := by
    simp only [List.map_cons, List.map_nil, SV.den, FV.den, q1]
  rw [ckIb13, hargs2, en4, dstB_eq b5]
  have hk3' := (hM3.kp (xs := []) fun j hj => by cases hj).below
  have hk3 : Below w.heap.size w w3 := hk2.trans (hk3'.mono hk2.size)
  refine Calls.mono (sum13 w3 (G.below hk3 lg) u L D (hu.kp hk3') (fun g hg => by have := hab g hg; have := hk1.size; omega) hL) fun en w4 ⟨y, he2, hy, hB4⟩ => ⟨y, he2, ?_⟩
  subst hy
  have hk4 : Below w.heap.size w w4 := hk3.trans (hB4.mono hk3.size)
  have hag := ρ5.extF_ag 2 600 fun x => byt 8 (hsB (h0B 32) L D (nbkB L)) (x - 600)
  have h600 : ∀ k, k < 32 → (ρ5.extF 600 fun x => byt 8 (hsB (h0B 32) L D (nbkB L)) (x - 600)).i (600 + k) = byt 8 (hsB (h0B 32) L D (nbkB L)) k := fun k _ => by
    show (if 600 + k < 600 then _ else byt 8 (hsB (h0B 32) L D (nbkB L)) (600 + k - 600)) = _
    rw [if_neg (by omega), show 600 + k - 600 = k by omega]
  have hval : Value.agg (words .u8 32 (byt 8 (hsB (h0B 32) L D (nbkB L)))).toArray = (SV.agg (ws .u8 600 32)).den (ρ5.extF 600 fun x => byt 8 (hsB (h0B 32) L D (nbkB L)) (x - 600)) := by
    simp only [SV.den]
    rw [ws_den _ .u8 32 600 _ h600]
  rw [hval]
  refine reach_back (w0 := w4) (cfg := c2) (s1 := mkSt Tryd.f6.ntmps 2 0 [] [] []) (s2 := mkSt Tryd.f6.ntmps 2 0 ((26, .agg (ws .u8 600 32)) :: fiB13) [] []) (fl := fiB13) (n := 2) (m := 600) (N := Tryd.f6.ntmps) (v := .agg (ws .u8 600 32)) (d := some 26) [] 0 hF3 hag (by rfl) (by rfl) (by rfl) (MemOK.bare rfl rfl rfl w4 _ _ _ _ _ _) (ws_ok _ _ _ _ _) (by rfl) ?_
  refine reach_to (cfgW2_ok _ _) false 500 0 [] d1 d2 d3 fun ρ6 hle6 => ?_
  show Go.Sx.Reach Tryd.prog c2 w4 _ oIC13.stk sIC13 _
  have h700 : ∀ k, k < 32 → (ρ6.ext 700 []).i (600 + k) = byt 8 (hsB (h0B 32) L D (nbkB L)) k := fun k hk => by
    rw [Env.ext_old _ _ (by omega), hle6.i]; exact h600 k hk
  generalize ρ6.ext 700 [] = ρ7 at h700
  obtain ⟨en5, en6⟩ := ent_some d4
  refine reach_calls (cfg := c2) (cfgE2_ok _ _) rfl rfl rfl en5 fun a5' w5 hF5 hM5 => ?_
  show Calls Tryd.prog eIC13.f (eIC13.vs.map (SV.den ρ7)).toArray w5 (fun en w' => ∃ v, en = .returned v ∧ wpK Tryd.prog _ eIC13.k .normal (a5'.put eIC13.dst v) w')
  have en6 : eIC13.f = 10 := en6
  have hargs3 : [SV.f (.sl 2 0 (.n 32) (.l 32))].map (SV.den ρ7) = [.slice (some ⟨ρ7.b 2, ρ7.o 2 + 0, none⟩) 32 32] := rfl
  rw [ckIc13, hargs3, en6, dstB_eq d5]
  have hk5' := (hM5.kp (xs := []) fun j hj => by cases hj).below
  have hk5 : Below w.heap.size w w5 := hk4.trans (hk5'.mono hk4.size)
  have g2 : sIC13.M.get 2 = some ⟨ws .u8 600 32, 2⟩ := by kernel_rfl
  refine Calls.mono (clone_calls w5 _ 32 (byt 8 (hsB (h0B 32) L D (nbkB L))) (by omega) (.inl ⟨ρ7.b 2, ρ7.o 2 + 0, 32, rfl, Nat.le_refl _, hM5.lt 2 _ g2, fun k hk => by
    rw [Nat.add_zero, (hM5.cell 2 _ g2).2.2 k _ (ws_get hk)]
    simp only [FV.den, E.den]
    rw [h700 k hk]⟩)) fun en w6 ⟨t, he3, hB6, ht, _⟩ => ⟨t, he3, ?_⟩
  have hk6 : Below w.heap.size w w6 := hk5.trans (hB6.mono hk5.size)
  refine next_row (cfg := c2) (nx := 3) (fl := fiC13) (N := Tryd.f6.ntmps) rfl rfl rfl [] hF5 (by rfl) (by omega) t w6 ?_
  have r3 : (ρ7.more 3 0 0 0 t).r 3 = t := more_r _ _ _
  generalize ρ7.more 3 0 0 0 t = ρ8 at r3
  refine reach_ret (cfgW2_ok _ _) false 500 (v := .f (.row 3)) d6 (Obs.nil d7 _) (rowB_eq d8) fun ρ9 w9 hle9 hM9 _ => ?_
  have he9 : (SV.f (.row 3)).den ρ9 = t := (hle9.r 3 (by show 3 < 4; omega)).trans r3
  have hk9 := (hM9.kp (xs := []) fun j hj => by cases hj).below
  rw [he9]
  exact ⟨hk6.trans (hk9.mono hk6.size), ht.kp hk9⟩
end Go.Proofs.YtjhndmlpcpbaoaaDoor
