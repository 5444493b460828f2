/- The reference's hash of so many bytes (s), called. -/
import Derived.Test.YtjhndmlpcpbaoaaDoorSegTS
import Derived.Test.YtjhndmlpcpbaoaaDoorHshS
import Derived.Test.YtjhndmlpcpbaoaaDoorChkS
namespace Go.Proofs.YtjhndmlpcpbaoaaDoor
open Go Go.Sx Go.Proofs Go.RowKit
theorem body18 : Tryd.f18.body = some (bodyOf Tryd.f18) := by kernel_rfl
theorem body9 : Tryd.f9.body = some (bodyOf Tryd.f9) := by kernel_rfl
theorem parL_lenS (z : Int) : (parLS z).length = 32 := by
  have : ∀ n, (zerL n).length = n := by
    intro n
    induction n with
    | zero => rfl
    | succ n ih => simp [zerL, ih]
  simp [parLS, this]
theorem parS (w : World) (z : Nat) (hz : z = 32) : Calls Tryd.prog 18 #[.int .i64 z, .int .i64 0] w fun e w' => ∃ v, e = .returned v ∧ ∃ p o, v = .slice (some ⟨p, o, none⟩) 32 32 ∧ Below w.heap.size w w' ∧ p < w'.heap.size ∧ CellsAt w' p o .u8 (parLS z) := by
  obtain ⟨A1, A2, A3⟩ := and3_iff (ckPar_allS hz)
  obtain ⟨a1, a2, _⟩ := and3_iff A1
  refine calls_reach (P := Tryd.prog) (cfg := chS) (w := w) (ρ := envV undef) (f := 18) (fn := Tryd.f18) (b := bodyOf Tryd.f18) Tryd.func18 body18 [.f (.int .i64 (.n z)), .f (.int .i64 (.n 0))] (nx := 0) (thr := 0) (ml := []) (orc := [])
    (by rfl) (by rfl) (fun v hv => by
      simp only [List.mem_cons, List.not_mem_nil, or_false] at hv
      rcases hv with rfl | rfl <;> trivial) (K := fun v w' => ∃ p o, v = .slice (some ⟨p, o, none⟩) 32 32 ∧ Below w.heap.size w w' ∧ p < w'.heap.size ∧ CellsAt w' p o .u8 (parLS z)) (MemOK.bare rfl rfl rfl w _ _ _ _ _ _) ?_
  refine reach_ret (cfgW_ok _ _) false 1000 (v := .f (.sl 1 0 (.n 32) (.l 32))) a1 (Obs.nil a2 _) (slLB_eq A2) fun ρ1 w1 hle1 hM1 _ => ?_
  obtain ⟨W, hW, hT⟩ := winB_eq A3
  refine ⟨ρ1.b 1, ρ1.o 1 + 0, rfl, (hM1.kp (xs := []) fun j hj => by cases hj).below, hM1.lt 1 W hW, fun j zz hj => ?_⟩
  have hjl : j < 32 := by
    have := (List.getElem?_eq_some_iff.1 hj).1
    rwa [parL_lenS] at this
  have h1 : W.cells[j]? = some (.int .u8 (.n zz)) := by
    have : (W.cells.take 32)[j]? = some (.int .u8 (.n zz)) := by
      rw [hT]; exact lits_get hj
    rwa [List.getElem?_take, if_pos hjl] at this
  rw [Nat.add_zero, (hM1.cell 1 W hW).2.2 j _ h1]
  rfl

theorem specS (w : World) (z L : Nat) (hz : z = 32) (hL : L ≤ 2147483647) (D : Nat → Int) (dv : Value) (hdv : DataAt w dv L D) :
    Calls Tryd.prog 9 #[.int .i64 z, .slice none 0 0, dv] w fun e w' => ∃ v, e = .returned v ∧ Below w.heap.size w w' ∧ Fresh w.heap.size z (byt 4 (hsS (h0S z) L D (nbkS L))) v w' := by
  obtain ⟨S, hvs⟩ := ckS_allS hz
  obtain ⟨A, B, C⟩ := and3_iff S
  obtain ⟨A1, A2, _⟩ := and3_iff A
  obtain ⟨a1, a2, a3⟩ := and3_iff A1
  obtain ⟨a4, a5, a6⟩ := and3_iff A2
  obtain ⟨B1, B2, _⟩ := and3_iff B
  obtain ⟨b1, b2, b3⟩ := and3_iff B1
  obtain ⟨b4, b5, _⟩ := and3_iff B2
  obtain ⟨c1, c2', c3⟩ := and3_iff C
  refine calls_reach (P := Tryd.prog) (cfg := c2) (w := w) (ρ := envV dv) (f := 9) (fn := Tryd.f9) (b := bodyOf Tryd.f9) Tryd.func9 body9 [.f (.int .i64 (.n z)), nilS, .f (.row 0)] (nx := 1) (thr := 0) (ml := []) (orc := [])
    (by rfl) (by rfl) (fun v hv => by
      simp only [List.mem_cons, List.not_mem_nil, or_false] at hv
      rcases hv with rfl | rfl | rfl
      · trivial
      · trivial
      · show 0 < 1; omega) (K := fun v w' => Below w.heap.size w w' ∧ Fresh w.heap.size z (byt 4 (hsS (h0S z) L D (nbkS L))) v w') (MemOK.bare rfl rfl rfl w _ _ _ _ _ _) ?_
  refine reach_to (cfgW2_ok _ _) false 500 0 [] a1 a2 a3 fun ρ1 hle1 => ?_
  show Go.Sx.Reach Tryd.prog c2 w _ (oSaS z).stk (sSaS z) _
  have hr0 : (ρ1.ext 64 []).r 0 = dv := (hle1.r 0 (by show 0 < 1; omega))
  generalize ρ1.ext 64 [] = ρ2 at hr0
  obtain ⟨en1, en2⟩ := ent_some a4
  refine reach_calls (cfg := c2) (cfgE2_ok _ _) rfl rfl rfl en1 fun a1' w1 hF1 hM1 => ?_
  show Calls Tryd.prog (eSaS z).f ((eSaS z).vs.map (SV.den ρ2)).toArray w1 (fun en w' => ∃ v, en = .returned v ∧ wpK Tryd.prog _ (eSaS z).k .normal (a1'.put (eSaS z).dst v) w')
  have en2 : (eSaS z).f = 18 := en2
  rw [svsEq_eq a5, en2, dstB_eq a6]
  have hk1 := (hM1.kp (xs := []) fun j hj => by cases hj).below
  refine Calls.mono (parS w1 z hz) fun en w2 ⟨v, he, p, o, hv, hB2, lp, hP⟩ => ⟨v, he, ?_⟩
  have hk2 : Below w.heap.size w w2 := hk1.trans (hB2.mono hk1.size)
  refine next_row (cfg := c2) (nx := 1) (fl := flSaS z) (N := Tryd.f9.ntmps) rfl rfl rfl [] hF1 (by rfl) (by omega) v w2 ?_
  have r1 : (ρ2.more 1 0 0 0 v).r 1 = v := more_r _ _ _
  have r0 : (ρ2.more 1 0 0 0 v).r 0 = dv := by
    simp [Env.more]; exact hr0
  generalize ρ2.more 1 0 0 0 v = ρ3 at r0 r1
  refine reach_to (cfgW2_ok _ _) false 500 0 [] b1 b2 b3 fun ρ4 hle4 => ?_
  show Go.Sx.Reach Tryd.prog c2 w2 _ (oSbS z).stk sSbS _
  have q0 : (ρ4.ext 64 []).r 0 = dv := (hle4.r 0 (by show 0 < 2; omega)).trans r0
  have q1 : (ρ4.ext 64 []).r 1 = v := (hle4.r 1 (by show 1 < 2; omega)).trans r1
  generalize ρ4.ext 64 [] = ρ5 at q0 q1
  obtain ⟨en3, en4⟩ := ent_some b4
  refine reach_calls (cfg := c2) (cfgE2_ok _ _) rfl rfl rfl en3 fun a3' w3 hF3 hM3 => ?_
  show Calls Tryd.prog (eSbS z).f ((eSbS z).vs.map (SV.den ρ5)).toArray w3 (fun en w' => ∃ v, en = .returned v ∧ wpK Tryd.prog _ (eSbS z).k .normal (a3'.put (eSbS z).dst v) w')
  have en4 : (eSbS z).f = 17 := en4
  have hargs : [SV.f (.row 1), nilS, .f (.row 0)].map (SV.den ρ5) = [v, .slice none 0 0, dv] := by
    simp only [List.map_cons, List.map_nil, nilS, SV.den, FV.den, q0, q1]
  rw [hvs, hargs, en4, dstB_eq b5, hv]
  have hk3' := hM3.kp (xs := []) fun j hj => by cases hj
  have hk3 : Below w.heap.size w w3 := hk2.trans (hk3'.below.mono hk2.size)
  refine Calls.mono (hashS w3 z L hz hL D p o 32 dv (hP.kp hk3' lp (by simp)) (Nat.lt_of_lt_of_le lp hk3'.size) (Nat.le_refl _) (hdv.kp hk3)) fun en w4 ⟨u, hu, hB4, hfr⟩ => ⟨u, hu, ?_⟩
  refine next_row (cfg := c2) (nx := 2) (fl := flSbS) (N := Tryd.f9.ntmps) rfl rfl rfl [] hF3 (by rfl) (by omega) u w4 ?_
  have r2 : (ρ5.more 2 0 0 0 u).r 2 = u := more_r _ _ _
  generalize ρ5.more 2 0 0 0 u = ρ6 at r2
  refine reach_ret (cfgW2_ok _ _) false 500 (v := .f (.row 2)) c1 (Obs.nil c2' _) (rowB_eq c3) fun ρ7 w7 hle7 hM7 _ => ?_
  have he : (SV.f (.row 2)).den ρ7 = u := (hle7.r 2 (by show 2 < 3; omega)).trans r2
  have hk7 := (hM7.kp (xs := []) fun j hj => by cases hj).below
  rw [he]
  obtain ⟨p', o', c', f1, f2, f3, f4, f5⟩ := hfr.kp hk7
  exact ⟨(hk3.trans (hB4.mono hk3.size)).trans (hk7.mono (Nat.le_trans hk3.size hB4.size)), p', o', c', f1, f2, Nat.le_trans hk3.size f3, f4, f5⟩
end Go.Proofs.YtjhndmlpcpbaoaaDoor

/- The library's sums of one size (s), called. -/
namespace Go.Proofs.YtjhndmlpcpbaoaaDoor
open Go Go.Sx Go.Proofs Go.RowKit
theorem chkAnyS (w : World) (G : Glob w) (ps os z L : Nat) (D : Nat → Int) (hz : z = 32) (n1 : 5 ≤ ps) (dv : Value) (hdv : DataAt w dv L D) (h5 : Above 5 dv) (hne : ∀ g, dv.ownBlock = some g → g ≠ ps) (hsum : WordsAt w ps os .u8 32 fun _ => 0) (hL : L ≤ 2147483647) :
    Calls Tryd.prog 25 #[.pointer (some ⟨ps, os, none⟩), .int .i64 z, dv] w fun e w' => ∃ v, e = .returned v ∧ KSS w ps os z (hsS (h0S z) L D (nbkS L)) v w' := by
  rcases hdv with ⟨p, o, c, h1, h2, h3, h4⟩ | ⟨h1, h2⟩
  · subst h1
    exact chkS w G ps os p o c z L D hz n1 (hne p rfl) (h5 p rfl) h3 hsum h4 h2 hL
  · subst h1 h2
    exact chkNilS w G ps os z D hz n1 hsum
theorem body16 : Tryd.f16.body = some (bodyOf Tryd.f16) := by kernel_rfl
set_option maxRecDepth 100000 in
set_option maxHeartbeats 1000000 in
theorem sum16 (w : World) (G : Glob w) (dv : Value) (L : Nat) (D : Nat → Int) (hdv : DataAt w dv L D) (h5 : Above 5 dv) (hL : L ≤ 2147483647) :
    Calls Tryd.prog 16 #[dv] w fun e w' => ∃ v, e = .returned v ∧ v = .agg (words .u8 32 (byt 4 (hsS (h0S 32) L D (nbkS L)))).toArray ∧ Below w.heap.size w w' := by
  obtain ⟨A, B, C⟩ := and3_iff ckW16
  obtain ⟨a1, a2, a3⟩ := and3_iff A
  obtain ⟨b1, b2, _⟩ := and3_iff B
  obtain ⟨d1, d2, d3⟩ := and3_iff C
  refine calls_reach (P := Tryd.prog) (cfg := c2) (w := w) (ρ := envV dv) (f := 16) (fn := Tryd.f16) (b := bodyOf Tryd.f16) Tryd.func16 body16 [.f (.row 0)] (nx := 1) (thr := 0) (ml := []) (orc := [])
    (by rfl) (by rfl) (fun v hv => by
      rw [List.mem_singleton] at hv
      subst hv
      show 0 < 1; omega) (K := fun v w' => v = .agg (words .u8 32 (byt 4 (hsS (h0S 32) L D (nbkS L)))).toArray ∧ Below w.heap.size w w') (MemOK.bare rfl rfl rfl w _ _ _ _ _ _) ?_
  refine reach_to (cfgW2_ok _ _) false 500 0 [] a1 a2 a3 fun ρ1 hle1 => ?_
  show Go.Sx.Reach Tryd.prog c2 w _ oW16.stk sW16 _
  have hr0 : (ρ1.ext 64 []).r 0 = dv := (hle1.r 0 (by show 0 < 1; omega))
  generalize ρ1.ext 64 [] = ρ at hr0
  obtain ⟨en1, en2⟩ := ent_some b1
  refine reach_calls (cfg := c2) (cfgE2_ok _ _) rfl rfl rfl en1 fun a1' w1 hF1 hM1 => ?_
  show Calls Tryd.prog eW16.f (eW16.vs.map (SV.den ρ)).toArray w1 (fun en w' => ∃ v, en = .returned v ∧ wpK Tryd.prog _ eW16.k .normal (a1'.put eW16.dst v) w')
  have en2 : eW16.f = 25 := en2
  have hargs : [SV.f (.ptr 2 0), .f (.int .i64 (.n 32)), .f (.row 0)].map (SV.den ρ) = [.pointer (some ⟨ρ.b 2, ρ.o 2, none⟩), .int .i64 ((32 : Nat) : Int), dv] := by
    simp only [List.map_cons, List.map_nil, SV.den, FV.den, hr0]
    rfl
  rw [ckWv16, hargs, en2, dstB_eq b2]
  have hk1' := hM1.kp (xs := []) fun j hj => by cases hj
  have hk1 := hk1'.below
  have lg := G.size
  have g2 : sW16.M.get 2 = some ⟨zeros .u8 32, 2⟩ := by kernel_rfl
  have k2 : w.heap.size ≤ ρ.b 2 := by
    rcases hM1.kind 2 _ g2 (by show 2 ≠ 0; omega) with hc | hc
    · cases hc
    · exact hc
  have hsum : WordsAt w1 (ρ.b 2) (ρ.o 2) .u8 32 fun _ => 0 := ⟨fun k hk => (hM1.cell 2 _ g2).2.2 k _ (zeros_get hk), fun k hk => hM1.free 2 _ g2 (by show 2 ≠ 0; omega) k (by rw [zeros_len]; exact hk)⟩
  refine Calls.mono (chkAnyS w1 (G.below hk1 lg) (ρ.b 2) (ρ.o 2) 32 L D (rfl) (by omega) dv (hdv.kp hk1) h5 (fun g hg => ?_) hsum hL) fun en w2 ⟨v, he, hv, hk2, hW2⟩ => ⟨v, he, ?_⟩
  · rcases hdv with ⟨p, o, c, h1, h2, h3, h4⟩ | ⟨h1, h2⟩
    · subst h1
      have : p = g := by simpa [Value.ownBlock] using hg
      omega
    · subst h1
      cases hg
  subst hv
  have hag := ρ.extF_ag 3 600 fun x => byt 4 (hsS (h0S 32) L D (nbkS L)) (x - 600)
  have h600 : ∀ k, k < 32 → (ρ.extF 600 fun x => byt 4 (hsS (h0S 32) L D (nbkS L)) (x - 600)).i (600 + k) = byt 4 (hsS (h0S 32) L D (nbkS L)) k := fun k _ => by
    show (if 600 + k < 600 then _ else byt 4 (hsS (h0S 32) L D (nbkS L)) (600 + k - 600)) = _
    rw [if_neg (by omega), show 600 + k - 600 = k by omega]
  have hM2 : MemOK c2 w (ρ.extF 600 fun x => byt 4 (hsS (h0S 32) L D (nbkS L)) (x - 600)) (mkSt Tryd.f16.ntmps 3 0 [] mlZ16 []) w2 := by
    refine MemOK.after (ml0 := mlE16) (xs := [ρ.b 2]) _ hM1 (by kernel_rfl) (by kernel_rfl) (by kernel_rfl) ?_ (by kernel_rfl) hk2 ?_ ?_
    · intro p hp
      simp only [mlE16, List.mem_cons, List.not_mem_nil, or_false] at hp
      rcases hp with rfl | rfl
      · exact ⟨⟨zeros .u8 32, 2⟩, by kernel_rfl, rfl, .inl rfl⟩
      · exact ⟨_, g2, rfl, .inr rfl⟩
    · intro x hx
      rw [List.mem_singleton] at hx
      subst hx
      exact ⟨2, ⟨[], 2⟩, by kernel_rfl, by show 2 ≠ 0; omega, rfl⟩
    · intro p hp
      have sep0 : ∀ j W, sW16.M.get j = some W → j ≠ 2 → ρ.b j ∉ [ρ.b 2] := fun j W hj hne hm => by
        rw [List.mem_singleton] at hm
        exact hM1.sep 2 _ j W g2 hj (by show 2 ≠ 0; omega) (Ne.symm hne) hm.symm
      simp only [mlZ16, List.mem_cons, List.not_mem_nil, or_false] at hp
      rcases hp with rfl | rfl
      · exact ⟨⟨zeros .u8 32, 2⟩, by kernel_rfl, rfl, .inl ⟨rfl, sep0 1 ⟨zeros .u8 32, 2⟩ (by kernel_rfl) (by omega)⟩⟩
      · refine ⟨⟨[], 2⟩, by kernel_rfl, rfl, .inr ⟨ws_ok _ _ _ _ _, ?_, ?_⟩⟩
        · show ∀ (i : Nat) x, (ws .u8 600 32)[i]? = some x → w2.cell? ⟨ρ.b 2, ρ.o 2 + i, none⟩ = some (x.den _)
          exact ws_cell hW2.cell h600
        · intro i hi
          exact hW2.free i (by have hi : i < (ws .u8 600 32).length := hi; rwa [ws_len] at hi)
  refine reach_back (s1 := mkSt Tryd.f16.ntmps 3 0 [] mlZ16 []) (s2 := mkSt Tryd.f16.ntmps 3 0 ((5, .tup []) :: flW16) mlZ16 []) (fl := flW16) (n := 3) (m := 600) (N := Tryd.f16.ntmps) (v := .tup []) (d := some 5) [] 0 hF1 hag (by kernel_rfl) (by kernel_rfl) (by kernel_rfl) hM2 (fun _ hp => by cases hp) (by kernel_rfl) ?_
  refine reach_ret (cfgW2_ok _ _) false 500 (v := .agg (ws .u8 600 32)) d1 (Obs.nil d2 _) (aggB_eq d3) fun ρ6 w6 hle6 hM6 _ => ?_
  refine ⟨?_, (hM6.kp (xs := []) fun j hj => by cases hj).below⟩
  simp only [SV.den]
  rw [ws_den ρ6 .u8 32 600 _ (fun k hk => (congrFun hle6.i _).trans (h600 k hk))]
end Go.Proofs.YtjhndmlpcpbaoaaDoor

/- What impl tells (s), called. -/
namespace Go.Proofs.YtjhndmlpcpbaoaaDoor
open Go Go.Sx Go.Proofs Go.RowKit
theorem body8 : Tryd.f8.body = some (bodyOf Tryd.f8) := by kernel_rfl
set_option maxRecDepth 100000 in
set_option maxHeartbeats 1000000 in
theorem imp16 (w : World) (G : Glob w) (dv : Value) (L : Nat) (D : Nat → Int) (hdv : DataAt w dv L D) (hL : L ≤ 2147483647) :
    Calls Tryd.prog 8 #[dv] w fun e w' => ∃ v, e = .returned v ∧ Below w.heap.size w w' ∧ DataAt w' v 32 (byt 4 (hsS (h0S 32) L D (nbkS L))) := by
  obtain ⟨A, B, C⟩ := and3_iff ckI16
  obtain ⟨A1, A2, _⟩ := and3_iff A
  obtain ⟨a1, a2, a3⟩ := and3_iff A1
  obtain ⟨a4, a5, _⟩ := and3_iff A2
  obtain ⟨B1, B2, _⟩ := and3_iff B
  obtain ⟨b1, b2, b3⟩ := and3_iff B1
  obtain ⟨b4, b5, _⟩ := and3_iff B2
  obtain ⟨C1, C2, C3⟩ := and3_iff C
  obtain ⟨d1, d2, d3⟩ := and3_iff C1
  obtain ⟨d4, d5, _⟩ := and3_iff C2
  obtain ⟨d6, d7, d8⟩ := and3_iff C3
  have lg := G.size
  refine calls_reach (P := Tryd.prog) (cfg := c2) (w := w) (ρ := envV dv) (f := 8) (fn := Tryd.f8) (b := bodyOf Tryd.f8) Tryd.func8 body8 [.f (.row 0)] (nx := 1) (thr := 0) (ml := []) (orc := [])
    (by rfl) (by rfl) (fun v hv => by
      simp only [List.mem_cons, List.not_mem_nil, or_false] at hv
      rcases hv with rfl
      show 0 < 1; omega) (K := fun v w' => Below w.heap.size w w' ∧ DataAt w' v 32 (byt 4 (hsS (h0S 32) L D (nbkS L)))) (MemOK.bare rfl rfl rfl w _ _ _ _ _ _) ?_
  refine reach_to (cfgW2_ok _ _) false 500 0 [] a1 a2 a3 fun ρ1 hle1 => ?_
  show Go.Sx.Reach Tryd.prog c2 w _ oIA16.stk sIA16 _
  have hr0 : (ρ1.ext 64 []).r 0 = dv := (hle1.r 0 (by show 0 < 1; omega))
  generalize ρ1.ext 64 [] = ρ2 at hr0
  obtain ⟨en1, en2⟩ := ent_some a4
  refine reach_calls (cfg := c2) (cfgE2_ok _ _) rfl rfl rfl en1 fun a1' w1 hF1 hM1 => ?_
  show Calls Tryd.prog eIA16.f (eIA16.vs.map (SV.den ρ2)).toArray w1 (fun en w' => ∃ v, en = .returned v ∧ wpK Tryd.prog _ eIA16.k .normal (a1'.put eIA16.dst v) w')
  have en2 : eIA16.f = 10 := en2
  have hargs : [SV.f (.row 0)].map (SV.den ρ2) = [dv] := by
    simp only [List.map_cons, List.map_nil, SV.den, FV.den, hr0]
  rw [ckIa16, hargs, en2, dstB_eq a5]
  have hk1 := (hM1.kp (xs := []) fun j hj => by cases hj).below
  refine Calls.mono (clone_calls w1 dv L D hL (hdv.kp hk1)) fun en w2 ⟨u, he, hB2, hu, hab⟩ => ⟨u, he, ?_⟩
  have hk2 : Below w.heap.size w w2 := hk1.trans (hB2.mono hk1.size)
  refine next_row (cfg := c2) (nx := 1) (fl := fiA16) (N := Tryd.f8.ntmps) rfl rfl rfl [] hF1 (by rfl) (by omega) u w2 ?_
  have r1 : (ρ2.more 1 0 0 0 u).r 1 = u := more_r _ _ _
  generalize ρ2.more 1 0 0 0 u = ρ3 at r1
  refine reach_to (cfgW2_ok _ _) false 500 0 [] b1 b2 b3 fun ρ4 hle4 => ?_
  show Go.Sx.Reach Tryd.prog c2 w2 _ oIB16.stk sIB16 _
  have q1 : (ρ4.ext 64 []).r 1 = u := (hle4.r 1 (by show 1 < 2; omega)).trans r1
  generalize ρ4.ext 64 [] = ρ5 at q1
  obtain ⟨en3, en4⟩ := ent_some b4
  refine reach_calls (cfg := c2) (cfgE2_ok _ _) rfl rfl rfl en3 fun a3' w3 hF3 hM3 => ?_
  show Calls Tryd.prog eIB16.f (eIB16.vs.map (SV.den ρ5)).toArray w3 (fun en w' => ∃ v, en = .returned v ∧ wpK Tryd.prog _ eIB16.k .normal (a3'.put eIB16.dst v) w')
  have en4 : eIB16.f = 16 := en4
  have hargs2 : [SV.f (.row 1)].map (SV.den ρ5) = [u] := by
    simp only [List.map_cons, List.map_nil, SV.den, FV.den, q1]
  rw [ckIb16, hargs2, en4, dstB_eq b5]
  have hk3' := (hM3.kp (xs := []) fun j hj => by cases hj).below
  have hk3 : Below w.heap.size w w3 := hk2.trans (hk3'.mono hk2.size)
  refine Calls.mono (sum16 w3 (G.below hk3 lg) u L D (hu.kp hk3') (fun g hg => by have := hab g hg; have := hk1.size; omega) hL) fun en w4 ⟨y, he2, hy, hB4⟩ => ⟨y, he2, ?_⟩
  subst hy
  have hk4 : Below w.heap.size w w4 := hk3.trans (hB4.mono hk3.size)
  have hag := ρ5.extF_ag 2 600 fun x => byt 4 (hsS (h0S 32) L D (nbkS L)) (x - 600)
  have h600 : ∀ k, k < 32 → (ρ5.extF 600 fun x => byt 4 (hsS (h0S 32) L D (nbkS L)) (x - 600)).i (600 + k) = byt 4 (hsS (h0S 32) L D (nbkS L)) k := fun k _ => by
    show (if 600 + k < 600 then _ else byt 4 (hsS (h0S 32) L D (nbkS L)) (600 + k - 600)) = _
    rw [if_neg (by omega), show 600 + k - 600 = k by omega]
  have hval : Value.agg (words .u8 32 (byt 4 (hsS (h0S 32) L D (nbkS L)))).toArray = (SV.agg (ws .u8 600 32)).den (ρ5.extF 600 fun x => byt 4 (hsS (h0S 32) L D (nbkS L)) (x - 600)) := by
    simp only [SV.den]
    rw [ws_den _ .u8 32 600 _ h600]
  rw [hval]
  refine reach_back (w0 := w4) (cfg := c2) (s1 := mkSt Tryd.f8.ntmps 2 0 [] [] []) (s2 := mkSt Tryd.f8.ntmps 2 0 ((6, .agg (ws .u8 600 32)) :: fiB16) [] []) (fl := fiB16) (n := 2) (m := 600) (N := Tryd.f8.ntmps) (v := .agg (ws .u8 600 32)) (d := some 6) [] 0 hF3 hag (by rfl) (by rfl) (by rfl) (MemOK.bare rfl rfl rfl w4 _ _ _ _ _ _) (ws_ok _ _ _ _ _) (by rfl) ?_
  refine reach_to (cfgW2_ok _ _) false 500 0 [] d1 d2 d3 fun ρ6 hle6 => ?_
  show Go.Sx.Reach Tryd.prog c2 w4 _ oIC16.stk sIC16 _
  have h700 : ∀ k, k < 32 → (ρ6.ext 700 []).i (600 + k) = byt 4 (hsS (h0S 32) L D (nbkS L)) k := fun k hk => by
    rw [Env.ext_old _ _ (by omega), hle6.i]; exact h600 k hk
  generalize ρ6.ext 700 [] = ρ7 at h700
  obtain ⟨en5, en6⟩ := ent_some d4
  refine reach_calls (cfg := c2) (cfgE2_ok _ _) rfl rfl rfl en5 fun a5' w5 hF5 hM5 => ?_
  show Calls Tryd.prog eIC16.f (eIC16.vs.map (SV.den ρ7)).toArray w5 (fun en w' => ∃ v, en = .returned v ∧ wpK Tryd.prog _ eIC16.k .normal (a5'.put eIC16.dst v) w')
  have en6 : eIC16.f = 10 := en6
  have hargs3 : [SV.f (.sl 2 0 (.n 32) (.l 32))].map (SV.den ρ7) = [.slice (some ⟨ρ7.b 2, ρ7.o 2 + 0, none⟩) 32 32] := rfl
  rw [ckIc16, hargs3, en6, dstB_eq d5]
  have hk5' := (hM5.kp (xs := []) fun j hj => by cases hj).below
  have hk5 : Below w.heap.size w w5 := hk4.trans (hk5'.mono hk4.size)
  have g2 : sIC16.M.get 2 = some ⟨ws .u8 600 32, 2⟩ := by kernel_rfl
  refine Calls.mono (clone_calls w5 _ 32 (byt 4 (hsS (h0S 32) L D (nbkS L))) (by omega) (.inl ⟨ρ7.b 2, ρ7.o 2 + 0, 32, rfl, Nat.le_refl _, hM5.lt 2 _ g2, fun k hk => by
    rw [Nat.add_zero, (hM5.cell 2 _ g2).2.2 k _ (ws_get hk)]
    simp only [FV.den, E.den]
    rw [h700 k hk]⟩)) fun en w6 ⟨t, he3, hB6, ht, _⟩ => ⟨t, he3, ?_⟩
  have hk6 : Below w.heap.size w w6 := hk5.trans (hB6.mono hk5.size)
  refine next_row (cfg := c2) (nx := 3) (fl := fiC16) (N := Tryd.f8.ntmps) rfl rfl rfl [] hF5 (by rfl) (by omega) t w6 ?_
  have r3 : (ρ7.more 3 0 0 0 t).r 3 = t := more_r _ _ _
  generalize ρ7.more 3 0 0 0 t = ρ8 at r3
  refine reach_ret (cfgW2_ok _ _) false 500 (v := .f (.row 3)) d6 (Obs.nil d7 _) (rowB_eq d8) fun ρ9 w9 hle9 hM9 _ => ?_
  have he9 : (SV.f (.row 3)).den ρ9 = t := (hle9.r 3 (by show 3 < 4; omega)).trans r3
  have hk9 := (hM9.kp (xs := []) fun j hj => by cases hj).below
  rw [he9]
  exact ⟨hk6.trans (hk9.mono hk6.size), ht.kp hk9⟩
end Go.Proofs.YtjhndmlpcpbaoaaDoor
