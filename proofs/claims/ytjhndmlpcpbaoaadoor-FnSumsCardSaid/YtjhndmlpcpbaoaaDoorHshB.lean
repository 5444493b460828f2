/- The reference's hash (b): from its loop over the blocks to its end. -/
import Derived.Test.YtjhndmlpcpbaoaaDoorChkB
import Derived.Test.YtjhndmlpcpbaoaaDoorSegGB
import Derived.Test.YtjhndmlpcpbaoaaDoorCom2
namespace Go.Proofs.YtjhndmlpcpbaoaaDoor
open Go Go.Sx Go.Proofs Go.RowKit
theorem frNB {ρ : Env} {a : Act} (hF : FrOK ρ 18 Tryd.f14.ntmps (ofL flNB) a) (i' : Nat → Int) (e0 : i' 0 = ρ.i 0) (e1 : i' 20 = ρ.i 20) (e2 : i' 74 = ρ.i 74) : FrOK { ρ with i := i' } 18 Tryd.f14.ntmps (ofL flNB) a :=
  ⟨hF.size, hF.defers, fun d x hd => by
    obtain ⟨h1, h2⟩ := hF.get d x hd
    have hm := ofL_get (l := flNB) (by rfl) hd
    simp only [flNB, flLB, List.mem_cons, Prod.mk.injEq, List.not_mem_nil, or_false] at hm
    rcases hm with ⟨rfl, rfl⟩ | ⟨rfl, rfl⟩ | ⟨rfl, rfl⟩ | ⟨rfl, rfl⟩ | ⟨rfl, rfl⟩ | ⟨rfl, rfl⟩
    · exact ⟨trivial, by rw [h2]; simp only [SV.den, FV.den, E.den, e2]⟩
    · exact ⟨h1, h2⟩
    · exact ⟨h1, h2⟩
    · exact ⟨h1, h2⟩
    · refine ⟨?_, by rw [h2]; simp only [SV.den, FV.den, E.den, Cp.den, e1]⟩
      obtain ⟨q1, q2, q3, q4⟩ := h1
      exact ⟨q1, q2, by simp only [E.den, e1] at *; exact q3, by simp only [E.den, Cp.den, e1] at *; exact q4⟩
    · exact ⟨trivial, by rw [h2]; simp only [SV.den, FV.den, E.den, e0]⟩⟩

theorem allCut_memB {z : Int} : ∀ {l : List St}, allCutB z l = true → ∀ s ∈ l, cutB cHB s Tryd.f14.ntmps 156 (flZB z) mlZB 600 (byE 64 8 64) = true
  | [], _, s, h => by cases h
  | x :: l, hb, s, h => by
    obtain ⟨h1, h2⟩ := and2 (show (match cutB cHB x Tryd.f14.ntmps 156 (flZB z) mlZB 600 (byE 64 8 64) with | true => allCutB z l | false => false) = true from hb)
    rcases List.mem_cons.1 h with rfl | h
    · exact h1
    · exact allCut_memB h2 s h

set_option maxRecDepth 100000
set_option maxHeartbeats 1000000 in
theorem blocksB (w : World) (z L : Nat) (hz : z = 64 ∨ z = 48 ∨ z = 32) (hL : L ≤ 2147483647) (D H0 : Nat → Int) (ph oh pp op pa cap : Nat) (hH : WordsAt w ph oh .u64 8 H0) (hP : CellsAt w pp op .u8 (parLB z)) (lp : pp < w.heap.size)
    (hA : ∀ k, k < 128 * nbkB L → w.cell? ⟨pa, k, none⟩ = some (.int .u8 (pad L D k))) (la : pa < w.heap.size) (n1 : pa ≠ ph) (n2 : pp ≠ ph) (hne0 : pp ≠ pa) (hcap : 128 * nbkB L ≤ cap)
    (ρ : Env) (i0 : ρ.i 0 = (L : Int)) (i20 : ρ.i 20 = ((128 * nbkB L : Nat) : Int)) (i74 : ρ.i 74 = 0) (b0 : ρ.b 0 = pp) (o0 : ρ.o 0 = op) (b14 : ρ.b 14 = ph) (o14 : ρ.o 14 = oh) (b17 : ρ.b 17 = pa) (o17 : ρ.o 17 = 0) (c17 : ρ.c 17 = cap)
    (a : Act) (hF : FrOK ρ 18 Tryd.f14.ntmps (ofL flNB) a) {K : Value → World → Prop} (hK : ∀ v w', Kp w.heap.size [ph] w w' → Fresh w.heap.size z (byt 8 (hsB H0 L D (nbkB L))) v w' → K v w') :
    wpK Tryd.prog (callQ Tryd.prog Tryd.f14 K) (.code (.loop cNB) :: lNB.2) .normal a w := by
  have g0 := nbk_posB L
  have g1 := nbk_geB L
  have g2 := nbk_leB L
  have gT : 128 * nbkB L = 128 * (nbkB L - 1) + 128 := by
    conv => lhs; rw [show nbkB L = (nbkB L - 1) + 1 by omega]
    rw [Nat.mul_add]
  have lh : ph < w.heap.size := cell_lt (hH.cell 0 (by omega))
  have hF' := frNB hF (fun x => if 64 ≤ x ∧ x < 72 then H0 (x - 64) else ρ.i x) (by rfl) (by rfl) (by rfl)
  have j0 : (fun x => if 64 ≤ x ∧ x < 72 then H0 (x - 64) else ρ.i x) 0 = (L : Int) := i0
  have j20 : (fun x => if 64 ≤ x ∧ x < 72 then H0 (x - 64) else ρ.i x) 20 = ((128 * nbkB L : Nat) : Int) := i20
  have j74 : (fun x => if 64 ≤ x ∧ x < 72 then H0 (x - 64) else ρ.i x) 74 = 0 := i74
  have jh : ∀ k, k < 8 → (fun x => if 64 ≤ x ∧ x < 72 then H0 (x - 64) else ρ.i x) (64 + k) = H0 k := fun k hk => by
    show (if 64 ≤ 64 + k ∧ 64 + k < 72 then H0 (64 + k - 64) else _) = _
    rw [if_pos ⟨by omega, by omega⟩, show 64 + k - 64 = k by omega]
  generalize (fun x => if 64 ≤ x ∧ x < 72 then H0 (x - 64) else ρ.i x) = I at hF' j0 j20 j74 jh
  obtain ⟨ρ0, hρ0⟩ : ∃ ρ0 : Env, ρ0 = { ρ with i := I } := ⟨_, rfl⟩
  rw [← hρ0] at hF'
  have j0 : ρ0.i 0 = (L : Int) := by subst hρ0; exact j0
  have j20 : ρ0.i 20 = ((128 * nbkB L : Nat) : Int) := by subst hρ0; exact j20
  have j74 : ρ0.i 74 = 0 := by subst hρ0; exact j74
  have jh : ∀ k, k < 8 → ρ0.i (64 + k) = H0 k := by subst hρ0; exact jh
  have b0 : ρ0.b 0 = pp := by subst hρ0; exact b0
  have o0 : ρ0.o 0 = op := by subst hρ0; exact o0
  have b14 : ρ0.b 14 = ph := by subst hρ0; exact b14
  have o14 : ρ0.o 14 = oh := by subst hρ0; exact o14
  have b17 : ρ0.b 17 = pa := by subst hρ0; exact b17
  have o17 : ρ0.o 17 = 0 := by subst hρ0; exact o17
  have c17 : ρ0.c 17 = cap := by subst hρ0; exact c17
  clear hρ0 hF i0 i20 i74
  have hM : MemOK cHB w ρ0 (sNBr z []) w := by
    refine MemOK.init rfl (by rfl) ?_ ?_ ?_ ?_ (fun g j hg => by cases hg) ?_
    · intro q hq
      simp only [mlNB, List.mem_cons, List.not_mem_nil, or_false] at hq
      rcases hq with rfl | rfl
      · refine ⟨by show 14 < 18; omega, ws_ok _ _ _ _ _, ?_⟩
        show ∀ (i : Nat) x, (ws .u64 64 8)[i]? = some x → w.cell? ⟨ρ0.b 14, ρ0.o 14 + i, none⟩ = some (x.den ρ0)
        rw [b14, o14]
        exact ws_cell hH.cell jh
      · refine ⟨by show 0 < 18; omega, lits_ok _ _ _ _, ?_⟩
        show ∀ (i : Nat) x, (lits .u8 (parLB z))[i]? = some x → w.cell? ⟨ρ0.b 0, ρ0.o 0 + i, none⟩ = some (x.den ρ0)
        rw [b0, o0]
        exact lits_cell hP
    · intro q hq
      simp only [mlNB, List.mem_cons, List.not_mem_nil, or_false] at hq
      rcases hq with rfl | rfl
      · show ρ0.b 14 < _; rw [b14]; exact lh
      · show ρ0.b 0 < _; rw [b0]; exact lp
    · intro q hq hw
      simp only [mlNB, List.mem_cons, List.not_mem_nil, or_false] at hq
      rcases hq with rfl | rfl
      · refine ⟨by show 14 ∈ [14]; simp, fun i hi => ?_⟩
        show w.frozen? ⟨ρ0.b 14, ρ0.o 14 + i, none⟩ = false
        rw [b14, o14]
        exact hH.free i (by rwa [ws_len] at hi)
      · exact absurd rfl hw
    · intro q hq q' hq' hw hne
      simp only [mlNB, List.mem_cons, List.not_mem_nil, or_false] at hq hq'
      rcases hq with rfl | rfl
      · rcases hq' with rfl | rfl
        · exact absurd rfl hne
        · show ρ0.b 14 ≠ ρ0.b 0; rw [b14, b0]; exact Ne.symm n2
      · exact absurd rfl hw
    · intro j hj
      have hj : j ∈ [14] := hj
      rw [List.mem_singleton] at hj
      subst hj
      show 14 < 18; omega
  refine (?_ : Go.Sx.Reach Tryd.prog cHB w (callQ Tryd.prog Tryd.f14 K) (.code (.loop cNB) :: lNB.2) (sNBr z []) ρ0) a w hF' hM
  refine reach_loop (sNBr z []) (fun (g : Nat) ρ' => ∃ t : Nat, t + g = nbkB L ∧ Ag 18 64 ρ0 ρ' ∧ (∀ k, k < 8 → ρ'.i (64 + k) = hsB H0 L D t k) ∧ ρ'.i 74 = ((128 * t : Nat) : Int)) id (nbkB L) ρ0
    ⟨0, by omega, .refl _ _ _, jh, by rw [j74]; rfl⟩ (fun a w hF hM => ⟨hF, hM⟩) fun g ρ' ⟨t, ht, hag, hh, hi⟩ => ?_
  have q0 : ρ'.i 0 = (L : Int) := by rw [hag.i 0 (by omega)]; exact j0
  have q20 : ρ'.i 20 = ((128 * nbkB L : Nat) : Int) := by rw [hag.i 20 (by omega)]; exact j20
  have B' : ∀ j, j < 18 → ρ'.b j = ρ0.b j := fun j hj => hag.b j hj
  have O' : ∀ j, j < 18 → ρ'.o j = ρ0.o j := fun j hj => hag.o j hj
  have kpOf : ∀ {ρx : Env} {s : St} {w1 : World}, MemOK cHB w ρx s w1 → ρx.b 14 = ph → Kp w.heap.size [ph] w w1 := fun hM1 hb => hM1.kp fun j hj => by
    have hj : j ∈ [14] := hj
    rw [List.mem_singleton] at hj
    subst hj
    rw [hb]; simp
  rcases Nat.eq_zero_or_pos g with hg | hg
  · -- behind the last block
    subst hg
    have ht : t = nbkB L := by omega
    subst ht
    obtain ⟨Q1, Q2, Q3⟩ := and3_iff (hkQallB hz)
    obtain ⟨a1, a2, a3⟩ := and3_iff Q1
    obtain ⟨a4, a5, a6⟩ := and3_iff Q2
    obtain ⟨Q4, Q5, a7⟩ := and3_iff Q3
    obtain ⟨a8, a9, _⟩ := and3_iff Q4
    obtain ⟨a10, a11, _⟩ := and3_iff Q5
    have hobF : ∀ (ρ'' : Env), ρ''.i = ρ'.i → ∀ l, obsB l [.c .lss (.v 74) (.v 20) false] = true → Obs ρ'' l := by
      intro ρ'' he l hl
      rw [obsB_eq hl]
      intro ob hob
      rw [List.mem_singleton] at hob
      subst hob
      show decide (ρ''.i 74 < ρ''.i 20) = false
      rw [he, hi, q20]
      exact decide_eq_false (by omega)
    refine reach_orc [false] ?_
    refine reach_go (cfgW_ok _ _) false 2000 (hobF ρ' rfl _ a2) fun ρ1 hle1 => OutR.left (k' := kQB z) (some_getD a1) ?_
    refine reach_go (cfgW_ok _ _) true 2000 (hobF ρ1 hle1.i _ a3) fun ρ2 hle2 => OutR.stop a4 ?_
    show Go.Sx.Reach Tryd.prog cHB w _ (oQ2B z).stk (oQ2B z).st ρ2
    obtain ⟨id, hreg⟩ := regB_eq a6
    rw [hreg]
    refine reach_cut 0 [] a5 ?_
    show Go.Sx.Reach Tryd.prog cHB w _ _ (sQeB z) _
    have n1' : 18 ≤ (oQ1B z).st.nx := ((go_soundG (P := Tryd.prog) (w0 := w) (cfgW_ok [] [14]) 2000 false).ext [.code cNB] (sNBr z [false])).nx
    have hag2 : Ag 18 64 ρ' (ρ2.ext 512 []) := ((Ag.ofLe (Env.le.mono hle1 (show 18 ≤ 18 by omega))).trans (Ag.ofLe (Env.le.mono hle2 n1'))).trans ((Ag.ofExt 18 ρ2 []).mono (Nat.le_refl _) (by omega))
    have hh2 : ∀ k, k < 8 → (ρ2.ext 512 []).i (64 + k) = hsB H0 L D (nbkB L) k := fun k hk => by
      rw [Env.ext_old _ _ (by omega), hle2.i, hle1.i]; exact hh k hk
    generalize ρ2.ext 512 [] = ρ3 at hag2 hh2
    refine reach_any (cfgW_ok _ _) 5000 (r := (endsB z).getD []) (some_getD a8) fun s' hs' ρ4 hle4 => ?_
    refine reach_cut 0 [] (allCut_memB a9 s' hs') ?_
    refine reach_ret (cfgW_ok _ _) true 500 (v := .f (.sl 155 0 (.n z) (.v 155 0))) a10 (Obs.nil a11 _) (slB_eq a7) fun ρ5 w5 hle5 hM5 hv5 => ?_
    have hi5 : ρ5.i = (ρ4.ext 600 (byE 64 8 64)).i := hle5.i
    have hb5 : ρ5.b 14 = ph := by
      rw [hle5.b 14 (by show 14 < 156; omega)]
      show ρ4.b 14 = ph
      rw [hle4.b 14 (by show 14 < 18; omega), hag2.b 14 (by omega), B' 14 (by omega)]
      exact b14
    refine hK _ _ (kpOf hM5 hb5) ?_
    have hW := hkWallB hz
    have hg5 : w.heap.size ≤ ρ5.b 155 := by
      rcases hM5.kind 155 _ hW (by show 2 ≠ 0; omega) with hc | hc
      · have hc : 155 ∈ [14] := hc
        simp at hc
      · exact hc
    obtain ⟨_, _, v3, v4⟩ := hv5
    simp only [E.den, Cp.den] at v3 v4
    refine ⟨ρ5.b 155, ρ5.o 155 + 0, ρ5.c 155 - 0, ?_, by omega, hg5, hM5.lt 155 _ hW, fun k hk => ?_⟩
    · simp only [SV.den, FV.den, E.den, Cp.den, Int.toNat_natCast]
    · rw [Nat.add_zero, (hM5.cell 155 _ hW).2.2 k _ (ws_get (by omega))]
      simp only [FV.den, E.den]
      rw [hi5, ρ4.ext_new (m := 600) (byE_get (by omega)), byE_den]
      congr 2
      refine byt_congr (n := 8) (by omega) (fun k hk => ?_) k (by omega)
      show ρ4.i (64 + k) = _
      rw [hle4.i]; exact hh2 k hk
  · -- a block
    have htn : t < nbkB L := by omega
    have hbn : 128 * t + 128 ≤ 128 * nbkB L := by
      have := Nat.mul_le_mul_left 128 (show t + 1 ≤ nbkB L by omega)
      rwa [Nat.mul_add, Nat.mul_one] at this
    obtain ⟨l, hl⟩ : ∃ l : Bool, l = decide (t + 1 = nbkB L) := ⟨_, rfl⟩
    obtain ⟨hkb, hargs0⟩ := hkballB hz l
    obtain ⟨N1, N2, N3⟩ := and3_iff hkb
    obtain ⟨a1, a2, a3⟩ := and3_iff N1
    obtain ⟨a4, a5, _⟩ := and3_iff N2
    obtain ⟨a6, a7, a8⟩ := and3_iff N3
    refine reach_orc [true, l] ?_
    show Go.Sx.Reach Tryd.prog cHB w _ _ (mkSt Tryd.f14.ntmps 18 0 flNB (mlNB z) [true, l]) ρ'
    -- the block's bytes
    refine Reach.numbers (m := 128) (fun x => pad L D (128 * t + (x - 128))) (by rfl) (by rfl) (by rfl) (by rfl) rfl ?_
    have hag1 := Env.extF_ag ρ' 18 128 fun x => pad L D (128 * t + (x - 128))
    have hby : ∀ k, k < 128 → (ρ'.extF 128 fun x => pad L D (128 * t + (x - 128))).i (128 + k) = pad L D (128 * t + k) := fun k _ => by
      show (if 128 + k < 128 then _ else pad L D (128 * t + (128 + k - 128))) = _
      rw [if_neg (by omega), show 128 + k - 128 = k by omega]
    generalize (ρ'.extF 128 fun x => pad L D (128 * t + (x - 128))) = ρ1 at hag1 hby
    have B1 : ∀ j, j < 18 → ρ1.b j = ρ0.b j := fun j hj => (hag1.b j hj).trans (B' j hj)
    have O1 : ∀ j, j < 18 → ρ1.o j = ρ0.o j := fun j hj => (hag1.o j hj).trans (O' j hj)
    have C1 : ∀ j, j < 18 → ρ1.c j = ρ0.c j := fun j hj => (hag1.c j hj).trans (hag.c j hj)
    refine Reach.window pa (128 * t) (cap - 128 * t) (ws .u8 128 128) (by omega) (fun w1 hM1 => ?_) ?_
    · have hkp := kpOf hM1 (by rw [B1 14 (by omega)]; exact b14)
      refine ⟨ws_ok _ _ _ _ _, ?_, Nat.lt_of_lt_of_le la hkp.size, fun j W hj => ?_⟩
      · refine ws_cell (g := fun k => pad L D (128 * t + k)) (fun j hj => ?_) hby
        rw [hkp.cell la (by simpa using n1)]
        exact hA _ (by omega)
      · have hj := ofL_get (l := mlNB z) (by rfl) hj
        simp only [mlNB, List.mem_cons, Prod.mk.injEq, List.not_mem_nil, or_false] at hj
        rcases hj with ⟨rfl, _⟩ | ⟨rfl, _⟩
        · rw [B1 14 (by omega), b14]; exact Ne.symm n1
        · rw [B1 0 (by omega), b0]; exact hne0
    have hle2 := Env.more_le ρ1 18 pa (128 * t) (cap - 128 * t) undef
    have m18b : (ρ1.more 18 pa (128 * t) (cap - 128 * t) undef).b 18 = pa := by simp [Env.more]
    have m18o : (ρ1.more 18 pa (128 * t) (cap - 128 * t) undef).o 18 = 128 * t := by simp [Env.more]
    have m18c : (ρ1.more 18 pa (128 * t) (cap - 128 * t) undef).c 18 = cap - 128 * t := by simp [Env.more]
    have hag2 : Ag 18 128 ρ' (ρ1.more 18 pa (128 * t) (cap - 128 * t) undef) := hag1.trans (Ag.ofLe hle2)
    have hby2 : ∀ k, k < 128 → (ρ1.more 18 pa (128 * t) (cap - 128 * t) undef).i (128 + k) = pad L D (128 * t + k) := hby
    generalize ρ1.more 18 pa (128 * t) (cap - 128 * t) undef = ρ2 at m18b m18o m18c hag2 hby2
    have i74 : ρ2.i 74 = ((128 * t : Nat) : Int) := by rw [hag2.i 74 (by omega)]; exact hi
    have i20 : ρ2.i 20 = ((128 * nbkB L : Nat) : Int) := by rw [hag2.i 20 (by omega)]; exact q20
    have i0 : ρ2.i 0 = (L : Int) := by rw [hag2.i 0 (by omega)]; exact q0
    have ih2 : ∀ k, k < 8 → ρ2.i (64 + k) = hsB H0 L D t k := fun k hk => by rw [hag2.i _ (by omega)]; exact hh k hk
    have B2 : ∀ j, j < 18 → ρ2.b j = ρ0.b j := fun j hj => (hag2.b j hj).trans (B' j hj)
    have O2 : ∀ j, j < 18 → ρ2.o j = ρ0.o j := fun j hj => (hag2.o j hj).trans (O' j hj)
    have C2 : ∀ j, j < 18 → ρ2.c j = ρ0.c j := fun j hj => (hag2.c j hj).trans (hag.c j hj)
    refine Reach.withIx [⟨17, 0, .v 20, 74, 18, 128⟩] (fun p hp => ?_) ?_
    · rw [List.mem_singleton] at hp
      subst hp
      refine ⟨by show 17 < 19; omega, by show 18 < 19; omega, ?_, ?_, ?_, ?_, ?_⟩
      · show ρ2.b 18 = ρ2.b 17
        rw [m18b, B2 17 (by omega), b17]
      · show (ρ2.o 18 : Int) = ρ2.o 17 + (0 : Nat) + ρ2.i 74
        rw [m18o, O2 17 (by omega), o17, i74]; omega
      · show 0 ≤ ρ2.i 74
        rw [i74]; omega
      · show ρ2.i 74 + ((128 : Nat) : Int) ≤ ρ2.i 20
        rw [i74, i20]; omega
      · show (ρ2.c 18 : Int) + (0 : Nat) + ρ2.i 74 = ρ2.c 17
        rw [m18c, C2 17 (by omega), c17, i74]; omega
    have hcX : CfgOk Tryd.prog cHXB := ⟨tabs_ok, fns_ok, (cfgW_ok [] [14]).m⟩
    have hob : Obs ρ2 (oNbB z l).st.obs := by
      rw [obsB_eq a2]
      have o1 : (Ob.rng (.add (.v 74) (.n 128))).den ρ2.i := by
        show -9223372036854775808 ≤ ρ2.i 74 + 128 ∧ ρ2.i 74 + 128 ≤ 9223372036854775807
        rw [i74]; omega
      have o2 : (Ob.c .lss (.v 74) (.v 20) true).den ρ2.i := by
        show decide (ρ2.i 74 < ρ2.i 20) = true
        rw [i74, i20]; exact decide_eq_true (by omega)
      have o3 : (Ob.c .eql (.add (.v 74) (.n 128)) (.v 20) l).den ρ2.i := by
        show (ρ2.i 74 + 128 == ρ2.i 20) = l
        rw [i74, i20, hl]
        by_cases h1 : t + 1 = nbkB L
        · rw [decide_eq_true h1, ← h1]
          have : ((128 * t : Nat) : Int) + 128 = ((128 * (t + 1) : Nat) : Int) := by rw [Nat.mul_add]; omega
          rw [this]; simp
        · rw [decide_eq_false h1]
          have : ¬ ((128 * t : Nat) : Int) + 128 = ((128 * nbkB L : Nat) : Int) := by
            have := Nat.mul_le_mul_left 128 (show t + 2 ≤ nbkB L by omega)
            rw [Nat.mul_add] at this
            omega
          simpa using this
      intro ob hob
      cases l
      · simp only [obNB, List.mem_cons, List.not_mem_nil, or_false] at hob
        rcases hob with rfl | rfl | rfl | rfl | rfl
        · exact o1
        · exact o1
        · exact o3
        · exact o1
        · exact o2
      · simp only [obNB, List.mem_cons, List.not_mem_nil, or_false] at hob
        rcases hob with rfl | rfl | rfl | rfl | rfl
        · exact o1
        · exact o1
        · exact o3
        · exact o1
        · exact o2
    refine reach_go (cfg := cHXB) hcX true 2000 hob fun ρ3 hle3 => OutR.stop a1 ?_
    refine Reach.noIx ?_
    show Go.Sx.Reach Tryd.prog cHB w _ (oNbB z l).stk (oNbB z l).st ρ3
    refine reach_cut 0 [] a3 ?_
    show Go.Sx.Reach Tryd.prog cHB w _ (oNbB z l).stk (sOB z l) _
    have hag3 : Ag 19 512 ρ2 (ρ3.ext 512 []) := (Ag.ofLe hle3).trans (Ag.ofExt 19 ρ3 [])
    generalize ρ3.ext 512 [] = ρ4 at hag3
    have k74 : ρ4.i 74 = ((128 * t : Nat) : Int) := by rw [hag3.i 74 (by omega)]; exact i74
    have k0 : ρ4.i 0 = (L : Int) := by rw [hag3.i 0 (by omega)]; exact i0
    have kh : ∀ k, k < 8 → ρ4.i (64 + k) = hsB H0 L D t k := fun k hk => by rw [hag3.i _ (by omega)]; exact ih2 k hk
    have kby : ∀ k, k < 128 → ρ4.i (128 + k) = pad L D (128 * t + k) := fun k hk => by rw [hag3.i _ (by omega)]; exact hby2 k hk
    obtain ⟨en1, en2⟩ := ent_some a4
    have hdst := dstB_eq a5
    refine reach_calls (cfg := cHB) (cfgE_ok _ _) rfl rfl rfl en1 fun a1' w1 hF1 hM1 => ?_
    show Calls Tryd.prog (eOB z l).f ((eOB z l).vs.map (SV.den ρ4)).toArray w1 (fun en w' => ∃ v, en = .returned v ∧ wpK Tryd.prog _ (eOB z l).k .normal (a1'.put (eOB z l).dst v) w')
    have en2 : (eOB z l).f = 23 := en2
    rw [hargs0, en2, hdst]
    obtain ⟨n, hn⟩ : ∃ n : Int, n = if t + 1 = nbkB L then (L : Int) else ((128 * (t + 1) : Nat) : Int) := ⟨_, rfl⟩
    have hnb : 0 ≤ n ∧ n < 4294967296 := by
      rw [hn]
      have : t + 1 ≠ nbkB L → 128 * (t + 1) ≤ L := fun h => Nat.le_trans (Nat.mul_le_mul_left 128 (by omega)) g1
      split
      · omega
      · rename_i h; have := this h; omega
    have hargsL : ∀ l' : Bool, (l' = true → ρ4.i 0 = n) → (l' = false → ρ4.i 74 + 128 = n) →
        (argOB l').map (SV.den ρ4) = [.agg (words .u64 8 (hsB H0 L D t)).toArray, .slice (some ⟨pa, 128 * t, none⟩) 128 (cap - 128 * t), .int .i64 n, .bool l'] := by
      intro l' h1 h2
      have e1 : (SV.agg (ws .u64 64 8)).den ρ4 = .agg (words .u64 8 (hsB H0 L D t)).toArray := by
        simp only [SV.den, ws_den ρ4 .u64 8 64 _ kh]
      have e2 : (SV.f (.sl 18 0 (.n 128) (.v 18 0))).den ρ4 = .slice (some ⟨pa, 128 * t, none⟩) 128 (cap - 128 * t) := by
        simp only [SV.den, FV.den, E.den, Cp.den, hag3.b 18 (by omega), hag3.o 18 (by omega), hag3.c 18 (by omega), m18b, m18o, m18c]
        rfl
      cases l'
      · show [(SV.agg (ws .u64 64 8)).den ρ4, (SV.f (.sl 18 0 (.n 128) (.v 18 0))).den ρ4, .int .i64 (ρ4.i 74 + 128), .bool false] = _
        rw [e1, e2, h2 rfl]
      · show [(SV.agg (ws .u64 64 8)).den ρ4, (SV.f (.sl 18 0 (.n 128) (.v 18 0))).den ρ4, .int .i64 (ρ4.i 0), .bool true] = _
        rw [e1, e2, h1 rfl]
    have hargs1 := hargsL l (fun hlt => by
        have h1 : t + 1 = nbkB L := of_decide_eq_true (hl.symm.trans hlt)
        rw [hn, if_pos h1]; exact k0) (fun hlf => by
        have h1 : ¬ t + 1 = nbkB L := of_decide_eq_false (hl.symm.trans hlf)
        rw [hn, if_neg h1, k74, Nat.mul_add]; omega)
    rw [hargs1]
    have hkp1 := kpOf hM1 (by rw [hag3.b 14 (by omega), B2 14 (by omega)]; exact b14)
    have hcomp := compB w1 pa (128 * t) (cap - 128 * t) (hsB H0 L D t) (fun x => pad L D (128 * t + x)) n l (by omega) (fun k hk => by
        rw [hkp1.cell la (by simpa using n1)]
        exact hA _ (by omega)) (Nat.lt_of_lt_of_le la hkp1.size) hnb
    refine Calls.mono hcomp fun en w2 ⟨hen, hB2⟩ => ⟨_, hen, ?_⟩
    have hF8 : ∀ k, k < 8 → FB (hsB H0 L D t) n 0 (flagB l) (fun x => pad L D (128 * t + x)) k = hsB H0 L D (t + 1) k := fun k _ => by
      show _ = FB (hsB H0 L D t) (if t + 1 = nbkB L then (L : Int) else ((128 * (t + 1) : Nat) : Int)) 0 (flagB (decide (t + 1 = nbkB L))) (fun x => pad L D (128 * t + x)) k
      rw [← hn, ← hl]
    have hag4 := Env.extF_ag ρ4 19 512 fun x => hsB H0 L D (t + 1) (x - 512)
    have h512 : ∀ k, k < 8 → (ρ4.extF 512 fun x => hsB H0 L D (t + 1) (x - 512)).i (512 + k) = hsB H0 L D (t + 1) k := fun k _ => by
      show (if 512 + k < 512 then _ else hsB H0 L D (t + 1) (512 + k - 512)) = _
      rw [if_neg (by omega), show 512 + k - 512 = k by omega]
    have hM2 : MemOK cHB w (ρ4.extF 512 fun x => hsB H0 L D (t + 1) (x - 512)) (mkSt Tryd.f14.ntmps 19 0 [] ((18, ⟨ws .u8 128 128, 0⟩) :: mlNB z) []) w2 := by
      refine MemOK.after (ml0 := (18, ⟨ws .u8 128 128, 0⟩) :: mlNB z) (xs := []) _ hM1 (by rfl) (by rfl) (by rfl) ?_ (by rfl) (Kp.of_below hB2) (fun x hx => by cases hx) ?_
      · intro p hp
        refine ⟨p.2, ?_, rfl, .inl rfl⟩
        simp only [mlNB, List.mem_cons, List.not_mem_nil, or_false] at hp
        rcases hp with rfl | rfl | rfl
        · exact Tr.get_put_same (by omega)
        · exact (Tr.get_put_other (by omega)).trans (Tr.get_put_same (by omega))
        · exact (Tr.get_put_other (by omega)).trans ((Tr.get_put_other (by omega)).trans (Tr.get_put_same (by omega)))
      · intro p hp
        refine ⟨p.2, ?_, rfl, .inl ⟨rfl, by simp⟩⟩
        simp only [mlNB, List.mem_cons, List.not_mem_nil, or_false] at hp
        rcases hp with rfl | rfl | rfl
        · exact Tr.get_put_same (by omega)
        · exact (Tr.get_put_other (by omega)).trans (Tr.get_put_same (by omega))
        · exact (Tr.get_put_other (by omega)).trans ((Tr.get_put_other (by omega)).trans (Tr.get_put_same (by omega)))
    have hval : Value.agg (words .u64 8 (FB (hsB H0 L D t) n 0 (flagB l) fun x => pad L D (128 * t + x))).toArray = (SV.agg (ws .u64 512 8)).den (ρ4.extF 512 fun x => hsB H0 L D (t + 1) (x - 512)) := by
      simp only [SV.den]
      rw [ws_den _ .u64 8 512 _ h512, words_congr hF8]
    rw [hval]
    refine reach_back (s1 := mkSt Tryd.f14.ntmps 19 0 [] ((18, ⟨ws .u8 128 128, 0⟩) :: mlNB z) []) (s2 := mkSt Tryd.f14.ntmps 19 0 ((94, .agg (ws .u64 512 8)) :: flOB l) ((18, ⟨ws .u8 128 128, 0⟩) :: mlNB z) []) (fl := flOB l) (n := 19) (m := 512) (N := Tryd.f14.ntmps) (v := .agg (ws .u64 512 8)) (d := some 94) [] 0 hF1 hag4 (by cases l <;> rfl) (by cases l <;> rfl) (by rfl) hM2 (ws_ok _ _ _ _ _) (by cases l <;> rfl) ?_
    have hob2 : Obs (ρ4.extF 512 fun x => hsB H0 L D (t + 1) (x - 512)) (oO2B z l).st.obs := by
      rw [obsB_eq a7]
      intro ob hob
      rw [List.mem_singleton] at hob
      subst hob
      show -9223372036854775808 ≤ (ρ4.extF 512 fun x => hsB H0 L D (t + 1) (x - 512)).i 74 + 128 ∧ (ρ4.extF 512 fun x => hsB H0 L D (t + 1) (x - 512)).i 74 + 128 ≤ 9223372036854775807
      rw [hag4.i 74 (by omega), k74]; omega
    refine reach_go (cfgW_ok _ _) false 2000 hob2 fun ρ6 hle6 => OutR.round a6 fun a w hF hM => ?_
    obtain ⟨d1, d2⟩ := cut_sound (thr := 0) (orc := []) a8 hF hM
    refine ⟨g - 1, ⟨ρ6.ext 64 esOB, ⟨t + 1, by omega, ?_, ?_, ?_⟩, d1, d2⟩, by show g - 1 < g; omega⟩
    · have x1 : Ag 18 64 ρ' ρ2 := hag2.mono (Nat.le_refl _) (by omega)
      have x2 : Ag 18 64 ρ2 ρ4 := hag3.mono (by omega) (by omega)
      have x3 : Ag 18 64 ρ4 (ρ4.extF 512 fun x => hsB H0 L D (t + 1) (x - 512)) := hag4.mono (by omega) (by omega)
      have x4 : Ag 18 64 (ρ4.extF 512 fun x => hsB H0 L D (t + 1) (x - 512)) ρ6 := Ag.ofLe (Env.le.mono hle6 (show 18 ≤ 19 by omega))
      exact ((((hag.trans x1).trans x2).trans x3).trans x4).trans (Ag.ofExt 18 ρ6 _)
    · intro k hk
      have := ρ6.ext_new (m := 64) (es := esOB) (k := k) (e := .v (512 + k)) (by
        unfold esOB
        rw [appX_eq, List.getElem?_append_left (by rw [vs_len]; exact hk)]
        exact vs_get hk)
      rw [this]
      show ρ6.i (512 + k) = _
      rw [hle6.i]; exact h512 k hk
    · have := ρ6.ext_new (m := 64) (es := esOB) (k := 10) (e := .add (.v 74) (.n 128)) rfl
      rw [this]
      show ρ6.i 74 + 128 = _
      rw [hle6.i, hag4.i 74 (by omega), k74, Nat.mul_add]; omega
end Go.Proofs.YtjhndmlpcpbaoaaDoor

/- The reference's hash (b), called: it gives the hash in plain words. -/
namespace Go.Proofs.YtjhndmlpcpbaoaaDoor
open Go Go.Sx Go.Proofs Go.RowKit
theorem body14 : Tryd.f14.body = some (bodyOf Tryd.f14) := by kernel_rfl
def hwEB (z : Int) : List E := (List.range 8).map fun k => .n (h0B z k)
theorem hwEB64 : elsB (eCells (hwLB 64)) (hwEB 64) = true := by kernel_rfl
theorem hwEB48 : elsB (eCells (hwLB 48)) (hwEB 48) = true := by kernel_rfl
theorem hwEB32 : elsB (eCells (hwLB 32)) (hwEB 32) = true := by kernel_rfl
theorem hwEallB {z : Nat} (hz : z = 64 ∨ z = 48 ∨ z = 32) : elsB (eCells (hwLB z)) (hwEB z) = true := by
  rcases hz with rfl | rfl | rfl
  · exact hwEB64
  · exact hwEB48
  · exact hwEB32
theorem hw_getB {z : Nat} (hz : z = 64 ∨ z = 48 ∨ z = 32) {k : Nat} (hk : k < 8) : (hwLB z)[k]? = some (.int .u64 (.n (h0B z k))) := by
  have h1 := elsB_eq (hwEallB hz)
  have h2 : (eCells (hwLB z))[k]? = some (.n (h0B z k)) := by
    rw [h1]
    simp [hwEB, List.getElem?_range hk]
  have key : ∀ (l : List Int) (k : Nat) (e : Int), (eCells (lits .u64 l))[k]? = some (.n e) → (lits .u64 l)[k]? = some (.int .u64 (.n e)) := by
    intro l
    induction l with
    | nil => intro k e h; simp [lits, eCells] at h
    | cons x l ih =>
      intro k e h
      cases k with
      | zero =>
        have : E.n x = E.n e := by simpa [lits, eCells, eCell] using h
        injection this with this
        subst this; rfl
      | succ k => exact ih k e (by simpa [lits, eCells] using h)
  exact key _ _ _ h2

def orcBB (b : Bool) : List Bool := match b with | true => [true] | false => [false, true]
theorem goLgB (b : Bool) : go chB false 2000 [.code cIB] (sLB (orcBB b)) = oLgB b := by cases b <;> rfl
theorem frLB {ρ : Env} {a : Act} {d : SV} (hF : FrOK ρ 20 Tryd.f14.ntmps (ofL flL2B) a) (ρ' : Env) (e0 : ρ'.i 0 = ρ.i 0) (e20 : ρ'.i 20 = ρ.i 21) (b0 : ρ'.b 0 = ρ.b 0) (o0 : ρ'.o 0 = ρ.o 0) (c0 : ρ'.c 0 = ρ.c 0) (b14 : ρ'.b 14 = ρ.b 14) (o14 : ρ'.o 14 = ρ.o 14)
    (b17 : ρ'.b 17 = ρ.b 19) (o17 : ρ'.o 17 = ρ.o 19) (c17 : ρ'.c 17 = ρ.c 19) (_ : d = d) : FrOK ρ' 18 Tryd.f14.ntmps (ofL flLB) a :=
  ⟨hF.size, hF.defers, fun k x hd => by
    have hm := ofL_get (l := flLB) (by rfl) hd
    simp only [flLB, List.mem_cons, Prod.mk.injEq, List.not_mem_nil, or_false] at hm
    rcases hm with ⟨rfl, rfl⟩ | ⟨rfl, rfl⟩ | ⟨rfl, rfl⟩ | ⟨rfl, rfl⟩ | ⟨rfl, rfl⟩
    · obtain ⟨h1, h2⟩ := hF.get 0 (.f (.sl 0 0 (.n 64) (.v 0 0))) (by kernel_rfl)
      obtain ⟨_, _, q3, q4⟩ := h1
      refine ⟨⟨by omega, by show 0 < 18; omega, q3, ?_⟩, by rw [h2]; simp only [SV.den, FV.den, E.den, Cp.den, b0, o0, c0]⟩
      simp only [E.den, Cp.den, c0] at *; exact q4
    · obtain ⟨h1, h2⟩ := hF.get 7 (.f (.int .i64 (.n 128))) (by kernel_rfl)
      exact ⟨trivial, h2⟩
    · obtain ⟨h1, h2⟩ := hF.get 8 (.f (.ptr 14 0)) (by kernel_rfl)
      exact ⟨by show 14 < 18; omega, by rw [h2]; simp only [SV.den, FV.den, b14, o14]⟩
    · obtain ⟨h1, h2⟩ := hF.get 10 (.f (.sl 19 0 (.v 21) (.v 19 0))) (by kernel_rfl)
      obtain ⟨_, _, q3, q4⟩ := h1
      refine ⟨⟨by omega, by show 17 < 18; omega, ?_, ?_⟩, by rw [h2]; simp only [SV.den, FV.den, E.den, Cp.den, b17, o17, c17, e20]⟩
      · simp only [E.den, e20] at *; exact q3
      · simp only [E.den, Cp.den, e20, c17] at *; exact q4
    · obtain ⟨h1, h2⟩ := hF.get 11 (.f (.int .i64 (.v 0))) (by kernel_rfl)
      exact ⟨trivial, by rw [h2]; simp only [SV.den, FV.den, E.den, e0]⟩⟩

set_option maxRecDepth 100000
set_option maxHeartbeats 2000000 in
theorem hashB (w : World) (z L : Nat) (hz : z = 64 ∨ z = 48 ∨ z = 32) (hL : L ≤ 2147483647) (D : Nat → Int) (pp op capp : Nat) (dv : Value) (hP : CellsAt w pp op .u8 (parLB z)) (lp : pp < w.heap.size) (hcp : 64 ≤ capp) (hdv : DataAt w dv L D) :
    Calls Tryd.prog 14 #[.slice (some ⟨pp, op, none⟩) 64 capp, .slice none 0 0, dv] w fun e w' => ∃ v, e = .returned v ∧ Below w.heap.size w w' ∧ Fresh w.heap.size z (byt 8 (hsB (h0B z) L D (nbkB L))) v w' := by
  have g0 := nbk_posB L
  have g2 := nbk_leB L
  obtain ⟨T, hT⟩ : ∃ T, T = 128 * nbkB L := ⟨_, rfl⟩
  have hTL : T ≤ L + 128 := by
    rw [hT]; unfold nbkB; split <;> omega
  have hTmin : ∀ m, L ≤ m → m < T → m = 0 ∨ m % 128 ≠ 0 := by
    intro m h1 h2
    rw [hT] at h2
    unfold nbkB at h2
    split at h2 <;> omega
  have hTmod : T % 128 = 0 := by rw [hT]; omega
  -- the data's shape
  obtain ⟨d, pd, od, capd, hd, hden⟩ : ∃ (d : SV) (pd od capd : Nat), isD d ∧ ((d = dat ∧ dv = .slice (some ⟨pd, od, none⟩) L capd ∧ L ≤ capd ∧ pd < w.heap.size ∧ ∀ k, k < L → w.cell? ⟨pd, od + k, none⟩ = some (.int .u8 (D k))) ∨ (d = nilS ∧ dv = .slice none 0 0 ∧ L = 0)) := by
    rcases hdv with ⟨p, o, c, h1, h2, h3, h4⟩ | ⟨h1, h2⟩
    · exact ⟨dat, p, o, c, .inl rfl, .inl ⟨rfl, h1, h2, h3, h4⟩⟩
    · exact ⟨nilS, 0, 0, 0, .inr rfl, .inr ⟨rfl, h1, h2⟩⟩
  obtain ⟨ρ, hρ⟩ : ∃ ρ : Env, ρ = { i := fun _ => (L : Int), b := fun j => match j with | 0 => pp | _ => pd, o := fun j => match j with | 0 => op | _ => od, c := fun j => match j with | 0 => capp | _ => capd, r := fun _ => undef } := ⟨_, rfl⟩
  have r0 : ρ.i 0 = (L : Int) := by subst hρ; rfl
  have b0 : ρ.b 0 = pp := by subst hρ; rfl
  have o0 : ρ.o 0 = op := by subst hρ; rfl
  have c0 : ρ.c 0 = capp := by subst hρ; rfl
  have b1 : ρ.b 1 = pd := by subst hρ; rfl
  have o1 : ρ.o 1 = od := by subst hρ; rfl
  have c1 : ρ.c 1 = capd := by subst hρ; rfl
  clear hρ
  have hdd : d.den ρ = dv := by
    rcases hden with ⟨rfl, h1, _⟩ | ⟨rfl, h1, _⟩
    · rw [h1]
      simp only [dat, SV.den, FV.den, E.den, Cp.den, b1, o1, c1, r0, Int.toNat_natCast]; rfl
    · rw [h1]; rfl
  have hdok : d.ok ρ 2 := by
    rcases hden with ⟨rfl, _, h2, _⟩ | ⟨rfl, _⟩
    · refine ⟨by omega, by show 1 < 2; omega, ?_, ?_⟩
      · simp only [E.den, r0]; omega
      · simp only [E.den, Cp.den, r0, c1]; omega
    · trivial
  have hargs : (vsFB d).map (SV.den ρ) = [.slice (some ⟨pp, op, none⟩) 64 capp, .slice none 0 0, dv] := by
    simp only [vsFB, List.map_cons, List.map_nil, hdd]
    simp only [nilS, SV.den, FV.den, E.den, Cp.den, b0, o0, c0]
    rfl
  have hM : MemOK chB w ρ (mkSt Tryd.f14.ntmps 2 0 (en 0 (vsFB d)) [(0, ⟨lits .u8 (parLB z), 0⟩)] []) w := by
    refine MemOK.init rfl rfl ?_ ?_ ?_ ?_ (fun g j hg => by cases hg) (fun j hj => by cases hj)
    · intro q hq
      rw [List.mem_singleton] at hq
      subst hq
      refine ⟨by show 0 < 2; omega, lits_ok _ _ _ _, ?_⟩
      show ∀ (i : Nat) x, (lits .u8 (parLB z))[i]? = some x → w.cell? ⟨ρ.b 0, ρ.o 0 + i, none⟩ = some (x.den ρ)
      rw [b0, o0]
      exact lits_cell hP
    · intro q hq
      rw [List.mem_singleton] at hq
      subst hq
      show ρ.b 0 < _; rw [b0]; exact lp
    · intro q hq hw
      rw [List.mem_singleton] at hq
      subst hq
      exact absurd rfl hw
    · intro q hq q' hq' hw
      rw [List.mem_singleton] at hq
      subst hq
      exact absurd rfl hw
  have key := calls_reach (P := Tryd.prog) (cfg := chB) (w := w) (ρ := ρ) (f := 14) (fn := Tryd.f14) (b := bodyOf Tryd.f14) Tryd.func14 body14 (vsFB d) (nx := 2) (thr := 0) (ml := [(0, ⟨lits .u8 (parLB z), 0⟩)]) (orc := [])
    (by rfl) (by rfl) (fun v hv => by
      simp only [vsFB, List.mem_cons, List.not_mem_nil, or_false] at hv
      rcases hv with rfl | rfl | rfl
      · refine ⟨by omega, by show 0 < 2; omega, by simp only [E.den]; omega, ?_⟩
        simp only [E.den, Cp.den, c0]; omega
      · trivial
      · exact hdok) (K := fun v w' => Below w.heap.size w w' ∧ Fresh w.heap.size z (byt 8 (hsB (h0B z) L D (nbkB L))) v w') hM
  rw [hargs] at key
  refine key ?_
  clear key hM
  obtain ⟨KA, KB, KC⟩ := hkAallB hz hd
  obtain ⟨A1, A2, A3⟩ := and3_iff KA
  obtain ⟨a1, a2, a3⟩ := and3_iff A1
  obtain ⟨a4, a5, a6⟩ := and3_iff A2
  obtain ⟨a7, a8, _⟩ := and3_iff A3
  show Go.Sx.Reach Tryd.prog chB w _ _ (sFB z d) ρ
  refine reach_go (cfgW_ok _ _) true 2000 (Obs.nil a2 _) fun ρ1 hle1 => OutR.stop a1 ?_
  have hst1 : (oF1B z d).stk = .code (.loop cF1B) :: (lF1B z d).2 := by rw [← KB]; exact loopP_eq a3
  show Go.Sx.Reach Tryd.prog chB w _ (oF1B z d).stk (oF1B z d).st ρ1
  rw [hst1]
  refine reach_split ?_
  refine reach_go (cfgW_ok _ _) false 5000 (Obs.nil a5 _) fun ρ2 hle2 => OutR.leftK (k' := kF2B z d) (some_getD a4) ?_
  refine reach_to (cfgW_ok _ _) true 2 0 [] a7 a6 a8 fun ρ3 hle3 => ?_
  show Go.Sx.Reach Tryd.prog chB w _ (oF3B z d).stk (sGB z d) _
  have n1 : 2 ≤ (oF1B z d).st.nx := ((go_soundG (P := Tryd.prog) (w0 := w) (cfgW_ok [] []) 2000 true).ext [.code (bodyOf Tryd.f14)] (sFB z d)).nx
  have n2 : 2 ≤ (oF2B z d).st.nx := Nat.le_trans n1 ((go_soundG (P := Tryd.prog) (w0 := w) (cfgW_ok [] []) 5000 false).ext [.code (.loop cF1B)] (oF1B z d).st).nx
  have hag3 : Ag 2 64 ρ (ρ3.ext 64 []) := (((Ag.ofLe hle1).trans (Ag.ofLe (Env.le.mono hle2 n1))).trans (Ag.ofLe (Env.le.mono hle3 n2))).trans (Ag.ofExt 2 ρ3 [])
  generalize ρ3.ext 64 [] = ρ4 at hag3
  -- the row
  refine reach_op KC fun a1' w1 hF1 hM1 => ?_
  obtain ⟨ty, pos, after, guard, hG⟩ := hkGB hd
  have hk1 := hM1.kp (xs := []) fun j hj => by cases hj
  have g14 : (sGB z d).M.get 14 = some ⟨hwLB z, 2⟩ := Tr.get_put_same (by omega)
  have hH1 : WordsAt w1 (ρ4.b 14) (ρ4.o 14) .u64 8 (h0B z) := by
    refine ⟨fun k hk => (hM1.cell 14 _ g14).2.2 k _ (hw_getB hz hk), fun k hk => hM1.free 14 _ g14 (by show 2 ≠ 0; omega) k ?_⟩
    exact (List.getElem?_eq_some_iff.1 (hw_getB hz hk)).1
  have k14 : w.heap.size ≤ ρ4.b 14 := by
    rcases hM1.kind 14 _ g14 (by show 2 ≠ 0; omega) with hc | hc
    · cases hc
    · exact hc
  have l14 : ρ4.b 14 < w1.heap.size := hM1.lt 14 _ g14
  refine ⟨_, _, by rw [hG]; exact run_build0 a1' w1, ?_⟩
  have hdst : (stGB d).o.dst = some 36 := by rw [hG]
  rw [hdst]
  have own2 : (w1.alloc (.cells #[] 5)).ownsRow w1.heap.size 5 1 (.slice (some ⟨w1.heap.size, 0, none⟩) 0 0) 0 (words .u8 0 D) := World.ownsRow_made w1 #[] 0 (Nat.le_refl _) (by simp [maxLen]) (by simp)
  have hk2 : Kp w1.heap.size [] w1 (w1.alloc (.cells #[] 5)) := Kp.of_below ((Below.refl _ w1).alloc (Nat.le_refl _) _)
  have sz2 : (w1.alloc (.cells #[] 5)).heap.size = w1.heap.size + 1 := by simp
  generalize w1.alloc (.cells #[] 5) = w2 at own2 hk2 sz2
  have hle5 := Env.more_le ρ4 16 w1.heap.size 0 0 undef
  have m16b : (ρ4.more 16 w1.heap.size 0 0 undef).b 16 = w1.heap.size := by simp [Env.more]
  have m16o : (ρ4.more 16 w1.heap.size 0 0 undef).o 16 = 0 := by simp [Env.more]
  have m16c : (ρ4.more 16 w1.heap.size 0 0 undef).c 16 = 0 := by simp [Env.more]
  have hag5 : Ag 16 64 ρ4 (ρ4.more 16 w1.heap.size 0 0 undef) := Ag.ofLe hle5
  generalize ρ4.more 16 w1.heap.size 0 0 undef = ρ5 at hle5 m16b m16o m16c hag5
  have hval2 : Value.slice (some ⟨w1.heap.size, 0, none⟩) 0 0 = (SV.f (.sl 16 0 (.n 0) (.v 16 0))).den ρ5 := by
    simp only [SV.den, FV.den, E.den, Cp.den, m16b, m16o, m16c]; rfl
  have hF2 : FrOK ρ5 17 Tryd.f14.ntmps (ofL ((36, .f (.sl 16 0 (.n 0) (.v 16 0))) :: flGB d)) (a1'.put (some 36) (.slice (some ⟨w1.heap.size, 0, none⟩) 0 0)) := by
    rw [hval2]
    refine FrOK.put (F := ofL (flGB d)) (d := 36) (hF1.le hle5 (show 16 ≤ 17 by omega)) ?_ (Nat.le_of_ble_eq_true (by rfl)) (by omega)
    exact ⟨by omega, by show 16 < 17; omega, by simp only [E.den]; omega, by simp only [E.den, Cp.den]; omega⟩
  -- to the append
  refine (?_ : Go.Sx.Reach Tryd.prog chB w2 _ (.ops (stGB d).all (stGB d).l :: (stGB d).k) (mkSt Tryd.f14.ntmps 17 0 ((36, .f (.sl 16 0 (.n 0) (.v 16 0))) :: flGB d) [] []) ρ5) _ w2 hF2 (MemOK.bare rfl rfl rfl w2 ρ5 _ _ _ _ _)
  clear hF1 hM1 hF2
  obtain ⟨I1, I2, I3⟩ := and3_iff (hkIB hd)
  refine reach_to (cfgW_ok _ _) true 2000 0 [] I1 I2 I3 fun ρ6 hle6 => ?_
  show Go.Sx.Reach Tryd.prog chB w2 _ (oG2B d).stk (sIB d) _
  have hag6 : Ag 17 64 ρ5 (ρ6.ext 64 []) := (Ag.ofLe hle6).trans (Ag.ofExt 17 ρ6 [])
  generalize ρ6.ext 64 [] = ρ7 at hag6
  refine reach_op (hkIsB hd) fun a3 w3 hF3 hM3 => ?_
  obtain ⟨ty3, pos3, after3, guard3, hI⟩ := hkIoB hd
  have hk3 := hM3.kp (xs := []) fun j hj => by cases hj
  have own3 := ownsRow_keep own2 (w' := w3) fun g hg => by
    have : w1.heap.size = g := by simpa [Value.ownBlock] using hg
    exact hk3.block g (by omega) (by simp)
  have agA : Ag 2 64 ρ ρ7 := (hag3.trans (hag5.mono (by omega) (Nat.le_refl _))).trans (hag6.mono (by omega) (Nat.le_refl _))
  have e49 : a3.eval (.tmp 49) = .slice (some ⟨w1.heap.size, 0, none⟩) 0 0 := by
    have := (hF3.get 49 (.f (.sl 16 0 (.n 0) (.v 16 0))) (Tr.get_put_same (by omega))).2
    rw [hag6.b 16 (by omega) |> fun h => (by simp only [SV.den, FV.den, E.den, Cp.den, h, hag6.o 16 (by omega), hag6.c 16 (by omega), m16b, m16o, m16c] : (SV.f (.sl 16 0 (.n 0) (.v 16 0))).den ρ7 = .slice (some ⟨w1.heap.size, 0 + 0, none⟩) (0 : Int).toNat (0 - 0))] at this
    exact this
  have e50 : a3.eval (.tmp 50) = dv := by
    have h1 := (hF3.get 50 d ((Tr.get_put_other (by omega)).trans (Tr.get_put_same (by omega)))).2
    have h2 : d.den ρ7 = d.den ρ := by
      rcases hden with ⟨rfl, _⟩ | ⟨rfl, _⟩
      · simp only [dat, SV.den, FV.den, E.den, Cp.den, agA.b 1 (by omega), agA.o 1 (by omega), agA.c 1 (by omega), agA.i 0 (by omega)]
      · rfl
    rw [h2, hdd] at h1
    exact h1
  have i7 : ρ7.i 0 = (L : Int) := by rw [agA.i 0 (by omega)]; exact r0
  have hk13 : Kp w1.heap.size [] w1 w3 := hk2.trans (hk3.mono (by omega) (fun _ _ h => h))
  have sz3 : w1.heap.size ≤ w3.heap.size := hk13.size
  obtain ⟨g4, cap4, w4, run4, own4, hk4⟩ : ∃ g4 cap4 w4, (Builtin.append_ #[22, 22] ty3 #[.slice (some ⟨w1.heap.size, 0, none⟩) 0 0, dv]).run Tryd.prog w3 = .ok (.slice (some ⟨g4, 0, none⟩) L cap4) w4 ∧
      w4.ownsRow w1.heap.size 5 1 (.slice (some ⟨g4, 0, none⟩) L cap4) L (words .u8 L (pad L D)) ∧ Kp w1.heap.size [] w3 w4 := by
    have hpadD : words .u8 L D = words .u8 L (pad L D) := words_congr fun k hk => by unfold pad; rw [if_pos hk]
    rcases hden with ⟨_, hv, hc, hlt, hcell⟩ | ⟨_, hv, hL0⟩
    · have h := append_some w3 ty3 w1.heap.size w1.heap.size 0 0 L capd D D ⟨pd, od, none⟩ own3 (fun k hk => by
        rw [Addr.add_lit]
        have h1 := hk13.cell (b := pd) (o := od + k) (Nat.lt_of_lt_of_le hlt hk1.size) (by simp)
        have h2 := hk1.cell (b := pd) (o := od + k) hlt (by simp)
        rw [h1, h2]
        exact hcell k hk) (by omega) sz3 D (by simp [words])
      rw [Nat.zero_add, hpadD, ← hv] at h
      exact h
    · subst hL0
      refine ⟨w1.heap.size, 0, w3, ?_, own3, Kp.refl _ _ _⟩
      rw [hv]
      exact append_none w3 ty3 own3
  refine ⟨_, _, by rw [hI]; exact run_append_op (by rw [e49, e50]; exact run4), ?_⟩
  have hdst3 : (stIB d).o.dst = some 51 := by rw [hI]
  rw [hdst3]
  have hk14 : Kp w1.heap.size [] w1 w4 := hk13.trans hk4
  obtain ⟨c41, c42, c43, _⟩ := ownsRow_cells own4
  have hle8 := Env.more_le ρ7 17 g4 0 cap4 undef
  have m17b : (ρ7.more 17 g4 0 cap4 undef).b 17 = g4 := by simp [Env.more]
  have m17o : (ρ7.more 17 g4 0 cap4 undef).o 17 = 0 := by simp [Env.more]
  have m17c : (ρ7.more 17 g4 0 cap4 undef).c 17 = cap4 := by simp [Env.more]
  have hag8 : Ag 17 64 ρ7 (ρ7.more 17 g4 0 cap4 undef) := Ag.ofLe hle8
  generalize ρ7.more 17 g4 0 cap4 undef = ρ8 at hle8 m17b m17o m17c hag8
  have i8 : ρ8.i 0 = (L : Int) := by rw [hag8.i 0 (by omega)]; exact i7
  have hval4 : Value.slice (some ⟨g4, 0, none⟩) L cap4 = (SV.f (.sl 17 0 (.v 0) (.v 17 0))).den ρ8 := by
    simp only [SV.den, FV.den, E.den, Cp.den, m17b, m17o, m17c, i8, Int.toNat_natCast]; rfl
  have hF4 : FrOK ρ8 18 Tryd.f14.ntmps (ofL ((51, .f (.sl 17 0 (.v 0) (.v 17 0))) :: flIB d)) (a3.put (some 51) (.slice (some ⟨g4, 0, none⟩) L cap4)) := by
    rw [hval4]
    refine FrOK.put (F := ofL (flIB d)) (d := 51) (hF3.le hle8 (show 17 ≤ 18 by omega)) ?_ (Nat.le_of_ble_eq_true (by rfl)) (by omega)
    refine ⟨by omega, by show 17 < 18; omega, ?_, ?_⟩
    · simp only [E.den, i8]; omega
    · simp only [E.den, Cp.den, i8, m17c]; omega
  refine (?_ : Go.Sx.Reach Tryd.prog chB w4 _ (.ops (stIB d).all (stIB d).l :: (stIB d).k) (mkSt Tryd.f14.ntmps 18 0 ((51, .f (.sl 17 0 (.v 0) (.v 17 0))) :: flIB d) [] []) ρ8) _ w4 hF4 (MemOK.bare rfl rfl rfl w4 ρ8 _ _ _ _ _)
  clear hF3 hM3 hF4
  obtain ⟨J1, J2, _⟩ := and3_iff (hkLB hd)
  obtain ⟨j1, j2, j3⟩ := and3_iff J1
  refine reach_to (cfgW_ok _ _) true 2000 0 [] j1 j2 J2 fun ρ9 hle9 => ?_
  have hst2 : (oI2B d).stk = .code (.loop cIB) :: (lIB dat).2 := by
    rw [← hkLcB]
    rcases hd with rfl | rfl
    · exact loopP_eq j3
    · exact loopP_eq' j3 hkLnB
  show Go.Sx.Reach Tryd.prog chB w4 _ (oI2B d).stk (sLB []) _
  rw [hst2]
  have hag9 : Ag 18 20 ρ8 (ρ9.ext 20 [.v 0]) := (Ag.ofLe hle9).trans (Ag.ofExt 18 ρ9 [.v 0])
  have i920 : (ρ9.ext 20 [.v 0]).i 20 = (L : Int) := by
    have := ρ9.ext_new (m := 20) (es := [.v 0]) (k := 0) (e := .v 0) rfl
    rw [this]
    show ρ9.i 0 = _
    rw [hle9.i]; exact i8
  generalize ρ9.ext 20 [.v 0] = ρA at hag9 i920
  have agB : Ag 16 20 ρ4 ρA := (((hag5.mono (Nat.le_refl _) (by omega)).trans (hag6.mono (by omega) (by omega))).trans (hag8.mono (by omega) (by omega))).trans (hag9.mono (by omega) (Nat.le_refl _))
  intro a5 w5 hF5 hM5
  have hk5 := hM5.kp (xs := []) fun j hj => by cases hj
  have hP1 : CellsAt w1 pp op .u8 (parLB z) := hP.kp hk1 lp (by simp)
  -- the padding
  show (Code.loop cIB).wp Tryd.prog (wpK Tryd.prog _ (lIB dat).2) a5 w5
  refine wp_loop_ghost (fun (m : Nat) a w' => L ≤ m ∧ m ≤ T ∧ ∃ (ρ' : Env) (g cap : Nat), FrOK ρ' 18 Tryd.f14.ntmps (ofL flLB) a ∧ ρ'.i 0 = (L : Int) ∧ ρ'.i 20 = (m : Int) ∧ ρ'.b 0 = pp ∧ ρ'.o 0 = op ∧ ρ'.c 0 = capp ∧ ρ'.b 14 = ρ4.b 14 ∧ ρ'.o 14 = ρ4.o 14 ∧
      ρ'.b 17 = g ∧ ρ'.o 17 = 0 ∧ ρ'.c 17 = cap ∧ w'.ownsRow w1.heap.size 5 1 (.slice (some ⟨g, 0, none⟩) m cap) m (words .u8 m (pad L D)) ∧ Kp w1.heap.size [] w1 w') (fun m => T - m) ?_ L a5 w5 ⟨Nat.le_refl _, by omega, ρA, g4, cap4, hF5, ?_, i920, ?_, ?_, ?_, ?_, ?_, ?_, ?_, ?_, ?_, hk14.trans (hk5.mono (Nat.le_trans c41 (Nat.le_of_lt c42)) (fun _ _ h => h))⟩
  rotate_left
  · rw [hag9.i 0 (by omega)]; exact i8
  · rw [agB.b 0 (by omega), hag3.b 0 (by omega)]; exact b0
  · rw [agB.o 0 (by omega), hag3.o 0 (by omega)]; exact o0
  · rw [agB.c 0 (by omega), hag3.c 0 (by omega)]; exact c0
  · exact agB.b 14 (by omega)
  · exact agB.o 14 (by omega)
  · rw [hag9.b 17 (by omega)]; exact m17b
  · rw [hag9.o 17 (by omega)]; exact m17o
  · rw [hag9.c 17 (by omega)]; exact m17c
  · exact ownsRow_keep own4 fun g hg => by
      have : g4 = g := by simpa [Value.ownBlock] using hg
      exact hk5.block g (by omega) (by simp)
  clear hF5 hM5 hk5
  intro m a6 w6 ⟨hm1, hm2, ρ', g, cap, hF6, i0, i20, p0, p0o, p0c, p14, p14o, p17, p17o, p17c, own6, hk6⟩
  obtain ⟨c61, c62, c63, c64⟩ := ownsRow_cells own6
  rcases Nat.lt_or_ge m T with hlt | hge
  · -- a zero more
    obtain ⟨b, hb⟩ : ∃ b : Bool, b = decide (m = 0) := ⟨_, rfl⟩
    have hmod := hTmin m hm1 hlt
    have hrem : binI .rem .i64 (m : Int) 128 = ((m % 128 : Nat) : Int) := by
      show (m : Int).tmod 128 = _
      rw [Int.tmod_eq_emod_of_nonneg (by omega)]; omega
    have hob : Obs ρ' (oLgB b).st.obs := by
      obtain ⟨G1, G2, _⟩ := and3_iff hkgB
      cases b
      · rw [obsB_eq (and3_iff G2).2.1]
        have hm0 : m ≠ 0 := of_decide_eq_false hb.symm
        intro ob hob
        simp only [List.mem_cons, List.not_mem_nil, or_false] at hob
        rcases hob with rfl | rfl
        · show (binI .rem .i64 (ρ'.i 20) 128 != 0) = true
          rw [i20, hrem]
          have : m % 128 ≠ 0 := by omega
          simp; omega
        · show (ρ'.i 20 == 0) = false
          rw [i20]; simp; omega
      · rw [obsB_eq (and3_iff G1).2.1]
        have hm0 : m = 0 := of_decide_eq_true hb.symm
        intro ob hob
        rw [List.mem_singleton] at hob
        subst hob
        show (ρ'.i 20 == 0) = true
        rw [i20, hm0]; rfl
    have S1 : (oLgB b).stops = true ∧ (oLgB b).stk = (oLgB true).stk ∧ cutB chB (oLgB b).st Tryd.f14.ntmps 19 flMB [(18, ⟨[.int .u8 (.n 0)], 2⟩)] 64 [] = true := by
      obtain ⟨G1, G2, _⟩ := and3_iff hkgB
      cases b
      · exact ⟨(and3_iff G2).1, hkgsB, (and3_iff G2).2.2⟩
      · exact ⟨(and3_iff G1).1, rfl, (and3_iff G1).2.2⟩
    rw [← goLgB b] at hob S1
    refine Code.wp_mono (fun e a w q => by cases e <;> exact q) ((?_ : Go.Sx.Reach Tryd.prog chB w6 (Exit.then (fun a' w' => ∃ m', (L ≤ m' ∧ m' ≤ T ∧ ∃ (ρ' : Env) (g cap : Nat), FrOK ρ' 18 Tryd.f14.ntmps (ofL flLB) a' ∧ ρ'.i 0 = (L : Int) ∧ ρ'.i 20 = (m' : Int) ∧ ρ'.b 0 = pp ∧ ρ'.o 0 = op ∧ ρ'.c 0 = capp ∧ ρ'.b 14 = ρ4.b 14 ∧ ρ'.o 14 = ρ4.o 14 ∧
      ρ'.b 17 = g ∧ ρ'.o 17 = 0 ∧ ρ'.c 17 = cap ∧ w'.ownsRow w1.heap.size 5 1 (.slice (some ⟨g, 0, none⟩) m' cap) m' (words .u8 m' (pad L D)) ∧ Kp w1.heap.size [] w1 w') ∧ T - m' < T - m) (wpK Tryd.prog _ (lIB dat).2)) [.code cIB] (sLB (orcBB b)) ρ') a6 w6 hF6 (MemOK.bare rfl rfl rfl w6 ρ' _ _ _ _ _))
    refine reach_go (cfgW_ok _ _) false 2000 hob fun ρB hleB => OutR.stop S1.1 ?_
    show Go.Sx.Reach Tryd.prog chB w6 _ (go chB false 2000 [.code cIB] (sLB (orcBB b))).stk (go chB false 2000 [.code cIB] (sLB (orcBB b))).st ρB
    rw [S1.2.1]
    refine reach_cut 0 [] S1.2.2 ?_
    show Go.Sx.Reach Tryd.prog chB w6 _ (oLgB true).stk sMB _
    have hagB : Ag 18 64 ρ' (ρB.ext 64 []) := (Ag.ofLe hleB).trans (Ag.ofExt 18 ρB [])
    generalize ρB.ext 64 [] = ρC at hagB
    refine reach_op hkMB fun a7 w7 hF7 hM7 => ?_
    obtain ⟨ty7, pos7, after7, guard7, hMo⟩ := hkMoB
    have hk7 := hM7.kp (xs := []) fun j hj => by cases hj
    have own7 := ownsRow_keep own6 (w' := w7) fun g' hg => by
      have : g = g' := by simpa [Value.ownBlock] using hg
      exact hk7.block g' (by omega) (by simp)
    have g18 : sMB.M.get 18 = some ⟨[.int .u8 (.n 0)], 2⟩ := by kernel_rfl
    have e64 : a7.eval (.tmp 64) = .slice (some ⟨g, 0, none⟩) m cap := by
      have h1 := (hF7.get 64 (.f (.sl 17 0 (.v 20) (.v 17 0))) (by kernel_rfl)).2
      have h2 : (SV.f (.sl 17 0 (.v 20) (.v 17 0))).den ρC = .slice (some ⟨g, 0, none⟩) m cap := by
        simp only [SV.den, FV.den, E.den, Cp.den, hagB.b 17 (by omega), hagB.o 17 (by omega), hagB.c 17 (by omega), hagB.i 20 (by omega), p17, p17o, p17c, i20, Int.toNat_natCast]; rfl
      rw [h2] at h1
      exact h1
    have e65 : a7.eval (.tmp 65) = .slice (some ⟨ρC.b 18, ρC.o 18 + 0, none⟩) 1 1 := (hF7.get 65 (.f (.sl 18 0 (.n 1) (.l 1))) (by kernel_rfl)).2
    have hm3 : m + 1 ≤ 4294967296 := by omega
    obtain ⟨g8, cap8, w8, run8, own8, hk8⟩ := append_some w7 ty7 w1.heap.size g m cap 1 1 (pad L D) (fun _ => 0) ⟨ρC.b 18, ρC.o 18 + 0, none⟩ own7 (fun k hk => by
        have : k = 0 := by omega
        subst this
        rw [Addr.add_lit]
        exact (hM7.cell 18 _ g18).2.2 0 _ rfl) hm3 (Nat.le_trans hk6.size hk7.size) (pad L D) (by
        have h0 : pad L D m = 0 := by unfold pad; rw [if_neg (by omega)]
        have hw1 : words .u8 1 (fun _ => (0 : Int)) = [.int .u8 (pad L D m)] := by rw [h0]; rfl
        rw [hw1]
        exact words_snoc .u8 m (pad L D))
    refine ⟨_, _, by rw [hMo]; exact run_append_op (by rw [e64, e65]; exact run8), ?_⟩
    have hdst7 : stMB.o.dst = some 66 := by rw [hMo]
    rw [hdst7]
    obtain ⟨c81, c82, c83, _⟩ := ownsRow_cells own8
    have hagD := ρC.extF_ag 19 21 fun _ => ((m + 1 : Nat) : Int)
    have d21 : (ρC.extF 21 fun _ => ((m + 1 : Nat) : Int)).i 21 = ((m + 1 : Nat) : Int) := by rfl
    have hFD : FrOK (ρC.extF 21 fun _ => ((m + 1 : Nat) : Int)) 19 Tryd.f14.ntmps (ofL flMB) a7 := FrOK.ag (fl := flMB) hF7 hagD (by rfl) (by rfl)
    generalize (ρC.extF 21 fun _ => ((m + 1 : Nat) : Int)) = ρD at hagD d21 hFD
    have hleE := Env.more_le ρD 19 g8 0 cap8 undef
    have m19b : (ρD.more 19 g8 0 cap8 undef).b 19 = g8 := by simp [Env.more]
    have m19o : (ρD.more 19 g8 0 cap8 undef).o 19 = 0 := by simp [Env.more]
    have m19c : (ρD.more 19 g8 0 cap8 undef).c 19 = cap8 := by simp [Env.more]
    have hagE : Ag 19 64 ρD (ρD.more 19 g8 0 cap8 undef) := Ag.ofLe hleE
    generalize ρD.more 19 g8 0 cap8 undef = ρE at hleE m19b m19o m19c hagE
    have e21 : ρE.i 21 = ((m + 1 : Nat) : Int) := by rw [hagE.i 21 (by omega)]; exact d21
    have hval8 : Value.slice (some ⟨g8, 0, none⟩) (m + 1) cap8 = (SV.f (.sl 19 0 (.v 21) (.v 19 0))).den ρE := by
      simp only [SV.den, FV.den, E.den, Cp.den, m19b, m19o, m19c, e21, Int.toNat_natCast]; rfl
    have hF8 : FrOK ρE 20 Tryd.f14.ntmps (ofL ((66, .f (.sl 19 0 (.v 21) (.v 19 0))) :: flMB)) (a7.put (some 66) (.slice (some ⟨g8, 0, none⟩) (m + 1) cap8)) := by
      rw [hval8]
      refine FrOK.put (F := ofL flMB) (d := 66) (hFD.le hleE (show 19 ≤ 20 by omega)) ?_ (Nat.le_of_ble_eq_true (by rfl)) (by omega)
      refine ⟨by omega, by show 19 < 20; omega, ?_, ?_⟩
      · simp only [E.den, e21]; omega
      · simp only [E.den, Cp.den, e21, m19c]; omega
    refine (?_ : Go.Sx.Reach Tryd.prog chB w8 _ (.ops stMB.all stMB.l :: stMB.k) (mkSt Tryd.f14.ntmps 20 0 ((66, .f (.sl 19 0 (.v 21) (.v 19 0))) :: flMB) [] []) ρE) _ w8 hF8 (MemOK.bare rfl rfl rfl w8 ρE _ _ _ _ _)
    obtain ⟨M1, M2, M3⟩ := and3_iff hkM2B
    refine reach_go (cfgW_ok _ _) false 2000 (Obs.nil M2 _) fun ρF hleF => OutR.round M1 fun a9 w9 hF9 hM9 => ?_
    obtain ⟨f1, _⟩ := cut_sound (thr := 0) (orc := []) M3 hF9 hM9
    have hk9 := hM9.kp (xs := []) fun j hj => by cases hj
    have hagF : Ag 20 64 ρE (ρF.ext 64 []) := (Ag.ofLe hleF).trans (Ag.ofExt 20 ρF [])
    have agG : Ag 18 21 ρ' (ρF.ext 64 []) := (((hagB.mono (Nat.le_refl _) (by omega)).trans (hagD.mono (by omega) (Nat.le_refl _))).trans (hagE.mono (by omega) (by omega))).trans (hagF.mono (by omega) (by omega))
    generalize ρF.ext 64 [] = ρG at f1 hagF agG
    refine ⟨m + 1, ⟨by omega, by omega, { i := fun x => if x = 20 then ρG.i 21 else ρG.i x, b := fun j => if j = 17 then ρG.b 19 else ρG.b j, o := fun j => if j = 17 then ρG.o 19 else ρG.o j, c := fun j => if j = 17 then ρG.c 19 else ρG.c j, r := ρG.r }, g8, cap8,
      frLB (d := dat) f1 _ (by rfl) (by rfl) (by rfl) (by rfl) (by rfl) (by rfl) (by rfl) (by rfl) (by rfl) (by rfl) rfl, ?_, ?_, ?_, ?_, ?_, ?_, ?_, ?_, ?_, ?_, ?_, ?_⟩, by omega⟩
    · show ρG.i 0 = _
      rw [agG.i 0 (by omega)]; exact i0
    · show ρG.i 21 = _
      rw [hagF.i 21 (by omega)]; exact e21
    · show ρG.b 0 = _
      rw [agG.b 0 (by omega)]; exact p0
    · show ρG.o 0 = _
      rw [agG.o 0 (by omega)]; exact p0o
    · show ρG.c 0 = _
      rw [agG.c 0 (by omega)]; exact p0c
    · show ρG.b 14 = _
      rw [agG.b 14 (by omega)]; exact p14
    · show ρG.o 14 = _
      rw [agG.o 14 (by omega)]; exact p14o
    · show ρG.b 19 = _
      rw [hagF.b 19 (by omega)]; exact m19b
    · show ρG.o 19 = _
      rw [hagF.o 19 (by omega)]; exact m19o
    · show ρG.c 19 = _
      rw [hagF.c 19 (by omega)]; exact m19c
    · exact ownsRow_keep own8 fun g' hg => by
        have : g8 = g' := by simpa [Value.ownBlock] using hg
        exact hk9.block g' (by omega) (by simp)
    · exact ((hk6.trans (hk7.mono hk6.size (fun _ _ h => h))).trans hk8).trans (hk9.mono (Nat.le_trans c81 (Nat.le_of_lt c82)) (fun _ _ h => h))
  · -- padded
    have hmT : m = T := by omega
    subst hmT
    obtain ⟨X1, X2, _⟩ := and3_iff hkXB
    obtain ⟨N1, N2, _⟩ := and3_iff hkNB
    obtain ⟨n1', n2', n3'⟩ := and3_iff N1
    have hobX : ∀ (ρ'' : Env), ρ''.i = ρ'.i → ∀ l, obsB l obXB = true → Obs ρ'' l := by
      intro ρ'' he l hl
      rw [obsB_eq hl]
      intro ob hob
      simp only [obXB, List.mem_cons, List.not_mem_nil, or_false] at hob
      have hm0 : m ≠ 0 := by omega
      have hrem : binI .rem .i64 (m : Int) 128 = 0 := by
        show (m : Int).tmod 128 = _
        rw [Int.tmod_eq_emod_of_nonneg (by omega)]; omega
      rcases hob with rfl | rfl
      · show (binI .rem .i64 (ρ''.i 20) 128 != 0) = false
        rw [he, i20, hrem]; rfl
      · show (ρ''.i 20 == 0) = false
        rw [he, i20]; simp; omega
    refine Code.wp_mono (fun e a w q => by cases e <;> exact q) ((?_ : Go.Sx.Reach Tryd.prog chB w6 (Exit.then (fun a' w' => ∃ m', (L ≤ m' ∧ m' ≤ m ∧ ∃ (ρ' : Env) (g cap : Nat), FrOK ρ' 18 Tryd.f14.ntmps (ofL flLB) a' ∧ ρ'.i 0 = (L : Int) ∧ ρ'.i 20 = (m' : Int) ∧ ρ'.b 0 = pp ∧ ρ'.o 0 = op ∧ ρ'.c 0 = capp ∧ ρ'.b 14 = ρ4.b 14 ∧ ρ'.o 14 = ρ4.o 14 ∧
      ρ'.b 17 = g ∧ ρ'.o 17 = 0 ∧ ρ'.c 17 = cap ∧ w'.ownsRow w1.heap.size 5 1 (.slice (some ⟨g, 0, none⟩) m' cap) m' (words .u8 m' (pad L D)) ∧ Kp w1.heap.size [] w1 w') ∧ m - m' < m - m) (wpK Tryd.prog _ (lIB dat).2)) [.code cIB] (sLB [false, false]) ρ') a6 w6 hF6 (MemOK.bare rfl rfl rfl w6 ρ' _ _ _ _ _))
    refine reach_go (cfgW_ok _ _) false 2000 (hobX ρ' rfl _ X2) fun ρB hleB => OutR.left (k' := kLB) (some_getD X1) ?_
    refine reach_go (cfgW_ok _ _) true 2000 (hobX ρB hleB.i _ n2') fun ρC hleC => OutR.stop n1' ?_
    have hst3 : oN1B.stk = .code (.loop cNB) :: lNB.2 := by rw [← hkNcB]; exact loopP_eq n3'
    show Go.Sx.Reach Tryd.prog chB w6 _ oN1B.stk oN1B.st ρC
    rw [hst3]
    refine reach_cut 0 [] N2 ?_
    have nLx : 18 ≤ oLxB.st.nx := ((go_soundG (P := Tryd.prog) (w0 := w) (cfgW_ok [] []) 2000 false).ext [.code cIB] (sLB [false, false])).nx
    have hagC : Ag 18 74 ρ' (ρC.ext 74 [.n 0]) := ((Ag.ofLe hleB).trans (Ag.ofLe (Env.le.mono hleC nLx))).trans (Ag.ofExt 18 ρC [.n 0])
    have h74 : (ρC.ext 74 [.n 0]).i 74 = 0 := by
      have := ρC.ext_new (m := 74) (es := [.n 0]) (k := 0) (e := .n 0) rfl
      rw [this]; rfl
    generalize ρC.ext 74 [.n 0] = ρD at hagC h74
    intro a9 w9 hF9 hM9
    have hk9 := hM9.kp (xs := []) fun j hj => by cases hj
    have hk19 : Kp w1.heap.size [] w1 w9 := hk6.trans (hk9.mono (Nat.le_trans c61 (Nat.le_of_lt c62)) (fun _ _ h => h))
    have own9 := ownsRow_keep own6 (w' := w9) fun g' hg => by
      have : g = g' := by simpa [Value.ownBlock] using hg
      exact hk9.block g' (by omega) (by simp)
    obtain ⟨c91, c92, c93, c94⟩ := ownsRow_cells own9
    refine blocksB w9 z L hz hL D (h0B z) (ρ4.b 14) (ρ4.o 14) pp op g cap (hH1.kp hk19 l14 (by simp)) (hP1.kp hk19 (Nat.lt_of_lt_of_le lp hk1.size) (by simp)) (Nat.lt_of_lt_of_le (Nat.lt_of_lt_of_le lp hk1.size) hk19.size)
      (fun k hk => c94 k (by omega)) c92 (by omega) (by omega) (by have := Nat.lt_of_lt_of_le lp hk1.size; omega) (by omega) ρD (by rw [hagC.i 0 (by omega)]; exact i0) (by rw [hagC.i 20 (by omega), i20, hT]) h74
      (by rw [hagC.b 0 (by omega)]; exact p0) (by rw [hagC.o 0 (by omega)]; exact p0o) (by rw [hagC.b 14 (by omega)]; exact p14) (by rw [hagC.o 14 (by omega)]; exact p14o)
      (by rw [hagC.b 17 (by omega)]; exact p17) (by rw [hagC.o 17 (by omega)]; exact p17o) (by rw [hagC.c 17 (by omega)]; exact p17c) a9 hF9 fun v w' hkp hfr => ?_
    have hk09 : Kp w.heap.size [] w w9 := hk1.trans (hk19.mono hk1.size (fun _ _ h => h))
    have hB9 : Below w.heap.size w9 w' := ⟨hkp.os, hkp.tape, hkp.output, hkp.size, fun k hk => hkp.block k (Nat.lt_of_lt_of_le hk hk09.size) (by simp; omega)⟩
    obtain ⟨p, o, c, q1, q2, q3, q4, q5⟩ := hfr
    exact ⟨hk09.below.trans hB9, p, o, c, q1, q2, Nat.le_trans hk09.size q3, q4, q5⟩
end Go.Proofs.YtjhndmlpcpbaoaaDoor
