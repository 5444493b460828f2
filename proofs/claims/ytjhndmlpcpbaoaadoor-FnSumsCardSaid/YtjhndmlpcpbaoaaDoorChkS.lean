/- The library's checkSum (s), called: the sum's first bytes are those of the hash in plain words. -/
import Derived.Test.YtjhndmlpcpbaoaaDoorBlkS
import Derived.Test.YtjhndmlpcpbaoaaDoorSegCS
namespace Go.Proofs.YtjhndmlpcpbaoaaDoor
open Go Go.Sx Go.Proofs Go.RowKit
theorem body25 : Tryd.f25.body = some (bodyOf Tryd.f25) := by kernel_rfl
/-- What checkSum owes. -/
def KSS (w : World) (ps os z : Nat) (H : Nat → Int) (v : Value) (w' : World) : Prop :=
  v = .tuple #[] ∧ Kp w.heap.size [ps] w w' ∧ WordsAt w' ps os .u8 z (byt 4 H)

set_option maxRecDepth 100000
set_option maxHeartbeats 1000000 in
theorem chkTail6S (w : World) (G : Glob w) (ps os z : Nat) (hz : z = 32) (n1 : 5 ≤ ps) (H h d : Nat → Int) (a' b' : Int)
    (hstep : ∀ k, k < 8 → (stepS (flagS true) d ⟨h, a', b'⟩).h k = H k) (ρ : Env) (b0 : ρ.b 0 = ps) (o0 : ρ.o 0 = os) (i5 : ρ.i 5 = (z : Int)) (hh : ∀ k, k < 8 → ρ.i (64 + k) = h k)
    (ha : ρ.i 256 = a') (hb : ρ.i 257 = b') (hd : ∀ x, x < 64 → ρ.i (128 + x) = d x) :
    Go.Sx.Reach Tryd.prog cpS w (callQ Tryd.prog Tryd.f25 (KSS w ps os z H)) (oT0S 1 6 false).stk (sU0S 6) ρ := by
  have hz64 : z ≤ 64 := by omega
  obtain ⟨u1, u2, u3⟩ := and3_iff ckUS
  obtain ⟨u16, u17, _⟩ := and3_iff u1
  obtain ⟨u26, u27, _⟩ := and3_iff u2
  obtain ⟨u36, u37, _⟩ := and3_iff u3
  obtain ⟨en1, en2⟩ := ent_some u16
  have hvs := svsEq_eq u26
  have hdst := dstB_eq u36
  have hek : (eUS 6).k = (eUS 6).k := by first | rfl | exact ckUkS
  obtain ⟨V1, V2, _⟩ := and3_iff (ckV_allS hz)
  obtain ⟨v1, v2, v3⟩ := and3_iff V1
  refine reach_calls (cfg := cpS) (cfgE_ok _ _) rfl rfl rfl en1 fun a w1 hF hM => ?_
  show Calls Tryd.prog (eUS 6).f ((eUS 6).vs.map (SV.den ρ)).toArray w1 (fun en w' => ∃ v, en = .returned v ∧ wpK Tryd.prog _ (eUS 6).k .normal (a.put (eUS 6).dst v) w')
  have en2 : (eUS 6).f = 35 := en2
  rw [hvs, en2, hdst, hek]
  have hk1 := hM.kp (xs := [ps]) fun j hj => by
    have hj : j ∈ [0] := hj
    rw [List.mem_singleton] at hj
    subst hj
    rw [b0]; simp
  have G1 := G.kp hk1 G.size (by simpa using n1)
  have lg := G.size
  have g4 : (sU0S 6).M.get 4 = some ⟨ws .u32 64 8, 2⟩ := by kernel_rfl
  have g5 : (sU0S 6).M.get 5 = some ⟨ws .u32 256 2, 2⟩ := by kernel_rfl
  have gj : (sU0S 6).M.get 6 = some ⟨ws .u8 128 64, 2⟩ := by kernel_rfl
  have k4 : w.heap.size ≤ ρ.b 4 := by
    rcases hM.kind 4 _ g4 (by show 2 ≠ 0; omega) with hc | hc
    · have hc : 4 ∈ [0] := hc
      simp at hc
    · exact hc
  have k5 : w.heap.size ≤ ρ.b 5 := by
    rcases hM.kind 5 _ g5 (by show 2 ≠ 0; omega) with hc | hc
    · have hc : 5 ∈ [0] := hc
      simp at hc
    · exact hc
  have kj : w.heap.size ≤ ρ.b 6 := by
    rcases hM.kind 6 _ gj (by show 2 ≠ 0; omega) with hc | hc
    · have hc : 6 ∈ [0] := hc
      simp at hc
    · exact hc
  have d45 : ρ.b 4 ≠ ρ.b 5 := hM.sep 4 _ 5 _ g4 g5 (by show 2 ≠ 0; omega) (by omega)
  have dj4 : ρ.b 6 ≠ ρ.b 4 := hM.sep 6 _ 4 _ gj g4 (by show 2 ≠ 0; omega) (by omega)
  have dj5 : ρ.b 6 ≠ ρ.b 5 := hM.sep 6 _ 5 _ gj g5 (by show 2 ≠ 0; omega) (by omega)
  have hH := wordsAt_of hM g4 (by omega) (g := h) hh
  have hC := wordsAt_of hM g5 (by omega) (g := fun k => if k = 0 then a' else b') fun i hi => by
    rcases (show i = 0 ∨ i = 1 by omega) with rfl | rfl
    · rw [if_pos rfl]; exact ha
    · rw [if_neg (by omega)]; exact hb
  have hn := hbkS w1 (ρ.b 4) (ρ.o 4) (ρ.b 5) (ρ.o 5) (ρ.b 6) (ρ.o 6) 64 ⟨h, a', b'⟩ (flagS true) d 1 G1 hH hC (fun k hk => by
      rw [(hM.cell 6 _ gj).2.2 k _ (ws_get (by omega))]
      simp only [FV.den, E.den]
      rw [hd k (by omega)]) (hM.lt 6 _ gj) (by omega) (by omega) (by omega) d45 dj4 dj5 (by omega) (by omega)
  have hargs : (List.map SV.f [.ptr 4 0, .ptr 5 0, .int .u32 (.n 4294967295), .sl 6 0 (.n 64) (.l 64)]).map (SV.den ρ) =
      [.pointer (some ⟨ρ.b 4, ρ.o 4, none⟩), .pointer (some ⟨ρ.b 5, ρ.o 5, none⟩), .int .u32 (flagS true), .slice (some ⟨ρ.b 6, ρ.o 6, none⟩) (64 * 1) 64] := by rfl
  rw [hargs]
  refine Calls.mono hn fun en w2 ⟨he, hk2, hH2, hC2⟩ => ⟨_, he, ?_⟩
  have hst1 : ∀ k, k < 8 → (staS ⟨h, a', b'⟩ (flagS true) d 1).h k = H k := fun k hk => by
    rw [← hstep k hk]
    show FS h _ _ _ (fun x => d (64 * 0 + x)) k = FS h _ _ _ d k
    exact F_congrS (fun _ _ => rfl) (fun x _ => by rw [Nat.mul_zero, Nat.zero_add]) _ _ _ k hk
  have hag := ρ.extF_ag 8 512 fun x => H (x - 512)
  have hi5 : (ρ.extF 512 fun x => H (x - 512)).i 5 = (z : Int) := by rw [hag.i 5 (by omega)]; exact i5
  have hiH : ∀ k, k < 8 → (ρ.extF 512 fun x => H (x - 512)).i (512 + k) = H k := fun k _ => by
    show (if 512 + k < 512 then _ else H (512 + k - 512)) = _
    rw [if_neg (by omega), show 512 + k - 512 = k by omega]
  have mem0 : ∀ j W, (ofL ((4, (⟨[], 2⟩ : Win)) :: (5, ⟨[], 2⟩) :: mlPS)).get j = some W → (j, W) ∈ ((4, (⟨[], 2⟩ : Win)) :: (5, ⟨[], 2⟩) :: mlPS) := fun j W hj => ofL_get (by kernel_rfl) hj
  have hM2 : MemOK cpS w (ρ.extF 512 fun x => H (x - 512)) (mkSt Tryd.f25.ntmps 8 0 [] mlVS []) w2 := by
    refine MemOK.after (ml0 := (4, ⟨[], 2⟩) :: (5, ⟨[], 2⟩) :: mlPS) (xs := [ρ.b 4, ρ.b 5]) _ hM (by kernel_rfl) (by kernel_rfl) (by kernel_rfl) ?_ (by kernel_rfl) hk2 ?_ ?_
    · intro p hp
      simp only [mlPS, List.mem_cons, List.not_mem_nil, or_false] at hp
      rcases hp with rfl | rfl | rfl | rfl | rfl
      · exact ⟨_, g4, rfl, .inr rfl⟩
      · exact ⟨_, g5, rfl, .inr rfl⟩
      · exact ⟨⟨zeros .u8 32, 1⟩, by kernel_rfl, rfl, .inl rfl⟩
      · exact ⟨⟨lits .u32 ivLS, 0⟩, by kernel_rfl, rfl, .inl rfl⟩
      · exact ⟨⟨[], 0⟩, by kernel_rfl, rfl, .inl rfl⟩
    · intro x hx
      simp only [List.mem_cons, List.not_mem_nil, or_false] at hx
      rcases hx with rfl | rfl
      · exact ⟨4, ⟨[], 2⟩, by kernel_rfl, by show 2 ≠ 0; omega, rfl⟩
      · exact ⟨5, ⟨[], 2⟩, by kernel_rfl, by show 2 ≠ 0; omega, rfl⟩
    · intro p hp
      have sep0 : ∀ j W, (sU0S 6).M.get j = some W → j ≠ 4 → j ≠ 5 → ρ.b j ∉ [ρ.b 4, ρ.b 5] := fun j W hj h4 h5 hm => by
        simp only [List.mem_cons, List.not_mem_nil, or_false] at hm
        rcases hm with hm | hm
        · exact hM.sep 4 _ j W g4 hj (by show 2 ≠ 0; omega) (Ne.symm h4) hm.symm
        · exact hM.sep 5 _ j W g5 hj (by show 2 ≠ 0; omega) (Ne.symm h5) hm.symm
      simp only [mlVS, mlPS, List.mem_cons, List.not_mem_nil, or_false] at hp
      rcases hp with rfl | rfl | rfl | rfl
      · refine ⟨⟨[], 2⟩, by kernel_rfl, rfl, .inr ⟨ws_ok _ _ _ _ _, ?_, ?_⟩⟩
        · show ∀ (i : Nat) x, (ws .u32 512 8)[i]? = some x → w2.cell? ⟨ρ.b 4, ρ.o 4 + i, none⟩ = some (x.den _)
          exact ws_cell hH2.cell fun j hj => by rw [hiH j hj]; exact (hst1 j hj).symm
        · intro i hi
          exact hH2.free i (by have hi : i < (ws .u32 512 8).length := hi; rwa [ws_len] at hi)
      · exact ⟨⟨zeros .u8 32, 1⟩, by kernel_rfl, rfl, .inl ⟨rfl, sep0 0 ⟨zeros .u8 32, 1⟩ (by kernel_rfl) (by omega) (by omega)⟩⟩
      · exact ⟨⟨lits .u32 ivLS, 0⟩, by kernel_rfl, rfl, .inl ⟨rfl, sep0 2 ⟨lits .u32 ivLS, 0⟩ (by kernel_rfl) (by omega) (by omega)⟩⟩
      · exact ⟨⟨[], 0⟩, by kernel_rfl, rfl, .inl ⟨rfl, sep0 3 ⟨[], 0⟩ (by kernel_rfl) (by omega) (by omega)⟩⟩
  clear mem0
  refine reach_back (s1 := mkSt Tryd.f25.ntmps 8 0 [] mlVS []) (s2 := mkSt Tryd.f25.ntmps 8 0 ((62, .tup []) :: flUS 6) mlVS []) (fl := flUS 6) (n := 8) (m := 512) (N := Tryd.f25.ntmps) (v := .tup []) (d := some 62) [] 0 hF hag (by kernel_rfl) (by kernel_rfl) (by kernel_rfl) hM2 (fun _ hp => by cases hp) (by kernel_rfl) ?_
  refine Reach.redo (fl' := flVS z) (by rfl) ?_ ?_
  · intro p hp
    simp only [flVS, List.mem_cons, List.not_mem_nil, or_false] at hp
    rcases hp with rfl | rfl | rfl | rfl
    · exact ⟨.f (.ptr 0 0), by kernel_rfl, fun h => ⟨h, rfl⟩⟩
    · exact ⟨.f (.int .i64 (.v 5)), by kernel_rfl, fun _ => ⟨trivial, by simp only [SV.den, FV.den, E.den]; rw [hi5]⟩⟩
    · exact ⟨.f (.ptr 4 0), by kernel_rfl, fun h => ⟨h, rfl⟩⟩
    · exact ⟨.f (.ptr 5 0), by kernel_rfl, fun h => ⟨h, rfl⟩⟩
  · refine reach_ret (cfgW_ok _ _) false 5000 (v := .tup []) v1 (Obs.nil v2 _) (tupNil_eq v3) fun ρ6 w6 hle6 hM6 _ => ?_
    have hag6 : Ag 8 512 ρ ρ6 := hag.trans (Ag.ofLe hle6)
    refine ⟨rfl, hM6.kp fun j hj => ?_, fun k hk => ?_, fun k hk => ?_⟩
    · have hj : j ∈ [0] := hj
      rw [List.mem_singleton] at hj
      subst hj
      rw [hag6.b 0 (by omega), b0]; simp
    · obtain ⟨W, hW, hT⟩ := winB_eq V2
      have e1 : W.cells[k]? = some (.int .u8 (.cv .u8 (E.pshr (.v (512 + k / 4)) (8 * (k % 4))))) := by
        have : (W.cells.take z)[k]? = some (.int .u8 (.cv .u8 (E.pshr (.v (512 + k / 4)) (8 * (k % 4))))) := by
          rw [hT]
          exact ints_get (byE_get hk)
        rwa [List.getElem?_take, if_pos hk] at this
      have := (hM6.cell 0 W hW).2.2 k _ e1
      rw [hag6.b 0 (by omega), b0, hag6.o 0 (by omega), o0] at this
      rw [this]
      simp only [FV.den]
      rw [byE_den]
      have hk8 : k / 4 < 8 := by omega
      have e2 : (fun j => ρ6.i (512 + j)) (k / 4) = H (k / 4) := by
        show ρ6.i (512 + k / 4) = _
        rw [hle6.i]
        exact hiH _ hk8
      unfold byt
      rw [e2]
    · obtain ⟨W, hW, hT⟩ := winB_eq V2
      have hl : k < W.cells.length := by
        have h1 : (W.cells.take z).length = z := by rw [hT, ints_len]; simp [byE]
        rw [List.length_take] at h1
        omega
      have := hM6.free 0 W hW (by rw [wr1_eq (ckW_allS hz) hW]; omega) k hl
      rw [hag6.b 0 (by omega), b0, hag6.o 0 (by omega), o0] at this
      exact this
set_option maxHeartbeats 1000000 in
theorem chkTail7S (w : World) (G : Glob w) (ps os z : Nat) (hz : z = 32) (n1 : 5 ≤ ps) (H h d : Nat → Int) (a' b' : Int)
    (hstep : ∀ k, k < 8 → (stepS (flagS true) d ⟨h, a', b'⟩).h k = H k) (ρ : Env) (b0 : ρ.b 0 = ps) (o0 : ρ.o 0 = os) (i5 : ρ.i 5 = (z : Int)) (hh : ∀ k, k < 8 → ρ.i (64 + k) = h k)
    (ha : ρ.i 256 = a') (hb : ρ.i 257 = b') (hd : ∀ x, x < 64 → ρ.i (128 + x) = d x) :
    Go.Sx.Reach Tryd.prog cpS w (callQ Tryd.prog Tryd.f25 (KSS w ps os z H)) (oT0S 1 6 false).stk (sU0S 7) ρ := by
  have hz64 : z ≤ 64 := by omega
  obtain ⟨u1, u2, u3⟩ := and3_iff ckUS
  obtain ⟨u16, u17, _⟩ := and3_iff u1
  obtain ⟨u26, u27, _⟩ := and3_iff u2
  obtain ⟨u36, u37, _⟩ := and3_iff u3
  obtain ⟨en1, en2⟩ := ent_some u17
  have hvs := svsEq_eq u27
  have hdst := dstB_eq u37
  have hek : (eUS 7).k = (eUS 6).k := by first | rfl | exact ckUkS
  obtain ⟨V1, V2, _⟩ := and3_iff (ckV_allS hz)
  obtain ⟨v1, v2, v3⟩ := and3_iff V1
  refine reach_calls (cfg := cpS) (cfgE_ok _ _) rfl rfl rfl en1 fun a w1 hF hM => ?_
  show Calls Tryd.prog (eUS 7).f ((eUS 7).vs.map (SV.den ρ)).toArray w1 (fun en w' => ∃ v, en = .returned v ∧ wpK Tryd.prog _ (eUS 7).k .normal (a.put (eUS 7).dst v) w')
  have en2 : (eUS 7).f = 35 := en2
  rw [hvs, en2, hdst, hek]
  have hk1 := hM.kp (xs := [ps]) fun j hj => by
    have hj : j ∈ [0] := hj
    rw [List.mem_singleton] at hj
    subst hj
    rw [b0]; simp
  have G1 := G.kp hk1 G.size (by simpa using n1)
  have lg := G.size
  have g4 : (sU0S 7).M.get 4 = some ⟨ws .u32 64 8, 2⟩ := by kernel_rfl
  have g5 : (sU0S 7).M.get 5 = some ⟨ws .u32 256 2, 2⟩ := by kernel_rfl
  have gj : (sU0S 7).M.get 7 = some ⟨ws .u8 128 64, 2⟩ := by kernel_rfl
  have k4 : w.heap.size ≤ ρ.b 4 := by
    rcases hM.kind 4 _ g4 (by show 2 ≠ 0; omega) with hc | hc
    · have hc : 4 ∈ [0] := hc
      simp at hc
    · exact hc
  have k5 : w.heap.size ≤ ρ.b 5 := by
    rcases hM.kind 5 _ g5 (by show 2 ≠ 0; omega) with hc | hc
    · have hc : 5 ∈ [0] := hc
      simp at hc
    · exact hc
  have kj : w.heap.size ≤ ρ.b 7 := by
    rcases hM.kind 7 _ gj (by show 2 ≠ 0; omega) with hc | hc
    · have hc : 7 ∈ [0] := hc
      simp at hc
    · exact hc
  have d45 : ρ.b 4 ≠ ρ.b 5 := hM.sep 4 _ 5 _ g4 g5 (by show 2 ≠ 0; omega) (by omega)
  have dj4 : ρ.b 7 ≠ ρ.b 4 := hM.sep 7 _ 4 _ gj g4 (by show 2 ≠ 0; omega) (by omega)
  have dj5 : ρ.b 7 ≠ ρ.b 5 := hM.sep 7 _ 5 _ gj g5 (by show 2 ≠ 0; omega) (by omega)
  have hH := wordsAt_of hM g4 (by omega) (g := h) hh
  have hC := wordsAt_of hM g5 (by omega) (g := fun k => if k = 0 then a' else b') fun i hi => by
    rcases (show i = 0 ∨ i = 1 by omega) with rfl | rfl
    · rw [if_pos rfl]; exact ha
    · rw [if_neg (by omega)]; exact hb
  have hn := hbkS w1 (ρ.b 4) (ρ.o 4) (ρ.b 5) (ρ.o 5) (ρ.b 7) (ρ.o 7) 64 ⟨h, a', b'⟩ (flagS true) d 1 G1 hH hC (fun k hk => by
      rw [(hM.cell 7 _ gj).2.2 k _ (ws_get (by omega))]
      simp only [FV.den, E.den]
      rw [hd k (by omega)]) (hM.lt 7 _ gj) (by omega) (by omega) (by omega) d45 dj4 dj5 (by omega) (by omega)
  have hargs : (List.map SV.f [.ptr 4 0, .ptr 5 0, .int .u32 (.n 4294967295), .sl 7 0 (.n 64) (.l 64)]).map (SV.den ρ) =
      [.pointer (some ⟨ρ.b 4, ρ.o 4, none⟩), .pointer (some ⟨ρ.b 5, ρ.o 5, none⟩), .int .u32 (flagS true), .slice (some ⟨ρ.b 7, ρ.o 7, none⟩) (64 * 1) 64] := by rfl
  rw [hargs]
  refine Calls.mono hn fun en w2 ⟨he, hk2, hH2, hC2⟩ => ⟨_, he, ?_⟩
  have hst1 : ∀ k, k < 8 → (staS ⟨h, a', b'⟩ (flagS true) d 1).h k = H k := fun k hk => by
    rw [← hstep k hk]
    show FS h _ _ _ (fun x => d (64 * 0 + x)) k = FS h _ _ _ d k
    exact F_congrS (fun _ _ => rfl) (fun x _ => by rw [Nat.mul_zero, Nat.zero_add]) _ _ _ k hk
  have hag := ρ.extF_ag 8 512 fun x => H (x - 512)
  have hi5 : (ρ.extF 512 fun x => H (x - 512)).i 5 = (z : Int) := by rw [hag.i 5 (by omega)]; exact i5
  have hiH : ∀ k, k < 8 → (ρ.extF 512 fun x => H (x - 512)).i (512 + k) = H k := fun k _ => by
    show (if 512 + k < 512 then _ else H (512 + k - 512)) = _
    rw [if_neg (by omega), show 512 + k - 512 = k by omega]
  have mem0 : ∀ j W, (ofL ((4, (⟨[], 2⟩ : Win)) :: (5, ⟨[], 2⟩) :: mlPS)).get j = some W → (j, W) ∈ ((4, (⟨[], 2⟩ : Win)) :: (5, ⟨[], 2⟩) :: mlPS) := fun j W hj => ofL_get (by kernel_rfl) hj
  have hM2 : MemOK cpS w (ρ.extF 512 fun x => H (x - 512)) (mkSt Tryd.f25.ntmps 8 0 [] mlVS []) w2 := by
    refine MemOK.after (ml0 := (4, ⟨[], 2⟩) :: (5, ⟨[], 2⟩) :: mlPS) (xs := [ρ.b 4, ρ.b 5]) _ hM (by kernel_rfl) (by kernel_rfl) (by kernel_rfl) ?_ (by kernel_rfl) hk2 ?_ ?_
    · intro p hp
      simp only [mlPS, List.mem_cons, List.not_mem_nil, or_false] at hp
      rcases hp with rfl | rfl | rfl | rfl | rfl
      · exact ⟨_, g4, rfl, .inr rfl⟩
      · exact ⟨_, g5, rfl, .inr rfl⟩
      · exact ⟨⟨zeros .u8 32, 1⟩, by kernel_rfl, rfl, .inl rfl⟩
      · exact ⟨⟨lits .u32 ivLS, 0⟩, by kernel_rfl, rfl, .inl rfl⟩
      · exact ⟨⟨[], 0⟩, by kernel_rfl, rfl, .inl rfl⟩
    · intro x hx
      simp only [List.mem_cons, List.not_mem_nil, or_false] at hx
      rcases hx with rfl | rfl
      · exact ⟨4, ⟨[], 2⟩, by kernel_rfl, by show 2 ≠ 0; omega, rfl⟩
      · exact ⟨5, ⟨[], 2⟩, by kernel_rfl, by show 2 ≠ 0; omega, rfl⟩
    · intro p hp
      have sep0 : ∀ j W, (sU0S 7).M.get j = some W → j ≠ 4 → j ≠ 5 → ρ.b j ∉ [ρ.b 4, ρ.b 5] := fun j W hj h4 h5 hm => by
        simp only [List.mem_cons, List.not_mem_nil, or_false] at hm
        rcases hm with hm | hm
        · exact hM.sep 4 _ j W g4 hj (by show 2 ≠ 0; omega) (Ne.symm h4) hm.symm
        · exact hM.sep 5 _ j W g5 hj (by show 2 ≠ 0; omega) (Ne.symm h5) hm.symm
      simp only [mlVS, mlPS, List.mem_cons, List.not_mem_nil, or_false] at hp
      rcases hp with rfl | rfl | rfl | rfl
      · refine ⟨⟨[], 2⟩, by kernel_rfl, rfl, .inr ⟨ws_ok _ _ _ _ _, ?_, ?_⟩⟩
        · show ∀ (i : Nat) x, (ws .u32 512 8)[i]? = some x → w2.cell? ⟨ρ.b 4, ρ.o 4 + i, none⟩ = some (x.den _)
          exact ws_cell hH2.cell fun j hj => by rw [hiH j hj]; exact (hst1 j hj).symm
        · intro i hi
          exact hH2.free i (by have hi : i < (ws .u32 512 8).length := hi; rwa [ws_len] at hi)
      · exact ⟨⟨zeros .u8 32, 1⟩, by kernel_rfl, rfl, .inl ⟨rfl, sep0 0 ⟨zeros .u8 32, 1⟩ (by kernel_rfl) (by omega) (by omega)⟩⟩
      · exact ⟨⟨lits .u32 ivLS, 0⟩, by kernel_rfl, rfl, .inl ⟨rfl, sep0 2 ⟨lits .u32 ivLS, 0⟩ (by kernel_rfl) (by omega) (by omega)⟩⟩
      · exact ⟨⟨[], 0⟩, by kernel_rfl, rfl, .inl ⟨rfl, sep0 3 ⟨[], 0⟩ (by kernel_rfl) (by omega) (by omega)⟩⟩
  clear mem0
  refine reach_back (s1 := mkSt Tryd.f25.ntmps 8 0 [] mlVS []) (s2 := mkSt Tryd.f25.ntmps 8 0 ((62, .tup []) :: flUS 7) mlVS []) (fl := flUS 7) (n := 8) (m := 512) (N := Tryd.f25.ntmps) (v := .tup []) (d := some 62) [] 0 hF hag (by kernel_rfl) (by kernel_rfl) (by kernel_rfl) hM2 (fun _ hp => by cases hp) (by kernel_rfl) ?_
  refine Reach.redo (fl' := flVS z) (by rfl) ?_ ?_
  · intro p hp
    simp only [flVS, List.mem_cons, List.not_mem_nil, or_false] at hp
    rcases hp with rfl | rfl | rfl | rfl
    · exact ⟨.f (.ptr 0 0), by kernel_rfl, fun h => ⟨h, rfl⟩⟩
    · exact ⟨.f (.int .i64 (.v 5)), by kernel_rfl, fun _ => ⟨trivial, by simp only [SV.den, FV.den, E.den]; rw [hi5]⟩⟩
    · exact ⟨.f (.ptr 4 0), by kernel_rfl, fun h => ⟨h, rfl⟩⟩
    · exact ⟨.f (.ptr 5 0), by kernel_rfl, fun h => ⟨h, rfl⟩⟩
  · refine reach_ret (cfgW_ok _ _) false 5000 (v := .tup []) v1 (Obs.nil v2 _) (tupNil_eq v3) fun ρ6 w6 hle6 hM6 _ => ?_
    have hag6 : Ag 8 512 ρ ρ6 := hag.trans (Ag.ofLe hle6)
    refine ⟨rfl, hM6.kp fun j hj => ?_, fun k hk => ?_, fun k hk => ?_⟩
    · have hj : j ∈ [0] := hj
      rw [List.mem_singleton] at hj
      subst hj
      rw [hag6.b 0 (by omega), b0]; simp
    · obtain ⟨W, hW, hT⟩ := winB_eq V2
      have e1 : W.cells[k]? = some (.int .u8 (.cv .u8 (E.pshr (.v (512 + k / 4)) (8 * (k % 4))))) := by
        have : (W.cells.take z)[k]? = some (.int .u8 (.cv .u8 (E.pshr (.v (512 + k / 4)) (8 * (k % 4))))) := by
          rw [hT]
          exact ints_get (byE_get hk)
        rwa [List.getElem?_take, if_pos hk] at this
      have := (hM6.cell 0 W hW).2.2 k _ e1
      rw [hag6.b 0 (by omega), b0, hag6.o 0 (by omega), o0] at this
      rw [this]
      simp only [FV.den]
      rw [byE_den]
      have hk8 : k / 4 < 8 := by omega
      have e2 : (fun j => ρ6.i (512 + j)) (k / 4) = H (k / 4) := by
        show ρ6.i (512 + k / 4) = _
        rw [hle6.i]
        exact hiH _ hk8
      unfold byt
      rw [e2]
    · obtain ⟨W, hW, hT⟩ := winB_eq V2
      have hl : k < W.cells.length := by
        have h1 : (W.cells.take z).length = z := by rw [hT, ints_len]; simp [byE]
        rw [List.length_take] at h1
        omega
      have := hM6.free 0 W hW (by rw [wr1_eq (ckW_allS hz) hW]; omega) k hl
      rw [hag6.b 0 (by omega), b0, hag6.o 0 (by omega), o0] at this
      exact this

theorem u22S : Tryd.prog.underlying 22 = some (.slice 5) := by kernel_rfl
theorem s5S : (Tryd.prog.info? 5).map (·.size) = some 1 := by kernel_rfl
set_option maxHeartbeats 1000000 in
theorem chkCopy16S (w : World) (G : Glob w) (ps os pd od z r : Nat) (hz : z = 32) (n1 : 5 ≤ ps) (hr : r ≤ 64) (H h dd : Nat → Int) (a b : Int)
    (hst : ∀ a' b' rem : Int, rem = (64 : Int) - (r : Int) → a' = binI .sub .u32 a rem → (b' = if a < rem then binI .sub .u32 b 1 else b) → ∀ d : Nat → Int, (∀ x, x < 64 → d x = pad r dd x) → ∀ k, k < 8 → (stepS (flagS true) d ⟨h, a', b'⟩).h k = H k)
    (ρ : Env) (b0 : ρ.b 0 = ps) (o0 : ρ.o 0 = os) (i5 : ρ.i 5 = (z : Int)) (hh : ∀ k, k < 8 → ρ.i (64 + k) = h k) (ha : ρ.i 72 = a) (hb : ρ.i 73 = b) (i81 : ρ.i 81 = (r : Int)) (bd : ρ.b 1 = pd) (hod : ρ.o 1 = od)
    (hD : ∀ k, k < r → w.cell? ⟨pd, od + k, none⟩ = some (.int .u8 (dd k))) (ld : pd < w.heap.size) (n2 : pd ≠ ps) {stk : List It} (hstk : standOf stk (sSS 1 6) = some stSS) :
    Go.Sx.Reach Tryd.prog cpS w (callQ Tryd.prog Tryd.f25 (KSS w ps os z H)) stk (sSS 1 6) ρ := by
  refine reach_op hstk fun a1 w1 hF hM => ?_
  obtain ⟨ty, pos, after, guard, hG⟩ := ckGS
  have hk1 := hM.kp (xs := [ps]) fun j hj => by
    have hj : j ∈ [0] := hj
    rw [List.mem_singleton] at hj
    subst hj
    rw [b0]; simp
  have gj : (sSS 1 6).M.get 6 = some ⟨zeros .u8 64, 2⟩ := by kernel_rfl
  have kj : w.heap.size ≤ ρ.b 6 := by
    rcases hM.kind 6 _ gj (by show 2 ≠ 0; omega) with hc | hc
    · have hc : 6 ∈ [0] := hc
      simp at hc
    · exact hc
  have z0 : ∀ k, k < 64 → w1.cell? ⟨ρ.b 6, ρ.o 6 + k, none⟩ = some (.int .u8 0) := fun k hk => (hM.cell 6 _ gj).2.2 k _ (zeros_get hk)
  have f0 : ∀ k, k < 64 → w1.frozen? ⟨ρ.b 6, ρ.o 6 + k, none⟩ = false := fun k hk => hM.free 6 _ gj (by show 2 ≠ 0; omega) k (by rw [zeros_len]; exact hk)
  have e42 : a1.eval (.tmp 42) = .slice (some ⟨ρ.b 6, ρ.o 6 + 0, none⟩) 64 64 := (hF.get 42 (.f (.sl 6 0 (.n 64) (.l 64))) (by kernel_rfl)).2
  have e43 : a1.eval (.tmp 43) = .slice (some ⟨ρ.b 1, ρ.o 1 + 0, none⟩) (ρ.i 81).toNat (ρ.c 1 - 0) := (hF.get 43 (.f (.sl 1 0 (.v 81) (.v 1 0))) (by kernel_rfl)).2
  rw [i81, Int.toNat_natCast] at e43
  have hlen : (words .u8 r dd).length = r := by simp [words]
  have hcopy := run_copy_cells (P := Tryd.prog) w1 22 22 ty 5 (ρ.b 6) (ρ.o 6 + 0) 64 64 ⟨ρ.b 1, ρ.o 1 + 0, none⟩ r (ρ.c 1 - 0) (words .u8 r dd) u22S s5S (by rw [hlen]; exact (Nat.min_eq_left hr).symm)
    (fun j v hv => by
      have hj : j < r := by have := (List.getElem?_eq_some_iff.1 hv).1; rwa [hlen] at this
      rw [words_get hj] at hv
      have hv := Option.some.inj hv
      subst hv
      rw [Addr.add_lit, bd, hod, hk1.cell ld (by simpa using n2), Nat.add_zero]
      exact hD j hj)
    (fun j hj => by rw [hlen] at hj; rw [Nat.add_zero, z0 j (by omega)]; rfl) (fun j hj => by rw [hlen] at hj; rw [Nat.add_zero]; exact f0 j (by omega))
    (fun v hv => by
      simp only [words, List.mem_map] at hv
      obtain ⟨k, _, rfl⟩ := hv
      rfl)
  refine ⟨_, _, by rw [hG]; exact run_copy_op (by rw [e42, e43]; exact hcopy), ?_⟩
  have hdst : stSS.o.dst = some 44 := by rw [hG]
  rw [hdst]
  have hag := ρ.extF_ag 8 128 fun x => pad r dd (x - 128)
  have hby : ∀ k, k < 64 → (ρ.extF 128 fun x => pad r dd (x - 128)).i (128 + k) = pad r dd k := fun k _ => by
    show (if 128 + k < 128 then _ else pad r dd (128 + k - 128)) = _
    rw [if_neg (by omega), show 128 + k - 128 = k by omega]
  have hM2 : MemOK cpS w (ρ.extF 128 fun x => pad r dd (x - 128)) (mkSt Tryd.f25.ntmps 8 0 [] (mlT0S 6) []) (w1.setCells (ρ.b 6) (ρ.o 6 + 0) (words .u8 r dd)) := by
    refine MemOK.after (ml0 := (6, ⟨[], 2⟩) :: mlQS) (xs := [ρ.b 6]) _ hM (by kernel_rfl) (by kernel_rfl) (by kernel_rfl) ?_ (by kernel_rfl) (Kp.setCells _ _ _ _ _) ?_ ?_
    · intro p hp
      simp only [mlQS, mlPS, List.mem_cons, List.not_mem_nil, or_false] at hp
      rcases hp with rfl | rfl | rfl | rfl | rfl | rfl
      · exact ⟨_, gj, rfl, .inr rfl⟩
      · exact ⟨⟨ws .u32 64 8, 2⟩, by kernel_rfl, rfl, .inl rfl⟩
      · exact ⟨⟨ws .u32 72 2, 2⟩, by kernel_rfl, rfl, .inl rfl⟩
      · exact ⟨⟨zeros .u8 32, 1⟩, by kernel_rfl, rfl, .inl rfl⟩
      · exact ⟨⟨lits .u32 ivLS, 0⟩, by kernel_rfl, rfl, .inl rfl⟩
      · exact ⟨⟨[], 0⟩, by kernel_rfl, rfl, .inl rfl⟩
    · intro x hx
      rw [List.mem_singleton] at hx
      subst hx
      exact ⟨6, ⟨[], 2⟩, by kernel_rfl, by show 2 ≠ 0; omega, rfl⟩
    · intro p hp
      have sep0 : ∀ j W, (sSS 1 6).M.get j = some W → j ≠ 6 → ρ.b j ∉ [ρ.b 6] := fun j W hj hne hm => by
        rw [List.mem_singleton] at hm
        exact hM.sep 6 _ j W gj hj (by show 2 ≠ 0; omega) (Ne.symm hne) hm.symm
      simp only [mlT0S, mlQS, mlPS, List.mem_cons, List.not_mem_nil, or_false] at hp
      rcases hp with rfl | rfl | rfl | rfl | rfl | rfl
      · refine ⟨⟨[], 2⟩, by kernel_rfl, rfl, .inr ⟨ws_ok _ _ _ _ _, ?_, ?_⟩⟩
        · show ∀ (i : Nat) x, (ws .u8 128 64)[i]? = some x → World.cell? _ ⟨ρ.b 6, ρ.o 6 + i, none⟩ = some (x.den _)
          refine ws_cell (g := pad r dd) (fun j hj => ?_) hby
          unfold pad
          by_cases hjr : j < r
          · rw [if_pos hjr]
            have := World.cell?_setCells_in (ρ.b 6) (words .u8 r dd) (ρ.o 6 + 0) w1 (fun j hj => by rw [hlen] at hj; rw [Nat.add_zero, z0 j (by omega)]; rfl) j (by rw [hlen]; exact hjr)
            rw [Nat.add_zero] at this ⊢
            rw [this]
            have h2 := words_get (t := .u8) (g := dd) hjr
            rw [List.getElem?_eq_getElem (by rw [hlen]; exact hjr)] at h2
            exact h2
          · rw [if_neg hjr, World.cell?_setCells_out (ρ.b 6) (words .u8 r dd) (ρ.o 6 + 0) w1 ⟨ρ.b 6, ρ.o 6 + j, none⟩ (fun _ _ => .inr (by rw [hlen]; show _ ≤ ρ.o 6 + j; omega))]
            exact z0 j hj
        · intro i hi
          have hi : i < (ws .u8 128 64).length := hi
          rw [ws_len] at hi
          show World.frozen? _ ⟨ρ.b 6, ρ.o 6 + i, none⟩ = false
          rw [World.frozen?_setCells]
          exact f0 i hi
      · exact ⟨⟨ws .u32 64 8, 2⟩, by kernel_rfl, rfl, .inl ⟨rfl, sep0 4 ⟨ws .u32 64 8, 2⟩ (by kernel_rfl) (by omega)⟩⟩
      · exact ⟨⟨ws .u32 72 2, 2⟩, by kernel_rfl, rfl, .inl ⟨rfl, sep0 5 ⟨ws .u32 72 2, 2⟩ (by kernel_rfl) (by omega)⟩⟩
      · exact ⟨⟨zeros .u8 32, 1⟩, by kernel_rfl, rfl, .inl ⟨rfl, sep0 0 ⟨zeros .u8 32, 1⟩ (by kernel_rfl) (by omega)⟩⟩
      · exact ⟨⟨lits .u32 ivLS, 0⟩, by kernel_rfl, rfl, .inl ⟨rfl, sep0 2 ⟨lits .u32 ivLS, 0⟩ (by kernel_rfl) (by omega)⟩⟩
      · exact ⟨⟨[], 0⟩, by kernel_rfl, rfl, .inl ⟨rfl, sep0 3 ⟨[], 0⟩ (by kernel_rfl) (by omega)⟩⟩
  obtain ⟨e, he⟩ : ∃ e : Bool, e = decide (a < (64 : Int) - (r : Int)) := ⟨_, rfl⟩
  have hval : goInt (words .u8 r dd).length = (SV.f (.int .i64 (.v 81))).den (ρ.extF 128 fun x => pad r dd (x - 128)) := by
    simp only [SV.den, FV.den, E.den]
    rw [hag.i 81 (by omega), i81, hlen]; rfl
  rw [hval]
  refine reach_back (s1 := mkSt Tryd.f25.ntmps 8 0 [] (mlT0S 6) []) (s2 := mkSt Tryd.f25.ntmps 8 0 (flT0S 1 6) (mlT0S 6) [e]) (fl := flSS 1 6) (n := 8) (m := 128) (N := Tryd.f25.ntmps) (v := .f (.int .i64 (.v 81))) (d := some 44) [e] 0 hF hag (by kernel_rfl) (by kernel_rfl) (by kernel_rfl) hM2 trivial (by rfl) ?_
  obtain ⟨t1, t2, t3⟩ := and3_iff ckTaS
  obtain ⟨t4, t5, _⟩ := and3_iff t3
  have T : ckTS 1 6 e = true := by
    cases e
    · first | exact t1 | exact t4
    · first | exact t2 | exact t5
  obtain ⟨T1, T2, _⟩ := and3_iff T
  obtain ⟨T3, T4, T5⟩ := and3_iff T1
  have hrem : IntKind.u32.wrap ((64 : Int) - (ρ.extF 128 fun x => pad r dd (x - 128)).i 81) = (64 : Int) - (r : Int) := by
    rw [hag.i 81 (by omega), i81]
    exact wrap_inS (by omega) (by omega)
  have hob : Obs (ρ.extF 128 fun x => pad r dd (x - 128)) (oT0S 1 6 e).st.obs := by
    rw [obsB_eq T4]
    intro ob hob
    simp only [obUS, List.mem_cons, List.not_mem_nil, or_false] at hob
    rcases hob with rfl | rfl
    · show decide ((ρ.extF 128 fun x => pad r dd (x - 128)).i 72 < IntKind.u32.wrap ((64 : Int) - (ρ.extF 128 fun x => pad r dd (x - 128)).i 81)) = e
      rw [hrem, hag.i 72 (by omega), ha, he]
    · show -9223372036854775808 ≤ (64 : Int) - (ρ.extF 128 fun x => pad r dd (x - 128)).i 81 ∧ (64 : Int) - (ρ.extF 128 fun x => pad r dd (x - 128)).i 81 ≤ 9223372036854775807
      rw [hag.i 81 (by omega), i81]; omega
  refine reach_go (cfgW_ok _ _) false 2000 hob fun ρ2 hle2 => OutR.stop T3 ?_
  have hstk2 : (oT0S 1 6 e).stk = (oT0S 1 6 false).stk := by
    cases e
    · first | rfl | exact ckS2S
    · first | exact ckS1S | exact ckS3S
  show Go.Sx.Reach Tryd.prog cpS w _ (oT0S 1 6 e).stk (oT0S 1 6 e).st ρ2
  rw [hstk2]
  refine reach_cut 0 [] T2 ?_
  show Go.Sx.Reach Tryd.prog cpS w _ _ (sU0S 6) _
  have hes := elsB_eq T5
  have hag2 : Ag 8 256 (ρ.extF 128 fun x => pad r dd (x - 128)) (ρ2.ext 256 (eWin (oT0S 1 6 e).st 5)) := (Ag.ofLe hle2).trans (Ag.ofExt 8 ρ2 _)
  have h256 : (ρ2.ext 256 (eWin (oT0S 1 6 e).st 5)).i 256 = binI .sub .u32 a ((64 : Int) - (r : Int)) := by
    rw [hes]
    have := ρ2.ext_new (m := 256) (es := esUS e) (k := 0) (e := .bin .sub .u32 (.v 72) (.cv .u32 (.sub (.n 64) (.v 81)))) rfl
    rw [this]
    show binI .sub .u32 (ρ2.i 72) (IntKind.u32.wrap ((64 : Int) - ρ2.i 81)) = _
    rw [hle2.i, hrem, hag.i 72 (by omega), ha]
  have h257 : (ρ2.ext 256 (eWin (oT0S 1 6 e).st 5)).i 257 = if a < (64 : Int) - (r : Int) then binI .sub .u32 b 1 else b := by
    rw [hes]
    have := ρ2.ext_new (m := 256) (es := esUS e) (k := 1) (e := hiES e) rfl
    rw [this]
    by_cases hlt : a < (64 : Int) - (r : Int)
    · rw [if_pos hlt, he, decide_eq_true hlt]
      show binI .sub .u32 (ρ2.i 73) 1 = _
      rw [hle2.i, hag.i 73 (by omega), hb]
    · rw [if_neg hlt, he, decide_eq_false hlt]
      show ρ2.i 73 = _
      rw [hle2.i, hag.i 73 (by omega), hb]
  refine chkTail6S w G ps os z hz n1 H h (fun x => pad r dd x) (binI .sub .u32 a ((64 : Int) - (r : Int))) (if a < (64 : Int) - (r : Int) then binI .sub .u32 b 1 else b) (hst _ _ _ rfl rfl rfl _ fun _ _ => rfl) _ ?_ ?_ ?_ ?_ h256 h257 ?_
  · rw [hag2.b 0 (by omega), hag.b 0 (by omega)]; exact b0
  · rw [hag2.o 0 (by omega), hag.o 0 (by omega)]; exact o0
  · rw [hag2.i 5 (by omega), hag.i 5 (by omega)]; exact i5
  · intro k hk
    rw [hag2.i _ (by omega), hag.i _ (by omega)]; exact hh k hk
  · intro x hx
    rw [hag2.i _ (by omega)]; exact hby x hx
set_option maxHeartbeats 1000000 in
theorem chkCopy67S (w : World) (G : Glob w) (ps os pd od z r : Nat) (hz : z = 32) (n1 : 5 ≤ ps) (hr : r ≤ 64) (H h dd : Nat → Int) (a b : Int)
    (hst : ∀ a' b' rem : Int, rem = (64 : Int) - (r : Int) → a' = binI .sub .u32 a rem → (b' = if a < rem then binI .sub .u32 b 1 else b) → ∀ d : Nat → Int, (∀ x, x < 64 → d x = pad r dd x) → ∀ k, k < 8 → (stepS (flagS true) d ⟨h, a', b'⟩).h k = H k)
    (ρ : Env) (b0 : ρ.b 0 = ps) (o0 : ρ.o 0 = os) (i5 : ρ.i 5 = (z : Int)) (hh : ∀ k, k < 8 → ρ.i (64 + k) = h k) (ha : ρ.i 72 = a) (hb : ρ.i 73 = b) (i81 : ρ.i 81 = (r : Int)) (bd : ρ.b 6 = pd) (hod : ρ.o 6 = od)
    (hD : ∀ k, k < r → w.cell? ⟨pd, od + k, none⟩ = some (.int .u8 (dd k))) (ld : pd < w.heap.size) (n2 : pd ≠ ps) {stk : List It} (hstk : standOf stk (sSS 6 7) = some stSS) :
    Go.Sx.Reach Tryd.prog cpS w (callQ Tryd.prog Tryd.f25 (KSS w ps os z H)) stk (sSS 6 7) ρ := by
  refine reach_op hstk fun a1 w1 hF hM => ?_
  obtain ⟨ty, pos, after, guard, hG⟩ := ckGS
  have hk1 := hM.kp (xs := [ps]) fun j hj => by
    have hj : j ∈ [0] := hj
    rw [List.mem_singleton] at hj
    subst hj
    rw [b0]; simp
  have gj : (sSS 6 7).M.get 7 = some ⟨zeros .u8 64, 2⟩ := by kernel_rfl
  have kj : w.heap.size ≤ ρ.b 7 := by
    rcases hM.kind 7 _ gj (by show 2 ≠ 0; omega) with hc | hc
    · have hc : 7 ∈ [0] := hc
      simp at hc
    · exact hc
  have z0 : ∀ k, k < 64 → w1.cell? ⟨ρ.b 7, ρ.o 7 + k, none⟩ = some (.int .u8 0) := fun k hk => (hM.cell 7 _ gj).2.2 k _ (zeros_get hk)
  have f0 : ∀ k, k < 64 → w1.frozen? ⟨ρ.b 7, ρ.o 7 + k, none⟩ = false := fun k hk => hM.free 7 _ gj (by show 2 ≠ 0; omega) k (by rw [zeros_len]; exact hk)
  have e42 : a1.eval (.tmp 42) = .slice (some ⟨ρ.b 7, ρ.o 7 + 0, none⟩) 64 64 := (hF.get 42 (.f (.sl 7 0 (.n 64) (.l 64))) (by kernel_rfl)).2
  have e43 : a1.eval (.tmp 43) = .slice (some ⟨ρ.b 6, ρ.o 6 + 0, none⟩) (ρ.i 81).toNat (ρ.c 6 - 0) := (hF.get 43 (.f (.sl 6 0 (.v 81) (.v 6 0))) (by kernel_rfl)).2
  rw [i81, Int.toNat_natCast] at e43
  have hlen : (words .u8 r dd).length = r := by simp [words]
  have hcopy := run_copy_cells (P := Tryd.prog) w1 22 22 ty 5 (ρ.b 7) (ρ.o 7 + 0) 64 64 ⟨ρ.b 6, ρ.o 6 + 0, none⟩ r (ρ.c 6 - 0) (words .u8 r dd) u22S s5S (by rw [hlen]; exact (Nat.min_eq_left hr).symm)
    (fun j v hv => by
      have hj : j < r := by have := (List.getElem?_eq_some_iff.1 hv).1; rwa [hlen] at this
      rw [words_get hj] at hv
      have hv := Option.some.inj hv
      subst hv
      rw [Addr.add_lit, bd, hod, hk1.cell ld (by simpa using n2), Nat.add_zero]
      exact hD j hj)
    (fun j hj => by rw [hlen] at hj; rw [Nat.add_zero, z0 j (by omega)]; rfl) (fun j hj => by rw [hlen] at hj; rw [Nat.add_zero]; exact f0 j (by omega))
    (fun v hv => by
      simp only [words, List.mem_map] at hv
      obtain ⟨k, _, rfl⟩ := hv
      rfl)
  refine ⟨_, _, by rw [hG]; exact run_copy_op (by rw [e42, e43]; exact hcopy), ?_⟩
  have hdst : stSS.o.dst = some 44 := by rw [hG]
  rw [hdst]
  have hag := ρ.extF_ag 8 128 fun x => pad r dd (x - 128)
  have hby : ∀ k, k < 64 → (ρ.extF 128 fun x => pad r dd (x - 128)).i (128 + k) = pad r dd k := fun k _ => by
    show (if 128 + k < 128 then _ else pad r dd (128 + k - 128)) = _
    rw [if_neg (by omega), show 128 + k - 128 = k by omega]
  have hM2 : MemOK cpS w (ρ.extF 128 fun x => pad r dd (x - 128)) (mkSt Tryd.f25.ntmps 8 0 [] (mlT0S 7) []) (w1.setCells (ρ.b 7) (ρ.o 7 + 0) (words .u8 r dd)) := by
    refine MemOK.after (ml0 := (7, ⟨[], 2⟩) :: mlQS) (xs := [ρ.b 7]) _ hM (by kernel_rfl) (by kernel_rfl) (by kernel_rfl) ?_ (by kernel_rfl) (Kp.setCells _ _ _ _ _) ?_ ?_
    · intro p hp
      simp only [mlQS, mlPS, List.mem_cons, List.not_mem_nil, or_false] at hp
      rcases hp with rfl | rfl | rfl | rfl | rfl | rfl
      · exact ⟨_, gj, rfl, .inr rfl⟩
      · exact ⟨⟨ws .u32 64 8, 2⟩, by kernel_rfl, rfl, .inl rfl⟩
      · exact ⟨⟨ws .u32 72 2, 2⟩, by kernel_rfl, rfl, .inl rfl⟩
      · exact ⟨⟨zeros .u8 32, 1⟩, by kernel_rfl, rfl, .inl rfl⟩
      · exact ⟨⟨lits .u32 ivLS, 0⟩, by kernel_rfl, rfl, .inl rfl⟩
      · exact ⟨⟨[], 0⟩, by kernel_rfl, rfl, .inl rfl⟩
    · intro x hx
      rw [List.mem_singleton] at hx
      subst hx
      exact ⟨7, ⟨[], 2⟩, by kernel_rfl, by show 2 ≠ 0; omega, rfl⟩
    · intro p hp
      have sep0 : ∀ j W, (sSS 6 7).M.get j = some W → j ≠ 7 → ρ.b j ∉ [ρ.b 7] := fun j W hj hne hm => by
        rw [List.mem_singleton] at hm
        exact hM.sep 7 _ j W gj hj (by show 2 ≠ 0; omega) (Ne.symm hne) hm.symm
      simp only [mlT0S, mlQS, mlPS, List.mem_cons, List.not_mem_nil, or_false] at hp
      rcases hp with rfl | rfl | rfl | rfl | rfl | rfl
      · refine ⟨⟨[], 2⟩, by kernel_rfl, rfl, .inr ⟨ws_ok _ _ _ _ _, ?_, ?_⟩⟩
        · show ∀ (i : Nat) x, (ws .u8 128 64)[i]? = some x → World.cell? _ ⟨ρ.b 7, ρ.o 7 + i, none⟩ = some (x.den _)
          refine ws_cell (g := pad r dd) (fun j hj => ?_) hby
          unfold pad
          by_cases hjr : j < r
          · rw [if_pos hjr]
            have := World.cell?_setCells_in (ρ.b 7) (words .u8 r dd) (ρ.o 7 + 0) w1 (fun j hj => by rw [hlen] at hj; rw [Nat.add_zero, z0 j (by omega)]; rfl) j (by rw [hlen]; exact hjr)
            rw [Nat.add_zero] at this ⊢
            rw [this]
            have h2 := words_get (t := .u8) (g := dd) hjr
            rw [List.getElem?_eq_getElem (by rw [hlen]; exact hjr)] at h2
            exact h2
          · rw [if_neg hjr, World.cell?_setCells_out (ρ.b 7) (words .u8 r dd) (ρ.o 7 + 0) w1 ⟨ρ.b 7, ρ.o 7 + j, none⟩ (fun _ _ => .inr (by rw [hlen]; show _ ≤ ρ.o 7 + j; omega))]
            exact z0 j hj
        · intro i hi
          have hi : i < (ws .u8 128 64).length := hi
          rw [ws_len] at hi
          show World.frozen? _ ⟨ρ.b 7, ρ.o 7 + i, none⟩ = false
          rw [World.frozen?_setCells]
          exact f0 i hi
      · exact ⟨⟨ws .u32 64 8, 2⟩, by kernel_rfl, rfl, .inl ⟨rfl, sep0 4 ⟨ws .u32 64 8, 2⟩ (by kernel_rfl) (by omega)⟩⟩
      · exact ⟨⟨ws .u32 72 2, 2⟩, by kernel_rfl, rfl, .inl ⟨rfl, sep0 5 ⟨ws .u32 72 2, 2⟩ (by kernel_rfl) (by omega)⟩⟩
      · exact ⟨⟨zeros .u8 32, 1⟩, by kernel_rfl, rfl, .inl ⟨rfl, sep0 0 ⟨zeros .u8 32, 1⟩ (by kernel_rfl) (by omega)⟩⟩
      · exact ⟨⟨lits .u32 ivLS, 0⟩, by kernel_rfl, rfl, .inl ⟨rfl, sep0 2 ⟨lits .u32 ivLS, 0⟩ (by kernel_rfl) (by omega)⟩⟩
      · exact ⟨⟨[], 0⟩, by kernel_rfl, rfl, .inl ⟨rfl, sep0 3 ⟨[], 0⟩ (by kernel_rfl) (by omega)⟩⟩
  obtain ⟨e, he⟩ : ∃ e : Bool, e = decide (a < (64 : Int) - (r : Int)) := ⟨_, rfl⟩
  have hval : goInt (words .u8 r dd).length = (SV.f (.int .i64 (.v 81))).den (ρ.extF 128 fun x => pad r dd (x - 128)) := by
    simp only [SV.den, FV.den, E.den]
    rw [hag.i 81 (by omega), i81, hlen]; rfl
  rw [hval]
  refine reach_back (s1 := mkSt Tryd.f25.ntmps 8 0 [] (mlT0S 7) []) (s2 := mkSt Tryd.f25.ntmps 8 0 (flT0S 6 7) (mlT0S 7) [e]) (fl := flSS 6 7) (n := 8) (m := 128) (N := Tryd.f25.ntmps) (v := .f (.int .i64 (.v 81))) (d := some 44) [e] 0 hF hag (by kernel_rfl) (by kernel_rfl) (by kernel_rfl) hM2 trivial (by rfl) ?_
  obtain ⟨t1, t2, t3⟩ := and3_iff ckTaS
  obtain ⟨t4, t5, _⟩ := and3_iff t3
  have T : ckTS 6 7 e = true := by
    cases e
    · first | exact t1 | exact t4
    · first | exact t2 | exact t5
  obtain ⟨T1, T2, _⟩ := and3_iff T
  obtain ⟨T3, T4, T5⟩ := and3_iff T1
  have hrem : IntKind.u32.wrap ((64 : Int) - (ρ.extF 128 fun x => pad r dd (x - 128)).i 81) = (64 : Int) - (r : Int) := by
    rw [hag.i 81 (by omega), i81]
    exact wrap_inS (by omega) (by omega)
  have hob : Obs (ρ.extF 128 fun x => pad r dd (x - 128)) (oT0S 6 7 e).st.obs := by
    rw [obsB_eq T4]
    intro ob hob
    simp only [obUS, List.mem_cons, List.not_mem_nil, or_false] at hob
    rcases hob with rfl | rfl
    · show decide ((ρ.extF 128 fun x => pad r dd (x - 128)).i 72 < IntKind.u32.wrap ((64 : Int) - (ρ.extF 128 fun x => pad r dd (x - 128)).i 81)) = e
      rw [hrem, hag.i 72 (by omega), ha, he]
    · show -9223372036854775808 ≤ (64 : Int) - (ρ.extF 128 fun x => pad r dd (x - 128)).i 81 ∧ (64 : Int) - (ρ.extF 128 fun x => pad r dd (x - 128)).i 81 ≤ 9223372036854775807
      rw [hag.i 81 (by omega), i81]; omega
  refine reach_go (cfgW_ok _ _) false 2000 hob fun ρ2 hle2 => OutR.stop T3 ?_
  have hstk2 : (oT0S 6 7 e).stk = (oT0S 1 6 false).stk := by
    cases e
    · first | rfl | exact ckS2S
    · first | exact ckS1S | exact ckS3S
  show Go.Sx.Reach Tryd.prog cpS w _ (oT0S 6 7 e).stk (oT0S 6 7 e).st ρ2
  rw [hstk2]
  refine reach_cut 0 [] T2 ?_
  show Go.Sx.Reach Tryd.prog cpS w _ _ (sU0S 7) _
  have hes := elsB_eq T5
  have hag2 : Ag 8 256 (ρ.extF 128 fun x => pad r dd (x - 128)) (ρ2.ext 256 (eWin (oT0S 6 7 e).st 5)) := (Ag.ofLe hle2).trans (Ag.ofExt 8 ρ2 _)
  have h256 : (ρ2.ext 256 (eWin (oT0S 6 7 e).st 5)).i 256 = binI .sub .u32 a ((64 : Int) - (r : Int)) := by
    rw [hes]
    have := ρ2.ext_new (m := 256) (es := esUS e) (k := 0) (e := .bin .sub .u32 (.v 72) (.cv .u32 (.sub (.n 64) (.v 81)))) rfl
    rw [this]
    show binI .sub .u32 (ρ2.i 72) (IntKind.u32.wrap ((64 : Int) - ρ2.i 81)) = _
    rw [hle2.i, hrem, hag.i 72 (by omega), ha]
  have h257 : (ρ2.ext 256 (eWin (oT0S 6 7 e).st 5)).i 257 = if a < (64 : Int) - (r : Int) then binI .sub .u32 b 1 else b := by
    rw [hes]
    have := ρ2.ext_new (m := 256) (es := esUS e) (k := 1) (e := hiES e) rfl
    rw [this]
    by_cases hlt : a < (64 : Int) - (r : Int)
    · rw [if_pos hlt, he, decide_eq_true hlt]
      show binI .sub .u32 (ρ2.i 73) 1 = _
      rw [hle2.i, hag.i 73 (by omega), hb]
    · rw [if_neg hlt, he, decide_eq_false hlt]
      show ρ2.i 73 = _
      rw [hle2.i, hag.i 73 (by omega), hb]
  refine chkTail7S w G ps os z hz n1 H h (fun x => pad r dd x) (binI .sub .u32 a ((64 : Int) - (r : Int))) (if a < (64 : Int) - (r : Int) then binI .sub .u32 b 1 else b) (hst _ _ _ rfl rfl rfl _ fun _ _ => rfl) _ ?_ ?_ ?_ ?_ h256 h257 ?_
  · rw [hag2.b 0 (by omega), hag.b 0 (by omega)]; exact b0
  · rw [hag2.o 0 (by omega), hag.o 0 (by omega)]; exact o0
  · rw [hag2.i 5 (by omega), hag.i 5 (by omega)]; exact i5
  · intro k hk
    rw [hag2.i _ (by omega), hag.i _ (by omega)]; exact hh k hk
  · intro x hx
    rw [hag2.i _ (by omega)]; exact hby x hx
end Go.Proofs.YtjhndmlpcpbaoaaDoor

/- The library's checkSum (s), called, whatever the data's length. -/
namespace Go.Proofs.YtjhndmlpcpbaoaaDoor
open Go Go.Sx Go.Proofs Go.RowKit
/-- The words at the start. -/
def h0S (z : Int) (k : Nat) : Int := (esIS.getD k (.n 0)).den fun _ => z
def nES (e : Bool) : E := match e with | true => nTS | false => nFS
theorem esI_lenS : esIS.length = 8 := by rfl
theorem h0_atS {ρ : Env} {z : Int} (h : ρ.i 5 = z) (k : Nat) (hk : k < 8) : (esIS.getD k (.n 0)).den ρ.i = h0S z k := by
  subst h
  match k, hk with
  | 0, _ => rfl
  | 1, _ => rfl
  | 2, _ => rfl
  | 3, _ => rfl
  | 4, _ => rfl
  | 5, _ => rfl
  | 6, _ => rfl
  | 7, _ => rfl
  | k + 8, hk => exact absurd hk (by omega)
theorem es_atS {T : List E} {k : Nat} (hk : k < 8) : (appX esIS T)[k]? = some (esIS.getD k (.n 0)) := by
  rw [appX_eq, List.getElem?_append_left (by rw [esI_lenS]; exact hk)]
  exact getD_some (by rw [esI_lenS]; exact hk)

set_option maxRecDepth 100000
/-- Where checkSum begins. -/
theorem chkInitS (w : World) (G : Glob w) (ps os : Nat) (n1 : 5 ≤ ps) (hsum : WordsAt w ps os .u8 32 fun _ => 0) (ρ : Env) (b0 : ρ.b 0 = ps) (o0 : ρ.o 0 = os) (b2 : ρ.b 2 = 2) (o2 : ρ.o 2 = 0) (b3 : ρ.b 3 = 1) (o3 : ρ.o 3 = 0)
    (fl : List (Nat × SV)) (orc : List Bool) : MemOK cpS w ρ (mkSt Tryd.f25.ntmps 4 0 fl mlPS orc) w := by
  have lg := G.size
  have lp : ps < w.heap.size := cell_lt (hsum.cell 0 (by omega))
  refine MemOK.init rfl rfl ?_ ?_ ?_ ?_ ?_ ?_
  · intro q hq
    simp only [mlPS, List.mem_cons, List.not_mem_nil, or_false] at hq
    rcases hq with rfl | rfl | rfl
    · refine ⟨by show 0 < 4; omega, zeros_ok _ _ _ _, ?_⟩
      show ∀ (i : Nat) x, (zeros .u8 32)[i]? = some x → w.cell? ⟨ρ.b 0, ρ.o 0 + i, none⟩ = some (x.den ρ)
      rw [b0, o0]
      exact zeros_cell hsum.cell
    · refine ⟨by show 2 < 4; omega, lits_ok _ _ _ _, ?_⟩
      show ∀ (i : Nat) x, (lits .u32 ivLS)[i]? = some x → w.cell? ⟨ρ.b 2, ρ.o 2 + i, none⟩ = some (x.den ρ)
      rw [b2, o2]
      exact lits_cell G.ivS
    · exact ⟨by show 3 < 4; omega, (fun _ h => by cases h), fun i x hx => by simp at hx⟩
  · intro q hq
    simp only [mlPS, List.mem_cons, List.not_mem_nil, or_false] at hq
    rcases hq with rfl | rfl | rfl
    · show ρ.b 0 < _; rw [b0]; exact lp
    · show ρ.b 2 < _; rw [b2]; omega
    · show ρ.b 3 < _; rw [b3]; omega
  · intro q hq hw
    simp only [mlPS, List.mem_cons, List.not_mem_nil, or_false] at hq
    rcases hq with rfl | rfl | rfl
    · refine ⟨by show 0 ∈ [0]; simp, fun i hi => ?_⟩
      show w.frozen? ⟨ρ.b 0, ρ.o 0 + i, none⟩ = false
      rw [b0, o0]
      exact hsum.free i (by rwa [zeros_len] at hi)
    · exact absurd rfl hw
    · exact absurd rfl hw
  · intro q hq q' hq' hw hne
    simp only [mlPS, List.mem_cons, List.not_mem_nil, or_false] at hq hq'
    rcases hq with rfl | rfl | rfl
    · rcases hq' with rfl | rfl | rfl
      · exact absurd rfl hne
      · show ρ.b 0 ≠ ρ.b 2; rw [b0, b2]; omega
      · show ρ.b 0 ≠ ρ.b 3; rw [b0, b3]; omega
    · exact absurd rfl hw
    · exact absurd rfl hw
  · intro g j hg
    have hg : (g, j) ∈ [(2, 2), (1, 3)] := hg
    simp only [List.mem_cons, Prod.mk.injEq, List.not_mem_nil, or_false] at hg
    rcases hg with ⟨rfl, rfl⟩ | ⟨rfl, rfl⟩
    · exact ⟨by omega, b2, o2⟩
    · exact ⟨by omega, b3, o3⟩
  · intro j hj
    have hj : j ∈ [0] := hj
    rw [List.mem_singleton] at hj
    omega

set_option maxHeartbeats 1000000 in
theorem chkS (w : World) (G : Glob w) (ps os pd od cap z L : Nat) (D : Nat → Int) (hz : z = 32) (n1 : 5 ≤ ps) (n2 : pd ≠ ps) (n3 : 5 ≤ pd) (ld : pd < w.heap.size) (hsum : WordsAt w ps os .u8 32 fun _ => 0)
    (hD : ∀ k, k < L → w.cell? ⟨pd, od + k, none⟩ = some (.int .u8 (D k))) (hcap : L ≤ cap) (hL : L ≤ 2147483647) :
    Calls Tryd.prog 25 #[.pointer (some ⟨ps, os, none⟩), .int .i64 z, .slice (some ⟨pd, od, none⟩) L cap] w fun e w' => ∃ v, e = .returned v ∧ KSS w ps os z (hsS (h0S z) L D (nbkS L)) v w' := by
  have g0 := nbk_posS L
  have g1 := nbk_geS L
  have g2 := nbk_leS L
  have lg := G.size
  obtain ⟨ρ, hρ⟩ : ∃ ρ : Env, ρ = { i := fun x => match x with | 0 => (L : Int) | _ => (z : Int), b := fun j => match j with | 0 => ps | 1 => pd | 2 => 2 | _ => 1,
                                    o := fun j => match j with | 0 => os | 1 => od | _ => 0, c := fun _ => cap, r := fun _ => undef } := ⟨_, rfl⟩
  have r0 : ρ.i 0 = (L : Int) := by subst hρ; rfl
  have r5 : ρ.i 5 = (z : Int) := by subst hρ; rfl
  have b0 : ρ.b 0 = ps := by subst hρ; rfl
  have b1 : ρ.b 1 = pd := by subst hρ; rfl
  have b2 : ρ.b 2 = 2 := by subst hρ; rfl
  have b3 : ρ.b 3 = 1 := by subst hρ; rfl
  have o0 : ρ.o 0 = os := by subst hρ; rfl
  have o1 : ρ.o 1 = od := by subst hρ; rfl
  have o2 : ρ.o 2 = 0 := by subst hρ; rfl
  have o3 : ρ.o 3 = 0 := by subst hρ; rfl
  have c1 : ρ.c 1 = cap := by subst hρ; rfl
  clear hρ
  have hargs : vsPS.map (SV.den ρ) = [.pointer (some ⟨ps, os, none⟩), .int .i64 z, .slice (some ⟨pd, od, none⟩) L cap] := by
    simp only [vsPS, List.map_cons, List.map_nil, SV.den, FV.den, E.den, Cp.den, b0, b1, o0, o1, c1, r0, r5, Int.toNat_natCast]
    rfl
  have hM := chkInitS w G ps os n1 hsum ρ b0 o0 b2 o2 b3 o3 (en 0 vsPS) []
  have key := fun K => calls_reach (P := Tryd.prog) (cfg := cpS) (w := w) (ρ := ρ) (f := 25) (fn := Tryd.f25) (b := bodyOf Tryd.f25) Tryd.func25 body25 vsPS (nx := 4) (thr := 0) (ml := mlPS) (orc := [])
    (by kernel_rfl) (by kernel_rfl) (fun v hv => by
      simp only [vsPS, List.mem_cons, List.not_mem_nil, or_false] at hv
      rcases hv with rfl | rfl | rfl
      · show 0 < 4; omega
      · trivial
      · refine ⟨by omega, by show 1 < 4; omega, ?_, ?_⟩
        · simp only [E.den, r0]; omega
        · simp only [E.den, Cp.den, r0, c1]; omega) (K := K) hM
  rw [hargs] at key
  refine key _ ?_
  rcases Nat.lt_or_ge 64 L with hbig | hsmall
  · -- more than a block
    obtain ⟨e, he⟩ : ∃ e : Bool, e = decide (L = 64 * (L / 64)) := ⟨_, rfl⟩
    obtain ⟨q, hq⟩ : ∃ q, q = nbkS L - 1 := ⟨_, rfl⟩
    have hq1 : q = if e then L / 64 - 1 else L / 64 := by
      rw [hq, he]
      unfold nbkS
      rw [if_neg (by omega)]
      by_cases hh : L = 64 * (L / 64)
      · rw [decide_eq_true hh, if_pos rfl]; omega
      · rw [decide_eq_false hh, if_neg (by simp)]; omega
    have hnF : nFS.den ρ.i = ((64 * (L / 64) : Nat) : Int) := by
      show binI .andNot .i64 (ρ.i 0) 63 = _
      rw [r0]
      exact andNot_low L 6 (by omega) hL
    obtain ⟨A1, A2, A3⟩ := and3_iff ckAS
    obtain ⟨a1, a2, a3⟩ := and3_iff A1
    obtain ⟨a4, a5, _⟩ := and3_iff A2
    obtain ⟨a6, a7, a8⟩ := and3_iff A3
    obtain ⟨a9, a10, _⟩ := and3_iff a6
    obtain ⟨a11, a12, _⟩ := and3_iff a7
    obtain ⟨a13, a14, _⟩ := and3_iff a8
    refine reach_orc [true, e] ?_
    have P1 : (oPS e).stops = true ∧ (oPS e).stk = (oPS false).stk ∧ cutB cpS (oPS e).st Tryd.f25.ntmps 6 (flQS (.v 80)) mlQS 64 (esQS e) = true ∧ esQS e = esQ0S (nES e) := by
      cases e
      · exact ⟨a1, rfl, a9, elsB_eq a11⟩
      · exact ⟨a2, ckASS, a10, elsB_eq a12⟩
    have hnE : (nES e).den ρ.i = ((64 * q : Nat) : Int) := by
      cases e
      · show nFS.den ρ.i = _
        rw [hnF, hq1, if_neg (by simp)]
      · show nFS.den ρ.i + (-64) = _
        rw [hnF, hq1, if_pos rfl]
        have : 1 ≤ L / 64 := by omega
        omega
    have hqL : 64 * q ≤ L := by rw [hq]; exact g1
    have hqlt : 64 * q < L := by
      rw [hq]
      refine nbk_gtS ?_
      unfold nbkS
      rw [if_neg (by omega)]
      omega
    have hob : Obs ρ (oPS e).st.obs := by
      cases e
      · rw [obsB_eq a4]
        intro ob hob
        simp only [obFS, List.mem_cons, List.not_mem_nil, or_false] at hob
        rcases hob with rfl | rfl | rfl | rfl
        · show decide (0 ≤ nFS.den ρ.i) = true
          rw [hnF]; exact decide_eq_true (by omega)
        · show decide (nFS.den ρ.i ≤ ρ.i 0) = true
          rw [hnF, r0]; exact decide_eq_true (by omega)
        · show (ρ.i 0 == nFS.den ρ.i) = false
          rw [hnF, r0]
          have : ¬ L = 64 * (L / 64) := of_decide_eq_false he.symm
          have : ¬ ((L : Int) = ((64 * (L / 64) : Nat) : Int)) := by omega
          simpa using this
        · show decide (ρ.i 0 > 64) = true
          rw [r0]; exact decide_eq_true (by omega)
      · rw [obsB_eq a5]
        have hnT : nTS.den ρ.i = ((64 * q : Nat) : Int) := hnE
        intro ob hob
        simp only [obTS, List.mem_cons, List.not_mem_nil, or_false] at hob
        rcases hob with rfl | rfl | rfl | rfl | rfl
        · show decide (0 ≤ nTS.den ρ.i) = true
          rw [hnT]; exact decide_eq_true (by omega)
        · show decide (nTS.den ρ.i ≤ ρ.i 0) = true
          rw [hnT, r0]; exact decide_eq_true (by omega)
        · show -9223372036854775808 ≤ nTS.den ρ.i ∧ nTS.den ρ.i ≤ 9223372036854775807
          rw [hnT]; omega
        · show (ρ.i 0 == nFS.den ρ.i) = true
          rw [hnF, r0]
          have : L = 64 * (L / 64) := of_decide_eq_true he.symm
          have : ((L : Int) = ((64 * (L / 64) : Nat) : Int)) := by omega
          simpa using this
        · show decide (ρ.i 0 > 64) = true
          rw [r0]; exact decide_eq_true (by omega)
    refine reach_go (cfgW_ok _ _) false 2000 hob fun ρ1 hle1 => OutR.stop P1.1 ?_
    show Go.Sx.Reach Tryd.prog cpS w _ (oPS e).stk (oPS e).st ρ1
    rw [P1.2.1]
    refine reach_cut 0 [] P1.2.2.1 ?_
    show Go.Sx.Reach Tryd.prog cpS w _ _ sQS _
    rw [P1.2.2.2]
    have hag1 : Ag 4 64 ρ (ρ1.ext 64 (esQ0S (nES e))) := (Ag.ofLe hle1).trans (Ag.ofExt 4 ρ1 _)
    have hh1 : ∀ k, k < 8 → (ρ1.ext 64 (esQ0S (nES e))).i (64 + k) = h0S z k := fun k hk => by
      rw [ρ1.ext_new (m := 64) (es := esQ0S (nES e)) (es_atS (T := appX (zs 8) [nES e]) hk)]
      exact h0_atS (by rw [hle1.i]; exact r5) k hk
    have h72 : (ρ1.ext 64 (esQ0S (nES e))).i 72 = 0 := by
      have := ρ1.ext_new (m := 64) (es := esQ0S (nES e)) (k := 8) (e := .n 0) rfl
      rw [this]; rfl
    have h73 : (ρ1.ext 64 (esQ0S (nES e))).i 73 = 0 := by
      have := ρ1.ext_new (m := 64) (es := esQ0S (nES e)) (k := 9) (e := .n 0) rfl
      rw [this]; rfl
    have h80 : (ρ1.ext 64 (esQ0S (nES e))).i 80 = ((64 * q : Nat) : Int) := by
      have := ρ1.ext_new (m := 64) (es := esQ0S (nES e)) (k := 16) (e := nES e) (by cases e <;> rfl)
      rw [this, hle1.i]
      exact hnE
    generalize ρ1.ext 64 (esQ0S (nES e)) = ρ2 at hag1 hh1 h72 h73 h80
    -- the full blocks
    obtain ⟨en1, en2⟩ := ent_some a3
    have hvs := svsEq_eq a13
    have hdst := dstB_eq a14
    refine reach_calls (cfg := cpS) (cfgE_ok _ _) rfl rfl rfl en1 fun a w1 hF1 hM1 => ?_
    show Calls Tryd.prog eQS.f (eQS.vs.map (SV.den ρ2)).toArray w1 (fun en w' => ∃ v, en = .returned v ∧ wpK Tryd.prog _ eQS.k .normal (a.put eQS.dst v) w')
    have en2 : eQS.f = 35 := en2
    rw [hvs, en2, hdst]
    have B2 : ∀ j, j < 4 → ρ2.b j = ρ.b j := fun j hj => hag1.b j hj
    have O2 : ∀ j, j < 4 → ρ2.o j = ρ.o j := fun j hj => hag1.o j hj
    have hk1 := hM1.kp (xs := [ps]) fun j hj => by
      have hj : j ∈ [0] := hj
      rw [List.mem_singleton] at hj
      subst hj
      rw [B2 0 (by omega), b0]; simp
    have G1 := G.kp hk1 G.size (by simpa using n1)
    have g4 : sQS.M.get 4 = some ⟨ws .u32 64 8, 2⟩ := by kernel_rfl
    have g5 : sQS.M.get 5 = some ⟨ws .u32 72 2, 2⟩ := by kernel_rfl
    have k4 : w.heap.size ≤ ρ2.b 4 := by
      rcases hM1.kind 4 _ g4 (by show 2 ≠ 0; omega) with hc | hc
      · have hc : 4 ∈ [0] := hc
        simp at hc
      · exact hc
    have k5 : w.heap.size ≤ ρ2.b 5 := by
      rcases hM1.kind 5 _ g5 (by show 2 ≠ 0; omega) with hc | hc
      · have hc : 5 ∈ [0] := hc
        simp at hc
      · exact hc
    have d45 : ρ2.b 4 ≠ ρ2.b 5 := hM1.sep 4 _ 5 _ g4 g5 (by show 2 ≠ 0; omega) (by omega)
    have hH := wordsAt_of hM1 g4 (by omega) (g := h0S z) hh1
    have hC := wordsAt_of hM1 g5 (by omega) (g := fun k => if k = 0 then (0 : Int) else 0) fun i hi => by
      rcases (show i = 0 ∨ i = 1 by omega) with rfl | rfl
      · rw [if_pos rfl]; exact h72
      · rw [if_neg (by omega)]; exact h73
    have hn := hbkS w1 (ρ2.b 4) (ρ2.o 4) (ρ2.b 5) (ρ2.o 5) pd od cap ⟨h0S z, 0, 0⟩ 0 D q G1 hH hC (fun k hk => by
        rw [hk1.cell ld (by simpa using n2)]
        exact hD k (by omega)) (Nat.lt_of_lt_of_le ld hk1.size) (by omega) (by omega) n3 d45 (by omega) (by omega) (by omega) (by omega)
    have hargs2 : (List.map SV.f [.ptr 4 0, .ptr 5 0, .int .u32 (.n 0), .sl 1 0 (.v 80) (.v 1 0)]).map (SV.den ρ2) =
        [.pointer (some ⟨ρ2.b 4, ρ2.o 4, none⟩), .pointer (some ⟨ρ2.b 5, ρ2.o 5, none⟩), .int .u32 0, .slice (some ⟨pd, od, none⟩) (64 * q) cap] := by
      simp only [List.map_cons, List.map_nil, SV.den, FV.den, E.den, Cp.den, h80, B2 1 (by omega), O2 1 (by omega), b1, o1, hag1.c 1 (by omega), c1, Int.toNat_natCast]
      rfl
    rw [hargs2]
    refine Calls.mono hn fun en w2 ⟨hen, hk2, hH2, hC2⟩ => ⟨_, hen, ?_⟩
    obtain ⟨f1, f2, f3⟩ := fullS (h0S z) L D hL q (by omega)
    generalize staS ⟨h0S z, 0, 0⟩ 0 D q = S at hH2 hC2 f1 f2 f3
    have hag2 := ρ2.extF_ag 6 100 fun x => if x < 108 then S.h (x - 100) else if x = 108 then S.a else S.b
    have i100 : ∀ k, k < 8 → (ρ2.extF 100 fun x => if x < 108 then S.h (x - 100) else if x = 108 then S.a else S.b).i (100 + k) = S.h k := fun k hk => by
      show (if 100 + k < 100 then _ else if 100 + k < 108 then S.h (100 + k - 100) else _) = _
      rw [if_neg (by omega), if_pos (by omega), show 100 + k - 100 = k by omega]
    have i108 : (ρ2.extF 100 fun x => if x < 108 then S.h (x - 100) else if x = 108 then S.a else S.b).i 108 = S.a := by rfl
    have i109 : (ρ2.extF 100 fun x => if x < 108 then S.h (x - 100) else if x = 108 then S.a else S.b).i 109 = S.b := by rfl
    generalize hρ3 : (ρ2.extF 100 fun x => if x < 108 then S.h (x - 100) else if x = 108 then S.a else S.b) = ρ3 at hag2 i100 i108 i109
    have hM2 : MemOK cpS w ρ3 (mkSt Tryd.f25.ntmps 6 0 [] mlQ2S []) w2 := by
      rw [← hρ3]
      refine MemOK.after (ml0 := (4, ⟨[], 2⟩) :: (5, ⟨[], 2⟩) :: mlPS) (xs := [ρ2.b 4, ρ2.b 5]) _ hM1 (by kernel_rfl) (by kernel_rfl) (by kernel_rfl) ?_ (by kernel_rfl) hk2 ?_ ?_
      · intro p hp
        simp only [mlPS, List.mem_cons, List.not_mem_nil, or_false] at hp
        rcases hp with rfl | rfl | rfl | rfl | rfl
        · exact ⟨_, g4, rfl, .inr rfl⟩
        · exact ⟨_, g5, rfl, .inr rfl⟩
        · exact ⟨⟨zeros .u8 32, 1⟩, by kernel_rfl, rfl, .inl rfl⟩
        · exact ⟨⟨lits .u32 ivLS, 0⟩, by kernel_rfl, rfl, .inl rfl⟩
        · exact ⟨⟨[], 0⟩, by kernel_rfl, rfl, .inl rfl⟩
      · intro x hx
        simp only [List.mem_cons, List.not_mem_nil, or_false] at hx
        rcases hx with rfl | rfl
        · exact ⟨4, ⟨[], 2⟩, by kernel_rfl, by show 2 ≠ 0; omega, rfl⟩
        · exact ⟨5, ⟨[], 2⟩, by kernel_rfl, by show 2 ≠ 0; omega, rfl⟩
      · intro p hp
        rw [hρ3]
        have sep0 : ∀ j W, sQS.M.get j = some W → j ≠ 4 → j ≠ 5 → ρ2.b j ∉ [ρ2.b 4, ρ2.b 5] := fun j W hj h4 h5 hm => by
          simp only [List.mem_cons, List.not_mem_nil, or_false] at hm
          rcases hm with hm | hm
          · exact hM1.sep 4 _ j W g4 hj (by show 2 ≠ 0; omega) (Ne.symm h4) hm.symm
          · exact hM1.sep 5 _ j W g5 hj (by show 2 ≠ 0; omega) (Ne.symm h5) hm.symm
        simp only [mlQ2S, mlPS, List.mem_cons, List.not_mem_nil, or_false] at hp
        rcases hp with rfl | rfl | rfl | rfl | rfl
        · refine ⟨⟨[], 2⟩, by kernel_rfl, rfl, .inr ⟨ws_ok _ _ _ _ _, ?_, ?_⟩⟩
          · show ∀ (i : Nat) x, (ws .u32 100 8)[i]? = some x → w2.cell? ⟨ρ2.b 4, ρ2.o 4 + i, none⟩ = some (x.den _)
            exact ws_cell hH2.cell i100
          · intro i hi
            exact hH2.free i (by have hi : i < (ws .u32 100 8).length := hi; rwa [ws_len] at hi)
        · refine ⟨⟨[], 2⟩, by kernel_rfl, rfl, .inr ⟨ws_ok _ _ _ _ _, ?_, ?_⟩⟩
          · show ∀ (i : Nat) x, (ws .u32 108 2)[i]? = some x → w2.cell? ⟨ρ2.b 5, ρ2.o 5 + i, none⟩ = some (x.den _)
            refine ws_cell hC2.cell fun j hj => ?_
            rcases (show j = 0 ∨ j = 1 by omega) with rfl | rfl
            · rw [if_pos rfl]; exact i108
            · rw [if_neg (by omega)]; exact i109
          · intro i hi
            exact hC2.free i (by have hi : i < (ws .u32 108 2).length := hi; rwa [ws_len] at hi)
        · exact ⟨⟨zeros .u8 32, 1⟩, by kernel_rfl, rfl, .inl ⟨rfl, sep0 0 ⟨zeros .u8 32, 1⟩ (by kernel_rfl) (by omega) (by omega)⟩⟩
        · exact ⟨⟨lits .u32 ivLS, 0⟩, by kernel_rfl, rfl, .inl ⟨rfl, sep0 2 ⟨lits .u32 ivLS, 0⟩ (by kernel_rfl) (by omega) (by omega)⟩⟩
        · exact ⟨⟨[], 0⟩, by kernel_rfl, rfl, .inl ⟨rfl, sep0 3 ⟨[], 0⟩ (by kernel_rfl) (by omega) (by omega)⟩⟩
    refine reach_back (s1 := mkSt Tryd.f25.ntmps 6 0 [] mlQ2S []) (s2 := sQ2S) (fl := flQS (.v 80)) (n := 6) (m := 100) (N := Tryd.f25.ntmps) (v := .tup []) (d := some 38) [] 0 hF1 hag2 (by kernel_rfl) (by kernel_rfl) (by kernel_rfl) hM2 (fun _ hp => by cases hp) (by kernel_rfl) ?_
    -- the rest of the data
    refine Reach.name pd (od + 64 * q) (cap - 64 * q) ?_
    have hle4 := Env.more_le ρ3 6 pd (od + 64 * q) (cap - 64 * q) undef
    have m6b : (ρ3.more 6 pd (od + 64 * q) (cap - 64 * q) undef).b 6 = pd := by simp [Env.more]
    have m6o : (ρ3.more 6 pd (od + 64 * q) (cap - 64 * q) undef).o 6 = od + 64 * q := by simp [Env.more]
    have m6c : (ρ3.more 6 pd (od + 64 * q) (cap - 64 * q) undef).c 6 = cap - 64 * q := by simp [Env.more]
    have hi4 : (ρ3.more 6 pd (od + 64 * q) (cap - 64 * q) undef).i = ρ3.i := hle4.i
    have hb4 : ∀ j, j < 4 → (ρ3.more 6 pd (od + 64 * q) (cap - 64 * q) undef).b j = ρ.b j := fun j hj => (hle4.b j (by omega)).trans ((hag2.b j (by omega)).trans (B2 j hj))
    have ho4 : ∀ j, j < 4 → (ρ3.more 6 pd (od + 64 * q) (cap - 64 * q) undef).o j = ρ.o j := fun j hj => (hle4.o j (by omega)).trans ((hag2.o j (by omega)).trans (O2 j hj))
    have hc4 : ∀ j, j < 4 → (ρ3.more 6 pd (od + 64 * q) (cap - 64 * q) undef).c j = ρ.c j := fun j hj => (hle4.c j (by omega)).trans ((hag2.c j (by omega)).trans (hag1.c j hj))
    generalize ρ3.more 6 pd (od + 64 * q) (cap - 64 * q) undef = ρ4 at m6b m6o m6c hi4 hb4 ho4 hc4
    have j0 : ρ4.i 0 = (L : Int) := by rw [hi4, hag2.i 0 (by omega), hag1.i 0 (by omega)]; exact r0
    have j5 : ρ4.i 5 = (z : Int) := by rw [hi4, hag2.i 5 (by omega), hag1.i 5 (by omega)]; exact r5
    have j80 : ρ4.i 80 = ((64 * q : Nat) : Int) := by rw [hi4, hag2.i 80 (by omega)]; exact h80
    refine Reach.withIx [⟨1, 0, .v 0, 80, 6, 1⟩] (fun p hp => ?_) ?_
    · rw [List.mem_singleton] at hp
      subst hp
      refine ⟨by show 1 < 7; omega, by show 6 < 7; omega, ?_, ?_, ?_, ?_, ?_⟩
      · show ρ4.b 6 = ρ4.b 1
        rw [m6b, hb4 1 (by omega), b1]
      · show (ρ4.o 6 : Int) = ρ4.o 1 + (0 : Nat) + ρ4.i 80
        rw [m6o, ho4 1 (by omega), o1, j80]; omega
      · show 0 ≤ ρ4.i 80
        rw [j80]; omega
      · show ρ4.i 80 + ((1 : Nat) : Int) ≤ ρ4.i 0
        rw [j80, j0]; omega
      · show (ρ4.c 6 : Int) + (0 : Nat) + ρ4.i 80 = ρ4.c 1
        rw [m6c, hc4 1 (by omega), c1, j80]; omega
    have hcX : CfgOk Tryd.prog cpXS := ⟨tabs_ok, fns_ok, (cfgW_ok [(2, 2), (1, 3)] [0]).m⟩
    obtain ⟨R1, R2, R3⟩ := and3_iff ckRS
    refine reach_go (cfg := cpXS) hcX false 2000 (Obs.nil R2 _) fun ρ5 hle5 => OutR.stop R1 ?_
    refine Reach.noIx ?_
    show Go.Sx.Reach Tryd.prog cpS w _ oRSc.stk oRSc.st ρ5
    refine reach_cut 0 [] R3 ?_
    show Go.Sx.Reach Tryd.prog cpS w _ oRSc.stk (sSS 6 7) _
    have hag5 : Ag 7 64 ρ4 (ρ5.ext 64 esRS) := (Ag.ofLe hle5).trans (Ag.ofExt 7 ρ5 _)
    have hi5 : ρ5.i = ρ4.i := hle5.i
    have hqnb : nbkS L - 1 = q := hq.symm
    refine chkCopy67S w G ps os pd (od + 64 * q) z (L - 64 * q) hz n1 (by rw [hq]; have := Nat.mul_sub_left_distrib 64 (nbkS L) 1; omega) _ S.h (fun x => D (64 * q + x)) S.a S.b ?_ _ ?_ ?_ ?_ ?_ ?_ ?_ ?_ ?_ ?_ ?_ ld n2 ckF2S
    · intro a' b' rem hrem ha' hb' d hd
      refine lastS (h0S z) L D hL S.h d (by rw [hqnb]; exact f1) (fun x hx => ?_) S.a S.b a' b' rem (by rw [hqnb]; exact f2) f3 (by rw [hqnb, hrem]; omega) ha' hb'
      rw [hd x hx, hqnb]
      unfold pad
      by_cases hx1 : x < L - 64 * q
      · rw [if_pos hx1, if_pos (by omega)]
      · rw [if_neg hx1, if_neg (by omega)]
    · rw [hag5.b 0 (by omega), hb4 0 (by omega)]; exact b0
    · rw [hag5.o 0 (by omega), ho4 0 (by omega)]; exact o0
    · rw [hag5.i 5 (by omega)]; exact j5
    · intro k hk
      have := ρ5.ext_new (m := 64) (es := esRS) (k := k) (e := .v (100 + k)) (by
        unfold esRS
        rw [appX_eq, List.getElem?_append_left (by rw [vs_len]; exact hk)]
        exact vs_get hk)
      rw [this]
      show ρ5.i (100 + k) = _
      rw [hi5, hi4]; exact i100 k hk
    · have := ρ5.ext_new (m := 64) (es := esRS) (k := 8) (e := .v 108) rfl
      rw [this]
      show ρ5.i 108 = _
      rw [hi5, hi4]; exact i108
    · have := ρ5.ext_new (m := 64) (es := esRS) (k := 9) (e := .v 109) rfl
      rw [this]
      show ρ5.i 109 = _
      rw [hi5, hi4]; exact i109
    · have := ρ5.ext_new (m := 64) (es := esRS) (k := 17) (e := .sub (.v 0) (.v 80)) rfl
      rw [this]
      show ρ5.i 0 - ρ5.i 80 = _
      rw [hi5, j0, j80]; omega
    · rw [hag5.b 6 (by omega)]; exact m6b
    · rw [hag5.o 6 (by omega)]; exact m6o
    · intro k hk
      rw [Nat.add_assoc]
      exact hD _ (by omega)
  · -- one block
    obtain ⟨A1, A2, _⟩ := and3_iff ck1S
    obtain ⟨a1, a2, a3⟩ := and3_iff A1
    have hnb : nbkS L = 1 := by
      unfold nbkS
      split
      · rfl
      · omega
    refine reach_orc [false] ?_
    have hob : Obs ρ oP1S.st.obs := by
      rw [obsB_eq a2]
      intro ob hob
      rw [List.mem_singleton] at hob
      subst hob
      show decide (ρ.i 0 > 64) = false
      rw [r0]; exact decide_eq_false (by omega)
    refine reach_go (cfgW_ok _ _) false 2000 hob fun ρ1 hle1 => OutR.stop a1 ?_
    show Go.Sx.Reach Tryd.prog cpS w _ oP1S.stk oP1S.st ρ1
    refine reach_cut 0 [] A2 ?_
    show Go.Sx.Reach Tryd.prog cpS w _ _ (sSS 1 6) _
    rw [elsB_eq a3]
    have hag1 : Ag 4 64 ρ (ρ1.ext 64 es10S) := (Ag.ofLe hle1).trans (Ag.ofExt 4 ρ1 _)
    refine chkCopy16S w G ps os pd od z L hz n1 (by omega) _ (h0S z) D 0 0 ?_ _ ?_ ?_ ?_ ?_ ?_ ?_ ?_ ?_ ?_ hD ld n2 ckF1S
    · intro a' b' rem hrem ha' hb' d hd
      refine lastS (h0S z) L D hL (h0S z) d (by rw [hnb]; exact fun _ _ => rfl) (fun x hx => ?_) 0 0 a' b' rem (by rw [hnb]; rfl) rfl (by rw [hnb, hrem]; omega) ha' hb'
      rw [hd x hx, hnb]
      show pad L D x = pad L D (64 * 0 + x)
      rw [Nat.mul_zero, Nat.zero_add]
    · rw [hag1.b 0 (by omega)]; exact b0
    · rw [hag1.o 0 (by omega)]; exact o0
    · rw [hag1.i 5 (by omega)]; exact r5
    · intro k hk
      rw [ρ1.ext_new (m := 64) (es := es10S) (es_atS (T := appX (zs 8) [.n 0, .v 0]) hk)]
      exact h0_atS (by rw [hle1.i]; exact r5) k hk
    · have := ρ1.ext_new (m := 64) (es := es10S) (k := 8) (e := .n 0) rfl
      rw [this]; rfl
    · have := ρ1.ext_new (m := 64) (es := es10S) (k := 9) (e := .n 0) rfl
      rw [this]; rfl
    · have := ρ1.ext_new (m := 64) (es := es10S) (k := 17) (e := .v 0) rfl
      rw [this]
      show ρ1.i 0 = _
      rw [hle1.i]; exact r0
    · rw [hag1.b 1 (by omega)]; exact b1
    · rw [hag1.o 1 (by omega)]; exact o1

set_option maxHeartbeats 1000000 in
/-- .. of nil. -/
theorem chkNilS (w : World) (G : Glob w) (ps os z : Nat) (D : Nat → Int) (hz : z = 32) (n1 : 5 ≤ ps) (hsum : WordsAt w ps os .u8 32 fun _ => 0) :
    Calls Tryd.prog 25 #[.pointer (some ⟨ps, os, none⟩), .int .i64 z, .slice none 0 0] w fun e w' => ∃ v, e = .returned v ∧ KSS w ps os z (hsS (h0S z) 0 D (nbkS 0)) v w' := by
  obtain ⟨ρ, hρ⟩ : ∃ ρ : Env, ρ = { i := fun _ => (z : Int), b := fun j => match j with | 0 => ps | 2 => 2 | _ => 1,
                                    o := fun j => match j with | 0 => os | _ => 0, c := fun _ => 0, r := fun _ => undef } := ⟨_, rfl⟩
  have r5 : ρ.i 5 = (z : Int) := by subst hρ; rfl
  have b0 : ρ.b 0 = ps := by subst hρ; rfl
  have b2 : ρ.b 2 = 2 := by subst hρ; rfl
  have b3 : ρ.b 3 = 1 := by subst hρ; rfl
  have o0 : ρ.o 0 = os := by subst hρ; rfl
  have o2 : ρ.o 2 = 0 := by subst hρ; rfl
  have o3 : ρ.o 3 = 0 := by subst hρ; rfl
  clear hρ
  have hargs : vsNS.map (SV.den ρ) = [.pointer (some ⟨ps, os, none⟩), .int .i64 z, .slice none 0 0] := by
    simp only [vsNS, List.map_cons, List.map_nil, SV.den, FV.den, E.den, b0, o0, r5]
    rfl
  have hM := chkInitS w G ps os n1 hsum ρ b0 o0 b2 o2 b3 o3 (en 0 vsNS) []
  have key := fun K => calls_reach (P := Tryd.prog) (cfg := cpS) (w := w) (ρ := ρ) (f := 25) (fn := Tryd.f25) (b := bodyOf Tryd.f25) Tryd.func25 body25 vsNS (nx := 4) (thr := 0) (ml := mlPS) (orc := [])
    (by kernel_rfl) (by kernel_rfl) (fun v hv => by
      simp only [vsNS, List.mem_cons, List.not_mem_nil, or_false] at hv
      rcases hv with rfl | rfl | rfl
      · show 0 < 4; omega
      · trivial
      · trivial) (K := K) hM
  rw [hargs] at key
  refine key _ ?_
  obtain ⟨A1, A2, A3⟩ := and3_iff ckNS
  obtain ⟨a1, a2, a3⟩ := and3_iff A1
  show Go.Sx.Reach Tryd.prog cpS w _ _ sNS ρ
  refine reach_go (cfgW_ok _ _) false 2000 (Obs.nil a2 _) fun ρ1 hle1 => OutR.stop a1 ?_
  show Go.Sx.Reach Tryd.prog cpS w _ oNS.stk oNS.st ρ1
  rw [ckNSS]
  refine reach_cut 0 [] A2 ?_
  show Go.Sx.Reach Tryd.prog cpS w _ _ (sU0S 6) _
  have hes : esNS = appX esIS (appX (zs 56) (appX (zs 128) [.n 4294967232, .n 4294967295])) := by
    unfold esNS
    rw [elsB_eq a3, elsB_eq A3]
    rfl
  rw [hes]
  have hag1 : Ag 4 64 ρ (ρ1.ext 64 (appX esIS (appX (zs 56) (appX (zs 128) [.n 4294967232, .n 4294967295])))) := (Ag.ofLe hle1).trans (Ag.ofExt 4 ρ1 _)
  refine chkTail6S w G ps os z hz n1 _ (h0S z) (fun _ => 0) 4294967232 4294967295 ?_ _ ?_ ?_ ?_ ?_ ?_ ?_ ?_
  · exact lastS (h0S z) 0 D (by omega) (h0S z) (fun _ => 0) (fun _ _ => rfl) (fun x _ => by unfold pad; rw [if_neg (by omega)]) 0 0 4294967232 4294967295 64 (by rfl) rfl (by rfl) (by rfl) (by rfl)
  · rw [hag1.b 0 (by omega)]; exact b0
  · rw [hag1.o 0 (by omega)]; exact o0
  · rw [hag1.i 5 (by omega)]; exact r5
  · intro k hk
    rw [ρ1.ext_new (m := 64) (es_atS hk)]
    exact h0_atS (by rw [hle1.i]; exact r5) k hk
  · have := ρ1.ext_new (m := 64) (es := appX esIS (appX (zs 56) (appX (zs 128) [.n 4294967232, .n 4294967295]))) (k := 192) (e := .n 4294967232) (by rfl)
    rw [this]; rfl
  · have := ρ1.ext_new (m := 64) (es := appX esIS (appX (zs 56) (appX (zs 128) [.n 4294967232, .n 4294967295]))) (k := 193) (e := .n 4294967295) (by rfl)
    rw [this]; rfl
  · intro x hx
    have := ρ1.ext_new (m := 64) (es := appX esIS (appX (zs 56) (appX (zs 128) [.n 4294967232, .n 4294967295]))) (k := 64 + x) (e := .n 0) (by
      simp only [appX_eq]
      rw [List.getElem?_append_right (by rw [esI_lenS]; omega), esI_lenS, List.getElem?_append_right (by rw [zs_len]; omega), zs_len, List.getElem?_append_left (by rw [zs_len]; omega)]
      exact zs_get (by omega))
    rw [show 64 + (64 + x) = 128 + x by omega] at this
    rw [this]; rfl
end Go.Proofs.YtjhndmlpcpbaoaaDoor
