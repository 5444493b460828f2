/- A fresh slice of bytes. -/
import Derived.Test.YtjhndmlpcpbaoaaDoorCom1
import Derived.Maps.AppendAt
import Derived.Laws.OwnMore
import Derived.Test.YtjhndmlpcpbaoaaDoorProg
import Derived.Test.YtjhndmlpcpbaoaaDoorSxK
import Derived.WalkKit
import Derived.WalkSpells
import Derived.WalkLawsBesides
import Derived.Laws.IdiomStrings
namespace Go.Proofs.YtjhndmlpcpbaoaaDoor
open Go Go.Sx Go.Proofs Go.RowKit
/-- A fresh slice of bytes. -/
def Fresh (B : Nat) (n : Nat) (g : Nat → Int) (v : Value) (w' : World) : Prop :=
  ∃ p o cap, v = .slice (some ⟨p, o, none⟩) n cap ∧ n ≤ cap ∧ B ≤ p ∧ p < w'.heap.size ∧ ∀ k, k < n → w'.cell? ⟨p, o + k, none⟩ = some (.int .u8 (g k))
theorem byt_congr {wb n : Nat} (hwb : 0 < wb) {h h' : Nat → Int} (hh : ∀ k, k < n → h k = h' k) (k : Nat) (hk : k < wb * n) : byt wb h k = byt wb h' k := by
  unfold byt
  rw [hh (k / wb) ((Nat.div_lt_iff_lt_mul hwb).2 (by rwa [Nat.mul_comm] at hk))]
end Go.Proofs.YtjhndmlpcpbaoaaDoor

/- Operations by hand: an empty row is made, data are appended. -/
namespace Go.Proofs.YtjhndmlpcpbaoaaDoor
open Go Go.Sx Go.Proofs Go.RowKit
theorem un22 : Tryd.prog.underlying 22 = some (.slice 5) := by kernel_rfl
theorem info5 : ∃ i, Tryd.prog.info? 5 = some i ∧ i.zero = some (.int .u8 0) ∧ i.size = 1 ∧ i.bytes = 1 := by
  have hc := cfgW_ok [] []
  have hf : findT 5 tabs = some ti5 := by kernel_rfl
  obtain ⟨i, h1, h2, h3, h4⟩ := hc.info hf
  exact ⟨i, h1, h2, h3, h4⟩

theorem run_build0 {dst : Option Tmp} {ty : TypeId} {pos : String} {after : Array Edge} {guard : Option (Nat × Bool)} (a : Act) (w : World) :
    (execOp a.eval ⟨dst, .buildSlice 22 0 #[], ty, pos, after, guard⟩).run Tryd.prog w = .ok (.value (.slice (some ⟨w.heap.size, 0, none⟩) 0 0)) (w.alloc (.cells #[] 5)) := by
  have hc := cfgW_ok [] []
  have f22 : findT 22 tabs = some ti22 := by kernel_rfl
  have f5 : findT 5 tabs = some ti5 := by kernel_rfl
  have e1 : (underlying 22).run Tryd.prog w = .ok (.slice 5) w := hc.under f22 w
  have e2 : (sizeOf 5).run Tryd.prog w = .ok 1 w := hc.sizeOf f5 w
  have h : (Instr.buildSlice 22 0 #[]).run Tryd.prog w = .ok (.slice (some ⟨w.heap.size, 0, none⟩) 0 0) (w.alloc (.cells #[] 5)) := by
    unfold Instr.buildSlice
    simp [e1, e2, Instr.fill, run_newRow]
    congr 2
    apply Array.ext <;> simp
  unfold execOp
  simp [h]

theorem run_append_op {P : Program} {a : Act} {w : World} {v : Value} {w' : World} {dst : Option Tmp} {x y : Operand} {t t' ty : TypeId} {pos : String} {after : Array Edge} {guard : Option (Nat × Bool)}
    (h : (Builtin.append_ #[t, t'] ty #[a.eval x, a.eval y]).run P w = .ok v w') :
    (execOp a.eval ⟨dst, .call { callee := .builtin .append, args := #[x, y], argTypes := #[t, t'] }, ty, pos, after, guard⟩).run P w = .ok (.value v) w' := by
  unfold execOp
  simp [resolve, invoke, builtin, h]

theorem ownsRow_keep {w w' : World} {base : Nat} {e : TypeId} {size n : Nat} {v : Value} {xs : List Value} (h : w.ownsRow base e size v n xs) (hb : ∀ g, v.ownBlock = some g → w'.heap[g]? = w.heap[g]?) : w'.ownsRow base e size v n xs := by
  refine ⟨h.1, ?_⟩
  rcases h.2 with h2 | ⟨g, cap, cur, h3, h4, h5, h6⟩
  · exact .inl h2
  · refine .inr ⟨g, cap, cur, h3, h4, ?_, h6⟩
    rw [hb g (by rw [h3]; rfl)]
    exact h5

/-- A row of bytes that is no nil: its cells. -/
theorem ownsRow_cells {w : World} {base g n cap : Nat} {d : Nat → Int} (h : w.ownsRow base 5 1 (.slice (some ⟨g, 0, none⟩) n cap) n (words .u8 n d)) :
    base ≤ g ∧ g < w.heap.size ∧ n ≤ cap ∧ ∀ k, k < n → w.cell? ⟨g, k, none⟩ = some (.int .u8 (d k)) := by
  rcases h.2 with ⟨h2, _⟩ | ⟨g', cap', cur, h3, h4, h5, h6, _, h8, h9⟩
  · cases h2
  · injection h3 with e1 _ e3
    injection e1 with e1
    injection e1 with e1
    subst e1 e3
    refine ⟨h4, (Array.getElem?_eq_some_iff.1 h5).1, h6, fun k hk => ?_⟩
    unfold World.cell?
    rw [h5]
    have h10 : (cur.toList.take (n * 1))[k]? = some (.int .u8 (d k)) := by rw [h9]; exact words_get hk
    rw [List.getElem?_take, if_pos (by omega)] at h10
    simpa using h10
theorem words_snoc (t : IntKind) (n : Nat) (d : Nat → Int) : words t n d ++ [.int t (d n)] = words t (n + 1) d := by
  simp [words, List.range_succ]

/-- Bytes appended to a row that is no nil. -/
theorem append_some (w : World) (ty : TypeId) (base g n cap m c : Nat) (d d' : Nat → Int) (ad : Addr) (hown : w.ownsRow base 5 1 (.slice (some ⟨g, 0, none⟩) n cap) n (words .u8 n d))
    (hsrc : ∀ k, k < m → w.cell? (ad.add k) = some (.int .u8 (d' k))) (hmax : n + m ≤ 4294967296) (hbase : base ≤ w.heap.size) (D : Nat → Int) (hD : words .u8 n d ++ words .u8 m d' = words .u8 (n + m) D) :
    ∃ g' cap' w', (Builtin.append_ #[22, 22] ty #[.slice (some ⟨g, 0, none⟩) n cap, .slice (some ad) m c]).run Tryd.prog w = .ok (.slice (some ⟨g', 0, none⟩) (n + m) cap') w' ∧
      w'.ownsRow base 5 1 (.slice (some ⟨g', 0, none⟩) (n + m) cap') (n + m) (words .u8 (n + m) D) ∧ Kp base [] w w' := by
  obtain ⟨i, i1, i2, i3, i4⟩ := info5
  obtain ⟨b1, b2, b3, _⟩ := ownsRow_cells hown
  obtain ⟨v', w', h1, h2, h3, h4, _⟩ := run_append_own_at (P := Tryd.prog) w base 22 ty 5 i (.int .u8 0) 1 1 un22 i1 i2 i3 i4 (by rfl) (by omega) (.slice (some ⟨g, 0, none⟩) n cap) n (words .u8 n d) hown
    ad m c (words .u8 m d') (by simp [words]) (fun j u hu => by
      have hj : j < m := by have := (List.getElem?_eq_some_iff.1 hu).1; simpa [words] using this
      rw [words_get hj] at hu
      have hu := Option.some.inj hu
      subst hu
      exact hsrc j hj) (fun u hu => by
      simp only [words, List.mem_map] at hu
      obtain ⟨k, _, rfl⟩ := hu
      rfl) (by unfold maxLen; omega) (by omega) hbase
  rw [hD] at h2
  have hnn : v' ≠ .slice none 0 0 := fun e => by
    have := (h4.1 e).1
    cases this
  rcases h2.2 with ⟨e, _⟩ | ⟨g', cap', cur, e, _⟩
  · exact absurd e hnn
  · subst e
    refine ⟨g', cap', w', h1, h2, h3.os, h3.tape, h3.output, h3.size, fun k hk _ => h3.block k (by omega) fun he => ?_⟩
    have he : k = g := by simpa [Value.ownBlock] using he
    omega
/-- .. nothing. -/
theorem append_none (w : World) (ty : TypeId) {base : Nat} {v : Value} {n : Nat} {xs : List Value} (hown : w.ownsRow base 5 1 v n xs) : (Builtin.append_ #[22, 22] ty #[v, .slice none 0 0]).run Tryd.prog w = .ok v w := by
  obtain ⟨i, i1, _⟩ := info5
  exact run_append_owned_none w base 22 ty 5 i 1 un22 i1 v n xs hown

theorem MemOK.bare {cfg : Cfg} (h1 : cfg.ix = []) (h2 : cfg.gl = []) (h3 : cfg.w0s = []) (w : World) (ρ : Env) (N nx thr : Nat) (fl : List (Nat × SV)) (orc : List Bool) : MemOK cfg w ρ (mkSt N nx thr fl [] orc) w :=
  MemOK.init h1 rfl (fun _ h => by cases h) (fun _ h => by cases h) (fun _ h => by cases h) (fun _ h => by cases h) (fun g j hg => by rw [h2] at hg; cases hg) (fun j hj => by rw [h3] at hj; cases hj)
/-- What is at hand of the data. -/
def DataAt (w : World) (v : Value) (L : Nat) (D : Nat → Int) : Prop :=
  (∃ p o cap, v = .slice (some ⟨p, o, none⟩) L cap ∧ L ≤ cap ∧ p < w.heap.size ∧ ∀ k, k < L → w.cell? ⟨p, o + k, none⟩ = some (.int .u8 (D k))) ∨ (v = .slice none 0 0 ∧ L = 0)
end Go.Proofs.YtjhndmlpcpbaoaaDoor

/- The executor's configuration for this seat: its types, its functions; each row is what the loaded program has. -/
namespace Go.Proofs.YtjhndmlpcpbaoaaDoor
open Go Go.Sx Go.Proofs
set_option maxRecDepth 100000
def tj3 : TI := { t := 3, desc := .int .i64, zero := .int .i64 0, size := 1, bytes := 8 }
theorem tj3_ok : TIok Tryd.prog tj3 := ⟨by kernel_rfl, by kernel_rfl⟩
def tj4 : TI := { t := 4, desc := .bool, zero := .bool false, size := 1, bytes := 1 }
theorem tj4_ok : TIok Tryd.prog tj4 := ⟨by kernel_rfl, by kernel_rfl⟩
def tj5 : TI := { t := 5, desc := .int .u8, zero := .int .u8 0, size := 1, bytes := 1 }
theorem tj5_ok : TIok Tryd.prog tj5 := ⟨by kernel_rfl, by kernel_rfl⟩
def tj22 : TI := { t := 22, desc := .slice 5, zero := .slice none 0 0, size := 1, bytes := 24 }
theorem tj22_ok : TIok Tryd.prog tj22 := ⟨by kernel_rfl, by kernel_rfl⟩
def tj29 : TI := { t := 29, desc := .slice 3, zero := .slice none 0 0, size := 1, bytes := 24 }
theorem tj29_ok : TIok Tryd.prog tj29 := ⟨by kernel_rfl, by kernel_rfl⟩
def tj30 : TI := { t := 30, desc := .array 64 5, zero := .agg #[.int .u8 0, .int .u8 0, .int .u8 0, .int .u8 0, .int .u8 0, .int .u8 0, .int .u8 0, .int .u8 0, .int .u8 0, .int .u8 0, .int .u8 0, .int .u8 0, .int .u8 0, .int .u8 0, .int .u8 0, .int .u8 0, .int .u8 0, .int .u8 0, .int .u8 0, .int .u8 0, .int .u8 0, .int .u8 0, .int .u8 0, .int .u8 0, .int .u8 0, .int .u8 0, .int .u8 0, .int .u8 0, .int .u8 0, .int .u8 0, .int .u8 0, .int .u8 0, .int .u8 0, .int .u8 0, .int .u8 0, .int .u8 0, .int .u8 0, .int .u8 0, .int .u8 0, .int .u8 0, .int .u8 0, .int .u8 0, .int .u8 0, .int .u8 0, .int .u8 0, .int .u8 0, .int .u8 0, .int .u8 0, .int .u8 0, .int .u8 0, .int .u8 0, .int .u8 0, .int .u8 0, .int .u8 0, .int .u8 0, .int .u8 0, .int .u8 0, .int .u8 0, .int .u8 0, .int .u8 0, .int .u8 0, .int .u8 0, .int .u8 0, .int .u8 0], size := 64, bytes := 64 }
theorem tj30_ok : TIok Tryd.prog tj30 := ⟨by kernel_rfl, by kernel_rfl⟩
def tj32 : TI := { t := 32, desc := .array 48 5, zero := .agg #[.int .u8 0, .int .u8 0, .int .u8 0, .int .u8 0, .int .u8 0, .int .u8 0, .int .u8 0, .int .u8 0, .int .u8 0, .int .u8 0, .int .u8 0, .int .u8 0, .int .u8 0, .int .u8 0, .int .u8 0, .int .u8 0, .int .u8 0, .int .u8 0, .int .u8 0, .int .u8 0, .int .u8 0, .int .u8 0, .int .u8 0, .int .u8 0, .int .u8 0, .int .u8 0, .int .u8 0, .int .u8 0, .int .u8 0, .int .u8 0, .int .u8 0, .int .u8 0, .int .u8 0, .int .u8 0, .int .u8 0, .int .u8 0, .int .u8 0, .int .u8 0, .int .u8 0, .int .u8 0, .int .u8 0, .int .u8 0, .int .u8 0, .int .u8 0, .int .u8 0, .int .u8 0, .int .u8 0, .int .u8 0], size := 48, bytes := 48 }
theorem tj32_ok : TIok Tryd.prog tj32 := ⟨by kernel_rfl, by kernel_rfl⟩
def tj34 : TI := { t := 34, desc := .array 32 5, zero := .agg #[.int .u8 0, .int .u8 0, .int .u8 0, .int .u8 0, .int .u8 0, .int .u8 0, .int .u8 0, .int .u8 0, .int .u8 0, .int .u8 0, .int .u8 0, .int .u8 0, .int .u8 0, .int .u8 0, .int .u8 0, .int .u8 0, .int .u8 0, .int .u8 0, .int .u8 0, .int .u8 0, .int .u8 0, .int .u8 0, .int .u8 0, .int .u8 0, .int .u8 0, .int .u8 0, .int .u8 0, .int .u8 0, .int .u8 0, .int .u8 0, .int .u8 0, .int .u8 0], size := 32, bytes := 32 }
theorem tj34_ok : TIok Tryd.prog tj34 := ⟨by kernel_rfl, by kernel_rfl⟩
def tj37 : TI := { t := 37, desc := .int .u64, zero := .int .u64 0, size := 1, bytes := 8 }
theorem tj37_ok : TIok Tryd.prog tj37 := ⟨by kernel_rfl, by kernel_rfl⟩
def tj39 : TI := { t := 39, desc := .int .u32, zero := .int .u32 0, size := 1, bytes := 4 }
theorem tj39_ok : TIok Tryd.prog tj39 := ⟨by kernel_rfl, by kernel_rfl⟩
def tj41 : TI := { t := 41, desc := .pointer 30, zero := .pointer none, size := 1, bytes := 8 }
theorem tj41_ok : TIok Tryd.prog tj41 := ⟨by kernel_rfl, by kernel_rfl⟩
def tj44 : TI := { t := 44, desc := .struct #[{ name := "bits", type := 3, offset := 0, embedded := false, tag := "", pkgPath := "loop.example/pub-g03123/spec", byteOffset := 0 }, { name := "rounds", type := 3, offset := 1, embedded := false, tag := "", pkgPath := "loop.example/pub-g03123/spec", byteOffset := 8 }, { name := "turns", type := 42, offset := 2, embedded := false, tag := "", pkgPath := "loop.example/pub-g03123/spec", byteOffset := 16 }], zero := .agg #[.int .i64 0, .int .i64 0, .int .i64 0, .int .i64 0, .int .i64 0, .int .i64 0], size := 6, bytes := 48 }
theorem tj44_ok : TIok Tryd.prog tj44 := ⟨by kernel_rfl, by kernel_rfl⟩
def tj53 : TI := { t := 53, desc := .pointer 34, zero := .pointer none, size := 1, bytes := 8 }
theorem tj53_ok : TIok Tryd.prog tj53 := ⟨by kernel_rfl, by kernel_rfl⟩
def tj66 : TI := { t := 66, desc := .struct #[], zero := .agg #[], size := 0, bytes := 0 }
theorem tj66_ok : TIok Tryd.prog tj66 := ⟨by kernel_rfl, by kernel_rfl⟩
def tj68 : TI := { t := 68, desc := .int .u64, zero := .int .u64 0, size := 1, bytes := 8 }
theorem tj68_ok : TIok Tryd.prog tj68 := ⟨by kernel_rfl, by kernel_rfl⟩
def tabs2 : List TI := [tj3, tj4, tj5, tj22, tj29, tj30, tj32, tj34, tj37, tj39, tj41, tj44, tj53, tj66, tj68]
theorem tabs2_ok : ∀ x ∈ tabs2, TIok Tryd.prog x := by
  intro x hx
  simp only [tabs2, List.mem_cons, List.not_mem_nil, or_false] at hx
  rcases hx with rfl | rfl | rfl | rfl | rfl | rfl | rfl | rfl | rfl | rfl | rfl | rfl | rfl | rfl | rfl
  · exact tj3_ok
  · exact tj4_ok
  · exact tj5_ok
  · exact tj22_ok
  · exact tj29_ok
  · exact tj30_ok
  · exact tj32_ok
  · exact tj34_ok
  · exact tj37_ok
  · exact tj39_ok
  · exact tj41_ok
  · exact tj44_ok
  · exact tj53_ok
  · exact tj66_ok
  · exact tj68_ok
theorem gn4_ok : FNok Tryd.prog (4, Tryd.f4) := ⟨Tryd.func4, by kernel_rfl, by kernel_rfl⟩
theorem gn20_ok : FNok Tryd.prog (20, Tryd.f20) := ⟨Tryd.func20, by kernel_rfl, by kernel_rfl⟩
theorem gn26_ok : FNok Tryd.prog (26, Tryd.f26) := ⟨Tryd.func26, by kernel_rfl, by kernel_rfl⟩
theorem gn32_ok : FNok Tryd.prog (32, Tryd.f32) := ⟨Tryd.func32, by kernel_rfl, by kernel_rfl⟩
theorem gn36_ok : FNok Tryd.prog (36, Tryd.f36) := ⟨Tryd.func36, by kernel_rfl, by kernel_rfl⟩
theorem gn42_ok : FNok Tryd.prog (42, Tryd.f42) := ⟨Tryd.func42, by kernel_rfl, by kernel_rfl⟩
theorem gn5_ok : FNok Tryd.prog (5, Tryd.f5) := ⟨Tryd.func5, by kernel_rfl, by kernel_rfl⟩
theorem gn6_ok : FNok Tryd.prog (6, Tryd.f6) := ⟨Tryd.func6, by kernel_rfl, by kernel_rfl⟩
theorem gn7_ok : FNok Tryd.prog (7, Tryd.f7) := ⟨Tryd.func7, by kernel_rfl, by kernel_rfl⟩
theorem gn8_ok : FNok Tryd.prog (8, Tryd.f8) := ⟨Tryd.func8, by kernel_rfl, by kernel_rfl⟩
theorem gn9_ok : FNok Tryd.prog (9, Tryd.f9) := ⟨Tryd.func9, by kernel_rfl, by kernel_rfl⟩
theorem gn10_ok : FNok Tryd.prog (10, Tryd.f10) := ⟨Tryd.func10, by kernel_rfl, by kernel_rfl⟩
theorem gn11_ok : FNok Tryd.prog (11, Tryd.f11) := ⟨Tryd.func11, by kernel_rfl, by kernel_rfl⟩
theorem gn12_ok : FNok Tryd.prog (12, Tryd.f12) := ⟨Tryd.func12, by kernel_rfl, by kernel_rfl⟩
theorem gn13_ok : FNok Tryd.prog (13, Tryd.f13) := ⟨Tryd.func13, by kernel_rfl, by kernel_rfl⟩
theorem gn14_ok : FNok Tryd.prog (14, Tryd.f14) := ⟨Tryd.func14, by kernel_rfl, by kernel_rfl⟩
theorem gn15_ok : FNok Tryd.prog (15, Tryd.f15) := ⟨Tryd.func15, by kernel_rfl, by kernel_rfl⟩
theorem gn16_ok : FNok Tryd.prog (16, Tryd.f16) := ⟨Tryd.func16, by kernel_rfl, by kernel_rfl⟩
theorem gn17_ok : FNok Tryd.prog (17, Tryd.f17) := ⟨Tryd.func17, by kernel_rfl, by kernel_rfl⟩
theorem gn18_ok : FNok Tryd.prog (18, Tryd.f18) := ⟨Tryd.func18, by kernel_rfl, by kernel_rfl⟩
theorem gn19_ok : FNok Tryd.prog (19, Tryd.f19) := ⟨Tryd.func19, by kernel_rfl, by kernel_rfl⟩
theorem gn25_ok : FNok Tryd.prog (25, Tryd.f25) := ⟨Tryd.func25, by kernel_rfl, by kernel_rfl⟩
noncomputable def fns2 : List (FuncId × Func) := [(4, Tryd.f4), (20, Tryd.f20), (26, Tryd.f26), (32, Tryd.f32), (36, Tryd.f36), (42, Tryd.f42)]
theorem fns2_ok : ∀ x ∈ fns2, FNok Tryd.prog x := by
  intro x hx
  simp only [fns2, List.mem_cons, List.not_mem_nil, or_false] at hx
  rcases hx with rfl | rfl | rfl | rfl | rfl | rfl
  · exact gn4_ok
  · exact gn20_ok
  · exact gn26_ok
  · exact gn32_ok
  · exact gn36_ok
  · exact gn42_ok
noncomputable def fns2E : List (FuncId × Func) := [(5, Tryd.f5), (6, Tryd.f6), (7, Tryd.f7), (8, Tryd.f8), (9, Tryd.f9), (10, Tryd.f10), (11, Tryd.f11), (12, Tryd.f12), (13, Tryd.f13), (14, Tryd.f14), (15, Tryd.f15), (16, Tryd.f16), (17, Tryd.f17), (18, Tryd.f18), (19, Tryd.f19), (25, Tryd.f25)]
theorem fns2E_ok : ∀ x ∈ fns2E, FNok Tryd.prog x := by
  intro x hx
  simp only [fns2E, List.mem_cons, List.not_mem_nil, or_false] at hx
  rcases hx with rfl | rfl | rfl | rfl | rfl | rfl | rfl | rfl | rfl | rfl | rfl | rfl | rfl | rfl | rfl | rfl
  · exact gn5_ok
  · exact gn6_ok
  · exact gn7_ok
  · exact gn8_ok
  · exact gn9_ok
  · exact gn10_ok
  · exact gn11_ok
  · exact gn12_ok
  · exact gn13_ok
  · exact gn14_ok
  · exact gn15_ok
  · exact gn16_ok
  · exact gn17_ok
  · exact gn18_ok
  · exact gn19_ok
  · exact gn25_ok
/-- The configuration, with these names for the variables of a package, and these for cells that were there and are written. -/
noncomputable def cfgW2 (gl : List (Nat × Nat)) (w0s : List Nat) : Cfg := { tabs := tabs2, fns := fns2, w0s := w0s, gl := gl }
theorem cfgW2_ok (gl : List (Nat × Nat)) (w0s : List Nat) : CfgOk Tryd.prog (cfgW2 gl w0s) := ⟨tabs2_ok, fns2_ok, by kernel_rfl⟩
/-- .. and with the functions that are entered by name. -/
noncomputable def cfgE2 (gl : List (Nat × Nat)) (w0s : List Nat) : Cfg := { tabs := tabs2, fns := fns2E, w0s := w0s, gl := gl }
theorem cfgE2_ok (gl : List (Nat × Nat)) (w0s : List Nat) : CfgOk Tryd.prog (cfgE2 gl w0s) := ⟨tabs2_ok, fns2E_ok, by kernel_rfl⟩
end Go.Proofs.YtjhndmlpcpbaoaaDoor

/- Small functions, called: a clone of bytes. -/
namespace Go.Proofs.YtjhndmlpcpbaoaaDoor
open Go Go.Sx Go.Proofs Go.RowKit
set_option maxRecDepth 100000
noncomputable def c2 : Cfg := cfgW2 [] []
noncomputable def c2E : Cfg := cfgE2 [] []
/-- Data in a world that has gone on. -/
theorem DataAt.kp {w w' : World} {v : Value} {L : Nat} {D : Nat → Int} (h : DataAt w v L D) (k : Below w.heap.size w w') : DataAt w' v L D := by
  rcases h with ⟨p, o, c, h1, h2, h3, h4⟩ | h
  · refine .inl ⟨p, o, c, h1, h2, Nat.lt_of_lt_of_le h3 k.size, fun j hj => ?_⟩
    rw [(Kp.of_below (xs := []) k).cell h3 (by simp)]
    exact h4 j hj
  · exact .inr h
theorem Fresh.kp {w w' : World} {B n : Nat} {v : Value} {g : Nat → Int} (h : Fresh B n g v w) (k : Below w.heap.size w w') : Fresh B n g v w' := by
  obtain ⟨p, o, c, h1, h2, h3, h4, h5⟩ := h
  refine ⟨p, o, c, h1, h2, h3, Nat.lt_of_lt_of_le h4 k.size, fun j hj => ?_⟩
  rw [(Kp.of_below (xs := []) k).cell h4 (by simp)]
  exact h5 j hj
theorem Fresh.data {w : World} {B n : Nat} {v : Value} {g : Nat → Int} (h : Fresh B n g v w) : DataAt w v n g := by
  obtain ⟨p, o, c, h1, h2, h3, h4, h5⟩ := h
  exact .inl ⟨p, o, c, h1, h2, h4, h5⟩
/-- It lies above. -/
def Above (B : Nat) (v : Value) : Prop := ∀ g, v.ownBlock = some g → B ≤ g

-- slices.Clone
def vC : List SV := [.f (.sl 0 0 (.v 0) (.v 0 0))]
noncomputable def sC : St := mkSt Tryd.f10.ntmps 1 0 (en 0 vC) [] []
noncomputable def oC : Out := go c2 false 500 [.code (bodyOf Tryd.f10)] sC
noncomputable def stC : Stand := (standOf oC.stk oC.st).getD stand0
noncomputable def oC2 : Out := go c2 false 500 (.ops stC.all stC.l :: stC.k) (mkSt Tryd.f10.ntmps 2 0 [(7, .f (.row 1))] [] [])
def vCn : List SV := [.f (.lit (.slice none 0 0))]
noncomputable def oCn : Out := go c2 false 500 [.code (bodyOf Tryd.f10)] (mkSt Tryd.f10.ntmps 1 0 (en 0 vCn) [] [])
noncomputable def rowB (x : Option SV) (r : Nat) : Bool := match x with | some (.f (.row q)) => Nat.beq q r | _ => false
noncomputable def nilSB (x : Option SV) : Bool := match x with | some (.f (.lit (.slice none 0 0))) => true | _ => false
noncomputable def emptyRow (x : Option (TypeId × List FV)) : Bool := match x with | some (5, []) => true | _ => false
theorem ckC : and3 (and3 oC.stops (nilB oC.st.obs) (someB (standOf oC.stk oC.st))) (and3 (rowB (oC.st.F.get 5) 1) (emptyRow (oC.st.R.get 1)) (someB (oC.st.F.get 6))) (and3 (and3 oC2.rets (nilB oC2.st.obs) (rowB (resS c2 oC2.st Tryd.f10) 1)) (and3 oCn.rets (nilB oCn.st.obs) (nilSB (resS c2 oCn.st Tryd.f10))) true) = true := by kernel_rfl
theorem ckCN : oC.st.N = Tryd.f10.ntmps := by kernel_rfl
theorem ckC6 : oC.st.F.get 6 = some (.f (.sl 0 0 (.v 0) (.v 0 0))) := by kernel_rfl
theorem ckCo : ∃ ty pos after guard, stC.o = ⟨some 7, .call { callee := .builtin .append, args := #[.tmp 5, .tmp 6], argTypes := #[22, 22] }, ty, pos, after, guard⟩ :=
  ⟨stC.o.type, stC.o.pos, stC.o.after, stC.o.guard, by kernel_rfl⟩
theorem rowB_eq {x : Option SV} {r : Nat} (h : rowB x r = true) : x = some (.f (.row r)) := by
  unfold rowB at h
  split at h
  · rw [beq_eq h]
  · cases h
theorem nilSB_eq {x : Option SV} (h : nilSB x = true) : x = some (.f (.lit (.slice none 0 0))) := by
  unfold nilSB at h
  split at h
  · rfl
  · cases h
theorem emptyRow_eq {x : Option (TypeId × List FV)} (h : emptyRow x = true) : x = some (5, []) := by
  unfold emptyRow at h
  split at h
  · rfl
  · cases h
theorem body10 : Tryd.f10.body = some (bodyOf Tryd.f10) := by kernel_rfl
/-- A place with a length that a number tells. -/
def env1 (L : Nat) (p o c : Nat) : Env := { i := fun _ => (L : Int), b := fun _ => p, o := fun _ => o, c := fun _ => c, r := fun _ => undef }

theorem clone_calls (w : World) (v : Value) (L : Nat) (D : Nat → Int) (hL : L ≤ 2147483647) (h : DataAt w v L D) :
    Calls Tryd.prog 10 #[v] w fun e w' => ∃ u, e = .returned u ∧ Below w.heap.size w w' ∧ DataAt w' u L D ∧ Above w.heap.size u := by
  obtain ⟨C1, C2, C3⟩ := and3_iff ckC
  obtain ⟨a1, a2, a3⟩ := and3_iff C1
  obtain ⟨a4, a5, _⟩ := and3_iff C2
  obtain ⟨C4, C5, _⟩ := and3_iff C3
  obtain ⟨a6, a7, a8⟩ := and3_iff C4
  obtain ⟨a9, a10, a11⟩ := and3_iff C5
  rcases h with ⟨p, o, c, hv, hc, hlt, hcell⟩ | ⟨hv, hL0⟩
  · subst hv
    have key := calls_reach (P := Tryd.prog) (cfg := c2) (w := w) (ρ := env1 L p o c) (f := 10) (fn := Tryd.f10) (b := bodyOf Tryd.f10) Tryd.func10 body10 vC (nx := 1) (thr := 0) (ml := []) (orc := [])
      (by rfl) (by rfl) (fun v hv => by
        simp only [vC, List.mem_singleton] at hv
        subst hv
        refine ⟨by omega, by show 0 < 1; omega, ?_, ?_⟩
        · show (0 : Int) ≤ (L : Int); omega
        · show (L : Int) ≤ ((c - 0 : Nat) : Int); omega) (K := fun u w' => Below w.heap.size w w' ∧ DataAt w' u L D ∧ Above w.heap.size u) (MemOK.bare rfl rfl rfl w _ _ _ _ _ _)
    have hargs : vC.map (SV.den (env1 L p o c)) = [.slice (some ⟨p, o, none⟩) L c] := by
      simp only [vC, List.map_cons, List.map_nil, SV.den, FV.den, E.den, Cp.den, env1, Int.toNat_natCast]; rfl
    rw [hargs] at key
    refine key ?_
    show Go.Sx.Reach Tryd.prog c2 w _ _ sC _
    refine reach_go (cfgW2_ok _ _) false 500 (Obs.nil a2 _) fun ρ1 hle1 => OutR.stop a1 ?_
    show Go.Sx.Reach Tryd.prog c2 w _ oC.stk oC.st ρ1
    refine reach_op (e := stC) (some_getD a3) fun a1' w1 hF1 hM1 => ?_
    obtain ⟨ty, pos, after, guard, hG⟩ := ckCo
    have hk1 := hM1.kp (xs := []) fun j hj => by cases hj
    obtain ⟨i, i1, i2, i3, i4⟩ := info5
    have hown := (hM1.row 1 5 [] (emptyRow_eq a5)).2.2
    have e5 : a1'.eval (.tmp 5) = ρ1.r 1 := (hF1.get 5 _ (rowB_eq a4)).2
    have e6 : a1'.eval (.tmp 6) = .slice (some ⟨p, o, none⟩) L c := by
      have h1 := (hF1.get 6 _ ckC6).2
      have h2 : (SV.f (.sl 0 0 (.v 0) (.v 0 0))).den ρ1 = .slice (some ⟨p, o, none⟩) L c := by
        simp only [SV.den, FV.den, E.den, Cp.den, hle1.b 0 (by show 0 < 1; omega), hle1.o 0 (by show 0 < 1; omega), hle1.c 0 (by show 0 < 1; omega), hle1.i]
        simp only [env1, Int.toNat_natCast]; rfl
      rw [h2] at h1
      exact h1
    obtain ⟨v', w', h1, h2, h3, _, h5⟩ := run_append_own_at (P := Tryd.prog) w1 w.heap.size 22 ty 5 i (.int .u8 0) 1 1 un22 i1 i2 i3 i4 (by rfl) (by omega) (ρ1.r 1) 0 [] hown
      ⟨p, o, none⟩ L c (words .u8 L D) (by simp [words]) (fun j u hu => by
        have hj : j < L := by have := (List.getElem?_eq_some_iff.1 hu).1; simpa [words] using this
        rw [words_get hj] at hu
        have hu := Option.some.inj hu
        subst hu
        rw [Addr.add_lit, hk1.cell hlt (by simp)]
        exact hcell j hj) (fun u hu => by
        simp only [words, List.mem_map] at hu
        obtain ⟨k, _, rfl⟩ := hu
        rfl) (by unfold maxLen; omega) (by omega) hk1.size
    refine ⟨_, _, by rw [hG]; exact run_append_op (by rw [e5, e6]; exact h1), ?_⟩
    have hdst : stC.o.dst = some 7 := by rw [hG]
    rw [hdst]
    have hkw : Kp w.heap.size [] w w' := hk1.trans ⟨h3.os, h3.tape, h3.output, h3.size, fun k hk _ => h3.block k (Nat.lt_of_lt_of_le hk hk1.size) fun he => by
      have := (hown.lt k he.symm).1
      omega⟩
    have hdat : DataAt w' v' L D ∧ Above w.heap.size v' := by
      rw [Nat.zero_add, List.nil_append] at h2
      rcases h2.2 with ⟨e1, e2⟩ | ⟨g, cap, cur, e1, e2, _⟩
      · subst e1
        exact ⟨.inr ⟨rfl, e2⟩, fun g hg => by cases hg⟩
      · subst e1
        obtain ⟨q1, q2, q3, q4⟩ := ownsRow_cells h2
        exact ⟨.inl ⟨g, 0, cap, rfl, q3, q2, fun k hk => by rw [Nat.zero_add]; exact q4 k hk⟩, fun g' hg => by
          have : g = g' := by simpa [Value.ownBlock] using hg
          omega⟩
    obtain ⟨ρ2, hρ2⟩ : ∃ ρ2 : Env, ρ2 = { i := fun _ => 0, b := fun _ => 0, o := fun _ => 0, c := fun _ => 0, r := fun _ => v' } := ⟨_, rfl⟩
    have hr2 : ρ2.r 1 = v' := by subst hρ2; rfl
    have hF2 : FrOK ρ2 2 Tryd.f10.ntmps (ofL [(7, .f (.row 1))]) (a1'.put (some 7) v') := by
      have h0 : FrOK ρ2 2 Tryd.f10.ntmps (ofL ([] : List (Nat × SV))) a1' := ⟨hF1.size.trans ckCN, hF1.defers, fun d x hd => by
        have hd : (Tr.e : Tr SV).get d = some x := hd
        rw [Tr.get_e] at hd; cases hd⟩
      have := FrOK.put (F := ofL ([] : List (Nat × SV))) (d := 7) (x := .f (.row 1)) h0 (show 1 < 2 by omega) (Nat.le_of_ble_eq_true (by rfl)) (by omega)
      have he : (SV.f (.row 1)).den ρ2 = v' := hr2
      rw [he] at this
      exact this
    refine (?_ : Go.Sx.Reach Tryd.prog c2 w' _ (.ops stC.all stC.l :: stC.k) (mkSt Tryd.f10.ntmps 2 0 [(7, .f (.row 1))] [] []) ρ2) _ w' hF2 (MemOK.bare rfl rfl rfl w' ρ2 _ _ _ _ _)
    refine reach_ret (cfgW2_ok _ _) false 500 (v := .f (.row 1)) a6 (Obs.nil a7 _) (rowB_eq a8) fun ρ3 w3 hle3 hM3 _ => ?_
    have hk3 := (hM3.kp (xs := []) fun j hj => by cases hj).below
    have he : (SV.f (.row 1)).den ρ3 = v' := (hle3.r 1 (by show 1 < 2; omega)).trans hr2
    rw [he]
    exact ⟨hkw.below.trans (hk3.mono hkw.size), hdat.1.kp hk3, hdat.2⟩
  · subst hv hL0
    have key := calls_reach (P := Tryd.prog) (cfg := c2) (w := w) (ρ := env1 0 0 0 0) (f := 10) (fn := Tryd.f10) (b := bodyOf Tryd.f10) Tryd.func10 body10 vCn (nx := 1) (thr := 0) (ml := []) (orc := [])
      (by rfl) (by rfl) (fun v hv => by
        simp only [vCn, List.mem_singleton] at hv
        subst hv
        trivial) (K := fun u w' => Below w.heap.size w w' ∧ DataAt w' u 0 D ∧ Above w.heap.size u) (MemOK.bare rfl rfl rfl w _ _ _ _ _ _)
    refine key ?_
    refine reach_ret (cfgW2_ok _ _) false 500 (v := .f (.lit (.slice none 0 0))) a9 (Obs.nil a10 _) (nilSB_eq a11) fun ρ3 w3 hle3 hM3 _ => ?_
    have hk3 := (hM3.kp (xs := []) fun j hj => by cases hj).below
    exact ⟨hk3, .inr ⟨rfl, rfl⟩, fun g hg => by cases hg⟩
noncomputable def slLB (v : Option SV) (j : Nat) (n : Int) : Bool := match v with | some (.f x) => fvEq x (.sl j 0 (.n n) (.l n.toNat)) | _ => false
theorem slLB_eq {v : Option SV} {j : Nat} {n : Int} (h : slLB v j n = true) : v = some (.f (.sl j 0 (.n n) (.l n.toNat))) := by
  unfold slLB at h
  split at h
  · rw [fvEq_eq h]
  · cases h
/-- On behind a call whose value is named. -/
theorem next_row {P : Program} {cfg : Cfg} (h1 : cfg.ix = []) (h2 : cfg.gl = []) (h3 : cfg.w0s = []) {Q : Exit → Act → World → Prop} {k : List It} {ρ : Env} {nx N : Nat} {fl : List (Nat × SV)} {a : Act} {d : Nat} (orc : List Bool)
    (hF : FrOK ρ nx N (ofL fl) a) (hd : Nat.blt d N = true) (hd8 : d < 8192) (v : Value) (w : World)
    (hR : Go.Sx.Reach P cfg w Q k (mkSt N (nx + 1) 0 ((d, .f (.row nx)) :: fl) [] orc) (ρ.more nx 0 0 0 v)) : wpK P Q k .normal (a.put (some d) v) w := by
  have hle := Env.more_le ρ nx 0 0 0 v
  have hr : (SV.f (.row nx)).den (ρ.more nx 0 0 0 v) = v := by simp [SV.den, FV.den, Env.more]
  have hF2 := FrOK.put (F := ofL fl) (d := d) (x := .f (.row nx)) (hF.le hle (Nat.le_succ nx)) (Nat.lt_succ_self nx) (blt_lt hd) hd8
  rw [hr] at hF2
  exact hR _ w hF2 (MemOK.bare h1 h2 h3 w _ _ _ _ _ _)
theorem more_r (ρ : Env) (nx : Nat) (v : Value) : (ρ.more nx 0 0 0 v).r nx = v := by simp [Env.more]
/-- An abstract value by itself. -/
def envV (v : Value) : Env := { i := fun _ => 0, b := fun _ => 0, o := fun _ => 0, c := fun _ => 0, r := fun _ => v }
theorem lits_get {t : IntKind} : ∀ {l : List Int} {j : Nat} {z : Int}, l[j]? = some z → (lits t l)[j]? = some (.int t (.n z))
  | [], _, _, h => by simp at h
  | x :: l, 0, z, h => by
    have : x = z := by simpa using h
    subst this; rfl
  | x :: l, j + 1, z, h => by
    show (lits t l)[j]? = _
    exact lits_get (by simpa using h)
end Go.Proofs.YtjhndmlpcpbaoaaDoor

/- laws.same over two slices whose bytes are alike. -/
namespace Go.Proofs.YtjhndmlpcpbaoaaDoor
open Go.RowKit

theorem str_of (w : World) (A : Addr) (c : Nat) (xs : List Int) (h : ∀ j x, xs[j]? = some x → w.cell? (A.add j) = some (.int .u8 x)) :
    (convert 22 9 (.slice (some A) xs.length c)).run Tryd.prog w = .ok (.string (xs.foldl (fun r n => r.push (UInt8.ofNat n.toNat)) ByteArray.empty)) w := by
  rw [run_convert_bytes_string (P := Tryd.prog) w 22 9 5 (some A) xs.length c (by kernel_rfl) (by kernel_rfl) (by kernel_rfl)]
  have hl := run_loadCells_list (P := Tryd.prog) w A (xs.map (Value.int .u8)) (fun j v hj => by
    rw [List.getElem?_map] at hj
    cases hx : xs[j]? with
    | none => rw [hx] at hj; cases hj
    | some x =>
      rw [hx] at hj
      have hj : Value.int .u8 x = v := by simpa using hj
      rw [← hj]
      exact h j x hx)
  rw [List.length_map] at hl
  exact run_bytesToString w A xs.length c _ hl

set_option maxHeartbeats 400000 in
theorem same_calls (w : World) (A B : Addr) (c d : Nat) (xs : List Int) (h1 : ∀ j x, xs[j]? = some x → w.cell? (A.add j) = some (.int .u8 x)) (h2 : ∀ j x, xs[j]? = some x → w.cell? (B.add j) = some (.int .u8 x)) :
    Calls Tryd.prog 5 #[.slice (some A) xs.length c, .slice (some B) xs.length d] w fun e w' => e = .returned (.bool true) ∧ w' = w := by
  have e1 := str_of w A c xs h1
  have e2 := str_of w B d xs h2
  clear h1 h2
  generalize xs.foldl (fun r n => r.push (UInt8.ofNat n.toNat)) ByteArray.empty = S at e1 e2
  go_enter Tryd.func5, Tryd.ntmps5
  go_wp2
  go_ret
  exact ⟨rfl, rfl⟩
end Go.Proofs.YtjhndmlpcpbaoaaDoor
