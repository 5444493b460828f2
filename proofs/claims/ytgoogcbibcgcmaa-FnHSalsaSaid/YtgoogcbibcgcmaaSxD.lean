/- A symbolic executor over the model, part four: all reading operations under one name; what turns memory. -/
import Derived.Test.YtgoogcbibcgcmaaSxC
import Derived.Maps.AppendAt
namespace Go.Sx
open Go

section
variable {P : Program} {cfg : Cfg} {w0 w : World} {ρ : Env} {s : St} {a : Act}

/-! build -/
def overX {α : Type} : List α → List α → List α
  | [], cs => cs
  | _ :: _, [] => []
  | x :: l, _ :: cs => x :: overX l cs
def splX {α : Type} : Nat → List α → List α → List α
  | 0, l, cs => overX l cs
  | _ + 1, _, [] => []
  | n + 1, l, c :: cs => c :: splX n l cs
def lenX {α : Type} : List α → Nat
  | [] => 0
  | _ :: l => lenX l + 1
theorem lenX_eq {α : Type} : ∀ l : List α, lenX l = l.length
  | [] => rfl
  | _ :: l => by simp [lenX, lenX_eq l]
theorem overX_eq {α : Type} : ∀ (l cs : List α), l.length ≤ cs.length → overX l cs = l ++ cs.drop l.length
  | [], cs, _ => by simp [overX]
  | x :: l, [], h => by simp at h
  | x :: l, c :: cs, h => by simp only [overX, List.length_cons, List.drop_succ_cons, List.cons_append]; rw [overX_eq l cs (by simpa using h)]
theorem splX_eq {α : Type} : ∀ (n : Nat) (l cs : List α), n + l.length ≤ cs.length → splX n l cs = cs.take n ++ l ++ cs.drop (n + l.length)
  | 0, l, cs, h => by simp only [splX, List.take_zero, List.nil_append, Nat.zero_add]; exact overX_eq l cs (by omega)
  | n + 1, l, [], h => by simp at h
  | n + 1, l, c :: cs, h => by
    simp only [splX, List.take_succ_cons, List.cons_append]
    rw [splX_eq n l cs (by simp at h; omega)]
    congr 2
    rw [show n + 1 + l.length = (n + l.length) + 1 by omega, List.drop_succ_cons]
theorem splX_length {α : Type} (n : Nat) (l cs : List α) (h : n + l.length ≤ cs.length) : (splX n l cs).length = cs.length := by
  rw [splX_eq n l cs h]; simp; omega
theorem splX_map {α β : Type} (f : α → β) : ∀ (n : Nat) (l cs : List α), n + l.length ≤ cs.length → (splX n l cs).map f = splX n (l.map f) (cs.map f) := by
  intro n l cs h
  rw [splX_eq n l cs h, splX_eq n _ _ (by simpa using h)]
  simp [List.map_take, List.map_drop]
theorem splX_mem {α : Type} {n : Nat} {l cs : List α} (h : n + l.length ≤ cs.length) {x : α} (hx : x ∈ splX n l cs) : x ∈ l ∨ x ∈ cs := by
  rw [splX_eq n l cs h] at hx
  simp only [List.mem_append] at hx
  rcases hx with (hx | hx) | hx
  · exact .inr (List.mem_of_mem_take hx)
  · exact .inl hx
  · exact .inr (List.mem_of_mem_drop hx)

def cellsS : SV → Option (List FV)
  | .f x => some [x]
  | .agg l => some l
  | .tup _ => none
/-- A value whose own cells are its denotation's. -/
def flatV : Value → Bool
  | .agg _ | .tuple _ => false
  | _ => true
def FV.flat : FV → Bool
  | .lit v => flatV v
  | .row _ => false
  | _ => true
theorem FV.flat_one {x : FV} (h : x.flat = true) (ρ : Env) : (x.den ρ).oneCell' = true := by
  cases x <;> first | rfl | (cases h; done) | skip
  rename_i v
  cases v <;> first | rfl | cases h
theorem cells_one {v : Value} (h : v.oneCell' = true) : v.cells = #[v] := by cases v <;> first | rfl | cases h
def allFlat : List FV → Bool
  | [] => true
  | x :: l => match x.flat with
    | true => allFlat l
    | false => false
theorem allFlat_mem : ∀ {l : List FV}, allFlat l = true → ∀ x ∈ l, x.flat = true
  | [], _, x, hx => by cases hx
  | y :: l, h, x, hx => by
    unfold allFlat at h
    split at h
    · rename_i hy
      cases hx with
      | head => exact hy
      | tail _ hx => exact allFlat_mem h x hx
    · cases h
theorem cellsS_den {v : SV} {l : List FV} (h : cellsS v = some l) (hf : allFlat l = true) (ρ : Env) : (v.den ρ).cells = (denL ρ l).toArray := by
  cases v with
  | f x =>
    have h := Option.some.inj h
    subst h
    have := allFlat_mem hf x (by simp)
    show (x.den ρ).cells = _
    rw [cells_one (FV.flat_one this ρ)]
    rfl
  | agg q =>
    have h := Option.some.inj h
    subst h
    rfl
  | tup q => cases h
theorem cellsS_ok {v : SV} {l : List FV} (h : cellsS v = some l) {n : Nat} (hv : v.ok ρ n) : okL ρ n l := by
  cases v with
  | f x =>
    have h := Option.some.inj h
    subst h
    intro y hy
    rw [List.mem_singleton] at hy
    rw [hy]; exact hv
  | agg q =>
    have h := Option.some.inj h
    subst h
    exact hv
  | tup q => cases h

theorem fill_cells (off : Nat) : ∀ (l : List Value) (k : Nat) (cs : Array Value), off + k + l.length ≤ cs.size →
    ((l.zipIdx k).foldl (fun cs (x : Value × Nat) => cs.setIfInBounds (off + x.2) x.1) cs) = (splX (off + k) l cs.toList).toArray := by
  intro l
  induction l with
  | nil =>
    intro k cs h
    rw [splX_eq _ _ _ (by simpa using h)]
    simp
  | cons x l ih =>
    intro k cs h
    simp only [List.length_cons] at h
    rw [List.zipIdx_cons, List.foldl_cons, ih (k + 1) _ (by simp; omega)]
    congr 1
    rw [splX_eq _ _ _ (by simp; omega), splX_eq _ _ _ (by simp; omega)]
    simp only [Array.toList_setIfInBounds, List.length_cons]
    apply List.ext_getElem?
    intro i
    simp only [List.getElem?_append, List.getElem?_take, List.getElem?_drop, List.getElem?_set, List.length_take, List.length_append, List.length_set, List.length_cons, Array.length_toList]
    have e1 : min (off + (k + 1)) cs.size = off + k + 1 := by omega
    have e2 : min (off + k) cs.size = off + k := by omega
    rw [e1, e2]
    by_cases h1 : i < off + k
    · have : off + k ≠ i := by omega
      simp [h1, show i < off + k + 1 by omega, this, show i < off + (k + 1) by omega, show i < off + k + 1 + l.length by omega, show i < off + k + (l.length + 1) by omega]
    · by_cases h2 : i = off + k
      · subst h2
        simp [show off + k < cs.size by omega, show off + k < off + (k + 1) by omega, show off + k < off + k + 1 + l.length by omega]
      · by_cases h3 : i < off + k + 1 + l.length
        · simp [h1, show ¬ i < off + k + 1 by omega, h3, show i < off + k + (l.length + 1) by omega]
          rw [show i - (off + k) = (i - (off + k + 1)) + 1 by omega, List.getElem?_cons_succ]
        · simp [h3, show ¬ i < off + k + (l.length + 1) by omega]
          have : off + k ≠ off + (k + 1) + l.length + (i - (off + k + 1 + l.length)) := by omega
          rw [if_neg this]
          congr 1
          omega

theorem fill_cells0 (off : Nat) (v : Array Value) (cs : Array Value) (h : off + v.size ≤ cs.size) :
    (v.zipIdx.foldl (fun cs (x : Value × Nat) => cs.setIfInBounds (off + x.2) x.1) cs) = (splX off v.toList cs.toList).toArray := by
  have := fill_cells off v.toList 0 cs (by simpa using h)
  rw [← Array.foldl_toList, Array.toList_zipIdx]
  simpa using this

noncomputable def fillS (cfg : Cfg) (S : St) (place : Nat → Option (Nat × Nat)) (cells : List FV) : List (Nat × Operand) → Option (List FV)
  | [] => some cells
  | (i, x) :: rest => match place i, evO cfg S.F x with
    | some (off, size), some v => match cellsS v with
      | some l => match allFlat l, Nat.beq (lenX l) size, Nat.ble (off + lenX l) (lenX cells) with
        | true, true, true => fillS cfg S place (splX off l cells) rest
        | _, _, _ => none
      | none => none
    | _, _ => none

theorem fillS_sound (hF : FrOK ρ s.nx s.N s.F a) (hM : MemOK cfg w0 ρ s w) (place : Nat → Option (Nat × Nat)) : ∀ (parts : List (Nat × Operand)) (cells r : List FV),
    okL ρ s.nx cells → fillS cfg s place cells parts = some r →
    Instr.fill place (denL ρ cells).toArray (parts.map fun p => (p.1, a.eval p.2)) = some (denL ρ r).toArray ∧ okL ρ s.nx r ∧ r.length = cells.length
  | [], cells, r, hok, h => by
    have h := Option.some.inj h
    subst h
    exact ⟨rfl, hok, rfl⟩
  | (i, x) :: rest, cells, r, hok, h => by
    unfold fillS at h
    split at h
    · rename_i off size v hp hv
      obtain ⟨h1, h2⟩ := evO_sound hF hM hv
      split at h
      · rename_i l hl
        split at h
        · rename_i hf hs hb
          have hs := beq_eq hs
          have hb := Nat.le_of_ble_eq_true hb
          rw [lenX_eq] at hs hb
          rw [lenX_eq] at hb
          have hcd := cellsS_den hl hf ρ
          have hlen : (denL ρ l).length = l.length := by simp [denL]
          have hlen' : (denL ρ cells).length = cells.length := by simp [denL]
          have hok' : okL ρ s.nx (splX off l cells) := fun y hy => by
            rcases splX_mem hb hy with hy | hy
            · exact cellsS_ok hl h2 y hy
            · exact hok y hy
          obtain ⟨h3, h4, h5⟩ := fillS_sound hF hM place rest _ _ hok' h
          refine ⟨?_, h4, h5.trans (splX_length _ _ _ hb)⟩
          simp only [List.map_cons, Instr.fill, hp]
          have e1 : (a.eval x).cells = (denL ρ l).toArray := by rw [h1]; exact hcd
          rw [e1]
          have c1 : ¬ ((denL ρ l).toArray.size ≠ size || decide (off + (denL ρ l).toArray.size > (denL ρ cells).toArray.size)) = true := by
            simp [hlen, hlen', hs]; omega
          rw [if_neg c1]
          rw [fill_cells0 off _ _ (by simp [hlen, hlen']; omega)]
          simp only
          have e2 : splX off (denL ρ l) (denL ρ cells) = denL ρ (splX off l cells) := (splX_map (FV.den ρ) off l cells hb).symm
          rw [e2]
          exact h3
        · cases h
      · cases h
    · cases h

def zeroL (v : Value) : Option (List FV) :=
  match v with
  | .agg cs => some (cs.toList.map ofVal)
  | .tuple _ => none
  | v => some [ofVal v]
theorem zeroL_den {v : Value} {l : List FV} (h : zeroL v = some l) (ρ : Env) : v.cells = (denL ρ l).toArray := by
  cases v <;> first | (cases h; done) | (have h := Option.some.inj h; subst h; first | (simp only [Value.cells, denL_ofVal]; done) | rfl)
theorem zeroL_ok {v : Value} {l : List FV} (h : zeroL v = some l) (ρ : Env) (n : Nat) : okL ρ n l := by
  have key : ∀ q : List Value, okL ρ n (q.map ofVal) := fun q x hx => by
    simp only [List.mem_map] at hx
    obtain ⟨v, _, rfl⟩ := hx
    exact ok_ofVal ρ n v
  cases v <;> first | (cases h; done) | (have h := Option.some.inj h; subst h; first | exact key _ | (intro x hx; rw [List.mem_singleton] at hx; rw [hx]; exact ok_ofVal ρ n _))

noncomputable def placesS (cfg : Cfg) : List Field → Option (List (Nat × Nat))
  | [] => some []
  | f :: l => match findT f.type cfg.tabs, placesS cfg l with
    | some t, some r => some ((f.offset, t.size) :: r)
    | _, _ => none
theorem placesS_sound (hc : CfgOk P cfg) : ∀ (l : List Field) (r : List (Nat × Nat)), placesS cfg l = some r →
    (l.mapM (fun f => do pure (f.offset, ← sizeOf f.type) : Field → Sem (Nat × Nat))).run P w = .ok r w
  | [], r, h => by
    have h := Option.some.inj h
    subst h
    simp
  | f :: l, r, h => by
    unfold placesS at h
    split at h
    · rename_i t q ht hq
      have h := Option.some.inj h
      subst h
      have e1 := hc.sizeOf ht w
      have e2 := placesS_sound hc l q hq
      simp only [List.mapM_cons, Sem.run_bind, e1, Result.andThen_ok, Sem.run_pure, e2]
    · cases h

noncomputable def pBuild (cfg : Cfg) (S : St) (orc : List Bool) (t : TypeId) (parts : Array (Nat × Operand)) : Option Pv :=
  match findT t cfg.tabs with
  | some td => match zeroL td.zero, td.desc with
    | some z, .struct fs => match placesS cfg fs.toList with
      | some ps => match fillS cfg S (fun i => nth? ps i) z parts.toList with
        | some r => some ⟨.agg r, orc, []⟩
        | none => none
      | none => none
    | some z, .array _ e => match findT e cfg.tabs with
      | some te => match fillS cfg S (fun i => some (i * te.size, te.size)) z parts.toList with
        | some r => some ⟨.agg r, orc, []⟩
        | none => none
      | none => none
    | _, _ => none
  | none => none
theorem pBuild_sound (hc : CfgOk P cfg) (hF : FrOK ρ s.nx s.N s.F a) (hM : MemOK cfg w0 ρ s w) {orc : List Bool} {t : TypeId} {parts : Array (Nat × Operand)} {r : Pv}
    (h : pBuild cfg s orc t parts = some r) : PureAt P ρ s.nx w (Instr.build t (parts.map fun (i, x) => (i, a.eval x))) r := by
  unfold pBuild at h
  split at h
  · rename_i td ht
    have e0 := hc.zeroOf ht w
    have e1 := hc.under ht w
    split at h
    · rename_i z fs hz hd
      split at h
      · rename_i ps hps
        split at h
        · rename_i q hq
          have h := Option.some.inj h
          subst h
          rw [hd] at e1
          have e2 := placesS_sound (w := w) hc _ _ hps
          obtain ⟨h1, h2, _⟩ := fillS_sound hF hM _ _ _ _ (zeroL_ok hz ρ s.nx) hq
          have e3 : (fun i => nth? ps i) = fun i => ps.toArray[i]? := by funext i; rw [nth?_eq]; simp
          rw [e3] at h1
          refine ⟨?_, h2⟩
          unfold Instr.build
          simp only [Sem.run_bind, e0, Result.andThen_ok, e1, zeroL_den hz ρ, SV.den]
          have e4 : (fs.mapM (fun f => do pure (f.offset, ← sizeOf f.type) : Field → Sem (Nat × Nat))).run P w = .ok ps.toArray w := by
            rw [← Array.toArray_toList (xs := fs), List.mapM_toArray]
            simp only [Sem.run_map, e2, Result.andThen_ok]
          rw [e4]
          simp only [Result.andThen_ok, Array.toList_map]
          rw [h1]
          rfl
        · cases h
      · cases h
    · rename_i z n e hz hd
      split at h
      · rename_i te he
        split at h
        · rename_i q hq
          have h := Option.some.inj h
          subst h
          rw [hd] at e1
          have e2 := hc.sizeOf he w
          obtain ⟨h1, h2, _⟩ := fillS_sound hF hM _ _ _ _ (zeroL_ok hz ρ s.nx) hq
          refine ⟨?_, h2⟩
          unfold Instr.build
          simp only [Sem.run_bind, e0, Result.andThen_ok, e1, zeroL_den hz ρ, SV.den, e2, Array.toList_map]
          rw [h1]
          rfl
        · cases h
      · cases h
    · cases h
  · cases h

/-! All of them. -/
noncomputable def pNil (cfg : Cfg) (S : St) (orc : List Bool) (x : Operand) : Option Pv :=
  match evF cfg S x with
  | some (.ptr j o) => some ⟨.f (.ptr j o), orc, []⟩
  | _ => none
noncomputable def pPick (cfg : Cfg) (S : St) (orc : List Bool) (c x y : Operand) : Option Pv :=
  match evF cfg S c with
  | some (.bool b) => match evO cfg S.F (match b with | true => x | false => y) with
    | some v => some ⟨v, orc, []⟩
    | none => none
  | _ => none
noncomputable def pMove (cfg : Cfg) (S : St) (orc : List Bool) (x : Operand) : Option Pv :=
  match evO cfg S.F x with
  | some v => some ⟨v, orc, []⟩
  | none => none

noncomputable def pureOp (cfg : Cfg) (S : St) (o : Op) : Option Pv :=
  match o with
  | .move x => pMove cfg S S.orc x
  | .assign x => pMove cfg S S.orc x
  | .binOp op t x y _ => pBin cfg S S.orc op t x y
  | .convert src dst x => pConvert cfg S S.orc src dst x
  | .nilCheck x => pNil cfg S S.orc x
  | .indexAddr t x ix => pIndexAddr cfg S S.orc t x ix
  | .load t x => pLoad cfg S S.orc t x
  | .fieldAddr t x f => pFieldAddr cfg S S.orc t x f
  | .field t x f => pField cfg S S.orc t x f
  | .index t x ix => pIndex cfg S S.orc t x ix
  | .extract x i => pExtract cfg S S.orc x i
  | .slice t x lo hi mx => pSlice cfg S S.orc t x lo hi mx
  | .sliceToArrayPointer t x => pToArr cfg S S.orc t x
  | .build t parts => pBuild cfg S S.orc t parts
  | .pick c x y => pPick cfg S S.orc c x y
  | .call c => match c.callee with
    | .builtin .len => match c.args.toList, c.argTypes.toList with
      | [x], [t] => pLen cfg S S.orc t x
      | _, _ => none
    | _ => none
  | _ => none

theorem pureOp_sound (hc : CfgOk P cfg) (hF : FrOK ρ s.nx s.N s.F a) (hM : MemOK cfg w0 ρ s w) {o : Oper} {r : Pv} (h : pureOp cfg s o.op = some r) (hob : Obs ρ r.obs) :
    (execOp a.eval o).run P w = .ok (.value (r.v.den ρ)) w ∧ r.v.ok ρ s.nx := by
  have fin : ∀ {m : Sem Value}, PureAt P ρ s.nx w m r → (do pure (Next.value (← m)) : Sem Next).run P w = .ok (.value (r.v.den ρ)) w ∧ r.v.ok ρ s.nx := fun hm => ⟨by simp only [Sem.run_bind, hm.1, Result.andThen_ok, Sem.run_pure], hm.2⟩
  have mv : ∀ x, pMove cfg s s.orc x = some r → a.eval x = r.v.den ρ ∧ r.v.ok ρ s.nx := fun x hx => by
    unfold pMove at hx
    split at hx
    · rename_i v hv
      have hx := Option.some.inj hx
      subst hx
      exact evO_sound hF hM hv
    · cases hx
  obtain ⟨dst, op, ty, pos, after, guard⟩ := o
  unfold execOp
  cases op <;> first | (cases h; done) | skip
  case move x => obtain ⟨h1, h2⟩ := mv x h; exact ⟨by simp only [h1, Sem.run_pure], h2⟩
  case assign x => obtain ⟨h1, h2⟩ := mv x h; exact ⟨by simp only [h1, Sem.run_pure], h2⟩
  case pick c x y =>
    have h : pPick cfg s s.orc c x y = some r := h
    unfold pPick at h
    split at h
    · rename_i b hb
      obtain ⟨h1, _⟩ := evF_sound hF hM hb
      split at h
      · rename_i v hv
        have h := Option.some.inj h
        subst h
        obtain ⟨h2, h3⟩ := evO_sound hF hM hv
        refine ⟨?_, h3⟩
        simp only [h1, FV.den, asBool, Sem.run_bind, Sem.run_pure, Result.andThen_ok]
        cases b <;> simp_all
      · cases h
    · cases h
  case build t parts => exact fin (pBuild_sound hc hF hM h)
  case load t x => exact fin (pLoad_sound hc hF hM h)
  case nilCheck x =>
    have h : pNil cfg s s.orc x = some r := h
    unfold pNil at h
    split at h
    · rename_i j o' hb
      obtain ⟨h1, h2⟩ := evF_sound hF hM hb
      have h := Option.some.inj h
      subst h
      refine ⟨?_, h2⟩
      simp only [h1, FV.den, SV.den, Sem.run_pure]
    · cases h
  case binOp bo xt x y yt => exact fin (pBin_sound hc hF hM h hob)
  case convert src dst x => exact fin (pConvert_sound hc hF hM h)
  case sliceToArrayPointer t x => exact fin (pToArr_sound hc hF hM h)
  case slice t x lo hi mx => exact fin (pSlice_sound hc hF hM h)
  case fieldAddr t x f => exact fin (pFieldAddr_sound hc hF hM h)
  case field t x f => exact fin (pField_sound hc hF hM h)
  case indexAddr t x ix => exact fin (pIndexAddr_sound hc hF hM h)
  case index t x ix => exact fin (pIndex_sound hc hF hM h)
  case extract x i => exact fin (pExtract_sound hF hM h)
  case call c =>
    obtain ⟨callee, args, argTypes⟩ := c
    cases callee <;> first | (cases h; done) | skip
    rename_i b
    cases b <;> first | (cases h; done) | skip
    have h : (match args.toList, argTypes.toList with | [x], [t] => pLen cfg s s.orc t x | _, _ => none) = some r := h
    split at h
    · rename_i x t hx ht
      have hx' : args = #[x] := by rw [← Array.toArray_toList (xs := args), hx]
      have ht' : argTypes = #[t] := by rw [← Array.toArray_toList (xs := argTypes), ht]
      subst hx' ht'
      have := fin (pLen_sound hc hF hM (ty := ty) h)
      simpa [resolve, invoke, builtin] using this
    · cases h

end
end Go.Sx
