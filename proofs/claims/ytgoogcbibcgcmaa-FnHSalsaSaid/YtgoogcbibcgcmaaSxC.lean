/- A symbolic executor over the model, part three: the operations that only read, one by one. -/
import Derived.Test.YtgoogcbibcgcmaaSxB
namespace Go.Sx
open Go

section
variable {P : Program} {cfg : Cfg} {w0 w : World} {ρ : Env} {s : St} {a : Act}

/-- A value of one cell. -/
noncomputable def evF (cfg : Cfg) (S : St) (x : Operand) : Option FV :=
  match evO cfg S.F x with
  | some (.f v) => match v with
    | .row r => match S.A.get r with
      | some (j, n) => some (.sl j 0 (.n n) (.v j 0))
      | none => some (.row r)
    | v => some v
  | _ => none
theorem evF_sound (hF : FrOK ρ s.nx s.N s.F a) (hM : MemOK cfg w0 ρ s w) {x : Operand} {v : FV} (h : evF cfg s x = some v) : a.eval x = v.den ρ ∧ v.ok ρ s.nx := by
  unfold evF at h
  split at h
  · rename_i v' h'
    split at h
    · rename_i r
      obtain ⟨h1, h2⟩ := evO_sound hF hM h'
      split at h
      · rename_i j n hA
        have h := Option.some.inj h
        subst h
        obtain ⟨h3, h4, h5, h6⟩ := hM.als r j n hA
        refine ⟨h1.trans h5, h4, h4, ?_, ?_⟩
        · simp only [E.den]; omega
        · simp only [E.den, Cp.den]; omega
      · have h := Option.some.inj h
        subst h
        exact ⟨h1, h2⟩
    · have h := Option.some.inj h
      subst h
      exact evO_sound hF hM h'
  · cases h

/-- What an operation that only reads gives. -/
def PureAt (P : Program) (ρ : Env) (nx : Nat) (w : World) (m : Sem Value) (r : Pv) : Prop := m.run P w = .ok (r.v.den ρ) w ∧ r.v.ok ρ nx

/-! convert -/
noncomputable def pConvert (cfg : Cfg) (S : St) (orc : List Bool) (src dst : TypeId) (x : Operand) : Option Pv :=
  match evF cfg S x, findT src cfg.tabs, findT dst cfg.tabs with
  | some (.int _ e), some _, some d => match d.desc with
    | .int k => some ⟨.f (.int k (e.pcv k)), orc, []⟩
    | _ => none
  | _, _, _ => none
theorem pConvert_sound (hc : CfgOk P cfg) (hF : FrOK ρ s.nx s.N s.F a) (hM : MemOK cfg w0 ρ s w) {orc : List Bool} {src dst : TypeId} {x : Operand} {r : Pv}
    (h : pConvert cfg s orc src dst x = some r) : PureAt P ρ s.nx w (convert src dst (a.eval x)) r := by
  unfold pConvert at h
  split at h
  · rename_i k0 e ts td hx hs hd
    split at h
    · rename_i k hk
      have h := Option.some.inj h
      subst h
      obtain ⟨h1, _⟩ := evF_sound hF hM hx
      refine ⟨?_, trivial⟩
      have e1 := hc.under hs w
      have e2 := hc.under hd w
      rw [hk] at e2
      rw [h1]
      simp only [FV.den, SV.den, E.den_pcv]
      unfold convert
      simp [e1, e2, Conv.intToInt]
    · cases h
  · cases h

/-! binOp -/
def eqB (o : BinOp) (b : Bool) : Option Bool :=
  match o with
  | .eql => some b
  | .neq => some (!b)
  | _ => none
def isConstO : Operand → Bool
  | .const _ => true
  | _ => false
/-- Against nil: a slice, an interface value. -/
def nilS (orc : List Bool) (o : BinOp) (d : TypeDesc) (x : FV) (y : Value) (cy : Bool) : Option Pv :=
  match d, x, y with
  | .slice _, .sl _ _ _ _, .slice none _ _ => match eqB o false with | some b => some ⟨.f (.bool b), orc, []⟩ | none => none
  | .slice _, .lit (.slice none _ _), .slice none _ _ => match eqB o true with | some b => some ⟨.f (.bool b), orc, []⟩ | none => none
  | .interface _, .ifc _ _ _, .nilIface => match eqB o false with | some b => some ⟨.f (.bool b), orc, []⟩ | none => none
  | .interface _, .lit .nilIface, .nilIface => match eqB o true, cy with | some b, true => some ⟨.f (.bool b), orc, []⟩ | _, _ => none
  | _, _, _ => none
noncomputable def pBin (cfg : Cfg) (S : St) (orc : List Bool) (o : BinOp) (t : TypeId) (x y : Operand) : Option Pv :=
  match evF cfg S x, evF cfg S y with
  | some (.int j e), some (.int k e') => binS orc o j e k e'
  | some v, some (.lit u) => match findT t cfg.tabs with
    | some td => nilS orc o td.desc v u (isConstO y)
    | none => none
  | _, _ => none
theorem run_eqB (P : Program) (w : World) (o : BinOp) (t : TypeId) (x y : Operand) (a b : Value) (r q : Bool) (ho : eqB o r = some q)
    (hg : (eqGuard o t x y a b).run P w = .ok () w)
    (hb1 : binOp .eql t a b = (do pure (.bool (← Op.equal t a b)))) (hb2 : binOp .neq t a b = (do pure (.bool (!(← Op.equal t a b)))))
    (he : (Op.equal t a b).run P w = .ok r w) :
    (do eqGuard o t x y a b; binOp o t a b : Sem Value).run P w = .ok (.bool q) w := by
  unfold eqB at ho
  split at ho
  · have := Option.some.inj ho
    subst this
    rw [Sem.run_bind, hg, Result.andThen_ok, hb1]
    simp [he]
  · have := Option.some.inj ho
    subst this
    rw [Sem.run_bind, hg, Result.andThen_ok, hb2]
    simp [he]
  · cases ho
theorem nilS_sound (hc : CfgOk P cfg) {orc : List Bool} {o : BinOp} {t : TypeId} {td : TI} (ht : findT t cfg.tabs = some td) {x y : Operand} {v : FV} {u : Value} {r : Pv}
    (h : nilS orc o td.desc v u (isConstO y) = some r) : PureAt P ρ s.nx w (do eqGuard o t x y (v.den ρ) u; binOp o t (v.den ρ) u) r := by
  have e1 := hc.under ht w
  have hm : Op.maxDepth = 9999 + 1 := rfl
  unfold nilS at h
  split at h
  · rename_i e j o' l c n1 n2 hd
    split at h
    · rename_i b hb
      have h := Option.some.inj h
      subst h
      refine ⟨run_eqB P w o t x y _ _ false b hb ?_ ?_ ?_ ?_, trivial⟩
      · unfold eqGuard; cases o <;> rfl
      · rfl
      · rfl
      · rw [hd] at e1
        unfold Op.equal
        rw [hm]
        unfold Op.equalIn
        simp only [Sem.run_bind, e1, Result.andThen_ok, FV.den, Sem.run_pure]
    · cases h
  · rename_i e n1 n2 n3 n4 hd
    split at h
    · rename_i b hb
      have h := Option.some.inj h
      subst h
      refine ⟨run_eqB P w o t x y _ _ true b hb ?_ ?_ ?_ ?_, trivial⟩
      · unfold eqGuard; cases o <;> rfl
      · rfl
      · rfl
      · rw [hd] at e1
        unfold Op.equal
        rw [hm]
        unfold Op.equalIn
        simp only [Sem.run_bind, e1, Result.andThen_ok, FV.den, Sem.run_pure, Option.isNone_none]
    · cases h
  · rename_i ms j1 j2 j3 hd
    split at h
    · rename_i b hb
      have h := Option.some.inj h
      subst h
      refine ⟨run_eqB P w o t x y _ _ false b hb ?_ ?_ ?_ ?_, trivial⟩
      · unfold eqGuard; cases o <;> rfl
      · rfl
      · rfl
      · rw [hd] at e1
        unfold Op.equal
        rw [hm]
        unfold Op.equalIn
        simp only [Sem.run_bind, e1, Result.andThen_ok, FV.den, Sem.run_pure]
    · cases h
  · rename_i ms hd
    split at h
    · rename_i b hb hcy
      have h := Option.some.inj h
      subst h
      refine ⟨run_eqB P w o t x y _ _ true b hb ?_ ?_ ?_ ?_, trivial⟩
      · cases y <;> first | cases hcy | skip
        unfold eqGuard
        cases o <;> simp [FV.den]
      · rfl
      · rfl
      · rw [hd] at e1
        unfold Op.equal
        rw [hm]
        unfold Op.equalIn
        simp only [Sem.run_bind, e1, Result.andThen_ok, FV.den, Sem.run_pure]
    · cases h
  · cases h
theorem pBin_sound (hc : CfgOk P cfg) (hF : FrOK ρ s.nx s.N s.F a) (hM : MemOK cfg w0 ρ s w) {orc : List Bool} {o : BinOp} {t : TypeId} {x y : Operand} {r : Pv}
    (h : pBin cfg s orc o t x y = some r) (hob : Obs ρ r.obs) : PureAt P ρ s.nx w (do eqGuard o t x y (a.eval x) (a.eval y); binOp o t (a.eval x) (a.eval y)) r := by
  unfold pBin at h
  split at h
  · rename_i j e k e' hx hy
    obtain ⟨h1, _⟩ := evF_sound hF hM hx
    obtain ⟨h2, _⟩ := evF_sound hF hM hy
    obtain ⟨h3, h4⟩ := binS_sound P w ρ s.nx t h hob
    refine ⟨?_, h4⟩
    rw [h1, h2]
    simp only [FV.den, Sem.run_bind, eqGuard_int, Result.andThen_ok]
    exact h3
  · rename_i hx hy
    split at h
    · rename_i td ht
      obtain ⟨h1, _⟩ := evF_sound hF hM hx
      obtain ⟨h2, _⟩ := evF_sound hF hM hy
      rw [h1, h2]
      exact nilS_sound hc ht h
    · cases h
  · cases h

/-! indexAddr -/
noncomputable def pIndexAddr (cfg : Cfg) (S : St) (orc : List Bool) (t : TypeId) (x ix : Operand) : Option Pv :=
  match evF cfg S ix, findT t cfg.tabs with
  | some (.int _ (.n z)), some td => match td.desc, evF cfg S x with
    | .array n e, some (.ptr j o) => match findT e cfg.tabs, decide (0 ≤ z ∧ z < (n : Int)) with
      | some te, true => some ⟨.f (.ptr j (o + z.toNat * te.size)), orc, []⟩
      | _, _ => none
    | .slice e, some (.sl j o (.n l) _) => match findT e cfg.tabs, decide (0 ≤ z ∧ z < l) with
      | some te, true => some ⟨.f (.ptr j (o + z.toNat * te.size)), orc, []⟩
      | _, _ => none
    | _, _ => none
  | _, _ => none
theorem pIndexAddr_sound (hc : CfgOk P cfg) (hF : FrOK ρ s.nx s.N s.F a) (hM : MemOK cfg w0 ρ s w) {orc : List Bool} {t : TypeId} {x ix : Operand} {r : Pv}
    (h : pIndexAddr cfg s orc t x ix = some r) : PureAt P ρ s.nx w (Instr.indexAt t (a.eval x) (a.eval ix)) r := by
  unfold pIndexAddr at h
  split at h
  · rename_i k z td hix ht
    obtain ⟨h1, _⟩ := evF_sound hF hM hix
    have e1 := hc.under ht w
    split at h
    · rename_i n e j o hd hx
      obtain ⟨h2, h3⟩ := evF_sound hF hM hx
      split at h
      · rename_i te he hz
        have h := Option.some.inj h
        subst h
        have hz' : 0 ≤ z ∧ z < (n : Int) := by simpa using hz
        have e2 := hc.sizeOf he w
        rw [hd] at e1
        refine ⟨?_, h3⟩
        rw [h1, h2]
        simp only [FV.den, SV.den, E.den]
        unfold Instr.indexAt
        simp [asIntOf, e1, Instr.sureAddr, hz', e2, Addr.add_lit, Nat.add_assoc]
      · cases h
    · rename_i e j o l c hd hx
      obtain ⟨h2, h3⟩ := evF_sound hF hM hx
      split at h
      · rename_i te he hz
        have h := Option.some.inj h
        subst h
        have hz' : 0 ≤ z ∧ z < l := by simpa using hz
        have e2 := hc.sizeOf he w
        rw [hd] at e1
        refine ⟨?_, h3.1⟩
        rw [h1, h2]
        have hl : (l.toNat : Int) = l := by omega
        simp only [FV.den, SV.den, E.den]
        unfold Instr.indexAt
        simp [asIntOf, e1, hl, hz', e2, Addr.add_lit, Nat.add_assoc]
      · cases h
    · cases h
  · cases h

/-! fieldAddr -/
def nth? {α : Type} : List α → Nat → Option α
  | [], _ => none
  | x :: _, 0 => some x
  | _ :: l, i + 1 => nth? l i
theorem nth?_eq {α : Type} : ∀ (l : List α) (i : Nat), nth? l i = l[i]?
  | [], i => by simp [nth?]
  | x :: l, 0 => by simp [nth?]
  | x :: l, i + 1 => by simp [nth?, nth?_eq l i]

noncomputable def pFieldAddr (cfg : Cfg) (S : St) (orc : List Bool) (t : TypeId) (x : Operand) (f : Nat) : Option Pv :=
  match findT t cfg.tabs, evF cfg S x with
  | some td, some (.ptr j o) => match td.desc with
    | .struct fs => match nth? fs.toList f with
      | some fd => match findT fd.type cfg.tabs with
        | some te => match Nat.beq te.size 0 with
          | false => some ⟨.f (.ptr j (o + fd.offset)), orc, []⟩
          | true => none
        | none => none
      | none => none
    | _ => none
  | _, _ => none
theorem pFieldAddr_sound (hc : CfgOk P cfg) (hF : FrOK ρ s.nx s.N s.F a) (hM : MemOK cfg w0 ρ s w) {orc : List Bool} {t : TypeId} {x : Operand} {f : Nat} {r : Pv}
    (h : pFieldAddr cfg s orc t x f = some r) : PureAt P ρ s.nx w (Instr.fieldAt t (a.eval x) f) r := by
  unfold pFieldAddr at h
  split at h
  · rename_i td j o ht hx
    obtain ⟨h2, h3⟩ := evF_sound hF hM hx
    have e1 := hc.under ht w
    split at h
    · rename_i fs hd
      split at h
      · rename_i fd hfd
        split at h
        · rename_i te he
          split at h
          · rename_i hz
            have h := Option.some.inj h
            subst h
            rw [hd] at e1
            have e2 := hc.sizeOf he w
            have hne : te.size ≠ 0 := fun e => by rw [e] at hz; cases hz
            have hg : fs[f]? = some fd := by rw [nth?_eq] at hfd; simpa using hfd
            refine ⟨?_, h3⟩
            rw [h2]
            simp only [FV.den, SV.den]
            unfold Instr.fieldAt
            simp [e1, hg, Instr.sureAddr, fieldPlace, e2, hne, Addr.add_lit, Nat.add_assoc]
          · cases h
        · cases h
      · cases h
    · cases h
  · cases h

/-! load -/
def isAggD : TypeDesc → Bool
  | .struct _ | .array _ _ => true
  | _ => false
theorem run_isAgg (hc : CfgOk P cfg) {t : TypeId} {td : TI} (ht : findT t cfg.tabs = some td) (w : World) : (isAgg t).run P w = .ok (isAggD td.desc) w := by
  have e1 := hc.under ht w
  unfold isAgg
  simp only [Sem.run_bind, e1, Result.andThen_ok]
  cases td.desc <;> rfl

def takeX {α : Type} : Nat → List α → Option (List α)
  | 0, _ => some []
  | _ + 1, [] => none
  | n + 1, x :: l => match takeX n l with
    | some r => some (x :: r)
    | none => none
def dropX {α : Type} : Nat → List α → List α
  | 0, l => l
  | _ + 1, [] => []
  | n + 1, _ :: l => dropX n l
theorem dropX_eq {α : Type} : ∀ (n : Nat) (l : List α), dropX n l = l.drop n
  | 0, l => rfl
  | n + 1, [] => by simp [dropX]
  | n + 1, x :: l => by simp [dropX, dropX_eq n l]
theorem takeX_eq {α : Type} : ∀ (n : Nat) (l r : List α), takeX n l = some r → r = l.take n ∧ r.length = n
  | 0, l, r, h => by simp [takeX] at h; subst h; simp
  | n + 1, [], r, h => by cases h
  | n + 1, x :: l, r, h => by
    unfold takeX at h
    split at h
    · rename_i q hq
      have h := Option.some.inj h
      subst h
      obtain ⟨h1, h2⟩ := takeX_eq n l q hq
      refine ⟨by simp [h1], by simp [h2]⟩
    · cases h

noncomputable def pLoad (cfg : Cfg) (S : St) (orc : List Bool) (t : TypeId) (x : Operand) : Option Pv :=
  match evF cfg S x, findT t cfg.tabs with
  | some (.ptr j o), some td => match S.M.get j with
    | some W => match isAggD td.desc with
      | true => match takeX td.size (dropX o W.cells) with
        | some l => some ⟨.agg l, orc, []⟩
        | none => none
      | false => match nth? W.cells o with
        | some v => some ⟨.f v, orc, []⟩
        | none => none
    | none => none
  | _, _ => none
theorem pLoad_sound (hc : CfgOk P cfg) (hF : FrOK ρ s.nx s.N s.F a) (hM : MemOK cfg w0 ρ s w) {orc : List Bool} {t : TypeId} {x : Operand} {r : Pv}
    (h : pLoad cfg s orc t x = some r) : PureAt P ρ s.nx w (Instr.loadAt t (a.eval x)) r := by
  unfold pLoad at h
  split at h
  · rename_i j o td hx ht
    obtain ⟨h2, h3⟩ := evF_sound hF hM hx
    have e1 := run_isAgg hc ht w
    split at h
    · rename_i W hW
      obtain ⟨hj, hok, hcell⟩ := hM.cell j W hW
      split at h
      · rename_i hag
        split at h
        · rename_i l hl
          have h := Option.some.inj h
          subst h
          rw [hag] at e1
          have e2 := hc.sizeOf ht w
          obtain ⟨hl1, hl2⟩ := takeX_eq _ _ _ hl
          rw [dropX_eq] at hl1
          have hmem : ∀ i y, l[i]? = some y → W.cells[o + i]? = some y := by
            intro i y hy
            rw [hl1, List.getElem?_take] at hy
            split at hy
            · simpa using hy
            · cases hy
          refine ⟨?_, fun y hy => ?_⟩
          · rw [h2]
            have hld := run_loadCells_list (P := P) (w := w) ⟨ρ.b j, ρ.o j + o, none⟩ (denL ρ l) (fun i v hv => by
              rw [Addr.add_lit, Nat.add_assoc]
              simp only [denL, List.getElem?_map] at hv
              cases hy : l[i]? with
              | none => rw [hy] at hv; cases hv
              | some y =>
                rw [hy] at hv
                have hv : y.den ρ = v := by simpa using hv
                rw [← hv]
                exact hcell _ _ (hmem i y hy))
            have hlen : (denL ρ l).length = td.size := by simp [denL, hl2]
            rw [hlen] at hld
            simp only [FV.den, SV.den]
            unfold Instr.loadAt loadVar
            simp [Instr.sureAddr, e1, e2, hld]
          · obtain ⟨i, hi⟩ := List.getElem?_of_mem hy
            exact hok y (List.mem_of_getElem? (hmem i y hi))
        · cases h
      · rename_i hag
        split at h
        · rename_i v hv
          have h := Option.some.inj h
          subst h
          rw [hag] at e1
          rw [nth?_eq] at hv
          refine ⟨?_, hok v (List.mem_of_getElem? hv)⟩
          rw [h2]
          have := hcell o v hv
          show (Instr.loadAt t (.pointer (some ⟨ρ.b j, ρ.o j + o, none⟩))).run P w = .ok (v.den ρ) w
          unfold Instr.loadAt loadVar
          simp [Instr.sureAddr, e1, this]
        · cases h
    · cases h
  · cases h

/-! field, index, extract: parts of values -/
theorem run_part (hc : CfgOk P cfg) {t : TypeId} {td : TI} (ht : findT t cfg.tabs = some td) (w : World) (l : List FV) (o : Nat) {v : SV}
    (h : (match isAggD td.desc with | true => (match takeX td.size (dropX o l) with | some q => some (SV.agg q) | none => none) | false => (match nth? l o with | some q => some (SV.f q) | none => none)) = some v) :
    (part t (denL ρ l).toArray o).run P w = .ok (v.den ρ) w ∧ (∀ n, okL ρ n l → v.ok ρ n) := by
  have e1 := run_isAgg hc ht w
  split at h
  · rename_i hag
    split at h
    · rename_i q hq
      have h := Option.some.inj h
      subst h
      rw [hag] at e1
      have e2 := hc.sizeOf ht w
      obtain ⟨hl1, hl2⟩ := takeX_eq _ _ _ hq
      rw [dropX_eq] at hl1
      refine ⟨?_, fun n hn y hy => ?_⟩
      · unfold part
        simp only [Sem.run_bind, e1, e2, Result.andThen_ok, Sem.run_pure, if_true, SV.den, hl1]
        congr 2
        simp [denL, List.map_drop, List.map_take]
      · rw [hl1] at hy
        exact hn y (List.mem_of_mem_drop (List.mem_of_mem_take hy))
    · cases h
  · rename_i hag
    split at h
    · rename_i q hq
      have h := Option.some.inj h
      subst h
      rw [hag] at e1
      rw [nth?_eq] at hq
      refine ⟨?_, fun n hn => hn q (List.mem_of_getElem? hq)⟩
      unfold part
      have : (denL ρ l).toArray[o]? = some (q.den ρ) := by simp [denL, hq]
      simp [e1, this, SV.den]
    · cases h

def partS (td : TI) (l : List FV) (o : Nat) : Option SV :=
  match isAggD td.desc with
  | true => (match takeX td.size (dropX o l) with | some q => some (SV.agg q) | none => none)
  | false => (match nth? l o with | some q => some (SV.f q) | none => none)

noncomputable def pField (cfg : Cfg) (S : St) (orc : List Bool) (t : TypeId) (x : Operand) (f : Nat) : Option Pv :=
  match findT t cfg.tabs, evO cfg S.F x with
  | some td, some (.agg l) => match td.desc with
    | .struct fs => match nth? fs.toList f with
      | some fd => match findT fd.type cfg.tabs with
        | some te => match partS te l fd.offset with
          | some v => some ⟨v, orc, []⟩
          | none => none
        | none => none
      | none => none
    | _ => none
  | _, _ => none
theorem pField_sound (hc : CfgOk P cfg) (hF : FrOK ρ s.nx s.N s.F a) (hM : MemOK cfg w0 ρ s w) {orc : List Bool} {t : TypeId} {x : Operand} {f : Nat} {r : Pv}
    (h : pField cfg s orc t x f = some r) : PureAt P ρ s.nx w (Instr.field t (a.eval x) f) r := by
  unfold pField at h
  split at h
  · rename_i td l ht hx
    obtain ⟨h2, h3⟩ := evO_sound hF hM hx
    have e1 := hc.under ht w
    split at h
    · rename_i fs hd
      split at h
      · rename_i fd hfd
        split at h
        · rename_i te he
          split at h
          · rename_i v hv
            have h := Option.some.inj h
            subst h
            rw [hd] at e1
            have hg : fs[f]? = some fd := by rw [nth?_eq] at hfd; simpa using hfd
            obtain ⟨h4, h5⟩ := run_part (ρ := ρ) hc he w l fd.offset hv
            refine ⟨?_, h5 _ h3⟩
            rw [h2]
            unfold Instr.field
            simp [e1, hg, SV.den, asAgg, h4]
          · cases h
        · cases h
      · cases h
    · cases h
  · cases h

noncomputable def pIndex (cfg : Cfg) (S : St) (orc : List Bool) (t : TypeId) (x ix : Operand) : Option Pv :=
  match findT t cfg.tabs, evO cfg S.F x, evF cfg S ix with
  | some td, some (.agg l), some (.int _ (.n z)) => match td.desc with
    | .array n e => match findT e cfg.tabs, decide (0 ≤ z ∧ z < (n : Int)) with
      | some te, true => match partS te l (z.toNat * te.size) with
        | some v => some ⟨v, orc, []⟩
        | none => none
      | _, _ => none
    | _ => none
  | _, _, _ => none
theorem pIndex_sound (hc : CfgOk P cfg) (hF : FrOK ρ s.nx s.N s.F a) (hM : MemOK cfg w0 ρ s w) {orc : List Bool} {t : TypeId} {x ix : Operand} {r : Pv}
    (h : pIndex cfg s orc t x ix = some r) : PureAt P ρ s.nx w (Instr.index t (a.eval x) (a.eval ix)) r := by
  unfold pIndex at h
  split at h
  · rename_i td l k z ht hx hix
    obtain ⟨h1, _⟩ := evF_sound hF hM hix
    obtain ⟨h2, h3⟩ := evO_sound hF hM hx
    have e1 := hc.under ht w
    split at h
    · rename_i n e hd
      split at h
      · rename_i te he hz
        split at h
        · rename_i v hv
          have h := Option.some.inj h
          subst h
          have hz' : 0 ≤ z ∧ z < (n : Int) := by simpa using hz
          rw [hd] at e1
          have e2 := hc.sizeOf he w
          obtain ⟨h4, h5⟩ := run_part (ρ := ρ) hc he w l _ hv
          refine ⟨?_, h5 _ h3⟩
          rw [h1, h2]
          unfold Instr.index
          simp [asIntOf, FV.den, E.den, e1, SV.den, hz', e2, h4]
        · cases h
      · cases h
    · cases h
  · cases h

def tupPart : Bool × List FV → Option SV
  | (true, l) => some (.agg l)
  | (false, [x]) => some (.f x)
  | _ => none
noncomputable def pExtract (cfg : Cfg) (S : St) (orc : List Bool) (x : Operand) (i : Nat) : Option Pv :=
  match evO cfg S.F x with
  | some (.tup l) => match nth? l i with
    | some p => match tupPart p with
      | some v => some ⟨v, orc, []⟩
      | none => none
    | none => none
  | _ => none
theorem pExtract_sound (hF : FrOK ρ s.nx s.N s.F a) (hM : MemOK cfg w0 ρ s w) {orc : List Bool} {x : Operand} {i : Nat} {r : Pv}
    (h : pExtract cfg s orc x i = some r) : PureAt P ρ s.nx w (Instr.extract (a.eval x) i) r := by
  unfold pExtract at h
  split at h
  · rename_i l hx
    obtain ⟨h2, h3⟩ := evO_sound hF hM hx
    split at h
    · rename_i p hp
      split at h
      · rename_i v hv
        have h := Option.some.inj h
        subst h
        rw [nth?_eq] at hp
        have hv' : v.den ρ = partDen ρ p ∧ (okL ρ s.nx p.2 → v.ok ρ s.nx) := by
          unfold tupPart at hv
          split at hv
          · have hv := Option.some.inj hv; subst hv; exact ⟨rfl, id⟩
          · have hv := Option.some.inj hv; subst hv; exact ⟨rfl, fun h => h _ (by simp)⟩
          · cases hv
        refine ⟨?_, hv'.2 (h3 p (List.mem_of_getElem? hp))⟩
        rw [h2, hv'.1]
        unfold Instr.extract
        simp [SV.den, hp]
      · cases h
    · cases h
  · cases h

/-! slices -/
noncomputable def litO (cfg : Cfg) (S : St) : Option Operand → Option (Option Int)
  | none => some none
  | some x => match evF cfg S x with
    | some (.int _ (.n z)) => some (some z)
    | _ => none

/-- 'x[lo:hi]' at bounds that are known; of an array's address, or of a slice of a known length. -/
noncomputable def pSlice (cfg : Cfg) (S : St) (orc : List Bool) (t : TypeId) (x : Operand) (lo hi mx : Option Operand) : Option Pv :=
  match findT t cfg.tabs, evF cfg S x, litO cfg S lo, litO cfg S hi, mx with
  | some td, some v, some lo', some hi', none => match td.desc, v with
    | .array n e, .ptr j o => match findT e cfg.tabs, decide (0 ≤ lo'.getD 0 ∧ lo'.getD 0 ≤ hi'.getD n ∧ hi'.getD n ≤ (n : Int)) && decide (lo'.getD 0 < (n : Int) ∨ lo'.getD 0 = 0) with
      | some te, true => some ⟨.f (.sl j (o + (lo'.getD 0).toNat * te.size) (.n (hi'.getD n - lo'.getD 0)) (.l (n - (lo'.getD 0).toNat))), orc, []⟩
      | _, _ => none
    | .slice e, .sl j o (.n l) c => match findT e cfg.tabs, decide (0 ≤ lo'.getD 0 ∧ lo'.getD 0 ≤ hi'.getD l ∧ hi'.getD l ≤ l) && decide (lo'.getD 0 < l ∨ lo'.getD 0 = 0) with
      | some te, true => some ⟨.f (.sl j (o + (lo'.getD 0).toNat * te.size) (.n (hi'.getD l - lo'.getD 0)) (c.less (lo'.getD 0).toNat)), orc, []⟩
      | _, _ => none
    | _, _ => none
  | _, _, _, _, _ => none

theorem litO_sound (hF : FrOK ρ s.nx s.N s.F a) (hM : MemOK cfg w0 ρ s w) {x : Option Operand} {z : Option Int} (h : litO cfg s x = some z) :
    (x = none ∧ z = none) ∨ ∃ y k n, x = some y ∧ z = some n ∧ a.eval y = .int k n := by
  cases x with
  | none =>
    have h := Option.some.inj h
    subst h
    exact .inl ⟨rfl, rfl⟩
  | some y =>
    simp only [litO] at h
    split at h
    · rename_i k n hy
      have h := Option.some.inj h
      subst h
      obtain ⟨h1, _⟩ := evF_sound hF hM hy
      exact .inr ⟨y, k, n, rfl, rfl, h1⟩
    · cases h

theorem run_sliceBound (P : Program) (w : World) (k : IntKind) (n : Int) (y : Nat) (code : BoundsCode) (h : 0 ≤ n ∧ n ≤ (y : Int)) : (Instr.sliceBound (.int k n) y code).run P w = .ok n.toNat w := by
  unfold Instr.sliceBound
  simp [asIntOf, h]

theorem run_sliceBounds (hF : FrOK ρ s.nx s.N s.F a) (hM : MemOK cfg w0 ρ s w) {lo hi : Option Operand} {lo' hi' : Option Int} (h1 : litO cfg s lo = some lo') (h2 : litO cfg s hi = some hi')
    (b : Bool) (len cap : Nat) (hb : 0 ≤ lo'.getD 0 ∧ lo'.getD 0 ≤ hi'.getD len ∧ hi'.getD len ≤ (len : Int)) (hlc : len ≤ cap) :
    (Instr.sliceBounds b len cap (lo.map a.eval) (hi.map a.eval) none).run P w = .ok ((lo'.getD 0).toNat, (hi'.getD len).toNat, cap) w := by
  unfold Instr.sliceBounds
  rcases litO_sound hF hM h2 with ⟨rfl, rfl⟩ | ⟨y, k, n, rfl, rfl, e2⟩
  · rcases litO_sound hF hM h1 with ⟨rfl, rfl⟩ | ⟨y, k, n, rfl, rfl, e1⟩
    · simp
    · simp only [Option.getD_some, Option.getD_none] at hb
      simp [e1, run_sliceBound P w k n len .sliceB ⟨hb.1, hb.2.1⟩]
  · simp only [Option.getD_some] at hb
    have e3 := run_sliceBound P w k n cap (if b = true then .sliceAcap else .sliceAlen) ⟨by omega, by omega⟩
    rcases litO_sound hF hM h1 with ⟨rfl, rfl⟩ | ⟨y', k', n', rfl, rfl, e1⟩
    · simp [e2, e3]
    · simp only [Option.getD_some] at hb
      simp [e1, e2, e3, run_sliceBound P w k' n' n.toNat .sliceB ⟨hb.1, by omega⟩]

theorem pSlice_sound (hc : CfgOk P cfg) (hF : FrOK ρ s.nx s.N s.F a) (hM : MemOK cfg w0 ρ s w) {orc : List Bool} {t : TypeId} {x : Operand} {lo hi mx : Option Operand} {r : Pv}
    (h : pSlice cfg s orc t x lo hi mx = some r) : PureAt P ρ s.nx w (Instr.sliceAt t (a.eval x) (lo.map a.eval) (hi.map a.eval) (mx.map a.eval)) r := by
  unfold pSlice at h
  split at h
  · rename_i td v lo' hi' ht hx hlo hhi
    obtain ⟨h2, h3⟩ := evF_sound hF hM hx
    have e1 := hc.under ht w
    split at h
    · rename_i n e j o hd
      split at h
      · rename_i te he hz
        have h := Option.some.inj h
        subst h
        rw [hd] at e1
        simp only [Bool.and_eq_true, decide_eq_true_eq] at hz
        obtain ⟨hz, hz2⟩ := hz
        have e2 := hc.sizeOf he w
        have e3 := run_sliceBounds (P := P) hF hM hlo hhi false n n hz (Nat.le_refl _)
        refine ⟨?_, h3, trivial, by simp only [E.den]; omega, by simp only [E.den, Cp.den]; omega⟩
        rw [h2]
        simp only [FV.den, SV.den, E.den, Cp.den]
        unfold Instr.sliceAt
        simp only [Option.map_none, Sem.run_bind, e1, Result.andThen_ok, Instr.sureAddr, Sem.run_pure, e3, e2, Addr.add_lit]
        have q1 : (hi'.getD (n : Int)).toNat - (lo'.getD 0).toNat = (hi'.getD (n : Int) - lo'.getD 0).toNat := by omega
        rw [q1]
        by_cases hl : n = (lo'.getD 0).toNat
        · have hl0 : (lo'.getD 0).toNat = 0 := by omega
          rw [if_pos hl, hl0]
          simp
        · rw [if_neg hl, Nat.add_assoc]
      · cases h
    · rename_i e j o l c hd
      split at h
      · rename_i te he hz
        have h := Option.some.inj h
        subst h
        rw [hd] at e1
        simp only [Bool.and_eq_true, decide_eq_true_eq] at hz
        obtain ⟨hz, hz2⟩ := hz
        obtain ⟨hj, hcp, hl0, hlc⟩ := h3
        simp only [E.den] at hl0 hlc
        have e2 := hc.sizeOf he w
        have hll : (l.toNat : Int) = l := by omega
        have e3 := run_sliceBounds (P := P) hF hM hlo hhi true l.toNat (c.den ρ) (by rw [hll]; exact hz) (by omega)
        refine ⟨?_, hj, ?_, by simp only [E.den]; omega, by simp only [E.den, Cp.den_less]; omega⟩
        · rw [h2]
          simp only [FV.den, SV.den, E.den, Cp.den_less]
          unfold Instr.sliceAt Instr.slice
          simp only [Option.map_none, Sem.run_bind, e1, Result.andThen_ok, Sem.run_pure, e3, e2, hll]
          have q1 : (hi'.getD l).toNat - (lo'.getD 0).toNat = (hi'.getD l - lo'.getD 0).toNat := by omega
          rw [q1]
          by_cases hl : c.den ρ = (lo'.getD 0).toNat
          · have hl1 : (lo'.getD 0).toNat = 0 := by omega
            rw [if_pos hl, hl1]
            simp
          · rw [if_neg hl]
            simp [Addr.add_lit, Nat.add_assoc]
        · cases c with
          | l m => trivial
          | v i d => exact hcp
      · cases h
    · cases h
  · cases h

noncomputable def pToArr (cfg : Cfg) (S : St) (orc : List Bool) (t : TypeId) (x : Operand) : Option Pv :=
  match findT t cfg.tabs, evF cfg S x with
  | some td, some (.sl j o (.n l) _) => match td.desc with
    | .array n _ => match decide ((n : Int) ≤ l) with
      | true => some ⟨.f (.ptr j o), orc, []⟩
      | false => none
    | _ => none
  | _, _ => none
theorem pToArr_sound (hc : CfgOk P cfg) (hF : FrOK ρ s.nx s.N s.F a) (hM : MemOK cfg w0 ρ s w) {orc : List Bool} {t : TypeId} {x : Operand} {r : Pv}
    (h : pToArr cfg s orc t x = some r) : PureAt P ρ s.nx w (Instr.arrayAt t (a.eval x)) r := by
  unfold pToArr at h
  split at h
  · rename_i td j o l c ht hx
    obtain ⟨h2, h3⟩ := evF_sound hF hM hx
    have e1 := hc.under ht w
    split at h
    · rename_i n e hd
      split at h
      · rename_i hz
        have h := Option.some.inj h
        subst h
        rw [hd] at e1
        have hz' : (n : Int) ≤ l := by simpa using hz
        have hn : ¬ l.toNat < n := by omega
        refine ⟨?_, h3.1⟩
        rw [h2]
        simp only [FV.den, SV.den, E.den]
        unfold Instr.arrayAt
        simp [e1, hn]
      · cases h
    · cases h
  · cases h

noncomputable def pLen (cfg : Cfg) (S : St) (orc : List Bool) (t : TypeId) (x : Operand) : Option Pv :=
  match findT t cfg.tabs with
  | some td => match td.desc, evF cfg S x with
    | .slice _, some (.sl _ _ l _) => some ⟨.f (.int .i64 l), orc, []⟩
    | .slice _, some (.lit (.slice none 0 0)) => some ⟨.f (.int .i64 (.n 0)), orc, []⟩
    | _, _ => none
  | none => none
theorem pLen_sound (hc : CfgOk P cfg) (hF : FrOK ρ s.nx s.N s.F a) (hM : MemOK cfg w0 ρ s w) {orc : List Bool} {t ty : TypeId} {x : Operand} {r : Pv}
    (h : pLen cfg s orc t x = some r) : PureAt P ρ s.nx w (Builtin.len_ #[t] ty #[a.eval x]) r := by
  unfold pLen at h
  split at h
  · rename_i td ht
    have e1 := hc.under ht w
    split at h
    · rename_i e j o l c hd hx
      obtain ⟨h2, h3⟩ := evF_sound hF hM hx
      have h := Option.some.inj h
      subst h
      rw [hd] at e1
      refine ⟨?_, trivial⟩
      rw [h2]
      have hl : ((l.den ρ.i).toNat : Int) = l.den ρ.i := by have := h3.2.2.1; omega
      simp only [FV.den, SV.den]
      unfold Builtin.len_
      simp [e1, goInt, hl]
    · rename_i e hd hx
      obtain ⟨h2, h3⟩ := evF_sound hF hM hx
      have h := Option.some.inj h
      subst h
      rw [hd] at e1
      refine ⟨?_, trivial⟩
      rw [h2]
      simp only [FV.den, SV.den]
      unfold Builtin.len_
      simp [e1, goInt, E.den]
    · cases h
  · cases h

end
end Go.Sx
