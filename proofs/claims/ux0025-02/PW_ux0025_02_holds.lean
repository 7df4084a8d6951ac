import PyProof.Rows.All
import Wide.All
import OpenK.AllK
import Wide.FinOn
import Lean
import PySem.Challenge.RW_ux0025_02
set_option Elab.async false
set_option linter.all false
-- part Stp
set_option maxRecDepth 100000
namespace Mine
open PySem PySem.W PySem.Calls PyProof.Rows

section Stp
variable {prog : Program} {w : World} {n₀ : Nat} {ann : Option Value} {c : Code} {B : List Frame}

theorem segGo_add (n m : Nat) : ∀ (s s' s'' : Shared) (t t' t'' : Thread), segGo treeTable prog w n₀ ann 1 n s t = some (s', t') → segGo treeTable prog w n₀ ann 1 m s' t' = some (s'', t'') →
    segGo treeTable prog w n₀ ann 1 (n + m) s t = some (s'', t'') := by
  induction n with
  | zero => intro s s' s'' t t' t'' h k; obtain ⟨rfl, rfl⟩ : s = s' ∧ t = t' := by simpa [segGo] using h
            rw [Nat.zero_add]; exact k
  | succ n ih =>
    intro s s' s'' t t' t'' h k
    rw [show n + 1 + m = (n + m) + 1 by omega]
    unfold segGo at h ⊢
    cases he : endAt 1 t with
    | some f => rw [he] at h; cases h
    | none =>
      rw [he] at h
      cases hk : stepOk n₀ ann t with
      | false => rw [hk] at h; cases h
      | true =>
        rw [hk] at h
        cases hs : step (denote treeTable) prog w s t with
        | halt o s₂ => rw [hs] at h; cases h
        | go s₂ t₂ => rw [hs] at h; exact ih _ _ _ _ _ _ h k

noncomputable def Stp (prog : Program) (w : World) (n₀ : Nat) (ann : Option Value) (c : Code) (B : List Frame) {α : Type} (m : Sem α) (p : Pos) (s : Shared) (n : Nat) (a : α) (p' : Pos) (s' : Shared) : Prop :=
  ∀ (K : α → Sem Fin) (H : Value → Sem Fin) (gd : Bool → Bool) (lv : List Value → List Value),
    segGo treeTable prog w n₀ ann 1 n s ⟨m.wrap K H gd lv, c, p, B⟩ = some (s', ⟨K a, c, p', B⟩)

theorem Stp.pure {α : Type} {a : α} {p : Pos} {s : Shared} : Stp prog w n₀ ann c B (pure a : Sem α) p s 0 a p s := fun _ _ _ _ => rfl
theorem Stp.bind {α β : Type} {m : Sem α} {f : α → Sem β} {p p₁ p₂ : Pos} {s s₁ s₂ : Shared} {n k : Nat} {a : α} {b : β}
    (h : Stp prog w n₀ ann c B m p s n a p₁ s₁) (g : Stp prog w n₀ ann c B (f a) p₁ s₁ k b p₂ s₂) : Stp prog w n₀ ann c B (m >>= f) p s (n + k) b p₂ s₂ := fun K H gd lv => by
  have e : (m >>= f).wrap K H gd lv = m.wrap (fun a => (f a).wrap K H gd lv) H gd lv := by
    rw [Sem.bind_eq_wrap', Sem.wrap_wrap]
    rfl
  rw [e]
  exact segGo_add _ _ _ _ _ _ _ _ (h _ _ _ _) (g _ _ _ _)
theorem Stp.keep {α : Type} {m : Sem α} {vs : List Value} {p p₁ : Pos} {s s₁ : Shared} {n : Nat} {a : α}
    (h : Stp prog w n₀ ann c B m p s n a p₁ s₁) : Stp prog w n₀ ann c B (m.keep vs) p s n a p₁ s₁ := fun K H gd lv => by
  have e : (m.keep vs).wrap K H gd lv = m.wrap K H gd (fun l => lv (vs ++ l)) := by
    clear h
    induction m <;> simp only [Sem.keep, Sem.wrap, *]
  rw [e]
  exact h _ _ _ _
theorem Stp.holding {α : Type} {m : Sem α} {vs : List Value} {p p₁ : Pos} {s s₁ : Shared} {n : Nat} {a : α}
    (h : Stp prog w n₀ ann c B m p s n a p₁ s₁) : Stp prog w n₀ ann c B (holding vs m) p s n a p₁ s₁ := by
  unfold PySem.holding
  split
  · exact h
  · exact h.keep
theorem Stp.onRaise {α : Type} {m : Sem α} {k : Value → Sem Unit} {p p₁ : Pos} {s s₁ : Shared} {n : Nat} {a : α}
    (h : Stp prog w n₀ ann c B m p s n a p₁ s₁) : Stp prog w n₀ ann c B (m.onRaise k) p s n a p₁ s₁ := fun K H gd lv => by
  rw [Sem.onRaise_eq_wrap, Sem.wrap_wrap]
  exact h _ _ _ _
theorem Stp.rule {tag : String} {p : Pos} {s : Shared} : Stp prog w n₀ ann c B (rule tag) p s 1 () p s := fun K H gd lv => by
  obtain ⟨a, b, c, d, e⟩ := s
  simp [segGo, PySem.rule, Sem.wrap, endAt, stepOk, Thread.calm, Thread.atCollectorCode, Thread.yieldsInsideHandler, step]
theorem Stp.at {q : Pos} {p : Pos} {s : Shared} : Stp prog w n₀ ann c B (standAt q) p s 1 () q s := fun K H gd lv => by
  obtain ⟨a, b, c, d, e⟩ := s
  simp [segGo, PySem.standAt, Sem.wrap, endAt, stepOk, Thread.calm, Thread.atCollectorCode, Thread.yieldsInsideHandler, step]
theorem Stp.fresh {p : Pos} {s : Shared} : Stp prog w n₀ ann c B fresh p s 1 s.toks p { s with toks := s.toks + 1 } := fun K H gd lv => by
  obtain ⟨a, b, c, d, e⟩ := s
  simp [segGo, PySem.fresh, Sem.wrap, endAt, stepOk, Thread.calm, Thread.atCollectorCode, Thread.yieldsInsideHandler, step]
theorem Stp.loadPart {p : Pos} {s : Shared} {a : Addr} {q : Option Value} {o : Obj} (h : s.heap.get? a = some o) : Stp prog w n₀ ann c B (loadPart a q) p s 1 o p s := fun K H gd lv => by
  obtain ⟨x, b, c, d, e⟩ := s
  simp only at h
  simp [segGo, PySem.loadPart, Sem.wrap, endAt, stepOk, Thread.calm, Thread.atCollectorCode, Thread.yieldsInsideHandler, step, h]
theorem Stp.load {p : Pos} {s : Shared} {a : Addr} {o : Obj} (h : s.heap.get? a = some o) : Stp prog w n₀ ann c B (load a) p s 1 o p s := Stp.loadPart h
theorem Stp.updatePart {p : Pos} {s : Shared} {a : Addr} {q : Option Value} {f : Obj → Obj} {o : Obj} (h : s.heap.get? a = some o) (ha : n₀ ≤ a) :
    Stp prog w n₀ ann c B (updatePart a q f) p s 1 () p { s with heap := s.heap.update a f } := fun K H gd lv => by
  obtain ⟨x, b, c, d, e⟩ := s
  simp only at h
  have hb : Nat.ble n₀ a = true := Nat.ble_eq_true_of_le ha
  simp [segGo, PySem.updatePart, Sem.wrap, endAt, stepOk, Thread.calm, Thread.atCollectorCode, Thread.yieldsInsideHandler, step, h, hb]
theorem Stp.alloc {p : Pos} {s : Shared} {o : Obj} : Stp prog w n₀ ann c B (alloc o) p s 1 s.heap.objs.size p { s with heap := s.heap.push o } := fun K H gd lv => by
  obtain ⟨x, b, c, d, e⟩ := s
  simp [segGo, PySem.alloc, Sem.wrap, endAt, stepOk, Thread.calm, Thread.atCollectorCode, Thread.yieldsInsideHandler, step]
end Stp
end Mine
-- part DictTop
set_option maxRecDepth 100000
namespace Mine
open PySem PySem.W PySem.Calls PyProof.Rows

section
variable {prog : Program} {w : World} {n₀ : Nat} {ann : Option Value} {c : Code} {B : List Frame}

noncomputable def StpB (prog : Program) (w : World) (n₀ : Nat) (ann : Option Value) (c : Code) (B : List Frame) {α : Type} (m : Sem α) (p : Pos) (s : Shared) (N : Nat) (a : α) (p' : Pos) (s' : Shared) : Prop :=
  ∃ n, n ≤ N ∧ Stp prog w n₀ ann c B m p s n a p' s'
theorem Stp.b {α : Type} {m : Sem α} {p p' : Pos} {s s' : Shared} {n N : Nat} {a : α} (h : Stp prog w n₀ ann c B m p s n a p' s') (hn : n ≤ N) : StpB prog w n₀ ann c B m p s N a p' s' := ⟨n, hn, h⟩
theorem StpB.pure {α : Type} {a : α} {p : Pos} {s : Shared} {N : Nat} : StpB prog w n₀ ann c B (pure a : Sem α) p s N a p s := ⟨0, Nat.zero_le _, Stp.pure⟩
theorem StpB.mono {α : Type} {m : Sem α} {p p' : Pos} {s s' : Shared} {n N : Nat} {a : α} (h : StpB prog w n₀ ann c B m p s n a p' s') (hn : n ≤ N) : StpB prog w n₀ ann c B m p s N a p' s' :=
  let ⟨k, hk, x⟩ := h; ⟨k, Nat.le_trans hk hn, x⟩
theorem StpB.bind {α β : Type} {m : Sem α} {f : α → Sem β} {p p₁ p₂ : Pos} {s s₁ s₂ : Shared} {n k : Nat} {a : α} {b : β}
    (h : StpB prog w n₀ ann c B m p s n a p₁ s₁) (g : StpB prog w n₀ ann c B (f a) p₁ s₁ k b p₂ s₂) : StpB prog w n₀ ann c B (m >>= f) p s (n + k) b p₂ s₂ :=
  let ⟨i, hi, x⟩ := h; let ⟨j, hj, y⟩ := g; ⟨i + j, Nat.add_le_add hi hj, x.bind y⟩
theorem StpB.holding {α : Type} {m : Sem α} {vs : List Value} {p p₁ : Pos} {s s₁ : Shared} {n : Nat} {a : α}
    (h : StpB prog w n₀ ann c B m p s n a p₁ s₁) : StpB prog w n₀ ann c B (holding vs m) p s n a p₁ s₁ := let ⟨i, hi, x⟩ := h; ⟨i, hi, x.holding⟩
theorem StpB.onRaise {α : Type} {m : Sem α} {k : Value → Sem Unit} {p p₁ : Pos} {s s₁ : Shared} {n : Nat} {a : α}
    (h : StpB prog w n₀ ann c B m p s n a p₁ s₁) : StpB prog w n₀ ann c B (m.onRaise k) p s n a p₁ s₁ := let ⟨i, hi, x⟩ := h; ⟨i, hi, x.onRaise⟩

noncomputable def dObj (es : List DictEntry) : Obj := { cls := .type "dict", data := .dict es.toArray es.length }
noncomputable def hpA (pre : List Obj) (o : Obj) (post : List Obj) (life : Life) : Heap := ⟨⟨pre ++ o :: post⟩, life⟩
theorem hpA_get {pre post : List Obj} {es : List DictEntry} {life : Life} : (hpA pre (dObj es) post life).get? pre.length = some (dObj es) := by
  unfold Heap.get? hpA
  simp [dObj]
theorem modify_mid (f : Obj → Obj) (o : Obj) (post : List Obj) : ∀ pre : List Obj, (pre ++ o :: post).modify pre.length f = pre ++ f o :: post
  | [] => by simp
  | x :: r => by simp [modify_mid f o post r]
theorem hpA_upd {pre post : List Obj} {es : List DictEntry} {e : DictEntry} {life : Life} :
    (hpA pre (dObj es) post life).update pre.length (Obj.mapDictKeys (·.push e)) = hpA pre (dObj (es ++ [e])) post life := by
  unfold Heap.update hpA
  simp only [Heap.mk.injEq, and_true]
  apply Array.ext'
  simp [modify_mid, dObj, Obj.mapDictKeys]
theorem hpA_last {pre post : List Obj} {o x : Obj} {life : Life} : hpA pre o (post ++ [x]) life = hpA (pre ++ o :: post) x [] life := by
  unfold hpA
  simp

theorem places_none {es : List DictEntry} {h : Int} (H : ∀ e ∈ es, e.hash ≠ h) : placesWithHash es.toArray.size (fun i => (es.toArray[i]?).map (·.hash)) h = [] := by
  unfold placesWithHash
  rw [List.filter_eq_nil_iff]
  intro i hi
  have hi' : i < es.length := by simpa using hi
  simp [hi', H (es[i]) (List.getElem_mem hi')]

theorem entries_at {d : Addr} {q : Option Value} {p : Pos} {s : Shared} {es : List DictEntry} (h : s.heap.get? d = some (dObj es)) : Stp prog w n₀ ann c B (dictEntries d q) p s 1 es.toArray p s := by
  unfold dictEntries
  exact Stp.bind (n := 1) (k := 0) (Stp.loadPart h) Stp.pure
theorem find_none {d : Addr} {i : Int} {t : Tok} {h : Int} {p : Pos} {s : Shared} {es : List DictEntry} (hd : s.heap.get? d = some (dObj es)) (H : ∀ e ∈ es, e.hash ≠ h) :
    Stp prog w n₀ ann c B (dictFind d (.int i t) h) p s 1 none p s := by
  unfold dictFind
  refine Stp.holding ?_
  refine Stp.bind (n := 1) (k := 0) (entries_at hd) ?_
  dsimp only
  rw [places_none H]
  simp only [List.filterMap_nil, List.all_cons, List.all_nil, carriedByValue, Bool.and_self, if_true]
  exact Stp.pure
theorem past_none {es : List DictEntry} (h : es.length ≤ 100000) : (dObj es).data.pastItsLine = none := by
  unfold Data.pastItsLine dObj
  simp [sizeLine]
  omega
theorem keysPush {d : Addr} {e : DictEntry} {q : Option Value} {p : Pos} {s : Shared} {pre post : List Obj} {es : List DictEntry} {life : Life} (hs : s.heap = hpA pre (dObj es) post life) (hd : d = pre.length) (h0 : n₀ ≤ d) (hl : es.length < 100000) :
    Stp prog w n₀ ann c B (updateDictKeys d (·.push e) q) p s 3 () p { s with heap := hpA pre (dObj (es ++ [e])) post life } := by
  subst hd
  unfold updateDictKeys
  refine Stp.bind (n := 1) (k := 2) (Stp.loadPart (by rw [hs]; exact hpA_get)) ?_
  show Stp prog w n₀ ann c B (do updatePart pre.length q (Obj.mapDictKeys (·.push e)); lookBehind pre.length q) p s 2 () p _
  have u := Stp.updatePart (prog := prog) (w := w) (ann := ann) (c := c) (B := B) (p := p) (s := s) (q := q) (f := Obj.mapDictKeys (·.push e)) (a := pre.length) (by rw [hs]; exact hpA_get) h0
  rw [hs, hpA_upd] at u
  refine Stp.bind (n := 1) (k := 1) u ?_
  unfold lookBehind
  refine Stp.bind (n := 1) (k := 0) (Stp.loadPart hpA_get) ?_
  rw [past_none (by simp; omega)]
  exact Stp.pure
theorem setHashed {d : Addr} {i : Int} {t : Tok} {h : Int} {v : Value} {p : Pos} {s : Shared} {pre post : List Obj} {es : List DictEntry} {life : Life} (hs : s.heap = hpA pre (dObj es) post life) (hd : d = pre.length) (h0 : n₀ ≤ d) (hl : es.length < 100000) (H : ∀ e ∈ es, e.hash ≠ h) :
    Stp prog w n₀ ann c B (dictSetHashed d (.int i t) h v) p s 5 () p { s with heap := hpA pre (dObj (es ++ [⟨h, .int i t, v⟩])) post life } := by
  unfold dictSetHashed
  refine Stp.holding ?_
  refine Stp.bind (n := 1) (k := 4) (find_none (by rw [hs, hd]; exact hpA_get) H) ?_
  dsimp only
  exact Stp.bind (n := 1) (k := 3) Stp.rule (keysPush hs hd h0 hl)
theorem dictPut_new {d : Addr} {i : Int} {t : Tok} {h : Int} {v : Value} {p : Pos} {s : Shared} {pre post : List Obj} {es : List DictEntry} {life : Life} (hs : s.heap = hpA pre (dObj es) post life) (hd : d = pre.length) (h0 : n₀ ≤ d) (hl : es.length < 100000) (H : ∀ e ∈ es, e.hash ≠ h) :
    Stp prog w n₀ ann c B (dictPut d h (.int i t) v) p s 4 () p { s with heap := hpA pre (dObj (es ++ [⟨h, .int i t, v⟩])) post life } := by
  unfold dictPut
  refine Stp.bind (n := 1) (k := 3) (find_none (by rw [hs, hd]; exact hpA_get) H) ?_
  dsimp only
  exact keysPush hs hd h0 hl

noncomputable def mkPair (dp : Pos) (q : Int × Str) : Sem Value × Sem Value := (mkInt q.1, do let x ← mkText q.2; standAt dp; pure x)
noncomputable def entL : Tok → List (Int × Str) → List DictEntry
  | _, [] => []
  | t, q :: r => ⟨q.1, .int q.1 t, .str q.2 (t + 1)⟩ :: entL (t + 3) r
noncomputable def valS : Tok → List (Int × Str) → List (Value × Value)
  | _, [] => []
  | t, q :: r => (.int q.1 t, .str q.2 (t + 1)) :: valS (t + 2) r
noncomputable def entS : Tok → List (Int × Str) → List DictEntry
  | _, [] => []
  | t, q :: r => ⟨q.1, .int q.1 t, .str q.2 (t + 1)⟩ :: entS (t + 2) r
theorem entL_length : ∀ (t : Tok) (l : List (Int × Str)), (entL t l).length = l.length
  | _, [] => rfl
  | t, q :: r => by simp [entL, entL_length (t + 3) r]
theorem entS_length : ∀ (t : Tok) (l : List (Int × Str)), (entS t l).length = l.length
  | _, [] => rfl
  | t, q :: r => by simp [entS, entS_length (t + 2) r]
theorem entL_mem : ∀ {t : Tok} {l : List (Int × Str)} {e : DictEntry}, e ∈ entL t l → ∃ q ∈ l, ∃ u, e = ⟨q.1, .int q.1 u, .str q.2 (u + 1)⟩
  | _, [], _, h => nomatch h
  | t, q :: r, e, h => by
    simp only [entL, List.mem_cons] at h
    rcases h with rfl | h
    · exact ⟨q, .head _, t, rfl⟩
    · obtain ⟨q', hq, x⟩ := entL_mem h
      exact ⟨q', .tail _ hq, x⟩
theorem entS_mem : ∀ {t : Tok} {l : List (Int × Str)} {e : DictEntry}, e ∈ entS t l → ∃ q ∈ l, ∃ u, e = ⟨q.1, .int q.1 u, .str q.2 (u + 1)⟩
  | _, [], _, h => nomatch h
  | t, q :: r, e, h => by
    simp only [entS, List.mem_cons] at h
    rcases h with rfl | h
    · exact ⟨q, .head _, t, rfl⟩
    · obtain ⟨q', hq, x⟩ := entS_mem h
      exact ⟨q', .tail _ hq, x⟩
/-- keys rise strictly, from 0, below 2^60 -/
noncomputable def Rise : Int → List (Int × Str) → Prop
  | _, [] => True
  | b, q :: r => b < q.1 ∧ q.1 < 2 ^ 60 ∧ Rise q.1 r
theorem Rise.lt : ∀ {b : Int} {l : List (Int × Str)}, Rise b l → ∀ q ∈ l, b < q.1
  | _, q :: r, h, x, hx => by
    rcases List.mem_cons.mp hx with rfl | hx
    · exact h.1
    · have := Rise.lt h.2.2 x hx; have := h.1; omega

theorem pairKey {i : Int} {p : Pos} {s : Shared} : Stp prog w n₀ ann c B (mkInt i) p s 1 (.int i s.toks) p { s with toks := s.toks + 1 } := Stp.bind (n := 1) (k := 0) Stp.fresh Stp.pure
theorem pairText {x : Str} {p : Pos} {s : Shared} : Stp prog w n₀ ann c B (mkText x) p s 1 (.str x s.toks) p { s with toks := s.toks + 1 } := Stp.bind (n := 1) (k := 0) Stp.fresh Stp.pure
theorem pairVal {x : Str} {dp p : Pos} {s : Shared} : Stp prog w n₀ ann c B (do let v ← mkText x; standAt dp; pure v) p s 2 (.str x s.toks) dp { s with toks := s.toks + 1 } :=
  Stp.bind (n := 1) (k := 1) pairText (Stp.bind (n := 1) (k := 0) Stp.at Stp.pure)

variable (hh : ∀ (i : Int) (t : Tok) (p : Pos) (s : Shared), 0 ≤ i → i < 2 ^ 60 → Stp prog w n₀ ann c B (pyHash (.int i t)) p s 5 i p { s with toks := s.toks + 1 })
include hh
theorem dictSet_new {d : Addr} {i : Int} {t : Tok} {v : Value} {p : Pos} {s : Shared} {pre post : List Obj} {es : List DictEntry} {life : Life} (hs : s.heap = hpA pre (dObj es) post life) (hd : d = pre.length) (h0 : n₀ ≤ d) (hl : es.length < 100000)
    (h1 : 0 ≤ i) (h2 : i < 2 ^ 60) (H : ∀ e ∈ es, e.hash ≠ i) :
    Stp prog w n₀ ann c B (dictSet d (.int i t) v) p s 10 () p { s with heap := hpA pre (dObj (es ++ [⟨i, .int i t, v⟩])) post life, toks := s.toks + 1 } := by
  unfold dictSet
  refine Stp.holding ?_
  refine Stp.bind (n := 5) (k := 5) (hh i t p s h1 h2) ?_
  have := setHashed (prog := prog) (w := w) (ann := ann) (c := c) (B := B) (i := i) (t := t) (v := v) (p := p) (s := { s with toks := s.toks + 1 }) hs hd h0 hl H
  exact this
theorem fill_long {d : Addr} {dp : Pos} {pre post : List Obj} {life : Life} (hd : d = pre.length) (h0 : n₀ ≤ d) : ∀ (its : List (Int × Str)) (b : Int) (es : List DictEntry) (s : Shared),
    s.heap = hpA pre (dObj es) post life → es.length + its.length < 100000 → 0 ≤ b + 1 → Rise b its → (∀ e ∈ es, e.hash ≤ b) →
    StpB prog w n₀ ann c B (forIn (its.map (mkPair dp)) PUnit.unit fun (x : Sem Value × Sem Value) (_ : PUnit) => match x with
        | (k, v) => do
          let kv ← k
          let vv ← holding [kv] v
          holding [kv, vv] (dictSet d kv vv)
          pure (ForInStep.yield PUnit.unit)) dp s (13 * its.length) PUnit.unit dp
      { s with heap := hpA pre (dObj (es ++ entL s.toks its)) post life, toks := s.toks + 3 * its.length }
  | [], b, es, s, hs, hl, hb, hr, he => by
    rw [List.map_nil, List.forIn_nil]
    have : ({ s with heap := hpA pre (dObj (es ++ entL s.toks [])) post life, toks := s.toks + 3 * ([] : List (Int × Str)).length } : Shared) = s := by
      obtain ⟨a1, a2, a3, a4, a5⟩ := s
      simp only at hs
      simp [entL, hs]
    rw [this]
    exact StpB.pure
  | q :: r, b, es, s, hs, hl, hb, hr, he => by
    rw [List.map_cons, List.forIn_cons]
    simp only [List.length_cons] at hl
    have one : Stp prog w n₀ ann c B (match mkPair dp q with
        | (k, v) => do
          let kv ← k
          let vv ← holding [kv] v
          holding [kv, vv] (dictSet d kv vv)
          pure (ForInStep.yield PUnit.unit)) dp s 13 (ForInStep.yield PUnit.unit) dp
        { s with heap := hpA pre (dObj (es ++ [⟨q.1, .int q.1 s.toks, .str q.2 (s.toks + 1)⟩])) post life, toks := s.toks + 1 + 1 + 1 } := by
      show Stp prog w n₀ ann c B (do
          let kv ← mkInt q.1
          let vv ← holding [kv] (do let x ← mkText q.2; standAt dp; pure x)
          holding [kv, vv] (dictSet d kv vv)
          pure (ForInStep.yield PUnit.unit)) dp s 13 _ dp _
      refine Stp.bind (n := 1) (k := 12) pairKey ?_
      refine Stp.bind (n := 2) (k := 10) (Stp.holding pairVal) ?_
      refine Stp.bind (n := 10) (k := 0) (Stp.holding (dictSet_new hh (s := { s with toks := s.toks + 1 + 1 }) hs hd h0 (by omega) (by have := hr.1; omega) hr.2.1 fun e h => by have := he e h; have := hr.1; omega)) ?_
      exact Stp.pure
    have rest := fill_long hd h0 (dp := dp) (post := post) (life := life) r q.1 (es ++ [⟨q.1, .int q.1 s.toks, .str q.2 (s.toks + 1)⟩])
      { s with heap := hpA pre (dObj (es ++ [⟨q.1, .int q.1 s.toks, .str q.2 (s.toks + 1)⟩])) post life, toks := s.toks + 1 + 1 + 1 } rfl (by simp; omega) (by have := hr.1; omega) hr.2.2 (fun e h => by
        rcases List.mem_append.mp h with h | h
        · have := he e h; have := hr.1; omega
        · rw [List.mem_singleton.mp h]; exact Int.le_refl _)
    have e : ({ s with heap := hpA pre (dObj (es ++ [⟨q.1, .int q.1 s.toks, .str q.2 (s.toks + 1)⟩] ++ entL (s.toks + 1 + 1 + 1) r)) post life, toks := s.toks + 1 + 1 + 1 + 3 * r.length } : Shared) =
      { s with heap := hpA pre (dObj (es ++ entL s.toks (q :: r))) post life, toks := s.toks + 3 * (q :: r).length } := by
      simp only [entL, List.append_assoc, List.cons_append, List.nil_append, List.length_cons, Shared.mk.injEq, true_and, and_true]
      omega
    rw [← e, show 13 * (q :: r).length = 13 + 13 * r.length by simp; omega]
    exact StpB.bind (one.b (Nat.le_refl _)) rest

omit hh in
theorem evalPairs_S {dp : Pos} : ∀ (its : List (Int × Str)) (s : Shared), StpB prog w n₀ ann c B (evalPairs (its.map (mkPair dp))) dp s (3 * its.length) (valS s.toks its) dp { s with toks := s.toks + 2 * its.length }
  | [], s => StpB.pure
  | q :: r, s => by
    show StpB prog w n₀ ann c B (do
      let kv ← mkInt q.1
      let vv ← holding [kv] (do let x ← mkText q.2; standAt dp; pure x)
      return (kv, vv) :: (← holding [kv, vv] (evalPairs (r.map (mkPair dp))))) dp s _ _ dp _
    have rest := evalPairs_S (dp := dp) r { s with toks := s.toks + 1 + 1 }
    have e : ({ s with toks := s.toks + 1 + 1 + 2 * r.length } : Shared) = { s with toks := s.toks + 2 * (q :: r).length } := by
      simp only [List.length_cons, Shared.mk.injEq, true_and, and_true]; omega
    rw [← e, show 3 * (q :: r).length = 1 + (2 + (3 * r.length + 0)) by simp; omega]
    refine StpB.bind (pairKey.b (Nat.le_refl _)) ?_
    refine StpB.bind ((Stp.holding pairVal).b (Nat.le_refl _)) ?_
    exact StpB.bind (StpB.holding rest) StpB.pure
theorem fill_short {d : Addr} {dp : Pos} {pre post : List Obj} {life : Life} (hd : d = pre.length) (h0 : n₀ ≤ d) : ∀ (its : List (Int × Str)) (b : Int) (t : Tok) (es : List DictEntry) (s : Shared),
    s.heap = hpA pre (dObj es) post life → es.length + its.length < 100000 → 0 ≤ b + 1 → Rise b its → (∀ e ∈ es, e.hash ≤ b) →
    StpB prog w n₀ ann c B (forIn (valS t its) PUnit.unit fun (x : Value × Value) (_ : PUnit) => match x with
        | (k, v) => do
          dictSet d k v
          pure (ForInStep.yield PUnit.unit)) dp s (10 * its.length) PUnit.unit dp
      { s with heap := hpA pre (dObj (es ++ entS t its)) post life, toks := s.toks + its.length }
  | [], b, t, es, s, hs, hl, hb, hr, he => by
    rw [valS, List.forIn_nil]
    have : ({ s with heap := hpA pre (dObj (es ++ entS t [])) post life, toks := s.toks + ([] : List (Int × Str)).length } : Shared) = s := by
      obtain ⟨a1, a2, a3, a4, a5⟩ := s
      simp only at hs
      simp [entS, hs]
    rw [this]
    exact StpB.pure
  | q :: r, b, t, es, s, hs, hl, hb, hr, he => by
    rw [valS, List.forIn_cons]
    simp only [List.length_cons] at hl
    have one : Stp prog w n₀ ann c B (do
          dictSet d (.int q.1 t) (.str q.2 (t + 1))
          pure (ForInStep.yield PUnit.unit)) dp s 10 (ForInStep.yield PUnit.unit) dp
        { s with heap := hpA pre (dObj (es ++ [⟨q.1, .int q.1 t, .str q.2 (t + 1)⟩])) post life, toks := s.toks + 1 } :=
      Stp.bind (n := 10) (k := 0) (dictSet_new hh hs hd h0 (by omega) (by have := hr.1; omega) hr.2.1 fun e h => by have := he e h; have := hr.1; omega) Stp.pure
    have rest := fill_short hd h0 (dp := dp) (post := post) (life := life) r q.1 (t + 2) (es ++ [⟨q.1, .int q.1 t, .str q.2 (t + 1)⟩])
      { s with heap := hpA pre (dObj (es ++ [⟨q.1, .int q.1 t, .str q.2 (t + 1)⟩])) post life, toks := s.toks + 1 } rfl (by simp; omega) (by have := hr.1; omega) hr.2.2 (fun e h => by
        rcases List.mem_append.mp h with h | h
        · have := he e h; have := hr.1; omega
        · rw [List.mem_singleton.mp h]; exact Int.le_refl _)
    have e : ({ s with heap := hpA pre (dObj (es ++ [⟨q.1, .int q.1 t, .str q.2 (t + 1)⟩] ++ entS (t + 2) r)) post life, toks := s.toks + 1 + r.length } : Shared) =
      { s with heap := hpA pre (dObj (es ++ entS t (q :: r))) post life, toks := s.toks + (q :: r).length } := by
      simp only [entS, List.append_assoc, List.cons_append, List.nil_append, List.length_cons, Shared.mk.injEq, true_and, and_true]
      omega
    rw [← e, show 10 * (q :: r).length = 10 + 10 * r.length by simp; omega]
    exact StpB.bind (one.b (Nat.le_refl _)) rest

/-- a group's sub-dict: 17 at once by the long road, 15 or fewer by the short one -/
noncomputable def entG (t : Tok) (its : List (Int × Str)) : List DictEntry := if its.length ≤ 15 then entS t its else entL t its
omit hh in
theorem entG_length (t : Tok) (its : List (Int × Str)) : (entG t its).length = its.length := by
  unfold entG; split
  · exact entS_length _ _
  · exact entL_length _ _
omit hh in
theorem entG_mem {t : Tok} {l : List (Int × Str)} {e : DictEntry} (h : e ∈ entG t l) : ∃ q ∈ l, ∃ u, e = ⟨q.1, .int q.1 u, .str q.2 (u + 1)⟩ := by
  unfold entG at h
  split at h
  · exact entS_mem h
  · exact entL_mem h
theorem subDict_S {dp : Pos} {pre : List Obj} {life : Life} (its : List (Int × Str)) (b : Int) (s : Shared) (hs : s.heap = ⟨⟨pre⟩, life⟩) (h0 : n₀ ≤ pre.length) (hl : its.length < 1000) (hb : 0 ≤ b + 1) (hr : Rise b its) :
    StpB prog w n₀ ann c B (subDict (its.map (mkPair dp))) dp s (13 * its.length + 2) pre.length dp { s with heap := hpA pre (dObj (entG s.toks its)) [] life, toks := s.toks + 3 * its.length } := by
  unfold subDict
  have al : Stp prog w n₀ ann c B (alloc { cls := .type "dict", data := .dict #[] }) dp s 1 pre.length dp { s with heap := hpA pre (dObj []) [] life } := by
    have := Stp.alloc (prog := prog) (w := w) (n₀ := n₀) (ann := ann) (c := c) (B := B) (p := dp) (s := s) (o := { cls := .type "dict", data := .dict #[] })
    rw [hs] at this
    have e : (⟨⟨pre⟩, life⟩ : Heap).push { cls := .type "dict", data := .dict #[] } = hpA pre (dObj []) [] life := by
      unfold Heap.push hpA dObj; simp
    rw [e] at this
    exact this
  rw [show 13 * its.length + 2 = 1 + (13 * its.length + 1 + 0) by omega]
  refine StpB.bind (al.b (Nat.le_refl _)) ?_
  refine StpB.bind (a := ()) (StpB.holding ?_) StpB.pure
  by_cases h15 : its.length ≤ 15
  · rw [if_pos (by simpa using h15), show 13 * its.length + 1 = 3 * its.length + (10 * its.length + 1) by omega]
    refine StpB.bind (evalPairs_S its _) ?_
    refine StpB.holding ?_
    have := fill_short hh (dp := dp) (pre := pre) (post := []) (life := life) (d := pre.length) rfl h0 its b s.toks [] { s with heap := hpA pre (dObj []) [] life, toks := s.toks + 2 * its.length } rfl (by simp; omega) hb hr (fun _ h => nomatch h)
    have e : ({ s with heap := hpA pre (dObj ([] ++ entS s.toks its)) [] life, toks := s.toks + 2 * its.length + its.length } : Shared) = { s with heap := hpA pre (dObj (entG s.toks its)) [] life, toks := s.toks + 3 * its.length } := by
      simp only [entG, if_pos h15, List.nil_append, Shared.mk.injEq, true_and, and_true]; omega
    rw [← e]
    exact StpB.bind this StpB.pure
  · rw [if_neg (by simpa using h15), show 13 * its.length + 1 = 1 + (13 * its.length + 0) by omega]
    refine StpB.bind (Stp.rule.b (Nat.le_refl _)) ?_
    have := fill_long hh (dp := dp) (pre := pre) (post := []) (life := life) (d := pre.length) rfl h0 its b [] { s with heap := hpA pre (dObj []) [] life } rfl (by simp; omega) hb hr (fun _ h => nomatch h)
    have e : ({ s with heap := hpA pre (dObj ([] ++ entL s.toks its)) [] life, toks := s.toks + 3 * its.length } : Shared) = { s with heap := hpA pre (dObj (entG s.toks its)) [] life, toks := s.toks + 3 * its.length } := by
      simp only [entG, if_neg h15, List.nil_append]
    rw [← e]
    exact StpB.bind this StpB.pure

omit hh
theorem iter_lookup : typeLookup (.type "dict") "__iter__" = pure (some (.builtin "dict.__iter__")) := by kernel_rfl
theorem sub_dict : isSubtype (.type "dict") (.type "dict") = pure true := by kernel_rfl
theorem epoch_at {d : Addr} {q : Option Value} {p : Pos} {s : Shared} {es : List DictEntry} (h : s.heap.get? d = some (dObj es)) : Stp prog w n₀ ann c B (dictEpoch d q) p s 1 es.length p s := by
  unfold dictEpoch
  exact Stp.bind (n := 1) (k := 0) (Stp.loadPart h) Stp.pure
theorem hpA_get2 {pre post : List Obj} {o : Obj} {es : List DictEntry} {life : Life} {a : Addr} (ha : a = pre.length + 1 + post.length) : (hpA pre o (post ++ [dObj es]) life).get? a = some (dObj es) := by
  rw [hpA_last, ha, show pre.length + 1 + post.length = (pre ++ o :: post).length by simp; omega]
  exact hpA_get
theorem merge_loop {d a : Addr} {p : Pos} {pre post : List Obj} {life : Life} {sub : List DictEntry} (hd : d = pre.length) (h0 : n₀ ≤ d) (ha : a = pre.length + 1 + post.length)
    (hsub : ∀ e ∈ sub, ∃ i t, e.key = .int i t) : ∀ (m j : Nat) (acc : List DictEntry) (s : Shared), j + m = sub.length → s.heap = hpA pre (dObj acc) (post ++ [dObj sub]) life → acc.length + m < 100000 →
    (∀ e ∈ acc, ∀ x ∈ sub.drop j, e.hash ≠ x.hash) → (sub.drop j).Pairwise (fun x y => x.hash ≠ y.hash) →
    StpB prog w n₀ ann c B (forIn (List.range' j m) PUnit.unit fun (i : Nat) (_ : PUnit) => do
        let __do_lift ← dictEntries a
        match __do_lift[i]? with
          | some e => do
            PySem.holding [e.key, e.val] (dictPut d e.hash e.key e.val)
            let __do_lift ← dictEpoch a
            if (__do_lift != sub.length) = true then do
                unsupported "dict.changed-during-merge"
                pure (ForInStep.yield PUnit.unit)
              else pure (ForInStep.yield PUnit.unit)
          | _ => do
            unsupported "dict.changed-during-merge"
            pure (ForInStep.yield PUnit.unit)) p s (6 * m) PUnit.unit p
      { s with heap := hpA pre (dObj (acc ++ sub.drop j)) (post ++ [dObj sub]) life }
  | 0, j, acc, s, hj, hs, hl, _, _ => by
    have : ({ s with heap := hpA pre (dObj (acc ++ sub.drop j)) (post ++ [dObj sub]) life } : Shared) = s := by
      obtain ⟨a1, a2, a3, a4, a5⟩ := s
      simp only at hs
      rw [List.drop_eq_nil_of_le (by omega), List.append_nil, hs]
    rw [this]
    exact StpB.pure
  | m + 1, j, acc, s, hj, hs, hl, hne, hpw => by
    have hjl : j < sub.length := by omega
    have hdrop : sub.drop j = sub[j] :: sub.drop (j + 1) := List.drop_eq_getElem_cons hjl
    obtain ⟨i, t, hk⟩ := hsub (sub[j]) (List.getElem_mem hjl)
    rw [List.range'_succ, List.forIn_cons, show 6 * (m + 1) = 6 + 6 * m by omega]
    rw [hdrop] at hne hpw
    have one : Stp prog w n₀ ann c B (do
        let __do_lift ← dictEntries a
        match __do_lift[j]? with
          | some e => do
            PySem.holding [e.key, e.val] (dictPut d e.hash e.key e.val)
            let __do_lift ← dictEpoch a
            if (__do_lift != sub.length) = true then do
                unsupported "dict.changed-during-merge"
                pure (ForInStep.yield PUnit.unit)
              else pure (ForInStep.yield PUnit.unit)
          | _ => do
            unsupported "dict.changed-during-merge"
            pure (ForInStep.yield PUnit.unit)) p s 6 (ForInStep.yield PUnit.unit) p
        { s with heap := hpA pre (dObj (acc ++ [sub[j]])) (post ++ [dObj sub]) life } := by
      refine Stp.bind (n := 1) (k := 5) (entries_at (by rw [hs]; exact hpA_get2 ha)) ?_
      rw [show sub.toArray[j]? = some (sub[j]) by simp [hjl]]
      show Stp prog w n₀ ann c B (do
            PySem.holding [(sub[j]).key, (sub[j]).val] (dictPut d (sub[j]).hash (sub[j]).key (sub[j]).val)
            let __do_lift ← dictEpoch a
            if (__do_lift != sub.length) = true then do
                unsupported "dict.changed-during-merge"
                pure (ForInStep.yield PUnit.unit)
              else pure (ForInStep.yield PUnit.unit)) p s 5 _ p _
      have eta : sub[j] = ⟨(sub[j]).hash, .int i t, (sub[j]).val⟩ := by rw [← hk]
      have put := dictPut_new (prog := prog) (w := w) (ann := ann) (c := c) (B := B) (i := i) (t := t) (h := (sub[j]).hash) (v := (sub[j]).val) (p := p) hs hd h0 (by omega) (fun e he => hne e he _ (.head _))
      rw [← eta, ← hk] at put
      refine Stp.bind (n := 4) (k := 1) (Stp.holding put) ?_
      refine Stp.bind (n := 1) (k := 0) (epoch_at (es := sub) (hpA_get2 ha)) ?_
      rw [if_neg (by simp)]
      exact Stp.pure
    have rest := merge_loop hd h0 ha hsub (p := p) m (j + 1) (acc ++ [sub[j]]) { s with heap := hpA pre (dObj (acc ++ [sub[j]])) (post ++ [dObj sub]) life } (by omega) rfl (by simp; omega)
      (fun e he x hx => by
        rcases List.mem_append.mp he with he | he
        · exact hne e he x (.tail _ hx)
        · rw [List.mem_singleton.mp he]; exact (List.pairwise_cons.mp hpw).1 x hx) (List.pairwise_cons.mp hpw).2
    rw [List.append_assoc, List.singleton_append, ← hdrop] at rest
    exact StpB.bind (one.b (Nat.le_refl _)) rest

theorem merge_S {d a : Addr} {p : Pos} {pre post : List Obj} {life : Life} {sub acc : List DictEntry} {s : Shared} (hd : d = pre.length) (h0 : n₀ ≤ d) (ha : a = pre.length + 1 + post.length) (hsys : (a == sysModules) = false)
    (hsub : ∀ e ∈ sub, ∃ i t, e.key = .int i t) (hs : s.heap = hpA pre (dObj acc) (post ++ [dObj sub]) life) (hl : acc.length + sub.length < 100000) (hacc : acc ≠ [])
    (hne : ∀ e ∈ acc, ∀ x ∈ sub, e.hash ≠ x.hash) (hpw : sub.Pairwise (fun x y => x.hash ≠ y.hash)) :
    StpB prog w n₀ ann c B (mergeMapping d (.ref a) false) p s (6 * sub.length + 5) () p { s with heap := hpA pre (dObj (acc ++ sub)) (post ++ [dObj sub]) life } := by
  have ga : s.heap.get? a = some (dObj sub) := by rw [hs]; exact hpA_get2 ha
  have gd : s.heap.get? d = some (dObj acc) := by rw [hs, hd]; exact hpA_get
  have ty : Stp prog w n₀ ann c B (typeOf (.ref a)) p s 1 (.type "dict") p s := by
    show Stp prog w n₀ ann c B (do return (← loadPart a (some headPart)).cls) p s 1 _ p s
    exact Stp.bind (n := 1) (k := 0) (Stp.loadPart ga) Stp.pure
  have inst : Stp prog w n₀ ann c B (isInstance (.ref a) (.type "dict")) p s 1 true p s := by
    unfold isInstance
    refine Stp.bind (n := 1) (k := 0) ty ?_
    rw [sub_dict]
    exact Stp.pure
  have spec : Stp prog w n₀ ann c B (specialOf (.ref a) "__iter__") p s 1 (some (.builtin "dict.__iter__")) p s := by
    unfold specialOf
    refine Stp.bind (n := 1) (k := 0) ty ?_
    rw [iter_lookup]
    exact Stp.pure
  unfold mergeMapping
  rw [show 6 * sub.length + 5 = 1 + (1 + (0 + (1 + (1 + (1 + (6 * sub.length + 0)))))) by omega]
  refine StpB.bind (inst.b (Nat.le_refl _)) ?_
  rw [if_pos rfl]
  refine StpB.bind (spec.b (Nat.le_refl _)) ?_
  rw [show ((some (Value.builtin "dict.__iter__")) == some (Value.builtin "dict.__iter__")) = true by decide]
  refine StpB.bind (n := 0) StpB.pure ?_
  dsimp only
  rw [hsys]
  simp only [Bool.false_eq_true, if_false]
  refine StpB.bind ((entries_at gd).b (Nat.le_refl _)) ?_
  rw [if_neg (by simpa using hacc)]
  refine StpB.bind ((entries_at ga).b (Nat.le_refl _)) ?_
  refine StpB.bind ((epoch_at ga).b (Nat.le_refl _)) ?_
  have loop := merge_loop (prog := prog) (w := w) (ann := ann) (c := c) (B := B) hd h0 ha hsub (p := p) sub.length 0 acc s (by omega) hs hl (by simpa using hne) (by simpa using hpw)
  rw [List.drop_zero, ← List.range_eq_range'] at loop
  rw [show sub.toArray.size = sub.length by simp]
  exact StpB.bind loop StpB.pure

noncomputable def flushS (run : List (Sem Value × Sem Value)) : Option Addr → Sem (Option Addr)
  | none => do
    let d ← subDict run
    pure (some d)
  | some d => do
    let sub ← PySem.holding [Value.ref d] (subDict run)
    (PySem.holding [Value.ref d, Value.ref sub] (mergeMapping d (Value.ref sub) false)).onRaise fun x => do
        let _ ← PySem.holding [Value.ref d, x] (runValue (Code.builtin "proto.let_go" { }))
        pure ()
    pure (some d)
theorem ents_keys {t : Tok} {l : List (Int × Str)} : ∀ e ∈ entG t l, ∃ i u, e.key = .int i u := fun e he => by
  obtain ⟨q, _, u, rfl⟩ := entG_mem he
  exact ⟨_, _, rfl⟩
theorem rise_pairwise : ∀ {b : Int} {l : List (Int × Str)}, Rise b l → l.Pairwise (fun x y => x.1 ≠ y.1)
  | _, [], _ => .nil
  | _, q :: r, h => .cons (fun x hx => by have := Rise.lt h.2.2 x hx; omega) (rise_pairwise h.2.2)
theorem entL_hashes : ∀ (t : Tok) (l : List (Int × Str)), (entL t l).map (·.hash) = l.map (·.1)
  | _, [] => rfl
  | t, q :: r => by simp [entL, entL_hashes (t + 3) r]
theorem entS_hashes : ∀ (t : Tok) (l : List (Int × Str)), (entS t l).map (·.hash) = l.map (·.1)
  | _, [] => rfl
  | t, q :: r => by simp [entS, entS_hashes (t + 2) r]
theorem entG_hashes (t : Tok) (l : List (Int × Str)) : (entG t l).map (·.hash) = l.map (·.1) := by
  unfold entG; split
  · exact entS_hashes t l
  · exact entL_hashes t l
theorem entG_pairwise {b : Int} {t : Tok} {l : List (Int × Str)} (h : Rise b l) : (entG t l).Pairwise (fun x y => x.hash ≠ y.hash) := by
  have := rise_pairwise h
  have e := entG_hashes t l
  rw [← List.pairwise_map (f := fun q : Int × Str => q.1) (R := (· ≠ ·)), ← e, List.pairwise_map] at this
  exact this
theorem Rise.left : ∀ {b : Int} {l r : List (Int × Str)}, Rise b (l ++ r) → Rise b l
  | _, [], _, _ => trivial
  | _, _ :: _, _, h => ⟨h.1, h.2.1, h.2.2.left⟩
theorem Rise.right : ∀ {b : Int} {l r : List (Int × Str)}, Rise b (l ++ r) → ∃ b', (∀ q ∈ l, q.1 ≤ b') ∧ b ≤ b' ∧ Rise b' r
  | b, [], _, h => ⟨b, (fun _ hq => nomatch hq), Int.le_refl _, h⟩
  | b, q :: l, r, h => by
    obtain ⟨b', h1, h2, h3⟩ := Rise.right h.2.2
    refine ⟨b', fun x hx => ?_, by have := h.1; omega, h3⟩
    rcases List.mem_cons.mp hx with rfl | hx
    · exact h2
    · exact h1 x hx
include hh
/-- one more group on a main dict that stands -/
theorem flush_some {d : Addr} {dp : Pos} {pre post : List Obj} {life : Life} {acc : List DictEntry} (its : List (Int × Str)) (b : Int) (s : Shared) (hd : d = pre.length) (h0 : n₀ ≤ d) (h2 : 2 ≤ d)
    (hs : s.heap = hpA pre (dObj acc) post life) (hl : acc.length + its.length < 100000) (hi : its.length < 1000) (hacc : acc ≠ []) (hb : 0 ≤ b + 1) (hr : Rise b its) (he : ∀ e ∈ acc, e.hash ≤ b) :
    StpB prog w n₀ ann c B (flushS (its.map (mkPair dp)) (some d)) dp s (19 * its.length + 7) (some d) dp
      { s with heap := hpA pre (dObj (acc ++ entG s.toks its)) (post ++ [dObj (entG s.toks its)]) life, toks := s.toks + 3 * its.length } := by
  subst hd
  unfold flushS
  have hpl : (pre ++ dObj acc :: post).length = pre.length + 1 + post.length := by simp; omega
  have sub := subDict_S hh (dp := dp) (pre := pre ++ dObj acc :: post) (life := life) its b s (by rw [hs]; rfl) (by rw [hpl]; omega) hi hb hr
  rw [show hpA (pre ++ dObj acc :: post) (dObj (entG s.toks its)) [] life = hpA pre (dObj acc) (post ++ [dObj (entG s.toks its)]) life from hpA_last.symm, hpl] at sub
  rw [show 19 * its.length + 7 = (13 * its.length + 2) + ((6 * (entG s.toks its).length + 5) + 0) by rw [entG_length]; omega]
  refine StpB.bind (StpB.holding sub) ?_
  refine StpB.bind (a := ()) (StpB.onRaise (StpB.holding (merge_S rfl h0 rfl (by
    rw [beq_eq_false_iff_ne]
    show pre.length + 1 + post.length ≠ (1 : Nat)
    have h3 : 2 ≤ pre.length := h2
    omega) ents_keys rfl (by rw [entG_length]; omega) hacc (fun e h x hx => by
      obtain ⟨q, hq, u, rfl⟩ := entG_mem hx
      have := he e h
      have := Rise.lt hr q hq
      show e.hash ≠ q.1
      omega) (entG_pairwise hr)))) StpB.pure
omit hh
theorem gather (f : (Option (Sem Value) × Sem Value) → (Option Addr × List (Sem Value × Sem Value)) → Sem (ForInStep (Option Addr × List (Sem Value × Sem Value))))
    (hf : ∀ (p : Sem Value × Sem Value) (main : Option Addr) (run : List (Sem Value × Sem Value)), run.length + 1 ≠ 17 → f (some p.1, p.2) (main, run) = pure (.yield (main, run ++ [p]))) (main : Option Addr) (rest : List (Option (Sem Value) × Sem Value)) :
    ∀ (items run : List (Sem Value × Sem Value)), run.length + items.length < 17 → forIn (items.map (fun p => (some p.1, p.2)) ++ rest) (main, run) f = forIn rest (main, run ++ items) f
  | [], run, _ => by simp
  | p :: items, run, h => by
    rw [List.map_cons, List.cons_append, List.forIn_cons, hf p main run (by simp at h; omega), pure_bind]
    have := gather f hf main rest items (run ++ [p]) (by simp at h ⊢; omega)
    simpa using this
theorem group17 (f : (Option (Sem Value) × Sem Value) → (Option Addr × List (Sem Value × Sem Value)) → Sem (ForInStep (Option Addr × List (Sem Value × Sem Value))))
    (hf : ∀ (p : Sem Value × Sem Value) (main : Option Addr) (run : List (Sem Value × Sem Value)), run.length + 1 ≠ 17 → f (some p.1, p.2) (main, run) = pure (.yield (main, run ++ [p])))
    (hg : ∀ (p : Sem Value × Sem Value) (main : Option Addr) (run : List (Sem Value × Sem Value)), run.length + 1 = 17 → f (some p.1, p.2) (main, run) = (do let m ← flushS (run ++ [p]) main; pure (.yield (m, []))))
    (main : Option Addr) (rest : List (Option (Sem Value) × Sem Value)) (items : List (Sem Value × Sem Value)) (h : items.length = 17) :
    forIn (items.map (fun p => (some p.1, p.2)) ++ rest) (main, ([] : List (Sem Value × Sem Value))) f = (do let m ← flushS items main; forIn rest (m, []) f) := by
  obtain ⟨ini, l, rfl⟩ : ∃ ini l, items = ini ++ [l] := ⟨items.dropLast, items.getLast (by intro e; rw [e] at h; cases h), (List.dropLast_concat_getLast _).symm⟩
  have hl : ini.length = 16 := by simpa using h
  rw [List.map_append, List.append_assoc, gather f hf main _ ini [] (by simp; omega), List.nil_append, List.map_cons, List.map_nil, List.singleton_append, List.forIn_cons, hg l main ini (by omega), bind_assoc]
  simp

noncomputable def subsOf : Tok → List (List (Int × Str)) → List (List DictEntry)
  | _, [] => []
  | t, g :: gs => entG t g :: subsOf (t + 3 * g.length) gs
noncomputable def tokOf : Tok → List (List (Int × Str)) → Tok
  | t, [] => t
  | t, g :: gs => tokOf (t + 3 * g.length) gs
noncomputable def lenOf (gs : List (List (Int × Str))) : Nat := (gs.map (·.length)).sum
include hh
theorem groups_loop {d : Addr} {dp : Pos} {pre : List Obj} {life : Life} (hd : d = pre.length) (h0 : n₀ ≤ d) (h2 : 2 ≤ d)
    (f : (Option (Sem Value) × Sem Value) → (Option Addr × List (Sem Value × Sem Value)) → Sem (ForInStep (Option Addr × List (Sem Value × Sem Value))))
    (hf : ∀ (p : Sem Value × Sem Value) (main : Option Addr) (run : List (Sem Value × Sem Value)), run.length + 1 ≠ 17 → f (some p.1, p.2) (main, run) = pure (.yield (main, run ++ [p])))
    (hg : ∀ (p : Sem Value × Sem Value) (main : Option Addr) (run : List (Sem Value × Sem Value)), run.length + 1 = 17 → f (some p.1, p.2) (main, run) = (do let m ← flushS (run ++ [p]) main; pure (.yield (m, []))))
    (G : (Option Addr × List (Sem Value × Sem Value)) → Sem (Option Addr)) (hG : ∀ (main : Option Addr) (run : List (Sem Value × Sem Value)), run ≠ [] → G (main, run) = flushS run main)
    (last : List (Int × Str)) (hlast : last.length < 17) (hne : last ≠ []) : ∀ (gs : List (List (Int × Str))) (b : Int) (acc : List DictEntry) (post : List Obj) (s : Shared),
    (∀ g ∈ gs, g.length = 17) → s.heap = hpA pre (dObj acc) post life → acc.length + lenOf gs + last.length < 90000 → acc ≠ [] → 0 ≤ b + 1 → Rise b (gs.flatten ++ last) → (∀ e ∈ acc, e.hash ≤ b) →
    StpB prog w n₀ ann c B (do
        let r ← forIn (((gs.flatten ++ last).map (mkPair dp)).map (fun p => (some p.1, p.2))) (some d, ([] : List (Sem Value × Sem Value))) f
        G r) dp s (20 * (lenOf gs + last.length) + 10 * gs.length + 10) (some d) dp
      { s with heap := hpA pre (dObj (acc ++ (subsOf s.toks (gs ++ [last])).flatten)) (post ++ (subsOf s.toks (gs ++ [last])).map dObj) life, toks := tokOf s.toks (gs ++ [last]) }
  | [], b, acc, post, s, hgs, hs, hl, hacc, hb, hr, he => by
    simp only [List.flatten_nil, List.nil_append, lenOf, List.map_nil, List.sum_nil] at hr hl ⊢
    have e := gather f hf (some d) [] (last.map (mkPair dp)) [] (by simpa using hlast)
    rw [List.append_nil, List.nil_append] at e
    rw [e, List.forIn_nil, pure_bind, hG _ _ (by simpa using hne)]
    have x := flush_some hh (dp := dp) last b s hd h0 h2 hs (by omega) (by omega) hacc hb hr he
    have e2 : ({ s with heap := hpA pre (dObj (acc ++ (subsOf s.toks [last]).flatten)) (post ++ (subsOf s.toks [last]).map dObj) life, toks := tokOf s.toks [last] } : Shared) =
      { s with heap := hpA pre (dObj (acc ++ entG s.toks last)) (post ++ [dObj (entG s.toks last)]) life, toks := s.toks + 3 * last.length } := by
      simp [subsOf, tokOf]
    rw [e2]
    exact x.mono (by simp; omega)
  | g :: gs, b, acc, post, s, hgs, hs, hl, hacc, hb, hr, he => by
    have h17 : g.length = 17 := hgs g (.head _)
    have hlen : lenOf (g :: gs) = 17 + lenOf gs := by simp [lenOf, h17]
    rw [hlen] at hl ⊢
    rw [List.flatten_cons, List.append_assoc] at hr ⊢
    obtain ⟨b', k1, k2, k3⟩ := hr.right
    rw [List.map_append, List.map_append, group17 f hf hg (some d) _ (g.map (mkPair dp)) (by simpa using h17), bind_assoc]
    have x := flush_some hh (dp := dp) g b s hd h0 h2 hs (by omega) (by omega) hacc hb hr.left he
    have rest := groups_loop (dp := dp) hd h0 h2 f hf hg G hG last hlast hne gs b' (acc ++ entG s.toks g) (post ++ [dObj (entG s.toks g)])
      { s with heap := hpA pre (dObj (acc ++ entG s.toks g)) (post ++ [dObj (entG s.toks g)]) life, toks := s.toks + 3 * g.length } (fun x hx => hgs x (.tail _ hx)) rfl
      (by rw [List.length_append, entG_length]; omega) (by simp [hacc]) (by omega) k3 (fun e hm => by
        rcases List.mem_append.mp hm with hm | hm
        · have := he e hm; omega
        · obtain ⟨q, hq, u, rfl⟩ := entG_mem hm; exact k1 q hq)
    have e2 : ({ s with heap := hpA pre (dObj (acc ++ (subsOf s.toks (g :: gs ++ [last])).flatten)) (post ++ (subsOf s.toks (g :: gs ++ [last])).map dObj) life, toks := tokOf s.toks (g :: gs ++ [last]) } : Shared) =
      { s with heap := hpA pre (dObj (acc ++ entG s.toks g ++ (subsOf (s.toks + 3 * g.length) (gs ++ [last])).flatten)) (post ++ [dObj (entG s.toks g)] ++ (subsOf (s.toks + 3 * g.length) (gs ++ [last])).map dObj) life, toks := tokOf (s.toks + 3 * g.length) (gs ++ [last]) } := by
      simp [subsOf, tokOf]
    rw [e2]
    refine StpB.mono (n := (19 * g.length + 7) + (20 * (lenOf gs + last.length) + 10 * gs.length + 10)) ?_ (by simp; omega)
    exact StpB.bind x rest

/-- a display of rising int keys and written texts: the first group lies in the dict itself, the others pass through sub-dicts -/
theorem display {dp : Pos} {pre : List Obj} {life : Life} (h0 : n₀ ≤ pre.length) (h2 : 2 ≤ pre.length) (g : List (Int × Str)) (gs : List (List (Int × Str))) (last : List (Int × Str)) (s : Shared)
    (hg17 : g.length = 17) (hgs : ∀ x ∈ gs, x.length = 17) (hlast : last.length < 17) (hlne : last ≠ []) (hs : s.heap = ⟨⟨pre⟩, life⟩) (hl : lenOf gs + last.length < 80000) (hr : Rise (-1) (g ++ (gs.flatten ++ last))) :
    StpB prog w n₀ ann c B (dictDisplay (((g ++ (gs.flatten ++ last)).map (mkPair dp)).map (fun p => (some p.1, p.2)))) dp s (20 * (lenOf gs + last.length) + 10 * gs.length + 300) (.ref pre.length) dp
      { s with heap := hpA pre (dObj (entG s.toks g ++ (subsOf (s.toks + 51) (gs ++ [last])).flatten)) ((subsOf (s.toks + 51) (gs ++ [last])).map dObj) life, toks := tokOf (s.toks + 51) (gs ++ [last]) } := by
  obtain ⟨b', k1, k2, k3⟩ := hr.right
  have sub := subDict_S hh (dp := dp) (pre := pre) (life := life) g (-1) s hs h0 (by omega) (by omega) hr.left
  have key : ∀ (f : (Option (Sem Value) × Sem Value) → (Option Addr × List (Sem Value × Sem Value)) → Sem (ForInStep (Option Addr × List (Sem Value × Sem Value)))) (G : (Option Addr × List (Sem Value × Sem Value)) → Sem (Option Addr)),
      (∀ (p : Sem Value × Sem Value) (main : Option Addr) (run : List (Sem Value × Sem Value)), run.length + 1 ≠ 17 → f (some p.1, p.2) (main, run) = pure (.yield (main, run ++ [p]))) →
      (∀ (p : Sem Value × Sem Value) (main : Option Addr) (run : List (Sem Value × Sem Value)), run.length + 1 = 17 → f (some p.1, p.2) (main, run) = (do let m ← flushS (run ++ [p]) main; pure (.yield (m, [])))) →
      (∀ (main : Option Addr) (run : List (Sem Value × Sem Value)), run ≠ [] → G (main, run) = flushS run main) →
      StpB prog w n₀ ann c B (do
        let r ← forIn (((g ++ (gs.flatten ++ last)).map (mkPair dp)).map (fun p => (some p.1, p.2))) ((none : Option Addr), ([] : List (Sem Value × Sem Value))) f
        let m ← G r
        match m with
        | some d => pure (Value.ref d)
        | none => newDict) dp s (20 * (lenOf gs + last.length) + 10 * gs.length + 300) (.ref pre.length) dp
      { s with heap := hpA pre (dObj (entG s.toks g ++ (subsOf (s.toks + 51) (gs ++ [last])).flatten)) ((subsOf (s.toks + 51) (gs ++ [last])).map dObj) life, toks := tokOf (s.toks + 51) (gs ++ [last]) } := fun f G hf hg hG => by
    rw [List.map_append, List.map_append, group17 f hf hg none _ (g.map (mkPair dp)) (by simpa using hg17), bind_assoc]
    have first : StpB prog w n₀ ann c B (flushS (g.map (mkPair dp)) none) dp s (13 * g.length + 2 + 0) (some pre.length) dp { s with heap := hpA pre (dObj (entG s.toks g)) [] life, toks := s.toks + 3 * g.length } := by
      unfold flushS
      exact StpB.bind sub StpB.pure
    have hne : entG s.toks g ≠ [] := by
      intro e
      have := entG_length s.toks g
      rw [e] at this
      simp at this; omega
    have rest := groups_loop hh (dp := dp) (pre := pre) (life := life) (d := pre.length) rfl h0 h2 f hf hg G hG last hlast hlne gs b' (entG s.toks g) []
      { s with heap := hpA pre (dObj (entG s.toks g)) [] life, toks := s.toks + 3 * g.length } hgs rfl (by rw [entG_length]; omega) hne (by omega) k3 (fun e hm => by
        obtain ⟨q, hq, u, rfl⟩ := entG_mem hm; exact k1 q hq)
    rw [hg17] at first rest
    refine StpB.mono (n := (13 * 17 + 2 + 0) + ((20 * (lenOf gs + last.length) + 10 * gs.length + 10) + 0)) ?_ (by omega)
    refine StpB.bind first ?_
    have fin := StpB.bind (f := fun m => match m with
        | some d => pure (Value.ref d)
        | none => newDict) rest (StpB.pure (N := 0))
    rw [bind_assoc] at fin
    exact fin
  unfold dictDisplay
  dsimp only
  refine key _ _ ?_ ?_ ?_
  · intro p main run h
    dsimp only
    rw [if_neg (by simpa using h)]
  · intro p main run h
    dsimp only
    rw [if_pos (by simpa using h)]
    cases main <;> simp [flushS]
  · intro main run h
    dsimp only
    rw [if_neg (by simpa using h)]
    cases main <;> rfl
end
end Mine
-- part TopA2
set_option maxRecDepth 100000
noncomputable section
namespace Mine
open PySem PySem.W PySem.Calls PyProof.Rows
noncomputable abbrev pw : Program := PySem.Challenge.pw_ux0025_02
noncomputable abbrev st (i : Nat) : Stmt := (pw.main.body[i]?).getD (.Pass ⟨0, 0, 0, 0⟩)
noncomputable abbrev stArgs : Stmt → Arguments | .FunctionDef _ a _ _ _ _ _ _ _ _ => a | _ => ⟨[], [], none, [], [], none, []⟩
noncomputable abbrev stBody : Stmt → List Stmt | .FunctionDef _ _ b _ _ _ _ _ _ _ => b | _ => []
noncomputable abbrev stScope : Stmt → Scope | .FunctionDef _ _ _ _ _ _ sc _ _ _ => sc | _ => pw.main.scope
noncomputable abbrev fd (s : Stmt) (name qual : Str) (g : Addr) (cl : List (Str × Addr)) (dv kv doc pm : Value) (an : Option Addr) (cd ct : Value) (b : Addr) : FuncData :=
  { name := name, qualname := qual, params := stArgs s, body := .stmts (stBody s), scope := stScope s, globals := g, closure := cl, defaults := dv, kwdefaults := kv, doc := doc, pyModule := pm, annotations := an, code := cd, closureTuple := ct, builtins := b }
noncomputable abbrev envT : Env := { scope := pw.main.scope, locals := mainNs, globals := mainNs, cells := [], code := (.ref 13), frame := some 14 }
noncomputable abbrev cE : Code := .body (behindTheImports pw) envT
noncomputable abbrev qT : Pos := ⟨0, 0, 0, 0⟩
noncomputable abbrev annT : Option Value := some (.ref 6)
/-- the parts of the dict display -/
noncomputable def dKeys : Stmt → List (Option PySem.Expr) | .Assign _ (.Dict ks _ _) _ => ks | _ => []
noncomputable def dVals : Stmt → List PySem.Expr | .Assign _ (.Dict _ vs _) _ => vs | _ => []
noncomputable def dPos : Stmt → Pos | .Assign _ (.Dict _ _ p) _ => p | _ => ⟨0, 0, 0, 0⟩
noncomputable def aPos : Stmt → Pos | .Assign _ _ p => p | _ => ⟨0, 0, 0, 0⟩
noncomputable def aTgt : Stmt → List PySem.Expr | .Assign t _ _ => t | _ => []
noncomputable def keyOf : Option PySem.Expr → Int | some (.Constant (.int i) _ _) => i | _ => 0
noncomputable def textOf : PySem.Expr → Str | .Constant (.str x) _ _ => x | _ => Str.empty
noncomputable def itemsOf : List (Option PySem.Expr) → List PySem.Expr → List (Int × Str)
  | k :: ks, v :: vs => (keyOf k, textOf v) :: itemsOf ks vs
  | _, _ => []
noncomputable def items : List (Int × Str) := itemsOf (dKeys (st 10)) (dVals (st 10))
noncomputable def gr0 : List (Int × Str) := items.take 17
noncomputable def grs : List (List (Int × Str)) := (List.range 37).map fun k => (items.drop (17 * (k + 1))).take 17
noncomputable def grl : List (Int × Str) := items.drop 646
noncomputable def subE : List (List DictEntry) := subsOf 372 (grs ++ [grl])
noncomputable def mainE : List DictEntry := entG 321 gr0 ++ subE.flatten
noncomputable abbrev o11_0 (P : Params) : Obj := ⟨(.type "tuple"), none, (.seq #[] 0), #[]⟩
noncomputable abbrev o12_0 (P : Params) : Obj := ⟨.none, none, (.fields #[]), #[]⟩
noncomputable abbrev o13_0 (P : Params) : Obj := ⟨(.type "code"), none, (.fields #[(.str (PySem.Str.ofString "<module>") 182), (.str (PySem.Str.ofString "<module>") 183), (.str (PySem.Str.ofString "/claim/cut.py") 184), (.int 1 0), (.int 0 0), (.int 0 0), (.int 0 0), (.int 0 0), (.ref 11), (.bool false), (.int 181 0), (.ref 12), .none, .none, .none, .none, (.int 185 0), (.int 1 0), (.str (PySem.Str.ofString "/claim/cut.py") 186)]), #[]⟩
noncomputable abbrev o14_0 (P : Params) : Obj := ⟨(.type "frame"), none, .plain, #[(some (.ref 13)), (some (.ref 3)), (some (.ref 3)), none, (some (.str (PySem.Str.ofString "__main__") 164)), none, (some (.ref 0))]⟩
noncomputable abbrev o3_2 (P : Params) : Obj := ⟨(.type "dict"), none, (.dict #[⟨(PyData.keyHash P (PySem.Str.ofString "__name__")), (.str (PySem.Str.ofString "__name__") 165), (.str (PySem.Str.ofString "cpy313.ftplib") 187)⟩, ⟨(PyData.keyHash P (PySem.Str.ofString "__doc__")), (.str (PySem.Str.ofString "__doc__") 166), .none⟩, ⟨(PyData.keyHash P (PySem.Str.ofString "__package__")), (.str (PySem.Str.ofString "__package__") 167), .none⟩, ⟨(PyData.keyHash P (PySem.Str.ofString "__loader__")), (.str (PySem.Str.ofString "__loader__") 168), (.builtin "__main__.__loader__#opaque")⟩, ⟨(PyData.keyHash P (PySem.Str.ofString "__spec__")), (.str (PySem.Str.ofString "__spec__") 169), .none⟩, ⟨(PyData.keyHash P (PySem.Str.ofString "__annotations__")), (.str (PySem.Str.ofString "__annotations__") 170), (.ref 6)⟩, ⟨(PyData.keyHash P (PySem.Str.ofString "__builtins__")), (.str (PySem.Str.ofString "__builtins__") 171), (.ref 4)⟩, ⟨(PyData.keyHash P (PySem.Str.ofString "__file__")), (.str (PySem.Str.ofString "__file__") 173), (.str (PySem.Str.ofString "/claim/cut.py") 172)⟩, ⟨(PyData.keyHash P (PySem.Str.ofString "__cached__")), (.str (PySem.Str.ofString "__cached__") 174), .none⟩] 9), #[]⟩
noncomputable abbrev o2_3 (P : Params) : Obj := ⟨.none, none, (.dict #[⟨(PyData.keyHash P (PySem.Str.ofString "type.__subclasses__.Exception.0")), (.str (PySem.Str.ofString "type.__subclasses__.Exception.0") 205), (.int 24 0)⟩, ⟨(PyData.keyHash P (PySem.Str.ofString "type.__subclasses__.Exception.n")), (.str (PySem.Str.ofString "type.__subclasses__.Exception.n") 206), (.int 1 0)⟩] 2), #[]⟩
noncomputable abbrev o3_3 (P : Params) : Obj := ⟨(.type "dict"), none, (.dict #[⟨(PyData.keyHash P (PySem.Str.ofString "__name__")), (.str (PySem.Str.ofString "__name__") 165), (.str (PySem.Str.ofString "cpy313.ftplib") 187)⟩, ⟨(PyData.keyHash P (PySem.Str.ofString "__doc__")), (.str (PySem.Str.ofString "__doc__") 166), .none⟩, ⟨(PyData.keyHash P (PySem.Str.ofString "__package__")), (.str (PySem.Str.ofString "__package__") 167), .none⟩, ⟨(PyData.keyHash P (PySem.Str.ofString "__loader__")), (.str (PySem.Str.ofString "__loader__") 168), (.builtin "__main__.__loader__#opaque")⟩, ⟨(PyData.keyHash P (PySem.Str.ofString "__spec__")), (.str (PySem.Str.ofString "__spec__") 169), .none⟩, ⟨(PyData.keyHash P (PySem.Str.ofString "__annotations__")), (.str (PySem.Str.ofString "__annotations__") 170), (.ref 6)⟩, ⟨(PyData.keyHash P (PySem.Str.ofString "__builtins__")), (.str (PySem.Str.ofString "__builtins__") 171), (.ref 4)⟩, ⟨(PyData.keyHash P (PySem.Str.ofString "__file__")), (.str (PySem.Str.ofString "__file__") 173), (.str (PySem.Str.ofString "/claim/cut.py") 172)⟩, ⟨(PyData.keyHash P (PySem.Str.ofString "__cached__")), (.str (PySem.Str.ofString "__cached__") 174), .none⟩, ⟨(PyData.keyHash P (PySem.Str.ofString "Error")), (.str (PySem.Str.ofString "Error") 208), (.ref 24)⟩] 10), #[]⟩
noncomputable abbrev o12_3 (P : Params) : Obj := ⟨.none, none, (.fields #[(.int 2 0), (.int 0 0), (.ref 20)]), #[]⟩
noncomputable abbrev o15_3 (P : Params) : Obj := ⟨(.type "tuple"), none, (.seq #[(.type "Exception")] 0), #[]⟩
noncomputable abbrev o16_3 (P : Params) : Obj := ⟨(.type "builtin_function_or_method"), none, (.fields #[(.builtin "type.__prepare__"), (.type "type")]), #[]⟩
noncomputable abbrev o17_3 (P : Params) : Obj := ⟨(.type "dict"), none, (.dict #[⟨(PyData.keyHash P (PySem.Str.ofString "__module__")), (.str (PySem.Str.ofString "__module__") 196), (.str (PySem.Str.ofString "cpy313.ftplib") 187)⟩, ⟨(PyData.keyHash P (PySem.Str.ofString "__qualname__")), (.str (PySem.Str.ofString "__qualname__") 198), (.str (PySem.Str.ofString "Error") 197)⟩, ⟨(PyData.keyHash P (PySem.Str.ofString "__firstlineno__")), (.str (PySem.Str.ofString "__firstlineno__") 200), (.int 2 199)⟩, ⟨(PyData.keyHash P (PySem.Str.ofString "__static_attributes__")), (.str (PySem.Str.ofString "__static_attributes__") 201), (.ref 22)⟩] 4), #[]⟩
noncomputable abbrev o18_3 (P : Params) : Obj := ⟨(.type "tuple"), none, (.seq #[] 0), #[]⟩
noncomputable abbrev o19_3 (P : Params) : Obj := ⟨.none, none, (.fields #[]), #[]⟩
noncomputable abbrev o20_3 (P : Params) : Obj := ⟨(.type "code"), none, (.fields #[(.str (PySem.Str.ofString "Error") 191), (.str (PySem.Str.ofString "Error") 192), (.str (PySem.Str.ofString "/claim/cut.py") 193), (.int 2 0), (.int 0 0), (.int 0 0), (.int 0 0), (.int 0 0), (.ref 18), (.bool false), (.int 181 0), (.ref 19), .none, .none, .none, .none, (.int 194 0), (.int 2 0), (.str (PySem.Str.ofString "/claim/cut.py") 195)]), #[]⟩
noncomputable abbrev o21_3 (P : Params) : Obj := ⟨(.type "frame"), none, .plain, #[(some (.ref 20)), (some (.ref 3)), (some (.ref 17)), none, (some (.str (PySem.Str.ofString "cpy313.ftplib") 187)), none, (some (.ref 0))]⟩
noncomputable abbrev o22_3 (P : Params) : Obj := ⟨(.type "tuple"), none, (.seq #[] 0), #[]⟩
noncomputable abbrev o23_3 (P : Params) : Obj := ⟨(.type "dict"), none, (.dict #[⟨(PyData.keyHash P (PySem.Str.ofString "__module__")), (.str (PySem.Str.ofString "__module__") 196), (.str (PySem.Str.ofString "cpy313.ftplib") 187)⟩, ⟨(PyData.keyHash P (PySem.Str.ofString "__firstlineno__")), (.str (PySem.Str.ofString "__firstlineno__") 200), (.int 2 199)⟩, ⟨(PyData.keyHash P (PySem.Str.ofString "__static_attributes__")), (.str (PySem.Str.ofString "__static_attributes__") 201), (.ref 22)⟩, ⟨(PyData.keyHash P (PySem.Str.ofString "__weakref__")), (.str (PySem.Str.ofString "__weakref__") 203), (.ref 25)⟩, ⟨(PyData.keyHash P (PySem.Str.ofString "__doc__")), (.str (PySem.Str.ofString "__doc__") 204), .none⟩] 3), #[]⟩
noncomputable abbrev o24_3 (P : Params) : Obj := ⟨(.type "type"), none, (.cls { name := (PySem.Str.ofString "Error"), bases := [(.type "Exception")], mro := [(.ref 24), (.type "Exception"), (.type "BaseException"), (.type "object")], ns := 23, qualname := (PySem.Str.ofString "Error"), hasDict := true, slotNames := [], subclasses := [], abstract := false, collection := none, hasDel := false }), #[(some (.ref 15)), none, (some (.str (PySem.Str.ofString "Error") 189)), (some (.str (PySem.Str.ofString "Error") 197)), (some (.builtin "Exception.__new__")), (some (.bool true))]⟩
noncomputable abbrev o25_3 (P : Params) : Obj := ⟨(.type "getset_descriptor"), none, (.fields #[(.str (PySem.Str.ofString "__weakref__") 202), (.ref 24), (.builtin "ExceptionGroup.__weakref__"), .none]), #[]⟩
noncomputable abbrev o26_3 (P : Params) : Obj := ⟨(.type "super"), none, (.fields #[(.ref 24), (.ref 24), (.ref 24)]), #[]⟩
noncomputable abbrev o27_3 (P : Params) : Obj := ⟨(.type "builtin_function_or_method"), none, (.fields #[(.builtin "object.__init_subclass__"), (.ref 24)]), #[]⟩
noncomputable abbrev o3_4 (P : Params) : Obj := ⟨(.type "dict"), none, (.dict #[⟨(PyData.keyHash P (PySem.Str.ofString "__name__")), (.str (PySem.Str.ofString "__name__") 165), (.str (PySem.Str.ofString "cpy313.ftplib") 187)⟩, ⟨(PyData.keyHash P (PySem.Str.ofString "__doc__")), (.str (PySem.Str.ofString "__doc__") 166), .none⟩, ⟨(PyData.keyHash P (PySem.Str.ofString "__package__")), (.str (PySem.Str.ofString "__package__") 167), .none⟩, ⟨(PyData.keyHash P (PySem.Str.ofString "__loader__")), (.str (PySem.Str.ofString "__loader__") 168), (.builtin "__main__.__loader__#opaque")⟩, ⟨(PyData.keyHash P (PySem.Str.ofString "__spec__")), (.str (PySem.Str.ofString "__spec__") 169), .none⟩, ⟨(PyData.keyHash P (PySem.Str.ofString "__annotations__")), (.str (PySem.Str.ofString "__annotations__") 170), (.ref 6)⟩, ⟨(PyData.keyHash P (PySem.Str.ofString "__builtins__")), (.str (PySem.Str.ofString "__builtins__") 171), (.ref 4)⟩, ⟨(PyData.keyHash P (PySem.Str.ofString "__file__")), (.str (PySem.Str.ofString "__file__") 173), (.str (PySem.Str.ofString "/claim/cut.py") 172)⟩, ⟨(PyData.keyHash P (PySem.Str.ofString "__cached__")), (.str (PySem.Str.ofString "__cached__") 174), .none⟩, ⟨(PyData.keyHash P (PySem.Str.ofString "Error")), (.str (PySem.Str.ofString "Error") 208), (.ref 24)⟩, ⟨(PyData.keyHash P (PySem.Str.ofString "error_reply")), (.str (PySem.Str.ofString "error_reply") 224), (.ref 37)⟩] 11), #[]⟩
noncomputable abbrev o12_4 (P : Params) : Obj := ⟨.none, none, (.fields #[(.int 2 0), (.int 0 0), (.ref 20), (.int 4 0), (.int 0 0), (.ref 33)]), #[]⟩
noncomputable abbrev o24_4 (P : Params) : Obj := ⟨(.type "type"), none, (.cls { name := (PySem.Str.ofString "Error"), bases := [(.type "Exception")], mro := [(.ref 24), (.type "Exception"), (.type "BaseException"), (.type "object")], ns := 23, qualname := (PySem.Str.ofString "Error"), hasDict := true, slotNames := [], subclasses := [(.ref 37)], abstract := false, collection := none, hasDel := false }), #[(some (.ref 15)), none, (some (.str (PySem.Str.ofString "Error") 189)), (some (.str (PySem.Str.ofString "Error") 197)), (some (.builtin "Exception.__new__")), (some (.bool true))]⟩
noncomputable abbrev o28_4 (P : Params) : Obj := ⟨(.type "tuple"), none, (.seq #[(.ref 24)] 0), #[]⟩
noncomputable abbrev o29_4 (P : Params) : Obj := ⟨(.type "builtin_function_or_method"), none, (.fields #[(.builtin "type.__prepare__"), (.type "type")]), #[]⟩
noncomputable abbrev o30_4 (P : Params) : Obj := ⟨(.type "dict"), none, (.dict #[⟨(PyData.keyHash P (PySem.Str.ofString "__module__")), (.str (PySem.Str.ofString "__module__") 216), (.str (PySem.Str.ofString "cpy313.ftplib") 187)⟩, ⟨(PyData.keyHash P (PySem.Str.ofString "__qualname__")), (.str (PySem.Str.ofString "__qualname__") 218), (.str (PySem.Str.ofString "error_reply") 217)⟩, ⟨(PyData.keyHash P (PySem.Str.ofString "__firstlineno__")), (.str (PySem.Str.ofString "__firstlineno__") 220), (.int 4 219)⟩, ⟨(PyData.keyHash P (PySem.Str.ofString "__static_attributes__")), (.str (PySem.Str.ofString "__static_attributes__") 221), (.ref 35)⟩] 4), #[]⟩
noncomputable abbrev o31_4 (P : Params) : Obj := ⟨(.type "tuple"), none, (.seq #[] 0), #[]⟩
noncomputable abbrev o32_4 (P : Params) : Obj := ⟨.none, none, (.fields #[]), #[]⟩
noncomputable abbrev o33_4 (P : Params) : Obj := ⟨(.type "code"), none, (.fields #[(.str (PySem.Str.ofString "error_reply") 211), (.str (PySem.Str.ofString "error_reply") 212), (.str (PySem.Str.ofString "/claim/cut.py") 213), (.int 4 0), (.int 0 0), (.int 0 0), (.int 0 0), (.int 0 0), (.ref 31), (.bool false), (.int 181 0), (.ref 32), .none, .none, .none, .none, (.int 214 0), (.int 4 0), (.str (PySem.Str.ofString "/claim/cut.py") 215)]), #[]⟩
noncomputable abbrev o34_4 (P : Params) : Obj := ⟨(.type "frame"), none, .plain, #[(some (.ref 33)), (some (.ref 3)), (some (.ref 30)), none, (some (.str (PySem.Str.ofString "cpy313.ftplib") 187)), none, (some (.ref 0))]⟩
noncomputable abbrev o35_4 (P : Params) : Obj := ⟨(.type "tuple"), none, (.seq #[] 0), #[]⟩
noncomputable abbrev o36_4 (P : Params) : Obj := ⟨(.type "dict"), none, (.dict #[⟨(PyData.keyHash P (PySem.Str.ofString "__module__")), (.str (PySem.Str.ofString "__module__") 216), (.str (PySem.Str.ofString "cpy313.ftplib") 187)⟩, ⟨(PyData.keyHash P (PySem.Str.ofString "__firstlineno__")), (.str (PySem.Str.ofString "__firstlineno__") 220), (.int 4 219)⟩, ⟨(PyData.keyHash P (PySem.Str.ofString "__static_attributes__")), (.str (PySem.Str.ofString "__static_attributes__") 221), (.ref 35)⟩, ⟨(PyData.keyHash P (PySem.Str.ofString "__doc__")), (.str (PySem.Str.ofString "__doc__") 222), .none⟩] 2), #[]⟩
noncomputable abbrev o37_4 (P : Params) : Obj := ⟨(.type "type"), none, (.cls { name := (PySem.Str.ofString "error_reply"), bases := [(.ref 24)], mro := [(.ref 37), (.ref 24), (.type "Exception"), (.type "BaseException"), (.type "object")], ns := 36, qualname := (PySem.Str.ofString "error_reply"), hasDict := true, slotNames := [], subclasses := [], abstract := false, collection := none, hasDel := false }), #[(some (.ref 28)), none, (some (.str (PySem.Str.ofString "error_reply") 209)), (some (.str (PySem.Str.ofString "error_reply") 217)), (some (.builtin "Exception.__new__")), (some (.bool true))]⟩
noncomputable abbrev o38_4 (P : Params) : Obj := ⟨(.type "super"), none, (.fields #[(.ref 37), (.ref 37), (.ref 37)]), #[]⟩
noncomputable abbrev o39_4 (P : Params) : Obj := ⟨(.type "builtin_function_or_method"), none, (.fields #[(.builtin "object.__init_subclass__"), (.ref 37)]), #[]⟩
noncomputable abbrev o3_5 (P : Params) : Obj := ⟨(.type "dict"), none, (.dict #[⟨(PyData.keyHash P (PySem.Str.ofString "__name__")), (.str (PySem.Str.ofString "__name__") 165), (.str (PySem.Str.ofString "cpy313.ftplib") 187)⟩, ⟨(PyData.keyHash P (PySem.Str.ofString "__doc__")), (.str (PySem.Str.ofString "__doc__") 166), .none⟩, ⟨(PyData.keyHash P (PySem.Str.ofString "__package__")), (.str (PySem.Str.ofString "__package__") 167), .none⟩, ⟨(PyData.keyHash P (PySem.Str.ofString "__loader__")), (.str (PySem.Str.ofString "__loader__") 168), (.builtin "__main__.__loader__#opaque")⟩, ⟨(PyData.keyHash P (PySem.Str.ofString "__spec__")), (.str (PySem.Str.ofString "__spec__") 169), .none⟩, ⟨(PyData.keyHash P (PySem.Str.ofString "__annotations__")), (.str (PySem.Str.ofString "__annotations__") 170), (.ref 6)⟩, ⟨(PyData.keyHash P (PySem.Str.ofString "__builtins__")), (.str (PySem.Str.ofString "__builtins__") 171), (.ref 4)⟩, ⟨(PyData.keyHash P (PySem.Str.ofString "__file__")), (.str (PySem.Str.ofString "__file__") 173), (.str (PySem.Str.ofString "/claim/cut.py") 172)⟩, ⟨(PyData.keyHash P (PySem.Str.ofString "__cached__")), (.str (PySem.Str.ofString "__cached__") 174), .none⟩, ⟨(PyData.keyHash P (PySem.Str.ofString "Error")), (.str (PySem.Str.ofString "Error") 208), (.ref 24)⟩, ⟨(PyData.keyHash P (PySem.Str.ofString "error_reply")), (.str (PySem.Str.ofString "error_reply") 224), (.ref 37)⟩, ⟨(PyData.keyHash P (PySem.Str.ofString "parse257")), (.str (PySem.Str.ofString "parse257") 235), (.ref 46)⟩] 12), #[]⟩
noncomputable abbrev o12_5 (P : Params) : Obj := ⟨.none, none, (.fields #[(.int 2 0), (.int 0 0), (.ref 20), (.int 4 0), (.int 0 0), (.ref 33), (.int 6 0), (.int 0 0), (.ref 45)]), #[]⟩
noncomputable abbrev o40_5 (P : Params) : Obj := ⟨(.type "tuple"), none, (.seq #[] 0), #[]⟩
noncomputable abbrev o41_5 (P : Params) : Obj := ⟨.none, none, (.fields #[]), #[]⟩
noncomputable abbrev o42_5 (P : Params) : Obj := ⟨(.type "tuple"), none, (.seq #[(.str (PySem.Str.ofString "resp") 228), (.str (PySem.Str.ofString "dirname") 229), (.str (PySem.Str.ofString "i") 230), (.str (PySem.Str.ofString "n") 231), (.str (PySem.Str.ofString "c") 232)] 0), #[]⟩
noncomputable abbrev o43_5 (P : Params) : Obj := ⟨(.type "tuple"), none, (.seq #[] 0), #[]⟩
noncomputable abbrev o44_5 (P : Params) : Obj := ⟨.none, none, (.func (fd (st 3) (PySem.Str.ofString "parse257") (PySem.Str.ofString "parse257") 0 [] .none .none .none .none none .none .none 0)), #[]⟩
noncomputable abbrev o45_5 (P : Params) : Obj := ⟨(.type "code"), none, (.fields #[(.str (PySem.Str.ofString "parse257") 225), (.str (PySem.Str.ofString "parse257") 226), (.str (PySem.Str.ofString "/claim/cut.py") 227), (.int 6 0), (.int 1 0), (.int 0 0), (.int 0 0), (.int 3 0), (.ref 40), (.bool true), (.int 181 0), (.ref 41), .none, (.ref 42), (.ref 43), (.ref 44), (.int 233 0), (.int 6 0), (.str (PySem.Str.ofString "/claim/cut.py") 234)]), #[]⟩
noncomputable abbrev o46_5 (P : Params) : Obj := ⟨(.type "function"), none, (.func (fd (st 3) (PySem.Str.ofString "parse257") (PySem.Str.ofString "parse257") 3 [] .none .none .none (.str (PySem.Str.ofString "cpy313.ftplib") 187) none (.ref 45) .none 0)), #[]⟩
noncomputable abbrev o3_6 (P : Params) : Obj := ⟨(.type "dict"), none, (.dict #[⟨(PyData.keyHash P (PySem.Str.ofString "__name__")), (.str (PySem.Str.ofString "__name__") 165), (.str (PySem.Str.ofString "cpy313.doctest") 236)⟩, ⟨(PyData.keyHash P (PySem.Str.ofString "__doc__")), (.str (PySem.Str.ofString "__doc__") 166), .none⟩, ⟨(PyData.keyHash P (PySem.Str.ofString "__package__")), (.str (PySem.Str.ofString "__package__") 167), .none⟩, ⟨(PyData.keyHash P (PySem.Str.ofString "__loader__")), (.str (PySem.Str.ofString "__loader__") 168), (.builtin "__main__.__loader__#opaque")⟩, ⟨(PyData.keyHash P (PySem.Str.ofString "__spec__")), (.str (PySem.Str.ofString "__spec__") 169), .none⟩, ⟨(PyData.keyHash P (PySem.Str.ofString "__annotations__")), (.str (PySem.Str.ofString "__annotations__") 170), (.ref 6)⟩, ⟨(PyData.keyHash P (PySem.Str.ofString "__builtins__")), (.str (PySem.Str.ofString "__builtins__") 171), (.ref 4)⟩, ⟨(PyData.keyHash P (PySem.Str.ofString "__file__")), (.str (PySem.Str.ofString "__file__") 173), (.str (PySem.Str.ofString "/claim/cut.py") 172)⟩, ⟨(PyData.keyHash P (PySem.Str.ofString "__cached__")), (.str (PySem.Str.ofString "__cached__") 174), .none⟩, ⟨(PyData.keyHash P (PySem.Str.ofString "Error")), (.str (PySem.Str.ofString "Error") 208), (.ref 24)⟩, ⟨(PyData.keyHash P (PySem.Str.ofString "error_reply")), (.str (PySem.Str.ofString "error_reply") 224), (.ref 37)⟩, ⟨(PyData.keyHash P (PySem.Str.ofString "parse257")), (.str (PySem.Str.ofString "parse257") 235), (.ref 46)⟩] 12), #[]⟩
noncomputable abbrev o3_7 (P : Params) : Obj := ⟨(.type "dict"), none, (.dict #[⟨(PyData.keyHash P (PySem.Str.ofString "__name__")), (.str (PySem.Str.ofString "__name__") 165), (.str (PySem.Str.ofString "cpy313.doctest") 236)⟩, ⟨(PyData.keyHash P (PySem.Str.ofString "__doc__")), (.str (PySem.Str.ofString "__doc__") 166), .none⟩, ⟨(PyData.keyHash P (PySem.Str.ofString "__package__")), (.str (PySem.Str.ofString "__package__") 167), .none⟩, ⟨(PyData.keyHash P (PySem.Str.ofString "__loader__")), (.str (PySem.Str.ofString "__loader__") 168), (.builtin "__main__.__loader__#opaque")⟩, ⟨(PyData.keyHash P (PySem.Str.ofString "__spec__")), (.str (PySem.Str.ofString "__spec__") 169), .none⟩, ⟨(PyData.keyHash P (PySem.Str.ofString "__annotations__")), (.str (PySem.Str.ofString "__annotations__") 170), (.ref 6)⟩, ⟨(PyData.keyHash P (PySem.Str.ofString "__builtins__")), (.str (PySem.Str.ofString "__builtins__") 171), (.ref 4)⟩, ⟨(PyData.keyHash P (PySem.Str.ofString "__file__")), (.str (PySem.Str.ofString "__file__") 173), (.str (PySem.Str.ofString "/claim/cut.py") 172)⟩, ⟨(PyData.keyHash P (PySem.Str.ofString "__cached__")), (.str (PySem.Str.ofString "__cached__") 174), .none⟩, ⟨(PyData.keyHash P (PySem.Str.ofString "Error")), (.str (PySem.Str.ofString "Error") 208), (.ref 24)⟩, ⟨(PyData.keyHash P (PySem.Str.ofString "error_reply")), (.str (PySem.Str.ofString "error_reply") 224), (.ref 37)⟩, ⟨(PyData.keyHash P (PySem.Str.ofString "parse257")), (.str (PySem.Str.ofString "parse257") 235), (.ref 46)⟩, ⟨(PyData.keyHash P (PySem.Str.ofString "ELLIPSIS_MARKER")), (.str (PySem.Str.ofString "ELLIPSIS_MARKER") 239), (.str (PySem.Str.ofString "...") 238)⟩] 13), #[]⟩
noncomputable abbrev o3_8 (P : Params) : Obj := ⟨(.type "dict"), none, (.dict #[⟨(PyData.keyHash P (PySem.Str.ofString "__name__")), (.str (PySem.Str.ofString "__name__") 165), (.str (PySem.Str.ofString "cpy313.doctest") 236)⟩, ⟨(PyData.keyHash P (PySem.Str.ofString "__doc__")), (.str (PySem.Str.ofString "__doc__") 166), .none⟩, ⟨(PyData.keyHash P (PySem.Str.ofString "__package__")), (.str (PySem.Str.ofString "__package__") 167), .none⟩, ⟨(PyData.keyHash P (PySem.Str.ofString "__loader__")), (.str (PySem.Str.ofString "__loader__") 168), (.builtin "__main__.__loader__#opaque")⟩, ⟨(PyData.keyHash P (PySem.Str.ofString "__spec__")), (.str (PySem.Str.ofString "__spec__") 169), .none⟩, ⟨(PyData.keyHash P (PySem.Str.ofString "__annotations__")), (.str (PySem.Str.ofString "__annotations__") 170), (.ref 6)⟩, ⟨(PyData.keyHash P (PySem.Str.ofString "__builtins__")), (.str (PySem.Str.ofString "__builtins__") 171), (.ref 4)⟩, ⟨(PyData.keyHash P (PySem.Str.ofString "__file__")), (.str (PySem.Str.ofString "__file__") 173), (.str (PySem.Str.ofString "/claim/cut.py") 172)⟩, ⟨(PyData.keyHash P (PySem.Str.ofString "__cached__")), (.str (PySem.Str.ofString "__cached__") 174), .none⟩, ⟨(PyData.keyHash P (PySem.Str.ofString "Error")), (.str (PySem.Str.ofString "Error") 208), (.ref 24)⟩, ⟨(PyData.keyHash P (PySem.Str.ofString "error_reply")), (.str (PySem.Str.ofString "error_reply") 224), (.ref 37)⟩, ⟨(PyData.keyHash P (PySem.Str.ofString "parse257")), (.str (PySem.Str.ofString "parse257") 235), (.ref 46)⟩, ⟨(PyData.keyHash P (PySem.Str.ofString "ELLIPSIS_MARKER")), (.str (PySem.Str.ofString "ELLIPSIS_MARKER") 239), (.str (PySem.Str.ofString "...") 238)⟩, ⟨(PyData.keyHash P (PySem.Str.ofString "_ellipsis_match")), (.str (PySem.Str.ofString "_ellipsis_match") 251), (.ref 53)⟩] 14), #[]⟩
noncomputable abbrev o12_8 (P : Params) : Obj := ⟨.none, none, (.fields #[(.int 2 0), (.int 0 0), (.ref 20), (.int 4 0), (.int 0 0), (.ref 33), (.int 6 0), (.int 0 0), (.ref 45), (.int 25 0), (.int 0 0), (.ref 52)]), #[]⟩
noncomputable abbrev o47_8 (P : Params) : Obj := ⟨(.type "tuple"), none, (.seq #[] 0), #[]⟩
noncomputable abbrev o48_8 (P : Params) : Obj := ⟨.none, none, (.fields #[]), #[]⟩
noncomputable abbrev o49_8 (P : Params) : Obj := ⟨(.type "tuple"), none, (.seq #[(.str (PySem.Str.ofString "want") 243), (.str (PySem.Str.ofString "got") 244), (.str (PySem.Str.ofString "ws") 245), (.str (PySem.Str.ofString "startpos") 246), (.str (PySem.Str.ofString "endpos") 247), (.str (PySem.Str.ofString "w") 248)] 0), #[]⟩
noncomputable abbrev o50_8 (P : Params) : Obj := ⟨(.type "tuple"), none, (.seq #[] 0), #[]⟩
noncomputable abbrev o51_8 (P : Params) : Obj := ⟨.none, none, (.func (fd (st 6) (PySem.Str.ofString "_ellipsis_match") (PySem.Str.ofString "_ellipsis_match") 0 [] .none .none .none .none none .none .none 0)), #[]⟩
noncomputable abbrev o52_8 (P : Params) : Obj := ⟨(.type "code"), none, (.fields #[(.str (PySem.Str.ofString "_ellipsis_match") 240), (.str (PySem.Str.ofString "_ellipsis_match") 241), (.str (PySem.Str.ofString "/claim/cut.py") 242), (.int 25 0), (.int 2 0), (.int 0 0), (.int 0 0), (.int 3 0), (.ref 47), (.bool true), (.int 181 0), (.ref 48), .none, (.ref 49), (.ref 50), (.ref 51), (.int 249 0), (.int 25 0), (.str (PySem.Str.ofString "/claim/cut.py") 250)]), #[]⟩
noncomputable abbrev o53_8 (P : Params) : Obj := ⟨(.type "function"), none, (.func (fd (st 6) (PySem.Str.ofString "_ellipsis_match") (PySem.Str.ofString "_ellipsis_match") 3 [] .none .none .none (.str (PySem.Str.ofString "cpy313.doctest") 236) none (.ref 52) .none 0)), #[]⟩
noncomputable abbrev o3_9 (P : Params) : Obj := ⟨(.type "dict"), none, (.dict #[⟨(PyData.keyHash P (PySem.Str.ofString "__name__")), (.str (PySem.Str.ofString "__name__") 165), (.str (PySem.Str.ofString "cpy313.stringprep") 252)⟩, ⟨(PyData.keyHash P (PySem.Str.ofString "__doc__")), (.str (PySem.Str.ofString "__doc__") 166), .none⟩, ⟨(PyData.keyHash P (PySem.Str.ofString "__package__")), (.str (PySem.Str.ofString "__package__") 167), .none⟩, ⟨(PyData.keyHash P (PySem.Str.ofString "__loader__")), (.str (PySem.Str.ofString "__loader__") 168), (.builtin "__main__.__loader__#opaque")⟩, ⟨(PyData.keyHash P (PySem.Str.ofString "__spec__")), (.str (PySem.Str.ofString "__spec__") 169), .none⟩, ⟨(PyData.keyHash P (PySem.Str.ofString "__annotations__")), (.str (PySem.Str.ofString "__annotations__") 170), (.ref 6)⟩, ⟨(PyData.keyHash P (PySem.Str.ofString "__builtins__")), (.str (PySem.Str.ofString "__builtins__") 171), (.ref 4)⟩, ⟨(PyData.keyHash P (PySem.Str.ofString "__file__")), (.str (PySem.Str.ofString "__file__") 173), (.str (PySem.Str.ofString "/claim/cut.py") 172)⟩, ⟨(PyData.keyHash P (PySem.Str.ofString "__cached__")), (.str (PySem.Str.ofString "__cached__") 174), .none⟩, ⟨(PyData.keyHash P (PySem.Str.ofString "Error")), (.str (PySem.Str.ofString "Error") 208), (.ref 24)⟩, ⟨(PyData.keyHash P (PySem.Str.ofString "error_reply")), (.str (PySem.Str.ofString "error_reply") 224), (.ref 37)⟩, ⟨(PyData.keyHash P (PySem.Str.ofString "parse257")), (.str (PySem.Str.ofString "parse257") 235), (.ref 46)⟩, ⟨(PyData.keyHash P (PySem.Str.ofString "ELLIPSIS_MARKER")), (.str (PySem.Str.ofString "ELLIPSIS_MARKER") 239), (.str (PySem.Str.ofString "...") 238)⟩, ⟨(PyData.keyHash P (PySem.Str.ofString "_ellipsis_match")), (.str (PySem.Str.ofString "_ellipsis_match") 251), (.ref 53)⟩] 14), #[]⟩
noncomputable abbrev o3_10 (P : Params) : Obj := ⟨(.type "dict"), none, (.dict #[⟨(PyData.keyHash P (PySem.Str.ofString "__name__")), (.str (PySem.Str.ofString "__name__") 165), (.str (PySem.Str.ofString "cpy313.stringprep") 252)⟩, ⟨(PyData.keyHash P (PySem.Str.ofString "__doc__")), (.str (PySem.Str.ofString "__doc__") 166), .none⟩, ⟨(PyData.keyHash P (PySem.Str.ofString "__package__")), (.str (PySem.Str.ofString "__package__") 167), .none⟩, ⟨(PyData.keyHash P (PySem.Str.ofString "__loader__")), (.str (PySem.Str.ofString "__loader__") 168), (.builtin "__main__.__loader__#opaque")⟩, ⟨(PyData.keyHash P (PySem.Str.ofString "__spec__")), (.str (PySem.Str.ofString "__spec__") 169), .none⟩, ⟨(PyData.keyHash P (PySem.Str.ofString "__annotations__")), (.str (PySem.Str.ofString "__annotations__") 170), (.ref 6)⟩, ⟨(PyData.keyHash P (PySem.Str.ofString "__builtins__")), (.str (PySem.Str.ofString "__builtins__") 171), (.ref 4)⟩, ⟨(PyData.keyHash P (PySem.Str.ofString "__file__")), (.str (PySem.Str.ofString "__file__") 173), (.str (PySem.Str.ofString "/claim/cut.py") 172)⟩, ⟨(PyData.keyHash P (PySem.Str.ofString "__cached__")), (.str (PySem.Str.ofString "__cached__") 174), .none⟩, ⟨(PyData.keyHash P (PySem.Str.ofString "Error")), (.str (PySem.Str.ofString "Error") 208), (.ref 24)⟩, ⟨(PyData.keyHash P (PySem.Str.ofString "error_reply")), (.str (PySem.Str.ofString "error_reply") 224), (.ref 37)⟩, ⟨(PyData.keyHash P (PySem.Str.ofString "parse257")), (.str (PySem.Str.ofString "parse257") 235), (.ref 46)⟩, ⟨(PyData.keyHash P (PySem.Str.ofString "ELLIPSIS_MARKER")), (.str (PySem.Str.ofString "ELLIPSIS_MARKER") 239), (.str (PySem.Str.ofString "...") 238)⟩, ⟨(PyData.keyHash P (PySem.Str.ofString "_ellipsis_match")), (.str (PySem.Str.ofString "_ellipsis_match") 251), (.ref 53)⟩, ⟨(PyData.keyHash P (PySem.Str.ofString "b1_set")), (.str (PySem.Str.ofString "b1_set") 313), (.ref 61)⟩] 15), #[]⟩
noncomputable abbrev o54_10 (P : Params) : Obj := ⟨(.type "list"), none, (.seq #[(.int 173 254), (.int 847 255), (.int 6150 256), (.int 6155 257), (.int 6156 258), (.int 6157 259), (.int 8203 260), (.int 8204 261), (.int 8205 262), (.int 8288 263), (.int 65279 264)] 0), #[]⟩
noncomputable abbrev o55_10 (P : Params) : Obj := ⟨(.type "range"), none, (.fields #[(.int 65024 265), (.int 65040 266), (.int 1 267)]), #[]⟩
noncomputable abbrev o56_10 (P : Params) : Obj := ⟨(.type "list"), none, (.seq #[(.int 65024 270), (.int 65025 271), (.int 65026 272), (.int 65027 273), (.int 65028 274), (.int 65029 275), (.int 65030 276), (.int 65031 277), (.int 65032 278), (.int 65033 279), (.int 65034 280), (.int 65035 281), (.int 65036 282), (.int 65037 283), (.int 65038 284), (.int 65039 285)] 18), #[]⟩
noncomputable abbrev o57_10 (P : Params) : Obj := ⟨(.type "range_iterator"), none, (.fields #[(.int 65040 0), (.int 0 0), (.int 1 0)]), #[]⟩
noncomputable abbrev o58_10 (P : Params) : Obj := ⟨(.type "tuple"), none, (.seq #[] 0), #[]⟩
noncomputable abbrev o59_10 (P : Params) : Obj := ⟨(.type "StopIteration"), none, (.fields #[(.ref 58), .none, .none, .none, (.bool false), .none]), #[]⟩
noncomputable abbrev o60_10 (P : Params) : Obj := ⟨(.type "list"), none, (.seq #[(.int 173 254), (.int 847 255), (.int 6150 256), (.int 6155 257), (.int 6156 258), (.int 6157 259), (.int 8203 260), (.int 8204 261), (.int 8205 262), (.int 8288 263), (.int 65279 264), (.int 65024 270), (.int 65025 271), (.int 65026 272), (.int 65027 273), (.int 65028 274), (.int 65029 275), (.int 65030 276), (.int 65031 277), (.int 65032 278), (.int 65033 279), (.int 65034 280), (.int 65035 281), (.int 65036 282), (.int 65037 283), (.int 65038 284), (.int 65039 285)] 0), #[]⟩
noncomputable abbrev o61_10 (P : Params) : Obj := ⟨(.type "set"), none, (.set #[(65024, (.int 65024 270)), (65025, (.int 65025 271)), (65026, (.int 65026 272)), (65027, (.int 65027 273)), (65028, (.int 65028 274)), (65029, (.int 65029 275)), (6150, (.int 6150 256)), (65030, (.int 65030 276)), (65031, (.int 65031 277)), (65032, (.int 65032 278)), (65033, (.int 65033 279)), (6155, (.int 6155 257)), (6156, (.int 6156 258)), (6157, (.int 6157 259)), (8203, (.int 8203 260)), (8204, (.int 8204 261)), (8205, (.int 8205 262)), (65034, (.int 65034 280)), (65035, (.int 65035 281)), (65036, (.int 65036 282)), (65037, (.int 65037 283)), (65038, (.int 65038 284)), (65039, (.int 65039 285)), (173, (.int 173 254)), (847, (.int 847 255)), (8288, (.int 8288 263)), (65279, (.int 65279 264))] 29 { mask := 127, place := #[0, 1, 2, 3, 4, 5, 6, 7, 8, 9, 10, 11, 12, 13, 14, 15, 16, 17, 18, 19, 20, 21, 22, 45, 79, 96, 127], dummies := #[], finger := 0, led := (!(P.followText "set-order")), moves := 2, plain := true }), #[]⟩
noncomputable abbrev o62_10 (P : Params) : Obj := ⟨(.type "list_iterator"), none, (.fields #[.none, (.int 27 0)]), #[]⟩
noncomputable abbrev o63_10 (P : Params) : Obj := ⟨(.type "tuple"), none, (.seq #[] 0), #[]⟩
noncomputable abbrev o64_10 (P : Params) : Obj := ⟨(.type "StopIteration"), none, (.fields #[(.ref 63), .none, .none, .none, (.bool false), .none]), #[]⟩
noncomputable abbrev o3_11 (P : Params) : Obj := ⟨(.type "dict"), none, (.dict #[⟨(PyData.keyHash P (PySem.Str.ofString "__name__")), (.str (PySem.Str.ofString "__name__") 165), (.str (PySem.Str.ofString "cpy313.stringprep") 252)⟩, ⟨(PyData.keyHash P (PySem.Str.ofString "__doc__")), (.str (PySem.Str.ofString "__doc__") 166), .none⟩, ⟨(PyData.keyHash P (PySem.Str.ofString "__package__")), (.str (PySem.Str.ofString "__package__") 167), .none⟩, ⟨(PyData.keyHash P (PySem.Str.ofString "__loader__")), (.str (PySem.Str.ofString "__loader__") 168), (.builtin "__main__.__loader__#opaque")⟩, ⟨(PyData.keyHash P (PySem.Str.ofString "__spec__")), (.str (PySem.Str.ofString "__spec__") 169), .none⟩, ⟨(PyData.keyHash P (PySem.Str.ofString "__annotations__")), (.str (PySem.Str.ofString "__annotations__") 170), (.ref 6)⟩, ⟨(PyData.keyHash P (PySem.Str.ofString "__builtins__")), (.str (PySem.Str.ofString "__builtins__") 171), (.ref 4)⟩, ⟨(PyData.keyHash P (PySem.Str.ofString "__file__")), (.str (PySem.Str.ofString "__file__") 173), (.str (PySem.Str.ofString "/claim/cut.py") 172)⟩, ⟨(PyData.keyHash P (PySem.Str.ofString "__cached__")), (.str (PySem.Str.ofString "__cached__") 174), .none⟩, ⟨(PyData.keyHash P (PySem.Str.ofString "Error")), (.str (PySem.Str.ofString "Error") 208), (.ref 24)⟩, ⟨(PyData.keyHash P (PySem.Str.ofString "error_reply")), (.str (PySem.Str.ofString "error_reply") 224), (.ref 37)⟩, ⟨(PyData.keyHash P (PySem.Str.ofString "parse257")), (.str (PySem.Str.ofString "parse257") 235), (.ref 46)⟩, ⟨(PyData.keyHash P (PySem.Str.ofString "ELLIPSIS_MARKER")), (.str (PySem.Str.ofString "ELLIPSIS_MARKER") 239), (.str (PySem.Str.ofString "...") 238)⟩, ⟨(PyData.keyHash P (PySem.Str.ofString "_ellipsis_match")), (.str (PySem.Str.ofString "_ellipsis_match") 251), (.ref 53)⟩, ⟨(PyData.keyHash P (PySem.Str.ofString "b1_set")), (.str (PySem.Str.ofString "b1_set") 313), (.ref 61)⟩, ⟨(PyData.keyHash P (PySem.Str.ofString "in_table_b1")), (.str (PySem.Str.ofString "in_table_b1") 320), (.ref 71)⟩] 16), #[]⟩
noncomputable abbrev o12_11 (P : Params) : Obj := ⟨.none, none, (.fields #[(.int 2 0), (.int 0 0), (.ref 20), (.int 4 0), (.int 0 0), (.ref 33), (.int 6 0), (.int 0 0), (.ref 45), (.int 25 0), (.int 0 0), (.ref 52), (.int 55 0), (.int 0 0), (.ref 70)]), #[]⟩
noncomputable abbrev o65_11 (P : Params) : Obj := ⟨(.type "tuple"), none, (.seq #[] 0), #[]⟩
noncomputable abbrev o66_11 (P : Params) : Obj := ⟨.none, none, (.fields #[]), #[]⟩
noncomputable abbrev o67_11 (P : Params) : Obj := ⟨(.type "tuple"), none, (.seq #[(.str (PySem.Str.ofString "code") 317)] 0), #[]⟩
noncomputable abbrev o68_11 (P : Params) : Obj := ⟨(.type "tuple"), none, (.seq #[] 0), #[]⟩
noncomputable abbrev o69_11 (P : Params) : Obj := ⟨.none, none, (.func (fd (st 9) (PySem.Str.ofString "in_table_b1") (PySem.Str.ofString "in_table_b1") 0 [] .none .none .none .none none .none .none 0)), #[]⟩
noncomputable abbrev o70_11 (P : Params) : Obj := ⟨(.type "code"), none, (.fields #[(.str (PySem.Str.ofString "in_table_b1") 314), (.str (PySem.Str.ofString "in_table_b1") 315), (.str (PySem.Str.ofString "/claim/cut.py") 316), (.int 55 0), (.int 1 0), (.int 0 0), (.int 0 0), (.int 3 0), (.ref 65), (.bool true), (.int 181 0), (.ref 66), .none, (.ref 67), (.ref 68), (.ref 69), (.int 318 0), (.int 55 0), (.str (PySem.Str.ofString "/claim/cut.py") 319)]), #[]⟩
noncomputable abbrev o71_11 (P : Params) : Obj := ⟨(.type "function"), none, (.func (fd (st 9) (PySem.Str.ofString "in_table_b1") (PySem.Str.ofString "in_table_b1") 3 [] .none .none .none (.str (PySem.Str.ofString "cpy313.stringprep") 252) none (.ref 70) .none 0)), #[]⟩
noncomputable abbrev o3_12 (P : Params) : Obj := ⟨(.type "dict"), none, (.dict #[⟨(PyData.keyHash P (PySem.Str.ofString "__name__")), (.str (PySem.Str.ofString "__name__") 165), (.str (PySem.Str.ofString "cpy313.stringprep") 252)⟩, ⟨(PyData.keyHash P (PySem.Str.ofString "__doc__")), (.str (PySem.Str.ofString "__doc__") 166), .none⟩, ⟨(PyData.keyHash P (PySem.Str.ofString "__package__")), (.str (PySem.Str.ofString "__package__") 167), .none⟩, ⟨(PyData.keyHash P (PySem.Str.ofString "__loader__")), (.str (PySem.Str.ofString "__loader__") 168), (.builtin "__main__.__loader__#opaque")⟩, ⟨(PyData.keyHash P (PySem.Str.ofString "__spec__")), (.str (PySem.Str.ofString "__spec__") 169), .none⟩, ⟨(PyData.keyHash P (PySem.Str.ofString "__annotations__")), (.str (PySem.Str.ofString "__annotations__") 170), (.ref 6)⟩, ⟨(PyData.keyHash P (PySem.Str.ofString "__builtins__")), (.str (PySem.Str.ofString "__builtins__") 171), (.ref 4)⟩, ⟨(PyData.keyHash P (PySem.Str.ofString "__file__")), (.str (PySem.Str.ofString "__file__") 173), (.str (PySem.Str.ofString "/claim/cut.py") 172)⟩, ⟨(PyData.keyHash P (PySem.Str.ofString "__cached__")), (.str (PySem.Str.ofString "__cached__") 174), .none⟩, ⟨(PyData.keyHash P (PySem.Str.ofString "Error")), (.str (PySem.Str.ofString "Error") 208), (.ref 24)⟩, ⟨(PyData.keyHash P (PySem.Str.ofString "error_reply")), (.str (PySem.Str.ofString "error_reply") 224), (.ref 37)⟩, ⟨(PyData.keyHash P (PySem.Str.ofString "parse257")), (.str (PySem.Str.ofString "parse257") 235), (.ref 46)⟩, ⟨(PyData.keyHash P (PySem.Str.ofString "ELLIPSIS_MARKER")), (.str (PySem.Str.ofString "ELLIPSIS_MARKER") 239), (.str (PySem.Str.ofString "...") 238)⟩, ⟨(PyData.keyHash P (PySem.Str.ofString "_ellipsis_match")), (.str (PySem.Str.ofString "_ellipsis_match") 251), (.ref 53)⟩, ⟨(PyData.keyHash P (PySem.Str.ofString "b1_set")), (.str (PySem.Str.ofString "b1_set") 313), (.ref 61)⟩, ⟨(PyData.keyHash P (PySem.Str.ofString "in_table_b1")), (.str (PySem.Str.ofString "in_table_b1") 320), (.ref 71)⟩, ⟨(PyData.keyHash P (PySem.Str.ofString "b3_exceptions")), (.str (PySem.Str.ofString "b3_exceptions") 2271), (.ref 72)⟩] 17), #[]⟩
noncomputable abbrev o72_12 (P : Params) : Obj := dObj mainE
noncomputable abbrev o73_12 (P : Params) : Obj := dObj (subE.getD 0 [])
noncomputable abbrev o74_12 (P : Params) : Obj := dObj (subE.getD 1 [])
noncomputable abbrev o75_12 (P : Params) : Obj := dObj (subE.getD 2 [])
noncomputable abbrev o76_12 (P : Params) : Obj := dObj (subE.getD 3 [])
noncomputable abbrev o77_12 (P : Params) : Obj := dObj (subE.getD 4 [])
noncomputable abbrev o78_12 (P : Params) : Obj := dObj (subE.getD 5 [])
noncomputable abbrev o79_12 (P : Params) : Obj := dObj (subE.getD 6 [])
noncomputable abbrev o80_12 (P : Params) : Obj := dObj (subE.getD 7 [])
noncomputable abbrev o81_12 (P : Params) : Obj := dObj (subE.getD 8 [])
noncomputable abbrev o82_12 (P : Params) : Obj := dObj (subE.getD 9 [])
noncomputable abbrev o83_12 (P : Params) : Obj := dObj (subE.getD 10 [])
noncomputable abbrev o84_12 (P : Params) : Obj := dObj (subE.getD 11 [])
noncomputable abbrev o85_12 (P : Params) : Obj := dObj (subE.getD 12 [])
noncomputable abbrev o86_12 (P : Params) : Obj := dObj (subE.getD 13 [])
noncomputable abbrev o87_12 (P : Params) : Obj := dObj (subE.getD 14 [])
noncomputable abbrev o88_12 (P : Params) : Obj := dObj (subE.getD 15 [])
noncomputable abbrev o89_12 (P : Params) : Obj := dObj (subE.getD 16 [])
noncomputable abbrev o90_12 (P : Params) : Obj := dObj (subE.getD 17 [])
noncomputable abbrev o91_12 (P : Params) : Obj := dObj (subE.getD 18 [])
noncomputable abbrev o92_12 (P : Params) : Obj := dObj (subE.getD 19 [])
noncomputable abbrev o93_12 (P : Params) : Obj := dObj (subE.getD 20 [])
noncomputable abbrev o94_12 (P : Params) : Obj := dObj (subE.getD 21 [])
noncomputable abbrev o95_12 (P : Params) : Obj := dObj (subE.getD 22 [])
noncomputable abbrev o96_12 (P : Params) : Obj := dObj (subE.getD 23 [])
noncomputable abbrev o97_12 (P : Params) : Obj := dObj (subE.getD 24 [])
noncomputable abbrev o98_12 (P : Params) : Obj := dObj (subE.getD 25 [])
noncomputable abbrev o99_12 (P : Params) : Obj := dObj (subE.getD 26 [])
noncomputable abbrev o100_12 (P : Params) : Obj := dObj (subE.getD 27 [])
noncomputable abbrev o101_12 (P : Params) : Obj := dObj (subE.getD 28 [])
noncomputable abbrev o102_12 (P : Params) : Obj := dObj (subE.getD 29 [])
noncomputable abbrev o103_12 (P : Params) : Obj := dObj (subE.getD 30 [])
noncomputable abbrev o104_12 (P : Params) : Obj := dObj (subE.getD 31 [])
noncomputable abbrev o105_12 (P : Params) : Obj := dObj (subE.getD 32 [])
noncomputable abbrev o106_12 (P : Params) : Obj := dObj (subE.getD 33 [])
noncomputable abbrev o107_12 (P : Params) : Obj := dObj (subE.getD 34 [])
noncomputable abbrev o108_12 (P : Params) : Obj := dObj (subE.getD 35 [])
noncomputable abbrev o109_12 (P : Params) : Obj := dObj (subE.getD 36 [])
noncomputable abbrev o110_12 (P : Params) : Obj := dObj (subE.getD 37 [])
noncomputable abbrev o3_13 (P : Params) : Obj := ⟨(.type "dict"), none, (.dict #[⟨(PyData.keyHash P (PySem.Str.ofString "__name__")), (.str (PySem.Str.ofString "__name__") 165), (.str (PySem.Str.ofString "cpy313.stringprep") 252)⟩, ⟨(PyData.keyHash P (PySem.Str.ofString "__doc__")), (.str (PySem.Str.ofString "__doc__") 166), .none⟩, ⟨(PyData.keyHash P (PySem.Str.ofString "__package__")), (.str (PySem.Str.ofString "__package__") 167), .none⟩, ⟨(PyData.keyHash P (PySem.Str.ofString "__loader__")), (.str (PySem.Str.ofString "__loader__") 168), (.builtin "__main__.__loader__#opaque")⟩, ⟨(PyData.keyHash P (PySem.Str.ofString "__spec__")), (.str (PySem.Str.ofString "__spec__") 169), .none⟩, ⟨(PyData.keyHash P (PySem.Str.ofString "__annotations__")), (.str (PySem.Str.ofString "__annotations__") 170), (.ref 6)⟩, ⟨(PyData.keyHash P (PySem.Str.ofString "__builtins__")), (.str (PySem.Str.ofString "__builtins__") 171), (.ref 4)⟩, ⟨(PyData.keyHash P (PySem.Str.ofString "__file__")), (.str (PySem.Str.ofString "__file__") 173), (.str (PySem.Str.ofString "/claim/cut.py") 172)⟩, ⟨(PyData.keyHash P (PySem.Str.ofString "__cached__")), (.str (PySem.Str.ofString "__cached__") 174), .none⟩, ⟨(PyData.keyHash P (PySem.Str.ofString "Error")), (.str (PySem.Str.ofString "Error") 208), (.ref 24)⟩, ⟨(PyData.keyHash P (PySem.Str.ofString "error_reply")), (.str (PySem.Str.ofString "error_reply") 224), (.ref 37)⟩, ⟨(PyData.keyHash P (PySem.Str.ofString "parse257")), (.str (PySem.Str.ofString "parse257") 235), (.ref 46)⟩, ⟨(PyData.keyHash P (PySem.Str.ofString "ELLIPSIS_MARKER")), (.str (PySem.Str.ofString "ELLIPSIS_MARKER") 239), (.str (PySem.Str.ofString "...") 238)⟩, ⟨(PyData.keyHash P (PySem.Str.ofString "_ellipsis_match")), (.str (PySem.Str.ofString "_ellipsis_match") 251), (.ref 53)⟩, ⟨(PyData.keyHash P (PySem.Str.ofString "b1_set")), (.str (PySem.Str.ofString "b1_set") 313), (.ref 61)⟩, ⟨(PyData.keyHash P (PySem.Str.ofString "in_table_b1")), (.str (PySem.Str.ofString "in_table_b1") 320), (.ref 71)⟩, ⟨(PyData.keyHash P (PySem.Str.ofString "b3_exceptions")), (.str (PySem.Str.ofString "b3_exceptions") 2271), (.ref 72)⟩, ⟨(PyData.keyHash P (PySem.Str.ofString "map_table_b3")), (.str (PySem.Str.ofString "map_table_b3") 2279), (.ref 117)⟩] 18), #[]⟩
noncomputable abbrev o12_13 (P : Params) : Obj := ⟨.none, none, (.fields #[(.int 2 0), (.int 0 0), (.ref 20), (.int 4 0), (.int 0 0), (.ref 33), (.int 6 0), (.int 0 0), (.ref 45), (.int 25 0), (.int 0 0), (.ref 52), (.int 55 0), (.int 0 0), (.ref 70), (.int 58 0), (.int 0 0), (.ref 116)]), #[]⟩
noncomputable abbrev o111_13 (P : Params) : Obj := ⟨(.type "tuple"), none, (.seq #[] 0), #[]⟩
noncomputable abbrev o112_13 (P : Params) : Obj := ⟨.none, none, (.fields #[]), #[]⟩
noncomputable abbrev o113_13 (P : Params) : Obj := ⟨(.type "tuple"), none, (.seq #[(.str (PySem.Str.ofString "code") 2275), (.str (PySem.Str.ofString "r") 2276)] 0), #[]⟩
noncomputable abbrev o114_13 (P : Params) : Obj := ⟨(.type "tuple"), none, (.seq #[] 0), #[]⟩
noncomputable abbrev o115_13 (P : Params) : Obj := ⟨.none, none, (.func (fd (st 11) (PySem.Str.ofString "map_table_b3") (PySem.Str.ofString "map_table_b3") 0 [] .none .none .none .none none .none .none 0)), #[]⟩
noncomputable abbrev o116_13 (P : Params) : Obj := ⟨(.type "code"), none, (.fields #[(.str (PySem.Str.ofString "map_table_b3") 2272), (.str (PySem.Str.ofString "map_table_b3") 2273), (.str (PySem.Str.ofString "/claim/cut.py") 2274), (.int 58 0), (.int 1 0), (.int 0 0), (.int 0 0), (.int 3 0), (.ref 111), (.bool true), (.int 181 0), (.ref 112), .none, (.ref 113), (.ref 114), (.ref 115), (.int 2277 0), (.int 58 0), (.str (PySem.Str.ofString "/claim/cut.py") 2278)]), #[]⟩
noncomputable abbrev o117_13 (P : Params) : Obj := ⟨(.type "function"), none, (.func (fd (st 11) (PySem.Str.ofString "map_table_b3") (PySem.Str.ofString "map_table_b3") 3 [] .none .none .none (.str (PySem.Str.ofString "cpy313.stringprep") 252) none (.ref 116) .none 0)), #[]⟩
noncomputable abbrev o3_14 (P : Params) : Obj := ⟨(.type "dict"), none, (.dict #[⟨(PyData.keyHash P (PySem.Str.ofString "__name__")), (.str (PySem.Str.ofString "__name__") 165), (.str (PySem.Str.ofString "law_ux0025_02") 2280)⟩, ⟨(PyData.keyHash P (PySem.Str.ofString "__doc__")), (.str (PySem.Str.ofString "__doc__") 166), .none⟩, ⟨(PyData.keyHash P (PySem.Str.ofString "__package__")), (.str (PySem.Str.ofString "__package__") 167), .none⟩, ⟨(PyData.keyHash P (PySem.Str.ofString "__loader__")), (.str (PySem.Str.ofString "__loader__") 168), (.builtin "__main__.__loader__#opaque")⟩, ⟨(PyData.keyHash P (PySem.Str.ofString "__spec__")), (.str (PySem.Str.ofString "__spec__") 169), .none⟩, ⟨(PyData.keyHash P (PySem.Str.ofString "__annotations__")), (.str (PySem.Str.ofString "__annotations__") 170), (.ref 6)⟩, ⟨(PyData.keyHash P (PySem.Str.ofString "__builtins__")), (.str (PySem.Str.ofString "__builtins__") 171), (.ref 4)⟩, ⟨(PyData.keyHash P (PySem.Str.ofString "__file__")), (.str (PySem.Str.ofString "__file__") 173), (.str (PySem.Str.ofString "/claim/cut.py") 172)⟩, ⟨(PyData.keyHash P (PySem.Str.ofString "__cached__")), (.str (PySem.Str.ofString "__cached__") 174), .none⟩, ⟨(PyData.keyHash P (PySem.Str.ofString "Error")), (.str (PySem.Str.ofString "Error") 208), (.ref 24)⟩, ⟨(PyData.keyHash P (PySem.Str.ofString "error_reply")), (.str (PySem.Str.ofString "error_reply") 224), (.ref 37)⟩, ⟨(PyData.keyHash P (PySem.Str.ofString "parse257")), (.str (PySem.Str.ofString "parse257") 235), (.ref 46)⟩, ⟨(PyData.keyHash P (PySem.Str.ofString "ELLIPSIS_MARKER")), (.str (PySem.Str.ofString "ELLIPSIS_MARKER") 239), (.str (PySem.Str.ofString "...") 238)⟩, ⟨(PyData.keyHash P (PySem.Str.ofString "_ellipsis_match")), (.str (PySem.Str.ofString "_ellipsis_match") 251), (.ref 53)⟩, ⟨(PyData.keyHash P (PySem.Str.ofString "b1_set")), (.str (PySem.Str.ofString "b1_set") 313), (.ref 61)⟩, ⟨(PyData.keyHash P (PySem.Str.ofString "in_table_b1")), (.str (PySem.Str.ofString "in_table_b1") 320), (.ref 71)⟩, ⟨(PyData.keyHash P (PySem.Str.ofString "b3_exceptions")), (.str (PySem.Str.ofString "b3_exceptions") 2271), (.ref 72)⟩, ⟨(PyData.keyHash P (PySem.Str.ofString "map_table_b3")), (.str (PySem.Str.ofString "map_table_b3") 2279), (.ref 117)⟩] 18), #[]⟩
noncomputable abbrev o3_15 (P : Params) : Obj := ⟨(.type "dict"), none, (.dict #[⟨(PyData.keyHash P (PySem.Str.ofString "__name__")), (.str (PySem.Str.ofString "__name__") 165), (.str (PySem.Str.ofString "law_ux0025_02") 2280)⟩, ⟨(PyData.keyHash P (PySem.Str.ofString "__doc__")), (.str (PySem.Str.ofString "__doc__") 166), .none⟩, ⟨(PyData.keyHash P (PySem.Str.ofString "__package__")), (.str (PySem.Str.ofString "__package__") 167), .none⟩, ⟨(PyData.keyHash P (PySem.Str.ofString "__loader__")), (.str (PySem.Str.ofString "__loader__") 168), (.builtin "__main__.__loader__#opaque")⟩, ⟨(PyData.keyHash P (PySem.Str.ofString "__spec__")), (.str (PySem.Str.ofString "__spec__") 169), .none⟩, ⟨(PyData.keyHash P (PySem.Str.ofString "__annotations__")), (.str (PySem.Str.ofString "__annotations__") 170), (.ref 6)⟩, ⟨(PyData.keyHash P (PySem.Str.ofString "__builtins__")), (.str (PySem.Str.ofString "__builtins__") 171), (.ref 4)⟩, ⟨(PyData.keyHash P (PySem.Str.ofString "__file__")), (.str (PySem.Str.ofString "__file__") 173), (.str (PySem.Str.ofString "/claim/cut.py") 172)⟩, ⟨(PyData.keyHash P (PySem.Str.ofString "__cached__")), (.str (PySem.Str.ofString "__cached__") 174), .none⟩, ⟨(PyData.keyHash P (PySem.Str.ofString "Error")), (.str (PySem.Str.ofString "Error") 208), (.ref 24)⟩, ⟨(PyData.keyHash P (PySem.Str.ofString "error_reply")), (.str (PySem.Str.ofString "error_reply") 224), (.ref 37)⟩, ⟨(PyData.keyHash P (PySem.Str.ofString "parse257")), (.str (PySem.Str.ofString "parse257") 235), (.ref 46)⟩, ⟨(PyData.keyHash P (PySem.Str.ofString "ELLIPSIS_MARKER")), (.str (PySem.Str.ofString "ELLIPSIS_MARKER") 239), (.str (PySem.Str.ofString "...") 238)⟩, ⟨(PyData.keyHash P (PySem.Str.ofString "_ellipsis_match")), (.str (PySem.Str.ofString "_ellipsis_match") 251), (.ref 53)⟩, ⟨(PyData.keyHash P (PySem.Str.ofString "b1_set")), (.str (PySem.Str.ofString "b1_set") 313), (.ref 61)⟩, ⟨(PyData.keyHash P (PySem.Str.ofString "in_table_b1")), (.str (PySem.Str.ofString "in_table_b1") 320), (.ref 71)⟩, ⟨(PyData.keyHash P (PySem.Str.ofString "b3_exceptions")), (.str (PySem.Str.ofString "b3_exceptions") 2271), (.ref 72)⟩, ⟨(PyData.keyHash P (PySem.Str.ofString "map_table_b3")), (.str (PySem.Str.ofString "map_table_b3") 2279), (.ref 117)⟩, ⟨(PyData.keyHash P (PySem.Str.ofString "_law_hidden")), (.str (PySem.Str.ofString "_law_hidden") 2287), (.ref 124)⟩] 19), #[]⟩
noncomputable abbrev o12_15 (P : Params) : Obj := ⟨.none, none, (.fields #[(.int 2 0), (.int 0 0), (.ref 20), (.int 4 0), (.int 0 0), (.ref 33), (.int 6 0), (.int 0 0), (.ref 45), (.int 25 0), (.int 0 0), (.ref 52), (.int 55 0), (.int 0 0), (.ref 70), (.int 58 0), (.int 0 0), (.ref 116), (.int 64 0), (.int 0 0), (.ref 123)]), #[]⟩
noncomputable abbrev o118_15 (P : Params) : Obj := ⟨(.type "tuple"), none, (.seq #[] 0), #[]⟩
noncomputable abbrev o119_15 (P : Params) : Obj := ⟨.none, none, (.fields #[]), #[]⟩
noncomputable abbrev o120_15 (P : Params) : Obj := ⟨(.type "tuple"), none, (.seq #[] 0), #[]⟩
noncomputable abbrev o121_15 (P : Params) : Obj := ⟨(.type "tuple"), none, (.seq #[] 0), #[]⟩
noncomputable abbrev o122_15 (P : Params) : Obj := ⟨.none, none, (.func (fd (st 13) (PySem.Str.ofString "_law_hidden") (PySem.Str.ofString "_law_hidden") 0 [] .none .none .none .none none .none .none 0)), #[]⟩
noncomputable abbrev o123_15 (P : Params) : Obj := ⟨(.type "code"), none, (.fields #[(.str (PySem.Str.ofString "_law_hidden") 2282), (.str (PySem.Str.ofString "_law_hidden") 2283), (.str (PySem.Str.ofString "/claim/cut.py") 2284), (.int 64 0), (.int 0 0), (.int 0 0), (.int 0 0), (.int 3 0), (.ref 118), (.bool true), (.int 181 0), (.ref 119), .none, (.ref 120), (.ref 121), (.ref 122), (.int 2285 0), (.int 64 0), (.str (PySem.Str.ofString "/claim/cut.py") 2286)]), #[]⟩
noncomputable abbrev o124_15 (P : Params) : Obj := ⟨(.type "function"), none, (.func (fd (st 13) (PySem.Str.ofString "_law_hidden") (PySem.Str.ofString "_law_hidden") 3 [] .none .none .none (.str (PySem.Str.ofString "law_ux0025_02") 2280) none (.ref 123) .none 0)), #[]⟩
noncomputable abbrev o3_16 (P : Params) : Obj := ⟨(.type "dict"), none, (.dict #[⟨(PyData.keyHash P (PySem.Str.ofString "__name__")), (.str (PySem.Str.ofString "__name__") 165), (.str (PySem.Str.ofString "law_ux0025_02") 2280)⟩, ⟨(PyData.keyHash P (PySem.Str.ofString "__doc__")), (.str (PySem.Str.ofString "__doc__") 166), .none⟩, ⟨(PyData.keyHash P (PySem.Str.ofString "__package__")), (.str (PySem.Str.ofString "__package__") 167), .none⟩, ⟨(PyData.keyHash P (PySem.Str.ofString "__loader__")), (.str (PySem.Str.ofString "__loader__") 168), (.builtin "__main__.__loader__#opaque")⟩, ⟨(PyData.keyHash P (PySem.Str.ofString "__spec__")), (.str (PySem.Str.ofString "__spec__") 169), .none⟩, ⟨(PyData.keyHash P (PySem.Str.ofString "__annotations__")), (.str (PySem.Str.ofString "__annotations__") 170), (.ref 6)⟩, ⟨(PyData.keyHash P (PySem.Str.ofString "__builtins__")), (.str (PySem.Str.ofString "__builtins__") 171), (.ref 4)⟩, ⟨(PyData.keyHash P (PySem.Str.ofString "__file__")), (.str (PySem.Str.ofString "__file__") 173), (.str (PySem.Str.ofString "/claim/cut.py") 172)⟩, ⟨(PyData.keyHash P (PySem.Str.ofString "__cached__")), (.str (PySem.Str.ofString "__cached__") 174), .none⟩, ⟨(PyData.keyHash P (PySem.Str.ofString "Error")), (.str (PySem.Str.ofString "Error") 208), (.ref 24)⟩, ⟨(PyData.keyHash P (PySem.Str.ofString "error_reply")), (.str (PySem.Str.ofString "error_reply") 224), (.ref 37)⟩, ⟨(PyData.keyHash P (PySem.Str.ofString "parse257")), (.str (PySem.Str.ofString "parse257") 235), (.ref 46)⟩, ⟨(PyData.keyHash P (PySem.Str.ofString "ELLIPSIS_MARKER")), (.str (PySem.Str.ofString "ELLIPSIS_MARKER") 239), (.str (PySem.Str.ofString "...") 238)⟩, ⟨(PyData.keyHash P (PySem.Str.ofString "_ellipsis_match")), (.str (PySem.Str.ofString "_ellipsis_match") 251), (.ref 53)⟩, ⟨(PyData.keyHash P (PySem.Str.ofString "b1_set")), (.str (PySem.Str.ofString "b1_set") 313), (.ref 61)⟩, ⟨(PyData.keyHash P (PySem.Str.ofString "in_table_b1")), (.str (PySem.Str.ofString "in_table_b1") 320), (.ref 71)⟩, ⟨(PyData.keyHash P (PySem.Str.ofString "b3_exceptions")), (.str (PySem.Str.ofString "b3_exceptions") 2271), (.ref 72)⟩, ⟨(PyData.keyHash P (PySem.Str.ofString "map_table_b3")), (.str (PySem.Str.ofString "map_table_b3") 2279), (.ref 117)⟩, ⟨(PyData.keyHash P (PySem.Str.ofString "_law_hidden")), (.str (PySem.Str.ofString "_law_hidden") 2287), (.ref 124)⟩, ⟨(PyData.keyHash P (PySem.Str.ofString "_law_typed")), (.str (PySem.Str.ofString "_law_typed") 2301), (.ref 131)⟩] 20), #[]⟩
noncomputable abbrev o12_16 (P : Params) : Obj := ⟨.none, none, (.fields #[(.int 2 0), (.int 0 0), (.ref 20), (.int 4 0), (.int 0 0), (.ref 33), (.int 6 0), (.int 0 0), (.ref 45), (.int 25 0), (.int 0 0), (.ref 52), (.int 55 0), (.int 0 0), (.ref 70), (.int 58 0), (.int 0 0), (.ref 116), (.int 64 0), (.int 0 0), (.ref 123), (.int 66 0), (.int 0 0), (.ref 130)]), #[]⟩
noncomputable abbrev o125_16 (P : Params) : Obj := ⟨(.type "tuple"), none, (.seq #[] 0), #[]⟩
noncomputable abbrev o126_16 (P : Params) : Obj := ⟨.none, none, (.fields #[]), #[]⟩
noncomputable abbrev o127_16 (P : Params) : Obj := ⟨(.type "tuple"), none, (.seq #[(.str (PySem.Str.ofString "letter") 2291), (.str (PySem.Str.ofString "left") 2292), (.str (PySem.Str.ofString "number") 2293), (.str (PySem.Str.ofString "pair") 2294), (.str (PySem.Str.ofString "other") 2295), (.str (PySem.Str.ofString "typed") 2296), (.str (PySem.Str.ofString "way") 2297), (.str (PySem.Str.ofString "alphabet") 2298)] 0), #[]⟩
noncomputable abbrev o128_16 (P : Params) : Obj := ⟨(.type "tuple"), none, (.seq #[] 0), #[]⟩
noncomputable abbrev o129_16 (P : Params) : Obj := ⟨.none, none, (.func (fd (st 14) (PySem.Str.ofString "_law_typed") (PySem.Str.ofString "_law_typed") 0 [] .none .none .none .none none .none .none 0)), #[]⟩
noncomputable abbrev o130_16 (P : Params) : Obj := ⟨(.type "code"), none, (.fields #[(.str (PySem.Str.ofString "_law_typed") 2288), (.str (PySem.Str.ofString "_law_typed") 2289), (.str (PySem.Str.ofString "/claim/cut.py") 2290), (.int 66 0), (.int 3 0), (.int 0 0), (.int 0 0), (.int 3 0), (.ref 125), (.bool true), (.int 181 0), (.ref 126), .none, (.ref 127), (.ref 128), (.ref 129), (.int 2299 0), (.int 66 0), (.str (PySem.Str.ofString "/claim/cut.py") 2300)]), #[]⟩
noncomputable abbrev o131_16 (P : Params) : Obj := ⟨(.type "function"), none, (.func (fd (st 14) (PySem.Str.ofString "_law_typed") (PySem.Str.ofString "_law_typed") 3 [] .none .none .none (.str (PySem.Str.ofString "law_ux0025_02") 2280) none (.ref 130) .none 0)), #[]⟩
noncomputable abbrev o3_17 (P : Params) : Obj := ⟨(.type "dict"), none, (.dict #[⟨(PyData.keyHash P (PySem.Str.ofString "__name__")), (.str (PySem.Str.ofString "__name__") 165), (.str (PySem.Str.ofString "law_ux0025_02") 2280)⟩, ⟨(PyData.keyHash P (PySem.Str.ofString "__doc__")), (.str (PySem.Str.ofString "__doc__") 166), .none⟩, ⟨(PyData.keyHash P (PySem.Str.ofString "__package__")), (.str (PySem.Str.ofString "__package__") 167), .none⟩, ⟨(PyData.keyHash P (PySem.Str.ofString "__loader__")), (.str (PySem.Str.ofString "__loader__") 168), (.builtin "__main__.__loader__#opaque")⟩, ⟨(PyData.keyHash P (PySem.Str.ofString "__spec__")), (.str (PySem.Str.ofString "__spec__") 169), .none⟩, ⟨(PyData.keyHash P (PySem.Str.ofString "__annotations__")), (.str (PySem.Str.ofString "__annotations__") 170), (.ref 6)⟩, ⟨(PyData.keyHash P (PySem.Str.ofString "__builtins__")), (.str (PySem.Str.ofString "__builtins__") 171), (.ref 4)⟩, ⟨(PyData.keyHash P (PySem.Str.ofString "__file__")), (.str (PySem.Str.ofString "__file__") 173), (.str (PySem.Str.ofString "/claim/cut.py") 172)⟩, ⟨(PyData.keyHash P (PySem.Str.ofString "__cached__")), (.str (PySem.Str.ofString "__cached__") 174), .none⟩, ⟨(PyData.keyHash P (PySem.Str.ofString "Error")), (.str (PySem.Str.ofString "Error") 208), (.ref 24)⟩, ⟨(PyData.keyHash P (PySem.Str.ofString "error_reply")), (.str (PySem.Str.ofString "error_reply") 224), (.ref 37)⟩, ⟨(PyData.keyHash P (PySem.Str.ofString "parse257")), (.str (PySem.Str.ofString "parse257") 235), (.ref 46)⟩, ⟨(PyData.keyHash P (PySem.Str.ofString "ELLIPSIS_MARKER")), (.str (PySem.Str.ofString "ELLIPSIS_MARKER") 239), (.str (PySem.Str.ofString "...") 238)⟩, ⟨(PyData.keyHash P (PySem.Str.ofString "_ellipsis_match")), (.str (PySem.Str.ofString "_ellipsis_match") 251), (.ref 53)⟩, ⟨(PyData.keyHash P (PySem.Str.ofString "b1_set")), (.str (PySem.Str.ofString "b1_set") 313), (.ref 61)⟩, ⟨(PyData.keyHash P (PySem.Str.ofString "in_table_b1")), (.str (PySem.Str.ofString "in_table_b1") 320), (.ref 71)⟩, ⟨(PyData.keyHash P (PySem.Str.ofString "b3_exceptions")), (.str (PySem.Str.ofString "b3_exceptions") 2271), (.ref 72)⟩, ⟨(PyData.keyHash P (PySem.Str.ofString "map_table_b3")), (.str (PySem.Str.ofString "map_table_b3") 2279), (.ref 117)⟩, ⟨(PyData.keyHash P (PySem.Str.ofString "_law_hidden")), (.str (PySem.Str.ofString "_law_hidden") 2287), (.ref 124)⟩, ⟨(PyData.keyHash P (PySem.Str.ofString "_law_typed")), (.str (PySem.Str.ofString "_law_typed") 2301), (.ref 131)⟩, ⟨(PyData.keyHash P (PySem.Str.ofString "_law_row")), (.str (PySem.Str.ofString "_law_row") 2309), (.ref 138)⟩] 21), #[]⟩
noncomputable abbrev o12_17 (P : Params) : Obj := ⟨.none, none, (.fields #[(.int 2 0), (.int 0 0), (.ref 20), (.int 4 0), (.int 0 0), (.ref 33), (.int 6 0), (.int 0 0), (.ref 45), (.int 25 0), (.int 0 0), (.ref 52), (.int 55 0), (.int 0 0), (.ref 70), (.int 58 0), (.int 0 0), (.ref 116), (.int 64 0), (.int 0 0), (.ref 123), (.int 66 0), (.int 0 0), (.ref 130), (.int 87 0), (.int 0 0), (.ref 137)]), #[]⟩
noncomputable abbrev o132_17 (P : Params) : Obj := ⟨(.type "tuple"), none, (.seq #[] 0), #[]⟩
noncomputable abbrev o133_17 (P : Params) : Obj := ⟨.none, none, (.fields #[]), #[]⟩
noncomputable abbrev o134_17 (P : Params) : Obj := ⟨(.type "tuple"), none, (.seq #[(.str (PySem.Str.ofString "heaps") 2305), (.str (PySem.Str.ofString "number") 2306)] 0), #[]⟩
noncomputable abbrev o135_17 (P : Params) : Obj := ⟨(.type "tuple"), none, (.seq #[] 0), #[]⟩
noncomputable abbrev o136_17 (P : Params) : Obj := ⟨.none, none, (.func (fd (st 15) (PySem.Str.ofString "_law_row") (PySem.Str.ofString "_law_row") 0 [] .none .none .none .none none .none .none 0)), #[]⟩
noncomputable abbrev o137_17 (P : Params) : Obj := ⟨(.type "code"), none, (.fields #[(.str (PySem.Str.ofString "_law_row") 2302), (.str (PySem.Str.ofString "_law_row") 2303), (.str (PySem.Str.ofString "/claim/cut.py") 2304), (.int 87 0), (.int 2 0), (.int 0 0), (.int 0 0), (.int 3 0), (.ref 132), (.bool true), (.int 181 0), (.ref 133), .none, (.ref 134), (.ref 135), (.ref 136), (.int 2307 0), (.int 87 0), (.str (PySem.Str.ofString "/claim/cut.py") 2308)]), #[]⟩
noncomputable abbrev o138_17 (P : Params) : Obj := ⟨(.type "function"), none, (.func (fd (st 15) (PySem.Str.ofString "_law_row") (PySem.Str.ofString "_law_row") 3 [] .none .none .none (.str (PySem.Str.ofString "law_ux0025_02") 2280) none (.ref 137) .none 0)), #[]⟩
noncomputable abbrev o3_18 (P : Params) : Obj := ⟨(.type "dict"), none, (.dict #[⟨(PyData.keyHash P (PySem.Str.ofString "__name__")), (.str (PySem.Str.ofString "__name__") 165), (.str (PySem.Str.ofString "law_ux0025_02") 2280)⟩, ⟨(PyData.keyHash P (PySem.Str.ofString "__doc__")), (.str (PySem.Str.ofString "__doc__") 166), .none⟩, ⟨(PyData.keyHash P (PySem.Str.ofString "__package__")), (.str (PySem.Str.ofString "__package__") 167), .none⟩, ⟨(PyData.keyHash P (PySem.Str.ofString "__loader__")), (.str (PySem.Str.ofString "__loader__") 168), (.builtin "__main__.__loader__#opaque")⟩, ⟨(PyData.keyHash P (PySem.Str.ofString "__spec__")), (.str (PySem.Str.ofString "__spec__") 169), .none⟩, ⟨(PyData.keyHash P (PySem.Str.ofString "__annotations__")), (.str (PySem.Str.ofString "__annotations__") 170), (.ref 6)⟩, ⟨(PyData.keyHash P (PySem.Str.ofString "__builtins__")), (.str (PySem.Str.ofString "__builtins__") 171), (.ref 4)⟩, ⟨(PyData.keyHash P (PySem.Str.ofString "__file__")), (.str (PySem.Str.ofString "__file__") 173), (.str (PySem.Str.ofString "/claim/cut.py") 172)⟩, ⟨(PyData.keyHash P (PySem.Str.ofString "__cached__")), (.str (PySem.Str.ofString "__cached__") 174), .none⟩, ⟨(PyData.keyHash P (PySem.Str.ofString "Error")), (.str (PySem.Str.ofString "Error") 208), (.ref 24)⟩, ⟨(PyData.keyHash P (PySem.Str.ofString "error_reply")), (.str (PySem.Str.ofString "error_reply") 224), (.ref 37)⟩, ⟨(PyData.keyHash P (PySem.Str.ofString "parse257")), (.str (PySem.Str.ofString "parse257") 235), (.ref 46)⟩, ⟨(PyData.keyHash P (PySem.Str.ofString "ELLIPSIS_MARKER")), (.str (PySem.Str.ofString "ELLIPSIS_MARKER") 239), (.str (PySem.Str.ofString "...") 238)⟩, ⟨(PyData.keyHash P (PySem.Str.ofString "_ellipsis_match")), (.str (PySem.Str.ofString "_ellipsis_match") 251), (.ref 53)⟩, ⟨(PyData.keyHash P (PySem.Str.ofString "b1_set")), (.str (PySem.Str.ofString "b1_set") 313), (.ref 61)⟩, ⟨(PyData.keyHash P (PySem.Str.ofString "in_table_b1")), (.str (PySem.Str.ofString "in_table_b1") 320), (.ref 71)⟩, ⟨(PyData.keyHash P (PySem.Str.ofString "b3_exceptions")), (.str (PySem.Str.ofString "b3_exceptions") 2271), (.ref 72)⟩, ⟨(PyData.keyHash P (PySem.Str.ofString "map_table_b3")), (.str (PySem.Str.ofString "map_table_b3") 2279), (.ref 117)⟩, ⟨(PyData.keyHash P (PySem.Str.ofString "_law_hidden")), (.str (PySem.Str.ofString "_law_hidden") 2287), (.ref 124)⟩, ⟨(PyData.keyHash P (PySem.Str.ofString "_law_typed")), (.str (PySem.Str.ofString "_law_typed") 2301), (.ref 131)⟩, ⟨(PyData.keyHash P (PySem.Str.ofString "_law_row")), (.str (PySem.Str.ofString "_law_row") 2309), (.ref 138)⟩, ⟨(PyData.keyHash P (PySem.Str.ofString "_law_heard")), (.str (PySem.Str.ofString "_law_heard") 2315), (.ref 143)⟩] 22), #[]⟩
noncomputable abbrev o12_18 (P : Params) : Obj := ⟨.none, none, (.fields #[(.int 2 0), (.int 0 0), (.ref 20), (.int 4 0), (.int 0 0), (.ref 33), (.int 6 0), (.int 0 0), (.ref 45), (.int 25 0), (.int 0 0), (.ref 52), (.int 55 0), (.int 0 0), (.ref 70), (.int 58 0), (.int 0 0), (.ref 116), (.int 64 0), (.int 0 0), (.ref 123), (.int 66 0), (.int 0 0), (.ref 130), (.int 87 0), (.int 0 0), (.ref 137), (.int 89 0), (.int 0 0), (.ref 142)]), #[]⟩
noncomputable abbrev o139_18 (P : Params) : Obj := ⟨(.type "tuple"), none, (.seq #[] 0), #[]⟩
noncomputable abbrev o140_18 (P : Params) : Obj := ⟨.none, none, (.fields #[]), #[]⟩
noncomputable abbrev o141_18 (P : Params) : Obj := ⟨.none, none, (.func (fd (st 16) (PySem.Str.ofString "_law_heard") (PySem.Str.ofString "_law_heard") 0 [] .none .none .none .none none .none .none 0)), #[]⟩
noncomputable abbrev o142_18 (P : Params) : Obj := ⟨(.type "code"), none, (.fields #[(.str (PySem.Str.ofString "_law_heard") 2310), (.str (PySem.Str.ofString "_law_heard") 2311), (.str (PySem.Str.ofString "/claim/cut.py") 2312), (.int 89 0), (.int 3 0), (.int 0 0), (.int 0 0), (.int 3 0), (.ref 139), (.bool true), (.int 181 0), (.ref 140), .none, .none, .none, (.ref 141), (.int 2313 0), (.int 89 0), (.str (PySem.Str.ofString "/claim/cut.py") 2314)]), #[]⟩
noncomputable abbrev o143_18 (P : Params) : Obj := ⟨(.type "function"), none, (.func (fd (st 16) (PySem.Str.ofString "_law_heard") (PySem.Str.ofString "_law_heard") 3 [] .none .none .none (.str (PySem.Str.ofString "law_ux0025_02") 2280) none (.ref 142) .none 0)), #[]⟩
noncomputable abbrev o3_19 (P : Params) : Obj := ⟨(.type "dict"), none, (.dict #[⟨(PyData.keyHash P (PySem.Str.ofString "__name__")), (.str (PySem.Str.ofString "__name__") 165), (.str (PySem.Str.ofString "law_ux0025_02") 2280)⟩, ⟨(PyData.keyHash P (PySem.Str.ofString "__doc__")), (.str (PySem.Str.ofString "__doc__") 166), .none⟩, ⟨(PyData.keyHash P (PySem.Str.ofString "__package__")), (.str (PySem.Str.ofString "__package__") 167), .none⟩, ⟨(PyData.keyHash P (PySem.Str.ofString "__loader__")), (.str (PySem.Str.ofString "__loader__") 168), (.builtin "__main__.__loader__#opaque")⟩, ⟨(PyData.keyHash P (PySem.Str.ofString "__spec__")), (.str (PySem.Str.ofString "__spec__") 169), .none⟩, ⟨(PyData.keyHash P (PySem.Str.ofString "__annotations__")), (.str (PySem.Str.ofString "__annotations__") 170), (.ref 6)⟩, ⟨(PyData.keyHash P (PySem.Str.ofString "__builtins__")), (.str (PySem.Str.ofString "__builtins__") 171), (.ref 4)⟩, ⟨(PyData.keyHash P (PySem.Str.ofString "__file__")), (.str (PySem.Str.ofString "__file__") 173), (.str (PySem.Str.ofString "/claim/cut.py") 172)⟩, ⟨(PyData.keyHash P (PySem.Str.ofString "__cached__")), (.str (PySem.Str.ofString "__cached__") 174), .none⟩, ⟨(PyData.keyHash P (PySem.Str.ofString "Error")), (.str (PySem.Str.ofString "Error") 208), (.ref 24)⟩, ⟨(PyData.keyHash P (PySem.Str.ofString "error_reply")), (.str (PySem.Str.ofString "error_reply") 224), (.ref 37)⟩, ⟨(PyData.keyHash P (PySem.Str.ofString "parse257")), (.str (PySem.Str.ofString "parse257") 235), (.ref 46)⟩, ⟨(PyData.keyHash P (PySem.Str.ofString "ELLIPSIS_MARKER")), (.str (PySem.Str.ofString "ELLIPSIS_MARKER") 239), (.str (PySem.Str.ofString "...") 238)⟩, ⟨(PyData.keyHash P (PySem.Str.ofString "_ellipsis_match")), (.str (PySem.Str.ofString "_ellipsis_match") 251), (.ref 53)⟩, ⟨(PyData.keyHash P (PySem.Str.ofString "b1_set")), (.str (PySem.Str.ofString "b1_set") 313), (.ref 61)⟩, ⟨(PyData.keyHash P (PySem.Str.ofString "in_table_b1")), (.str (PySem.Str.ofString "in_table_b1") 320), (.ref 71)⟩, ⟨(PyData.keyHash P (PySem.Str.ofString "b3_exceptions")), (.str (PySem.Str.ofString "b3_exceptions") 2271), (.ref 72)⟩, ⟨(PyData.keyHash P (PySem.Str.ofString "map_table_b3")), (.str (PySem.Str.ofString "map_table_b3") 2279), (.ref 117)⟩, ⟨(PyData.keyHash P (PySem.Str.ofString "_law_hidden")), (.str (PySem.Str.ofString "_law_hidden") 2287), (.ref 124)⟩, ⟨(PyData.keyHash P (PySem.Str.ofString "_law_typed")), (.str (PySem.Str.ofString "_law_typed") 2301), (.ref 131)⟩, ⟨(PyData.keyHash P (PySem.Str.ofString "_law_row")), (.str (PySem.Str.ofString "_law_row") 2309), (.ref 138)⟩, ⟨(PyData.keyHash P (PySem.Str.ofString "_law_heard")), (.str (PySem.Str.ofString "_law_heard") 2315), (.ref 143)⟩, ⟨(PyData.keyHash P (PySem.Str.ofString "_law_takings")), (.str (PySem.Str.ofString "_law_takings") 2331), (.ref 150)⟩] 23), #[]⟩
noncomputable abbrev o12_19 (P : Params) : Obj := ⟨.none, none, (.fields #[(.int 2 0), (.int 0 0), (.ref 20), (.int 4 0), (.int 0 0), (.ref 33), (.int 6 0), (.int 0 0), (.ref 45), (.int 25 0), (.int 0 0), (.ref 52), (.int 55 0), (.int 0 0), (.ref 70), (.int 58 0), (.int 0 0), (.ref 116), (.int 64 0), (.int 0 0), (.ref 123), (.int 66 0), (.int 0 0), (.ref 130), (.int 87 0), (.int 0 0), (.ref 137), (.int 89 0), (.int 0 0), (.ref 142), (.int 110 0), (.int 0 0), (.ref 149)]), #[]⟩
noncomputable abbrev o144_19 (P : Params) : Obj := ⟨(.type "tuple"), none, (.seq #[] 0), #[]⟩
noncomputable abbrev o145_19 (P : Params) : Obj := ⟨.none, none, (.fields #[]), #[]⟩
noncomputable abbrev o146_19 (P : Params) : Obj := ⟨(.type "tuple"), none, (.seq #[(.str (PySem.Str.ofString "heaps") 2319), (.str (PySem.Str.ofString "number") 2320), (.str (PySem.Str.ofString "takings") 2321), (.str (PySem.Str.ofString "heap") 2322), (.str (PySem.Str.ofString "left") 2323), (.str (PySem.Str.ofString "row") 2324), (.str (PySem.Str.ofString "fewer") 2325), (.str (PySem.Str.ofString "count") 2326), (.str (PySem.Str.ofString "taking") 2327), (.str (PySem.Str.ofString "want") 2328)] 0), #[]⟩
noncomputable abbrev o147_19 (P : Params) : Obj := ⟨(.type "tuple"), none, (.seq #[] 0), #[]⟩
noncomputable abbrev o148_19 (P : Params) : Obj := ⟨.none, none, (.func (fd (st 17) (PySem.Str.ofString "_law_takings") (PySem.Str.ofString "_law_takings") 0 [] .none .none .none .none none .none .none 0)), #[]⟩
noncomputable abbrev o149_19 (P : Params) : Obj := ⟨(.type "code"), none, (.fields #[(.str (PySem.Str.ofString "_law_takings") 2316), (.str (PySem.Str.ofString "_law_takings") 2317), (.str (PySem.Str.ofString "/claim/cut.py") 2318), (.int 110 0), (.int 2 0), (.int 0 0), (.int 0 0), (.int 3 0), (.ref 144), (.bool true), (.int 181 0), (.ref 145), .none, (.ref 146), (.ref 147), (.ref 148), (.int 2329 0), (.int 110 0), (.str (PySem.Str.ofString "/claim/cut.py") 2330)]), #[]⟩
noncomputable abbrev o150_19 (P : Params) : Obj := ⟨(.type "function"), none, (.func (fd (st 17) (PySem.Str.ofString "_law_takings") (PySem.Str.ofString "_law_takings") 3 [] .none .none .none (.str (PySem.Str.ofString "law_ux0025_02") 2280) none (.ref 149) .none 0)), #[]⟩
noncomputable abbrev o3_20 (P : Params) : Obj := ⟨(.type "dict"), none, (.dict #[⟨(PyData.keyHash P (PySem.Str.ofString "__name__")), (.str (PySem.Str.ofString "__name__") 165), (.str (PySem.Str.ofString "law_ux0025_02") 2280)⟩, ⟨(PyData.keyHash P (PySem.Str.ofString "__doc__")), (.str (PySem.Str.ofString "__doc__") 166), .none⟩, ⟨(PyData.keyHash P (PySem.Str.ofString "__package__")), (.str (PySem.Str.ofString "__package__") 167), .none⟩, ⟨(PyData.keyHash P (PySem.Str.ofString "__loader__")), (.str (PySem.Str.ofString "__loader__") 168), (.builtin "__main__.__loader__#opaque")⟩, ⟨(PyData.keyHash P (PySem.Str.ofString "__spec__")), (.str (PySem.Str.ofString "__spec__") 169), .none⟩, ⟨(PyData.keyHash P (PySem.Str.ofString "__annotations__")), (.str (PySem.Str.ofString "__annotations__") 170), (.ref 6)⟩, ⟨(PyData.keyHash P (PySem.Str.ofString "__builtins__")), (.str (PySem.Str.ofString "__builtins__") 171), (.ref 4)⟩, ⟨(PyData.keyHash P (PySem.Str.ofString "__file__")), (.str (PySem.Str.ofString "__file__") 173), (.str (PySem.Str.ofString "/claim/cut.py") 172)⟩, ⟨(PyData.keyHash P (PySem.Str.ofString "__cached__")), (.str (PySem.Str.ofString "__cached__") 174), .none⟩, ⟨(PyData.keyHash P (PySem.Str.ofString "Error")), (.str (PySem.Str.ofString "Error") 208), (.ref 24)⟩, ⟨(PyData.keyHash P (PySem.Str.ofString "error_reply")), (.str (PySem.Str.ofString "error_reply") 224), (.ref 37)⟩, ⟨(PyData.keyHash P (PySem.Str.ofString "parse257")), (.str (PySem.Str.ofString "parse257") 235), (.ref 46)⟩, ⟨(PyData.keyHash P (PySem.Str.ofString "ELLIPSIS_MARKER")), (.str (PySem.Str.ofString "ELLIPSIS_MARKER") 239), (.str (PySem.Str.ofString "...") 238)⟩, ⟨(PyData.keyHash P (PySem.Str.ofString "_ellipsis_match")), (.str (PySem.Str.ofString "_ellipsis_match") 251), (.ref 53)⟩, ⟨(PyData.keyHash P (PySem.Str.ofString "b1_set")), (.str (PySem.Str.ofString "b1_set") 313), (.ref 61)⟩, ⟨(PyData.keyHash P (PySem.Str.ofString "in_table_b1")), (.str (PySem.Str.ofString "in_table_b1") 320), (.ref 71)⟩, ⟨(PyData.keyHash P (PySem.Str.ofString "b3_exceptions")), (.str (PySem.Str.ofString "b3_exceptions") 2271), (.ref 72)⟩, ⟨(PyData.keyHash P (PySem.Str.ofString "map_table_b3")), (.str (PySem.Str.ofString "map_table_b3") 2279), (.ref 117)⟩, ⟨(PyData.keyHash P (PySem.Str.ofString "_law_hidden")), (.str (PySem.Str.ofString "_law_hidden") 2287), (.ref 124)⟩, ⟨(PyData.keyHash P (PySem.Str.ofString "_law_typed")), (.str (PySem.Str.ofString "_law_typed") 2301), (.ref 131)⟩, ⟨(PyData.keyHash P (PySem.Str.ofString "_law_row")), (.str (PySem.Str.ofString "_law_row") 2309), (.ref 138)⟩, ⟨(PyData.keyHash P (PySem.Str.ofString "_law_heard")), (.str (PySem.Str.ofString "_law_heard") 2315), (.ref 143)⟩, ⟨(PyData.keyHash P (PySem.Str.ofString "_law_takings")), (.str (PySem.Str.ofString "_law_takings") 2331), (.ref 150)⟩, ⟨(PyData.keyHash P (PySem.Str.ofString "_law_told")), (.str (PySem.Str.ofString "_law_told") 2341), (.ref 157)⟩] 24), #[]⟩
noncomputable abbrev o12_20 (P : Params) : Obj := ⟨.none, none, (.fields #[(.int 2 0), (.int 0 0), (.ref 20), (.int 4 0), (.int 0 0), (.ref 33), (.int 6 0), (.int 0 0), (.ref 45), (.int 25 0), (.int 0 0), (.ref 52), (.int 55 0), (.int 0 0), (.ref 70), (.int 58 0), (.int 0 0), (.ref 116), (.int 64 0), (.int 0 0), (.ref 123), (.int 66 0), (.int 0 0), (.ref 130), (.int 87 0), (.int 0 0), (.ref 137), (.int 89 0), (.int 0 0), (.ref 142), (.int 110 0), (.int 0 0), (.ref 149), (.int 125 0), (.int 0 0), (.ref 156)]), #[]⟩
noncomputable abbrev o151_20 (P : Params) : Obj := ⟨(.type "tuple"), none, (.seq #[] 0), #[]⟩
noncomputable abbrev o152_20 (P : Params) : Obj := ⟨.none, none, (.fields #[]), #[]⟩
noncomputable abbrev o153_20 (P : Params) : Obj := ⟨(.type "tuple"), none, (.seq #[(.str (PySem.Str.ofString "number") 2335), (.str (PySem.Str.ofString "marks") 2336), (.str (PySem.Str.ofString "turn") 2337), (.str (PySem.Str.ofString "told") 2338)] 0), #[]⟩
noncomputable abbrev o154_20 (P : Params) : Obj := ⟨(.type "tuple"), none, (.seq #[] 0), #[]⟩
noncomputable abbrev o155_20 (P : Params) : Obj := ⟨.none, none, (.func (fd (st 18) (PySem.Str.ofString "_law_told") (PySem.Str.ofString "_law_told") 0 [] .none .none .none .none none .none .none 0)), #[]⟩
noncomputable abbrev o156_20 (P : Params) : Obj := ⟨(.type "code"), none, (.fields #[(.str (PySem.Str.ofString "_law_told") 2332), (.str (PySem.Str.ofString "_law_told") 2333), (.str (PySem.Str.ofString "/claim/cut.py") 2334), (.int 125 0), (.int 1 0), (.int 0 0), (.int 0 0), (.int 3 0), (.ref 151), (.bool true), (.int 181 0), (.ref 152), .none, (.ref 153), (.ref 154), (.ref 155), (.int 2339 0), (.int 125 0), (.str (PySem.Str.ofString "/claim/cut.py") 2340)]), #[]⟩
noncomputable abbrev o157_20 (P : Params) : Obj := ⟨(.type "function"), none, (.func (fd (st 18) (PySem.Str.ofString "_law_told") (PySem.Str.ofString "_law_told") 3 [] .none .none .none (.str (PySem.Str.ofString "law_ux0025_02") 2280) none (.ref 156) .none 0)), #[]⟩
noncomputable abbrev o3_21 (P : Params) : Obj := ⟨(.type "dict"), none, (.dict #[⟨(PyData.keyHash P (PySem.Str.ofString "__name__")), (.str (PySem.Str.ofString "__name__") 165), (.str (PySem.Str.ofString "law_ux0025_02") 2280)⟩, ⟨(PyData.keyHash P (PySem.Str.ofString "__doc__")), (.str (PySem.Str.ofString "__doc__") 166), .none⟩, ⟨(PyData.keyHash P (PySem.Str.ofString "__package__")), (.str (PySem.Str.ofString "__package__") 167), .none⟩, ⟨(PyData.keyHash P (PySem.Str.ofString "__loader__")), (.str (PySem.Str.ofString "__loader__") 168), (.builtin "__main__.__loader__#opaque")⟩, ⟨(PyData.keyHash P (PySem.Str.ofString "__spec__")), (.str (PySem.Str.ofString "__spec__") 169), .none⟩, ⟨(PyData.keyHash P (PySem.Str.ofString "__annotations__")), (.str (PySem.Str.ofString "__annotations__") 170), (.ref 6)⟩, ⟨(PyData.keyHash P (PySem.Str.ofString "__builtins__")), (.str (PySem.Str.ofString "__builtins__") 171), (.ref 4)⟩, ⟨(PyData.keyHash P (PySem.Str.ofString "__file__")), (.str (PySem.Str.ofString "__file__") 173), (.str (PySem.Str.ofString "/claim/cut.py") 172)⟩, ⟨(PyData.keyHash P (PySem.Str.ofString "__cached__")), (.str (PySem.Str.ofString "__cached__") 174), .none⟩, ⟨(PyData.keyHash P (PySem.Str.ofString "Error")), (.str (PySem.Str.ofString "Error") 208), (.ref 24)⟩, ⟨(PyData.keyHash P (PySem.Str.ofString "error_reply")), (.str (PySem.Str.ofString "error_reply") 224), (.ref 37)⟩, ⟨(PyData.keyHash P (PySem.Str.ofString "parse257")), (.str (PySem.Str.ofString "parse257") 235), (.ref 46)⟩, ⟨(PyData.keyHash P (PySem.Str.ofString "ELLIPSIS_MARKER")), (.str (PySem.Str.ofString "ELLIPSIS_MARKER") 239), (.str (PySem.Str.ofString "...") 238)⟩, ⟨(PyData.keyHash P (PySem.Str.ofString "_ellipsis_match")), (.str (PySem.Str.ofString "_ellipsis_match") 251), (.ref 53)⟩, ⟨(PyData.keyHash P (PySem.Str.ofString "b1_set")), (.str (PySem.Str.ofString "b1_set") 313), (.ref 61)⟩, ⟨(PyData.keyHash P (PySem.Str.ofString "in_table_b1")), (.str (PySem.Str.ofString "in_table_b1") 320), (.ref 71)⟩, ⟨(PyData.keyHash P (PySem.Str.ofString "b3_exceptions")), (.str (PySem.Str.ofString "b3_exceptions") 2271), (.ref 72)⟩, ⟨(PyData.keyHash P (PySem.Str.ofString "map_table_b3")), (.str (PySem.Str.ofString "map_table_b3") 2279), (.ref 117)⟩, ⟨(PyData.keyHash P (PySem.Str.ofString "_law_hidden")), (.str (PySem.Str.ofString "_law_hidden") 2287), (.ref 124)⟩, ⟨(PyData.keyHash P (PySem.Str.ofString "_law_typed")), (.str (PySem.Str.ofString "_law_typed") 2301), (.ref 131)⟩, ⟨(PyData.keyHash P (PySem.Str.ofString "_law_row")), (.str (PySem.Str.ofString "_law_row") 2309), (.ref 138)⟩, ⟨(PyData.keyHash P (PySem.Str.ofString "_law_heard")), (.str (PySem.Str.ofString "_law_heard") 2315), (.ref 143)⟩, ⟨(PyData.keyHash P (PySem.Str.ofString "_law_takings")), (.str (PySem.Str.ofString "_law_takings") 2331), (.ref 150)⟩, ⟨(PyData.keyHash P (PySem.Str.ofString "_law_told")), (.str (PySem.Str.ofString "_law_told") 2341), (.ref 157)⟩, ⟨(PyData.keyHash P (PySem.Str.ofString "law")), (.str (PySem.Str.ofString "law") 2347), (.ref 162)⟩] 25), #[]⟩
noncomputable abbrev o12_21 (P : Params) : Obj := ⟨.none, none, (.fields #[(.int 2 0), (.int 0 0), (.ref 20), (.int 4 0), (.int 0 0), (.ref 33), (.int 6 0), (.int 0 0), (.ref 45), (.int 25 0), (.int 0 0), (.ref 52), (.int 55 0), (.int 0 0), (.ref 70), (.int 58 0), (.int 0 0), (.ref 116), (.int 64 0), (.int 0 0), (.ref 123), (.int 66 0), (.int 0 0), (.ref 130), (.int 87 0), (.int 0 0), (.ref 137), (.int 89 0), (.int 0 0), (.ref 142), (.int 110 0), (.int 0 0), (.ref 149), (.int 125 0), (.int 0 0), (.ref 156), (.int 133 0), (.int 0 0), (.ref 161)]), #[]⟩
noncomputable abbrev o158_21 (P : Params) : Obj := ⟨(.type "tuple"), none, (.seq #[] 0), #[]⟩
noncomputable abbrev o159_21 (P : Params) : Obj := ⟨.none, none, (.fields #[]), #[]⟩
noncomputable abbrev o160_21 (P : Params) : Obj := ⟨.none, none, (.func (fd (st 19) (PySem.Str.ofString "law") (PySem.Str.ofString "law") 0 [] .none .none .none .none none .none .none 0)), #[]⟩
noncomputable abbrev o161_21 (P : Params) : Obj := ⟨(.type "code"), none, (.fields #[(.str (PySem.Str.ofString "law") 2342), (.str (PySem.Str.ofString "law") 2343), (.str (PySem.Str.ofString "/claim/cut.py") 2344), (.int 133 0), (.int 1 0), (.int 0 0), (.int 0 0), (.int 3 0), (.ref 158), (.bool true), (.int 181 0), (.ref 159), .none, .none, .none, (.ref 160), (.int 2345 0), (.int 133 0), (.str (PySem.Str.ofString "/claim/cut.py") 2346)]), #[]⟩
noncomputable abbrev o162_21 (P : Params) : Obj := ⟨(.type "function"), none, (.func (fd (st 19) (PySem.Str.ofString "law") (PySem.Str.ofString "law") 3 [] .none .none .none (.str (PySem.Str.ofString "law_ux0025_02") 2280) none (.ref 161) .none 0)), #[]⟩
noncomputable abbrev H0 (P : Params) : Heap := ⟨#[boot_o_0 P, boot_o_1 P, boot_o_2 P, boot_o_3 P, boot_o_4 P, boot_o_5 P, boot_o_6 P, boot_o_7 P, boot_o_8 P, boot_o_9 P, boot_o_10 P, o11_0 P, o12_0 P, o13_0 P, o14_0 P], {}⟩
noncomputable abbrev S0 (w : World) (os : OsState) : Shared := ⟨H0 w.params, #[], {}, 187, os⟩
noncomputable abbrev H1 (P : Params) : Heap := ⟨#[boot_o_0 P, boot_o_1 P, boot_o_2 P, boot_o_3 P, boot_o_4 P, boot_o_5 P, boot_o_6 P, boot_o_7 P, boot_o_8 P, boot_o_9 P, boot_o_10 P, o11_0 P, o12_0 P, o13_0 P, o14_0 P], {}⟩
noncomputable abbrev S1 (w : World) (os : OsState) : Shared := ⟨H1 w.params, #[], {}, 187, os⟩
noncomputable abbrev H2 (P : Params) : Heap := ⟨#[boot_o_0 P, boot_o_1 P, boot_o_2 P, o3_2 P, boot_o_4 P, boot_o_5 P, boot_o_6 P, boot_o_7 P, boot_o_8 P, boot_o_9 P, boot_o_10 P, o11_0 P, o12_0 P, o13_0 P, o14_0 P], {}⟩
noncomputable abbrev S2 (w : World) (os : OsState) : Shared := ⟨H2 w.params, #[], {}, 189, os⟩
noncomputable abbrev H3 (P : Params) : Heap := ⟨#[boot_o_0 P, boot_o_1 P, o2_3 P, o3_3 P, boot_o_4 P, boot_o_5 P, boot_o_6 P, boot_o_7 P, boot_o_8 P, boot_o_9 P, boot_o_10 P, o11_0 P, o12_3 P, o13_0 P, o14_0 P, o15_3 P, o16_3 P, o17_3 P, o18_3 P, o19_3 P, o20_3 P, o21_3 P, o22_3 P, o23_3 P, o24_3 P, o25_3 P, o26_3 P, o27_3 P], {}⟩
noncomputable abbrev S3 (w : World) (os : OsState) : Shared := ⟨H3 w.params, #[], {}, 209, os⟩
noncomputable abbrev H4 (P : Params) : Heap := ⟨#[boot_o_0 P, boot_o_1 P, o2_3 P, o3_4 P, boot_o_4 P, boot_o_5 P, boot_o_6 P, boot_o_7 P, boot_o_8 P, boot_o_9 P, boot_o_10 P, o11_0 P, o12_4 P, o13_0 P, o14_0 P, o15_3 P, o16_3 P, o17_3 P, o18_3 P, o19_3 P, o20_3 P, o21_3 P, o22_3 P, o23_3 P, o24_4 P, o25_3 P, o26_3 P, o27_3 P, o28_4 P, o29_4 P, o30_4 P, o31_4 P, o32_4 P, o33_4 P, o34_4 P, o35_4 P, o36_4 P, o37_4 P, o38_4 P, o39_4 P], {}⟩
noncomputable abbrev S4 (w : World) (os : OsState) : Shared := ⟨H4 w.params, #[], {}, 225, os⟩
noncomputable abbrev H5 (P : Params) : Heap := ⟨#[boot_o_0 P, boot_o_1 P, o2_3 P, o3_5 P, boot_o_4 P, boot_o_5 P, boot_o_6 P, boot_o_7 P, boot_o_8 P, boot_o_9 P, boot_o_10 P, o11_0 P, o12_5 P, o13_0 P, o14_0 P, o15_3 P, o16_3 P, o17_3 P, o18_3 P, o19_3 P, o20_3 P, o21_3 P, o22_3 P, o23_3 P, o24_4 P, o25_3 P, o26_3 P, o27_3 P, o28_4 P, o29_4 P, o30_4 P, o31_4 P, o32_4 P, o33_4 P, o34_4 P, o35_4 P, o36_4 P, o37_4 P, o38_4 P, o39_4 P, o40_5 P, o41_5 P, o42_5 P, o43_5 P, o44_5 P, o45_5 P, o46_5 P], {}⟩
noncomputable abbrev S5 (w : World) (os : OsState) : Shared := ⟨H5 w.params, #[], {}, 236, os⟩
noncomputable abbrev H6 (P : Params) : Heap := ⟨#[boot_o_0 P, boot_o_1 P, o2_3 P, o3_6 P, boot_o_4 P, boot_o_5 P, boot_o_6 P, boot_o_7 P, boot_o_8 P, boot_o_9 P, boot_o_10 P, o11_0 P, o12_5 P, o13_0 P, o14_0 P, o15_3 P, o16_3 P, o17_3 P, o18_3 P, o19_3 P, o20_3 P, o21_3 P, o22_3 P, o23_3 P, o24_4 P, o25_3 P, o26_3 P, o27_3 P, o28_4 P, o29_4 P, o30_4 P, o31_4 P, o32_4 P, o33_4 P, o34_4 P, o35_4 P, o36_4 P, o37_4 P, o38_4 P, o39_4 P, o40_5 P, o41_5 P, o42_5 P, o43_5 P, o44_5 P, o45_5 P, o46_5 P], {}⟩
noncomputable abbrev S6 (w : World) (os : OsState) : Shared := ⟨H6 w.params, #[], {}, 238, os⟩
noncomputable abbrev H7 (P : Params) : Heap := ⟨#[boot_o_0 P, boot_o_1 P, o2_3 P, o3_7 P, boot_o_4 P, boot_o_5 P, boot_o_6 P, boot_o_7 P, boot_o_8 P, boot_o_9 P, boot_o_10 P, o11_0 P, o12_5 P, o13_0 P, o14_0 P, o15_3 P, o16_3 P, o17_3 P, o18_3 P, o19_3 P, o20_3 P, o21_3 P, o22_3 P, o23_3 P, o24_4 P, o25_3 P, o26_3 P, o27_3 P, o28_4 P, o29_4 P, o30_4 P, o31_4 P, o32_4 P, o33_4 P, o34_4 P, o35_4 P, o36_4 P, o37_4 P, o38_4 P, o39_4 P, o40_5 P, o41_5 P, o42_5 P, o43_5 P, o44_5 P, o45_5 P, o46_5 P], {}⟩
noncomputable abbrev S7 (w : World) (os : OsState) : Shared := ⟨H7 w.params, #[], {}, 240, os⟩
noncomputable abbrev H8 (P : Params) : Heap := ⟨#[boot_o_0 P, boot_o_1 P, o2_3 P, o3_8 P, boot_o_4 P, boot_o_5 P, boot_o_6 P, boot_o_7 P, boot_o_8 P, boot_o_9 P, boot_o_10 P, o11_0 P, o12_8 P, o13_0 P, o14_0 P, o15_3 P, o16_3 P, o17_3 P, o18_3 P, o19_3 P, o20_3 P, o21_3 P, o22_3 P, o23_3 P, o24_4 P, o25_3 P, o26_3 P, o27_3 P, o28_4 P, o29_4 P, o30_4 P, o31_4 P, o32_4 P, o33_4 P, o34_4 P, o35_4 P, o36_4 P, o37_4 P, o38_4 P, o39_4 P, o40_5 P, o41_5 P, o42_5 P, o43_5 P, o44_5 P, o45_5 P, o46_5 P, o47_8 P, o48_8 P, o49_8 P, o50_8 P, o51_8 P, o52_8 P, o53_8 P], {}⟩
noncomputable abbrev S8 (w : World) (os : OsState) : Shared := ⟨H8 w.params, #[], {}, 252, os⟩
noncomputable abbrev H9 (P : Params) : Heap := ⟨#[boot_o_0 P, boot_o_1 P, o2_3 P, o3_9 P, boot_o_4 P, boot_o_5 P, boot_o_6 P, boot_o_7 P, boot_o_8 P, boot_o_9 P, boot_o_10 P, o11_0 P, o12_8 P, o13_0 P, o14_0 P, o15_3 P, o16_3 P, o17_3 P, o18_3 P, o19_3 P, o20_3 P, o21_3 P, o22_3 P, o23_3 P, o24_4 P, o25_3 P, o26_3 P, o27_3 P, o28_4 P, o29_4 P, o30_4 P, o31_4 P, o32_4 P, o33_4 P, o34_4 P, o35_4 P, o36_4 P, o37_4 P, o38_4 P, o39_4 P, o40_5 P, o41_5 P, o42_5 P, o43_5 P, o44_5 P, o45_5 P, o46_5 P, o47_8 P, o48_8 P, o49_8 P, o50_8 P, o51_8 P, o52_8 P, o53_8 P], {}⟩
noncomputable abbrev S9 (w : World) (os : OsState) : Shared := ⟨H9 w.params, #[], {}, 254, os⟩
noncomputable abbrev H10 (P : Params) : Heap := ⟨#[boot_o_0 P, boot_o_1 P, o2_3 P, o3_10 P, boot_o_4 P, boot_o_5 P, boot_o_6 P, boot_o_7 P, boot_o_8 P, boot_o_9 P, boot_o_10 P, o11_0 P, o12_8 P, o13_0 P, o14_0 P, o15_3 P, o16_3 P, o17_3 P, o18_3 P, o19_3 P, o20_3 P, o21_3 P, o22_3 P, o23_3 P, o24_4 P, o25_3 P, o26_3 P, o27_3 P, o28_4 P, o29_4 P, o30_4 P, o31_4 P, o32_4 P, o33_4 P, o34_4 P, o35_4 P, o36_4 P, o37_4 P, o38_4 P, o39_4 P, o40_5 P, o41_5 P, o42_5 P, o43_5 P, o44_5 P, o45_5 P, o46_5 P, o47_8 P, o48_8 P, o49_8 P, o50_8 P, o51_8 P, o52_8 P, o53_8 P, o54_10 P, o55_10 P, o56_10 P, o57_10 P, o58_10 P, o59_10 P, o60_10 P, o61_10 P, o62_10 P, o63_10 P, o64_10 P], {}⟩
noncomputable abbrev S10 (w : World) (os : OsState) : Shared := ⟨H10 w.params, #[], {}, 314, os⟩
noncomputable abbrev H11 (P : Params) : Heap := ⟨#[boot_o_0 P, boot_o_1 P, o2_3 P, o3_11 P, boot_o_4 P, boot_o_5 P, boot_o_6 P, boot_o_7 P, boot_o_8 P, boot_o_9 P, boot_o_10 P, o11_0 P, o12_11 P, o13_0 P, o14_0 P, o15_3 P, o16_3 P, o17_3 P, o18_3 P, o19_3 P, o20_3 P, o21_3 P, o22_3 P, o23_3 P, o24_4 P, o25_3 P, o26_3 P, o27_3 P, o28_4 P, o29_4 P, o30_4 P, o31_4 P, o32_4 P, o33_4 P, o34_4 P, o35_4 P, o36_4 P, o37_4 P, o38_4 P, o39_4 P, o40_5 P, o41_5 P, o42_5 P, o43_5 P, o44_5 P, o45_5 P, o46_5 P, o47_8 P, o48_8 P, o49_8 P, o50_8 P, o51_8 P, o52_8 P, o53_8 P, o54_10 P, o55_10 P, o56_10 P, o57_10 P, o58_10 P, o59_10 P, o60_10 P, o61_10 P, o62_10 P, o63_10 P, o64_10 P, o65_11 P, o66_11 P, o67_11 P, o68_11 P, o69_11 P, o70_11 P, o71_11 P], {}⟩
noncomputable abbrev S11 (w : World) (os : OsState) : Shared := ⟨H11 w.params, #[], {}, 321, os⟩
noncomputable abbrev H12 (P : Params) : Heap := ⟨#[boot_o_0 P, boot_o_1 P, o2_3 P, o3_12 P, boot_o_4 P, boot_o_5 P, boot_o_6 P, boot_o_7 P, boot_o_8 P, boot_o_9 P, boot_o_10 P, o11_0 P, o12_11 P, o13_0 P, o14_0 P, o15_3 P, o16_3 P, o17_3 P, o18_3 P, o19_3 P, o20_3 P, o21_3 P, o22_3 P, o23_3 P, o24_4 P, o25_3 P, o26_3 P, o27_3 P, o28_4 P, o29_4 P, o30_4 P, o31_4 P, o32_4 P, o33_4 P, o34_4 P, o35_4 P, o36_4 P, o37_4 P, o38_4 P, o39_4 P, o40_5 P, o41_5 P, o42_5 P, o43_5 P, o44_5 P, o45_5 P, o46_5 P, o47_8 P, o48_8 P, o49_8 P, o50_8 P, o51_8 P, o52_8 P, o53_8 P, o54_10 P, o55_10 P, o56_10 P, o57_10 P, o58_10 P, o59_10 P, o60_10 P, o61_10 P, o62_10 P, o63_10 P, o64_10 P, o65_11 P, o66_11 P, o67_11 P, o68_11 P, o69_11 P, o70_11 P, o71_11 P, o72_12 P, o73_12 P, o74_12 P, o75_12 P, o76_12 P, o77_12 P, o78_12 P, o79_12 P, o80_12 P, o81_12 P, o82_12 P, o83_12 P, o84_12 P, o85_12 P, o86_12 P, o87_12 P, o88_12 P, o89_12 P, o90_12 P, o91_12 P, o92_12 P, o93_12 P, o94_12 P, o95_12 P, o96_12 P, o97_12 P, o98_12 P, o99_12 P, o100_12 P, o101_12 P, o102_12 P, o103_12 P, o104_12 P, o105_12 P, o106_12 P, o107_12 P, o108_12 P, o109_12 P, o110_12 P], {}⟩
noncomputable abbrev S12 (w : World) (os : OsState) : Shared := ⟨H12 w.params, #[], {}, 2272, os⟩
noncomputable abbrev H13 (P : Params) : Heap := ⟨#[boot_o_0 P, boot_o_1 P, o2_3 P, o3_13 P, boot_o_4 P, boot_o_5 P, boot_o_6 P, boot_o_7 P, boot_o_8 P, boot_o_9 P, boot_o_10 P, o11_0 P, o12_13 P, o13_0 P, o14_0 P, o15_3 P, o16_3 P, o17_3 P, o18_3 P, o19_3 P, o20_3 P, o21_3 P, o22_3 P, o23_3 P, o24_4 P, o25_3 P, o26_3 P, o27_3 P, o28_4 P, o29_4 P, o30_4 P, o31_4 P, o32_4 P, o33_4 P, o34_4 P, o35_4 P, o36_4 P, o37_4 P, o38_4 P, o39_4 P, o40_5 P, o41_5 P, o42_5 P, o43_5 P, o44_5 P, o45_5 P, o46_5 P, o47_8 P, o48_8 P, o49_8 P, o50_8 P, o51_8 P, o52_8 P, o53_8 P, o54_10 P, o55_10 P, o56_10 P, o57_10 P, o58_10 P, o59_10 P, o60_10 P, o61_10 P, o62_10 P, o63_10 P, o64_10 P, o65_11 P, o66_11 P, o67_11 P, o68_11 P, o69_11 P, o70_11 P, o71_11 P, o72_12 P, o73_12 P, o74_12 P, o75_12 P, o76_12 P, o77_12 P, o78_12 P, o79_12 P, o80_12 P, o81_12 P, o82_12 P, o83_12 P, o84_12 P, o85_12 P, o86_12 P, o87_12 P, o88_12 P, o89_12 P, o90_12 P, o91_12 P, o92_12 P, o93_12 P, o94_12 P, o95_12 P, o96_12 P, o97_12 P, o98_12 P, o99_12 P, o100_12 P, o101_12 P, o102_12 P, o103_12 P, o104_12 P, o105_12 P, o106_12 P, o107_12 P, o108_12 P, o109_12 P, o110_12 P, o111_13 P, o112_13 P, o113_13 P, o114_13 P, o115_13 P, o116_13 P, o117_13 P], {}⟩
noncomputable abbrev S13 (w : World) (os : OsState) : Shared := ⟨H13 w.params, #[], {}, 2280, os⟩
noncomputable abbrev H14 (P : Params) : Heap := ⟨#[boot_o_0 P, boot_o_1 P, o2_3 P, o3_14 P, boot_o_4 P, boot_o_5 P, boot_o_6 P, boot_o_7 P, boot_o_8 P, boot_o_9 P, boot_o_10 P, o11_0 P, o12_13 P, o13_0 P, o14_0 P, o15_3 P, o16_3 P, o17_3 P, o18_3 P, o19_3 P, o20_3 P, o21_3 P, o22_3 P, o23_3 P, o24_4 P, o25_3 P, o26_3 P, o27_3 P, o28_4 P, o29_4 P, o30_4 P, o31_4 P, o32_4 P, o33_4 P, o34_4 P, o35_4 P, o36_4 P, o37_4 P, o38_4 P, o39_4 P, o40_5 P, o41_5 P, o42_5 P, o43_5 P, o44_5 P, o45_5 P, o46_5 P, o47_8 P, o48_8 P, o49_8 P, o50_8 P, o51_8 P, o52_8 P, o53_8 P, o54_10 P, o55_10 P, o56_10 P, o57_10 P, o58_10 P, o59_10 P, o60_10 P, o61_10 P, o62_10 P, o63_10 P, o64_10 P, o65_11 P, o66_11 P, o67_11 P, o68_11 P, o69_11 P, o70_11 P, o71_11 P, o72_12 P, o73_12 P, o74_12 P, o75_12 P, o76_12 P, o77_12 P, o78_12 P, o79_12 P, o80_12 P, o81_12 P, o82_12 P, o83_12 P, o84_12 P, o85_12 P, o86_12 P, o87_12 P, o88_12 P, o89_12 P, o90_12 P, o91_12 P, o92_12 P, o93_12 P, o94_12 P, o95_12 P, o96_12 P, o97_12 P, o98_12 P, o99_12 P, o100_12 P, o101_12 P, o102_12 P, o103_12 P, o104_12 P, o105_12 P, o106_12 P, o107_12 P, o108_12 P, o109_12 P, o110_12 P, o111_13 P, o112_13 P, o113_13 P, o114_13 P, o115_13 P, o116_13 P, o117_13 P], {}⟩
noncomputable abbrev S14 (w : World) (os : OsState) : Shared := ⟨H14 w.params, #[], {}, 2282, os⟩
noncomputable abbrev H15 (P : Params) : Heap := ⟨#[boot_o_0 P, boot_o_1 P, o2_3 P, o3_15 P, boot_o_4 P, boot_o_5 P, boot_o_6 P, boot_o_7 P, boot_o_8 P, boot_o_9 P, boot_o_10 P, o11_0 P, o12_15 P, o13_0 P, o14_0 P, o15_3 P, o16_3 P, o17_3 P, o18_3 P, o19_3 P, o20_3 P, o21_3 P, o22_3 P, o23_3 P, o24_4 P, o25_3 P, o26_3 P, o27_3 P, o28_4 P, o29_4 P, o30_4 P, o31_4 P, o32_4 P, o33_4 P, o34_4 P, o35_4 P, o36_4 P, o37_4 P, o38_4 P, o39_4 P, o40_5 P, o41_5 P, o42_5 P, o43_5 P, o44_5 P, o45_5 P, o46_5 P, o47_8 P, o48_8 P, o49_8 P, o50_8 P, o51_8 P, o52_8 P, o53_8 P, o54_10 P, o55_10 P, o56_10 P, o57_10 P, o58_10 P, o59_10 P, o60_10 P, o61_10 P, o62_10 P, o63_10 P, o64_10 P, o65_11 P, o66_11 P, o67_11 P, o68_11 P, o69_11 P, o70_11 P, o71_11 P, o72_12 P, o73_12 P, o74_12 P, o75_12 P, o76_12 P, o77_12 P, o78_12 P, o79_12 P, o80_12 P, o81_12 P, o82_12 P, o83_12 P, o84_12 P, o85_12 P, o86_12 P, o87_12 P, o88_12 P, o89_12 P, o90_12 P, o91_12 P, o92_12 P, o93_12 P, o94_12 P, o95_12 P, o96_12 P, o97_12 P, o98_12 P, o99_12 P, o100_12 P, o101_12 P, o102_12 P, o103_12 P, o104_12 P, o105_12 P, o106_12 P, o107_12 P, o108_12 P, o109_12 P, o110_12 P, o111_13 P, o112_13 P, o113_13 P, o114_13 P, o115_13 P, o116_13 P, o117_13 P, o118_15 P, o119_15 P, o120_15 P, o121_15 P, o122_15 P, o123_15 P, o124_15 P], {}⟩
noncomputable abbrev S15 (w : World) (os : OsState) : Shared := ⟨H15 w.params, #[], {}, 2288, os⟩
noncomputable abbrev H16 (P : Params) : Heap := ⟨#[boot_o_0 P, boot_o_1 P, o2_3 P, o3_16 P, boot_o_4 P, boot_o_5 P, boot_o_6 P, boot_o_7 P, boot_o_8 P, boot_o_9 P, boot_o_10 P, o11_0 P, o12_16 P, o13_0 P, o14_0 P, o15_3 P, o16_3 P, o17_3 P, o18_3 P, o19_3 P, o20_3 P, o21_3 P, o22_3 P, o23_3 P, o24_4 P, o25_3 P, o26_3 P, o27_3 P, o28_4 P, o29_4 P, o30_4 P, o31_4 P, o32_4 P, o33_4 P, o34_4 P, o35_4 P, o36_4 P, o37_4 P, o38_4 P, o39_4 P, o40_5 P, o41_5 P, o42_5 P, o43_5 P, o44_5 P, o45_5 P, o46_5 P, o47_8 P, o48_8 P, o49_8 P, o50_8 P, o51_8 P, o52_8 P, o53_8 P, o54_10 P, o55_10 P, o56_10 P, o57_10 P, o58_10 P, o59_10 P, o60_10 P, o61_10 P, o62_10 P, o63_10 P, o64_10 P, o65_11 P, o66_11 P, o67_11 P, o68_11 P, o69_11 P, o70_11 P, o71_11 P, o72_12 P, o73_12 P, o74_12 P, o75_12 P, o76_12 P, o77_12 P, o78_12 P, o79_12 P, o80_12 P, o81_12 P, o82_12 P, o83_12 P, o84_12 P, o85_12 P, o86_12 P, o87_12 P, o88_12 P, o89_12 P, o90_12 P, o91_12 P, o92_12 P, o93_12 P, o94_12 P, o95_12 P, o96_12 P, o97_12 P, o98_12 P, o99_12 P, o100_12 P, o101_12 P, o102_12 P, o103_12 P, o104_12 P, o105_12 P, o106_12 P, o107_12 P, o108_12 P, o109_12 P, o110_12 P, o111_13 P, o112_13 P, o113_13 P, o114_13 P, o115_13 P, o116_13 P, o117_13 P, o118_15 P, o119_15 P, o120_15 P, o121_15 P, o122_15 P, o123_15 P, o124_15 P, o125_16 P, o126_16 P, o127_16 P, o128_16 P, o129_16 P, o130_16 P, o131_16 P], {}⟩
noncomputable abbrev S16 (w : World) (os : OsState) : Shared := ⟨H16 w.params, #[], {}, 2302, os⟩
noncomputable abbrev H17 (P : Params) : Heap := ⟨#[boot_o_0 P, boot_o_1 P, o2_3 P, o3_17 P, boot_o_4 P, boot_o_5 P, boot_o_6 P, boot_o_7 P, boot_o_8 P, boot_o_9 P, boot_o_10 P, o11_0 P, o12_17 P, o13_0 P, o14_0 P, o15_3 P, o16_3 P, o17_3 P, o18_3 P, o19_3 P, o20_3 P, o21_3 P, o22_3 P, o23_3 P, o24_4 P, o25_3 P, o26_3 P, o27_3 P, o28_4 P, o29_4 P, o30_4 P, o31_4 P, o32_4 P, o33_4 P, o34_4 P, o35_4 P, o36_4 P, o37_4 P, o38_4 P, o39_4 P, o40_5 P, o41_5 P, o42_5 P, o43_5 P, o44_5 P, o45_5 P, o46_5 P, o47_8 P, o48_8 P, o49_8 P, o50_8 P, o51_8 P, o52_8 P, o53_8 P, o54_10 P, o55_10 P, o56_10 P, o57_10 P, o58_10 P, o59_10 P, o60_10 P, o61_10 P, o62_10 P, o63_10 P, o64_10 P, o65_11 P, o66_11 P, o67_11 P, o68_11 P, o69_11 P, o70_11 P, o71_11 P, o72_12 P, o73_12 P, o74_12 P, o75_12 P, o76_12 P, o77_12 P, o78_12 P, o79_12 P, o80_12 P, o81_12 P, o82_12 P, o83_12 P, o84_12 P, o85_12 P, o86_12 P, o87_12 P, o88_12 P, o89_12 P, o90_12 P, o91_12 P, o92_12 P, o93_12 P, o94_12 P, o95_12 P, o96_12 P, o97_12 P, o98_12 P, o99_12 P, o100_12 P, o101_12 P, o102_12 P, o103_12 P, o104_12 P, o105_12 P, o106_12 P, o107_12 P, o108_12 P, o109_12 P, o110_12 P, o111_13 P, o112_13 P, o113_13 P, o114_13 P, o115_13 P, o116_13 P, o117_13 P, o118_15 P, o119_15 P, o120_15 P, o121_15 P, o122_15 P, o123_15 P, o124_15 P, o125_16 P, o126_16 P, o127_16 P, o128_16 P, o129_16 P, o130_16 P, o131_16 P, o132_17 P, o133_17 P, o134_17 P, o135_17 P, o136_17 P, o137_17 P, o138_17 P], {}⟩
noncomputable abbrev S17 (w : World) (os : OsState) : Shared := ⟨H17 w.params, #[], {}, 2310, os⟩
noncomputable abbrev H18 (P : Params) : Heap := ⟨#[boot_o_0 P, boot_o_1 P, o2_3 P, o3_18 P, boot_o_4 P, boot_o_5 P, boot_o_6 P, boot_o_7 P, boot_o_8 P, boot_o_9 P, boot_o_10 P, o11_0 P, o12_18 P, o13_0 P, o14_0 P, o15_3 P, o16_3 P, o17_3 P, o18_3 P, o19_3 P, o20_3 P, o21_3 P, o22_3 P, o23_3 P, o24_4 P, o25_3 P, o26_3 P, o27_3 P, o28_4 P, o29_4 P, o30_4 P, o31_4 P, o32_4 P, o33_4 P, o34_4 P, o35_4 P, o36_4 P, o37_4 P, o38_4 P, o39_4 P, o40_5 P, o41_5 P, o42_5 P, o43_5 P, o44_5 P, o45_5 P, o46_5 P, o47_8 P, o48_8 P, o49_8 P, o50_8 P, o51_8 P, o52_8 P, o53_8 P, o54_10 P, o55_10 P, o56_10 P, o57_10 P, o58_10 P, o59_10 P, o60_10 P, o61_10 P, o62_10 P, o63_10 P, o64_10 P, o65_11 P, o66_11 P, o67_11 P, o68_11 P, o69_11 P, o70_11 P, o71_11 P, o72_12 P, o73_12 P, o74_12 P, o75_12 P, o76_12 P, o77_12 P, o78_12 P, o79_12 P, o80_12 P, o81_12 P, o82_12 P, o83_12 P, o84_12 P, o85_12 P, o86_12 P, o87_12 P, o88_12 P, o89_12 P, o90_12 P, o91_12 P, o92_12 P, o93_12 P, o94_12 P, o95_12 P, o96_12 P, o97_12 P, o98_12 P, o99_12 P, o100_12 P, o101_12 P, o102_12 P, o103_12 P, o104_12 P, o105_12 P, o106_12 P, o107_12 P, o108_12 P, o109_12 P, o110_12 P, o111_13 P, o112_13 P, o113_13 P, o114_13 P, o115_13 P, o116_13 P, o117_13 P, o118_15 P, o119_15 P, o120_15 P, o121_15 P, o122_15 P, o123_15 P, o124_15 P, o125_16 P, o126_16 P, o127_16 P, o128_16 P, o129_16 P, o130_16 P, o131_16 P, o132_17 P, o133_17 P, o134_17 P, o135_17 P, o136_17 P, o137_17 P, o138_17 P, o139_18 P, o140_18 P, o141_18 P, o142_18 P, o143_18 P], {}⟩
noncomputable abbrev S18 (w : World) (os : OsState) : Shared := ⟨H18 w.params, #[], {}, 2316, os⟩
noncomputable abbrev H19 (P : Params) : Heap := ⟨#[boot_o_0 P, boot_o_1 P, o2_3 P, o3_19 P, boot_o_4 P, boot_o_5 P, boot_o_6 P, boot_o_7 P, boot_o_8 P, boot_o_9 P, boot_o_10 P, o11_0 P, o12_19 P, o13_0 P, o14_0 P, o15_3 P, o16_3 P, o17_3 P, o18_3 P, o19_3 P, o20_3 P, o21_3 P, o22_3 P, o23_3 P, o24_4 P, o25_3 P, o26_3 P, o27_3 P, o28_4 P, o29_4 P, o30_4 P, o31_4 P, o32_4 P, o33_4 P, o34_4 P, o35_4 P, o36_4 P, o37_4 P, o38_4 P, o39_4 P, o40_5 P, o41_5 P, o42_5 P, o43_5 P, o44_5 P, o45_5 P, o46_5 P, o47_8 P, o48_8 P, o49_8 P, o50_8 P, o51_8 P, o52_8 P, o53_8 P, o54_10 P, o55_10 P, o56_10 P, o57_10 P, o58_10 P, o59_10 P, o60_10 P, o61_10 P, o62_10 P, o63_10 P, o64_10 P, o65_11 P, o66_11 P, o67_11 P, o68_11 P, o69_11 P, o70_11 P, o71_11 P, o72_12 P, o73_12 P, o74_12 P, o75_12 P, o76_12 P, o77_12 P, o78_12 P, o79_12 P, o80_12 P, o81_12 P, o82_12 P, o83_12 P, o84_12 P, o85_12 P, o86_12 P, o87_12 P, o88_12 P, o89_12 P, o90_12 P, o91_12 P, o92_12 P, o93_12 P, o94_12 P, o95_12 P, o96_12 P, o97_12 P, o98_12 P, o99_12 P, o100_12 P, o101_12 P, o102_12 P, o103_12 P, o104_12 P, o105_12 P, o106_12 P, o107_12 P, o108_12 P, o109_12 P, o110_12 P, o111_13 P, o112_13 P, o113_13 P, o114_13 P, o115_13 P, o116_13 P, o117_13 P, o118_15 P, o119_15 P, o120_15 P, o121_15 P, o122_15 P, o123_15 P, o124_15 P, o125_16 P, o126_16 P, o127_16 P, o128_16 P, o129_16 P, o130_16 P, o131_16 P, o132_17 P, o133_17 P, o134_17 P, o135_17 P, o136_17 P, o137_17 P, o138_17 P, o139_18 P, o140_18 P, o141_18 P, o142_18 P, o143_18 P, o144_19 P, o145_19 P, o146_19 P, o147_19 P, o148_19 P, o149_19 P, o150_19 P], {}⟩
noncomputable abbrev S19 (w : World) (os : OsState) : Shared := ⟨H19 w.params, #[], {}, 2332, os⟩
noncomputable abbrev H20 (P : Params) : Heap := ⟨#[boot_o_0 P, boot_o_1 P, o2_3 P, o3_20 P, boot_o_4 P, boot_o_5 P, boot_o_6 P, boot_o_7 P, boot_o_8 P, boot_o_9 P, boot_o_10 P, o11_0 P, o12_20 P, o13_0 P, o14_0 P, o15_3 P, o16_3 P, o17_3 P, o18_3 P, o19_3 P, o20_3 P, o21_3 P, o22_3 P, o23_3 P, o24_4 P, o25_3 P, o26_3 P, o27_3 P, o28_4 P, o29_4 P, o30_4 P, o31_4 P, o32_4 P, o33_4 P, o34_4 P, o35_4 P, o36_4 P, o37_4 P, o38_4 P, o39_4 P, o40_5 P, o41_5 P, o42_5 P, o43_5 P, o44_5 P, o45_5 P, o46_5 P, o47_8 P, o48_8 P, o49_8 P, o50_8 P, o51_8 P, o52_8 P, o53_8 P, o54_10 P, o55_10 P, o56_10 P, o57_10 P, o58_10 P, o59_10 P, o60_10 P, o61_10 P, o62_10 P, o63_10 P, o64_10 P, o65_11 P, o66_11 P, o67_11 P, o68_11 P, o69_11 P, o70_11 P, o71_11 P, o72_12 P, o73_12 P, o74_12 P, o75_12 P, o76_12 P, o77_12 P, o78_12 P, o79_12 P, o80_12 P, o81_12 P, o82_12 P, o83_12 P, o84_12 P, o85_12 P, o86_12 P, o87_12 P, o88_12 P, o89_12 P, o90_12 P, o91_12 P, o92_12 P, o93_12 P, o94_12 P, o95_12 P, o96_12 P, o97_12 P, o98_12 P, o99_12 P, o100_12 P, o101_12 P, o102_12 P, o103_12 P, o104_12 P, o105_12 P, o106_12 P, o107_12 P, o108_12 P, o109_12 P, o110_12 P, o111_13 P, o112_13 P, o113_13 P, o114_13 P, o115_13 P, o116_13 P, o117_13 P, o118_15 P, o119_15 P, o120_15 P, o121_15 P, o122_15 P, o123_15 P, o124_15 P, o125_16 P, o126_16 P, o127_16 P, o128_16 P, o129_16 P, o130_16 P, o131_16 P, o132_17 P, o133_17 P, o134_17 P, o135_17 P, o136_17 P, o137_17 P, o138_17 P, o139_18 P, o140_18 P, o141_18 P, o142_18 P, o143_18 P, o144_19 P, o145_19 P, o146_19 P, o147_19 P, o148_19 P, o149_19 P, o150_19 P, o151_20 P, o152_20 P, o153_20 P, o154_20 P, o155_20 P, o156_20 P, o157_20 P], {}⟩
noncomputable abbrev S20 (w : World) (os : OsState) : Shared := ⟨H20 w.params, #[], {}, 2342, os⟩
noncomputable abbrev H21 (P : Params) : Heap := ⟨#[boot_o_0 P, boot_o_1 P, o2_3 P, o3_21 P, boot_o_4 P, boot_o_5 P, boot_o_6 P, boot_o_7 P, boot_o_8 P, boot_o_9 P, boot_o_10 P, o11_0 P, o12_21 P, o13_0 P, o14_0 P, o15_3 P, o16_3 P, o17_3 P, o18_3 P, o19_3 P, o20_3 P, o21_3 P, o22_3 P, o23_3 P, o24_4 P, o25_3 P, o26_3 P, o27_3 P, o28_4 P, o29_4 P, o30_4 P, o31_4 P, o32_4 P, o33_4 P, o34_4 P, o35_4 P, o36_4 P, o37_4 P, o38_4 P, o39_4 P, o40_5 P, o41_5 P, o42_5 P, o43_5 P, o44_5 P, o45_5 P, o46_5 P, o47_8 P, o48_8 P, o49_8 P, o50_8 P, o51_8 P, o52_8 P, o53_8 P, o54_10 P, o55_10 P, o56_10 P, o57_10 P, o58_10 P, o59_10 P, o60_10 P, o61_10 P, o62_10 P, o63_10 P, o64_10 P, o65_11 P, o66_11 P, o67_11 P, o68_11 P, o69_11 P, o70_11 P, o71_11 P, o72_12 P, o73_12 P, o74_12 P, o75_12 P, o76_12 P, o77_12 P, o78_12 P, o79_12 P, o80_12 P, o81_12 P, o82_12 P, o83_12 P, o84_12 P, o85_12 P, o86_12 P, o87_12 P, o88_12 P, o89_12 P, o90_12 P, o91_12 P, o92_12 P, o93_12 P, o94_12 P, o95_12 P, o96_12 P, o97_12 P, o98_12 P, o99_12 P, o100_12 P, o101_12 P, o102_12 P, o103_12 P, o104_12 P, o105_12 P, o106_12 P, o107_12 P, o108_12 P, o109_12 P, o110_12 P, o111_13 P, o112_13 P, o113_13 P, o114_13 P, o115_13 P, o116_13 P, o117_13 P, o118_15 P, o119_15 P, o120_15 P, o121_15 P, o122_15 P, o123_15 P, o124_15 P, o125_16 P, o126_16 P, o127_16 P, o128_16 P, o129_16 P, o130_16 P, o131_16 P, o132_17 P, o133_17 P, o134_17 P, o135_17 P, o136_17 P, o137_17 P, o138_17 P, o139_18 P, o140_18 P, o141_18 P, o142_18 P, o143_18 P, o144_19 P, o145_19 P, o146_19 P, o147_19 P, o148_19 P, o149_19 P, o150_19 P, o151_20 P, o152_20 P, o153_20 P, o154_20 P, o155_20 P, o156_20 P, o157_20 P, o158_21 P, o159_21 P, o160_21 P, o161_21 P, o162_21 P], {}⟩
noncomputable abbrev S21 (w : World) (os : OsState) : Shared := ⟨H21 w.params, #[], {}, 2348, os⟩
noncomputable abbrev H22 (P : Params) : Heap := ⟨#[boot_o_0 P, boot_o_1 P, o2_3 P, o3_21 P, boot_o_4 P, boot_o_5 P, boot_o_6 P, boot_o_7 P, boot_o_8 P, boot_o_9 P, boot_o_10 P, o11_0 P, o12_21 P, o13_0 P, o14_0 P, o15_3 P, o16_3 P, o17_3 P, o18_3 P, o19_3 P, o20_3 P, o21_3 P, o22_3 P, o23_3 P, o24_4 P, o25_3 P, o26_3 P, o27_3 P, o28_4 P, o29_4 P, o30_4 P, o31_4 P, o32_4 P, o33_4 P, o34_4 P, o35_4 P, o36_4 P, o37_4 P, o38_4 P, o39_4 P, o40_5 P, o41_5 P, o42_5 P, o43_5 P, o44_5 P, o45_5 P, o46_5 P, o47_8 P, o48_8 P, o49_8 P, o50_8 P, o51_8 P, o52_8 P, o53_8 P, o54_10 P, o55_10 P, o56_10 P, o57_10 P, o58_10 P, o59_10 P, o60_10 P, o61_10 P, o62_10 P, o63_10 P, o64_10 P, o65_11 P, o66_11 P, o67_11 P, o68_11 P, o69_11 P, o70_11 P, o71_11 P, o72_12 P, o73_12 P, o74_12 P, o75_12 P, o76_12 P, o77_12 P, o78_12 P, o79_12 P, o80_12 P, o81_12 P, o82_12 P, o83_12 P, o84_12 P, o85_12 P, o86_12 P, o87_12 P, o88_12 P, o89_12 P, o90_12 P, o91_12 P, o92_12 P, o93_12 P, o94_12 P, o95_12 P, o96_12 P, o97_12 P, o98_12 P, o99_12 P, o100_12 P, o101_12 P, o102_12 P, o103_12 P, o104_12 P, o105_12 P, o106_12 P, o107_12 P, o108_12 P, o109_12 P, o110_12 P, o111_13 P, o112_13 P, o113_13 P, o114_13 P, o115_13 P, o116_13 P, o117_13 P, o118_15 P, o119_15 P, o120_15 P, o121_15 P, o122_15 P, o123_15 P, o124_15 P, o125_16 P, o126_16 P, o127_16 P, o128_16 P, o129_16 P, o130_16 P, o131_16 P, o132_17 P, o133_17 P, o134_17 P, o135_17 P, o136_17 P, o137_17 P, o138_17 P, o139_18 P, o140_18 P, o141_18 P, o142_18 P, o143_18 P, o144_19 P, o145_19 P, o146_19 P, o147_19 P, o148_19 P, o149_19 P, o150_19 P, o151_20 P, o152_20 P, o153_20 P, o154_20 P, o155_20 P, o156_20 P, o157_20 P, o158_21 P, o159_21 P, o160_21 P, o161_21 P, o162_21 P], {}⟩
noncomputable abbrev S22 (w : World) (os : OsState) : Shared := ⟨H22 w.params, #[], {}, 2348, os⟩
noncomputable abbrev HD (P : Params) : Heap := ⟨#[boot_o_0 P, boot_o_1 P, o2_3 P, o3_11 P, boot_o_4 P, boot_o_5 P, boot_o_6 P, boot_o_7 P, boot_o_8 P, boot_o_9 P, boot_o_10 P, o11_0 P, o12_11 P, o13_0 P, o14_0 P, o15_3 P, o16_3 P, o17_3 P, o18_3 P, o19_3 P, o20_3 P, o21_3 P, o22_3 P, o23_3 P, o24_4 P, o25_3 P, o26_3 P, o27_3 P, o28_4 P, o29_4 P, o30_4 P, o31_4 P, o32_4 P, o33_4 P, o34_4 P, o35_4 P, o36_4 P, o37_4 P, o38_4 P, o39_4 P, o40_5 P, o41_5 P, o42_5 P, o43_5 P, o44_5 P, o45_5 P, o46_5 P, o47_8 P, o48_8 P, o49_8 P, o50_8 P, o51_8 P, o52_8 P, o53_8 P, o54_10 P, o55_10 P, o56_10 P, o57_10 P, o58_10 P, o59_10 P, o60_10 P, o61_10 P, o62_10 P, o63_10 P, o64_10 P, o65_11 P, o66_11 P, o67_11 P, o68_11 P, o69_11 P, o70_11 P, o71_11 P, o72_12 P, o73_12 P, o74_12 P, o75_12 P, o76_12 P, o77_12 P, o78_12 P, o79_12 P, o80_12 P, o81_12 P, o82_12 P, o83_12 P, o84_12 P, o85_12 P, o86_12 P, o87_12 P, o88_12 P, o89_12 P, o90_12 P, o91_12 P, o92_12 P, o93_12 P, o94_12 P, o95_12 P, o96_12 P, o97_12 P, o98_12 P, o99_12 P, o100_12 P, o101_12 P, o102_12 P, o103_12 P, o104_12 P, o105_12 P, o106_12 P, o107_12 P, o108_12 P, o109_12 P, o110_12 P], {}⟩
noncomputable abbrev SD (w : World) (os : OsState) : Shared := ⟨HD w.params, #[], {}, 2271, os⟩
noncomputable abbrev SB (w : World) (os : OsState) : Shared := ⟨boot_heap w.params, Array.mk [], boot_drawn, boot_toks, os⟩
end Mine
end
-- part TopB2
set_option maxRecDepth 100000
noncomputable section
namespace Mine
open PySem PySem.W PySem.Calls PyProof.Rows
theorem pre (w : World) (os : OsState) : topGo treeTable pw w 11 annT 12 (SB w os) (topStub pw) = some (S0 w os, ⟨denote treeTable cE, cE, ⟨0, 0, 0, 0⟩, [topFrame qT]⟩) := by kernel_rfl
theorem block (w : World) (os : OsState) : segRun treeTable pw w 11 annT 1 1 (S0 w os) (blockOf (behindTheImports pw) envT cE ⟨0, 0, 0, 0⟩ [topFrame qT]) = some (.next, S1 w os, cE, ⟨0, 0, 0, 0⟩) := by kernel_rfl
theorem piece0 (w : World) (os : OsState) : segRun treeTable pw w 11 annT 1 10 (S1 w os) (pieceOf (st 0) envT cE ⟨0, 0, 0, 0⟩ [topFrame qT]) = some (.next, S2 w os, cE, ⟨1, 0, 1, 8⟩) := by
  rw [PySem.W.Fast.te14374325043358763698, PySem.W.Fast.te14364793385576792824]
  kernel_rfl
theorem piece1 (w : World) (os : OsState) : segRun treeTable pw w 11 annT 1 197 (S2 w os) (pieceOf (st 1) envT cE ⟨1, 0, 1, 8⟩ [topFrame qT]) = some (.next, S3 w os, cE, ⟨2, 0, 3, 8⟩) := by
  rw [PySem.W.Fast.te14374325043358763698, PySem.W.Fast.te14364793385576792824]
  kernel_rfl
theorem piece2 (w : World) (os : OsState) : segRun treeTable pw w 11 annT 1 214 (S3 w os) (pieceOf (st 2) envT cE ⟨2, 0, 3, 8⟩ [topFrame qT]) = some (.next, S4 w os, cE, ⟨4, 0, 5, 8⟩) := by
  rw [PySem.W.Fast.te14374325043358763698, PySem.W.Fast.te14364793385576792824]
  kernel_rfl
theorem piece3 (w : World) (os : OsState) : segRun treeTable pw w 11 annT 1 34 (S4 w os) (pieceOf (st 3) envT cE ⟨4, 0, 5, 8⟩ [topFrame qT]) = some (.next, S5 w os, cE, ⟨6, 0, 22, 18⟩) := by
  rw [PySem.W.Fast.te14374325043358763698, PySem.W.Fast.te14364793385576792824]
  kernel_rfl
theorem piece4 (w : World) (os : OsState) : segRun treeTable pw w 11 annT 1 10 (S5 w os) (pieceOf (st 4) envT cE ⟨6, 0, 22, 18⟩ [topFrame qT]) = some (.next, S6 w os, cE, ⟨23, 0, 23, 8⟩) := by
  rw [PySem.W.Fast.te14374325043358763698, PySem.W.Fast.te14364793385576792824]
  kernel_rfl
theorem piece5 (w : World) (os : OsState) : segRun treeTable pw w 11 annT 1 10 (S6 w os) (pieceOf (st 5) envT cE ⟨23, 0, 23, 8⟩ [topFrame qT]) = some (.next, S7 w os, cE, ⟨24, 0, 24, 15⟩) := by
  rw [PySem.W.Fast.te14374325043358763698, PySem.W.Fast.te14364793385576792824]
  kernel_rfl
theorem piece6 (w : World) (os : OsState) : segRun treeTable pw w 11 annT 1 35 (S7 w os) (pieceOf (st 6) envT cE ⟨24, 0, 24, 15⟩ [topFrame qT]) = some (.next, S8 w os, cE, ⟨25, 0, 52, 15⟩) := by
  rw [PySem.W.Fast.te14374325043358763698, PySem.W.Fast.te14364793385576792824]
  kernel_rfl
theorem piece7 (w : World) (os : OsState) : segRun treeTable pw w 11 annT 1 10 (S8 w os) (pieceOf (st 7) envT cE ⟨25, 0, 52, 15⟩ [topFrame qT]) = some (.next, S9 w os, cE, ⟨53, 0, 53, 8⟩) := by
  rw [PySem.W.Fast.te14374325043358763698, PySem.W.Fast.te14364793385576792824]
  kernel_rfl
theorem piece8_false_false (w : World) (os : OsState) : segRun treeTable pw ((w.withFollow "special-get-raises" false).withFollow "set-order" false) 11 annT 1 999 (S9 ((w.withFollow "special-get-raises" false).withFollow "set-order" false) os) (pieceOf (st 8) envT cE ⟨53, 0, 53, 8⟩ [topFrame qT]) = some (.next, S10 ((w.withFollow "special-get-raises" false).withFollow "set-order" false) os, cE, ⟨54, 0, 54, 6⟩) := by
  rw [PySem.W.Fast.te14374325043358763698, PySem.W.Fast.te14364793385576792824]
  kernel_rfl
theorem piece8_false_true (w : World) (os : OsState) : segRun treeTable pw ((w.withFollow "special-get-raises" true).withFollow "set-order" false) 11 annT 1 999 (S9 ((w.withFollow "special-get-raises" true).withFollow "set-order" false) os) (pieceOf (st 8) envT cE ⟨53, 0, 53, 8⟩ [topFrame qT]) = some (.next, S10 ((w.withFollow "special-get-raises" true).withFollow "set-order" false) os, cE, ⟨54, 0, 54, 6⟩) := by
  rw [PySem.W.Fast.te14374325043358763698, PySem.W.Fast.te14364793385576792824]
  kernel_rfl
theorem piece8_true_false (w : World) (os : OsState) : segRun treeTable pw ((w.withFollow "special-get-raises" false).withFollow "set-order" true) 11 annT 1 999 (S9 ((w.withFollow "special-get-raises" false).withFollow "set-order" true) os) (pieceOf (st 8) envT cE ⟨53, 0, 53, 8⟩ [topFrame qT]) = some (.next, S10 ((w.withFollow "special-get-raises" false).withFollow "set-order" true) os, cE, ⟨54, 0, 54, 6⟩) := by
  rw [PySem.W.Fast.te14374325043358763698, PySem.W.Fast.te14364793385576792824]
  kernel_rfl
theorem piece8_true_true (w : World) (os : OsState) : segRun treeTable pw ((w.withFollow "special-get-raises" true).withFollow "set-order" true) 11 annT 1 999 (S9 ((w.withFollow "special-get-raises" true).withFollow "set-order" true) os) (pieceOf (st 8) envT cE ⟨53, 0, 53, 8⟩ [topFrame qT]) = some (.next, S10 ((w.withFollow "special-get-raises" true).withFollow "set-order" true) os, cE, ⟨54, 0, 54, 6⟩) := by
  rw [PySem.W.Fast.te14374325043358763698, PySem.W.Fast.te14364793385576792824]
  kernel_rfl
theorem piece8 (w : World) : ∀ os : OsState, segRun treeTable pw w 11 annT 1 999 (S9 w os) (pieceOf (st 8) envT cE ⟨53, 0, 53, 8⟩ [topFrame qT]) = some (.next, S10 w os, cE, ⟨54, 0, 54, 6⟩) :=
  byRow2 "set-order" (P := fun w => ∀ os : OsState, segRun treeTable pw w 11 annT 1 999 (S9 w os) (pieceOf (st 8) envT cE ⟨53, 0, 53, 8⟩ [topFrame qT]) = some (.next, S10 w os, cE, ⟨54, 0, 54, 6⟩))
    (byRow2 "special-get-raises" (P := fun w => ∀ os : OsState, segRun treeTable pw (w.withFollow "set-order" false) 11 annT 1 999 (S9 (w.withFollow "set-order" false) os) (pieceOf (st 8) envT cE ⟨53, 0, 53, 8⟩ [topFrame qT]) = some (.next, S10 (w.withFollow "set-order" false) os, cE, ⟨54, 0, 54, 6⟩)) piece8_false_false piece8_false_true)
    (byRow2 "special-get-raises" (P := fun w => ∀ os : OsState, segRun treeTable pw (w.withFollow "set-order" true) 11 annT 1 999 (S9 (w.withFollow "set-order" true) os) (pieceOf (st 8) envT cE ⟨53, 0, 53, 8⟩ [topFrame qT]) = some (.next, S10 (w.withFollow "set-order" true) os, cE, ⟨54, 0, 54, 6⟩)) piece8_true_false piece8_true_true) w
theorem piece9 (w : World) (os : OsState) : segRun treeTable pw w 11 annT 1 30 (S10 w os) (pieceOf (st 9) envT cE ⟨54, 0, 54, 6⟩ [topFrame qT]) = some (.next, S11 w os, cE, ⟨55, 0, 56, 30⟩) := by
  rw [PySem.W.Fast.te14374325043358763698, PySem.W.Fast.te14364793385576792824]
  kernel_rfl
theorem piece11 (w : World) (os : OsState) : segRun treeTable pw w 11 annT 1 31 (S12 w os) (pieceOf (st 11) envT cE ⟨57, 0, 57, 13⟩ [topFrame qT]) = some (.next, S13 w os, cE, ⟨58, 0, 62, 23⟩) := by
  rw [PySem.W.Fast.te14374325043358763698, PySem.W.Fast.te14364793385576792824]
  kernel_rfl
theorem piece12 (w : World) (os : OsState) : segRun treeTable pw w 11 annT 1 10 (S13 w os) (pieceOf (st 12) envT cE ⟨58, 0, 62, 23⟩ [topFrame qT]) = some (.next, S14 w os, cE, ⟨63, 0, 63, 8⟩) := by
  rw [PySem.W.Fast.te14374325043358763698, PySem.W.Fast.te14364793385576792824]
  kernel_rfl
theorem piece13 (w : World) (os : OsState) : segRun treeTable pw w 11 annT 1 29 (S14 w os) (pieceOf (st 13) envT cE ⟨63, 0, 63, 8⟩ [topFrame qT]) = some (.next, S15 w os, cE, ⟨64, 0, 65, 104⟩) := by
  rw [PySem.W.Fast.te14374325043358763698, PySem.W.Fast.te14364793385576792824]
  kernel_rfl
theorem piece14 (w : World) (os : OsState) : segRun treeTable pw w 11 annT 1 37 (S15 w os) (pieceOf (st 14) envT cE ⟨64, 0, 65, 104⟩ [topFrame qT]) = some (.next, S16 w os, cE, ⟨66, 0, 86, 16⟩) := by
  rw [PySem.W.Fast.te14374325043358763698, PySem.W.Fast.te14364793385576792824]
  kernel_rfl
theorem piece15 (w : World) (os : OsState) : segRun treeTable pw w 11 annT 1 31 (S16 w os) (pieceOf (st 15) envT cE ⟨66, 0, 86, 16⟩ [topFrame qT]) = some (.next, S17 w os, cE, ⟨87, 0, 88, 106⟩) := by
  rw [PySem.W.Fast.te14374325043358763698, PySem.W.Fast.te14364793385576792824]
  kernel_rfl
theorem piece16 (w : World) (os : OsState) : segRun treeTable pw w 11 annT 1 27 (S17 w os) (pieceOf (st 16) envT cE ⟨87, 0, 88, 106⟩ [topFrame qT]) = some (.next, S18 w os, cE, ⟨89, 0, 109, 89⟩) := by
  rw [PySem.W.Fast.te14374325043358763698, PySem.W.Fast.te14364793385576792824]
  kernel_rfl
theorem piece17 (w : World) (os : OsState) : segRun treeTable pw w 11 annT 1 39 (S18 w os) (pieceOf (st 17) envT cE ⟨89, 0, 109, 89⟩ [topFrame qT]) = some (.next, S19 w os, cE, ⟨110, 0, 124, 18⟩) := by
  rw [PySem.W.Fast.te14374325043358763698, PySem.W.Fast.te14364793385576792824]
  kernel_rfl
theorem piece18 (w : World) (os : OsState) : segRun treeTable pw w 11 annT 1 33 (S19 w os) (pieceOf (st 18) envT cE ⟨110, 0, 124, 18⟩ [topFrame qT]) = some (.next, S20 w os, cE, ⟨125, 0, 132, 13⟩) := by
  rw [PySem.W.Fast.te14374325043358763698, PySem.W.Fast.te14364793385576792824]
  kernel_rfl
theorem piece19 (w : World) (os : OsState) : segRun treeTable pw w 11 annT 1 27 (S20 w os) (pieceOf (st 19) envT cE ⟨125, 0, 132, 13⟩ [topFrame qT]) = some (.next, S21 w os, cE, ⟨133, 0, 159, 15⟩) := by
  rw [PySem.W.Fast.te14374325043358763698, PySem.W.Fast.te14364793385576792824]
  kernel_rfl
theorem hash_false (w : World) (s : Shared) (i : Int) (t : Tok) (p : Pos) (K : Int → Sem PySem.Fin) (H : Value → Sem PySem.Fin) (gd : Bool → Bool) (lv : List Value → List Value) :
    segGo treeTable pw (w.withFollow "special-get-raises" false) 11 annT 1 5 s ⟨(pyHash (.int i t)).wrap K H gd lv, cE, p, [topFrame qT]⟩ = some ({ s with toks := s.toks + 1 }, ⟨(pyHashByItsType.reduced (intHash i)).wrap K H gd lv, cE, p, [topFrame qT]⟩) := by
  rw [PySem.W.Fast.te3277212676724774461, PySem.W.Fast.te14364793385576792824]
  kernel_rfl
theorem hash_true (w : World) (s : Shared) (i : Int) (t : Tok) (p : Pos) (K : Int → Sem PySem.Fin) (H : Value → Sem PySem.Fin) (gd : Bool → Bool) (lv : List Value → List Value) :
    segGo treeTable pw (w.withFollow "special-get-raises" true) 11 annT 1 5 s ⟨(pyHash (.int i t)).wrap K H gd lv, cE, p, [topFrame qT]⟩ = some ({ s with toks := s.toks + 1 }, ⟨(pyHashByItsType.reduced (intHash i)).wrap K H gd lv, cE, p, [topFrame qT]⟩) := by
  rw [PySem.W.Fast.te3277212676724774461, PySem.W.Fast.te14364793385576792824]
  kernel_rfl
theorem hash_red {i : Int} (h0 : 0 ≤ i) (h1 : i < 2 ^ 60) : pyHashByItsType.reduced (intHash i) = pure i := by
  have e : intHash i = i := by
    obtain ⟨n, rfl⟩ := Int.eq_ofNat_of_zero_le h0
    unfold intHash
    have hn : ((n : Int) % 2305843009213693951) = n := Int.emod_eq_of_lt h0 (by omega)
    have h2 : ¬ ((n : Int) < 0) := by omega
    have h3 : ¬ ((n : Int) = -1) := by omega
    simp only [Int.natAbs_natCast, h2, if_false]
    simp [hn, h3]
  rw [e]
  unfold pyHashByItsType.reduced
  rw [if_pos (by simp; omega), if_neg (by simp; omega)]
theorem hashW (w : World) : ∀ (i : Int) (t : Tok) (p : Pos) (s : Shared), 0 ≤ i → i < 2 ^ 60 → Stp pw w 11 annT cE [topFrame qT] (pyHash (.int i t)) p s 5 i p { s with toks := s.toks + 1 } :=
  byRow2 "special-get-raises" (P := fun w => ∀ (i : Int) (t : Tok) (p : Pos) (s : Shared), 0 ≤ i → i < 2 ^ 60 → Stp pw w 11 annT cE [topFrame qT] (pyHash (.int i t)) p s 5 i p { s with toks := s.toks + 1 })
    (fun w i t p s h0 h1 K H gd lv => by
      have h := hash_false w s i t p K H gd lv
      rw [hash_red h0 h1] at h
      exact h)
    (fun w i t p s h0 h1 K H gd lv => by
      have h := hash_true w s i t p K H gd lv
      rw [hash_red h0 h1] at h
      exact h) w
theorem exec_dict : exec (st 10) envT = exec (.Assign (aTgt (st 10)) (.Dict (dKeys (st 10)) (dVals (st 10)) (dPos (st 10))) (aPos (st 10))) envT := by kernel_rfl
theorem dict_items : (evalEachOpt (dKeys (st 10)) envT).zip ((evalEach (dVals (st 10)) envT).map fun v => do let x ← v; standAt (dPos (st 10)); pure x) = ((gr0 ++ (grs.flatten ++ grl)).map (mkPair (dPos (st 10)))).map (fun p => (some p.1, p.2)) := by kernel_rfl
noncomputable def riseB : Int → List (Int × Str) → Bool
  | _, [] => true
  | b, q :: r => decide (b < q.1) && decide (q.1 < 2 ^ 60) && riseB q.1 r
theorem rise_of : ∀ {b : Int} {l : List (Int × Str)}, riseB b l = true → Rise b l
  | _, [], _ => trivial
  | b, q :: r, h => by
    simp only [riseB, Bool.and_eq_true, decide_eq_true_eq] at h
    exact ⟨h.1.1, h.1.2, rise_of h.2⟩
theorem dict_rise : Rise (-1) (gr0 ++ (grs.flatten ++ grl)) := rise_of (by kernel_rfl)
theorem dict_lens : (grs.all fun x => x.length == 17) = true := by kernel_rfl
theorem dict_after (w : World) : hpA (H11 w.params).objs.toList (dObj mainE) (subE.map dObj) {} = HD w.params := by kernel_rfl
theorem dict_eval (w : World) (os : OsState) : StpB pw w 11 annT cE [topFrame qT] (eval (.Dict (dKeys (st 10)) (dVals (st 10)) (dPos (st 10))) envT) (aPos (st 10)) (S11 w os) 16000 (.ref 72) (dPos (st 10)) (SD w os) := by
  show StpB pw w 11 annT cE [topFrame qT] (do standAt (dPos (st 10)); dictDisplay ((evalEachOpt (dKeys (st 10)) envT).zip ((evalEach (dVals (st 10)) envT).map fun v => do let x ← v; standAt (dPos (st 10)); pure x))) (aPos (st 10)) (S11 w os) 16000 _ _ _
  rw [dict_items]
  have D := display (hashW w) (dp := dPos (st 10)) (pre := (H11 w.params).objs.toList) (life := {}) (of_decide_eq_true (by kernel_rfl)) (of_decide_eq_true (by kernel_rfl)) gr0 grs grl (S11 w os) (by kernel_rfl) (fun x hx => by
    have := List.all_eq_true.mp dict_lens x hx
    simpa using this) (of_decide_eq_true (by kernel_rfl)) (fun h => absurd (congrArg List.length h) (of_decide_eq_true (by kernel_rfl))) rfl (of_decide_eq_true (by kernel_rfl)) dict_rise
  rw [show entG (S11 w os).toks gr0 ++ (subsOf ((S11 w os).toks + 51) (grs ++ [grl])).flatten = mainE from rfl, show subsOf ((S11 w os).toks + 51) (grs ++ [grl]) = subE from rfl, dict_after] at D
  exact StpB.mono (StpB.bind (Stp.at.b (Nat.le_refl 1)) D) (of_decide_eq_true (by kernel_rfl))
theorem dict_store (w : World) (os : OsState) : Stp pw w 11 annT cE [topFrame qT] (assignStores envT (.ref 72) none ((assignEach (aTgt (st 10)) envT).map (·.2))) (dPos (st 10)) (SD w os) 7 .next ⟨57, 0, 57, 13⟩ (S12 w os) := fun K H gd lv => by kernel_rfl
theorem swaps (w : World) (s : Shared) (p : Pos) : Stp pw w 11 annT cE [topFrame qT] (swapsWithSole (aTgt (st 10)) (.Dict (dKeys (st 10)) (dVals (st 10)) (dPos (st 10))) (aPos (st 10)).line envT) p s 0 false p s := fun K H gd lv => by kernel_rfl
theorem swapped (w : World) (s : Shared) (p : Pos) : Stp pw w 11 annT cE [topFrame qT] (swappedStores (aTgt (st 10)) (.Dict (dKeys (st 10)) (dVals (st 10)) (dPos (st 10))) envT) p s 0 none p s := fun K H gd lv => by kernel_rfl
theorem exec_assign (ts : List PySem.Expr) (value : PySem.Expr) (pos : Pos) (env : Env) : exec (.Assign ts value pos) env = (do
    standAt pos
    if ← swapsWithSole ts value pos.line env then do
      evalThenUse value env fun v => assignAll v ((assignEach ts env).map (·.2))
      pure .next
    else do
      let v ← eval value env
      assignStores env v (← swappedStores ts value env) ((assignEach ts env).map (·.2))) := rfl
theorem dict_exec (w : World) (os : OsState) : StpB pw w 11 annT cE [topFrame qT] (exec (st 10) envT) ⟨55, 0, 56, 30⟩ (S11 w os) (1 + (0 + (16000 + (0 + 7)))) .next ⟨57, 0, 57, 13⟩ (S12 w os) := by
  rw [exec_dict, exec_assign]
  refine StpB.bind (Stp.at.b (Nat.le_refl 1)) ?_
  refine StpB.bind ((swaps w _ _).b (Nat.le_refl 0)) ?_
  rw [if_neg Bool.false_ne_true]
  refine StpB.bind (dict_eval w os) ?_
  exact StpB.bind ((swapped w _ _).b (Nat.le_refl 0)) ((dict_store w os).b (Nat.le_refl 7))
theorem seg_of_go {prog : Program} {w : World} {n₀ : Nat} {ann : Option Value} {s' : Shared} {f : Flow} {c : Code} {p : Pos} {F : Frame} : ∀ {n : Nat}, True → ∀ (s : Shared) (t : Thread), segGo treeTable prog w n₀ ann 1 n s t = some (s', ⟨doneF f, c, p, [F]⟩) →
    segRun treeTable prog w n₀ ann 1 (n + 1) s t = some (f, s', c, p)
  | 0, _, s, t, h => by
    obtain ⟨rfl, rfl⟩ : s = s' ∧ t = _ := by simpa [segGo] using h
    rfl
  | n + 1, _, s, t, h => by
    unfold segGo at h
    unfold segRun
    cases he : endAt 1 t with
    | some f => rw [he] at h; cases h
    | none =>
      rw [he] at h
      cases hk : stepOk n₀ ann t with
      | false => rw [hk] at h; cases h
      | true =>
        rw [hk] at h
        cases hs : step (denote treeTable) prog w s t with
        | halt o s₂ => rw [hs] at h; cases h
        | go s₂ t₂ => rw [hs] at h; exact seg_of_go trivial s₂ t₂ h
theorem piece10 (w : World) (os : OsState) : ∃ n, n ≤ 16008 ∧ segRun treeTable pw w 11 annT 1 (n + 1) (S11 w os) (pieceOf (st 10) envT cE ⟨55, 0, 56, 30⟩ [topFrame qT]) = some (.next, S12 w os, cE, ⟨57, 0, 57, 13⟩) := by
  obtain ⟨n, hn, h⟩ := dict_exec w os
  exact ⟨n, by omega, seg_of_go trivial _ _ (h doneF deadEnd id id)⟩

theorem fin (w : World) (os : OsState) : topRun treeTable pw w 11 annT 2 (S21 w os) (restOf [] envT cE ⟨133, 0, 159, 15⟩ [topFrame qT]) = some (S22 w os) := by kernel_rfl
theorem run20 (w : World) (os : OsState) : ∃ M, M ≤ 2 ∧ topRun treeTable pw w 11 annT M (S21 w os) (restOf [] envT cE ⟨133, 0, 159, 15⟩ [topFrame qT]) = some (S22 w os) := ⟨_, Nat.le_refl _, fin w os⟩
theorem run19 (w : World) (os : OsState) : ∃ M, M ≤ 29 ∧ topRun treeTable pw w 11 annT M (S20 w os) (restOf [st 19] envT cE ⟨125, 0, 132, 13⟩ [topFrame qT]) = some (S22 w os) := by
  obtain ⟨M, hM, r⟩ := run20 w os
  exact ⟨27 + M, by omega, piece_cons (piece19 w os) r⟩
theorem run18 (w : World) (os : OsState) : ∃ M, M ≤ 62 ∧ topRun treeTable pw w 11 annT M (S19 w os) (restOf [st 18, st 19] envT cE ⟨110, 0, 124, 18⟩ [topFrame qT]) = some (S22 w os) := by
  obtain ⟨M, hM, r⟩ := run19 w os
  exact ⟨33 + M, by omega, piece_cons (piece18 w os) r⟩
theorem run17 (w : World) (os : OsState) : ∃ M, M ≤ 101 ∧ topRun treeTable pw w 11 annT M (S18 w os) (restOf [st 17, st 18, st 19] envT cE ⟨89, 0, 109, 89⟩ [topFrame qT]) = some (S22 w os) := by
  obtain ⟨M, hM, r⟩ := run18 w os
  exact ⟨39 + M, by omega, piece_cons (piece17 w os) r⟩
theorem run16 (w : World) (os : OsState) : ∃ M, M ≤ 128 ∧ topRun treeTable pw w 11 annT M (S17 w os) (restOf [st 16, st 17, st 18, st 19] envT cE ⟨87, 0, 88, 106⟩ [topFrame qT]) = some (S22 w os) := by
  obtain ⟨M, hM, r⟩ := run17 w os
  exact ⟨27 + M, by omega, piece_cons (piece16 w os) r⟩
theorem run15 (w : World) (os : OsState) : ∃ M, M ≤ 159 ∧ topRun treeTable pw w 11 annT M (S16 w os) (restOf [st 15, st 16, st 17, st 18, st 19] envT cE ⟨66, 0, 86, 16⟩ [topFrame qT]) = some (S22 w os) := by
  obtain ⟨M, hM, r⟩ := run16 w os
  exact ⟨31 + M, by omega, piece_cons (piece15 w os) r⟩
theorem run14 (w : World) (os : OsState) : ∃ M, M ≤ 196 ∧ topRun treeTable pw w 11 annT M (S15 w os) (restOf [st 14, st 15, st 16, st 17, st 18, st 19] envT cE ⟨64, 0, 65, 104⟩ [topFrame qT]) = some (S22 w os) := by
  obtain ⟨M, hM, r⟩ := run15 w os
  exact ⟨37 + M, by omega, piece_cons (piece14 w os) r⟩
theorem run13 (w : World) (os : OsState) : ∃ M, M ≤ 225 ∧ topRun treeTable pw w 11 annT M (S14 w os) (restOf [st 13, st 14, st 15, st 16, st 17, st 18, st 19] envT cE ⟨63, 0, 63, 8⟩ [topFrame qT]) = some (S22 w os) := by
  obtain ⟨M, hM, r⟩ := run14 w os
  exact ⟨29 + M, by omega, piece_cons (piece13 w os) r⟩
theorem run12 (w : World) (os : OsState) : ∃ M, M ≤ 235 ∧ topRun treeTable pw w 11 annT M (S13 w os) (restOf [st 12, st 13, st 14, st 15, st 16, st 17, st 18, st 19] envT cE ⟨58, 0, 62, 23⟩ [topFrame qT]) = some (S22 w os) := by
  obtain ⟨M, hM, r⟩ := run13 w os
  exact ⟨10 + M, by omega, piece_cons (piece12 w os) r⟩
theorem run11 (w : World) (os : OsState) : ∃ M, M ≤ 266 ∧ topRun treeTable pw w 11 annT M (S12 w os) (restOf [st 11, st 12, st 13, st 14, st 15, st 16, st 17, st 18, st 19] envT cE ⟨57, 0, 57, 13⟩ [topFrame qT]) = some (S22 w os) := by
  obtain ⟨M, hM, r⟩ := run12 w os
  exact ⟨31 + M, by omega, piece_cons (piece11 w os) r⟩
theorem run10 (w : World) (os : OsState) : ∃ M, M ≤ 16275 ∧ topRun treeTable pw w 11 annT M (S11 w os) (restOf [st 10, st 11, st 12, st 13, st 14, st 15, st 16, st 17, st 18, st 19] envT cE ⟨55, 0, 56, 30⟩ [topFrame qT]) = some (S22 w os) := by
  obtain ⟨M, hM, r⟩ := run11 w os
  obtain ⟨n, hn, h⟩ := piece10 w os
  exact ⟨n + 1 + M, by omega, piece_cons h r⟩
theorem run9 (w : World) (os : OsState) : ∃ M, M ≤ 16305 ∧ topRun treeTable pw w 11 annT M (S10 w os) (restOf [st 9, st 10, st 11, st 12, st 13, st 14, st 15, st 16, st 17, st 18, st 19] envT cE ⟨54, 0, 54, 6⟩ [topFrame qT]) = some (S22 w os) := by
  obtain ⟨M, hM, r⟩ := run10 w os
  exact ⟨30 + M, by omega, piece_cons (piece9 w os) r⟩
theorem run8 (w : World) (os : OsState) : ∃ M, M ≤ 17304 ∧ topRun treeTable pw w 11 annT M (S9 w os) (restOf [st 8, st 9, st 10, st 11, st 12, st 13, st 14, st 15, st 16, st 17, st 18, st 19] envT cE ⟨53, 0, 53, 8⟩ [topFrame qT]) = some (S22 w os) := by
  obtain ⟨M, hM, r⟩ := run9 w os
  exact ⟨999 + M, by omega, piece_cons (piece8 w os) r⟩
theorem run7 (w : World) (os : OsState) : ∃ M, M ≤ 17314 ∧ topRun treeTable pw w 11 annT M (S8 w os) (restOf [st 7, st 8, st 9, st 10, st 11, st 12, st 13, st 14, st 15, st 16, st 17, st 18, st 19] envT cE ⟨25, 0, 52, 15⟩ [topFrame qT]) = some (S22 w os) := by
  obtain ⟨M, hM, r⟩ := run8 w os
  exact ⟨10 + M, by omega, piece_cons (piece7 w os) r⟩
theorem run6 (w : World) (os : OsState) : ∃ M, M ≤ 17349 ∧ topRun treeTable pw w 11 annT M (S7 w os) (restOf [st 6, st 7, st 8, st 9, st 10, st 11, st 12, st 13, st 14, st 15, st 16, st 17, st 18, st 19] envT cE ⟨24, 0, 24, 15⟩ [topFrame qT]) = some (S22 w os) := by
  obtain ⟨M, hM, r⟩ := run7 w os
  exact ⟨35 + M, by omega, piece_cons (piece6 w os) r⟩
theorem run5 (w : World) (os : OsState) : ∃ M, M ≤ 17359 ∧ topRun treeTable pw w 11 annT M (S6 w os) (restOf [st 5, st 6, st 7, st 8, st 9, st 10, st 11, st 12, st 13, st 14, st 15, st 16, st 17, st 18, st 19] envT cE ⟨23, 0, 23, 8⟩ [topFrame qT]) = some (S22 w os) := by
  obtain ⟨M, hM, r⟩ := run6 w os
  exact ⟨10 + M, by omega, piece_cons (piece5 w os) r⟩
theorem run4 (w : World) (os : OsState) : ∃ M, M ≤ 17369 ∧ topRun treeTable pw w 11 annT M (S5 w os) (restOf [st 4, st 5, st 6, st 7, st 8, st 9, st 10, st 11, st 12, st 13, st 14, st 15, st 16, st 17, st 18, st 19] envT cE ⟨6, 0, 22, 18⟩ [topFrame qT]) = some (S22 w os) := by
  obtain ⟨M, hM, r⟩ := run5 w os
  exact ⟨10 + M, by omega, piece_cons (piece4 w os) r⟩
theorem run3 (w : World) (os : OsState) : ∃ M, M ≤ 17403 ∧ topRun treeTable pw w 11 annT M (S4 w os) (restOf [st 3, st 4, st 5, st 6, st 7, st 8, st 9, st 10, st 11, st 12, st 13, st 14, st 15, st 16, st 17, st 18, st 19] envT cE ⟨4, 0, 5, 8⟩ [topFrame qT]) = some (S22 w os) := by
  obtain ⟨M, hM, r⟩ := run4 w os
  exact ⟨34 + M, by omega, piece_cons (piece3 w os) r⟩
theorem run2 (w : World) (os : OsState) : ∃ M, M ≤ 17617 ∧ topRun treeTable pw w 11 annT M (S3 w os) (restOf [st 2, st 3, st 4, st 5, st 6, st 7, st 8, st 9, st 10, st 11, st 12, st 13, st 14, st 15, st 16, st 17, st 18, st 19] envT cE ⟨2, 0, 3, 8⟩ [topFrame qT]) = some (S22 w os) := by
  obtain ⟨M, hM, r⟩ := run3 w os
  exact ⟨214 + M, by omega, piece_cons (piece2 w os) r⟩
theorem run1 (w : World) (os : OsState) : ∃ M, M ≤ 17814 ∧ topRun treeTable pw w 11 annT M (S2 w os) (restOf [st 1, st 2, st 3, st 4, st 5, st 6, st 7, st 8, st 9, st 10, st 11, st 12, st 13, st 14, st 15, st 16, st 17, st 18, st 19] envT cE ⟨1, 0, 1, 8⟩ [topFrame qT]) = some (S22 w os) := by
  obtain ⟨M, hM, r⟩ := run2 w os
  exact ⟨197 + M, by omega, piece_cons (piece1 w os) r⟩
theorem run0 (w : World) (os : OsState) : ∃ M, M ≤ 17824 ∧ topRun treeTable pw w 11 annT M (S1 w os) (restOf [st 0, st 1, st 2, st 3, st 4, st 5, st 6, st 7, st 8, st 9, st 10, st 11, st 12, st 13, st 14, st 15, st 16, st 17, st 18, st 19] envT cE ⟨0, 0, 0, 0⟩ [topFrame qT]) = some (S22 w os) := by
  obtain ⟨M, hM, r⟩ := run1 w os
  exact ⟨10 + M, by omega, piece_cons (piece0 w os) r⟩
theorem bodyL : behindTheImports pw = [st 0, st 1, st 2, st 3, st 4, st 5, st 6, st 7, st 8, st 9, st 10, st 11, st 12, st 13, st 14, st 15, st 16, st 17, st 18, st 19] := by kernel_rfl
theorem run (w : World) (os : OsState) : ∃ M, M ≤ 17837 ∧ topRun treeTable pw w 11 annT M (SB w os) (topStub pw) = some (S22 w os) := by
  obtain ⟨M, hM, r⟩ := run0 w os
  rw [← bodyL] at r
  exact ⟨12 + (1 + M), by omega, go_top (pre w os) (piece_block (block w os) r)⟩
end Mine
end
-- part HeadC2
set_option maxRecDepth 100000
noncomputable section
namespace Mine
open PySem PySem.W PySem.Calls PyProof.Rows
abbrev rwL : OpenLaw := PySem.Challenge.rw_ux0025_02
abbrev qV : Program := { pw with main := { pw.main with body := [st 19] } }
abbrev looseV : List Str := (["__name__", "Error", "error_reply", "parse257", "ELLIPSIS_MARKER", "_ellipsis_match", "b1_set", "in_table_b1", "b3_exceptions", "map_table_b3", "_law_hidden", "_law_typed", "_law_row", "_law_heard", "_law_takings", "_law_told"] : List Str)
abbrev KF (P : Params) : Frag := [(3, o3_21 P), (61, o61_10 P), (72, o72_12 P), (46, o46_5 P), (53, o53_8 P), (71, o71_11 P), (117, o117_13 P), (124, o124_15 P), (131, o131_16 P), (138, o138_17 P), (143, o143_18 P), (150, o150_19 P), (157, o157_20 P), (162, o162_21 P), (45, o45_5 P), (52, o52_8 P), (70, o70_11 P), (116, o116_13 P), (123, o123_15 P), (130, o130_16 P), (137, o137_17 P), (142, o142_18 P), (149, o149_19 P), (156, o156_20 P), (161, o161_21 P), (24, o24_4 P), (37, o37_4 P), (23, o23_3 P), (36, o36_4 P)]
abbrev asF : List Addr := [3, 61, 72, 46, 53, 71, 117, 124, 131, 138, 143, 150, 157, 162, 45, 52, 70, 116, 123, 130, 137, 142, 149, 156, 161, 24, 37, 23, 36]
abbrev hkF : Hook := kHook KF asF (fun _ => rfl)
abbrev XtF : Shared → Bool := fun s => xlAt qV [] s && recOk (RowW.records rwL.row.toRowW) s
theorem looks1 (w : World) (os : OsState) : (staticsOk (importedModules pw.main.body) (boot_heap w.params) (H22 w.params) && namesBound pw (H22 w.params) && gensDone (S22 w os) && laidKept (boot_heap w.params) (H22 w.params)) = true := by kernel_rfl
theorem looks3 (w : World) (os : OsState) : hkF.obs (S22 w os) = hkF.val w := by kernel_rfl
theorem looks2 (w : World) (os : OsState) : openSeen qV looseV (importedModules pw.main.body) XtF true (S22 w os) = openGood qV looseV := by kernel_rfl
end Mine
end
-- part HeadD2
set_option maxRecDepth 100000
noncomputable section
namespace Mine
open PySem PySem.W PySem.Calls PyProof.Rows
theorem sizeT (w : World) : ((boot_heap w.params).isNs mainGlobals && (Array.mk ([] : List GenState)).size == 0, (boot_heap w.params).objs.size, (boot_heap w.params).nsMap mainGlobals "__annotations__") = (true, 11, annT) := by kernel_rfl
theorem openT : ∀ w : World, (fencedOpening treeTable pw w 40000).map (fun s => (s.heap, s.gens, s.drawn, s.toks)) = some (boot_heap w.params, Array.mk [], boot_drawn, boot_toks) :=
  boot_open (by kernel_rfl) (by decide +kernel) (fun s => by kernel_rfl)
theorem runT (w : World) (os : OsState) : topRun treeTable pw w 11 annT 20000 ⟨boot_heap w.params, Array.mk [], boot_drawn, boot_toks, os⟩ (topStub pw) = some ⟨H22 w.params, #[], {}, 2348, os⟩ := by
  obtain ⟨M, hM, r⟩ := run w os
  have := topRun_mono (20000 - M) _ _ _ _ r
  rw [show M + (20000 - M) = 20000 by omega] at this
  exact this
theorem left : LeftO pw qV looseV XtF (Hook.obs hkF) (Hook.val hkF) 40000 :=
  LeftO.of_pieces (H₀ := boot_heap) (H₁ := H22) (gs₀ := Array.mk []) (gs₁ := #[]) (d₀ := boot_drawn) (d₁ := {}) (k₀ := boot_toks) (k₁ := 2348) (m₀ := 11) (ann := annT) (M := 20000)
    openT sizeT runT (by decide +kernel) (fun w => funext fun os => Prod.ext (looks1 w os) (Prod.ext (looks2 w os) (looks3 w os)))
theorem head (hc : ∀ d kwd, defOf qV rwL.row.name = some (d, kwd) → WalkO qV looseV (XL qV []) (Hook.says hkF) rwL.row.toRowW d kwd fun f vs => PySem.call f vs) : rwL.Holds := by
  w_on
  refine holds_law (by decide +kernel) fun said => ?_
  refine holds_open (q := qV) (loose := looseV) (Xt := XtF) (XP := XL qV []) (Yf := Hook.obs hkF) (Ya := hkF.val) (YP := hkF.says) (N := 40000) left (Hook.of hkF) (Hook.keeps hkF) (fun s e => xl_of s (Bool.and_eq_true_iff.mp e).1) XL.keeps (by rfl) (by rfl) (by rfl) (fun s e => recFacts_of (Bool.and_eq_true_iff.mp e).2) (by rfl) (by assumption) (by decide +kernel) ⟨rfl, rfl, rfl, rfl, rfl, by decide +kernel⟩ ?hw ?hc
  case hw => w_witness2
  case hc => exact hc _ _ rfl
end Mine
end
-- part Core
set_option maxRecDepth 100000
namespace Mine
open PySem PySem.W PySem.Calls PyProof.Rows

/-! ## values -/
inductive V where
  | none | bool (b : Bool) | int (i : Int) | str (l : List Nat) | list (xs : List V) | tup (xs : List V) | rng (a b : Int)
  deriving Inhabited
noncomputable abbrev mkS (l : List Nat) : Str := ⟨l.toArray⟩
noncomputable abbrev GP := Addr → Option Obj
noncomputable def IsL (g : GP) (ty : String) (a : Addr) (vs : List Value) : Prop := ∃ o, g a = some o ∧ o.cls = .type ty ∧ ∃ n, o.data = .seq vs.toArray n
noncomputable def IsRg (g : GP) (r : Addr) (a b : Int) : Prop := ∃ t u v, g r = some { cls := .type "range", data := .fields #[.int a t, .int b u, .int 1 v] }
mutual
noncomputable def RV (g : GP) : V → Value → Prop
  | .none, v => v = .none
  | .bool b, v => v = .bool b
  | .int i, v => ∃ t, v = .int i t
  | .str l, v => ∃ t, v = .str (mkS l) t
  | .list xs, v => ∃ a vs, v = .ref a ∧ IsL g "list" a vs ∧ RVs g xs vs
  | .tup xs, v => ∃ a vs, v = .ref a ∧ IsL g "tuple" a vs ∧ RVs g xs vs
  | .rng a b, v => ∃ r, v = .ref r ∧ IsRg g r a b
noncomputable def RVs (g : GP) : List V → List Value → Prop
  | [], vs => vs = []
  | x :: xs, vs => ∃ v r, vs = v :: r ∧ RV g x v ∧ RVs g xs r
end
noncomputable def GExt (g g' : GP) : Prop := ∀ b o, g b = some o → g' b = some o
theorem GExt.refl (g : GP) : GExt g g := fun _ _ e => e
theorem GExt.trans {g g' g'' : GP} (x : GExt g g') (y : GExt g' g'') : GExt g g'' := fun b o e => y b o (x b o e)
theorem IsL.mono {g g' : GP} {ty : String} {a : Addr} {vs : List Value} (x : IsL g ty a vs) (k : GExt g g') : IsL g' ty a vs := let ⟨o, h, r⟩ := x; ⟨o, k _ _ h, r⟩
theorem IsRg.mono {g g' : GP} {r : Addr} {a b : Int} (x : IsRg g r a b) (k : GExt g g') : IsRg g' r a b := let ⟨t, u, v, h⟩ := x; ⟨t, u, v, k _ _ h⟩
mutual
theorem RV.mono {g g' : GP} (k : GExt g g') : ∀ {a : V} {v : Value}, RV g a v → RV g' a v
  | .none, _, h => h
  | .bool _, _, h => h
  | .int _, _, h => h
  | .str _, _, h => h
  | .list _, _, ⟨a, vs, e, i, r⟩ => ⟨a, vs, e, i.mono k, RVs.mono k r⟩
  | .tup _, _, ⟨a, vs, e, i, r⟩ => ⟨a, vs, e, i.mono k, RVs.mono k r⟩
  | .rng _ _, _, ⟨r, e, i⟩ => ⟨r, e, i.mono k⟩
theorem RVs.mono {g g' : GP} (k : GExt g g') : ∀ {xs : List V} {vs : List Value}, RVs g xs vs → RVs g' xs vs
  | [], _, h => h
  | _ :: _, _, ⟨v, r, e, h, hs⟩ => ⟨v, r, e, RV.mono k h, RVs.mono k hs⟩
end
theorem RVs.length {g : GP} : ∀ {xs : List V} {vs : List Value}, RVs g xs vs → vs.length = xs.length
  | [], _, h => by rw [show _ = [] from h]; rfl
  | _ :: xs, _, ⟨v, r, e, _, hs⟩ => by rw [e, List.length_cons, RVs.length hs]; rfl
theorem RVs.append {g : GP} : ∀ {xs ys : List V} {vs ws : List Value}, RVs g xs vs → RVs g ys ws → RVs g (xs ++ ys) (vs ++ ws)
  | [], _, _, _, h, k => by rw [show _ = [] from h]; exact k
  | _ :: _, _, _, _, ⟨v, r, e, h, hs⟩, k => by rw [e]; exact ⟨v, _, rfl, h, hs.append k⟩
theorem RVs.get {g : GP} : ∀ {xs : List V} {vs : List Value}, RVs g xs vs → ∀ {i : Nat} {x : V}, xs[i]? = some x → ∃ v, vs[i]? = some v ∧ RV g x v
  | [], _, _, _, _, e => by cases e
  | _ :: _, _, ⟨v, r, e, h, hs⟩, 0, _, e' => by subst e; cases e'; exact ⟨v, rfl, h⟩
  | _ :: _, _, ⟨v, r, e, h, hs⟩, i + 1, _, e' => by subst e; exact RVs.get hs e'
theorem RVs.erase {g : GP} : ∀ {xs : List V} {vs : List Value} (i : Nat), RVs g xs vs → RVs g (xs.eraseIdx i) (vs.eraseIdx i)
  | [], _, i, h => by rw [show _ = [] from h]; rfl
  | _ :: _, _, 0, ⟨v, r, e, h, hs⟩ => by subst e; exact hs
  | _ :: _, _, i + 1, ⟨v, r, e, h, hs⟩ => by subst e; exact ⟨v, _, rfl, h, hs.erase i⟩

noncomputable def Grow (h h' : Heap) : Prop := ∀ b o, h.get? b = some o → h'.get? b = some o
theorem Grow.refl (h : Heap) : Grow h h := fun _ _ e => e
theorem Grow.trans {h h' h'' : Heap} (x : Grow h h') (y : Grow h' h'') : Grow h h'' := fun b o e => y b o (x b o e)
theorem Grow.push {h h' : Heap} (x : Grow h h') (o : Obj) : Grow h (h'.push o) := fun b o' e => Heap.get?_push_of_some _ (x b o' e)
/-! ## states -/
inductive Slot where
  | unset | val (a : V) | own (xs : List V)
  deriving Inhabited
structure Cx where
  env : Env
  ns : List Str
  base : Heap
  mu : Bool
  n : Nat
noncomputable abbrev SL := List Slot
noncomputable def Mut (C : Cx) (σ : SL) (ad : Nat → Addr) (b : Addr) : Prop :=
  b = C.env.locals ∨ (C.mu = true ∧ ∃ (i : Nat) (x : Str), C.ns[i]? = some x ∧ C.env.kindOf x ≠ some .local ∧ C.env.cells.lookup x = some b) ∨ ∃ i xs, σ[i]? = some (.own xs) ∧ ad i = b
noncomputable def okShape (o : Obj) : Prop := (∃ it n, o.data = .seq it n) ∨ (o.cls = .type "range" ∧ ∃ vs, o.data = .fields vs)
noncomputable def SlotOk (g : GP) (h : Heap) (a : Addr) : Slot → Option Value → Prop
  | .unset, ov => ov = none
  | .val x, ov => ∃ v, ov = some v ∧ RV g x v
  | .own xs, ov => ov = some (.ref a) ∧ ∃ vs n, h.get? a = some ⟨.type "list", none, .seq vs.toArray n, #[]⟩ ∧ RVs g xs vs
noncomputable def AtVar (C : Cx) (h : Heap) (m : Str → Option Value) (x : Str) (ov : Option Value) : Prop :=
  (C.env.kindOf x = some .local ∧ m x = ov) ∨ ((C.env.kindOf x = some .cell ∨ C.env.kindOf x = some .free) ∧ (x == ("__classdict__" : Str)) = false ∧ ∃ c, C.env.cells.lookup x = some c ∧ h.IsCell c ov)
structure St (C : Cx) (σ : SL) (ad : Nat → Addr) (g : GP) (h : Heap) : Prop where
  gsub : ∀ a o, g a = some o → h.get? a = some o ∧ okShape o
  hbase : Grow C.base h
  mutNew : ∀ b, Mut C σ ad b → C.base.get? b = none ∧ g b = none ∧ ∃ o, h.get? b = some o
  vars : ∃ m, h.Ns C.env.locals m ∧ ∀ i x sl, C.ns[i]? = some x → σ[i]? = some sl → ∃ ov, AtVar C h m x ov ∧ SlotOk g h (ad i) sl ov
  len : σ.length = C.ns.length
  inj : ∀ i j xs ys, σ[i]? = some (.own xs) → σ[j]? = some (.own ys) → ad i = ad j → i = j
  cells : ∀ x y c, C.env.cells.lookup x = some c → C.env.cells.lookup y = some c → x = y
structure CxOk (C : Cx) : Prop where
  kind : C.env.scope.kind = .function
  glob : C.env.globals = mainGlobals
  blt : C.env.builtins = builtinsNs
  nodup : C.ns.Nodup
noncomputable def Keep (C : Cx) (σ : SL) (ad : Nat → Addr) (h : Heap) (σ' : SL) (ad' : Nat → Addr) (h' : Heap) : Prop :=
  ∀ b o, h.get? b = some o → ¬ Mut C σ ad b → h'.get? b = some o ∧ ¬ Mut C σ' ad' b
structure Post (C : Cx) (σ : SL) (ad : Nat → Addr) (g : GP) (h : Heap) (σ' : SL) (ad' : Nat → Addr) (g' : GP) (h' : Heap) : Prop where
  st : St C σ' ad' g' h'
  keep : Keep C σ ad h σ' ad' h'
  gext : GExt g g'
  gnew : ∀ a o, g' a = some o → g a = some o ∨ h.get? a = none ∨ Mut C σ ad a
section
variable {C : Cx} {σ σ' σ'' : SL} {ad ad' ad'' : Nat → Addr} {g g' g'' : GP} {h h' h'' : Heap}
theorem Post.refl (S : St C σ ad g h) : Post C σ ad g h σ ad g h := ⟨S, fun _ _ e n => ⟨e, n⟩, .refl g, fun _ _ e => .inl e⟩
theorem Post.trans (x : Post C σ ad g h σ' ad' g' h') (y : Post C σ' ad' g' h' σ'' ad'' g'' h'') : Post C σ ad g h σ'' ad'' g'' h'' where
  st := y.st
  keep := fun b o e n => let ⟨e', n'⟩ := x.keep b o e n; y.keep b o e' n'
  gext := x.gext.trans y.gext
  gnew := fun a o e => by
    rcases y.gnew a o e with e | e | e
    · exact x.gnew a o e
    · by_cases hm : Mut C σ ad a
      · exact .inr (.inr hm)
      · refine .inr (.inl ?_)
        cases q : h.get? a with
        | none => rfl
        | some o' => rw [(x.keep a o' q hm).1] at e; cases e
    · by_cases hm : Mut C σ ad a
      · exact .inr (.inr hm)
      · refine .inr (.inl ?_)
        cases q : h.get? a with
        | none => rfl
        | some o' => exact absurd e (x.keep a o' q hm).2
/-- an expression leaves the own lists in their places -/
structure PostE (C : Cx) (σ : SL) (ad : Nat → Addr) (g : GP) (h : Heap) (σ' : SL) (ad' : Nat → Addr) (g' : GP) (h' : Heap) : Prop extends Post C σ ad g h σ' ad' g' h' where
  same : ad' = ad
theorem PostE.refl (S : St C σ ad g h) : PostE C σ ad g h σ ad g h := ⟨.refl S, rfl⟩
theorem PostE.trans (x : PostE C σ ad g h σ' ad' g' h') (y : PostE C σ' ad' g' h' σ'' ad'' g'' h'') : PostE C σ ad g h σ'' ad'' g'' h'' := ⟨x.toPost.trans y.toPost, y.same.trans x.same⟩
theorem SlotOk.mono {a : Addr} {sl : Slot} {ov : Option Value} (x : SlotOk g h a sl ov) (k : GExt g g') (e : ∀ o, h.get? a = some o → (∃ xs, sl = .own xs) → h'.get? a = some o) : SlotOk g' h' a sl ov := by
  cases sl with
  | unset => exact x
  | val y => obtain ⟨v, e, r⟩ := x; exact ⟨v, e, r.mono k⟩
  | own xs => obtain ⟨e1, vs, n, e2, r⟩ := x; exact ⟨e1, vs, n, e _ e2 ⟨xs, rfl⟩, r.mono k⟩
theorem AtVar.mono {m : Str → Option Value} {x : Str} {ov : Option Value} (y : AtVar C h m x ov) (k : Grow h h') : AtVar C h' m x ov :=
  y.imp id fun ⟨a, b, c, d, e⟩ => ⟨a, b, c, d, e.keeps k⟩
/-- everything stays, new frozen objects -/
theorem St.grow (S : St C σ ad g h) (k : Grow h h') (gx : GExt g g') (gs : ∀ a o, g' a = some o → h'.get? a = some o ∧ okShape o) (gn : ∀ a o, g' a = some o → g a = some o ∨ h.get? a = none) :
    PostE C σ ad g h σ ad g' h' where
  same := rfl
  st := {
    gsub := gs
    hbase := S.hbase.trans k
    mutNew := fun b hb => by
      obtain ⟨h1, h2, o, h3⟩ := S.mutNew b hb
      refine ⟨h1, ?_, o, k _ _ h3⟩
      cases q : g' b with
      | none => rfl
      | some o' =>
        rcases gn b o' q with e | e
        · rw [h2] at e; cases e
        · rw [h3] at e; cases e
    vars := by
      obtain ⟨m, hn, hv⟩ := S.vars
      refine ⟨m, hn.keeps k, fun i x sl h1 h2 => ?_⟩
      obtain ⟨ov, a1, a2⟩ := hv i x sl h1 h2
      exact ⟨ov, a1.mono k, a2.mono gx fun o e _ => k _ _ e⟩
    len := S.len
    inj := S.inj
    cells := S.cells }
  keep := fun b o e n => ⟨k b o e, n⟩
  gext := gx
  gnew := fun a o e => (gn a o e).imp id .inl
theorem St.grow0 (S : St C σ ad g h) (k : Grow h h') : PostE C σ ad g h σ ad g h' := S.grow k (.refl g) (fun a o e => ⟨k _ _ (S.gsub a o e).1, (S.gsub a o e).2⟩) fun _ _ e => .inl e
/-- one new frozen object -/
noncomputable def gput (g : GP) (a : Addr) (o : Obj) : GP := fun b => if b = a then some o else g b
theorem gput_ext {a : Addr} {o : Obj} (hn : g a = none) : GExt g (gput g a o) := fun b o' e => by
  unfold gput
  by_cases q : b = a
  · subst q; rw [hn] at e; cases e
  · rw [if_neg q]; exact e
theorem St.put (S : St C σ ad g h) (k : Grow h h') {a : Addr} {o : Obj} (hn : h.get? a = none) (ha : h'.get? a = some o) (ho : okShape o) : PostE C σ ad g h σ ad (gput g a o) h' := by
  have hg : g a = none := by
    cases q : g a with
    | none => rfl
    | some o' => rw [(S.gsub a o' q).1] at hn; cases hn
  refine S.grow k (gput_ext hg) (fun b o' e => ?_) fun b o' e => ?_
  · unfold gput at e
    by_cases q : b = a
    · subst q; rw [if_pos rfl] at e; cases e; exact ⟨ha, ho⟩
    · rw [if_neg q] at e; exact ⟨k _ _ (S.gsub b o' e).1, (S.gsub b o' e).2⟩
  · unfold gput at e
    by_cases q : b = a
    · subst q; exact .inr hn
    · rw [if_neg q] at e; exact .inl e
theorem gput_self {a : Addr} {o : Obj} : gput g a o a = some o := by unfold gput; rw [if_pos rfl]
end

/-! ## what a call keeps of a walk -/
structure AOk (n : Nat) (A : Around) : Prop where
  handled : A.handled = none
  depth : A.depth + n < 700
  units : A.units + 10 * n < 9000
  frames : ∃ env l, A.frames = some (env :: l) ∧ env.builtins = builtinsNs ∧ env.globals = mainGlobals ∧ env.scope.isGenerator = false ∧ env.scope.isCoroutine = false
/-- the same, of a caller that may have no frame -/
structure AOkF (n : Nat) (A : Around) : Prop where
  handled : A.handled = none
  depth : A.depth + n < 700
  units : A.units + 10 * n < 9000
  frames : ∃ l, A.frames = some l
theorem AOk.toF {n : Nat} {A : Around} (x : AOk n A) : AOkF n A := ⟨x.handled, x.depth, x.units, let ⟨env, l, e, _⟩ := x.frames; ⟨_, e⟩⟩
theorem AOk.mono {n m : Nat} {A : Around} (x : AOk n A) (k : m ≤ n) : AOk m A := ⟨x.handled, by have := x.depth; omega, by have := x.units; omega, x.frames⟩

section
variable (prog : Program) (w : World)
/-- an expression's triple -/
structure TE (C : Cx) (e : Expr) (d : SL → Option (V × SL)) : Prop where
  go : ∀ (A : Around) (E : Value → Shared → Prop) (Q : Value → Shared → Prop) (s : Shared) (σ σ' : SL) (ad : Nat → Addr) (g : GP) (a : V), AOk C.n A → St C σ ad g s.heap → d σ = some (a, σ') →
    (∀ v h' tk ad' g', PostE C σ ad g s.heap σ' ad' g' h' → RV g' a v → Q v { s with heap := h', toks := tk }) → wpAny (model prog w) A (eval e C.env) Q E s
/-- a test's triple -/
structure TT (C : Cx) (e : Expr) (d : SL → Option (Bool × SL)) : Prop where
  go : ∀ (A : Around) (E : Value → Shared → Prop) (Q : Bool → Shared → Prop) (s : Shared) (σ σ' : SL) (ad : Nat → Addr) (g : GP) (b : Bool), AOk C.n A → St C σ ad g s.heap → d σ = some (b, σ') →
    (∀ h' tk ad' g', PostE C σ ad g s.heap σ' ad' g' h' → Q b { s with heap := h', toks := tk }) → wpAny (model prog w) A (isTrue e C.env (eval e C.env)) Q E s
/-- a function's spec -/
noncomputable def FunSpec (base : Heap) (n : Nat) (fv : Value) (φ : List V → Option V) : Prop :=
  ∀ (A : Around) (E : Value → Shared → Prop) (Q : Value → Shared → Prop) (s : Shared) (g : GP) (vs : List Value) (xs : List V) (r : V), AOkF n A → Grow base s.heap → (∀ a o, g a = some o → s.heap.get? a = some o ∧ okShape o) → RVs g xs vs → φ xs = some r →
    (∀ v h' tk g', Grow s.heap h' → (∀ a o, g' a = some o → h'.get? a = some o ∧ okShape o) → GExt g g' → (∀ a o, g' a = some o → g a = some o ∨ s.heap.get? a = none) → RV g' r v → Q v { s with heap := h', toks := tk }) →
    wpAny (model prog w) A (call fv vs) Q E s
inductive Out where
  | next (σ : SL) | brk (σ : SL) | cont (σ : SL) | ret (a : V) (σ : SL)
noncomputable def Out.flow : Out → SL × (Flow → GP → Prop)
  | .next σ => (σ, fun f _ => f = .next)
  | .brk σ => (σ, fun f _ => f = .brk)
  | .cont σ => (σ, fun f _ => f = .cont)
  | .ret a σ => (σ, fun f g => ∃ v, f = .ret v ∧ RV g a v)
/-- a block's triple -/
structure TS (C : Cx) (b : List Stmt) (d : SL → Option Out) : Prop where
  go : ∀ (A : Around) (E : Value → Shared → Prop) (Q : Flow → Shared → Prop) (s : Shared) (σ : SL) (ad : Nat → Addr) (g : GP) (o : Out), AOk C.n A → St C σ ad g s.heap → d σ = some o →
    (∀ f h' tk ad' g', Post C σ ad g s.heap o.flow.1 ad' g' h' → o.flow.2 f g' → Q f { s with heap := h', toks := tk }) → wpAny (model prog w) A (execs b C.env) Q E s
end
end Mine
-- part Rules1
set_option maxRecDepth 100000
namespace Mine
open PySem PySem.W PySem.Calls PyProof.Rows
noncomputable abbrev GS (g : GP) (h : Heap) : Prop := ∀ a o, g a = some o → h.get? a = some o ∧ okShape o
section
variable {prog : Program} {w : World} {C : Cx} {σ σ' : SL} {ad : Nat → Addr} {g : GP} {h h' : Heap}
/-! ## a step that reads frozen values and makes a value -/
noncomputable def Prm (prog : Program) (w : World) (A : Around) (m : Sem Value) (s : Shared) (g : GP) (r : V) : Prop := ∀ (E : Value → Shared → Prop) (Q : Value → Shared → Prop),
  (∀ v h' tk g', Grow s.heap h' → GS g' h' → GExt g g' → (∀ a o, g' a = some o → g a = some o ∨ s.heap.get? a = none) → RV g' r v → Q v { s with heap := h', toks := tk }) → wpAny (model prog w) A m Q E s
theorem Prm.at {A : Around} {m : Sem Value} {s : Shared} {r : V} {E : Value → Shared → Prop} {Q : Value → Shared → Prop} (x : Prm prog w A m s g r) (S : St C σ ad g s.heap)
    (hq : ∀ v h' tk g', PostE C σ ad g s.heap σ ad g' h' → RV g' r v → Q v { s with heap := h', toks := tk }) : wpAny (model prog w) A m Q E s :=
  x E Q fun v h' tk g' k gs ge gn hv => hq v h' tk g' (S.grow k ge gs gn) hv
/-- no new object -/
theorem Prm.same {A : Around} {m : Sem Value} {s : Shared} {r : V} (hg : GS g s.heap) (x : ∀ (E : Value → Shared → Prop) (Q : Value → Shared → Prop), (∀ v tk, RV g r v → Q v { s with toks := tk }) → wpAny (model prog w) A m Q E s) : Prm prog w A m s g r :=
  fun E Q hq => x E Q fun v tk hv => hq v s.heap tk g (.refl _) hg (.refl g) (fun _ _ e => .inl e) hv
/-- new objects, none of them frozen -/
theorem Prm.grow {A : Around} {m : Sem Value} {s : Shared} {r : V} (hg : GS g s.heap) (x : ∀ (E : Value → Shared → Prop) (Q : Value → Shared → Prop), (∀ v h' tk, Grow s.heap h' → RV g r v → Q v { s with heap := h', toks := tk }) → wpAny (model prog w) A m Q E s) : Prm prog w A m s g r :=
  fun E Q hq => x E Q fun v h' tk k hv => hq v h' tk g k (fun a o e => ⟨k _ _ (hg a o e).1, (hg a o e).2⟩) (.refl g) (fun _ _ e => .inl e) hv
/-- one new frozen object -/
theorem Prm.put {A : Around} {m : Sem Value} {s : Shared} {r : V} (hg : GS g s.heap) (x : ∀ (E : Value → Shared → Prop) (Q : Value → Shared → Prop),
    (∀ v h' tk a o, Grow s.heap h' → s.heap.get? a = none → h'.get? a = some o → okShape o → RV (gput g a o) r v → Q v { s with heap := h', toks := tk }) → wpAny (model prog w) A m Q E s) : Prm prog w A m s g r :=
  fun E Q hq => x E Q fun v h' tk a o k hn ha ho hv => by
    have hga : g a = none := by
      cases q : g a with
      | none => rfl
      | some o' => rw [(hg a o' q).1] at hn; cases hn
    refine hq v h' tk _ k (fun b o' e => ?_) (gput_ext hga) (fun b o' e => ?_) hv
    · unfold gput at e
      by_cases q : b = a
      · subst q; rw [if_pos rfl] at e; cases e; exact ⟨ha, ho⟩
      · rw [if_neg q] at e; exact ⟨k _ _ (hg b o' e).1, (hg b o' e).2⟩
    · unfold gput at e
      by_cases q : b = a
      · subst q; exact .inr hn
      · rw [if_neg q] at e; exact .inl e
theorem St.gs (S : St C σ ad g h) : GS g h := S.gsub

/-! ## names -/
theorem lt_of_get {α : Type} {l : List α} {i : Nat} {x : α} (h : l[i]? = some x) : i < l.length := by
  rcases Nat.lt_or_ge i l.length with q | q
  · exact q
  · rw [List.getElem?_eq_none q] at h; cases h
theorem get_of_lt {α : Type} {l : List α} {i : Nat} (h : i < l.length) : ∃ x, l[i]? = some x := ⟨_, List.getElem?_eq_getElem h⟩
theorem cell_not_seq {h : Heap} {c : Addr} {ov : Option Value} {o : Obj} (x : h.IsCell c ov) (e : h.get? c = some o) : o.data = .cell ov := by
  obtain ⟨o', h1, h2⟩ := x; rw [h1] at e; cases e; exact h2
theorem ns_dict {h : Heap} {a : Addr} {m : Str → Option Value} {o : Obj} (x : h.Ns a m) (e : h.get? a = some o) : ∃ es ep, o.data = .dict es ep := by
  obtain ⟨o', es, ep, h1, h2, _⟩ := x; rw [h1] at e; cases e; exact ⟨es, ep, h2⟩
/-- a mutable place bears a dict, a cell or a list -/
theorem St.mutCase (S : St C σ ad g h) {b : Addr} (hb : Mut C σ ad b) : ∃ o, h.get? b = some o ∧ ((b = C.env.locals ∧ ∃ es ep, o.data = .dict es ep) ∨ (∃ ov, o.data = .cell ov) ∨ ∃ i xs it n, σ[i]? = some (.own xs) ∧ ad i = b ∧ o.data = .seq it n) := by
  obtain ⟨_, _, o, ho⟩ := S.mutNew b hb
  refine ⟨o, ho, ?_⟩
  obtain ⟨m, hn, hv⟩ := S.vars
  rcases hb with rfl | ⟨_, i, x, h1, h2, h3⟩ | ⟨i, xs, hi, rfl⟩
  · exact .inl ⟨rfl, ns_dict hn ho⟩
  · obtain ⟨sl, hsl⟩ := get_of_lt (l := σ) (i := i) (by rw [S.len]; exact lt_of_get h1)
    obtain ⟨ov, a1, _⟩ := hv i x sl h1 hsl
    rcases a1 with ⟨a1, _⟩ | ⟨_, _, c, a2, a3⟩
    · exact absurd a1 h2
    · rw [h3] at a2; cases a2; exact .inr (.inl ⟨ov, cell_not_seq a3 ho⟩)
  · obtain ⟨x, hx⟩ := get_of_lt (l := C.ns) (i := i) (by rw [← S.len]; exact lt_of_get hi)
    obtain ⟨ov, _, _, vs, n, a3, _⟩ := hv i x _ hx hi
    rw [ho] at a3; cases a3
    exact .inr (.inr ⟨i, xs, _, _, hi, rfl, rfl⟩)
theorem St.freeze (S : St C σ ad g h) {i : Nat} {xs : List V} (hi : σ[i]? = some (.own xs)) :
    ∃ o, h.get? (ad i) = some o ∧ Post C σ ad g h (σ.set i (.val (.list xs))) ad (gput g (ad i) o) h ∧ RV (gput g (ad i) o) (.list xs) (.ref (ad i)) := by
  have hlt : i < σ.length := lt_of_get hi
  have hm : Mut C σ ad (ad i) := .inr (.inr ⟨i, xs, hi, rfl⟩)
  obtain ⟨hb, hg, o, ho⟩ := S.mutNew _ hm
  obtain ⟨m, hn, hv⟩ := S.vars
  obtain ⟨x, hx⟩ := get_of_lt (l := C.ns) (i := i) (by rw [← S.len]; exact hlt)
  obtain ⟨ov, a1, a2, vs, n, a3, a4⟩ := hv i x _ hx hi
  rw [ho] at a3
  obtain rfl := Option.some.inj a3
  have gx : GExt g (gput g (ad i) ⟨.type "list", none, .seq vs.toArray n, #[]⟩) := gput_ext hg
  have rv : RV (gput g (ad i) ⟨.type "list", none, .seq vs.toArray n, #[]⟩) (.list xs) (.ref (ad i)) := ⟨ad i, vs, rfl, ⟨_, gput_self, rfl, n, rfl⟩, a4.mono gx⟩
  have mu : ∀ b, Mut C (σ.set i (.val (.list xs))) ad b → Mut C σ ad b ∧ b ≠ ad i := by
    intro b hb'
    rcases hb' with rfl | ⟨h0, j, y, h1, h2, h3⟩ | ⟨j, ys, hj, rfl⟩
    · refine ⟨.inl rfl, fun e => ?_⟩
      obtain ⟨es, ep, h2⟩ := ns_dict (o := ⟨.type "list", none, .seq vs.toArray n, #[]⟩) hn (by rw [e]; exact ho)
      cases h2
    · refine ⟨.inr (.inl ⟨h0, j, y, h1, h2, h3⟩), fun e => ?_⟩
      obtain ⟨sl, hsl⟩ := get_of_lt (l := σ) (i := j) (by rw [S.len]; exact lt_of_get h1)
      obtain ⟨ov', b1, _⟩ := hv j y sl h1 hsl
      rcases b1 with ⟨b1, _⟩ | ⟨_, _, c, b2, b3⟩
      · exact absurd b1 h2
      · rw [h3] at b2; cases b2
        have := cell_not_seq b3 (o := ⟨.type "list", none, .seq vs.toArray n, #[]⟩) (by rw [e]; exact ho)
        cases this
    · rw [List.getElem?_set] at hj
      split at hj
      · first | cases hj | (split at hj <;> cases hj)
      · rename_i hij
        exact ⟨.inr (.inr ⟨j, ys, hj, rfl⟩), fun e => hij (S.inj _ _ _ _ hj hi e).symm⟩
  refine ⟨_, ho, ⟨?_, fun b o e n => ⟨e, fun hb' => n (mu b hb').1⟩, gx, fun a o e => ?_⟩, rv⟩
  · refine ⟨fun a o e => ?_, S.hbase, fun b hb' => ?_, ⟨m, hn, fun j y sl h1 h2 => ?_⟩, by rw [List.length_set]; exact S.len, fun j k ys zs h1 h2 e => ?_, S.cells⟩
    · unfold gput at e
      by_cases q : a = ad i
      · subst q; rw [if_pos rfl] at e; cases e; exact ⟨ho, .inl ⟨_, _, rfl⟩⟩
      · rw [if_neg q] at e; exact S.gsub a o e
    · obtain ⟨k1, k2⟩ := mu b hb'
      obtain ⟨c1, c2, c3⟩ := S.mutNew b k1
      exact ⟨c1, by unfold gput; rw [if_neg k2]; exact c2, c3⟩
    · rw [List.getElem?_set] at h2
      split at h2
      · rename_i hij
        subst hij
        try rw [if_pos hlt] at h2
        cases h2
        rw [hx] at h1; cases h1
        exact ⟨ov, a1, _, a2, rv⟩
      · obtain ⟨ov', b1, b2⟩ := hv j y sl h1 h2
        exact ⟨ov', b1, b2.mono gx fun _ e _ => e⟩
    · rw [List.getElem?_set] at h1 h2
      split at h1
      · first | cases h1 | (split at h1 <;> cases h1)
      · split at h2
        · first | cases h2 | (split at h2 <;> cases h2)
        · exact S.inj j k ys zs h1 h2 e
  · unfold gput at e
    by_cases q : a = ad i
    · subst q; exact .inr (.inr hm)
    · rw [if_neg q] at e; exact .inl e
noncomputable def dLoc (i : Nat) : SL → Option (V × SL) := fun σ => match σ[i]? with
  | some (.val a) => some (a, σ)
  | some (.own xs) => some (.list xs, σ.set i (.val (.list xs)))
  | _ => none
theorem load_at {A : Around} {E : Value → Shared → Prop} {Q : Value → Shared → Prop} {s : Shared} {m : Str → Option Value} {x : Str} {v : Value} (hC : CxOk C) (hn : s.heap.Ns C.env.locals m) (a : AtVar C s.heap m x (some v)) (h : Q v s) :
    wpAny (model prog w) A (loadName C.env x) Q E s := by
  rcases a with ⟨h1, h2⟩ | ⟨h1 | h1, h0, c, h2, h3⟩
  · exact wpAny_loadName_local hC.kind h1 hn h2 h
  · exact wpAny_loadName_cell hC.kind h1 h2 h3 h
  · exact wpAny_loadName_free hC.kind h1 h2 h3 h h0
theorem TE_loc {i : Nat} {x : Str} {pos : Pos} (hC : CxOk C) (hx : C.ns[i]? = some x) (hd : (x == ("__debug__" : Str)) = false) : TE prog w C (.Name x pos) (dLoc i) := .mk fun A E Q s σ σ' ad g a hA S hd' hq => by
  refine wpAny_Name ?_ hd
  obtain ⟨m, hn, hv⟩ := S.vars
  unfold dLoc at hd'
  split at hd'
  · rename_i y hy
    cases hd'
    obtain ⟨ov, a1, v, rfl, rv⟩ := hv i x _ hx hy
    exact load_at hC hn a1 (hq v s.heap s.toks ad g (.refl S) rv)
  · rename_i xs hy
    cases hd'
    obtain ⟨ov, a1, rfl, _⟩ := hv i x _ hx hy
    obtain ⟨o, _, P, rv⟩ := S.freeze hy
    exact load_at hC hn a1 (hq _ s.heap s.toks ad _ ⟨P, rfl⟩ rv)
  · cases hd'
end
end Mine
-- part Rules2
set_option maxRecDepth 100000
namespace Mine
open PySem PySem.W PySem.Calls PyProof.Rows
section
variable {prog : Program} {w : World} {C : Cx} {σ₀ σ σ' : SL} {ad₀ ad : Nat → Addr} {g₀ g : GP} {h₀ h h' : Heap}
theorem nodup_idx {l : List Str} (h : l.Nodup) {i j : Nat} {x : Str} (a : l[i]? = some x) (b : l[j]? = some x) : i = j := by
  exact (List.getElem?_inj (lt_of_get a) h).mp (a.trans b.symm)
/-- the state behind a store, given what the store leaves -/
theorem stored_post (hC : CxOk C) (P : Post C σ₀ ad₀ g₀ h₀ σ ad g h) {i : Nat} {x : Str} (hx : C.ns[i]? = some x) {v : Value} {sl : Slot} {a' : Addr} (hsl : SlotOk g h a' sl (some v))
    (hnew : ∀ xs, sl = .own xs → C.base.get? a' = none ∧ g a' = none ∧ (∀ o, h₀.get? a' = some o → Mut C σ₀ ad₀ a') ∧ ¬ Mut C σ ad a') {p : Addr} (hp : Mut C σ ad p) (hpl : ∀ j xs, σ[j]? = some (.own xs) → ad j ≠ p) (hs : Heap.SameBut p h h')
    (hp' : ∃ o, h'.get? p = some o)
    (hv : ∃ m, h'.Ns C.env.locals m ∧ AtVar C h' m x (some v) ∧ ∀ j y sl', j ≠ i → C.ns[j]? = some y → σ[j]? = some sl' → ∃ ov, AtVar C h' m y ov ∧ SlotOk g h (ad j) sl' ov) :
    Post C σ₀ ad₀ g₀ h₀ (σ.set i sl) (fun j => if j = i then a' else ad j) g h' := by
  have S := P.st
  have hlt : i < σ.length := by rw [S.len]; exact lt_of_get hx
  obtain ⟨pb, pg, po, pe⟩ := S.mutNew p hp
  have mu : ∀ b, Mut C (σ.set i sl) (fun j => if j = i then a' else ad j) b → Mut C σ ad b ∨ (b = a' ∧ ∃ xs, sl = .own xs) := by
    intro b hb
    rcases hb with rfl | hb | ⟨j, ys, hj, e⟩
    · exact .inl (.inl rfl)
    · exact .inl (.inr (.inl hb))
    · rw [List.getElem?_set] at hj
      by_cases q : i = j
      · subst q
        rw [if_pos rfl, if_pos hlt] at hj
        cases hj
        simp only [if_true] at e
        exact .inr ⟨e.symm, ys, rfl⟩
      · rw [if_neg q] at hj
        simp only [if_neg (fun z => q z.symm : ¬ j = i)] at e
        exact .inl (.inr (.inr ⟨j, ys, hj, e⟩))
  have apne : ∀ xs, sl = .own xs → a' ≠ p := fun xs hxs e => (hnew xs hxs).2.2.2 (e ▸ hp)
  have slk : ∀ {a : Addr} {sl' : Slot} {ov : Option Value}, SlotOk g h a sl' ov → (∀ xs, sl' = .own xs → a ≠ p) → SlotOk g h' a sl' ov := fun k hne => k.mono (.refl g) fun o e ⟨xs, hxs⟩ => (hs.2 _ (hne xs hxs)).trans e
  refine ⟨⟨fun a o e => ?_, fun b o e => ?_, fun b hb => ?_, ?_, ?_, ?_, S.cells⟩, fun b o e n => ?_, P.gext, P.gnew⟩
  · have := S.gsub a o e
    refine ⟨(hs.2 a fun q => ?_).trans this.1, this.2⟩
    rw [q, pg] at e; cases e
  · refine (hs.2 b fun q => ?_).trans (S.hbase b o e)
    rw [q, pb] at e; cases e
  · rcases mu b hb with hb | ⟨rfl, xs, hxs⟩
    · obtain ⟨c1, c2, o, c3⟩ := S.mutNew b hb
      refine ⟨c1, c2, ?_⟩
      by_cases q : b = p
      · rw [q]; exact hp'
      · exact ⟨o, (hs.2 b q).trans c3⟩
    · obtain ⟨c1, c2, _, _⟩ := hnew xs hxs
      subst hxs
      obtain ⟨_, vs, n, c3, _⟩ := hsl
      exact ⟨c1, c2, _, (hs.2 b (apne xs rfl)).trans c3⟩
  · obtain ⟨m, hn, hvx, hvo⟩ := hv
    refine ⟨m, hn, fun j y sl' h1 h2 => ?_⟩
    rw [List.getElem?_set] at h2
    by_cases q : i = j
    · subst q
      rw [if_pos rfl, if_pos hlt] at h2
      cases h2
      rw [hx] at h1; cases h1
      simp only [if_true]
      exact ⟨some v, hvx, slk hsl apne⟩
    · rw [if_neg q] at h2
      simp only [if_neg (fun z => q z.symm : ¬ j = i)]
      obtain ⟨ov, a1, a2⟩ := hvo j y sl' (fun z => q z.symm) h1 h2
      exact ⟨ov, a1, slk a2 fun xs hxs => hpl j xs (hxs ▸ h2)⟩
  · rw [List.length_set]; exact S.len
  · intro j k ys zs h1 h2 e
    rw [List.getElem?_set] at h1 h2
    by_cases q : i = j <;> by_cases r : i = k
    · exact q.symm.trans r
    · subst q
      rw [if_pos rfl, if_pos hlt] at h1
      rw [if_neg r] at h2
      cases h1
      simp only [if_true, if_neg (fun z => r z.symm : ¬ k = i)] at e
      exact absurd (.inr (.inr ⟨k, zs, h2, e.symm⟩)) (hnew ys rfl).2.2.2
    · subst r
      rw [if_pos rfl, if_pos hlt] at h2
      rw [if_neg q] at h1
      cases h2
      simp only [if_true, if_neg (fun z => q z.symm : ¬ j = i)] at e
      exact absurd (.inr (.inr ⟨j, ys, h1, e⟩)) (hnew zs rfl).2.2.2
    · rw [if_neg q] at h1
      rw [if_neg r] at h2
      simp only [if_neg (fun z => q z.symm : ¬ j = i), if_neg (fun z => r z.symm : ¬ k = i)] at e
      exact S.inj j k ys zs h1 h2 e
  · obtain ⟨e', n'⟩ := P.keep b o e n
    refine ⟨(hs.2 b fun q => n' (q ▸ hp)).trans e', fun hb => ?_⟩
    rcases mu b hb with hb | ⟨rfl, xs, hxs⟩
    · exact n' hb
    · exact n ((hnew xs hxs).2.2.1 o e)
theorem store_slot {A : Around} {E : Value → Shared → Prop} {Q : Unit → Shared → Prop} {s : Shared} (hC : CxOk C) (P : Post C σ₀ ad₀ g₀ h₀ σ ad g s.heap) {i : Nat} {x : Str} (hx : C.ns[i]? = some x)
    (hk : C.env.kindOf x = some .local ∨ (C.env.kindOf x = some .cell ∧ C.mu = true)) {v : Value} {sl : Slot} {a' : Addr} (hsl : SlotOk g s.heap a' sl (some v))
    (hnew : ∀ xs, sl = .own xs → C.base.get? a' = none ∧ g a' = none ∧ (∀ o, h₀.get? a' = some o → Mut C σ₀ ad₀ a') ∧ ¬ Mut C σ ad a')
    (hq : ∀ h' tk, Post C σ₀ ad₀ g₀ h₀ (σ.set i sl) (fun j => if j = i then a' else ad j) g h' → Q () { s with heap := h', toks := tk }) : wpAny (model prog w) A (storeName C.env x v) Q E s := by
  have S := P.st
  obtain ⟨m, hn, hv⟩ := S.vars
  obtain ⟨sl₀, hsl₀⟩ := get_of_lt (l := σ) (i := i) (by rw [S.len]; exact lt_of_get hx)
  have ownL : ∀ j xs, σ[j]? = some (.own xs) → ad j ≠ C.env.locals := fun j xs hj e => by
    obtain ⟨y, hy⟩ := get_of_lt (l := C.ns) (i := j) (by rw [← S.len]; exact lt_of_get hj)
    obtain ⟨ov, _, _, vs, n, a3, _⟩ := hv j y _ hy hj
    obtain ⟨es, ep, q⟩ := ns_dict hn (e ▸ a3)
    cases q
  rcases hk with hk | ⟨hk, hmu⟩
  · refine wpAny_storeName_local hk hn (fun h' hn' hs => hq h' _ ?_) (by rw [hC.kind]; rfl)
    refine stored_post hC P hx hsl hnew (.inl rfl) ownL hs (by obtain ⟨o, _, _, e, _⟩ := hn'; exact ⟨o, e⟩) ⟨_, hn', .inl ⟨hk, by simp⟩, fun j y sl' hji h1 h2 => ?_⟩
    have hyx : y ≠ x := fun e => hji (nodup_idx hC.nodup (e ▸ h1) hx)
    obtain ⟨ov, a1, a2⟩ := hv j y sl' h1 h2
    refine ⟨ov, ?_, a2⟩
    rcases a1 with ⟨k1, k2⟩ | ⟨k1, k0, c, k2, k3⟩
    · exact .inl ⟨k1, by simp only [if_neg hyx]; exact k2⟩
    · refine .inr ⟨k1, k0, c, k2, ?_⟩
      obtain ⟨o, e1, e2⟩ := k3
      refine ⟨o, (hs.2 c fun q => ?_).trans e1, e2⟩
      obtain ⟨es, ep, q'⟩ := ns_dict hn (q ▸ e1)
      rw [e2] at q'; cases q'
  · obtain ⟨ov₀, a1, _⟩ := hv i x sl₀ hx hsl₀
    rcases a1 with ⟨k1, _⟩ | ⟨k1, k0, c, k2, k3⟩
    · rw [hk] at k1; cases k1
    · refine wpAny_storeName_cell hC.kind hk k2 k3 fun h' hc' hs => hq h' _ ?_
      have hcL : c ≠ C.env.locals := fun q => by
        obtain ⟨o, e1, e2⟩ := k3
        obtain ⟨es, ep, q'⟩ := ns_dict hn (q ▸ e1)
        rw [e2] at q'; cases q'
      refine stored_post hC P hx hsl hnew (p := c) (.inr (.inl ⟨hmu, i, x, hx, (by rw [hk]; intro e; cases e), k2⟩)) (fun j xs hj e => ?_) hs (by obtain ⟨o, e, _⟩ := hc'; exact ⟨o, e⟩)
        ⟨m, hn.sameBut hs (Ne.symm hcL), .inr ⟨.inl hk, k0, c, k2, hc'⟩, fun j y sl' hji h1 h2 => ?_⟩
      · obtain ⟨y, hy⟩ := get_of_lt (l := C.ns) (i := j) (by rw [← S.len]; exact lt_of_get hj)
        obtain ⟨ov, _, _, vs, n, a3, _⟩ := hv j y _ hy hj
        have := cell_not_seq k3 (e ▸ a3)
        cases this
      · have hyx : y ≠ x := fun e => hji (nodup_idx hC.nodup (e ▸ h1) hx)
        obtain ⟨ov, b1, b2⟩ := hv j y sl' h1 h2
        refine ⟨ov, ?_, b2⟩
        rcases b1 with b1 | ⟨b1, b0, c', b3, b4⟩
        · exact .inl b1
        · refine .inr ⟨b1, b0, c', b3, ?_⟩
          obtain ⟨o, e1, e2⟩ := b4
          exact ⟨o, (hs.2 c' fun q => hyx (S.cells y x c (q ▸ b3) k2)).trans e1, e2⟩
/-- a frozen value -/
theorem store_val {A : Around} {E : Value → Shared → Prop} {Q : Unit → Shared → Prop} {s : Shared} (hC : CxOk C) (P : Post C σ₀ ad₀ g₀ h₀ σ ad g s.heap) {i : Nat} {x : Str} (hx : C.ns[i]? = some x)
    (hk : C.env.kindOf x = some .local ∨ (C.env.kindOf x = some .cell ∧ C.mu = true)) {v : Value} {a : V} (hv : RV g a v)
    (hq : ∀ h' tk ad', Post C σ₀ ad₀ g₀ h₀ (σ.set i (.val a)) ad' g h' → Q () { s with heap := h', toks := tk }) : wpAny (model prog w) A (storeName C.env x v) Q E s :=
  store_slot hC P hx hk (sl := .val a) (a' := ad i) ⟨v, rfl, hv⟩ (fun xs e => by cases e) fun h' tk P' => hq h' tk _ P'
end
end Mine
-- part Rules3
set_option maxRecDepth 100000
namespace Mine
open PySem PySem.W PySem.Calls PyProof.Rows
section
variable {prog : Program} {w : World} {A : Around} {s : Shared} {g : GP}
/-! ## operators -/
noncomputable def repV (x : List Nat) (n : Nat) : List Nat := (List.replicate n x).flatten
/-! one value of a kind -/
noncomputable def onI {α : Type} (f : Int → Option α) : V → Option α
  | .int i => f i
  | _ => none
noncomputable def onS {α : Type} (f : List Nat → Option α) : V → Option α
  | .str i => f i
  | _ => none
noncomputable def onB {α : Type} (f : Bool → Option α) : V → Option α
  | .bool i => f i
  | _ => none
noncomputable def onL {α : Type} (f : List V → Option α) : V → Option α
  | .list i => f i
  | _ => none
noncomputable def onN {α : Type} (f : Option α) : V → Option α
  | .none => f
  | _ => none
theorem onI_some {α : Type} {f : Int → Option α} {v : V} {r : α} (h : onI f v = some r) : ∃ i, v = .int i ∧ f i = some r := by
  cases v <;> first | exact ⟨_, rfl, h⟩ | cases h
theorem onS_some {α : Type} {f : List Nat → Option α} {v : V} {r : α} (h : onS f v = some r) : ∃ i, v = .str i ∧ f i = some r := by
  cases v <;> first | exact ⟨_, rfl, h⟩ | cases h
theorem onB_some {α : Type} {f : Bool → Option α} {v : V} {r : α} (h : onB f v = some r) : ∃ i, v = .bool i ∧ f i = some r := by
  cases v <;> first | exact ⟨_, rfl, h⟩ | cases h
theorem onL_some {α : Type} {f : List V → Option α} {v : V} {r : α} (h : onL f v = some r) : ∃ i, v = .list i ∧ f i = some r := by
  cases v <;> first | exact ⟨_, rfl, h⟩ | cases h
theorem onN_some {α : Type} {f : Option α} {v : V} {r : α} (h : onN f v = some r) : v = .none ∧ f = some r := by
  cases v <;> first | exact ⟨rfl, h⟩ | cases h
noncomputable def addV : V → V → Option V
  | .int a => onI fun b => some (.int (a + b))
  | .str x => onS fun y => if x.length + y.length ≤ 1000000 then some (.str (x ++ y)) else none
  | .list xs => onL fun ys => if xs.length + ys.length ≤ 1000000 then some (.list (xs ++ ys)) else none
  | _ => fun _ => none
noncomputable def subV : V → V → Option V := fun x y => onI (fun a => onI (fun b => some (.int (a - b))) y) x
noncomputable def mulV : V → V → Option V
  | .int a => onI fun b => if -(2 ^ 60) < b ∧ b < 2 ^ 60 then some (.int (a * b)) else none
  | .str x => onI fun n => if -1000 ≤ n ∧ n ≤ 1000 ∧ x.length ≤ 1000 then some (.str (repV x n.toNat)) else none
  | _ => fun _ => none
noncomputable def fdivV : V → V → Option V := fun x y => onI (fun a => onI (fun b => if b = 0 then none else some (.int (a.fdiv b))) y) x
noncomputable def modV : V → V → Option V := fun x y => onI (fun a => onI (fun b => if b = 0 then none else some (.int (a.fmod b))) y) x
noncomputable def powV : V → V → Option V := fun x y => onI (fun a => onI (fun n => if -100 < a ∧ a < 100 ∧ 0 ≤ n ∧ n < 1000 then some (.int (a ^ n.toNat)) else none) y) x
noncomputable def xorV : V → V → Option V := fun x y => onI (fun a => onI (fun b => some (.int (Builtin.bitXor a b))) y) x
noncomputable def binV : Operator → V → V → Option V
  | .Add => addV | .Sub => subV | .Mult => mulV | .FloorDiv => fdivV | .Mod => modV | .Pow => powV | .BitXor => xorV
  | _ => fun _ _ => none
theorem mkS_append (x y : List Nat) : mkS x ++ mkS y = mkS (x ++ y) := by
  apply Str.ext'
  simp [mkS, Str.cps_append]
theorem mkS_len (x : List Nat) : (mkS x).length = x.length := by
  show x.toArray.size = _
  simp
theorem foldl_app (x : List Nat) : ∀ (n : Nat) (acc : Array Nat), ((List.replicate n x.toArray).foldl (· ++ ·) acc).toList = acc.toList ++ repV x n
  | 0, acc => by simp [repV]
  | n + 1, acc => by
    rw [List.replicate_succ, List.foldl_cons, foldl_app x n]
    simp [repV, List.replicate_succ]
theorem mul_is (x : List Nat) (n : Nat) : Txt.mul (mkS x) (n : Int) = mkS (repV x n) := by
  unfold Txt.mul
  by_cases h0 : (n : Int) < 1
  · rw [if_pos h0]
    obtain rfl : n = 0 := by omega
    rfl
  · rw [if_neg h0]
    by_cases h1 : ((n : Int) == 1 || (mkS x).length == 0) = true
    · rw [if_pos h1]
      rw [mkS_len] at h1
      simp only [Bool.or_eq_true, beq_iff_eq] at h1
      rcases h1 with h1 | h1
      · obtain rfl : n = 1 := by omega
        simp [repV]
      · obtain rfl : x = [] := List.length_eq_zero_iff.mp h1
        have : repV ([] : List Nat) n = [] := by unfold repV; simp
        rw [this]
    · rw [if_neg h1]
      apply Str.ext'
      show (List.foldl (· ++ ·) #[] (List.replicate n x.toArray)) = (repV x n).toArray
      apply Array.ext'
      rw [foldl_app]; simp
theorem intBits_small {k : Int} (h1 : -(2 ^ 60) < k) (h2 : k < 2 ^ 60) : Builtin.Int.intBits k ≤ 64 := intBits_le_64 (by omega) (by omega)
theorem bin_prm (hg : GS g s.heap) (hroom : PylongRoom (model prog w) A s) {op : Operator} {a b r : V} {va vb : Value} (hr : binV op a b = some r) (ha : RV g a va) (hb : RV g b vb) : Prm prog w A (binaryOp op va vb) s g r := by
  cases op
  case Add =>
    replace hr : addV a b = some r := hr
    unfold addV at hr
    split at hr
    · obtain ⟨b', rfl, hq⟩ := onI_some hr; replace hr := hq; clear hq
      cases hr; obtain ⟨t, rfl⟩ := ha; obtain ⟨u, rfl⟩ := hb
      exact Prm.same hg fun E Q h => PyProof.Rows.add_int (h _ _ ⟨_, rfl⟩)
    · obtain ⟨b', rfl, hq⟩ := onS_some hr; replace hr := hq; clear hq
      split at hr
      · rename_i hc
        cases hr; obtain ⟨t, rfl⟩ := ha; obtain ⟨u, rfl⟩ := hb
        refine Prm.same hg fun E Q h => PyProof.Rows.add_str (fun t' tk => ?_) ?_
        · rw [mkS_append]; exact h _ _ ⟨_, rfl⟩
        · rw [mkS_len, mkS_len, sizeLine_eq]; omega
      · cases hr
    · obtain ⟨b', rfl, hq⟩ := onL_some hr; replace hr := hq; clear hq
      split at hr
      · rename_i hc
        cases hr; obtain ⟨l, vs, rfl, ⟨o, ho, hcl, n, hd⟩, hvs⟩ := ha; obtain ⟨l2, vs2, rfl, ⟨o2, ho2, hcl2, n2, hd2⟩, hvs2⟩ := hb
        obtain ⟨cls, dd, data, sl⟩ := o
        obtain ⟨cls2, dd2, data2, sl2⟩ := o2
        simp only at hcl hd hcl2 hd2
        subst hcl hd hcl2 hd2
        refine Prm.put hg fun E Q h => ?_
        refine concat_meets ⟨_, (hg _ _ ho).1, rfl⟩ ⟨_, (hg _ _ ho2).1, rfl⟩ noFill_list_add seq_list_add PySem.F.slot_list_add PySem.F.entry_list_add (PySem.F.args_list_add_2 _ _)
          (list_addW l l2 vs.toArray vs2.toArray n n2 dd dd2 sl sl2 (by rw [sizeLine_eq]; simp [hvs.length, hvs2.length]; omega)) ⟨(hg _ _ ho).1, (hg _ _ ho2).1, ?_⟩
        have hga : g s.heap.objs.size = none := by
          cases q : g s.heap.objs.size with
          | none => rfl
          | some o' => exact absurd (Heap.lt_size (hg _ o' q).1) (Nat.lt_irrefl _)
        refine h _ _ _ s.heap.objs.size _ (Grow.push (.refl _) _) ?_ (Heap.get?_push_size _ rfl) (.inl ⟨_, _, rfl⟩) ⟨_, vs ++ vs2, rfl, ⟨_, gput_self, rfl, 0, by simp⟩, RVs.append (hvs.mono (gput_ext hga)) (hvs2.mono (gput_ext hga))⟩
        cases q : s.heap.get? s.heap.objs.size with
        | none => rfl
        | some o' => exact absurd (Heap.lt_size q) (Nat.lt_irrefl _)
      · cases hr
    · cases hr
  case Mult =>
    replace hr : mulV a b = some r := hr
    unfold mulV at hr
    split at hr
    · obtain ⟨b', rfl, hq⟩ := onI_some hr; replace hr := hq; clear hq
      split at hr
      · rename_i hc
        cases hr; obtain ⟨t, rfl⟩ := ha; obtain ⟨u, rfl⟩ := hb
        exact Prm.same hg fun E Q h => PyProof.Rows.mul_int (h _ _ ⟨_, rfl⟩) (IntMulOk.of_right (intBits_small hc.1 hc.2))
      · cases hr
    · obtain ⟨b', rfl, hq⟩ := onI_some hr; replace hr := hq; clear hq
      split at hr
      · rename_i hc
        cases hr; obtain ⟨t, rfl⟩ := ha; obtain ⟨u, rfl⟩ := hb
        rename_i x0 x
        generalize b' = n at *
        have mul_n : Txt.mul (mkS x) n = mkS (repV x n.toNat) := by
          by_cases hn : 0 ≤ n
          · obtain ⟨k, rfl⟩ := Int.eq_ofNat_of_zero_le hn
            exact mul_is x k
          · unfold Txt.mul
            rw [if_pos (by omega), show n.toNat = 0 by omega]
            rfl
        refine Prm.same hg fun E Q h => SB.mul ⟨?_, fun h1 h2 => ?_, fun h1 h2 => ?_⟩ fun t' tk => ?_
        · rw [Bool.or_eq_false_iff]; exact ⟨decide_eq_false (by omega), decide_eq_false (by omega)⟩
        · rw [mkS_len]
          have hk : (0 : Int) < n := by omega
          have := (Int.le_ediv_iff_mul_le hk).mpr (show ((x.length : Nat) : Int) * n ≤ 2 ^ 63 - 1 by
            have h3 : ((x.length : Nat) : Int) * n ≤ 1000 * 1000 := Int.mul_le_mul (by omega) (by omega) (by omega) (by omega)
            omega)
          omega
        · rw [mkS_len]
          have h3 : x.length * n.toNat ≤ 1000 * 1000 := Nat.mul_le_mul (by omega) (by omega)
          unfold Builtin.Str.tooLong
          rw [sizeLine_eq]
          simp
          omega
        · rw [mul_n]; exact h _ _ ⟨_, rfl⟩
      · cases hr
    · cases hr
  case Sub =>
    replace hr : subV a b = some r := hr
    unfold subV at hr
    obtain ⟨a', rfl, hq⟩ := onI_some hr; replace hr := hq; clear hq
    obtain ⟨b', rfl, hq⟩ := onI_some hr; replace hr := hq; clear hq
    cases hr; obtain ⟨t, rfl⟩ := ha; obtain ⟨u, rfl⟩ := hb
    exact Prm.same hg fun E Q h => sub_int' (h _ _ ⟨_, rfl⟩)
  case FloorDiv =>
    replace hr : fdivV a b = some r := hr
    unfold fdivV at hr
    obtain ⟨a', rfl, hq⟩ := onI_some hr; replace hr := hq; clear hq
    obtain ⟨b', rfl, hq⟩ := onI_some hr; replace hr := hq; clear hq
    split at hr
    · cases hr
    · rename_i hc
      cases hr; obtain ⟨t, rfl⟩ := ha; obtain ⟨u, rfl⟩ := hb
      exact Prm.same hg fun E Q h => PyProof.Rows.floordiv_int hc (h _ _ ⟨_, rfl⟩) (.inr hroom)
  case Mod =>
    replace hr : modV a b = some r := hr
    unfold modV at hr
    obtain ⟨a', rfl, hq⟩ := onI_some hr; replace hr := hq; clear hq
    obtain ⟨b', rfl, hq⟩ := onI_some hr; replace hr := hq; clear hq
    split at hr
    · cases hr
    · rename_i hc
      cases hr; obtain ⟨t, rfl⟩ := ha; obtain ⟨u, rfl⟩ := hb
      exact Prm.same hg fun E Q h => mod_int' hc (h _ _ ⟨_, rfl⟩)
  case Pow =>
    replace hr : powV a b = some r := hr
    unfold powV at hr
    obtain ⟨a', rfl, hq⟩ := onI_some hr; replace hr := hq; clear hq
    obtain ⟨b', rfl, hq⟩ := onI_some hr; replace hr := hq; clear hq
    split at hr
    · rename_i hc
      cases hr; obtain ⟨t, rfl⟩ := ha; obtain ⟨u, rfl⟩ := hb
      refine Prm.same hg fun E Q h => PyProof.Rows.pow_int hc.2.2.1 ?_ (h _ _ ⟨_, rfl⟩)
      generalize a' = a at *
      generalize b' = n at *
      have hbits := intBits_small (k := a) (by omega) (by omega)
      have h1 : ((Builtin.Int.intBits a : Nat) : Int) * n ≤ 64 * 1000 := Int.mul_le_mul (by omega) (by omega) hc.2.2.1 (by omega)
      omega
    · cases hr
  case BitXor =>
    replace hr : xorV a b = some r := hr
    unfold xorV at hr
    obtain ⟨a', rfl, hq⟩ := onI_some hr; replace hr := hq; clear hq
    obtain ⟨b', rfl, hq⟩ := onI_some hr; replace hr := hq; clear hq
    cases hr; obtain ⟨t, rfl⟩ := ha; obtain ⟨u, rfl⟩ := hb
    exact Prm.same hg fun E Q h => PyProof.Rows.xor_int (h _ _ ⟨_, rfl⟩)
  all_goals exact nomatch (show (none : Option V) = some r from hr)
end
end Mine
-- part Rules4
set_option maxRecDepth 100000
namespace Mine
open PySem PySem.W PySem.Calls PyProof.Rows PySem.Spec PySem.SeqAt
/-! ## comparisons -/
mutual
noncomputable def toPD : V → PyData
  | .none => .none
  | .bool b => .bool b
  | .int i => .int i
  | .str x => .str (mkS x)
  | .list xs => .list (toPDs xs)
  | .tup xs => .tuple (toPDs xs)
  | .rng _ _ => .none
noncomputable def toPDs : List V → List PyData
  | [] => []
  | x :: xs => toPD x :: toPDs xs
end
mutual
noncomputable def noRg : V → Bool
  | .rng _ _ => false
  | .list xs => noRgs xs
  | .tup xs => noRgs xs
  | _ => true
noncomputable def noRgs : List V → Bool
  | [] => true
  | x :: xs => noRg x && noRgs xs
end
mutual
theorem reads_of {g : GP} {h : Heap} (hg : GS g h) : ∀ (a : V) (v : Value), RV g a v → noRg a = true → ∃ as, Reads h v (toPD a) as
  | .none, _, e, _ => by rw [show _ = Value.none from e]; exact ⟨_, .none⟩
  | .bool b, _, e, _ => by rw [show _ = Value.bool b from e]; exact ⟨_, .bool b⟩
  | .int i, _, ⟨t, e⟩, _ => by rw [e]; exact ⟨_, .int i t⟩
  | .str x, _, ⟨t, e⟩, _ => by rw [e]; exact ⟨_, .str _ t⟩
  | .list xs, _, ⟨a, vs, e, ⟨o, ho, hc, n, hd⟩, r⟩, hn => by
    rw [e]
    obtain ⟨as, ha⟩ := readsAll_of hg xs vs r (by rw [noRg] at hn; exact hn)
    rw [toPD]
    exact ⟨_, .list (hg _ _ ho).1 hc hd (by simpa using ha)⟩
  | .tup xs, _, ⟨a, vs, e, ⟨o, ho, hc, n, hd⟩, r⟩, hn => by
    rw [e]
    obtain ⟨as, ha⟩ := readsAll_of hg xs vs r (by rw [noRg] at hn; exact hn)
    rw [toPD]
    exact ⟨_, .tuple (hg _ _ ho).1 hc hd (by simpa using ha)⟩
  | .rng _ _, _, _, hn => by rw [noRg] at hn; cases hn
theorem readsAll_of {g : GP} {h : Heap} (hg : GS g h) : ∀ (a : List V) (v : List Value), RVs g a v → noRgs a = true → ∃ as, ReadsAll h v (toPDs a) as
  | [], _, e, _ => by rw [show _ = [] from e, toPDs]; exact ⟨_, .nil⟩
  | x :: xs, _, ⟨v, r, e, hv, hr⟩, hn => by
    rw [noRgs, Bool.and_eq_true] at hn
    obtain ⟨as, ha⟩ := reads_of hg x v hv hn.1
    obtain ⟨bs, hb⟩ := readsAll_of hg xs r hr hn.2
    rw [e, toPDs]
    exact ⟨_, .cons ha hb⟩
end
noncomputable def inS (x y : List Nat) : Bool := !(Builtin.Str.occurrences (mkS y) (mkS x) 0 y.length 1).isEmpty
noncomputable def okEq (a b : V) : Bool := noRg a && noRg b && shaped (toPD a) && shaped (toPD b) && noMix (toPD a) (toPD b)
noncomputable def okIn (a : V) (xs : List V) : Bool := noRg a && noRgs xs && PyData.canLayAll0 (toPDs xs) && (toPD a).canLay0 && decide ((toPD a).depth ≤ 60)
noncomputable def inL (a : V) (xs : List V) : Bool := (toPDs xs).any fun y => PyData.eqv y (toPD a)
noncomputable def eqV : V → V → Option Bool
  | .int a => onI fun b => some (a == b)
  | .str a => onS fun b => some (a == b)
  | .bool a => onB fun b => some (a == b)
  | .list a => onL fun b => if okEq (.list a) (.list b) then some (same (toPD (.list a)) (toPD (.list b))) else none
  | _ => fun _ => none
noncomputable def neV : V → V → Option Bool
  | .int a => onI fun b => some (a != b)
  | .str a => onS fun b => some (a != b)
  | .bool a => onB fun b => some (a != b)
  | .list a => onL fun b => if okEq (.list a) (.list b) then some (!same (toPD (.list a)) (toPD (.list b))) else none
  | _ => fun _ => none
noncomputable def ltV : V → V → Option Bool := fun x y => onI (fun a => onI (fun b => some (decide (a < b))) y) x
noncomputable def leV : V → V → Option Bool := fun x y => onI (fun a => onI (fun b => some (decide (a ≤ b))) y) x
noncomputable def gtV : V → V → Option Bool := fun x y => onI (fun a => onI (fun b => some (decide (b < a))) y) x
noncomputable def geV : V → V → Option Bool := fun x y => onI (fun a => onI (fun b => some (decide (b ≤ a))) y) x
noncomputable def inV : V → V → Option Bool
  | .str a => onS fun b => some (inS a b)
  | .int k => onL fun xs => if okIn (.int k) xs then some (inL (.int k) xs) else none
  | _ => fun _ => none
noncomputable def ninStr (k : List Nat) : V → Option Bool
  | .str b => some (!inS k b)
  | .tup xs => if okIn (.str k) xs then some (!inL (.str k) xs) else none
  | _ => none
noncomputable def ninV : V → V → Option Bool
  | .str a => ninStr a
  | .bool k => onL fun xs => if okIn (.bool k) xs then some (!inL (.bool k) xs) else none
  | _ => fun _ => none
noncomputable def isBool (a : Bool) : V → Option Bool
  | .bool b => some (a == b)
  | .none => some false
  | _ => none
noncomputable def isV : V → V → Option Bool
  | .bool a => isBool a
  | .str _ => onN (some false)
  | .list _ => onN (some false)
  | .none => onN (some true)
  | _ => fun _ => none
noncomputable def isnV : V → V → Option Bool
  | .bool a => onB fun b => some (a != b)
  | .str _ => onN (some true)
  | .none => onN (some false)
  | _ => fun _ => none
noncomputable def cmpV : CmpOp → V → V → Option Bool
  | .Eq => eqV | .NotEq => neV | .Lt => ltV | .LtE => leV | .Gt => gtV | .GtE => geV | .Is => isV | .IsNot => isnV | .In => inV | .NotIn => ninV
theorem mkS_beq (x y : List Nat) : (mkS x == mkS y) = (x == y) := by
  by_cases h : x = y
  · subst h; simp
  · rw [beq_eq_false_iff_ne.mpr h, beq_eq_false_iff_ne.mpr]
    intro e
    exact h (by simpa [mkS] using e)
section
variable {prog : Program} {w : World} {A : Around} {s : Shared} {g : GP}
theorem cmp_prm (hg : GS g s.heap) (hu : A.units + 64 < cLine) {op : CmpOp} {a b : V} {r : Bool} {va vb : Value} (hr : cmpV op a b = some r) (ha : RV g a va) (hb : RV g b vb) : Prm prog w A (compareOp op va vb) s g (.bool r) := by
  refine Prm.same hg fun E Q h => ?_
  have h0 : ∀ v, v = Value.bool r → Q v s := fun v e => h v s.toks e
  cases op
  case Eq =>
    replace hr : eqV a b = some r := hr
    unfold eqV at hr
    split at hr
    · obtain ⟨b', rfl, hq⟩ := onI_some hr; replace hr := hq; clear hq
      obtain ⟨t, rfl⟩ := ha; obtain ⟨u, rfl⟩ := hb; exact PyProof.Rows.eq_int (h0 _ (congrArg Value.bool (Option.some.inj hr)))
    · obtain ⟨b', rfl, hq⟩ := onS_some hr; replace hr := hq; clear hq
      obtain ⟨t, rfl⟩ := ha; obtain ⟨u, rfl⟩ := hb; exact PyProof.Rows.eq_str (h0 _ (by rw [mkS_beq]; exact congrArg Value.bool (Option.some.inj hr)))
    · obtain ⟨b', rfl, hq⟩ := onB_some hr; replace hr := hq; clear hq
      subst ha; subst hb; exact PyProof.Rows.eq_bool (h0 _ (congrArg Value.bool (Option.some.inj hr)))
    · obtain ⟨b', rfl, hq⟩ := onL_some hr; replace hr := hq; clear hq
      split at hr
      · rename_i hc
        cases hr
        unfold okEq at hc
        simp only [Bool.and_eq_true] at hc
        obtain ⟨as, h1⟩ := reads_of hg _ _ ha hc.1.1.1.1
        obtain ⟨bs, h2⟩ := reads_of hg _ _ hb hc.1.1.1.2
        exact eq_dataH_same h1 h2 hc.1.1.2 hc.1.2 hu hc.2 (h0 _ rfl)
      · cases hr
    · cases hr
  case NotEq =>
    replace hr : neV a b = some r := hr
    unfold neV at hr
    split at hr
    · obtain ⟨b', rfl, hq⟩ := onI_some hr; replace hr := hq; clear hq
      obtain ⟨t, rfl⟩ := ha; obtain ⟨u, rfl⟩ := hb; exact PyProof.Rows.ne_int (h0 _ (congrArg Value.bool (Option.some.inj hr)))
    · obtain ⟨b', rfl, hq⟩ := onS_some hr; replace hr := hq; clear hq
      obtain ⟨t, rfl⟩ := ha; obtain ⟨u, rfl⟩ := hb; exact PyProof.Rows.ne_str (h0 _ (by rw [show (mkS _ != mkS _) = _ from congrArg not (mkS_beq _ _)]; exact congrArg Value.bool (Option.some.inj hr)))
    · obtain ⟨b', rfl, hq⟩ := onB_some hr; replace hr := hq; clear hq
      subst ha; subst hb; exact PyProof.Rows.ne_bool (h0 _ (congrArg Value.bool (Option.some.inj hr)))
    · obtain ⟨b', rfl, hq⟩ := onL_some hr; replace hr := hq; clear hq
      split at hr
      · rename_i hc
        cases hr
        unfold okEq at hc
        simp only [Bool.and_eq_true] at hc
        obtain ⟨as, h1⟩ := reads_of hg _ _ ha hc.1.1.1.1
        obtain ⟨bs, h2⟩ := reads_of hg _ _ hb hc.1.1.1.2
        exact ne_dataH_same h1 h2 hc.1.1.2 hc.1.2 hu hc.2 (h0 _ rfl)
      · cases hr
    · cases hr
  case Lt =>
    replace hr : ltV a b = some r := hr
    unfold ltV at hr
    obtain ⟨a', rfl, hq⟩ := onI_some hr; replace hr := hq; clear hq
    obtain ⟨b', rfl, hq⟩ := onI_some hr; replace hr := hq; clear hq
    obtain ⟨t, rfl⟩ := ha; obtain ⟨u, rfl⟩ := hb; exact PyProof.Rows.lt_int (h0 _ (congrArg Value.bool (Option.some.inj hr)))
  case LtE =>
    replace hr : leV a b = some r := hr
    unfold leV at hr
    obtain ⟨a', rfl, hq⟩ := onI_some hr; replace hr := hq; clear hq
    obtain ⟨b', rfl, hq⟩ := onI_some hr; replace hr := hq; clear hq
    obtain ⟨t, rfl⟩ := ha; obtain ⟨u, rfl⟩ := hb; exact PyProof.Rows.le_int (h0 _ (congrArg Value.bool (Option.some.inj hr)))
  case Gt =>
    replace hr : gtV a b = some r := hr
    unfold gtV at hr
    obtain ⟨a', rfl, hq⟩ := onI_some hr; replace hr := hq; clear hq
    obtain ⟨b', rfl, hq⟩ := onI_some hr; replace hr := hq; clear hq
    obtain ⟨t, rfl⟩ := ha; obtain ⟨u, rfl⟩ := hb; exact PyProof.Rows.gt_int (h0 _ (congrArg Value.bool (Option.some.inj hr)))
  case GtE =>
    replace hr : geV a b = some r := hr
    unfold geV at hr
    obtain ⟨a', rfl, hq⟩ := onI_some hr; replace hr := hq; clear hq
    obtain ⟨b', rfl, hq⟩ := onI_some hr; replace hr := hq; clear hq
    obtain ⟨t, rfl⟩ := ha; obtain ⟨u, rfl⟩ := hb; exact PyProof.Rows.ge_int (h0 _ (congrArg Value.bool (Option.some.inj hr)))
  case Is =>
    replace hr : isV a b = some r := hr
    unfold isV at hr
    split at hr
    · unfold isBool at hr
      split at hr
      · subst ha; subst hb; exact PyProof.Rows.is_bool (h0 _ (congrArg Value.bool (Option.some.inj hr)))
      · subst ha; subst hb; exact is_none_ne (by intro x; cases x) (h0 _ (congrArg Value.bool (Option.some.inj hr)))
      · cases hr
    · obtain ⟨rfl, hq⟩ := onN_some hr; cases hq
      obtain ⟨t, rfl⟩ := ha; subst hb; exact is_none_ne (by intro x; cases x) (h0 _ rfl)
    · obtain ⟨rfl, hq⟩ := onN_some hr; cases hq
      obtain ⟨l, vs, rfl, _⟩ := ha; subst hb; exact is_none_ne (by intro x; cases x) (h0 _ rfl)
    · obtain ⟨rfl, hq⟩ := onN_some hr; cases hq
      subst ha; subst hb; exact is_none_none (h0 _ rfl)
    · cases hr
  case IsNot =>
    replace hr : isnV a b = some r := hr
    unfold isnV at hr
    split at hr
    · obtain ⟨b', rfl, hq⟩ := onB_some hr; replace hr := hq; clear hq
      subst ha; subst hb; exact PyProof.Rows.isnot_bool (h0 _ (congrArg Value.bool (Option.some.inj hr)))
    · obtain ⟨rfl, hq⟩ := onN_some hr; cases hq
      obtain ⟨t, rfl⟩ := ha; subst hb; exact isnot_none_ne (by intro x; cases x) (h0 _ rfl)
    · obtain ⟨rfl, hq⟩ := onN_some hr; cases hq
      subst ha; subst hb; exact isnot_none_none (h0 _ rfl)
    · cases hr
  case In =>
    replace hr : inV a b = some r := hr
    unfold inV at hr
    split at hr
    · obtain ⟨b', rfl, hq⟩ := onS_some hr; replace hr := hq; clear hq
      cases hr; obtain ⟨t, rfl⟩ := ha; obtain ⟨u, rfl⟩ := hb; exact PyProof.Rows.in_str (h0 _ (by rw [mkS_len]; rfl))
    · obtain ⟨b', rfl, hq⟩ := onL_some hr; replace hr := hq; clear hq
      split at hr
      · rename_i hc
        cases hr
        simp only [okIn, Bool.and_eq_true, decide_eq_true_eq] at hc
        obtain ⟨as, h1⟩ := reads_of hg _ _ ha hc.1.1.1.1
        obtain ⟨bs, h2⟩ := reads_of hg _ _ hb (by rw [noRg]; exact hc.1.1.1.2)
        exact in_list_reads h2 h1 hc.1.1.2 hc.1.2 (by omega) (h0 _ rfl)
      · cases hr
    · cases hr
  case NotIn =>
    replace hr : ninV a b = some r := hr
    unfold ninV at hr
    split at hr
    · unfold ninStr at hr
      split at hr
      · cases hr; obtain ⟨t, rfl⟩ := ha; obtain ⟨u, rfl⟩ := hb; exact PyProof.Rows.notIn_str (h0 _ (by rw [mkS_len]; rfl))
      · split at hr
        · rename_i hc
          cases hr
          simp only [okIn, Bool.and_eq_true, decide_eq_true_eq] at hc
          obtain ⟨as, h1⟩ := reads_of hg _ _ ha hc.1.1.1.1
          obtain ⟨bs, h2⟩ := reads_of hg _ _ hb (by rw [noRg]; exact hc.1.1.1.2)
          exact notIn_tuple_reads h2 h1 hc.1.1.2 hc.1.2 (by omega) (h0 _ rfl)
        · cases hr
      · cases hr
    · obtain ⟨b', rfl, hq⟩ := onL_some hr; replace hr := hq; clear hq
      split at hr
      · rename_i hc
        cases hr
        simp only [okIn, Bool.and_eq_true, decide_eq_true_eq] at hc
        obtain ⟨as, h1⟩ := reads_of hg _ _ ha hc.1.1.1.1
        obtain ⟨bs, h2⟩ := reads_of hg _ _ hb (by rw [noRg]; exact hc.1.1.1.2)
        exact notIn_list_reads h2 h1 hc.1.1.2 hc.1.2 (by omega) (h0 _ rfl)
      · cases hr
    · cases hr
end
end Mine
-- part Rules5
set_option maxRecDepth 100000
namespace Mine
open PySem PySem.W PySem.Calls PyProof.Rows PySem.Spec PySem.SeqAt
/-! ## items, slices, calls of built-in functions -/
noncomputable def idx (n : Nat) (i : Int) : Option Nat := if 0 ≤ i then (if i < n then some i.toNat else none) else if -(n : Int) ≤ i then some (i + n).toNat else none
theorem idx_lt {n : Nat} {i : Int} {k : Nat} (h : idx n i = some k) : k < n ∧ -(n : Int) ≤ i ∧ i < n ∧ (0 ≤ i → k = i.toNat) ∧ (i < 0 → k = (i + n).toNat) := by
  unfold idx at h
  split at h
  · split at h
    · cases h; exact ⟨by omega, by omega, by omega, fun _ => rfl, fun x => absurd x (by omega)⟩
    · cases h
  · split at h
    · cases h; exact ⟨by omega, by omega, by omega, fun x => absurd x (by omega), fun _ => rfl⟩
    · cases h
theorem seqIndex_idx {n : Nat} {i : Int} {k : Nat} (h : idx n i = some k) : seqIndex? i n = some k := by
  obtain ⟨h1, h2, h3, h4, h5⟩ := idx_lt h
  unfold seqIndex?
  by_cases hi : i < 0
  · have := h5 hi
    simp only [if_pos hi]
    rw [if_pos (by simp only [Bool.and_eq_true, decide_eq_true_eq]; omega), this]
  · have := h4 (by omega)
    simp only [if_neg hi]
    rw [if_pos (by simp only [Bool.and_eq_true, decide_eq_true_eq]; omega), this]
noncomputable def big : Nat := 2 ^ 22
noncomputable def itemV : V → V → Option V
  | .str x, .int i => if x.length ≤ big then (idx x.length i).bind fun k => some (.str [x.getD k 0]) else none
  | .list x, .int i => if x.length ≤ big then (idx x.length i).bind fun k => x[k]? else none
  | .tup x, .int i => if x.length ≤ big then (idx x.length i).bind fun k => x[k]? else none
  | _, _ => none
section
variable {prog : Program} {w : World} {A : Around} {s : Shared} {g : GP}
theorem tail_of {value slice : Expr} {o i : Value} {T id : String} {E : Value → Shared → Prop} {Q : Value → Shared → Prop} (hT : s.TypeIs o T)
    (hl : typeLookup (.type T) "__getitem__" = pure (some (.builtin id))) (hg : wpAny (model prog w) A (getItem o i) Q E s) : wpAny (model prog w) A (subscriptTail value slice o i) Q E s := by
  cases slice
  case Slice a b c p => cases c <;> exact tail_any hT hl hg rfl
  all_goals exact tail_any hT hl hg rfl
theorem isTup_of {g : GP} {h : Heap} (hg : GS g h) {a : Addr} {vs : List Value} (x : IsL g "tuple" a vs) : IsTup h a vs.toArray := let ⟨o, ho, hc, n, hd⟩ := x; ⟨o, (hg _ _ ho).1, hc, n, hd⟩
theorem isList_of {g : GP} {h : Heap} (hg : GS g h) {a : Addr} {vs : List Value} (x : IsL g "list" a vs) : h.IsList a vs.toArray := let ⟨o, ho, hc, n, hd⟩ := x; ⟨o, (hg _ _ ho).1, hc, n, hd⟩
theorem RVs.get' {g : GP} {xs : List V} {vs : List Value} {k : Nat} {r : V} (h : RVs g xs vs) (e : xs[k]? = some r) : ∃ v, vs.toArray[k]? = some v ∧ RV g r v := by
  obtain ⟨v, h1, h2⟩ := h.get e
  exact ⟨v, by rw [List.getElem?_toArray]; exact h1, h2⟩

theorem item_prm (hg : GS g s.heap) {value slice : Expr} {a b r : V} {va vb : Value} (hr : itemV a b = some r) (ha : RV g a va) (hb : RV g b vb) : Prm prog w A (subscriptTail value slice va vb) s g r := by
  have h22 : big = 4194304 := rfl
  unfold itemV at hr
  split at hr
  · rename_i x i
    split at hr
    · rename_i hx
      obtain ⟨t, rfl⟩ := ha; obtain ⟨u, rfl⟩ := hb
      rw [Option.bind_eq_some_iff] at hr
      obtain ⟨k, hk, hr⟩ := hr
      cases hr
      obtain ⟨h1, h2, h3, _⟩ := idx_lt hk
      have hs := seqIndex_idx hk
      refine Prm.same hg fun E Q h => ?_
      obtain ⟨T, id, hl, hT, hgi⟩ := SB.item (prog := prog) (w := w) (A := A) (E := E) (s := s) (x := mkS x) (t := t) (u := u) (i := i) (Q := Q) (fitsSsize_of (N := 9223372036854775808) (by omega) (by omega) (Int.le_refl _))
        (charAt_isSome (by rw [mkS_len]; exact h2) (by rw [mkS_len]; exact h3)) (by
          have e : Txt.item (mkS x) i = mkS [x.getD k 0] := by
            unfold Txt.item Txt.charAt
            rw [mkS_len, hs]
            have : x[k]? = some (x.getD k 0) := by rw [List.getD_eq_getElem?_getD, List.getElem?_eq_getElem h1]; rfl
            simp only [Option.bind_some]
            show (⟨#[((x.toArray[k]?).getD 0)]⟩ : Str) = _
            rw [List.getElem?_toArray, this]; rfl
          rw [e]
          exact h _ _ ⟨_, rfl⟩)
      exact tail_of hT hl hgi
    · cases hr
  · rename_i x i
    split at hr
    · rename_i hx
      obtain ⟨l, vs, rfl, hl, hvs⟩ := ha; obtain ⟨u, rfl⟩ := hb
      rw [Option.bind_eq_some_iff] at hr
      obtain ⟨k, hk, hr⟩ := hr
      obtain ⟨h1, h2, h3, h4, h5⟩ := idx_lt hk
      obtain ⟨v, hv, hrv⟩ := hvs.get' hr
      have hL := isList_of hg hl
      have hn := hvs.length
      refine Prm.same hg fun E Q h => tail_of hL.typeIs slot_list_getitem.lookup ?_
      by_cases hi : 0 ≤ i
      · exact wpAny_getItem_list hL hi (by omega) (by rw [← h4 hi]; exact hv) (h _ s.toks hrv)
      · have e : (vs.toArray.size : Int) = x.length := by rw [List.size_toArray, hn]
        exact wpAny_getItem_list_neg hL (by omega) (by rw [e]; omega) (by omega) (by rw [e, ← h5 (by omega)]; exact hv) (h _ s.toks hrv)
    · cases hr
  · rename_i x i
    split at hr
    · rename_i hx
      obtain ⟨l, vs, rfl, hl, hvs⟩ := ha; obtain ⟨u, rfl⟩ := hb
      rw [Option.bind_eq_some_iff] at hr
      obtain ⟨k, hk, hr⟩ := hr
      obtain ⟨h1, h2, h3, h4, h5⟩ := idx_lt hk
      obtain ⟨v, hv, hrv⟩ := hvs.get' hr
      have hL := isTup_of hg hl
      have hn := hvs.length
      have e : vs.toArray.size = x.length := by rw [List.size_toArray, hn]
      refine Prm.same hg fun E Q h => tail_of hL.typeIs slot_tuple_getitem.lookup ?_
      exact getItem_tuple hL (by omega) (by omega) (by rw [e]; exact seqIndex_idx hk) hv (h _ s.toks hrv)
    · cases hr
  · cases hr
/-! ### slices -/
noncomputable def cutL {α : Type} (l : List α) (lo hi st : Option Int) : List α := (sliceRange (sliceBounds lo hi st l.length).1 (sliceBounds lo hi st l.length).2.1 (sliceBounds lo hi st l.length).2.2).filterMap (l[·]?)
noncomputable def IsOpt (o : Option Int) (v : Value) : Prop := match o with
  | none => v = .none
  | some i => ∃ t, v = .int i t
theorem IsOpt.part {o : Option Int} {v : Value} (h : IsOpt o v) : ∃ p : Option (Int × Tok), p.map (·.1) = o ∧ v = partValue p := by
  cases o with
  | none => exact ⟨none, rfl, h⟩
  | some i => obtain ⟨t, e⟩ := h; exact ⟨some (i, t), rfl, e⟩
end
end Mine
-- part Rules6
set_option maxRecDepth 100000
namespace Mine
open PySem PySem.W PySem.Calls PyProof.Rows PySem.Spec PySem.SeqAt
noncomputable def cutP {α : Type} (l : List α) (lo hi : Option Int) : List α := (l.drop (lo.elim 0 (clipAt l.length))).take (hi.elim l.length (clipAt l.length) - lo.elim 0 (clipAt l.length))
theorem pick_runL {α : Type} (xs : List α) (a : Nat) : ∀ k : Nat, ((List.range k).map (a + ·)).filterMap (xs[·]?) = (xs.drop a).take k
  | 0 => by simp
  | k + 1 => by
    rw [List.range_succ, List.map_append, List.filterMap_append, pick_runL xs a k, List.take_add_one]
    congr 1
    simp only [List.map_cons, List.map_nil, List.getElem?_drop]
    cases h : xs[a + k]? <;> simp [h]
theorem cutL_plain {α : Type} (l : List α) (lo hi : Option Int) : cutL l lo hi none = cutP l lo hi := by
  unfold cutL cutP
  rw [sliceBounds_plain]
  simp only [sliceRange_one, pick_runL]
theorem strIdx_plain (lo hi : Option Int) (n : Nat) : Builtin.Str.strSliceIndices lo hi 1 n = sliceRange (sliceBounds lo hi none n).1 (sliceBounds lo hi none n).2.1 (sliceBounds lo hi none n).2.2 := by
  cases lo <;> cases hi <;> rfl
theorem cutP_full {α : Type} (l : List α) (lo hi : Option Int) (h : (cutP l lo hi).length = l.length) : cutP l lo hi = l := by
  unfold cutP at h ⊢
  generalize lo.elim 0 (clipAt l.length) = a at *
  generalize hi.elim l.length (clipAt l.length) = b at *
  rw [List.length_take, List.length_drop] at h
  by_cases hn : l.length = 0
  · rw [List.length_eq_zero_iff] at hn; subst hn; simp
  · have ha : a = 0 := by omega
    subst ha
    rw [List.drop_zero, List.take_of_length_le (by omega)]
theorem pick_len {α : Type} (x : List α) : ∀ (is : List Nat), (∀ i ∈ is, i < x.length) → (is.filterMap (x[·]?)).length = is.length
  | [], _ => rfl
  | i :: is, h => by
    rw [List.filterMap_cons, List.getElem?_eq_getElem (h i (by simp))]
    simp [pick_len x is (fun j hj => h j (by simp [hj]))]
theorem clipAt_le (n : Nat) (i : Int) : clipAt n i ≤ n := by
  have := clipAt_cast n i
  omega
theorem slice_is (x : List Nat) (lo hi : Option Int) : Txt.slice (mkS x) lo hi = mkS (cutP x lo hi) := by
  unfold Txt.slice
  rw [mkS_len, strIdx_plain]
  have e : (sliceRange (sliceBounds lo hi none x.length).1 (sliceBounds lo hi none x.length).2.1 (sliceBounds lo hi none x.length).2.2).filterMap (x[·]?) = cutP x lo hi := cutL_plain x lo hi
  have e2 : (sliceRange (sliceBounds lo hi none x.length).1 (sliceBounds lo hi none x.length).2.1 (sliceBounds lo hi none x.length).2.2).filterMap ((mkS x).cps[·]?) = cutP x lo hi := by
    rw [← e]
    congr 1
    funext i
    exact List.getElem?_toArray
  rw [e2]
  split
  · rename_i hc
    rw [Bool.and_eq_true, beq_iff_eq, beq_iff_eq] at hc
    rw [cutP_full x lo hi]
    rw [← e, pick_len, hc.2]
    intro i hi'
    rw [sliceBounds_plain, sliceRange_one] at hi'
    simp only [List.mem_map, List.mem_range] at hi'
    obtain ⟨k, hk, rfl⟩ := hi'
    have : hi.elim x.length (clipAt x.length) ≤ x.length := by cases hi with
      | none => exact Nat.le_refl _
      | some j => exact clipAt_le _ _
    omega
  · rfl
theorem RVs.pick {g : GP} {xs : List V} {vs : List Value} (h : RVs g xs vs) : ∀ is : List Nat, RVs g (is.filterMap (xs[·]?)) (is.filterMap (vs[·]?))
  | [] => rfl
  | i :: is => by
    rw [List.filterMap_cons, List.filterMap_cons]
    cases e : xs[i]? with
    | none =>
      have : vs[i]? = none := by rw [List.getElem?_eq_none_iff, h.length]; exact List.getElem?_eq_none_iff.mp e
      rw [this]
      exact h.pick is
    | some x =>
      obtain ⟨v, h1, h2⟩ := h.get e
      rw [h1]
      exact ⟨v, _, rfl, h2, h.pick is⟩
/-! slices -/
noncomputable def sliceV' (a : V) (lo hi st : Option Int) : Option V :=
  match a, st with
  | .str x, none => if x.length ≤ big then some (.str (cutP x lo hi)) else none
  | .list x, none => if x.length ≤ big then some (.list (cutP x lo hi)) else none
  | .list x, some k => if x.length ≤ big ∧ k ≠ 0 then some (.list (cutL x lo hi (some k))) else none
  | _, _ => none
theorem IsOpt.isPart {o : Option Int} {v : Value} (h : IsOpt o v) : IsPart v o := by
  cases o with
  | none => rw [show v = .none from h]; exact .none
  | some i => obtain ⟨t, rfl⟩ := h; exact .int i t
section
variable {prog : Program} {w : World} {A : Around} {s : Shared} {g : GP}
theorem slice_list (hg : GS g s.heap) {value slice : Expr} {x : List V} {va vl vu vs : Value} {lo hi st : Option Int} {a : Addr} (h0 : st ≠ some 0) (hx : x.length ≤ big) (ha : RV g (.list x) va)
    (hs : s.heap.IsSliceOf a vl vu vs) (pl : IsOpt lo vl) (pu : IsOpt hi vu) (ps : IsOpt st vs) : Prm prog w A (subscriptTail value slice va (.ref a)) s g (.list (cutL x lo hi st)) := by
  have h22 : big = 4194304 := rfl
  obtain ⟨l, ws, rfl, hl, hvs⟩ := ha
  have hL := isList_of hg hl
  refine Prm.put hg fun E Q h => tail_of hL.typeIs slot_list_getitem.lookup ?_
  refine wpAny_getItem_list_slice hL hs pl.isPart pu.isPart ps.isPart h0 ?_ (by rw [List.size_toArray, hvs.length, sizeLine_eq]; omega)
  have hga : s.heap.get? s.heap.objs.size = none := by
    cases q : s.heap.get? s.heap.objs.size with
    | none => rfl
    | some o' => exact absurd (Heap.lt_size q) (Nat.lt_irrefl _)
  have hgn : g s.heap.objs.size = none := by
    cases q : g s.heap.objs.size with
    | none => rfl
    | some o' => exact absurd (Heap.lt_size (hg _ o' q).1) (Nat.lt_irrefl _)
  refine h _ _ s.toks s.heap.objs.size _ (Grow.push (.refl _) _) hga (Heap.get?_push_size _ rfl) (.inl ⟨_, _, rfl⟩) ⟨_, _, rfl, ⟨_, gput_self, rfl, _, rfl⟩, ?_⟩
  unfold cutL
  rw [← hvs.length]
  have e : ws.toArray.size = ws.length := List.size_toArray ..
  simp only [e, List.getElem?_toArray]
  exact (hvs.pick _).mono (gput_ext hgn)
theorem slice_prm (hg : GS g s.heap) {value slice : Expr} {a r : V} {va vl vu vs : Value} {lo hi st : Option Int} {sl : Addr} (hr : sliceV' a lo hi st = some r) (ha : RV g a va)
    (hs : s.heap.IsSliceOf sl vl vu vs) (pl : IsOpt lo vl) (pu : IsOpt hi vu) (ps : IsOpt st vs) : Prm prog w A (subscriptTail value slice va (.ref sl)) s g r := by
  have h22 : big = 4194304 := rfl
  unfold sliceV' at hr
  split at hr
  · split at hr
    · rename_i x hx
      cases hr
      obtain ⟨t, rfl⟩ := ha
      obtain ⟨p, hp, rfl⟩ := pl.part
      obtain ⟨q, hq, rfl⟩ := pu.part
      rw [show vs = partValue none from ps] at hs
      refine Prm.same hg fun E Q h => tail_of (typeIs_str _ _ _) F.slot_str_getitem.lookup (wpAny_getItem_str_slice (l := p) (u := q) (st := none) hs rfl (post_val_or_str ?_))
      show (Txt.slice (mkS x) (p.map (·.1)) (q.map (·.1))).length ≤ sizeLine ∧ ∀ t' k, Q (.str (Txt.slice (mkS x) (p.map (·.1)) (q.map (·.1))) t') { s with toks := k }
      refine ⟨Nat.le_trans (Txt.slice_le _ _ _) (by rw [mkS_len, sizeLine_eq]; omega), fun t' k => ?_⟩
      rw [slice_is, hp, hq]
      exact h _ _ ⟨_, rfl⟩
    · cases hr
  · split at hr
    · rename_i x hx
      cases hr
      rw [← cutL_plain]
      exact slice_list hg (by simp) hx ha hs pl pu ps
    · cases hr
  · split at hr
    · rename_i x k hx
      cases hr
      exact slice_list hg (by simpa using hx.2) hx.1 ha hs pl pu ps
    · cases hr
  · cases hr
end
end Mine
-- part Rules7
set_option maxRecDepth 100000
namespace Mine
open PySem PySem.W PySem.Calls PyProof.Rows PySem.Spec PySem.SeqAt
/-! ## built-in functions -/
inductive BF where
  | len | ord | chr | range | list | lower | join | startswith | endswith | find | str | sum
noncomputable def BF.val : BF → Value
  | .len => .builtin "len" | .ord => .builtin "ord" | .chr => .builtin "chr" | .range => .type "range" | .list => .type "list"
  | .lower => .builtin "str.lower" | .join => .builtin "str.join" | .startswith => .builtin "str.startswith" | .endswith => .builtin "str.endswith" | .find => .builtin "str.find"
  | .str => .type "str" | .sum => .builtin "sum"
noncomputable def lowV (x : List Nat) : List Nat := (Txt.lower (mkS x)).cps.toList
noncomputable def joinL (sep : List Nat) : List (List Nat) → List Nat
  | [] => []
  | x :: xs => x ++ (xs.map (sep ++ ·)).flatten
noncomputable def strsOf : List V → Option (List (List Nat))
  | [] => some []
  | .str x :: r => (strsOf r).map (x :: ·)
  | _ :: _ => none
noncomputable def rngL (a b : Int) : List V := (List.range (b - a).toNat).map fun (k : Nat) => V.int (a + k)
noncomputable def findV (x y : List Nat) (i j : Int) : Int := match Builtin.Str.occurrences (mkS x) (mkS y) (fromIndex x.length i) (min (fromIndex x.length j) x.length) 1 with | k :: _ => (k : Int) | [] => -1
noncomputable def intsOf : List V → Option (List Int)
  | [] => some []
  | .int i :: r => (intsOf r).map (i :: ·)
  | _ :: _ => none
noncomputable def find2V (x y : List Nat) : Int := match Builtin.Str.occurrences (mkS x) (mkS y) 0 x.length 1 with | k :: _ => (k : Int) | [] => -1
noncomputable def find3V (x y : List Nat) (i : Int) : Int := match Builtin.Str.occurrences (mkS x) (mkS y) (fromIndex x.length i) x.length 1 with | k :: _ => (k : Int) | [] => -1
noncomputable def digV (i : Int) : List Nat := (Str.ofString (toString i)).cps.toList
noncomputable def ar1 (f : V → Option V) : List V → Option V
  | [a] => f a
  | _ => none
noncomputable def ar2 (f : V → V → Option V) : List V → Option V
  | [a, b] => f a b
  | _ => none
theorem ar1_some {f : V → Option V} {xs : List V} {r : V} (h : ar1 f xs = some r) : ∃ a, xs = [a] ∧ f a = some r := by
  unfold ar1 at h
  split at h
  · exact ⟨_, rfl, h⟩
  · cases h
theorem ar2_some {f : V → V → Option V} {xs : List V} {r : V} (h : ar2 f xs = some r) : ∃ a b, xs = [a, b] ∧ f a b = some r := by
  unfold ar2 at h
  split at h
  · exact ⟨_, _, rfl, h⟩
  · cases h
noncomputable def lenB : V → Option V
  | .str x => if x.length ≤ big then some (.int x.length) else none
  | .list x => if x.length ≤ big then some (.int x.length) else none
  | _ => none
noncomputable def ordB : List Nat → Option V
  | [c] => some (.int c)
  | _ => none
noncomputable def rangeB : List V → Option V
  | [a] => onI (fun n => some (.rng 0 n)) a
  | [a, b] => onI (fun a => onI (fun b => some (.rng a b)) b) a
  | _ => none
noncomputable def listB : V → Option V
  | .rng a b => if -(2 ^ 20 : Int) ≤ a ∧ a ≤ 2 ^ 20 ∧ -(2 ^ 20 : Int) ≤ b ∧ b ≤ 2 ^ 20 then some (.list (rngL a b)) else none
  | .str x => if x.length ≤ big then some (.list (x.map fun c => .str [c])) else none
  | _ => none
noncomputable def findB (x y : List Nat) : List V → Option V
  | [] => some (.int (find2V x y))
  | [a] => onI (fun i => some (.int (find3V x y i))) a
  | [a, b] => onI (fun i => onI (fun j => some (.int (findV x y i j))) b) a
  | _ => none
noncomputable def findA : List V → Option V
  | a :: b :: r => onS (fun x => onS (fun y => findB x y r) b) a
  | _ => none
noncomputable def bfV : BF → List V → Option V
  | .len => ar1 lenB
  | .ord => ar1 (onS ordB)
  | .chr => ar1 (onI fun i => if 0 ≤ i ∧ i ≤ 1114111 then some (.str [i.toNat]) else none)
  | .range => rangeB
  | .list => ar1 listB
  | .lower => ar1 (onS fun x => if x.length ≤ big then some (.str (lowV x)) else none)
  | .join => ar2 fun a b => onS (fun x => onL (fun l => (strsOf l).bind fun ss => if (ss.map List.length).sum + ss.length * x.length ≤ big then some (.str (joinL x ss)) else none) b) a
  | .startswith => ar2 fun a b => onS (fun x => onS (fun y => some (.bool (decide (y.length ≤ x.length) && (x.take y.length == y)))) b) a
  | .endswith => ar2 fun a b => onS (fun x => onS (fun y => some (.bool (decide (y.length ≤ x.length) && (x.drop (x.length - y.length) == y)))) b) a
  | .find => findA
  | .str => ar1 (onI fun i => if 0 ≤ i ∧ i < 2 ^ 60 then some (.str (digV i)) else none)
  | .sum => ar1 (onL fun xs => (intsOf xs).map fun l => .int l.sum)
open Builtin Builtin.Str in
theorem gives_find4 (x y : Str) (i j : Int) (t u v v' : Tok) : Gives (Builtin.«str.find» ⟨[.str x t, .str y u, .int i v, .int j v'], []⟩)
    (.int (match Builtin.Str.occurrences x y (fromIndex x.length i) (min (fromIndex x.length j) x.length) 1 with | k :: _ => (k : Int) | [] => -1)) := by
  show Gives (match Builtin.Str.occurrences x y (fromIndex x.length i) (min (fromIndex x.length j) x.length) 1 with | k :: _ => retInt k | [] => (do rule "str.find.not-found"; retInt (-1))) _
  cases Builtin.Str.occurrences x y (fromIndex x.length i) (min (fromIndex x.length j) x.length) 1 with
  | nil => exact .rule (.of_eq rfl)
  | cons k _ => exact .of_eq rfl
theorem ints_items {g : GP} : ∀ {l : List V} {ns : List Int} {vs : List Value}, intsOf l = some ns → RVs g l vs → ∃ ps : List (Int × Tok), vs.toArray = intItems ps.toArray ∧ ps.map (·.1) = ns
  | [], ns, vs, e, h => by cases e; exact ⟨[], by rw [show vs = [] from h]; unfold intItems; simp, rfl⟩
  | .int i :: r, ns, vs, e, ⟨v, vr, e1, ⟨t, e2⟩, h2⟩ => by
    rw [intsOf, Option.map_eq_some_iff] at e
    obtain ⟨ns', e3, rfl⟩ := e
    obtain ⟨ps, h3, h4⟩ := ints_items e3 h2
    refine ⟨(i, t) :: ps, ?_, by rw [List.map_cons, h4]⟩
    subst e1 e2
    unfold intItems at h3 ⊢
    simp only [List.map_toArray, List.map_cons] at h3 ⊢
    have : vr = ps.map fun p => Value.int p.1 p.2 := by simpa using h3
    rw [this]
  | .none :: _, _, _, e, _ => by cases e
  | .bool _ :: _, _, _, e, _ => by cases e
  | .str _ :: _, _, _, e, _ => by cases e
  | .list _ :: _, _, _, e, _ => by cases e
  | .tup _ :: _, _, _, e, _ => by cases e
  | .rng _ _ :: _, _, _, e, _ => by cases e
theorem preSum_is (ps : List (Int × Tok)) : ∀ n, n ≤ ps.length → preSum (numAt ps.toArray) n = ((ps.map (·.1)).take n).sum
  | 0, _ => by simp [preSum]
  | n + 1, h => by
    rw [preSum, preSum_is ps n (by omega), List.take_add_one, List.sum_append]
    have : numAt ps.toArray n = ((ps.map (·.1))[n]?.toList).sum := by
      unfold numAt
      rw [List.getElem?_toArray, List.getElem?_map]
      cases ps[n]? <;> simp
    rw [this]
theorem strs_values {g : GP} : ∀ {l : List V} {ss : List (List Nat)} {vs : List Value}, strsOf l = some ss → RVs g l vs → ∃ ps : List (Str × Tok), vs = strValues ps ∧ ps.map (·.1) = ss.map mkS
  | [], ss, vs, e, h => by cases e; exact ⟨[], h, rfl⟩
  | .str x :: r, ss, vs, e, ⟨v, vr, e1, ⟨t, e2⟩, h2⟩ => by
    rw [strsOf, Option.map_eq_some_iff] at e
    obtain ⟨sr, e3, rfl⟩ := e
    obtain ⟨ps, h3, h4⟩ := strs_values e3 h2
    subst e1 e2 h3
    exact ⟨(mkS x, t) :: ps, rfl, by rw [List.map_cons, List.map_cons, h4]⟩
  | .none :: _, _, _, e, _ | .bool _ :: _, _, _, e, _ | .int _ :: _, _, _, e, _ | .list _ :: _, _, _, e, _ | .tup _ :: _, _, _, e, _ | .rng _ _ :: _, _, _, e, _ => by cases e
theorem glue_is (sep : List Nat) : ∀ (xs : List (List Nat)) (acc : List Nat), (xs.map mkS).foldl (fun (acc : Array Nat) (p : Str) => acc ++ (mkS sep).cps ++ p.cps) acc.toArray = (acc ++ (xs.map (sep ++ ·)).flatten).toArray
  | [], acc => by simp
  | x :: xs, acc => by
    have := glue_is sep xs (acc ++ sep ++ x)
    simp only [List.map_cons, List.foldl_cons, List.flatten_cons]
    rw [show acc.toArray ++ (mkS sep).cps ++ (mkS x).cps = (acc ++ sep ++ x).toArray by simp [mkS], this]
    simp
theorem join_is (sep : List Nat) (ss : List (List Nat)) : Txt.join (mkS sep) (ss.map mkS) = mkS (joinL sep ss) := by
  cases ss with
  | nil => rfl
  | cons x xs =>
    show (⟨((mkS x :: xs.map mkS).drop 1).foldl (fun acc p => acc ++ (mkS sep).cps ++ p.cps) ((mkS x :: xs.map mkS).headD Str.empty).cps⟩ : Str) = _
    rw [List.drop_one, List.tail_cons, List.headD_cons]
    have := glue_is sep xs x
    show (⟨(xs.map mkS).foldl (fun acc p => acc ++ (mkS sep).cps ++ p.cps) x.toArray⟩ : Str) = _
    rw [this]
    rfl
theorem foldl_len (k : Nat) : ∀ (ss : List (List Nat)) (a : Nat), (ss.map mkS).foldl (fun a (p : Str) => a + p.length + k) a = a + (ss.map List.length).sum + ss.length * k
  | [], a => by simp
  | x :: xs, a => by
    simp only [List.map_cons, List.foldl_cons, foldl_len k xs, mkS_len, List.sum_cons, List.length_cons]
    rw [Nat.add_mul]
    omega
theorem rvs_items {g : GP} : ∀ {xs : List V} {vs : List Value} (hl : vs.length = xs.length) (h : ∀ (j : Nat) (v : Value) (x : V), vs[j]? = some v → xs[j]? = some x → RV g x v), RVs g xs vs
  | [], vs, hl, _ => List.length_eq_zero_iff.mp hl
  | x :: xs, [], hl, _ => by cases hl
  | x :: xs, v :: vs, hl, h => ⟨v, vs, rfl, h 0 v x rfl rfl, rvs_items (by simpa using hl) fun j v' x' a b => h (j + 1) v' x' a b⟩
theorem subAt_is (x y : List Nat) (i : Nat) : Builtin.Str.subAt (mkS x) (mkS y) i = ((x.drop i).take y.length == y) := by
  unfold Builtin.Str.subAt
  rw [mkS_len]
  show (x.toArray.extract i (i + y.length) == y.toArray) = _
  rw [List.extract_toArray, List.extract_eq_take_drop]
  by_cases h : (x.drop i).take y.length = y
  · rw [show i + y.length - i = y.length by omega, h]; simp
  · rw [show i + y.length - i = y.length by omega, beq_eq_false_iff_ne.mpr h, beq_eq_false_iff_ne.mpr]
    intro e
    exact h (by simpa using e)
section
variable {prog : Program} {w : World} {A : Around} {s : Shared} {g : GP}
theorem RVs.one {g : GP} {x : V} {vs : List Value} (h : RVs g [x] vs) : ∃ v, vs = [v] ∧ RV g x v := by
  obtain ⟨v, r, rfl, h1, h2⟩ := h
  rw [show r = [] from h2]
  exact ⟨v, rfl, h1⟩
theorem RVs.two {g : GP} {x y : V} {vs : List Value} (h : RVs g [x, y] vs) : ∃ v1 v2, vs = [v1, v2] ∧ RV g x v1 ∧ RV g y v2 := by
  obtain ⟨v, r, rfl, h1, h2⟩ := h
  obtain ⟨v2, rfl, h3⟩ := RVs.one h2
  exact ⟨v, v2, rfl, h1, h3⟩
theorem RVs.three {g : GP} {x y z : V} {vs : List Value} (h : RVs g [x, y, z] vs) : ∃ v1 v2 v3, vs = [v1, v2, v3] ∧ RV g x v1 ∧ RV g y v2 ∧ RV g z v3 := by
  obtain ⟨v, r, rfl, h1, h2⟩ := h
  obtain ⟨v2, v3, rfl, h3⟩ := RVs.two h2
  exact ⟨v, v2, v3, rfl, h1, h3⟩
theorem RVs.four {g : GP} {x y z t : V} {vs : List Value} (h : RVs g [x, y, z, t] vs) : ∃ v1 v2 v3 v4, vs = [v1, v2, v3, v4] ∧ RV g x v1 ∧ RV g y v2 ∧ RV g z v3 ∧ RV g t v4 := by
  obtain ⟨v, r, rfl, h1, h2⟩ := h
  obtain ⟨v2, v3, v4, rfl, h3⟩ := RVs.three h2
  exact ⟨v, v2, v3, v4, rfl, h1, h3⟩
theorem bf_prm (hg : GS g s.heap) (hh : A.handled = none) {f : BF} {xs : List V} {r : V} {vs : List Value} (hr : bfV f xs = some r) (ha : RVs g xs vs) : Prm prog w A (call f.val vs) s g r := by
  have h22 : big = 4194304 := rfl
  have hga : s.heap.get? s.heap.objs.size = none := by
    cases q : s.heap.get? s.heap.objs.size with
    | none => rfl
    | some o' => exact absurd (Heap.lt_size q) (Nat.lt_irrefl _)
  cases f
  case len =>
    replace hr : ar1 lenB xs = some r := hr
    obtain ⟨a, rfl, hq⟩ := ar1_some hr; replace hr := hq; clear hq
    unfold lenB at hr
    split at hr
    · split at hr
      · obtain rfl := Option.some.inj hr; obtain ⟨_, rfl, ⟨t, rfl⟩⟩ := RVs.one ha
        refine Prm.same hg fun E Q h => SBL.len (by rw [mkS_len]; omega) ?_
        rw [mkS_len]; exact h _ _ ⟨_, rfl⟩
      · cases hr
    · split at hr
      · obtain rfl := Option.some.inj hr; obtain ⟨_, rfl, ⟨l, ws, rfl, hl, hws⟩⟩ := RVs.one ha
        refine Prm.same hg fun E Q h => len_list (isList_of hg hl) (by rw [List.size_toArray, hws.length]; omega) ?_
        rw [List.size_toArray, hws.length]; exact h _ _ ⟨_, rfl⟩
      · cases hr
    · cases hr
  case ord =>
    replace hr : ar1 (onS ordB) xs = some r := hr
    obtain ⟨a, rfl, hq⟩ := ar1_some hr; replace hr := hq; clear hq
    obtain ⟨x, rfl, hq⟩ := onS_some hr; replace hr := hq; clear hq
    unfold ordB at hr
    split at hr
    · obtain rfl := Option.some.inj hr; obtain ⟨_, rfl, ⟨t, rfl⟩⟩ := RVs.one ha
      exact Prm.same hg fun E Q h => ord_of_one rfl (h _ _ ⟨_, rfl⟩)
    · cases hr
  case chr =>
    replace hr : ar1 (onI fun i => if 0 ≤ i ∧ i ≤ 1114111 then some (.str [i.toNat]) else none) xs = some r := hr
    obtain ⟨a, rfl, hq⟩ := ar1_some hr; replace hr := hq; clear hq
    obtain ⟨x, rfl, hq⟩ := onI_some hr; replace hr := hq; clear hq
    split at hr
    · rename_i hc
      obtain rfl := Option.some.inj hr; obtain ⟨_, rfl, ⟨t, rfl⟩⟩ := RVs.one ha
      exact Prm.same hg fun E Q h => chr_of_range hc.1 hc.2 (h _ _ ⟨_, rfl⟩)
    · cases hr
  case range =>
    replace hr : rangeB xs = some r := hr
    unfold rangeB at hr
    split at hr
    · obtain ⟨x, rfl, hq⟩ := onI_some hr; replace hr := hq; clear hq
      obtain rfl := Option.some.inj hr; obtain ⟨_, rfl, ⟨t, rfl⟩⟩ := RVs.one ha
      exact Prm.put hg fun E Q h => call_range_1 (h _ _ _ s.heap.objs.size _ (Grow.push (.refl _) _) hga (Heap.get?_push_size _ rfl) (.inr ⟨rfl, _, rfl⟩) ⟨_, rfl, _, _, _, gput_self⟩)
    · obtain ⟨x, rfl, hq⟩ := onI_some hr; replace hr := hq; clear hq
      obtain ⟨y, rfl, hq⟩ := onI_some hr; replace hr := hq; clear hq
      obtain rfl := Option.some.inj hr; obtain ⟨_, _, rfl, ⟨t, rfl⟩, ⟨t2, rfl⟩⟩ := RVs.two ha
      exact Prm.put hg fun E Q h => call_range_2 (h _ _ _ s.heap.objs.size _ (Grow.push (.refl _) _) hga (Heap.get?_push_size _ rfl) (.inr ⟨rfl, _, rfl⟩) ⟨_, rfl, _, _, _, gput_self⟩)
    · cases hr
  case list =>
    replace hr : ar1 listB xs = some r := hr
    obtain ⟨a, rfl, hq⟩ := ar1_some hr; replace hr := hq; clear hq
    unfold listB at hr
    split at hr
    · split at hr
      · rename_i a b hc
        obtain rfl := Option.some.inj hr; obtain ⟨_, rfl, ⟨q, rfl, t, u, v', hq⟩⟩ := RVs.one ha
        have hsz : Builtin.Range.rangeSize a b 1 = ((b - a).toNat : Int) := by rw [rangeSize_one]; split <;> omega
        refine Prm.put hg fun E Q h => call_list_range hh (hg _ _ hq).1 ?_ hsz (by omega) fun h' tk acc' c' hk hS hit => ?_
        · have fit : ∀ k : Int, -(2 ^ 22 : Int) ≤ k → k ≤ 2 ^ 22 → Builtin.Range.rangeFitsLong k = true := fun k h1 h2 => by
            unfold Builtin.Range.rangeFitsLong
            simp only [Bool.and_eq_true, decide_eq_true_eq]
            omega
          unfold Builtin.Range.small
          rw [hsz, fit a (by omega) (by omega), fit b (by omega) (by omega), fit 1 (by omega) (by omega), fit _ (by omega) (by omega), if_pos (by decide), fit _ (by omega) (by omega)]
          simp
        · refine h _ _ _ s.heap.objs.size _ hk hga hS (.inl ⟨_, _, rfl⟩) ⟨_, acc'.toList, rfl, ⟨_, gput_self, rfl, _, rfl⟩, ?_⟩
          refine rvs_items (by rw [Array.length_toList, hit.1]; unfold rngL; simp) fun j v x h1 h2 => ?_
          obtain ⟨t, rfl⟩ := hit.2 j v (by rw [← Array.getElem?_toList]; exact h1)
          unfold rngL at h2
          rw [List.getElem?_map, Option.map_eq_some_iff] at h2
          obtain ⟨k, hk, rfl⟩ := h2
          obtain ⟨_, rfl⟩ := List.getElem?_eq_some_iff.mp hk
          rw [List.getElem_range, Int.mul_one]
          exact ⟨_, rfl⟩
      · cases hr
    · split at hr
      · rename_i x hc
        obtain rfl := Option.some.inj hr; obtain ⟨_, rfl, ⟨t, rfl⟩⟩ := RVs.one ha
        refine Prm.put hg fun E Q h => call_list_str hh (mkS x) t (fun h' tk acc' c' hk hS hit => ?_) (by rw [show (mkS x).cps.size = x.length from List.size_toArray ..]; rw [sizeLine_eq]; omega)
        refine h _ _ _ s.heap.objs.size _ hk hga hS (.inl ⟨_, _, rfl⟩) ⟨_, acc'.toList, rfl, ⟨_, gput_self, rfl, _, rfl⟩, ?_⟩
        refine rvs_items (by rw [Array.length_toList, hit.1]; simp [mkS]) fun j v y h1 h2 => ?_
        obtain ⟨c, u, hc, rfl⟩ := hit.2 j v (by rw [← Array.getElem?_toList]; exact h1)
        rw [List.getElem?_map, Option.map_eq_some_iff] at h2
        obtain ⟨c', hc', rfl⟩ := h2
        have : c = c' := by
          have e : (mkS x).cps[j]? = x[j]? := List.getElem?_toArray
          rw [e, hc'] at hc
          exact (Option.some.inj hc).symm
        subst this
        exact ⟨_, rfl⟩
      · cases hr
    · cases hr
  case lower =>
    replace hr : ar1 (onS fun x => if x.length ≤ big then some (.str (lowV x)) else none) xs = some r := hr
    obtain ⟨a, rfl, hq⟩ := ar1_some hr; replace hr := hq; clear hq
    obtain ⟨x, rfl, hq⟩ := onS_some hr; replace hr := hq; clear hq
    split at hr
    · rename_i hc
      obtain rfl := Option.some.inj hr; obtain ⟨_, rfl, ⟨t, rfl⟩⟩ := RVs.one ha
      exact Prm.same hg fun E Q h => SCL.lower (by rw [mkS_len]; omega) fun _ => h _ _ ⟨_, rfl⟩
    · cases hr
  case join =>
    obtain ⟨a, b, rfl, hq⟩ := ar2_some (show ar2 _ xs = some r from hr); replace hr := hq; clear hq
    obtain ⟨x, rfl, hq⟩ := onS_some hr; replace hr := hq; clear hq
    obtain ⟨l, rfl, hq⟩ := onL_some hr; replace hr := hq; clear hq
    rw [Option.bind_eq_some_iff] at hr
    obtain ⟨ss, hss, hr⟩ := hr
    split at hr
    · rename_i hc
      obtain rfl := Option.some.inj hr; obtain ⟨_, _, rfl, ⟨t, rfl⟩, ⟨q, ws, rfl, hl, hws⟩⟩ := RVs.two ha
      obtain ⟨ps, rfl, hps⟩ := strs_values hss hws
      refine Prm.same hg fun E Q h => SC.join (isList_of hg hl) hps ?_ fun t' k => ?_
      · unfold JoinOk Builtin.Str.tooLong
        rw [List.foldl_toArray, mkS_len, foldl_len, sizeLine_eq]
        simp
        omega
      · rw [join_is]; exact h _ _ ⟨_, rfl⟩
    · cases hr
  case startswith =>
    obtain ⟨a, b, rfl, hq⟩ := ar2_some (show ar2 _ xs = some r from hr); replace hr := hq; clear hq
    obtain ⟨x, rfl, hq⟩ := onS_some hr; replace hr := hq; clear hq
    obtain ⟨y, rfl, hq⟩ := onS_some hr; replace hr := hq; clear hq
    obtain rfl := Option.some.inj hr; obtain ⟨_, _, rfl, ⟨t, rfl⟩, ⟨t2, rfl⟩⟩ := RVs.two ha
    refine Prm.same hg fun E Q h => SC.startswith (h _ s.toks ?_)
    unfold Txt.startswith
    rw [subAt_is, mkS_len, mkS_len, Nat.zero_add, List.drop_zero]
    rfl
  case endswith =>
    obtain ⟨a, b, rfl, hq⟩ := ar2_some (show ar2 _ xs = some r from hr); replace hr := hq; clear hq
    obtain ⟨x, rfl, hq⟩ := onS_some hr; replace hr := hq; clear hq
    obtain ⟨y, rfl, hq⟩ := onS_some hr; replace hr := hq; clear hq
    obtain rfl := Option.some.inj hr; obtain ⟨_, _, rfl, ⟨t, rfl⟩, ⟨t2, rfl⟩⟩ := RVs.two ha
    refine Prm.same hg fun E Q h => SC.endswith (h _ s.toks ?_)
    unfold Txt.endswith
    rw [subAt_is, mkS_len, mkS_len, Nat.zero_add]

    by_cases hc : y.length ≤ x.length
    · rw [List.take_of_length_le (by rw [List.length_drop]; omega)]; rfl
    · rw [decide_eq_false hc]; rfl
  case find =>
    replace hr : findA xs = some r := hr
    unfold findA at hr
    split at hr
    · obtain ⟨x, rfl, hq⟩ := onS_some hr; replace hr := hq; clear hq
      obtain ⟨y, rfl, hq⟩ := onS_some hr; replace hr := hq; clear hq
      unfold findB at hr
      split at hr
      · obtain rfl := Option.some.inj hr; obtain ⟨_, _, rfl, ⟨t, rfl⟩, ⟨t2, rfl⟩⟩ := RVs.two ha
        refine Prm.same hg fun E Q h => call_gives F.slot_str_find (typeIs_str _ _ _) F.entry_str_find (F.args_str_find_2 _ _) (gives_str_find _ _ _ _) ?_
        exact h _ _ ⟨_, by unfold find2V; rw [mkS_len]; rfl⟩
      · obtain ⟨i, rfl, hq⟩ := onI_some hr; replace hr := hq; clear hq
        obtain rfl := Option.some.inj hr; obtain ⟨_, _, _, rfl, ⟨t, rfl⟩, ⟨t2, rfl⟩, ⟨t3, rfl⟩⟩ := RVs.three ha
        refine Prm.same hg fun E Q h => call_gives F.slot_str_find (typeIs_str _ _ _) F.entry_str_find (F.args_str_find_3 _ _ _) (gives_str_find_from _ _ _ _ _ _) ?_
        exact h _ _ ⟨_, by unfold find3V; rw [mkS_len]; rfl⟩
      · obtain ⟨i, rfl, hq⟩ := onI_some hr; replace hr := hq; clear hq
        obtain ⟨j, rfl, hq⟩ := onI_some hr; replace hr := hq; clear hq
        obtain rfl := Option.some.inj hr; obtain ⟨_, _, _, _, rfl, ⟨t, rfl⟩, ⟨t2, rfl⟩, ⟨t3, rfl⟩, ⟨t4, rfl⟩⟩ := RVs.four ha
        refine Prm.same hg fun E Q h => call_gives F.slot_str_find (typeIs_str _ _ _) F.entry_str_find (F.args_str_find_4 _ _ _ _) (gives_find4 _ _ _ _ _ _ _ _) ?_
        exact h _ _ ⟨_, by unfold findV; rw [mkS_len]⟩
      · cases hr
    · cases hr
  case str =>
    replace hr : ar1 (onI fun i => if 0 ≤ i ∧ i < 2 ^ 60 then some (.str (digV i)) else none) xs = some r := hr
    obtain ⟨a, rfl, hq⟩ := ar1_some hr; replace hr := hq; clear hq
    obtain ⟨i, rfl, hq⟩ := onI_some hr; replace hr := hq; clear hq
    split at hr
    · rename_i hc
      obtain rfl := Option.some.inj hr; obtain ⟨_, rfl, ⟨t, rfl⟩⟩ := RVs.one ha
      refine Prm.same hg fun E Q h => str_of_int_fit (N := 2 ^ 60) (by rw [if_neg (by omega)]; omega) (by decide) fun _ => h _ _ ⟨_, rfl⟩
    · cases hr
  case sum =>
    replace hr : ar1 (onL fun xs => (intsOf xs).map fun l => .int l.sum) xs = some r := hr
    obtain ⟨a, rfl, hq⟩ := ar1_some hr; replace hr := hq; clear hq
    obtain ⟨l, rfl, hq⟩ := onL_some hr; replace hr := hq; clear hq
    obtain ⟨ns, hns, rfl⟩ := Option.map_eq_some_iff.mp hr
    obtain ⟨_, rfl, ⟨l, ws, rfl, hl, hws⟩⟩ := RVs.one ha
    obtain ⟨ps, hp, hps⟩ := ints_items hns hws
    have hL := isList_of hg hl
    rw [hp] at hL
    refine Prm.grow hg fun E Q h => call_sum_walkG (iter_intList hL fun s₂ e st hfp _ => ?_)
    subst e
    refine ⟨_, _, _, _, _, _, numAt ps.toArray, rfl, Walks.list (A := A.in1) hh _ l ‹_› (intItems ps.toArray), st, hfp, (fun _ _ => intItems_at), fun h' tk t' hk => ?_⟩
    have e : preSum (numAt ps.toArray) (intItems ps.toArray).size = ns.sum := by
      have : (intItems ps.toArray).size = ps.length := by unfold intItems; simp
      rw [this, preSum_is ps _ (Nat.le_refl _), List.take_of_length_le (by simp), hps]
    rw [e]
    exact h _ _ _ (old_kept hk) ⟨_, rfl⟩
end
end Mine
-- part Rules8
set_option maxRecDepth 100000
namespace Mine
open PySem PySem.W PySem.Calls PyProof.Rows PySem.Spec PySem.SeqAt
/-! ## expressions -/
/-- what a heap gives every walk above it -/
structure World0 (prog : Program) (base : Heap) : Prop where
  tree : prog.given.tree = none
  noLimit : base.NoLimit
  seer : base.NoSeer
  glob : ∃ mg, base.Ns mainGlobals mg
noncomputable def GV (base : Heap) (x : Str) (v : Value) : Prop := ∃ mg mb, base.Ns mainGlobals mg ∧ base.Ns builtinsNs mb ∧ (mg x = some v ∨ (mg x = none ∧ mb x = some v))
section
variable {prog : Program} {w : World} {C : Cx} {σ σ' : SL} {ad : Nat → Addr} {g : GP} {h h' : Heap}
theorem World0.up {base base' : Heap} (W : World0 prog base) (k : Grow base base') : World0 prog base' := ⟨W.tree, W.noLimit.keeps k, W.seer.keeps k, let ⟨m, e⟩ := W.glob; ⟨m, e.keeps k⟩⟩
theorem GV.up {base base' : Heap} {x : Str} {v : Value} (W : GV base x v) (k : Grow base base') : GV base' x v := let ⟨mg, mb, a, b, c⟩ := W; ⟨mg, mb, a.keeps k, b.keeps k, c⟩
theorem AOk.room {n : Nat} {A : Around} {s : Shared} (x : AOk n A) (W : World0 prog s.heap) : PylongRoom (model prog w) A s := by
  obtain ⟨env, l, h1, h2, h3, h4, h5⟩ := x.frames
  exact PylongRoom.of W.noLimit (by have := x.depth; show A.depth + 100 < 1000; omega) (SeerAt.of W.seer W.tree h1 h4 h5 h2 h3)
structure CK (prog : Program) (C : Cx) : Prop where
  ok : CxOk C
  wd : World0 prog C.base
noncomputable def dConst (a : V) : SL → Option (V × SL) := fun σ => some (a, σ)
theorem TE_int {i : Int} {k : Nat} {pos : Pos} : TE prog w C (.Constant (.int i) k pos) (dConst (.int i)) := .mk fun A E Q s σ σ' ad g a hA S hd hq => by
  cases hd; exact wpAny_Constant_int (hq _ s.heap _ ad g (.refl S) ⟨_, rfl⟩)
theorem TE_str {x : Str} {l : List Nat} {k : Nat} {pos : Pos} (e : x = mkS l) : TE prog w C (.Constant (.str x) k pos) (dConst (.str l)) := .mk fun A E Q s σ σ' ad g a hA S hd hq => by
  cases hd; subst e; exact wpAny_Constant_str (hq _ s.heap _ ad g (.refl S) ⟨_, rfl⟩)
theorem TE_bool {b : Bool} {k : Nat} {pos : Pos} : TE prog w C (.Constant (.bool b) k pos) (dConst (.bool b)) := .mk fun A E Q s σ σ' ad g a hA S hd hq => by
  cases hd; exact wpAny_Constant_bool (hq _ s.heap s.toks ad g (.refl S) rfl)
theorem TE_none {k : Nat} {pos : Pos} : TE prog w C (.Constant .none k pos) (dConst .none) := .mk fun A E Q s σ σ' ad g a hA S hd hq => by
  cases hd; exact wpAny_Constant_none (hq _ s.heap s.toks ad g (.refl S) rfl)
noncomputable def dTwo (f : V → V → Option V) (d1 d2 : SL → Option (V × SL)) : SL → Option (V × SL) := fun σ => (d1 σ).bind fun p => (d2 p.2).bind fun q => (f p.1 q.1).map (·, q.2)
theorem dTwo_some {f : V → V → Option V} {d1 d2 : SL → Option (V × SL)} {a : V} (h : dTwo f d1 d2 σ = some (a, σ')) : ∃ x σ1 y, d1 σ = some (x, σ1) ∧ d2 σ1 = some (y, σ') ∧ f x y = some a := by
  unfold dTwo at h
  rw [Option.bind_eq_some_iff] at h
  obtain ⟨⟨x, σ1⟩, h1, h⟩ := h
  rw [Option.bind_eq_some_iff] at h
  obtain ⟨⟨y, σ2⟩, h2, h⟩ := h
  rw [Option.map_eq_some_iff] at h
  obtain ⟨r, h3, h⟩ := h
  cases h
  exact ⟨x, σ1, y, h1, h2, h3⟩
noncomputable def dBin (op : Operator) := dTwo (binV op)
theorem TE_bin {l r : Expr} {op : Operator} {pos : Pos} {d1 d2 : SL → Option (V × SL)} (K : CK prog C) (h1 : TE prog w C l d1) (h2 : TE prog w C r d2) : TE prog w C (.BinOp l op r pos) (dBin op d1 d2) := .mk fun A E Q s σ σ' ad g a hA S hd hq => by
  obtain ⟨x, σ1, y, e1, e2, e3⟩ := dTwo_some hd
  refine wpAny_BinOp (h1.go A E _ s σ σ1 ad g x hA S e1 fun v h' tk ad' g' P rv => h2.go A E _ _ σ1 σ' ad' g' y hA P.st e2 fun v2 h2 tk2 ad2 g2 P2 rv2 => ?_)
  exact (bin_prm P2.st.gs (hA.room (K.wd.up P2.st.hbase)) e3 (rv.mono P2.gext) rv2).at P2.st fun v3 h3 tk3 g3 P3 rv3 => hq _ _ _ _ _ ((P.trans P2).trans P3) rv3
theorem AOk.cmp {n : Nat} {A : Around} (x : AOk n A) : A.units + 64 < cLine := by have := x.units; show A.units + 64 < 9900; omega
noncomputable def dCmp (op : CmpOp) := dTwo fun a b => (cmpV op a b).map V.bool
theorem TE_cmp {l r : Expr} {op : CmpOp} {pos : Pos} {d1 d2 : SL → Option (V × SL)} (h1 : TE prog w C l d1) (h2 : TE prog w C r d2) (hm : behindInMarks op r = false) : TE prog w C (.Compare l [op] [r] pos) (dCmp op d1 d2) := .mk fun A E Q s σ σ' ad g a hA S hd hq => by
  obtain ⟨x, σ1, y, e1, e2, e3⟩ := dTwo_some hd
  rw [Option.map_eq_some_iff] at e3
  obtain ⟨b, e3, rfl⟩ := e3
  refine wpAny_Compare1 (h1.go A E _ s σ σ1 ad g x hA S e1 fun v h' tk ad' g' P rv => h2.go A E _ _ σ1 σ' ad' g' y hA P.st e2 fun v2 h2 tk2 ad2 g2 P2 rv2 => ?_) hm
  exact (cmp_prm P2.st.gs hA.cmp e3 (rv.mono P2.gext) rv2).at P2.st fun v3 h3 tk3 g3 P3 rv3 => hq _ _ _ _ _ ((P.trans P2).trans P3) rv3
noncomputable def tTwo (f : V → V → Option Bool) (d1 d2 : SL → Option (V × SL)) : SL → Option (Bool × SL) := fun σ => (d1 σ).bind fun p => (d2 p.2).bind fun q => (f p.1 q.1).map (·, q.2)
theorem tTwo_some {f : V → V → Option Bool} {d1 d2 : SL → Option (V × SL)} {a : Bool} (h : tTwo f d1 d2 σ = some (a, σ')) : ∃ x σ1 y, d1 σ = some (x, σ1) ∧ d2 σ1 = some (y, σ') ∧ f x y = some a := by
  unfold tTwo at h
  rw [Option.bind_eq_some_iff] at h
  obtain ⟨⟨x, σ1⟩, h1, h⟩ := h
  rw [Option.bind_eq_some_iff] at h
  obtain ⟨⟨y, σ2⟩, h2, h⟩ := h
  rw [Option.map_eq_some_iff] at h
  obtain ⟨r, h3, h⟩ := h
  cases h
  exact ⟨x, σ1, y, h1, h2, h3⟩
noncomputable def tCmp (op : CmpOp) := tTwo (cmpV op)
theorem TT_cmp {l r : Expr} {op : CmpOp} {pos : Pos} {d1 d2 : SL → Option (V × SL)} (h1 : TE prog w C l d1) (h2 : TE prog w C r d2) (hm : behindInMarks op r = false) : TT prog w C (.Compare l [op] [r] pos) (tCmp op d1 d2) := .mk fun A E Q s σ σ' ad g b hA S hd hq => by
  obtain ⟨x, σ1, y, e1, e2, e3⟩ := tTwo_some hd
  refine wpAny_isTrue_Compare1 (h1.go A E _ s σ σ1 ad g x hA S e1 fun v h' tk ad' g' P rv => h2.go A E _ _ σ1 σ' ad' g' y hA P.st e2 fun v2 h2 tk2 ad2 g2 P2 rv2 => ?_) hm
  refine (cmp_prm P2.st.gs hA.cmp e3 (rv.mono P2.gext) rv2).at P2.st fun v3 h3 tk3 g3 P3 rv3 => ?_
  rw [show v3 = _ from rv3]
  exact wpAny_truthy_bool (hq _ _ _ _ ((P.trans P2).trans P3))
noncomputable def truthV : V → Option Bool
  | .bool b => some b
  | .str x => if x.length ≤ big then some (!x.isEmpty) else none
  | .int i => some (i != 0)
  | _ => none
noncomputable def tVal (d : SL → Option (V × SL)) : SL → Option (Bool × SL) := fun σ => (d σ).bind fun p => (truthV p.1).map (·, p.2)
theorem truthy_prm {A : Around} {E : Value → Shared → Prop} {Q : Bool → Shared → Prop} {s : Shared} {a : V} {v : Value} {b : Bool} (h : truthV a = some b) (rv : RV g a v) (hq : ∀ tk, Q b { s with toks := tk }) : wpAny (model prog w) A (truthy v) Q E s := by
  have h22 : big = 4194304 := rfl
  unfold truthV at h
  split at h
  · cases h; rw [show v = _ from rv]; exact wpAny_truthy_bool (hq s.toks)
  · split at h
    · rename_i x hx
      cases h; obtain ⟨t, rfl⟩ := rv
      refine SBL.truthy (by rw [mkS_len]; omega) ?_
      have : (((mkS x).length : Int) != 0) = !x.isEmpty := by
        rw [mkS_len]
        cases x with
        | nil => rfl
        | cons c r => simp; omega
      rw [this]; exact hq _
    · cases h
  · cases h; obtain ⟨t, rfl⟩ := rv; exact PyProof.Rows.truthy_int (hq s.toks)
  · cases h
theorem TT_val {e : Expr} {d : SL → Option (V × SL)} (h1 : TE prog w C e d) (he : isTrue e C.env (eval e C.env) = (do let v ← eval e C.env; standAt e.pos; holding [v] (truthy v))) : TT prog w C e (tVal d) := .mk fun A E Q s σ σ' ad g b hA S hd hq => by
  unfold tVal at hd
  rw [Option.bind_eq_some_iff] at hd
  obtain ⟨⟨x, σ1⟩, e1, hd⟩ := hd
  rw [Option.map_eq_some_iff] at hd
  obtain ⟨b', e2, hd⟩ := hd
  cases hd
  refine wpAny_isTrue_value (h1.go A E _ s σ σ1 ad g x hA S e1 fun v h' tk ad' g' P rv => ?_) he
  exact truthy_prm e2 rv fun tk' => hq _ _ _ _ P
noncomputable def tNot (d : SL → Option (Bool × SL)) : SL → Option (Bool × SL) := fun σ => (d σ).map fun p => (!p.1, p.2)
theorem TT_not {x : Expr} {pos : Pos} {d : SL → Option (Bool × SL)} (h : TT prog w C x d) : TT prog w C (.UnaryOp .Not x pos) (tNot d) := .mk fun A E Q s σ σ' ad g b hA S hd hq => by
  unfold tNot at hd
  rw [Option.map_eq_some_iff] at hd
  obtain ⟨⟨b', σ1⟩, e1, hd⟩ := hd
  cases hd
  exact wpAny_isTrue_Not (h.go A E _ s σ σ1 ad g b' hA S e1 fun h' tk ad' g' P => hq _ _ _ _ P)
/-! ### items -/
noncomputable def dItem := dTwo itemV
theorem TE_item {value slice : Expr} {pos : Pos} {d1 d2 : SL → Option (V × SL)} (h1 : TE prog w C value d1) (h2 : TE prog w C slice d2) : TE prog w C (.Subscript value slice pos) (dItem d1 d2) := .mk fun A E Q s σ σ' ad g a hA S hd hq => by
  obtain ⟨x, σ1, y, e1, e2, e3⟩ := dTwo_some hd
  refine Subscript_ (h1.go A E _ s σ σ1 ad g x hA S e1 fun v h' tk ad' g' P rv => h2.go A E _ _ σ1 σ' ad' g' y hA P.st e2 fun v2 h2 tk2 ad2 g2 P2 rv2 => ?_)
  exact (item_prm P2.st.gs e3 (rv.mono P2.gext) rv2).at P2.st fun v3 h3 tk3 g3 P3 rv3 => hq _ _ _ _ _ ((P.trans P2).trans P3) rv3
/-- a part of a slice -/
structure TP (prog : Program) (w : World) (C : Cx) (e : Option Expr) (d : SL → Option (Option Int × SL)) : Prop where
  go : ∀ (A : Around) (E : Value → Shared → Prop) (Q : Value → Shared → Prop) (s : Shared) (σ σ' : SL) (ad : Nat → Addr) (g : GP) (a : Option Int), AOk C.n A → St C σ ad g s.heap → d σ = some (a, σ') →
    (∀ v h' tk ad' g', PostE C σ ad g s.heap σ' ad' g' h' → IsOpt a v → Q v { s with heap := h', toks := tk }) → wpAny (model prog w) A (evalPart e C.env) Q E s
noncomputable def pNone : SL → Option (Option Int × SL) := fun σ => some (none, σ)
theorem TP_none : TP prog w C none pNone := .mk fun A E Q s σ σ' ad g a hA S hd hq => by
  cases hd; rw [evalPart_none]; exact wpAny_pure (hq _ s.heap s.toks ad g (.refl S) rfl)
noncomputable def pSome (d : SL → Option (V × SL)) : SL → Option (Option Int × SL) := fun σ => match d σ with
  | some (.int i, σ') => some (some i, σ')
  | _ => none
theorem TP_some {e : Expr} {d : SL → Option (V × SL)} (h : TE prog w C e d) : TP prog w C (some e) (pSome d) := .mk fun A E Q s σ σ' ad g a hA S hd hq => by
  unfold pSome at hd
  split at hd
  · rename_i i σ1 e1
    cases hd; rw [evalPart_some]
    exact h.go A E Q s σ _ ad g _ hA S e1 fun v h' tk ad' g' P rv => hq v h' tk ad' g' P rv
  · cases hd
noncomputable def dSlice (d : SL → Option (V × SL)) (l u st : SL → Option (Option Int × SL)) : SL → Option (V × SL) := fun σ =>
  (d σ).bind fun p => (l p.2).bind fun q => (u q.2).bind fun r => (st r.2).bind fun t => (sliceV' p.1 q.1 r.1 t.1).map (·, t.2)
theorem IsOpt.at {o : Option Int} {v : Value} (h : IsOpt o v) : IsOpt o v := h
theorem TE_slice {value : Expr} {l u st : Option Expr} {p pos : Pos} {d : SL → Option (V × SL)} {dl du ds : SL → Option (Option Int × SL)} (h : TE prog w C value d) (hl : TP prog w C l dl) (hu : TP prog w C u du) (hs : TP prog w C st ds) :
    TE prog w C (.Subscript value (.Slice l u st p) pos) (dSlice d dl du ds) := .mk fun A E Q s σ σ' ad g a hA S hd hq => by
  unfold dSlice at hd
  rw [Option.bind_eq_some_iff] at hd
  obtain ⟨⟨x, σ1⟩, e1, hd⟩ := hd
  rw [Option.bind_eq_some_iff] at hd
  obtain ⟨⟨y, σ2⟩, e2, hd⟩ := hd
  rw [Option.bind_eq_some_iff] at hd
  obtain ⟨⟨z, σ3⟩, e3, hd⟩ := hd
  rw [Option.bind_eq_some_iff] at hd
  obtain ⟨⟨t, σ4⟩, e4, hd⟩ := hd
  rw [Option.map_eq_some_iff] at hd
  obtain ⟨r, e5, hd⟩ := hd
  cases hd
  refine Subscript_ (h.go A E _ s σ σ1 ad g x hA S e1 fun v h1 tk1 ad1 g1 P1 rv => ?_)
  refine wpAny_Slice (hl.go A E _ _ σ1 σ2 ad1 g1 y hA P1.st e2 fun vl h2 tk2 ad2 g2 P2 o2 => hu.go A E _ _ σ2 σ3 ad2 g2 z hA P2.st e3 fun vu h3 tk3 ad3 g3 P3 o3 => hs.go A E _ _ σ3 _ ad3 g3 t hA P3.st e4 fun vs h4 tk4 ad4 g4 P4 o4 => ?_)
  have P5 : PostE C _ ad4 g4 h4 _ ad4 g4 (h4.push { cls := .type "slice", data := .fields #[vl, vu, vs] }) := P4.st.grow0 (Grow.push (.refl _) _)
  refine (slice_prm (s := { s with heap := h4.push { cls := .type "slice", data := .fields #[vl, vu, vs] }, toks := tk4 }) P5.st.gs e5 (((rv.mono P2.gext).mono P3.gext).mono P4.gext) (Heap.IsSliceOf.new ..) o2 o3 o4).at P5.st fun v6 h6 tk6 g6 P6 rv6 => ?_
  exact hq _ _ _ _ _ (((((P1.trans P2).trans P3).trans P4).trans P5).trans P6) rv6
end
end Mine
-- part Rules9
set_option maxRecDepth 100000
namespace Mine
open PySem PySem.W PySem.Calls PyProof.Rows PySem.Spec PySem.SeqAt
/-! ## lists of expressions, displays, calls -/
noncomputable def trees (env : Env) (es : List Expr) : List (Bool × Sem Value) := es.map fun e => (false, eval e env)
theorem backTo_trees (pos : Pos) (env : Env) (es : List Expr) : backTo pos (trees env es) = trees env es := by
  unfold backTo trees
  rw [List.map_map]
  rfl
theorem trees_plain (env : Env) (es : List Expr) : (trees env es).any (·.1) = false := by
  induction es with
  | nil => rfl
  | cons e r ih => exact ih
theorem trees_all (env : Env) (es : List Expr) : (trees env es).all (fun x => !x.1) = true := by
  induction es with
  | nil => rfl
  | cons e r ih => exact ih
section
variable {prog : Program} {w : World} {C : Cx} {σ σ' : SL} {ad : Nat → Addr} {g : GP} {h h' : Heap}
/-- a list of arguments -/
structure TA (prog : Program) (w : World) (C : Cx) (es : List Expr) (d : SL → Option (List V × SL)) : Prop where
  plain : starEach es C.env = trees C.env es
  go : ∀ (A : Around) (E : Value → Shared → Prop) (Q : List Value → Shared → Prop) (s : Shared) (σ σ' : SL) (ad : Nat → Addr) (g : GP) (xs : List V), AOk C.n A → St C σ ad g s.heap → d σ = some (xs, σ') →
    (∀ vs h' tk ad' g', PostE C σ ad g s.heap σ' ad' g' h' → RVs g' xs vs → Q vs { s with heap := h', toks := tk }) → wpAny (model prog w) A (spliced (trees C.env es)) Q E s
noncomputable def aNil : SL → Option (List V × SL) := fun σ => some ([], σ)
theorem TA_nil : TA prog w C [] aNil := ⟨rfl, fun A E Q s σ σ' ad g xs hA S hd hq => by
  cases hd; exact spliced_nil (hq [] s.heap s.toks ad g (.refl S) rfl)⟩
noncomputable def aCons (d : SL → Option (V × SL)) (ds : SL → Option (List V × SL)) : SL → Option (List V × SL) := fun σ => (d σ).bind fun p => (ds p.2).map fun q => (p.1 :: q.1, q.2)
theorem aCons_some {d : SL → Option (V × SL)} {ds : SL → Option (List V × SL)} {xs : List V} (h : aCons d ds σ = some (xs, σ')) : ∃ x σ1 r, d σ = some (x, σ1) ∧ ds σ1 = some (r, σ') ∧ xs = x :: r := by
  unfold aCons at h
  rw [Option.bind_eq_some_iff] at h
  obtain ⟨⟨x, σ1⟩, h1, h⟩ := h
  rw [Option.map_eq_some_iff] at h
  obtain ⟨⟨y, σ2⟩, h2, h⟩ := h
  cases h
  exact ⟨x, σ1, y, h1, h2, rfl⟩
theorem TA_cons {e : Expr} {es : List Expr} {d : SL → Option (V × SL)} {ds : SL → Option (List V × SL)} (h1 : TE prog w C e d) (h2 : TA prog w C es ds) (hs : starEach (e :: es) C.env = (false, eval e C.env) :: starEach es C.env) : TA prog w C (e :: es) (aCons d ds) :=
  ⟨by rw [hs, h2.plain]; rfl, fun A E Q s σ σ' ad g xs hA S hd hq => by
    obtain ⟨x, σ1, r, e1, e2, rfl⟩ := aCons_some hd
    refine spliced_cons (h1.go A E _ s σ σ1 ad g x hA S e1 fun v h' tk ad' g' P rv => h2.go A E _ _ σ1 σ' ad' g' r hA P.st e2 fun vs h2 tk2 ad2 g2 P2 rvs => ?_)
    exact hq _ _ _ _ _ (P.trans P2) ⟨v, vs, rfl, rv.mono P2.gext, rvs⟩⟩
theorem none_at (h : Heap) : h.get? h.objs.size = none := by
  cases q : h.get? h.objs.size with
  | none => rfl
  | some o' => exact absurd (Heap.lt_size q) (Nat.lt_irrefl _)
theorem new_prm {A : Around} {s : Shared} (hg : GS g s.heap) {xs : List V} {vs : List Value} (hr : RVs g xs vs) (hn : xs.length ≤ big) : Prm prog w A (newList vs) s g (.list xs) :=
  Prm.put hg fun E Q h => wpAny_newObj_type (h _ _ s.toks s.heap.objs.size _ (Grow.push (.refl _) _) (none_at _) (Heap.get?_push_size _ rfl) (.inl ⟨_, _, rfl⟩) ⟨_, vs, rfl, ⟨_, gput_self, rfl, _, rfl⟩, hr.mono (gput_ext (by
    cases q : g s.heap.objs.size with
    | none => rfl
    | some o' => exact absurd (Heap.lt_size (hg _ o' q).1) (Nat.lt_irrefl _)))⟩) (by have h22 : big = 4194304 := rfl; show vs.toArray.size ≤ sizeLine; rw [List.size_toArray, hr.length, sizeLine_eq]; omega)
theorem newT_prm {A : Around} {s : Shared} (hg : GS g s.heap) {xs : List V} {vs : List Value} (hr : RVs g xs vs) (hn : xs.length ≤ big) : Prm prog w A (newTuple vs) s g (.tup xs) :=
  Prm.put hg fun E Q h => wpAny_newObj_type (h _ _ s.toks s.heap.objs.size _ (Grow.push (.refl _) _) (none_at _) (Heap.get?_push_size _ rfl) (.inl ⟨_, _, rfl⟩) ⟨_, vs, rfl, ⟨_, gput_self, rfl, _, rfl⟩, hr.mono (gput_ext (by
    cases q : g s.heap.objs.size with
    | none => rfl
    | some o' => exact absurd (Heap.lt_size (hg _ o' q).1) (Nat.lt_irrefl _)))⟩) (by have h22 : big = 4194304 := rfl; show vs.toArray.size ≤ sizeLine; rw [List.size_toArray, hr.length, sizeLine_eq]; omega)
noncomputable def dList (ds : SL → Option (List V × SL)) : SL → Option (V × SL) := fun σ => (ds σ).bind fun p => if p.1.length ≤ big then some (.list p.1, p.2) else none
theorem dWith_some {f : List V → V} {ds : SL → Option (List V × SL)} {a : V} (h : ((ds σ).bind fun p => if p.1.length ≤ big then some (f p.1, p.2) else none) = some (a, σ')) : ∃ xs, ds σ = some (xs, σ') ∧ xs.length ≤ big ∧ a = f xs := by
  rw [Option.bind_eq_some_iff] at h
  obtain ⟨⟨x, σ1⟩, h1, h⟩ := h
  split at h
  · rename_i hc
    cases h; exact ⟨x, h1, hc, rfl⟩
  · cases h
theorem TE_list {es : List Expr} {pos : Pos} {ds : SL → Option (List V × SL)} (h : TA prog w C es ds) : TE prog w C (.List es pos) (dList ds) := .mk fun A E Q s σ σ' ad g a hA S hd hq => by
  obtain ⟨xs, e1, hn, rfl⟩ := dWith_some hd
  refine List_ ?_
  rw [h.plain, backTo_trees]
  refine h.go A E _ s σ σ' ad g xs hA S e1 fun vs h' tk ad' g' P rvs => ?_
  exact (new_prm P.st.gs rvs hn).at P.st fun v3 h3 tk3 g3 P3 rv3 => hq _ _ _ _ _ (P.trans P3) rv3
noncomputable def dTup (ds : SL → Option (List V × SL)) : SL → Option (V × SL) := fun σ => (ds σ).bind fun p => if p.1.length ≤ big then some (.tup p.1, p.2) else none
theorem TE_tup {es : List Expr} {k : Nat} {pos : Pos} {ds : SL → Option (List V × SL)} (h : TA prog w C es ds) : TE prog w C (.Tuple es k pos) (dTup ds) := .mk fun A E Q s σ σ' ad g a hA S hd hq => by
  obtain ⟨xs, e1, hn, rfl⟩ := dWith_some hd
  refine Tuple_ ?_
  rw [h.plain, backTo_trees]
  refine h.go A E _ s σ σ' ad g xs hA S e1 fun vs h' tk ad' g' P rvs => ?_
  exact (newT_prm P.st.gs rvs hn).at P.st fun v3 h3 tk3 g3 P3 rv3 => hq _ _ _ _ _ (P.trans P3) rv3
noncomputable def dIf (t : SL → Option (Bool × SL)) (d1 d2 : SL → Option (V × SL)) : SL → Option (V × SL) := fun σ => (t σ).bind fun p => if p.1 then d1 p.2 else d2 p.2
theorem TE_if {t b o : Expr} {pos : Pos} {dt : SL → Option (Bool × SL)} {d1 d2 : SL → Option (V × SL)} (ht : TT prog w C t dt) (h1 : TE prog w C b d1) (h2 : TE prog w C o d2) : TE prog w C (.IfExp t b o pos) (dIf dt d1 d2) := .mk fun A E Q s σ σ' ad g a hA S hd hq => by
  unfold dIf at hd
  rw [Option.bind_eq_some_iff] at hd
  obtain ⟨⟨c, σ1⟩, e1, hd⟩ := hd
  refine wpAny_IfExp (ht.go A E _ s σ σ1 ad g c hA S e1 fun h' tk ad' g' P => ?_)
  cases c with
  | true => exact h1.go A E _ _ σ1 σ' ad' g' a hA P.st hd fun v h2 tk2 ad2 g2 P2 rv => hq _ _ _ _ _ (P.trans P2) rv
  | false => exact h2.go A E _ _ σ1 σ' ad' g' a hA P.st hd fun v h2 tk2 ad2 g2 P2 rv => hq _ _ _ _ _ (P.trans P2) rv
/-! ### names of the module, calls -/
theorem name_glob {A : Around} {E : Value → Shared → Prop} {Q : Value → Shared → Prop} {s : Shared} {x : Str} {np : Pos} {v : Value} (hC : CxOk C) (hx : C.env.kindOf x = some .globalImplicit) (hd : (x == ("__debug__" : Str)) = false) (gv : GV C.base x v) (k : Grow C.base s.heap) (h : Q v s) :
    wpAny (model prog w) A (eval (.Name x np) C.env) Q E s := by
  obtain ⟨mg, mb, n1, n2, e⟩ := gv
  refine Name_function_global hC.kind hx ?_ hd
  rcases e with e | ⟨e1, e2⟩
  · exact loadGlobal_global (by rw [hC.glob]; exact n1.keeps k) e h
  · exact loadGlobal_builtin (by rw [hC.glob]; exact n1.keeps k) e1 (by rw [hC.blt]; exact n2.keeps k) e2 h
noncomputable def dCall (f : List V → Option V) (ds : SL → Option (List V × SL)) : SL → Option (V × SL) := fun σ => (ds σ).bind fun p => (f p.1).map (·, p.2)
theorem dCall_some {f : List V → Option V} {ds : SL → Option (List V × SL)} {a : V} (h : dCall f ds σ = some (a, σ')) : ∃ xs, ds σ = some (xs, σ') ∧ f xs = some a := by
  unfold dCall at h
  rw [Option.bind_eq_some_iff] at h
  obtain ⟨⟨x, σ1⟩, h1, h⟩ := h
  rw [Option.map_eq_some_iff] at h
  obtain ⟨r, h3, h⟩ := h
  cases h
  exact ⟨x, h1, h3⟩
theorem evalArgs_trees {A : Around} {E : Value → Shared → Prop} {s : Shared} {f : Value} {es : List Expr} {env : Env} {Q : Args → Shared → Prop} (h : wpAny (model prog w) A (spliced (trees env es)) (fun vs s' => Q ⟨vs, []⟩ s') E s) : wpAny (model prog w) A (evalArgs f true (trees env es) []) Q E s := by
  cases es with
  | nil =>
    unfold evalArgs
    show wpAny _ A (spliced [] >>= _) Q E s
    refine wpAny_bind (wpAny_mono h (fun vs s' h' => ?_) fun _ _ x => x)
    refine wpAny_bind (wpAny_pure ?_)
    refine wpAny_holding ?_
    exact wpAny_bind (wpAny_pure (wpAny_bind (wpAny_pure (wpAny_pure h'))))
  | cons e r => exact evalArgs_plain h

theorem TE_bf {x : Str} {np pos : Pos} {f : BF} {es : List Expr} {ds : SL → Option (List V × SL)} (hC : CxOk C) (hx : C.env.kindOf x = some .globalImplicit) (hd : (x == ("__debug__" : Str)) = false) (gv : GV C.base x f.val) (h : TA prog w C es ds) :
    TE prog w C (.Call (.Name x np) es [] pos) (dCall (bfV f) ds) := .mk fun A E Q s σ σ' ad g a hA S hd' hq => by
  obtain ⟨xs, e1, e2⟩ := dCall_some hd'
  refine Call_Name (by rw [h.plain, backTo_trees]) (name_glob hC hx hd gv S.hbase ?_)
  have fin : wpAny (model prog w) A (spliced (trees C.env es)) (fun vs s₁ => wpAny (model prog w) A (call f.val ([] ++ vs)) Q E s₁) E s := by
    refine h.go A E _ s σ σ' ad g xs hA S e1 fun vs h' tk ad' g' P rvs => ?_
    exact (bf_prm P.st.gs hA.handled e2 rvs).at P.st fun v3 h3 tk3 g3 P3 rv3 => hq _ _ _ _ _ (P.trans P3) rv3
  cases f <;> first | exact Calls.callWith_builtin (trees_plain _ _) (evalArgs_trees fin) | exact PySem.callWith_type (trees_plain _ _) (evalArgs_trees fin)
/-- a call of a function of the module -/
theorem TE_fn {x : Str} {np pos : Pos} {fa : Addr} {o : Obj} {fd : FuncData} {n : Nat} {φ : List V → Option V} {es : List Expr} {ds : SL → Option (List V × SL)} (hC : CxOk C) (hx : C.env.kindOf x = some .globalImplicit) (hd : (x == ("__debug__" : Str)) = false)
    (gv : GV C.base x (.ref fa)) (ho : C.base.get? fa = some o) (hf : o.data = .func fd) (sp : FunSpec prog w C.base n (.ref fa) φ) (hn : n ≤ C.n) (h : TA prog w C es ds) :
    TE prog w C (.Call (.Name x np) es [] pos) (dCall φ ds) := .mk fun A E Q s σ σ' ad g a hA S hd' hq => by
  obtain ⟨xs, e1, e2⟩ := dCall_some hd'
  refine Call_Name (by rw [h.plain, backTo_trees]) (name_glob hC hx hd gv S.hbase ?_)
  refine Calls.callWith_function (o := o) (fd := fd) (evalArgs_trees (h.go A E _ s σ σ' ad g xs hA S e1 fun vs h' tk ad' g' P rvs => ⟨⟨P.st.hbase _ _ ho, hf⟩, ?_⟩))
  have pr : Prm prog w A (call (.ref fa) ([] ++ vs)) { s with heap := h', toks := tk } g' a := fun E Q k => sp A E Q _ g' vs xs a (hA.mono hn).toF P.st.hbase P.st.gs rvs e2 fun v h'' tk'' g'' a1 a2 a3 a4 a5 => k v h'' tk'' g'' a1 a2 a3 a4 a5
  exact pr.at P.st fun v3 h3 tk3 g3 P3 rv3 => hq _ _ _ _ _ (P.trans P3) rv3
/-! ### methods of str -/
noncomputable def IsMeth (name : Str) (f : BF) : Prop := ∃ id, f.val = .builtin id ∧ PySem.Slot "str" name id ∧ typeOf (.builtin id) = pure (.type "method_descriptor")
theorem meth_lower : IsMeth "lower" .lower := ⟨_, rfl, F.slot_str_lower, F.type_str_lower⟩
theorem meth_join : IsMeth "join" .join := ⟨_, rfl, F.slot_str_join, F.type_str_join⟩
theorem meth_startswith : IsMeth "startswith" .startswith := ⟨_, rfl, F.slot_str_startswith, F.type_str_startswith⟩
theorem meth_endswith : IsMeth "endswith" .endswith := ⟨_, rfl, F.slot_str_endswith, F.type_str_endswith⟩
theorem meth_find : IsMeth "find" .find := ⟨_, rfl, F.slot_str_find, F.type_str_find⟩
noncomputable def dMeth (f : BF) (d : SL → Option (V × SL)) (ds : SL → Option (List V × SL)) : SL → Option (V × SL) := fun σ => match d σ with
  | some (.str x, σ1) => (ds σ1).bind fun p => (bfV f (.str x :: p.1)).map (·, p.2)
  | _ => none
theorem TE_meth {o : Expr} {name : Str} {apos pos : Pos} {f : BF} {es : List Expr} {d : SL → Option (V × SL)} {ds : SL → Option (List V × SL)} (hm : IsMeth name f) (ho : TE prog w C o d) (h : TA prog w C es ds)
    (hbase : attributeBase o name C.env (eval o C.env) = eval o C.env) (hline : (apos.endLine == pos.line) = true) (hfew : es.length < 30) :
    TE prog w C (.Call (.Attribute o name apos) es [] pos) (dMeth f d ds) := .mk fun A E Q s σ σ' ad g a hA S hd' hq => by
  unfold dMeth at hd'
  split at hd'
  · rename_i x σ1 e0
    rw [Option.bind_eq_some_iff] at hd'
    obtain ⟨⟨xs, σ2⟩, e1, hd'⟩ := hd'
    rw [Option.map_eq_some_iff] at hd'
    obtain ⟨r, e2, hd'⟩ := hd'
    cases hd'
    obtain ⟨id, hid, slot, ty⟩ := hm
    refine wpAny_Call_method_lateS hbase ?_ hline (ho.go A E _ s σ σ1 ad g _ hA S e0 fun v h' tk ad' g' P rv => ?_)
    · rw [h.plain, backTo_trees, trees_all]
      simp [backToKw, keywordEach]; omega
    · obtain ⟨t, rfl⟩ := rv
      refine ⟨"str", id, F.plainAttrs_str, slot, ty, typeIs_str _ _ _, (fun _ e => nomatch e), ?_⟩
      rw [h.plain, backTo_trees]
      refine Calls.callWith_builtin (trees_plain _ _) (evalArgs_trees (h.go A E _ _ σ1 σ2 ad' g' xs hA P.st e1 fun vs h2 tk2 ad2 g2 P2 rvs => ?_))
      have := bf_prm (prog := prog) (w := w) P2.st.gs hA.handled e2 (vs := .str (mkS x) t :: vs) ⟨_, _, rfl, ⟨_, rfl⟩, rvs⟩ (A := A) (s := { s with heap := h2, toks := tk2 })
      rw [hid] at this
      exact this.at P2.st fun v3 h3 tk3 g3 P3 rv3 => hq _ _ _ _ _ ((P.trans P2).trans P3) rv3
  · cases hd'
end
end Mine
-- part Rules10
set_option maxRecDepth 100000
namespace Mine
open PySem PySem.W PySem.Calls PyProof.Rows PySem.Spec PySem.SeqAt
/-! ## statements -/
section
variable {prog : Program} {w : World} {C : Cx} {σ σ' : SL} {ad : Nat → Addr} {g : GP} {h h' : Heap}
/-- a statement's triple -/
structure TX (prog : Program) (w : World) (C : Cx) (b : Stmt) (d : SL → Option Out) : Prop where
  go : ∀ (A : Around) (E : Value → Shared → Prop) (Q : Flow → Shared → Prop) (s : Shared) (σ : SL) (ad : Nat → Addr) (g : GP) (o : Out), AOk C.n A → St C σ ad g s.heap → d σ = some o →
    (∀ f h' tk ad' g', Post C σ ad g s.heap o.flow.1 ad' g' h' → o.flow.2 f g' → Q f { s with heap := h', toks := tk }) → wpAny (model prog w) A (exec b C.env) Q E s
noncomputable def sNil : SL → Option Out := fun σ => some (.next σ)
theorem TS_nil : TS prog w C [] sNil := .mk fun A E Q s σ ad g o hA S hd hq => by
  cases hd; exact wpAny_execs_nil (hq _ s.heap s.toks ad g (.refl S) rfl)
noncomputable def sSeq (d1 d2 : SL → Option Out) : SL → Option Out := fun σ => match d1 σ with
  | some (.next σ1) => d2 σ1
  | r => r
theorem TS_cons {st : Stmt} {rest : List Stmt} {d1 d2 : SL → Option Out} (h1 : TX prog w C st d1) (h2 : TS prog w C rest d2) : TS prog w C (st :: rest) (sSeq d1 d2) := .mk fun A E Q s σ ad g o hA S hd hq => by
  unfold sSeq at hd
  refine wpAny_execs_cons ?_
  split at hd
  · rename_i σ1 e1
    refine h1.go A E _ s σ ad g (.next σ1) hA S e1 fun f h' tk ad' g' P hf => ?_
    subst hf
    exact h2.go A E Q _ σ1 ad' g' o hA P.st hd fun f2 h2 tk2 ad2 g2 P2 hf2 => hq _ _ _ _ _ (P.trans P2) hf2
  · rename_i hn
    refine h1.go A E _ s σ ad g o hA S hd fun f h' tk ad' g' P hf => ?_
    cases o with
    | next σ1 => exact absurd hd (hn σ1)
    | brk σ1 => have : f = .brk := hf; subst this; exact hq _ _ _ _ _ P rfl
    | cont σ1 => have : f = .cont := hf; subst this; exact hq _ _ _ _ _ P rfl
    | ret a σ1 => obtain ⟨v, rfl, rv⟩ := hf; exact hq _ _ _ _ _ P ⟨v, rfl, rv⟩
noncomputable def sIf (t : SL → Option (Bool × SL)) (d1 d2 : SL → Option Out) : SL → Option Out := fun σ => (t σ).bind fun p => if p.1 then d1 p.2 else d2 p.2
theorem TX_if {t : Expr} {b o : List Stmt} {pos : Pos} {dt : SL → Option (Bool × SL)} {d1 d2 : SL → Option Out} (ht : TT prog w C t dt) (h1 : TS prog w C b d1) (h2 : TS prog w C o d2) : TX prog w C (.If t b o pos) (sIf dt d1 d2) := .mk fun A E Q s σ ad g r hA S hd hq => by
  unfold sIf at hd
  rw [Option.bind_eq_some_iff] at hd
  obtain ⟨⟨c, σ1⟩, e1, hd⟩ := hd
  refine wpAny_If (ht.go A E _ s σ σ1 ad g c hA S e1 fun h' tk ad' g' P => ?_)
  cases c with
  | true => exact h1.go A E Q _ σ1 ad' g' r hA P.st hd fun f h2 tk2 ad2 g2 P2 hf => hq _ _ _ _ _ (P.toPost.trans P2) hf
  | false => exact h2.go A E Q _ σ1 ad' g' r hA P.st hd fun f h2 tk2 ad2 g2 P2 hf => hq _ _ _ _ _ (P.toPost.trans P2) hf
noncomputable def sRet (d : SL → Option (V × SL)) : SL → Option Out := fun σ => (d σ).map fun p => .ret p.1 p.2
theorem TX_ret {e : Expr} {pos : Pos} {d : SL → Option (V × SL)} (h : TE prog w C e d) : TX prog w C (.Return (some e) pos) (sRet d) := .mk fun A E Q s σ ad g r hA S hd hq => by
  unfold sRet at hd
  rw [Option.map_eq_some_iff] at hd
  obtain ⟨⟨a, σ1⟩, e1, hd⟩ := hd
  cases hd
  exact wpAny_Return_some (h.go A E _ s σ σ1 ad g a hA S e1 fun v h' tk ad' g' P rv => hq _ _ _ _ _ P.toPost ⟨v, rfl, rv⟩)
noncomputable def sBrk : SL → Option Out := fun σ => some (.brk σ)
theorem TX_brk {pos : Pos} : TX prog w C (.Break pos) sBrk := .mk fun A E Q s σ ad g r hA S hd hq => by
  cases hd; exact wpAny_Break (hq _ s.heap s.toks ad g (.refl S) rfl)
noncomputable def sAssert (t : SL → Option (Bool × SL)) : SL → Option Out := fun σ => match t σ with
  | some (true, σ1) => some (.next σ1)
  | _ => none
theorem TX_assert {t : Expr} {m : Option Expr} {pos : Pos} {dt : SL → Option (Bool × SL)} (ht : TT prog w C t dt) : TX prog w C (.Assert t m pos) (sAssert dt) := .mk fun A E Q s σ ad g r hA S hd hq => by
  unfold sAssert at hd
  split at hd
  · rename_i σ1 e1
    cases hd
    exact wpAny_Assert_holds (ht.go A E _ s σ σ1 ad g true hA S e1 fun h' tk ad' g' P => ⟨rfl, hq _ _ _ _ _ P.toPost rfl⟩)
  · cases hd
noncomputable abbrev Storable (C : Cx) (i : Nat) (x : Str) : Prop := C.ns[i]? = some x ∧ (C.env.kindOf x = some .local ∨ (C.env.kindOf x = some .cell ∧ C.mu = true))
noncomputable def sAsg (i : Nat) (d : SL → Option (V × SL)) : SL → Option Out := fun σ => (d σ).map fun p => .next (p.2.set i (.val p.1))
theorem TX_asg {x : Str} {i : Nat} {e : Expr} {p pos : Pos} {d : SL → Option (V × SL)} (hC : CxOk C) (hx : Storable C i x) (h : TE prog w C e d) (hs : swapsWith e (some (.Name x p)) pos.line C.env = pure false) :
    TX prog w C (.Assign [.Name x p] e pos) (sAsg i d) := .mk fun A E Q s σ ad g r hA S hd hq => by
  unfold sAsg at hd
  rw [Option.map_eq_some_iff] at hd
  obtain ⟨⟨a, σ1⟩, e1, hd⟩ := hd
  cases hd
  refine wpAny_Assign_Name (h.go A E _ s σ σ1 ad g a hA S e1 fun v h' tk ad' g' P rv => ?_) hs
  exact store_val (s := { s with heap := h', toks := tk }) hC P.toPost hx.1 hx.2 rv fun h2 tk2 ad2 P2 => hq _ _ _ _ _ P2 rfl
noncomputable def inpV : Operator → V → V → Option V
  | .Add, .int a, .int b => some (.int (a + b))
  | .Sub, .int a, .int b => some (.int (a - b))
  | _, _, _ => none
noncomputable def sAug (i : Nat) (op : Operator) (d : SL → Option (V × SL)) : SL → Option Out := fun σ => match σ[i]? with
  | some (.val a) => (d σ).bind fun p => (inpV op a p.1).map fun r => .next (p.2.set i (.val r))
  | _ => none
theorem TX_aug {x : Str} {i : Nat} {op : Operator} {e : Expr} {p pos : Pos} {d : SL → Option (V × SL)} (hC : CxOk C) (hx : Storable C i x) (h : TE prog w C e d) :
    TX prog w C (.AugAssign (.Name x p) op e pos) (sAug i op d) := .mk fun A E Q s σ ad g r hA S hd hq => by
  unfold sAug at hd
  split at hd
  · rename_i a ha
    rw [Option.bind_eq_some_iff] at hd
    obtain ⟨⟨b, σ1⟩, e1, hd⟩ := hd
    rw [Option.map_eq_some_iff] at hd
    obtain ⟨c, e2, hd⟩ := hd
    cases hd
    obtain ⟨m, hn, hv⟩ := S.vars
    obtain ⟨ov, a1, v, rfl, rv⟩ := hv i x _ hx.1 ha
    refine wpAny_AugAssign_Name (load_at hC hn a1 (h.go A E _ s σ σ1 ad g b hA S e1 fun v2 h' tk ad' g' P rv2 => ?_))
    replace e2 : inpV op a b = some c := e2
    unfold inpV at e2
    split at e2
    · cases e2; obtain ⟨t, rfl⟩ := rv; obtain ⟨u, rfl⟩ := rv2
      refine PyProof.Rows.iadd_int ?_
      exact store_val (s := { s with heap := h', toks := _ }) (a := .int _) hC P.toPost hx.1 hx.2 ⟨_, rfl⟩ fun h2 tk2 ad2 P2 => hq _ _ _ _ _ P2 rfl
    · cases e2; obtain ⟨t, rfl⟩ := rv; obtain ⟨u, rfl⟩ := rv2
      refine PyProof.Rows.isub_int ?_
      exact store_val (s := { s with heap := h', toks := _ }) (a := .int _) hC P.toPost hx.1 hx.2 ⟨_, rfl⟩ fun h2 tk2 ad2 P2 => hq _ _ _ _ _ P2 rfl
    · cases e2
  · cases hd
/-! ### while -/
noncomputable def sWhile (t : SL → Option (Bool × SL)) (b o : SL → Option Out) : Nat → SL → Option Out
  | 0, _ => none
  | n + 1, σ => (t σ).bind fun p => if p.1 then (match b p.2 with
      | some (.next σ2) => sWhile t b o n σ2
      | some (.cont σ2) => sWhile t b o n σ2
      | some (.brk σ2) => some (.next σ2)
      | r => r) else o p.2
theorem TX_while {t : Expr} {b o : List Stmt} {pos : Pos} {dt : SL → Option (Bool × SL)} {db dn : SL → Option Out} (ht : TT prog w C t dt) (hb : TS prog w C b db) (ho : TS prog w C o dn) (n : Nat) : TX prog w C (.While t b o pos) (sWhile dt db dn n) := .mk fun A E Q s σ ad g r hA S hd hq => by
  refine wpAny_While (codeAny_whileLoop (fun k s' => ∃ h' tk σ' ad' g', s' = { s with heap := h', toks := tk } ∧ Post C σ ad g s.heap σ' ad' g' h' ∧ sWhile dt db dn k σ' = some r) (fun k s' hI => ?_) n ⟨s.heap, s.toks, σ, ad, g, rfl, .refl S, hd⟩)
  obtain ⟨h', tk, σ1, ad1, g1, rfl, P1, e1⟩ := hI
  cases k with
  | zero => cases e1
  | succ k =>
    rw [sWhile, Option.bind_eq_some_iff] at e1
    obtain ⟨⟨c, σ2⟩, e2, e1⟩ := e1
    refine ht.go A _ _ _ σ1 σ2 ad1 g1 c hA P1.st e2 fun h2 tk2 ad2 g2 P2 => ?_
    cases c with
    | false => exact ho.go A _ _ _ σ2 ad2 g2 r hA P2.st e1 fun f h3 tk3 ad3 g3 P3 hf => hq _ _ _ _ _ ((P1.trans P2.toPost).trans P3) hf
    | true =>
      rw [if_pos rfl]
      simp only [if_true] at e1
      split at e1
      · rename_i σ3 e3
        refine hb.go A _ _ _ σ2 ad2 g2 _ hA P2.st e3 fun f h3 tk3 ad3 g3 P3 hf => ?_
        have : f = .next := hf
        subst this
        exact ⟨k, Nat.lt_succ_self k, _, _, _, _, _, rfl, (P1.trans P2.toPost).trans P3, e1⟩
      · rename_i σ3 e3
        refine hb.go A _ _ _ σ2 ad2 g2 _ hA P2.st e3 fun f h3 tk3 ad3 g3 P3 hf => ?_
        have : f = .cont := hf
        subst this
        exact ⟨k, Nat.lt_succ_self k, _, _, _, _, _, rfl, (P1.trans P2.toPost).trans P3, e1⟩
      · rename_i σ3 e3
        cases e1
        refine hb.go A _ _ _ σ2 ad2 g2 _ hA P2.st e3 fun f h3 tk3 ad3 g3 P3 hf => ?_
        have : f = .brk := hf
        subst this
        exact hq _ _ _ _ _ ((P1.trans P2.toPost).trans P3) rfl
      · rename_i n1 n2 n3
        refine hb.go A _ _ _ σ2 ad2 g2 _ hA P2.st e1 fun f h3 tk3 ad3 g3 P3 hf => ?_
        cases r with
        | next q => exact absurd e1 (n1 q)
        | cont q => exact absurd e1 (n2 q)
        | brk q => exact absurd e1 (n3 q)
        | ret a q => obtain ⟨v, rfl, rv⟩ := hf; exact hq _ _ _ _ _ ((P1.trans P2.toPost).trans P3) ⟨v, rfl, rv⟩
end
end Mine
-- part Rules11
set_option maxRecDepth 100000
namespace Mine
open PySem PySem.W PySem.Calls PyProof.Rows PySem.Spec PySem.SeqAt
/-! ## iteration -/
section
variable {prog : Program} {w : World} {C : Cx} {σ σ' σ₀ : SL} {ad ad' ad₀ : Nat → Addr} {g g' g₀ : GP} {h h' h₀ : Heap}
theorem St.not_mut (S : St C σ ad g h) {I : Addr} {oI : Obj} {vs : Array Value} (hI : h.get? I = some oI) (hd : oI.data = .fields vs) : ¬ Mut C σ ad I := fun hb => by
  obtain ⟨o, e, r⟩ := S.mutCase hb
  rw [hI] at e
  cases e
  rcases r with ⟨_, es, ep, r⟩ | ⟨ov, r⟩ | ⟨i, xs, it, n, _, _, r⟩ <;> (rw [hd] at r; cases r)
theorem Post.touch (S₀ : St C σ₀ ad₀ g₀ h₀) (P : Post C σ₀ ad₀ g₀ h₀ σ ad g h) {I : Addr} {oI : Obj} {vs : Array Value} (hI₀ : h₀.get? I = none) (hI : h.get? I = some oI) (hd : oI.data = .fields vs) (hc : oI.cls ≠ .type "range")
    (keep : ∀ b o, b ∉ [I] → h.get? b = some o → h'.get? b = some o) : Post C σ₀ ad₀ g₀ h₀ σ ad g h' where
  st := {
    gsub := fun a o e => by
      obtain ⟨e1, e2⟩ := P.st.gsub a o e
      refine ⟨keep a o ?_ e1, e2⟩
      intro hm
      rw [List.mem_singleton] at hm
      subst hm
      rw [hI] at e1
      cases e1
      rcases e2 with ⟨it, n, e3⟩ | ⟨e3, _⟩
      · rw [hd] at e3; cases e3
      · exact hc e3
    hbase := fun b o e => by
      refine keep b o ?_ (P.st.hbase b o e)
      intro hm
      rw [List.mem_singleton] at hm
      subst hm
      have := S₀.hbase _ o e
      rw [hI₀] at this; cases this
    mutNew := fun b hb => by
      obtain ⟨h1, h2, o, h3⟩ := P.st.mutNew b hb
      refine ⟨h1, h2, ?_⟩
      by_cases q : b = I
      · subst q; exact absurd hb (P.st.not_mut hI hd)
      · exact ⟨o, keep b o (by simpa using q) h3⟩
    vars := by
      obtain ⟨m, hn, hv⟩ := P.st.vars
      have kp : ∀ (b : Addr) (o : Obj), h.get? b = some o → (∀ vs', o.data ≠ .fields vs') → h'.get? b = some o := fun b o e hne => keep b o (by
        intro hm
        rw [List.mem_singleton] at hm
        subst hm
        rw [hI] at e
        cases e
        exact hne _ hd) e
      refine ⟨m, ?_, fun i x sl h1 h2 => ?_⟩
      · obtain ⟨o, es, ep, e1, e2, e3⟩ := hn
        exact ⟨o, es, ep, kp _ o e1 (fun vs' e4 => by rw [e2] at e4; cases e4), e2, e3⟩
      · obtain ⟨ov, a1, a2⟩ := hv i x sl h1 h2
        refine ⟨ov, ?_, ?_⟩
        · rcases a1 with a1 | ⟨b1, b0, c, b3, o, e1, e2⟩
          · exact .inl a1
          · exact .inr ⟨b1, b0, c, b3, o, kp c o e1 (fun vs' e4 => by rw [e2] at e4; cases e4), e2⟩
        · refine a2.mono (.refl g) fun o e hown => ?_
          obtain ⟨xs, rfl⟩ := hown
          obtain ⟨_, ws, n, e5, _⟩ := a2
          exact kp _ o e (fun vs' e4 => by rw [e5] at e; cases e; cases e4)
    len := P.st.len
    inj := P.st.inj
    cells := P.st.cells }
  keep := fun b o e n => by
    obtain ⟨e1, e2⟩ := P.keep b o e n
    refine ⟨keep b o ?_ e1, e2⟩
    intro hm
    rw [List.mem_singleton] at hm
    subst hm
    rw [hI₀] at e; cases e
  gext := P.gext
  gnew := P.gnew
noncomputable abbrev itTypes : List String := ["list_iterator", "tuple_iterator", "str_ascii_iterator", "str_iterator", "range_iterator"]
noncomputable def IsIt (h : Heap) (I : Addr) : Prop := ∃ o T vs, h.get? I = some o ∧ o.cls = .type T ∧ T ∈ itTypes ∧ o.data = .fields vs
theorem IsIt.cls {o : Obj} {T : String} (e : o.cls = .type T) (m : T ∈ itTypes) : o.cls ≠ .type "range" := by
  rw [e]; intro q; cases q
  exact absurd m (by decide)
structure Itr (prog : Program) (w : World) (A : Around) (g : GP) (xs : List V) (I : Addr) (fp : List Addr) (P : Nat → Value → Prop) (St' : Nat → Heap → Prop) : Prop where
  walks : Walks prog w A I fp [I] xs.length P St'
  data : ∀ i h, St' i h → IsIt h I
  rep : ∀ i v x, P i v → xs[i]? = some x → RV g x v
  fpOk : ∀ b ∈ fp, b = I ∨ ∃ o, g b = some o
noncomputable def iterV : V → Option (List V)
  | .list xs => some xs
  | .tup xs => some xs
  | .str x => some (x.map fun c => .str [c])
  | .rng a b => if -(2 ^ 20 : Int) ≤ a ∧ a ≤ 2 ^ 20 ∧ -(2 ^ 20 : Int) ≤ b ∧ b ≤ 2 ^ 20 then some (rngL a b) else none
  | _ => none
theorem small_rng {a b : Int} (hc : -(2 ^ 20 : Int) ≤ a ∧ a ≤ 2 ^ 20 ∧ -(2 ^ 20 : Int) ≤ b ∧ b ≤ 2 ^ 20) : Builtin.Range.small a b 1 = true := by
  have hsz : Builtin.Range.rangeSize a b 1 = ((b - a).toNat : Int) := by rw [rangeSize_one]; split <;> omega
  have fit : ∀ k : Int, -(2 ^ 22 : Int) ≤ k → k ≤ 2 ^ 22 → Builtin.Range.rangeFitsLong k = true := fun k h1 h2 => by
    unfold Builtin.Range.rangeFitsLong
    simp only [Bool.and_eq_true, decide_eq_true_eq]
    omega
  unfold Builtin.Range.small
  rw [hsz, fit a (by omega) (by omega), fit b (by omega) (by omega), fit 1 (by omega) (by omega), fit _ (by omega) (by omega), if_pos (by decide), fit _ (by omega) (by omega)]
  simp
/-- an iterator is made -/
theorem iter_go {A : Around} {E : Value → Shared → Prop} {Q : Value → Shared → Prop} {s : Shared} {a : V} {v : Value} {xs : List V} (hg : GS g s.heap) (hh : A.handled = none) (hi : iterV a = some xs) (rv : RV g a v)
    (hq : ∀ I h' fp P St', s.heap.get? I = none → Grow s.heap h' → Itr prog w A g xs I fp P St' → St' 0 h' → Q (.ref I) { s with heap := h' }) : wpAny (model prog w) A (pyIter v) Q E s := by
  have hnew := none_at s.heap
  unfold iterV at hi
  split at hi
  · cases hi
    obtain ⟨l, ws, rfl, hl, hws⟩ := rv
    have hL := isList_of hg hl
    have hne : l ≠ s.heap.objs.size := by
      intro q; subst q
      obtain ⟨o, ho, _⟩ := hL
      rw [hnew] at ho; cases ho
    have e : ws.toArray.size = xs.length := (show ws.toArray.size = ws.length from rfl).trans hws.length
    have W := Walks.list (prog := prog) (w := w) (A := A) hh s.heap.objs.size l hne ws.toArray
    rw [e] at W
    refine wpAny_pyIter_list hL (hq _ _ _ _ _ hnew (Grow.push (.refl _) _) (Itr.mk W (fun i h st => ?_) (fun i v x h1 h2 => ?_) fun b hb => ?_) ⟨⟨_, Heap.get?_push_size _ rfl, rfl, rfl⟩, hL.push _⟩)
    · obtain ⟨⟨o, e1, e2, e3⟩, _⟩ := st
      exact ⟨o, _, _, e1, e2, by decide, e3⟩
    · obtain ⟨v', h3, h4⟩ := hws.get' h2
      rw [h1] at h3; cases h3; exact h4
    · rw [List.mem_cons, List.mem_singleton] at hb
      rcases hb with hb | hb
      · exact .inl hb
      · subst hb; obtain ⟨o, ho, _⟩ := hl; exact .inr ⟨o, ho⟩
  · cases hi
    obtain ⟨l, ws, rfl, hl, hws⟩ := rv
    have hL : s.heap.IsTuple l ws.toArray := isTup_of hg hl
    have hne : l ≠ s.heap.objs.size := by
      intro q; subst q
      obtain ⟨o, ho, _⟩ := hL
      rw [hnew] at ho; cases ho
    have e : ws.toArray.size = xs.length := (show ws.toArray.size = ws.length from rfl).trans hws.length
    have W := Walks.tuple (prog := prog) (w := w) (A := A) hh s.heap.objs.size l hne ws.toArray
    rw [e] at W
    refine wpAny_pyIter_tuple hL (hq _ _ _ _ _ hnew (Grow.push (.refl _) _) (Itr.mk W (fun i h st => ?_) (fun i v x h1 h2 => ?_) fun b hb => ?_) ⟨⟨_, Heap.get?_push_size _ rfl, rfl, rfl⟩, hL.push _⟩)
    · obtain ⟨⟨o, e1, e2, e3⟩, _⟩ := st
      exact ⟨o, _, _, e1, e2, by decide, e3⟩
    · obtain ⟨v', h3, h4⟩ := hws.get' h2
      rw [h1] at h3; cases h3; exact h4
    · rw [List.mem_cons, List.mem_singleton] at hb
      rcases hb with hb | hb
      · exact .inl hb
      · subst hb; obtain ⟨o, ho, _⟩ := hl; exact .inr ⟨o, ho⟩
  · rename_i x
    cases hi
    obtain ⟨t, rfl⟩ := rv
    have hlen : (x.map fun c => V.str [c]).length = (mkS x).cps.size := by rw [List.length_map]; exact (List.size_toArray ..).symm
    have hrep : ∀ i v y, SignAt (mkS x) i v → (x.map fun c => V.str [c])[i]? = some y → RV g y v := fun i v y h1 h2 => by
      obtain ⟨c, u, hc, rfl⟩ := h1
      rw [List.getElem?_map, Option.map_eq_some_iff] at h2
      obtain ⟨c', hc', rfl⟩ := h2
      have e : (mkS x).cps[i]? = x[i]? := List.getElem?_toArray
      rw [e, hc'] at hc
      cases hc
      exact ⟨_, rfl⟩
    refine wpAny_pyIter_strU ?_
    unfold strIterType
    split
    · have W := Walks.strAscii (prog := prog) (w := w) (A := A) hh s.heap.objs.size (mkS x) t
      rw [← hlen] at W
      refine hq _ _ _ _ _ hnew (Grow.push (.refl _) _) (Itr.mk W (fun i h st => ?_) hrep fun b hb => .inl (by simpa using hb)) ⟨_, Heap.get?_push_size _ rfl, rfl, rfl⟩
      obtain ⟨o, e1, e2, e3⟩ := st
      exact ⟨o, _, _, e1, e2, by decide, e3⟩
    · have W := Walks.strWide (prog := prog) (w := w) (A := A) hh s.heap.objs.size (mkS x) t
      rw [← hlen] at W
      refine hq _ _ _ _ _ hnew (Grow.push (.refl _) _) (Itr.mk W (fun i h st => ?_) hrep fun b hb => .inl (by simpa using hb)) ⟨_, Heap.get?_push_size _ rfl, rfl, rfl⟩
      obtain ⟨o, e1, e2, e3⟩ := st
      exact ⟨o, _, _, e1, e2, by decide, e3⟩
  · rename_i a b
    split at hi
    · rename_i hc
      cases hi
      obtain ⟨r, rfl, t, u, k, hr⟩ := rv
      have hlen : (rngL a b).length = (b - a).toNat := by unfold rngL; simp
      have hsz : Builtin.Range.rangeSize a b 1 = ((b - a).toNat : Int) := by rw [rangeSize_one]; split <;> omega
      have W := Walks.range (prog := prog) (w := w) (A := A) hh s.heap.objs.size a 1 (b - a).toNat
      rw [← hlen] at W
      refine wpAny_pyIter_range (hg _ _ hr).1 (small_rng hc) (hq _ _ _ _ _ hnew (Grow.push (.refl _) _) (Itr.mk W (fun i h st => ?_) (fun i v x h1 h2 => ?_) fun b hb => .inl (by simpa using hb)) ?_)
      · exact ⟨_, _, _, st, rfl, by decide, rfl⟩
      · obtain ⟨t, rfl⟩ := h1
        unfold rngL at h2
        rw [List.getElem?_map, Option.map_eq_some_iff] at h2
        obtain ⟨k, hk, rfl⟩ := h2
        obtain ⟨_, rfl⟩ := List.getElem?_eq_some_iff.mp hk
        rw [List.getElem_range, Int.mul_one]
        exact ⟨_, rfl⟩
      · show IsRangeIter _ _ _ _ _
        have e1 : a + ((0 : Nat) : Int) * 1 = a := by simp
        have e2 : (((rngL a b).length : Nat) : Int) - ((0 : Nat) : Int) = Builtin.Range.rangeSize a b 1 := by rw [hsz, hlen]; simp
        rw [e1, e2]
        exact Heap.get?_push_size _ rfl
    · cases hi
  · cases hi
theorem go_any {A : Around} {E : Value → Shared → Prop} {Q : Unit → Shared → Prop} {s : Shared} {target : Expr} {I : Addr} {v : Value} (hI : IsIt s.heap I) (hq : Q () s) : wpAny (model prog w) A (letOwnedTupleGo target (.ref I) v) Q E s := by
  obtain ⟨o, T, vs, ho, hc, hm, hd⟩ := hI
  have key : (["enumerate", "zip", "dict_itemiterator", "dict_reverseitemiterator", "odict_iterator", "itertools.zip_longest", "itertools.pairwise"].contains T) = false := by
    have : ∀ T ∈ itTypes, (["enumerate", "zip", "dict_itemiterator", "dict_reverseitemiterator", "odict_iterator", "itertools.zip_longest", "itertools.pairwise"].contains T) = false := by decide
    exact this T hm
  have fin : ∀ (r a : Addr), Value.ref I = .ref r → wpAny (model prog w) A (do
      let o ← load r
      match o.cls, o.data with
      | .type n, .fields vs =>
        if ["enumerate", "zip", "dict_itemiterator", "dict_reverseitemiterator", "odict_iterator", "itertools.zip_longest", "itertools.pairwise"].contains n && vs[0]? == some (rawInt a) then do
          rule "for.unpacks-the-owned-tuple"
          updateField r 0 .none
        else pure ()
      | _, _ => pure ()) Q E s := fun r a e => by
    cases e
    refine wpAny_bind (wpAny_load ho ?_)
    rw [hc, hd]
    show wpAny _ A (if (_ && _) = true then _ else _) Q E s
    rw [if_neg (by rw [key, Bool.false_and]; exact Bool.false_ne_true)]
    exact wpAny_pure hq
  cases target
  case Tuple es k p =>
    cases v
    case ref a => exact fin I a rfl
    all_goals exact wpAny_pure hq
  case List es p =>
    cases v
    case ref a => exact fin I a rfl
    all_goals exact wpAny_pure hq
  all_goals exact wpAny_pure hq
/-! ### targets -/
structure TG (prog : Program) (w : World) (C : Cx) (t : Expr) (st : V → SL → Option SL) : Prop where
  go : ∀ (A : Around) (E : Value → Shared → Prop) (Q : Unit → Shared → Prop) (s : Shared) (σ₀ : SL) (ad₀ : Nat → Addr) (g₀ : GP) (h₀ : Heap) (σ : SL) (ad : Nat → Addr) (g : GP) (σ' : SL) (a : V) (v : Value), AOk C.n A → Post C σ₀ ad₀ g₀ h₀ σ ad g s.heap → RV g a v → st a σ = some σ' →
    (∀ h' tk ad' g', Post C σ₀ ad₀ g₀ h₀ σ' ad' g' h' → GExt g g' → Q () { s with heap := h', toks := tk }) → wpAny (model prog w) A (assign t C.env v) Q E s
noncomputable def gName (i : Nat) : V → SL → Option SL := fun a σ => some (σ.set i (.val a))
theorem TG_name {x : Str} {i : Nat} {p : Pos} (hC : CxOk C) (hx : Storable C i x) : TG prog w C (.Name x p) (gName i) := .mk fun A E Q s σ₀ ad₀ g₀ h₀ σ ad g σ' a v hA P rv hd hq => by
  cases hd
  exact wpAny_assign_Name (store_val hC P hx.1 hx.2 rv fun h2 tk2 ad2 P2 => hq _ _ _ _ P2 (.refl g))
/-- several targets -/
structure TGs (prog : Program) (w : World) (C : Cx) (ts : List Expr) (st : List V → SL → Option SL) : Prop where
  plain : assignEach ts C.env = ts.map fun t => (false, assign t C.env)
  go : ∀ (A : Around) (E : Value → Shared → Prop) (Q : Unit → Shared → Prop) (s : Shared) (σ₀ : SL) (ad₀ : Nat → Addr) (g₀ : GP) (h₀ : Heap) (σ : SL) (ad : Nat → Addr) (g : GP) (σ' : SL) (xs : List V) (vs : List Value), AOk C.n A → Post C σ₀ ad₀ g₀ h₀ σ ad g s.heap → RVs g xs vs → st xs σ = some σ' →
    (∀ h' tk ad' g', Post C σ₀ ad₀ g₀ h₀ σ' ad' g' h' → GExt g g' → Q () { s with heap := h', toks := tk }) → wpAny (model prog w) A (assignInOrder (ts.map fun t => assign t C.env) vs) Q E s
  len : ∀ xs σ σ', st xs σ = some σ' → xs.length = ts.length
noncomputable def gNil : List V → SL → Option SL := fun xs σ => match xs with
  | [] => some σ
  | _ => none
theorem TGs_nil : TGs prog w C [] gNil where
  plain := rfl
  go := fun A E Q s σ₀ ad₀ g₀ h₀ σ ad g σ' xs vs hA P rv hd hq => by
    cases xs with
    | nil => cases hd; cases rv; exact wpAny_assignInOrder_none (hq s.heap s.toks ad g P (.refl g))
    | cons => cases hd
  len := fun xs σ σ' hd => by
    cases xs with
    | nil => rfl
    | cons => cases hd
noncomputable def gCons (t : V → SL → Option SL) (ts : List V → SL → Option SL) : List V → SL → Option SL := fun xs σ => match xs with
  | x :: r => (t x σ).bind (ts r)
  | [] => none
theorem TGs_cons {t : Expr} {ts : List Expr} {st : V → SL → Option SL} {sts : List V → SL → Option SL} (h1 : TG prog w C t st) (h2 : TGs prog w C ts sts) (hs : assignEach (t :: ts) C.env = (false, assign t C.env) :: assignEach ts C.env) : TGs prog w C (t :: ts) (gCons st sts) where
  plain := by rw [hs, h2.plain]; rfl
  go := fun A E Q s σ₀ ad₀ g₀ h₀ σ ad g σ' xs vs hA P rv hd hq => by
    cases xs with
    | nil => cases hd
    | cons x r =>
      obtain ⟨v, vr, rfl, r1, r2⟩ := rv
      obtain ⟨σ1, e1, e2⟩ := Option.bind_eq_some_iff.mp hd
      refine wpAny_assignInOrder_more (h1.go A E _ s σ₀ ad₀ g₀ h₀ σ ad g σ1 x v hA P r1 e1 fun h' tk ad' g' P1 x1 => ?_)
      exact h2.go A E _ _ σ₀ ad₀ g₀ h₀ σ1 ad' g' σ' r vr hA P1 (r2.mono x1) e2 fun h3 tk3 ad3 g3 P3 x3 => hq _ _ _ _ P3 (x1.trans x3)
  len := fun xs σ σ' hd => by
    cases xs with
    | nil => cases hd
    | cons x r =>
      obtain ⟨σ1, e1, e2⟩ := Option.bind_eq_some_iff.mp hd
      rw [List.length_cons, List.length_cons, h2.len r σ1 σ' e2]
theorem draw_walks {A : Around} {E : Value → Shared → Prop} {I : Addr} {fp : List Addr} {n : Nat} {P : Nat → Value → Prop} {St' : Nat → Heap → Prop} (W : Walks prog w A I fp [I] n P St') : ∀ (k i : Nat) (s : Shared) (Q : List Value → Shared → Prop), i + k ≤ n → St' i s.heap →
    (∀ vs h' tk, vs.length = k → (∀ j v, vs[j]? = some v → P (i + j) v) → St' (i + k) h' → (∀ b o, b ∉ [I] → s.heap.get? b = some o → h'.get? b = some o) → Q vs { s with heap := h', toks := tk }) → wpAny (model prog w) A (draw (.ref I) k) Q E s
  | 0, i, s, Q, _, st, hq => wpAny_pure (hq [] s.heap s.toks rfl (fun j v e => by cases e) st fun _ _ _ e => e)
  | k + 1, i, s, Q, hle, st, hq => by
    show wpAny _ _ (pyNext (.ref I) >>= _) Q E s
    refine wpAny_bind (W.item i s _ E (by omega) st fun v h1 tk1 hp st1 k1 => ?_)
    refine wpAny_bind (wpAny_holding (draw_walks W k (i + 1) _ _ (by omega) st1 fun vs h2 tk2 hl hv st2 k2 => wpAny_pure ?_))
    refine hq (v :: vs) h2 tk2 (by rw [List.length_cons, hl]) (fun j v' e => ?_) (by rw [show i + (k + 1) = i + 1 + k by omega]; exact st2) fun b o hb e => k2 b o hb (k1 b o hb e)
    cases j with
    | zero => cases e; exact hp
    | succ j => rw [show i + (j + 1) = i + 1 + j by omega]; exact hv j v' e
theorem iter_special {a : V} {v : Value} {xs : List V} {s : Shared} (hg : GS g s.heap) (hi : iterV a = some xs) (rv : RV g a v) : ∃ T id, s.TypeIs v T ∧ typeLookup (.type T) "__iter__" = pure (some (.builtin id)) := by
  unfold iterV at hi
  split at hi
  · obtain ⟨l, ws, rfl, hl, hws⟩ := rv
    exact ⟨_, _, (isList_of hg hl).typeIs, slot_list_iter.lookup⟩
  · obtain ⟨l, ws, rfl, hl, hws⟩ := rv
    exact ⟨_, _, (isTup_of hg hl).typeIs, F.slot_tuple_iter.lookup⟩
  · obtain ⟨t, rfl⟩ := rv
    exact ⟨_, _, typeIs_str _ _ _, F.slot_str_iter.lookup⟩
  · obtain ⟨r, rfl, t, u, k, hr⟩ := rv
    exact ⟨_, _, ⟨_, (hg _ _ hr).1, rfl⟩, F.slot_range_iter.lookup⟩
  · cases hi
theorem unpack_go {A : Around} {E : Value → Shared → Prop} {Q : List Value → Shared → Prop} {s : Shared} {a : V} {v : Value} {xs : List V} (hh : A.handled = none) (S₀ : St C σ₀ ad₀ g₀ h₀) (P : Post C σ₀ ad₀ g₀ h₀ σ ad g s.heap) (hi : iterV a = some xs) (rv : RV g a v)
    (hq : ∀ vs h' tk, Post C σ₀ ad₀ g₀ h₀ σ ad g h' → RVs g xs vs → Q vs { s with heap := h', toks := tk }) : wpAny (model prog w) A (unpackItems v xs.length none) Q E s := by
  obtain ⟨T, id, hT, hl⟩ := iter_special P.st.gs hi rv
  unfold unpackItems
  refine wpAny_bind ?_
  unfold notIterableAtAll
  refine wpAny_bind (wpAny_specialOf hT hl ?_)
  refine wpAny_pure ?_
  simp only [Bool.false_eq_true, if_false]
  refine wpAny_bind (wpAny_holding (iter_go P.st.gs hh hi rv fun I h1 fp Pv St' hn k1 it st0 => ?_))
  refine wpAny_bind (wpAny_holding (draw_walks it.walks xs.length 0 _ _ (by omega) st0 fun vs h2 tk2 hl2 hv2 st2 k2 => ?_))
  rw [if_neg (by omega)]
  refine wpAny_bind (wpAny_holding (it.walks.done _ _ E (by rw [Nat.zero_add] at st2; exact st2) fun h3 tk3 k3 => ?_))
  simp only [Option.isSome_none, Bool.false_eq_true, if_false]
  have gr : Grow s.heap h3 := fun b o e => by
    have hb : b ∉ [I] := fun hm => by
      rw [List.mem_singleton] at hm
      subst hm
      rw [hn] at e; cases e
    exact k3 b o hb (k2 b o hb (k1 b o e))
  refine wpAny_pure (hq vs h3 tk3 (P.trans (P.st.grow0 gr).toPost) (rvs_items hl2 fun j v x e1 e2 => it.rep j v x ?_ e2))
  have := hv2 j v e1
  rw [Nat.zero_add] at this
  exact this
theorem find_false : ∀ (l : List (Bool × (Value → Sem Unit))), (∀ x ∈ l, x.1 = false) → l.findIdx? (·.1) = none
  | [], _ => rfl
  | x :: r, h => by
    rw [List.findIdx?_cons, h x (by simp)]
    simp only [Bool.false_eq_true, if_false]
    rw [find_false r fun y hy => h y (by simp [hy])]
    rfl
noncomputable def gTup (st : List V → SL → Option SL) : V → SL → Option SL := fun a σ => (iterV a).bind fun xs => st xs σ
theorem TG_tup {ts : List Expr} {k : Nat} {p : Pos} {st : List V → SL → Option SL} (h : TGs prog w C ts st) : TG prog w C (.Tuple ts k p) (gTup st) := .mk fun A E Q s σ₀ ad₀ g₀ h₀ σ ad g σ' a v hA P rv hd hq => by
  obtain ⟨xs, e1, e2⟩ := Option.bind_eq_some_iff.mp hd
  have hlen := h.len xs σ σ' e2
  rw [arm_assign_Tuple, h.plain]
  refine wpAny_bind (wpAny_standAt ?_)
  unfold unpack
  rw [find_false _ (by intro x hx; obtain ⟨t, _, rfl⟩ := List.mem_map.mp hx; rfl), List.length_map, ← hlen, List.map_map]
  refine wpAny_bind (wpAny_holding (unpack_go hA.handled P.st (Post.refl P.st) e1 rv fun vs h' tk P' rvs => ?_))
  exact h.go A E Q _ σ₀ ad₀ g₀ h₀ σ ad g σ' xs vs hA (P.trans P') rvs e2 hq
/-! ### for -/
noncomputable def loopV (st : V → SL → Option SL) (b : SL → Option Out) : List V → SL → Option Out
  | [], σ => some (.next σ)
  | x :: xs, σ => (st x σ).bind fun σ1 => match b σ1 with
    | some (.next σ2) => loopV st b xs σ2
    | some (.cont σ2) => loopV st b xs σ2
    | some (.brk σ2) => some (.next σ2)
    | r => r
noncomputable def sFor (st : V → SL → Option SL) (d : SL → Option (V × SL)) (b : SL → Option Out) : SL → Option Out := fun σ => (d σ).bind fun p => (iterV p.1).bind fun xs => loopV st b xs p.2
theorem TX_for {t e : Expr} {b : List Stmt} {pos : Pos} {st : V → SL → Option SL} {d : SL → Option (V × SL)} {db : SL → Option Out} (ht : TG prog w C t st) (he : TE prog w C e d) (hb : TS prog w C b db) (hs : ∀ x, foldedSetIterable e C.env x = pure x) : TX prog w C (.For t e b [] pos) (sFor st d db) := .mk fun A E Q s σ ad g r hA S hd hq => by
  unfold sFor at hd
  obtain ⟨⟨a, σ1⟩, e1, hd⟩ := Option.bind_eq_some_iff.mp hd
  obtain ⟨xs, e2, hd⟩ := Option.bind_eq_some_iff.mp hd
  refine wpAny_For (he.go A E _ s σ σ1 ad g a hA S e1 fun v h1 tk1 ad1 g1 P1 rv1 => iter_go P1.st.gs hA.handled e2 rv1 fun I h2 fp Pv St' hn k1 it st0 => ?_) hs
  refine codeAny_forLoop_any (fun k s' => ∃ h' tk σ' ad' g' i, s' = { s with heap := h', toks := tk } ∧ Post C σ1 ad1 g1 h1 σ' ad' g' h' ∧ St' i h' ∧ i + k = xs.length ∧ loopV st db (xs.drop i) σ' = some r) (fun k s' hI => ?_) xs.length
    ⟨h2, tk1, σ1, ad1, g1, 0, rfl, (P1.st.grow0 k1).toPost, st0, by omega, by rw [List.drop_zero]; exact hd⟩
  obtain ⟨h', tk, σ', ad', g', i, rfl, P, sti, hik, e3⟩ := hI
  obtain ⟨oI, T, vsI, hoI, hcI, hmI, hdI⟩ := it.data i h' sti
  cases k with
  | zero =>
    refine it.walks.done _ _ _ (by rw [show xs.length = i by omega]; exact sti) fun h3 tk3 k3 => ?_
    rw [List.drop_eq_nil_of_le (by omega), loopV] at e3
    cases e3
    exact wpAny_execs_nil (hq _ _ _ _ _ (P1.toPost.trans (P.touch P1.st hn hoI hdI (IsIt.cls hcI hmI) k3)) rfl)
  | succ k =>
    have hlt : i < xs.length := by omega
    rw [List.drop_eq_getElem_cons hlt, loopV] at e3
    obtain ⟨σ2, e4, e3⟩ := Option.bind_eq_some_iff.mp e3
    refine it.walks.item i _ _ _ hlt sti fun v3 h3 tk3 pv3 sti3 k3 => ?_
    obtain ⟨o3, T3, vs3, ho3, hc3, hm3, hd3⟩ := it.data (i + 1) h3 sti3
    have P3 := P.touch P1.st hn hoI hdI (IsIt.cls hcI hmI) k3
    have rv3 : RV g1 xs[i] v3 := it.rep i v3 xs[i] pv3 (List.getElem?_eq_getElem hlt)
    refine go_any ⟨o3, T3, vs3, ho3, hc3, hm3, hd3⟩ ?_
    refine ht.go A _ _ _ σ' ad' g' h3 σ' ad' g' σ2 xs[i] v3 hA (.refl P3.st) (rv3.mono P3.gext) e4 fun h4 tk4 ad4 g4 P4 x4 => ?_
    have tail : ∀ (σ5 : SL) (f : Flow) (h5 : Heap) (tk5 : Nat) ad5 g5, Post C σ2 ad4 g4 h4 σ5 ad5 g5 h5 → St' (i + 1) h5 := fun σ5 f h5 tk5 ad5 g5 P5 => by
      have P45 := P4.trans P5
      refine it.walks.frame (i + 1) h3 h5 sti3 fun b hb o' ho' => ?_
      rcases it.fpOk b hb with rfl | ⟨ob, hob⟩
      · exact (P45.keep b o' ho' (P3.st.not_mut ho3 hd3)).1
      · have q1 := (P3.st.gsub b ob (P3.gext b ob hob)).1
        have q2 : ob = o' := Option.some.inj (q1.symm.trans ho')
        subst q2
        exact (P5.st.gsub b ob (P5.gext b ob (x4 b ob (P3.gext b ob hob)))).1
    split at e3
    · rename_i σ3 e5
      refine hb.go A _ _ _ σ2 ad4 g4 _ hA P4.st e5 fun f h5 tk5 ad5 g5 P5 hf => ?_
      have : f = .next := hf
      subst this
      exact ⟨k, Nat.lt_succ_self k, _, _, _, _, _, i + 1, rfl, (P3.trans P4).trans P5, tail _ .next _ tk5 _ _ P5, by omega, e3⟩
    · rename_i σ3 e5
      refine hb.go A _ _ _ σ2 ad4 g4 _ hA P4.st e5 fun f h5 tk5 ad5 g5 P5 hf => ?_
      have : f = .cont := hf
      subst this
      exact ⟨k, Nat.lt_succ_self k, _, _, _, _, _, i + 1, rfl, (P3.trans P4).trans P5, tail _ .next _ tk5 _ _ P5, by omega, e3⟩
    · rename_i σ3 e5
      cases e3
      refine hb.go A _ _ _ σ2 ad4 g4 _ hA P4.st e5 fun f h5 tk5 ad5 g5 P5 hf => ?_
      have : f = .brk := hf
      subst this
      exact hq _ _ _ _ _ (((P1.toPost.trans P3).trans P4).trans P5) rfl
    · rename_i n1 n2 n3
      refine hb.go A _ _ _ σ2 ad4 g4 _ hA P4.st e3 fun f h5 tk5 ad5 g5 P5 hf => ?_
      cases r with
      | next q => exact absurd e3 (n1 q)
      | cont q => exact absurd e3 (n2 q)
      | brk q => exact absurd e3 (n3 q)
      | ret a q => obtain ⟨v, rfl, rv⟩ := hf; exact hq _ _ _ _ _ (((P1.toPost.trans P3).trans P4).trans P5) ⟨v, rfl, rv⟩
end
end Mine
-- part Rules12
set_option maxRecDepth 100000
namespace Mine
open PySem PySem.W PySem.Calls PyProof.Rows PySem.Spec PySem.SeqAt
/-! ## frames -/
section
variable {prog : Program} {w : World}
theorem bindL_miss {kindOf : Str → Option NameKind} {x : Str} : ∀ (l : List (Str × Value)) (m : Str → Option Value), x ∉ l.map (·.1) → bindL kindOf l m x = m x
  | [], m, _ => rfl
  | (n, v) :: r, m, h => by
    simp only [List.map_cons, List.mem_cons, not_or] at h
    rw [bindL, bindL_miss r _ h.2]
    split
    · exact if_neg h.1
    · rfl
theorem bindC_miss {kindOf : Str → Option NameKind} {x : Str} : ∀ (l : List (Str × Value)) (m : Str → Option Value), x ∉ l.map (·.1) → bindC kindOf l m x = m x
  | [], m, _ => rfl
  | (n, v) :: r, m, h => by
    simp only [List.map_cons, List.mem_cons, not_or] at h
    rw [bindC, bindC_miss r _ h.2]
    split
    · rfl
    · exact if_neg h.1
theorem bindL_hit {kindOf : Str → Option NameKind} {x : Str} (hk : kindOf x = some .local) {v : Value} : ∀ (l : List (Str × Value)) (m : Str → Option Value) (i : Nat), (l.map (·.1)).Nodup → l[i]? = some (x, v) → bindL kindOf l m x = some v
  | [], m, i, _, e => by cases e
  | (n, u) :: r, m, 0, hn, e => by
    cases e
    rw [bindL, if_pos hk, bindL_miss r _ (List.nodup_cons.mp hn).1]; exact if_pos rfl
  | (n, u) :: r, m, i + 1, hn, e => by
    rw [bindL]
    exact bindL_hit hk r _ i (List.nodup_cons.mp hn).2 e
theorem bindC_hit {kindOf : Str → Option NameKind} {x : Str} (hk : kindOf x ≠ some .local) {v : Value} : ∀ (l : List (Str × Value)) (m : Str → Option Value) (i : Nat), (l.map (·.1)).Nodup → l[i]? = some (x, v) → bindC kindOf l m x = some v
  | [], m, i, _, e => by cases e
  | (n, u) :: r, m, 0, hn, e => by
    cases e
    rw [bindC, if_neg hk, bindC_miss r _ (List.nodup_cons.mp hn).1]; exact if_pos rfl
  | (n, u) :: r, m, i + 1, hn, e => by
    rw [bindC]
    exact bindC_hit hk r _ i (List.nodup_cons.mp hn).2 e
theorem zip_names : ∀ {ps : List Str} {vs : List Value}, vs.length = ps.length → (ps.zip vs).map (·.1) = ps
  | [], [], _ => rfl
  | p :: ps, v :: vs, h => by rw [List.zip_cons_cons, List.map_cons, zip_names (by simpa using h)]
theorem zip_get {ps : List Str} {vs : List Value} {i : Nat} {x : Str} {v : Value} (h1 : ps[i]? = some x) (h2 : vs[i]? = some v) : (ps.zip vs)[i]? = some (x, v) := by
  rw [List.getElem?_zip_eq_some]; exact ⟨h1, h2⟩
theorem pair_inj {cs : List (Str × Addr)} (hp : cs.Pairwise fun x y => x.2 ≠ y.2) : ∀ {x y : Str} {c : Addr}, cs.lookup x = some c → cs.lookup y = some c → x = y := by
  induction cs with
  | nil => intro x y c h; cases h
  | cons p r ih =>
    obtain ⟨n, a⟩ := p
    obtain ⟨h1, h2⟩ := List.pairwise_cons.mp hp
    intro x y c hx hy
    rw [List.lookup_cons] at hx hy
    have mem : ∀ z : Str, r.lookup z = some c → a ≠ c := fun z hz => by
      have := List.lookup_eq_some_iff.mp hz
      obtain ⟨l1, l2, e, _⟩ := this
      exact h1 (z, c) (by rw [e]; simp)
    split at hx <;> split at hy
    · rename_i _ q1 _ q2
      exact (eq_of_beq q1).trans (eq_of_beq q2).symm
    · cases hx; exact absurd rfl (mem y hy)
    · cases hy; exact absurd rfl (mem x hx)
    · exact ih h2 hx hy
noncomputable def initS (xs : List V) (k : Nat) : SL := xs.map Slot.val ++ List.replicate k Slot.unset
noncomputable def callCx (name : Str) (scope : Scope) (cd : Value) (ns : List Str) (n : Nat) (fa : Addr) (base : Heap) (L : Addr) : Cx where
  env := envOfC name scope L fa cd
  ns := ns
  base := base
  mu := true
  n := n
/-- what a function's answer is -/
noncomputable def outV : Out → Option V
  | .ret a _ => some a
  | .next _ => some .none
  | _ => none
noncomputable def funV (k : Nat) (d : SL → Option Out) : List V → Option V := fun xs => (d (initS xs k)).bind outV
noncomputable def funP (p k : Nat) (d : SL → Option Out) : List V → Option V := fun xs => if xs.length = p then funV k d xs else none
theorem initS_get {xs : List V} {k i : Nat} {sl : Slot} (h : (initS xs k)[i]? = some sl) : (∃ a, xs[i]? = some a ∧ sl = .val a) ∨ (xs.length ≤ i ∧ sl = .unset) := by
  unfold initS at h
  by_cases hi : i < xs.length
  · rw [List.getElem?_append_left (by rw [List.length_map]; exact hi), List.getElem?_map, Option.map_eq_some_iff] at h
    obtain ⟨a, e, rfl⟩ := h
    exact .inl ⟨a, e, rfl⟩
  · rw [List.getElem?_append_right (by rw [List.length_map]; omega), List.getElem?_replicate] at h
    split at h
    · cases h; exact .inr ⟨by omega, rfl⟩
    · cases h
/-- a function's answer, from its body's triple -/
theorem fun_spec {base : Heap} {name : Str} {params : Arguments} {body : List Stmt} {scope : Scope} {pm cd doc : Value} {fa : Addr} {o : Obj} {ps ns : List Str} {n : Nat} {d : SL → Option Out}
    (W : World0 prog base) (ho : base.get? fa = some o) (hdata : o.data = .func (docDef name params body scope pm cd doc)) (hcd : base.CodeRec cd name)
    (hbind : ∀ vs : List Value, vs.length = ps.length → bindArgs (docDef name params body scope pm cd doc) ⟨vs, []⟩ = pure (ps.zip vs))
    (hns : (ps ++ ns).Nodup) (hkind : ∀ m, ∀ x ∈ ps ++ ns, scope.names.lookup x = some .local ∨ (scope.names.lookup x = some .cell ∧ ((cellsFrom m scope.names []).lookup x).isSome = true))
    (hcl : ∀ x : Str, (x == ("__classdict__" : Str)) = true → x ∉ ps ++ ns)
    (hco : scope.isCoroutine = false) (hgen : scope.isGenerator = false) (hk : scope.kind = .function)
    (walk : ∀ (b : Heap) (L : Addr), Grow base b → CK prog (callCx name scope cd (ps ++ ns) n fa b L) → TS prog w (callCx name scope cd (ps ++ ns) n fa b L) body d) :
    FunSpec prog w base (n + 1) (.ref fa) (funP ps.length ns.length d) := fun A E Q s g vs xs r hA hb hg hr hf hq => by
  unfold funP at hf
  split at hf
  · rename_i hlen
    have hvl : vs.length = ps.length := hr.length.trans hlen
    obtain ⟨out, e1, e2⟩ := Option.bind_eq_some_iff.mp hf
    have Ws := W.up hb
    have hpn : ps.Nodup := (List.nodup_append.mp hns).1
    refine wpAny_call (codeAny_call_function (by have := hA.depth; show A.depth < 1000; omega) (hb _ _ ho) hdata hco hgen rfl (hcd.keeps hb) ?_)
    rw [hbind vs hvl]
    refine wpAny_pure (wpAny_newFunctionEnv_cells hk (fun x hx => ?_) fun env he s' x => ⟨?_, ?_⟩)
    · refine hkind _ x.1 (List.mem_append_left _ ?_)
      rw [← zip_names hvl]
      exact List.mem_map_of_mem hx
    · exact Ws.noLimit.keeps x.toInCall.keep
    subst he
    obtain ⟨h₁, tk, rfl, kk⟩ := x.done
    refine codeAny_func ?_
    let C := callCx name scope cd (ps ++ ns) n fa s.heap s.heap.objs.size
    have hCe : C.env = newEnv scope s.heap.objs.size mainGlobals (cellsFrom (s.heap.objs.size + 1) scope.names []) (name ++ ".<locals>.") (some fa) cd none builtinsNs := rfl
    have kk' : Grow s.heap h₁ := kk
    have hzn : ((ps.zip vs).map (·.1)) = ps := zip_names hvl
    have hlocal : s.heap.get? s.heap.objs.size = none := none_at _
    have gnone : ∀ b, s.heap.get? b = none → g b = none := fun b e => by
      cases q : g b with
      | none => rfl
      | some o' => rw [(hg b o' q).1] at e; cases e
    have big' : ∀ b, s.heap.objs.size ≤ b → s.heap.get? b = none := fun b hb => by
      cases q : s.heap.get? b with
      | none => rfl
      | some o' => exact absurd (Heap.lt_size q) (Nat.not_lt.mpr hb)
    have hnsL := x.toInCall.ns
    have S : St C (initS xs ns.length) (fun _ => 0) g h₁ := {
      gsub := fun a o' e => ⟨kk' _ _ (hg a o' e).1, (hg a o' e).2⟩
      hbase := kk'
      mutNew := fun b hb => by
        rcases hb with hb | ⟨_, _, y, _, _, hy⟩ | ⟨i, ys, hi, _⟩
        · subst hb
          obtain ⟨o', _, _, e, _⟩ := hnsL
          exact ⟨hlocal, gnone _ hlocal, o', e⟩
        · have hm := x.above y b (by
            obtain ⟨l1, l2, e, _⟩ := List.lookup_eq_some_iff.mp hy
            show (y, b) ∈ C.env.cells
            rw [e]; simp)
          have hbn := big' b (Nat.le_of_lt hm)
          obtain ⟨o', e, _⟩ := x.cell y b hy
          exact ⟨hbn, gnone _ hbn, o', e⟩
        · rcases initS_get hi with ⟨a, _, e⟩ | ⟨_, e⟩ <;> cases e
      vars := ⟨_, hnsL, fun i y sl hy hsl => by
        have hym : y ∈ ps ++ ns := List.mem_of_getElem? hy
        have hcd' : (y == ("__classdict__" : Str)) = false := by
          cases q : (y == ("__classdict__" : Str)) with
          | false => rfl
          | true => exact absurd hym (hcl y q)
        have slotv : ∀ (ov : Option Value), (∀ v, (ps.zip vs)[i]? = some (y, v) → ov = some v) → (y ∉ ps → ov = none) → SlotOk g h₁ 0 sl ov := fun ov h1 h2 => by
          rcases initS_get hsl with ⟨a, ha, rfl⟩ | ⟨hle, rfl⟩
          · have hip : i < ps.length := by rw [← hlen]; exact lt_of_get ha
            have hyp : ps[i]? = some y := by rw [← hy]; exact (List.getElem?_append_left hip).symm
            obtain ⟨v, hv, rv⟩ := hr.get ha
            exact ⟨v, h1 v (zip_get hyp hv), rv⟩
          · refine h2 fun hyp => ?_
            have hle' : ps.length ≤ i := by omega
            have hyn : y ∈ ns := by
              have : (ps ++ ns)[i]? = ns[i - ps.length]? := List.getElem?_append_right hle'
              exact List.mem_of_getElem? (this.symm.trans hy)
            exact (List.nodup_append.mp hns).2.2 y hyp y hyn rfl
        rcases hkind (s.heap.objs.size + 1) y hym with hkl | ⟨hkc, hsome⟩
        · refine ⟨_, .inl ⟨hkl, rfl⟩, slotv _ (fun v hv => ?_) fun hyp => ?_⟩
          · exact bindL_hit hkl _ _ i (by rw [hzn]; exact hpn) hv
          · exact bindL_miss _ _ (by rw [hzn]; exact hyp)
        · obtain ⟨c, hc⟩ := Option.isSome_iff_exists.mp hsome
          have hnl : C.env.kindOf y ≠ some .local := fun q => by
            have q' : scope.names.lookup y = some .local := q
            rw [hkc] at q'; cases q'
          refine ⟨_, .inr ⟨.inl hkc, hcd', c, hc, x.cell y c hc⟩, slotv _ (fun v hv => ?_) fun hyp => ?_⟩
          · exact bindC_hit hnl _ _ i (by rw [hzn]; exact hpn) hv
          · exact bindC_miss _ _ (by rw [hzn]; exact hyp)⟩
      len := by show (initS xs ns.length).length = (ps ++ ns).length; unfold initS; simp [hlen]
      inj := fun i j ys zs hi _ _ => by rcases initS_get hi with ⟨a, _, e⟩ | ⟨_, e⟩ <;> cases e
      cells := fun y z c hy hz => pair_inj x.apart hy hz }
    have hA' : AOk n (A.deeper C.env) := by
      obtain ⟨l, f1⟩ := hA.frames
      refine ⟨hA.handled, by have := hA.depth; show A.depth + 1 + n < 700; omega, by have := hA.units; show A.units + 3 + 10 * n < 9000; omega, C.env, l, ?_, rfl, rfl, hgen, hco⟩
      show A.frames.map (C.env :: ·) = _
      rw [f1]; rfl
    have K : CK prog C := ⟨⟨hk, rfl, rfl, hns⟩, Ws⟩
    refine (walk s.heap s.heap.objs.size hb K).go (A.deeper C.env) _ _ _ (initS xs ns.length) (fun _ => 0) g out hA' S e1 fun f h' tk' ad' g' P hf => ?_
    have fin : ∀ v, RV g' r v → Q v { s with heap := h', toks := tk' } := fun v rv => hq v h' tk' g' P.st.hbase P.st.gsub P.gext (fun a o' e => by
      rcases P.gnew a o' e with e | e | e
      · exact .inl e
      · refine .inr ?_
        cases q : s.heap.get? a with
        | none => rfl
        | some o2 => rw [kk' _ _ q] at e; cases e
      · exact .inr (S.mutNew a e).1) rv
    cases out with
    | next σ1 => have : f = .next := hf; subst this; cases e2; exact fin _ rfl
    | brk => cases e2
    | cont => cases e2
    | ret a σ1 => obtain ⟨v, rfl, rv⟩ := hf; cases e2; exact fin _ rv
  · cases hf
end
end Mine
-- part Rules13
set_option maxRecDepth 100000
namespace Mine
open PySem PySem.W PySem.Calls PyProof.Rows PySem.Spec PySem.SeqAt
/-! ## lists of a frame's own -/
section
variable {prog : Program} {w : World} {C : Cx} {σ σ' σ₀ : SL} {ad ad' ad₀ : Nat → Addr} {g g' g₀ : GP} {h h' h₀ : Heap}
theorem set_get {σ : SL} {i j : Nat} {a sl : Slot} (h : (σ.set i a)[j]? = some sl) : (j = i ∧ sl = a) ∨ (j ≠ i ∧ σ[j]? = some sl) := by
  by_cases e : j = i
  · subst e
    rw [List.getElem?_set_self' ] at h
    cases q : σ[j]? with
    | none => rw [q] at h; cases h
    | some y => rw [q] at h; cases h; exact .inl ⟨rfl, rfl⟩
  · rw [List.getElem?_set_ne (Ne.symm e)] at h
    exact .inr ⟨e, h⟩
theorem own_post (P : Post C σ₀ ad₀ g₀ h₀ σ ad g h) {i : Nat} {xs xs' : List V} {vs' : List Value} (hi : σ[i]? = some (.own xs)) (hs : Heap.SameBut (ad i) h h') (hl : h'.PlainList (ad i) vs'.toArray) (rv : RVs g xs' vs') :
    Post C σ₀ ad₀ g₀ h₀ (σ.set i (.own xs')) ad g h' := by
  have S := P.st
  have hm : Mut C σ ad (ad i) := .inr (.inr ⟨i, xs, hi, rfl⟩)
  obtain ⟨hb, hg, _⟩ := S.mutNew _ hm
  obtain ⟨m, hn, hv⟩ := S.vars
  obtain ⟨n', hl'⟩ := hl
  obtain ⟨x, hx⟩ := get_of_lt (l := C.ns) (i := i) (by rw [← S.len]; exact lt_of_get hi)
  obtain ⟨ov, a1, e1, vs, n, e2, r0⟩ := hv i x _ hx hi
  have back : ∀ b, Mut C (σ.set i (.own xs')) ad b → Mut C σ ad b := fun b hb => by
    rcases hb with hb | hb | ⟨j, ys, hj, rfl⟩
    · exact .inl hb
    · exact .inr (.inl hb)
    · rcases set_get hj with ⟨rfl, _⟩ | ⟨_, hj⟩
      · exact hm
      · exact .inr (.inr ⟨j, ys, hj, rfl⟩)
  have kp : ∀ (b : Addr) (o : Obj), h.get? b = some o → (∀ it n, o.data ≠ .seq it n) → h'.get? b = some o := fun b o e hne => (hs.2 b (fun q => by
    subst q; rw [e2] at e; cases e; exact hne _ _ rfl)).trans e
  refine { st := { gsub := fun a o e => ?_, hbase := fun b o e => ?_, mutNew := fun b hb' => ?_, vars := ⟨m, ?_, fun j y sl hy hsl => ?_⟩, len := by rw [List.length_set]; exact S.len, inj := fun j k ys zs hj hk e => ?_, cells := S.cells }, keep := fun b o e nm => ?_, gext := P.gext, gnew := P.gnew }
  · obtain ⟨q1, q2⟩ := S.gsub a o e
    exact ⟨(hs.2 a (fun q => by subst q; rw [hg] at e; cases e)).trans q1, q2⟩
  · exact (hs.2 b (fun q => by subst q; rw [hb] at e; cases e)).trans (S.hbase b o e)
  · obtain ⟨q1, q2, o, q3⟩ := S.mutNew b (back b hb')
    refine ⟨q1, q2, ?_⟩
    by_cases q : b = ad i
    · subst q; exact ⟨_, hl'⟩
    · exact ⟨o, (hs.2 b q).trans q3⟩
  · obtain ⟨o, es, ep, q1, q2, q3⟩ := hn
    exact ⟨o, es, ep, kp _ o q1 (fun it n q => by rw [q2] at q; cases q), q2, q3⟩
  · have av : ∀ {ov : Option Value}, AtVar C h m y ov → AtVar C h' m y ov := fun a => by
      rcases a with a | ⟨b1, b0, c, b3, o, q1, q2⟩
      · exact .inl a
      · exact .inr ⟨b1, b0, c, b3, o, kp c o q1 (fun it n q => by rw [q2] at q; cases q), q2⟩
    rcases set_get hsl with ⟨rfl, rfl⟩ | ⟨hji, hsl⟩
    · rw [hx] at hy; cases hy
      exact ⟨ov, av a1, e1, vs', n', hl', rv⟩
    · obtain ⟨ov2, b1, b2⟩ := hv j y sl hy hsl
      refine ⟨ov2, av b1, b2.mono (.refl g) fun o e hown => ?_⟩
      obtain ⟨ys, rfl⟩ := hown
      exact (hs.2 _ (fun q => hji (S.inj j i ys xs hsl hi q))).trans e
  · rcases set_get hj with ⟨rfl, _⟩ | ⟨hj1, hj2⟩ <;> rcases set_get hk with ⟨rfl, _⟩ | ⟨hk1, hk2⟩
    · rfl
    · exact S.inj _ k xs zs hi hk2 e
    · exact S.inj j _ ys xs hj2 hi e
    · exact S.inj j k ys zs hj2 hk2 e
  · obtain ⟨q1, q2⟩ := P.keep b o e nm
    exact ⟨(hs.2 b (fun q => by subst q; exact q2 hm)).trans q1, fun q => q2 (back b q)⟩
/-- the own list of a name, read without letting it go -/
theorem own_at {A : Around} {E : Value → Shared → Prop} {Q : Value → Shared → Prop} {s : Shared} {x : Str} {i : Nat} {np : Pos} {xs : List V} (hC : CxOk C) (hx : C.ns[i]? = some x) (hd : (x == ("__debug__" : Str)) = false) (S : St C σ ad g s.heap) (hi : σ[i]? = some (.own xs))
    (hq : ∀ vs, s.heap.PlainList (ad i) vs.toArray → RVs g xs vs → Q (.ref (ad i)) s) : wpAny (model prog w) A (eval (.Name x np) C.env) Q E s := by
  obtain ⟨m, hn, hv⟩ := S.vars
  obtain ⟨ov, a1, rfl, vs, n, e2, r0⟩ := hv i x _ hx hi
  exact wpAny_Name (load_at hC hn a1 (hq vs ⟨n, e2⟩ r0)) hd
/-! ### making -/
/-- an expression that makes a list of its own -/
structure TN (prog : Program) (w : World) (C : Cx) (e : Expr) (d : SL → Option (List V × SL)) : Prop where
  go : ∀ (A : Around) (E : Value → Shared → Prop) (Q : Value → Shared → Prop) (s : Shared) (σ σ' : SL) (ad : Nat → Addr) (g : GP) (xs : List V), AOk C.n A → St C σ ad g s.heap → d σ = some (xs, σ') →
    (∀ a vs h' tk ad' g', PostE C σ ad g s.heap σ' ad' g' h' → (∀ o, s.heap.get? a = some o → Mut C σ ad a) → g' a = none → ¬ Mut C σ' ad' a → h'.PlainList a vs.toArray → RVs g' xs vs → Q (.ref a) { s with heap := h', toks := tk }) → wpAny (model prog w) A (eval e C.env) Q E s
noncomputable def nNil : SL → Option (List V × SL) := fun σ => some ([], σ)
theorem TN_nil {pos : Pos} : TN prog w C (.List [] pos) nNil := .mk fun A E Q s σ σ' ad g xs hA S hd hq => by
  cases hd
  refine List_ (spliced_nil (wpAny_newObj_type ?_ (by show (#[] : Array Value).size ≤ sizeLine; rw [sizeLine_eq]; decide)))
  have hn := none_at s.heap
  refine hq _ [] _ s.toks ad g (S.grow0 (Grow.push (.refl _) _)) (fun o e => by rw [hn] at e; cases e) ?_ (fun hm => ?_) ⟨_, Heap.get?_push_size _ rfl⟩ rfl
  · cases q : g s.heap.objs.size with
    | none => rfl
    | some o => rw [(S.gsub _ o q).1] at hn; cases hn
  · obtain ⟨_, _, o, e⟩ := S.mutNew _ hm
    rw [hn] at e; cases e
noncomputable def splitV (x y : List Nat) : List (List Nat) := (Txt.split (mkS x) (mkS y)).map (·.cps.toList)
theorem strs_back : ∀ (l : List (Str × Tok)) {g : GP}, RVs g ((l.map (·.1)).map fun t => V.str t.cps.toList) (strValues l)
  | [], _ => rfl
  | (x, t) :: r, _ => ⟨_, _, rfl, ⟨t, rfl⟩, strs_back r⟩
noncomputable def sNew (i : Nat) (d : SL → Option (List V × SL)) : SL → Option Out := fun σ => (d σ).map fun p => .next (p.2.set i (.own p.1))
theorem TX_new {x : Str} {i : Nat} {e : Expr} {p pos : Pos} {d : SL → Option (List V × SL)} (hC : CxOk C) (hx : Storable C i x) (h : TN prog w C e d) (hs : swapsWith e (some (.Name x p)) pos.line C.env = pure false) :
    TX prog w C (.Assign [.Name x p] e pos) (sNew i d) := .mk fun A E Q s σ ad g r hA S hd hq => by
  unfold sNew at hd
  rw [Option.map_eq_some_iff] at hd
  obtain ⟨⟨xs, σ1⟩, e1, hd⟩ := hd
  cases hd
  refine wpAny_Assign_Name (h.go A E _ s σ σ1 ad g xs hA S e1 fun a vs h' tk ad' g' P n1 n2 n3 hl rv => ?_) hs
  have hbn : C.base.get? a = none := by
    cases q : C.base.get? a with
    | none => rfl
    | some o => exact absurd ((S.mutNew a (n1 o (S.hbase _ _ q))).1) (by rw [q]; exact fun e => nomatch e)
  obtain ⟨n, hl⟩ := hl
  exact store_slot (s := { s with heap := h', toks := tk }) hC P.toPost hx.1 hx.2 (sl := .own xs) (a' := a) ⟨rfl, vs, n, hl, rv⟩ (fun ys e => ⟨hbn, n2, n1, n3⟩) fun h2 tk2 P2 => hq _ _ _ _ _ P2 rfl
/-! ### append -/
noncomputable def sApp (i : Nat) (d : SL → Option (V × SL)) : SL → Option Out := fun σ => match σ[i]? with
  | some (.own _) => (d σ).bind fun p => match p.2[i]? with
    | some (.own ys) => if ys.length ≤ big then some (.next (p.2.set i (.own (ys ++ [p.1])))) else none
    | _ => none
  | _ => none
theorem own_get {xs : List V} {i : Nat} (S : St C σ ad g h) (hi : σ[i]? = some (.own xs)) : ∃ vs : List Value, h.PlainList (ad i) vs.toArray ∧ RVs g xs vs := by
  obtain ⟨m, hn, hv⟩ := S.vars
  obtain ⟨x, hx⟩ := get_of_lt (l := C.ns) (i := i) (by rw [← S.len]; exact lt_of_get hi)
  obtain ⟨ov, a1, rfl, vs, n, e2, r0⟩ := hv i x _ hx hi
  exact ⟨vs, ⟨n, e2⟩, r0⟩
theorem TX_app {x : Str} {i : Nat} {elt : Expr} {np apos pos epos : Pos} {d : SL → Option (V × SL)} (hC : CxOk C) (hx : C.ns[i]? = some x) (hd : (x == ("__debug__" : Str)) = false) (h : TE prog w C elt d)
    (hs1 : starEach [elt] C.env = [(false, eval elt C.env)])
    (hbase : attributeBase (.Name x np) "append" C.env (eval (.Name x np) C.env) = eval (.Name x np) C.env) (hline : (apos.endLine == pos.line) = true) (hi : interactive C.env = false)
    (hs : swapsWith (.Call (.Attribute (.Name x np) "append" apos) [elt] [] pos) none epos.line C.env = pure false) :
    TX prog w C (.Expr (.Call (.Attribute (.Name x np) "append" apos) [elt] [] pos) epos) (sApp i d) := .mk fun A E Q s σ ad g r hA S hd' hq => by
  unfold sApp at hd'
  split at hd'
  · rename_i xs hxs
    obtain ⟨⟨a, σ1⟩, e1, hd'⟩ := Option.bind_eq_some_iff.mp hd'
    simp only at hd'
    split at hd'
    · rename_i ys hys
      split at hd'
      · rename_i hlen
        cases hd'
        have htr : backTo pos (starEach [elt] C.env) = [(false, eval elt C.env)] := by rw [hs1]; rfl
        refine wpAny_Expr (wpAny_Call_append hbase (by rw [htr]; rfl) hline htr (own_at hC hx hd S hxs fun vs hpl rvs => ?_)) hi hs
        obtain ⟨n, hpl⟩ := hpl
        refine ⟨ad i, vs.toArray, rfl, ⟨_, n, hpl, rfl, rfl, rfl⟩, h.go A E _ s σ σ1 ad g a hA S e1 fun v h' tk ad' g' P rv => ?_⟩
        obtain ⟨ws, hpl2, rws⟩ := own_get P.st hys
        rw [← P.same]
        refine wpAny_list_append_plain (x := v) hpl2 (fun h2 hpl3 hsb => ?_) (by rw [show ws.toArray.size = ws.length from rfl, rws.length, sizeLine_eq]; have h22 : big = 4194304 := rfl; omega)
        rw [show ws.toArray.push v = (ws ++ [v]).toArray by simp] at hpl3
        exact hq _ h2 tk ad' g' (own_post P.toPost hys hsb hpl3 (rws.append ⟨v, [], rfl, rv, rfl⟩)) rfl
      · cases hd'
    · cases hd'
  · cases hd'
noncomputable def sDel (i : Nat) (d : SL → Option (V × SL)) : SL → Option Out := fun σ => match σ[i]? with
  | some (.own _) => match d σ with
    | some (.int k, σ1) => match σ1[i]? with
      | some (.own ys) => if ys.length ≤ big then (idx ys.length k).map fun j => .next (σ1.set i (.own (ys.eraseIdx j))) else none
      | _ => none
    | _ => none
  | _ => none
theorem TX_del {x : Str} {i : Nat} {ie : Expr} {np p pos : Pos} {d : SL → Option (V × SL)} (hC : CxOk C) (hx : C.ns[i]? = some x) (hd : (x == ("__debug__" : Str)) = false) (h : TE prog w C ie d) :
    TX prog w C (.Delete [.Subscript (.Name x np) ie p] pos) (sDel i d) := .mk fun A E Q s σ ad g r hA S hd' hq => by
  unfold sDel at hd'
  split at hd'
  · rename_i xs hxs
    split at hd'
    · rename_i k σ1 e1
      split at hd'
      · rename_i ys hys
        split at hd'
        · rename_i hlen
          obtain ⟨j, e2, rfl⟩ := Option.map_eq_some_iff.mp hd'
          refine wpAny_Delete (wpAny_deleteEach_cons (wpAny_delete_Subscript (own_at hC hx hd S hxs fun vs hpl rvs => h.go A E _ s σ σ1 ad g _ hA S e1 fun v h' tk ad' g' P rv => ?_)))
          obtain ⟨t, rfl⟩ := rv
          obtain ⟨ws, hpl2, rws⟩ := own_get P.st hys
          have h22 : big = 4194304 := rfl
          have hsz : ws.toArray.size = ys.length := (show ws.toArray.size = ws.length from rfl).trans rws.length
          obtain ⟨j1, j2, j3, _⟩ := idx_lt e2
          rw [← P.same]
          refine wpAny_delItem_plain (k := j) hpl2 (by unfold Builtin.List.listFitsIndex; simp only [Bool.and_eq_true, decide_eq_true_eq]; omega) (by rw [hsz]; exact seqIndex_idx e2) (fun h2 hpl3 hsb => ?_) (by rw [hsz, sizeLine_eq]; omega)
          have he : ws.toArray.eraseIdxIfInBounds j = (ws.eraseIdx j).toArray := by simp
          rw [he] at hpl3
          exact wpAny_deleteEach_nil (hq _ h2 tk ad' g' (own_post P.toPost hys hsb hpl3 (rws.erase j)) rfl)
        · cases hd'
      · cases hd'
    · cases hd'
  · cases hd'
/-! ### reads of an own list in its place -/
noncomputable def dLenO (i : Nat) : SL → Option (V × SL) := fun σ => match σ[i]? with
  | some (.own ys) => if ys.length ≤ big then some (.int ys.length, σ) else none
  | _ => none
theorem TE_lenO {f x : Str} {i : Nat} {fp np pos : Pos} (hC : CxOk C) (hf : C.env.kindOf f = some .globalImplicit) (hfd : (f == ("__debug__" : Str)) = false) (gv : GV C.base f BF.len.val) (hx : C.ns[i]? = some x) (hd : (x == ("__debug__" : Str)) = false) :
    TE prog w C (.Call (.Name f fp) [.Name x np] [] pos) (dLenO i) := .mk fun A E Q s σ σ' ad g a hA S hd' hq => by
  unfold dLenO at hd'
  split at hd'
  · rename_i ys hys
    split at hd'
    · rename_i hlen
      cases hd'
      refine Call_Name (trees := [(false, eval (.Name x np) C.env)]) rfl (name_glob hC hf hfd gv S.hbase ?_)
      refine Calls.callWith_builtin rfl (evalArgs_plain (spliced_cons (own_at hC hx hd S hys fun vs hpl rvs => spliced_nil ?_)))
      have h22 : big = 4194304 := rfl
      have hsz : vs.toArray.size = ys.length := (show vs.toArray.size = vs.length from rfl).trans rvs.length
      refine len_list hpl.isList (by rw [hsz]; omega) ?_
      rw [hsz]
      exact hq _ s.heap _ ad g (.refl S) ⟨_, rfl⟩
    · cases hd'
  · cases hd'
theorem item_list_go {A : Around} {E : Value → Shared → Prop} {Q : Value → Shared → Prop} {s : Shared} {value slice : Expr} {l : Addr} {vs : List Value} {x : List V} {k : Nat} {i : Int} {u : Tok} {r : V} (hL : s.heap.IsList l vs.toArray) (hvs : RVs g x vs) (hx : x.length ≤ big) (hk : idx x.length i = some k) (hr : x[k]? = some r)
    (h : ∀ v, RV g r v → Q v s) : wpAny (model prog w) A (subscriptTail value slice (.ref l) (.int i u)) Q E s := by
  have h22 : big = 4194304 := rfl
  obtain ⟨h1, h2, h3, h4, h5⟩ := idx_lt hk
  obtain ⟨v, hv, hrv⟩ := hvs.get' hr
  have hn := hvs.length
  refine tail_of hL.typeIs slot_list_getitem.lookup ?_
  by_cases hi : 0 ≤ i
  · exact wpAny_getItem_list hL hi (by omega) (by rw [← h4 hi]; exact hv) (h _ hrv)
  · have e : (vs.toArray.size : Int) = x.length := by rw [List.size_toArray, hn]
    exact wpAny_getItem_list_neg hL (by omega) (by rw [e]; omega) (by omega) (by rw [e, ← h5 (by omega)]; exact hv) (h _ hrv)
noncomputable def dItemO (i : Nat) (d : SL → Option (V × SL)) : SL → Option (V × SL) := fun σ => match σ[i]? with
  | some (.own _) => match d σ with
    | some (.int k, σ1) => match σ1[i]? with
      | some (.own ys) => if ys.length ≤ big then (idx ys.length k).bind fun j => (ys[j]?).map (·, σ1) else none
      | _ => none
    | _ => none
  | _ => none
theorem TE_itemO {x : Str} {i : Nat} {ie : Expr} {np pos : Pos} {d : SL → Option (V × SL)} (hC : CxOk C) (hx : C.ns[i]? = some x) (hd : (x == ("__debug__" : Str)) = false) (h : TE prog w C ie d) :
    TE prog w C (.Subscript (.Name x np) ie pos) (dItemO i d) := .mk fun A E Q s σ σ' ad g a hA S hd' hq => by
  unfold dItemO at hd'
  split at hd'
  · rename_i xs hxs
    split at hd'
    · rename_i k σ1 e1
      split at hd'
      · rename_i ys hys
        split at hd'
        · rename_i hlen
          obtain ⟨j, e2, hd'⟩ := Option.bind_eq_some_iff.mp hd'
          obtain ⟨y, e3, hd'⟩ := Option.map_eq_some_iff.mp hd'
          cases hd'
          refine Subscript_ (own_at hC hx hd S hxs fun vs hpl rvs => h.go A E _ s σ _ ad g _ hA S e1 fun v h' tk ad' g' P rv => ?_)
          obtain ⟨t, rfl⟩ := rv
          obtain ⟨ws, hpl2, rws⟩ := own_get P.st hys
          rw [← P.same]
          exact item_list_go (s := { s with heap := h', toks := tk }) hpl2.isList rws hlen e2 e3 fun v2 rv2 => hq _ h' tk ad' g' P rv2
        · cases hd'
      · cases hd'
    · cases hd'
  · cases hd'
end
end Mine
-- part Rules14
set_option maxRecDepth 100000
namespace Mine
open PySem PySem.W PySem.Calls PyProof.Rows PySem.Spec PySem.SeqAt Builtin Builtin.Str
/-! ## str.split makes a list of its own -/
section
variable {prog : Program} {w : World} {C : Cx} {σ σ' σ₀ : SL} {ad ad' ad₀ : Nat → Addr} {g g' g₀ : GP} {h h' h₀ : Heap}
theorem split_new {A : Around} {E : Value → Shared → Prop} {Q : Value → Shared → Prop} {s : Shared} {x y : Str} {t u : Tok} (hy : (y.length == 0) = false)
    (hq : ∀ l k, l.map (·.1) = Txt.split x y → Q (.ref s.heap.objs.size) { s with heap := s.heap.push { cls := .type "list", data := .seq (strValues l).toArray }, toks := k })
    (hsz : x.length ≤ sizeLine) (hsz2 : (partsBetween x (occurrences x y 0 x.length (x.length + 1)) y.length).length ≤ sizeLine) :
    wpAny (model prog w) A (call (.builtin "str.split") [.str x t, .str y u]) Q E s := by
  cases h1 : (decide (x.length < y.length) || decide (strKind x < strKind y))
  · cases hf : (occurrences x y 0 x.length (x.length + 1)).isEmpty
    · refine call_meets F.slot_str_split (typeIs_str _ _ _) F.entry_str_split (F.args_str_split_2 _ _) (meets_str_split_sep x y t u h1 hy hf hsz hsz2) ?_
      show wants Q E _ { s with toks := _, heap := s.heap.push { cls := .type "list", data := .seq (strsFrom s.toks (partsBetween x (occurrences x y 0 x.length (x.length + 1)) y.length)).toArray } }
      rw [strsFrom_eq]
      exact hq (numbered s.toks _) _ ((numbered_texts _ _).trans ((if_neg (ne_true_of_eq_false h1)).trans (if_neg (ne_true_of_eq_false hf))).symm)
    · exact call_meets F.slot_str_split (typeIs_str _ _ _) F.entry_str_split (F.args_str_split_2 _ _) (meets_str_split_not_found x y t u h1 hy hf)
        (hq [(x, t)] s.toks ((if_neg (ne_true_of_eq_false h1)).trans (if_pos hf)).symm)
  · exact call_meets F.slot_str_split (typeIs_str _ _ _) F.entry_str_split (F.args_str_split_2 _ _) (meets_str_split_cannot_occur x y t u h1)
      (hq [(x, t)] s.toks (if_pos h1).symm)
noncomputable def nSplit (d1 d2 : SL → Option (V × SL)) : SL → Option (List V × SL) := fun σ => match d1 σ with
  | some (.str x, σ1) => match d2 σ1 with
    | some (.str y, σ2) => if x.length ≤ big ∧ y ≠ [] ∧ (partsBetween (mkS x) (occurrences (mkS x) (mkS y) 0 x.length (x.length + 1)) y.length).length ≤ big then some ((splitV x y).map V.str, σ2) else none
    | _ => none
  | _ => none
theorem TN_split {o e : Expr} {apos pos : Pos} {d1 d2 : SL → Option (V × SL)} (ho : TE prog w C o d1) (h : TE prog w C e d2) (hs1 : starEach [e] C.env = [(false, eval e C.env)])
    (hbase : attributeBase o "split" C.env (eval o C.env) = eval o C.env) (hline : (apos.endLine == pos.line) = true) :
    TN prog w C (.Call (.Attribute o "split" apos) [e] [] pos) (nSplit d1 d2) := .mk fun A E Q s σ σ' ad g xs hA S hd hq => by
  unfold nSplit at hd
  split at hd
  · rename_i x σ1 e1
    split at hd
    · rename_i y σ2 e2
      split at hd
      · rename_i hc
        cases hd
        have htr : backTo pos (starEach [e] C.env) = [(false, eval e C.env)] := by rw [hs1]; rfl
        refine wpAny_Call_method_lateS hbase (by rw [htr]; rfl) hline (ho.go A E _ s σ σ1 ad g _ hA S e1 fun v h' tk ad1 g1 P rv => ?_)
        obtain ⟨t, rfl⟩ := rv
        refine ⟨"str", _, F.plainAttrs_str, F.slot_str_split, F.type_str_split, typeIs_str _ _ _, (fun _ e => nomatch e), ?_⟩
        rw [htr]
        refine Calls.callWith_builtin rfl (evalArgs_plain (spliced_cons (h.go A E _ _ σ1 _ ad1 g1 _ hA P.st e2 fun v2 h2 tk2 ad2 g2 P2 rv2 => spliced_nil ?_)))
        obtain ⟨u, rfl⟩ := rv2
        have h22 : big = 4194304 := rfl
        refine split_new (s := { s with heap := h2, toks := tk2 }) (by rw [mkS_len]; cases y with
          | nil => exact absurd rfl hc.2.1
          | cons c r => simp) (fun l k hl => ?_) (by rw [mkS_len, sizeLine_eq]; omega) (by rw [mkS_len, mkS_len, sizeLine_eq]; omega)
        have PP := P.trans P2
        have hn : h2.get? h2.objs.size = none := none_at h2
        have hn0 : ∀ o, s.heap.get? h2.objs.size = some o → Mut C σ ad h2.objs.size := fun o q => by
          by_cases hm : Mut C σ ad h2.objs.size
          · exact hm
          · rw [(PP.keep _ o q hm).1] at hn; cases hn
        refine hq h2.objs.size (strValues l) _ k ad2 g2 (PP.trans (P2.st.grow0 (Grow.push (.refl _) _))) hn0 ?_ (fun hm => ?_) ⟨_, Heap.get?_push_size _ rfl⟩ ?_
        · cases q : g2 h2.objs.size with
          | none => rfl
          | some o => rw [(P2.st.gsub _ o q).1] at hn; cases hn
        · obtain ⟨_, _, o, e⟩ := P2.st.mutNew _ hm
          rw [hn] at e; cases e
        · have := strs_back l (g := g2)
          rw [hl] at this
          unfold splitV
          rw [List.map_map]
          exact this
      · cases hd
    · cases hd
  · cases hd
end
end Mine
-- part Rules15
set_option maxRecDepth 100000
namespace Mine
open PySem PySem.W PySem.Calls PyProof.Rows PySem.Spec PySem.SeqAt
/-! ## comprehensions -/
section
variable {prog : Program} {w : World} {C : Cx} {σ σ' σ₀ : SL} {ad ad' ad₀ : Nat → Addr} {g g' g₀ : GP} {h h' h₀ : Heap}
/-- an object that is none of the frame's may change -/
theorem St.touch (S : St C σ ad g h) {I : Addr} {oI : Obj} (hI : h.get? I = some oI) (hg : g I = none) (hb : C.base.get? I = none) (hm : ¬ Mut C σ ad I) (hc : ∀ ov, oI.data ≠ .cell ov)
    (keep : ∀ b o, b ≠ I → h.get? b = some o → h'.get? b = some o) : St C σ ad g h' where
  gsub := fun a o e => by
    obtain ⟨e1, e2⟩ := S.gsub a o e
    exact ⟨keep a o (fun q => by subst q; rw [hg] at e; cases e) e1, e2⟩
  hbase := fun b o e => keep b o (fun q => by subst q; rw [hb] at e; cases e) (S.hbase b o e)
  mutNew := fun b hb' => by
    obtain ⟨h1, h2, o, h3⟩ := S.mutNew b hb'
    exact ⟨h1, h2, o, keep b o (fun q => by subst q; exact hm hb') h3⟩
  vars := by
    obtain ⟨m, hn, hv⟩ := S.vars
    refine ⟨m, ?_, fun i x sl h1 h2 => ?_⟩
    · obtain ⟨o, es, ep, e1, e2, e3⟩ := hn
      exact ⟨o, es, ep, keep _ o (fun q => hm (.inl q.symm)) e1, e2, e3⟩
    · obtain ⟨ov, a1, a2⟩ := hv i x sl h1 h2
      refine ⟨ov, ?_, ?_⟩
      · rcases a1 with a1 | ⟨b1, b0, c, b3, o, e1, e2⟩
        · exact .inl a1
        · exact .inr ⟨b1, b0, c, b3, o, keep c o (fun q => by subst q; rw [hI] at e1; cases e1; exact hc _ e2) e1, e2⟩
      · refine a2.mono (.refl g) fun o e hown => ?_
        obtain ⟨xs, rfl⟩ := hown
        exact keep _ o (fun q => hm (.inr (.inr ⟨i, xs, h2, q⟩))) e
  len := S.len
  inj := S.inj
  cells := S.cells
/-- the tests of a comprehension -/
structure TF (prog : Program) (w : World) (C : Cx) (ifs : List Expr) (d : SL → Option (Bool × SL)) : Prop where
  go : ∀ (A : Around) (E : Value → Shared → Prop) (Q : Bool → Shared → Prop) (s : Shared) (σ σ' : SL) (ad : Nat → Addr) (g : GP) (b : Bool), AOk C.n A → St C σ ad g s.heap → d σ = some (b, σ') →
    (∀ h' tk ad' g', PostE C σ ad g s.heap σ' ad' g' h' → Q b { s with heap := h', toks := tk }) →
    wpAny (model prog w) A (forIn ifs true fun c r => if r = true then do let ok ← isTrue c C.env (eval c C.env); pure (ForInStep.yield ok) else pure (ForInStep.yield r)) Q E s
noncomputable def fNil : SL → Option (Bool × SL) := fun σ => some (true, σ)
theorem TF_nil : TF prog w C [] fNil := .mk fun A E Q s σ σ' ad g b hA S hd hq => by
  cases hd
  exact wpAny_pure (hq s.heap s.toks ad g (.refl S))
theorem TF_one {c : Expr} {d : SL → Option (Bool × SL)} (h : TT prog w C c d) : TF prog w C [c] d := .mk fun A E Q s σ σ' ad g b hA S hd hq => by
  rw [List.forIn_cons]
  refine wpAny_bind ?_
  rw [if_pos rfl]
  refine wpAny_bind (h.go A E _ s σ σ' ad g b hA S hd fun h' tk ad' g' P => ?_)
  exact wpAny_pure (wpAny_pure (hq _ _ _ _ P))
noncomputable def compL (st : V → SL → Option SL) (dt : SL → Option (Bool × SL)) (de : SL → Option (V × SL)) : List V → SL → Option (List V)
  | [], _ => some []
  | x :: xs, σ => (st x σ).bind fun σ1 => (dt σ1).bind fun p => if p.1 then (de p.2).bind fun q => (compL st dt de xs q.2).map (q.1 :: ·) else compL st dt de xs p.2
/-- the comprehension's frame -/
noncomputable def compCx (C : Cx) (scope : Scope) (cl : List (Str × Addr)) (ns : List Str) (base : Heap) (L : Addr) : Cx where
  env := compEnvC scope cl L C.env
  ns := ns
  base := base
  mu := false
  n := C.n
/-- how far the loop is -/
structure LR where
  h : Heap
  tk : Nat
  σ : SL
  ad : Nat → Addr
  g : GP
  i : Nat
  acc : List V
  vs : List Value
  rr : List V
structure LI (C' : Cx) (g1 : GP) (n : Nat) (rs : List V) (D : Addr) (Zs : List Addr) (St' : Nat → Heap → Prop) (F : Nat → SL → Option (List V)) (k : Nat) (r : LR) : Prop where
  st : St C' r.σ r.ad r.g r.h
  sti : St' r.i r.h
  ik : r.i + k = n
  go : F r.i r.σ = some r.rr
  ac : rs = r.acc ++ r.rr
  le : r.acc.length ≤ r.i
  pl : r.h.PlainList D r.vs.toArray
  rv : RVs r.g r.acc r.vs
  gx : GExt g1 r.g
  gn : ∀ a o, r.g a = some o → g1 a = some o ∨ C'.base.get? a = none
  no : ∀ Z ∈ Zs, r.g Z = none ∧ ¬ Mut C' r.σ r.ad Z
/-- what a step inside leaves -/
structure LS (C' : Cx) (g1 : GP) (Zs : List Addr) (h3 : Heap) (σ6 : SL) (ad6 : Nat → Addr) (g6 : GP) (h6 : Heap) : Prop where
  gx : GExt g1 g6
  gn : ∀ a o, g6 a = some o → g1 a = some o ∨ C'.base.get? a = none
  no : ∀ Z ∈ Zs, g6 Z = none ∧ ¬ Mut C' σ6 ad6 Z
  kz : ∀ Z ∈ Zs, h6.get? Z = h3.get? Z
theorem LS.of {C' : Cx} {g1 g3 g6 : GP} {Zs : List Addr} {σ3 σ6 : SL} {ad3 ad6 : Nat → Addr} {h3 h6 : Heap} (S3 : St C' σ3 ad3 g3 h3) (gx : GExt g1 g3) (gn : ∀ a o, g3 a = some o → g1 a = some o ∨ C'.base.get? a = none) (no : ∀ Z ∈ Zs, g3 Z = none ∧ ¬ Mut C' σ3 ad3 Z) (at3 : ∀ Z ∈ Zs, ∃ o, h3.get? Z = some o) (P : Post C' σ3 ad3 g3 h3 σ6 ad6 g6 h6) : LS C' g1 Zs h3 σ6 ad6 g6 h6 where
  gx := gx.trans P.gext
  gn := fun a o e => by
    rcases P.gnew a o e with e | e | e
    · exact gn a o e
    · refine .inr ?_
      cases q : C'.base.get? a with
      | none => rfl
      | some o' => rw [S3.hbase a o' q] at e; cases e
    · exact .inr (S3.mutNew a e).1
  no := fun Z hZ => by
    obtain ⟨z1, z2⟩ := no Z hZ
    obtain ⟨o, z3⟩ := at3 Z hZ
    refine ⟨?_, (P.keep Z o z3 z2).2⟩
    cases q : g6 Z with
    | none => rfl
    | some o =>
      rcases P.gnew Z o q with e | e | e
      · rw [z1] at e; cases e
      · rw [z3] at e; cases e
      · exact absurd e z2
  kz := fun Z hZ => by
    obtain ⟨o, z3⟩ := at3 Z hZ
    rw [z3]
    exact (P.keep Z o z3 (no Z hZ).2).1
theorem comp_loop {C' : Cx} {elt iter : Expr} {x : Str} {px : Pos} {ifs : List Expr} {scope : Scope} {pos : Pos} {A : Around} {s₂ : Shared} {I D : Addr} {fp : List Addr} {Pv : Nat → Value → Prop} {St' : Nat → Heap → Prop} {g1 : GP} {xs rs : List V} {σi : SL} {ad1 : Nat → Addr} {st : V → SL → Option SL} {dt : SL → Option (Bool × SL)} {de : SL → Option (V × SL)} {RR : Result → Shared → Prop}
    (hA : AOk C'.n A) (it : Itr prog w A g1 xs I fp Pv St') (hxs : xs.length ≤ big) (ht : TG prog w C' (.Name x px) st) (hf : TF prog w C' ifs dt) (he : TE prog w C' elt de) (hd : compL st dt de xs σi = some rs)
    (S : St C' σi ad1 g1 s₂.heap) (sti : St' 0 s₂.heap) (hID : I ≠ D) (hbI : C'.base.get? I = none) (hbD : C'.base.get? D = none) (hgb : ∀ a o, g1 a = some o → C'.base.get? a = some o) (hgI : g1 I = none) (hgD : g1 D = none) (hpl : s₂.heap.PlainList D #[]) (hmD : ¬ Mut C' σi ad1 D) (hmI : ¬ Mut C' σi ad1 I)
    (hR : ∀ h' tk vs g' σ' ad', St C' σ' ad' g' h' → h'.PlainList D vs.toArray → RVs g' rs vs → GExt g1 g' → (∀ a o, g' a = some o → g1 a = some o ∨ C'.base.get? a = none) → g' D = none → RR (.ok .next) { s₂ with heap := h', toks := tk }) :
    codeAny (model prog w) A (.compLoop (.ListComp elt [⟨.Name x px, iter, ifs, 0⟩] scope pos) 0 (.ref I) (.ref D) C'.env) RR s₂ := by
  refine codeAny_compLoop_tests (fun k s' => ∃ r : LR, s' = { s₂ with heap := r.h, toks := r.tk } ∧ LI C' g1 xs.length rs D [D, I] St' (fun i σ => compL st dt de (xs.drop i) σ) k r)
    (fun k s' hI => ?_) xs.length ⟨⟨s₂.heap, s₂.toks, σi, ad1, g1, 0, [], [], rs⟩, rfl, S, sti, Nat.zero_add _, hd, rfl, Nat.le_refl _, hpl, rfl, .refl g1, fun a o e => .inl e, by simp [hgD, hgI, hmD, hmI]⟩
  obtain ⟨⟨h', tk, σ', ad', g', i, acc, vs, rr⟩, rfl, L⟩ := hI
  obtain ⟨oI, T, vsI, hoI, hcI, hmI', hdI⟩ := it.data i h' L.sti
  have hcell : ∀ ov, oI.data ≠ .cell ov := fun ov q => by rw [hdI] at q; cases q
  have LnI := L.no I (by simp)
  cases k with
  | zero =>
    have hn : xs.length = i := L.ik.symm
    refine it.walks.done _ _ _ (by rw [hn]; exact L.sti) fun h3 tk3 k3 => ?_
    have e3 : compL st dt de (xs.drop i) σ' = some rr := L.go
    have e4 : rs = acc ++ rr := L.ac
    rw [List.drop_eq_nil_of_le (by omega), compL] at e3
    cases e3
    rw [List.append_nil] at e4
    subst e4
    have k3' : ∀ b o, b ≠ I → h'.get? b = some o → h3.get? b = some o := fun b o q => k3 b o (by simpa using q)
    obtain ⟨n, hpl'⟩ := L.pl
    exact hR h3 tk3 vs g' σ' ad' (L.st.touch hoI LnI.1 hbI LnI.2 hcell k3') ⟨n, k3' _ _ (Ne.symm hID) hpl'⟩ L.rv L.gx L.gn (L.no D (by simp)).1
  | succ k =>
    have hik : i + (k + 1) = xs.length := L.ik
    have hlt : i < xs.length := by omega
    have e3 : compL st dt de (xs.drop i) σ' = some rr := L.go
    rw [List.drop_eq_getElem_cons hlt, compL] at e3
    obtain ⟨σ2, q1, e3⟩ := Option.bind_eq_some_iff.mp e3
    obtain ⟨⟨b, σ3⟩, q2, e3⟩ := Option.bind_eq_some_iff.mp e3
    refine it.walks.item i _ _ _ hlt L.sti fun v3 h3 tk3 pv3 sti3 k3 => ?_
    have k3' : ∀ b o, b ≠ I → h'.get? b = some o → h3.get? b = some o := fun b o q => k3 b o (by simpa using q)
    have S3 : St C' σ' ad' g' h3 := L.st.touch hoI LnI.1 hbI LnI.2 hcell k3'
    have rv3 : RV g1 xs[i] v3 := it.rep i v3 xs[i] pv3 (List.getElem?_eq_getElem hlt)
    have hD3 : h3.PlainList D vs.toArray := L.pl.imp fun n e => k3' _ _ (Ne.symm hID) e
    have at3 : ∀ Z ∈ [D, I], ∃ o, h3.get? Z = some o := fun Z hZ => by
      rcases List.mem_cons.mp hZ with rfl | hZ
      · exact hD3.elim fun n e => ⟨_, e⟩
      · rw [List.mem_singleton.mp hZ]
        obtain ⟨o3, _, _, ho3, _⟩ := it.data (i + 1) h3 sti3
        exact ⟨o3, ho3⟩
    refine ht.go A _ _ _ σ' ad' g' h3 σ' ad' g' σ2 xs[i] v3 hA (.refl S3) (rv3.mono L.gx) q1 fun h4 tk4 ad4 g4 P4 x4 => ?_
    refine hf.go A _ _ _ σ2 σ3 ad4 g4 b hA P4.st q2 fun h5 tk5 ad5 g5 P5 => ?_
    have P45 := P4.trans P5.toPost
    have fr : ∀ {σ6 : SL} {ad6 : Nat → Addr} {g6 : GP} {h6 : Heap}, Post C' σ' ad' g' h3 σ6 ad6 g6 h6 → St' (i + 1) h6 := fun {σ6 ad6 g6 h6} P6 => by
      refine it.walks.frame (i + 1) h3 h6 sti3 fun b hb o' ho' => ?_
      rcases it.fpOk b hb with rfl | ⟨ob, hob⟩
      · exact (P6.keep b o' ho' LnI.2).1
      · have r1 := (S3.gsub b ob (L.gx b ob hob)).1
        have r2 : ob = o' := Option.some.inj (r1.symm.trans ho')
        subst r2
        exact (P6.st.gsub b ob (P6.gext b ob (L.gx b ob hob))).1
    cases b with
    | false =>
      rw [if_neg Bool.false_ne_true]
      have Z := LS.of S3 L.gx L.gn L.no at3 P45
      exact ⟨k, Nat.lt_succ_self k, ⟨h5, tk5, σ3, ad5, g5, i + 1, acc, vs, rr⟩, rfl, P5.st, fr P45, by show i + 1 + k = _; omega, e3, L.ac, Nat.le_succ_of_le L.le, hD3.imp fun n e => (Z.kz D (by simp)).trans e, L.rv.mono P45.gext, Z.gx, Z.gn, Z.no⟩
    | true =>
      rw [if_pos rfl]
      obtain ⟨⟨r, σ4⟩, q3, e3⟩ := Option.bind_eq_some_iff.mp (show (de σ3).bind _ = some rr from e3)
      obtain ⟨rr', e5, rfl⟩ := Option.map_eq_some_iff.mp e3
      refine he.go A _ _ _ σ3 σ4 ad5 g5 r hA P5.st q3 fun v6 h6 tk6 ad6 g6 P6 rv6 => ?_
      have P46 := P45.trans P6.toPost
      have Z := LS.of S3 L.gx L.gn L.no at3 P46
      have hD6 : h6.PlainList D vs.toArray := hD3.imp fun n e => (Z.kz D (by simp)).trans e
      have hlen : vs.length = acc.length := L.rv.length
      have hle : acc.length ≤ i := L.le
      refine wpAny_list_append_plain (x := v6) hD6 (fun h7 hpl7 hsb => ?_) (by rw [show vs.toArray.size = vs.length from rfl, hlen, sizeLine_eq]; have h22 : big = 4194304 := rfl; omega)
      have k7 : ∀ b o, b ≠ D → h6.get? b = some o → h7.get? b = some o := fun b o q e => (hsb.2 b q).trans e
      rw [show vs.toArray.push v6 = (vs ++ [v6]).toArray by simp] at hpl7
      have S7 : St C' σ4 ad6 g6 h7 := hD6.elim fun n6 e => P6.st.touch e (Z.no D (by simp)).1 hbD (Z.no D (by simp)).2 (fun ov q => by cases q) k7
      have ac' : rs = (acc ++ [r]) ++ rr' := by
        have : rs = acc ++ r :: rr' := L.ac
        rw [this]; simp
      refine ⟨k, Nat.lt_succ_self k, ⟨h7, tk6, σ4, ad6, g6, i + 1, acc ++ [r], vs ++ [v6], rr'⟩, rfl, S7, ?_, by show i + 1 + k = _; omega, e5, ac', by show (acc ++ [r]).length ≤ i + 1; rw [List.length_append]; simp; omega, hpl7, (L.rv.mono P46.gext).append ⟨v6, [], rfl, rv6, rfl⟩, Z.gx, Z.gn, Z.no⟩
      refine it.walks.frame (i + 1) h6 h7 (fr P46) fun b hb o' ho' => k7 b o' ?_ ho'
      rcases it.fpOk b hb with rfl | ⟨ob, hob⟩
      · exact hID
      · intro q
        subst q
        rw [hgD] at hob; cases hob
end
end Mine
-- part Rules16
set_option maxRecDepth 100000
namespace Mine
open PySem PySem.W PySem.Calls PyProof.Rows PySem.Spec PySem.SeqAt
section
variable {prog : Program} {w : World} {C : Cx} {σ σ' σ₀ : SL} {ad ad' ad₀ : Nat → Addr} {g g' g₀ : GP} {h h' h₀ : Heap}
noncomputable def pickS (σ : SL) : List Nat → Option SL
  | [] => some []
  | i :: r => match σ[i]? with
    | some (.val v) => (pickS σ r).map (.val v :: ·)
    | _ => none
theorem pickS_get {σ : SL} : ∀ {is : List Nat} {ps : SL}, pickS σ is = some ps → ps.length = is.length ∧ ∀ (j : Nat) (sl : Slot), ps[j]? = some sl → ∃ (i : Nat) (v : V), is[j]? = some i ∧ σ[i]? = some (.val v) ∧ sl = .val v
  | [], ps, h => by cases h; exact ⟨rfl, fun j sl e => by cases e⟩
  | i :: r, ps, h => by
    rw [pickS] at h
    split at h
    · rename_i v hv
      obtain ⟨q, h1, rfl⟩ := Option.map_eq_some_iff.mp h
      obtain ⟨h2, h3⟩ := pickS_get h1
      refine ⟨by simp [h2], fun j sl e => ?_⟩
      cases j with
      | zero => cases e; exact ⟨i, v, rfl, hv, rfl⟩
      | succ j => exact h3 j sl e
    · cases h
structure CompOk (C : Cx) (scope : Scope) (cl : List (Str × Addr)) (x : Str) (fns : List Str) (is : List Nat) : Prop where
  clos : closureFor scope C.env = pure cl
  cell : ∀ y ∈ scope.names, y.2 ≠ .cell
  kind : scope.kind = .function
  names : ∀ y ∈ scope.names, y.2 = .local → scope.names.lookup y.1 = some .local
  tgt : scope.names.lookup x = some .local
  nodup : (x :: fns).Nodup
  len : is.length = fns.length
  free : ∀ (j : Nat) (y : Str), fns[j]? = some y → (∃ i : Nat, is[j]? = some i ∧ C.ns[i]? = some y) ∧ ((relabel scope C.env).names.lookup y = some .cell ∨ (relabel scope C.env).names.lookup y = some .free) ∧ C.env.kindOf y ≠ some .local ∧ (y == ("__classdict__" : Str)) = false ∧ cl.lookup y = C.env.cells.lookup y
  sub : ∀ y c, cl.lookup y = some c → C.env.cells.lookup y = some c
/-- what a comprehension's own walk is -/
structure CompW (prog : Program) (w : World) (C : Cx) (scope : Scope) (cl : List (Str × Addr)) (x : Str) (px : Pos) (fns : List Str) (ifs : List Expr) (elt : Expr) (st : V → SL → Option SL) (dt : SL → Option (Bool × SL)) (de : SL → Option (V × SL)) : Prop where
  go : ∀ (b : Heap) (L : Addr), Grow C.base b → CK prog (compCx C scope cl (x :: fns) b L) → TG prog w (compCx C scope cl (x :: fns) b L) (.Name x px) st ∧ TF prog w (compCx C scope cl (x :: fns) b L) ifs dt ∧ TE prog w (compCx C scope cl (x :: fns) b L) elt de
theorem comp_block {elt iter : Expr} {x : Str} {px : Pos} {ifs : List Expr} {scope : Scope} {cl : List (Str × Addr)} {fns : List Str} {is : List Nat} {pos : Pos} {A : Around} {E : Value → Shared → Prop} {s₂ : Shared} {h1 : Heap} {I : Addr} {fp : List Addr} {Pv : Nat → Value → Prop} {St' : Nat → Heap → Prop} {xs rs : List V} {ps : SL}
    {st : V → SL → Option SL} {dt : SL → Option (Bool × SL)} {de : SL → Option (V × SL)} {RR : Value → Addr → Result → Shared → Prop}
    (K : CK prog C) (ok : CompOk C scope cl x fns is) (W : CompW prog w C scope cl x px fns ifs elt st dt de) (hA : AOk C.n A) (S : St C σ ad g h1) (gr : Grow h1 s₂.heap) (hI1 : h1.get? I = none) (it : Itr prog w A g xs I fp Pv St') (sti : St' 0 s₂.heap) (hxs : xs.length ≤ big)
    (hps : pickS σ is = some ps) (hd : compL st dt de xs (.unset :: ps) = some rs)
    (hRR : ∀ D L h' tk vs g' m, h1.get? D = none → h1.get? L = none → D ≠ L → Grow h1 h' → h'.PlainList D vs.toArray → RVs g' rs vs → GS g' h' → GExt g g' → (∀ a o, g' a = some o → g a = some o ∨ h1.get? a = none) → g' D = none → g' L = none → h'.Ns L m → RR (.ref D) L (.ok .next) { s₂ with heap := h', toks := tk }) :
    wpAny (model prog w) A (newList []) (fun acc s₃ => wpAny (model prog w) A (newFunctionEnv scope C.env.globals cl [] C.env.qual none .none (some C.env)) (fun cenv s₄ =>
      codeAny (model prog w) A (.compStart (.ListComp elt [⟨.Name x px, iter, ifs, 0⟩] scope pos) 0 (.ref I) acc { cenv with scope := relabel scope C.env }) (RR acc cenv.locals) s₄) E s₃) E s₂ := by
  refine wpAny_newObj_type (wpAny_newFunctionEnv ok.cell (by intro y hy; simp at hy) (fun h₃ hns hsb => ?_) ok.kind) (by show (#[] : Array Value).size ≤ sizeLine; rw [sizeLine_eq]; decide)
  dsimp only at hns hsb ⊢
  generalize hH2 : s₂.heap.push { cls := .type "list", dict := none, data := .seq ([] : List Value).toArray } = H2 at hns hsb ⊢
  have hC : H2.objs.size = s₂.heap.objs.size + 1 := by rw [← hH2, Heap.size_push]
  have hDC : s₂.heap.objs.size ≠ H2.objs.size := by rw [hC]; exact Nat.ne_of_lt (Nat.lt_succ_self _)
  have old : ∀ b o, s₂.heap.get? b = some o → h₃.get? b = some o := fun b o e => hsb.extBut b o (by rw [hC]; exact Nat.ne_of_lt (Nat.lt_succ_of_lt (Heap.lt_size e))) (Heap.get?_push_of_some _ (hH2 ▸ Heap.get?_push_of_some _ e))
  have n2D := none_at s₂.heap
  have n1 : ∀ a, s₂.heap.objs.size ≤ a → h1.get? a = none := fun a ha => by
    cases q : h1.get? a with
    | none => rfl
    | some o' => exact absurd (Heap.lt_size (gr a o' q)) (Nat.not_lt.mpr ha)
  have n1D := n1 _ (Nat.le_refl s₂.heap.objs.size)
  have n1L := n1 H2.objs.size (by rw [hC]; exact Nat.le_succ _)
  have ng : ∀ a, h1.get? a = none → g a = none := fun a e => by
    cases q : g a with
    | none => rfl
    | some o' => rw [(S.gsub a o' q).1] at e; cases e
  have hD3 : h₃.PlainList s₂.heap.objs.size #[] := ⟨_, hsb.extBut _ _ hDC (Heap.get?_push_of_some _ (hH2 ▸ Heap.get?_push_size _ rfl))⟩
  let C' := compCx C scope cl (x :: fns) h1 H2.objs.size
  have K' : CK prog C' := ⟨⟨by show (relabel scope C.env).kind = .function; simp [relabel, ok.kind], K.ok.glob, K.ok.blt, ok.nodup⟩, K.wd.up S.hbase⟩
  obtain ⟨w1, w2, w3⟩ := W.go h1 H2.objs.size S.hbase K'
  obtain ⟨pl, pg⟩ := pickS_get hps
  have hnoown : ∀ (i : Nat) (ys : List V), (Slot.unset :: ps)[i]? ≠ some (Slot.own ys) := fun i ys e => by
    cases i with
    | zero => cases e
    | succ i => obtain ⟨_, _, _, _, q⟩ := pg i _ e; cases q
  have noMut : ∀ b, Mut C' (.unset :: ps) (fun _ => 0) b → b = H2.objs.size := fun b hb => by
    rcases hb with hb | ⟨hb, _⟩ | ⟨i, ys, hi, _⟩
    · exact hb
    · cases hb
    · exact absurd hi (hnoown i ys)
  have S' : St C' (.unset :: ps) (fun _ => 0) g h₃ := {
    gsub := fun a o e => ⟨old _ _ (gr _ _ (S.gsub a o e).1), (S.gsub a o e).2⟩
    hbase := fun b o e => old _ _ (gr _ _ e)
    mutNew := fun b hb => by
      rw [noMut b hb]
      obtain ⟨o, _, _, e, _⟩ := hns
      exact ⟨n1L, ng _ n1L, o, e⟩
    vars := ⟨_, hns, fun i y sl hy hsl => by
      cases i with
      | zero =>
        cases hy; cases hsl
        exact ⟨none, .inl ⟨lookup_relabel_local ok.tgt, rfl⟩, rfl⟩
      | succ j =>
        obtain ⟨i, v, q1, q2, rfl⟩ := pg j sl hsl
        obtain ⟨⟨i', r1, r2⟩, r3, r4, r5, r6⟩ := ok.free j y hy
        rw [q1] at r1; cases r1
        obtain ⟨m, hn, hv⟩ := S.vars
        obtain ⟨ov, a1, va, rfl, rv⟩ := hv i y _ r2 q2
        rcases a1 with ⟨a1, _⟩ | ⟨_, _, c, b3, o, e1, e2⟩
        · exact absurd a1 r4
        · exact ⟨_, .inr ⟨r3, r5, c, r6.trans b3, o, old _ _ (gr _ _ e1), e2⟩, va, rfl, rv⟩⟩
    len := by show (Slot.unset :: ps).length = (x :: fns).length; simp [pl, ok.len]
    inj := fun i j ys zs hi _ _ => absurd hi (hnoown i ys)
    cells := fun y z c hy hz => S.cells y z c (ok.sub y c hy) (ok.sub z c hz) }
  have stI : St' 0 h₃ := it.walks.frame 0 _ _ sti fun b _ o e => old b o e
  obtain ⟨oI, T, vsI, hoI, _, _, hdI⟩ := it.data 0 s₂.heap sti
  have hIlt := Heap.lt_size hoI
  have loop : ∀ s₃ : Shared, s₃ = { s₂ with heap := h₃, toks := s₂.toks + ([] : List (Str × Value)).length } →
      codeAny (model prog w) A (.compLoop (.ListComp elt [⟨.Name x px, iter, ifs, 0⟩] scope pos) 0 (.ref I) (.ref s₂.heap.objs.size) C'.env) (RR (.ref s₂.heap.objs.size) H2.objs.size) s₃ := by
    rintro s₃ rfl
    refine comp_loop (C' := C') (σi := .unset :: ps) (ad1 := fun _ => 0) hA it hxs w1 w2 w3 hd S' stI (Nat.ne_of_lt hIlt) hI1 n1D (fun a o e => (S.gsub a o e).1) (ng _ hI1) (ng _ n1D) hD3 (fun hm => hDC (noMut _ hm)) (fun hm => ?_) fun h' tk vs g' σ' ad' Sx hpl rv gx gn gD => ?_
    · have := noMut _ hm
      rw [this, hC] at hIlt
      exact Nat.lt_irrefl _ (Nat.lt_of_succ_lt hIlt)
    · obtain ⟨m, hn, _⟩ := Sx.vars
      exact hRR _ _ h' tk vs g' m n1D n1L hDC Sx.hbase hpl rv Sx.gsub gx gn gD (Sx.mutNew _ (.inl rfl)).2.1 hn
  exact codeAny_compStart_list (loop _ rfl) (it.walks.self 0 _ _ _ stI (loop _ rfl))
noncomputable def dComp (is : List Nat) (d : SL → Option (V × SL)) (st : V → SL → Option SL) (dt : SL → Option (Bool × SL)) (de : SL → Option (V × SL)) : SL → Option (V × SL) := fun σ =>
  (d σ).bind fun p => (iterV p.1).bind fun xs => if xs.length ≤ big then (pickS p.2 is).bind fun ps => (compL st dt de xs (.unset :: ps)).map fun rs => (.list rs, p.2) else none
theorem dComp_some {is : List Nat} {d : SL → Option (V × SL)} {st : V → SL → Option SL} {dt : SL → Option (Bool × SL)} {de : SL → Option (V × SL)} {a : V} (hd : dComp is d st dt de σ = some (a, σ')) :
    ∃ b xs ps rs, d σ = some (b, σ') ∧ iterV b = some xs ∧ xs.length ≤ big ∧ pickS σ' is = some ps ∧ compL st dt de xs (.unset :: ps) = some rs ∧ a = .list rs := by
  unfold dComp at hd
  obtain ⟨⟨b, σ1⟩, e1, hd⟩ := Option.bind_eq_some_iff.mp hd
  obtain ⟨xs, e2, hd⟩ := Option.bind_eq_some_iff.mp hd
  split at hd
  · rename_i hx
    obtain ⟨ps, e3, hd⟩ := Option.bind_eq_some_iff.mp hd
    obtain ⟨rs, e4, hd⟩ := Option.map_eq_some_iff.mp hd
    cases hd
    exact ⟨b, xs, ps, rs, e1, e2, hx, e3, e4, rfl⟩
  · cases hd
theorem TE_comp {elt iter : Expr} {x : Str} {px : Pos} {ifs : List Expr} {scope : Scope} {cl : List (Str × Addr)} {fns : List Str} {is : List Nat} {pos : Pos} {d : SL → Option (V × SL)} {st : V → SL → Option SL} {dt : SL → Option (Bool × SL)} {de : SL → Option (V × SL)}
    (K : CK prog C) (ok : CompOk C scope cl x fns is) (W : CompW prog w C scope cl x px fns ifs elt st dt de) (h : TE prog w C iter d) (hs : ∀ v, foldedSetIterable iter C.env v = pure v) :
    TE prog w C (.ListComp elt [⟨.Name x px, iter, ifs, 0⟩] scope pos) (dComp is d st dt de) := .mk fun A E Q s σ σ' ad g a hA S hd hq => by
  obtain ⟨b, xs, ps, rs, e1, e2, e3, e4, e5, rfl⟩ := dComp_some hd
  rw [eval_ListComp]
  refine wpAny_comprehension_free (use := none) rfl hs ok.clos ok.kind ok.names (h.go A E _ s σ σ' ad g b hA S e1 fun v h1 tk1 ad1 g1 P1 rv => iter_go (s := { s with heap := h1, toks := tk1 }) P1.st.gs hA.handled e2 rv fun I h2 fp Pv St' hI gr it sti => ?_)
  refine comp_block (s₂ := { s with heap := h2, toks := tk1 }) (RR := fun acc L => compPost (model prog w) A E none Q acc L) K ok W hA P1.st gr hI it sti e3 e4 e5 fun D L h' tk vs g' m nD nL hDL gr' hpl rvs gs gx gn gD gL hn => ?_
  refine ⟨m, hn, fun h'' hs'' => ?_⟩
  have nLr : ∀ b o, h1.get? b = some o → b ≠ L := fun b o e q => by subst q; rw [nL] at e; cases e
  have gr'' : Grow h1 h'' := fun b o e => hs''.extBut b o (nLr b o e) (gr' b o e)
  obtain ⟨n, hpl⟩ := hpl
  have hD'' := hs''.extBut _ _ hDL hpl
  have P2 := P1.st.grow (g' := gput g' D _) gr'' (gx.trans (gput_ext gD)) (fun a o e => by
    unfold gput at e
    by_cases q : a = D
    · subst q; rw [if_pos rfl] at e; cases e; exact ⟨hD'', .inl ⟨_, _, rfl⟩⟩
    · rw [if_neg q] at e
      refine ⟨hs''.extBut a o (fun q2 => by subst q2; rw [gL] at e; cases e) (gs a o e).1, (gs a o e).2⟩) (fun a o e => by
    unfold gput at e
    by_cases q : a = D
    · subst q; exact .inr nD
    · rw [if_neg q] at e; exact gn a o e)
  exact hq (.ref D) h'' tk ad1 _ (P1.trans P2) ⟨D, vs, rfl, ⟨_, gput_self, rfl, _, rfl⟩, rvs.mono (gput_ext gD)⟩
end
end Mine
-- part Rules17
set_option maxRecDepth 100000
namespace Mine
open PySem PySem.W PySem.Calls PyProof.Rows PySem.Spec PySem.SeqAt
section
variable {prog : Program} {w : World} {C : Cx} {σ σ' σ₀ : SL} {ad ad' ad₀ : Nat → Addr} {g g' g₀ : GP} {h h' h₀ : Heap}
/-- x = [comprehension], stored inside the comprehension -/
theorem TX_asgc {elt iter : Expr} {x y : Str} {i : Nat} {px py : Pos} {ifs : List Expr} {scope : Scope} {cl : List (Str × Addr)} {fns : List Str} {is : List Nat} {pos spos : Pos} {d : SL → Option (V × SL)} {st : V → SL → Option SL} {dt : SL → Option (Bool × SL)} {de : SL → Option (V × SL)}
    (K : CK prog C) (ok : CompOk C scope cl x fns is) (W : CompW prog w C scope cl x px fns ifs elt st dt de) (h : TE prog w C iter d) (hs : ∀ v, foldedSetIterable iter C.env v = pure v) (hy : Storable C i y)
    (hsw : swapsWith (.ListComp elt [⟨.Name x px, iter, ifs, 0⟩] scope pos) (some (.Name y py)) spos.line C.env = pure true) :
    TX prog w C (.Assign [.Name y py] (.ListComp elt [⟨.Name x px, iter, ifs, 0⟩] scope pos) spos) (sAsg i (dComp is d st dt de)) := .mk fun A E Q s σ ad g r hA S hd hq => by
  unfold sAsg at hd
  obtain ⟨⟨a, σ'⟩, hd2, hr⟩ := Option.map_eq_some_iff.mp hd
  cases hr
  obtain ⟨b, xs, ps, rs, e1, e2, e3, e4, e5, rfl⟩ := dComp_some hd2
  rw [exec_Assign_Name_used _ _ _ _ hsw]
  refine wpAny_bind (wpAny_standAt (wpAny_bind ?_))
  show wpAny _ A (do let _ ← comprehension (.ListComp elt [⟨.Name x px, iter, ifs, 0⟩] scope pos) scope C.env _ (newList []) false (eval iter C.env) (some (assign (.Name y py) C.env))) _ _ s
  refine wpAny_bind (wpAny_mono (wpAny_comprehension_free (use := some (assign (.Name y py) C.env)) (Q := fun _ s' => Q .next s') rfl hs ok.clos ok.kind ok.names
    (h.go A E _ s σ σ' ad g b hA S e1 fun v h1 tk1 ad1 g1 P1 rv => iter_go (s := { s with heap := h1, toks := tk1 }) P1.st.gs hA.handled e2 rv fun I h2 fp Pv St' hI gr it sti => ?_)) (fun _ s' hq => wpAny_pure (wpAny_pure hq)) fun _ _ e => e)
  refine comp_block (s₂ := { s with heap := h2, toks := tk1 }) (RR := fun acc L => compPost (model prog w) A E (some (assign (.Name y py) C.env)) (fun _ s' => Q .next s') acc L) K ok W hA P1.st gr hI it sti e3 e4 e5 fun D L h' tk vs g' m nD nL hDL gr' hpl rvs gs gx gn gD gL hn => ?_
  show wpAny _ A (assign (.Name y py) C.env (.ref D)) _ _ _
  obtain ⟨n, hpl⟩ := hpl
  have P2 := P1.st.grow (g' := gput g' D _) gr' (gx.trans (gput_ext gD)) (fun a o e => by
    unfold gput at e
    by_cases q : a = D
    · subst q; rw [if_pos rfl] at e; cases e; exact ⟨hpl, .inl ⟨_, _, rfl⟩⟩
    · rw [if_neg q] at e
      exact gs a o e) (fun a o e => by
    unfold gput at e
    by_cases q : a = D
    · subst q; exact .inr nD
    · rw [if_neg q] at e; exact gn a o e)
  have P3 := P1.trans P2
  obtain ⟨oL, es, ep, eL, edL, efL⟩ := hn
  have hmL : ¬ Mut C σ' ad1 L := fun hm => by
    obtain ⟨_, _, o, e⟩ := P1.st.mutNew L hm
    rw [nL] at e; cases e
  refine wpAny_assign_Name (store_val (s := { s with heap := h', toks := tk }) K.ok (Post.refl P2.st) hy.1 hy.2 (a := .list rs) ⟨D, vs, rfl, ⟨_, gput_self, rfl, _, rfl⟩, rvs.mono (gput_ext gD)⟩ fun h3 tk3 ad3 P4 => ?_)
  obtain ⟨kL, kmL⟩ := P4.keep L oL eL hmL
  have P5 := P3.toPost.trans P4
  refine ⟨m, ⟨oL, es, ep, kL, edL, efL⟩, fun h'' hs'' => hq .next h'' _ ad3 _ { st := ?_, keep := fun b o e nm => ?_, gext := P5.gext, gnew := P5.gnew } rfl⟩
  · refine P5.st.touch kL ?_ ?_ kmL (fun ov q => by rw [edL] at q; cases q) fun b o q e => (hs''.2 b q).trans e
    · unfold gput
      rw [if_neg (Ne.symm hDL)]; exact gL
    · cases q : C.base.get? L with
      | none => rfl
      | some o => rw [P1.st.hbase L o q] at nL; cases nL
  · obtain ⟨q1, q2⟩ := P5.keep b o e nm
    refine ⟨(hs''.2 b fun q => ?_).trans q1, q2⟩
    subst q
    rw [(P1.keep b o e nm).1] at nL; cases nL
/-! ### and, or -/
/-- a list of tests -/
structure TB (prog : Program) (w : World) (C : Cx) (op : BoolOp) (es : List Expr) (d : SL → Option (Bool × SL)) : Prop where
  go : ∀ (A : Around) (E : Value → Shared → Prop) (Q : Bool → Shared → Prop) (s : Shared) (σ σ' : SL) (ad : Nat → Addr) (g : GP) (b : Bool), AOk C.n A → St C σ ad g s.heap → d σ = some (b, σ') →
    (∀ h' tk ad' g', PostE C σ ad g s.heap σ' ad' g' h' → Q b { s with heap := h', toks := tk }) → wpAny (model prog w) A (allTrue op es C.env) Q E s
noncomputable def bTrue : SL → Option (Bool × SL) := fun σ => some (true, σ)
noncomputable def bFalse : SL → Option (Bool × SL) := fun σ => some (false, σ)
noncomputable def bAnd (d1 d2 : SL → Option (Bool × SL)) : SL → Option (Bool × SL) := fun σ => (d1 σ).bind fun p => if p.1 then d2 p.2 else some (false, p.2)
noncomputable def bOr (d1 d2 : SL → Option (Bool × SL)) : SL → Option (Bool × SL) := fun σ => (d1 σ).bind fun p => if p.1 then some (true, p.2) else d2 p.2
theorem TB_and0 : TB prog w C .And [] bTrue := .mk fun A E Q s σ σ' ad g b hA S hd hq => by
  cases hd; exact wpAny_allTrue_And_nil (hq s.heap s.toks ad g (.refl S))
theorem TB_or0 : TB prog w C .Or [] bFalse := .mk fun A E Q s σ σ' ad g b hA S hd hq => by
  cases hd; exact wpAny_allTrue_Or_nil (hq s.heap s.toks ad g (.refl S))
theorem TB_and {e : Expr} {es : List Expr} {d1 d2 : SL → Option (Bool × SL)} (h1 : TT prog w C e d1) (h2 : TB prog w C .And es d2) : TB prog w C .And (e :: es) (bAnd d1 d2) := .mk fun A E Q s σ σ' ad g b hA S hd hq => by
  obtain ⟨⟨c, σ1⟩, e1, hd⟩ := Option.bind_eq_some_iff.mp hd
  refine wpAny_allTrue_And_cons (h1.go A E _ s σ σ1 ad g c hA S e1 fun h' tk ad' g' P => ?_)
  cases c with
  | true => exact h2.go A E Q _ σ1 σ' ad' g' b hA P.st hd fun h2 tk2 ad2 g2 P2 => hq _ _ _ _ (P.trans P2)
  | false => cases hd; exact hq _ _ _ _ P
theorem TB_or {e : Expr} {es : List Expr} {d1 d2 : SL → Option (Bool × SL)} (h1 : TT prog w C e d1) (h2 : TB prog w C .Or es d2) : TB prog w C .Or (e :: es) (bOr d1 d2) := .mk fun A E Q s σ σ' ad g b hA S hd hq => by
  obtain ⟨⟨c, σ1⟩, e1, hd⟩ := Option.bind_eq_some_iff.mp hd
  refine wpAny_allTrue_Or_cons (h1.go A E _ s σ σ1 ad g c hA S e1 fun h' tk ad' g' P => ?_)
  cases c with
  | false => exact h2.go A E Q _ σ1 σ' ad' g' b hA P.st hd fun h2 tk2 ad2 g2 P2 => hq _ _ _ _ (P.trans P2)
  | true => cases hd; exact hq _ _ _ _ P
theorem TT_bool {op : BoolOp} {es : List Expr} {pos : Pos} {d : SL → Option (Bool × SL)} (h : TB prog w C op es d) : TT prog w C (.BoolOp op es pos) d := .mk fun A E Q s σ σ' ad g b hA S hd hq =>
  wpAny_isTrue_BoolOp (h.go A E Q s σ σ' ad g b hA S hd hq)
end
end Mine
-- part Rules18
set_option maxRecDepth 100000
namespace Mine
open PySem PySem.W PySem.Calls PyProof.Rows PySem.Spec PySem.SeqAt PyProof.V
section
variable {prog : Program} {w : World} {C : Cx} {σ σ' σ₀ : SL} {ad ad' ad₀ : Nat → Addr} {g g' g₀ : GP} {h h' h₀ : Heap}
/-! ## the module's set and dict -/
noncomputable def dInS (S : Int → Bool) (d : SL → Option (V × SL)) : SL → Option (V × SL) := fun σ => match d σ with
  | some (.int k, σ1) => some (.bool (S k), σ1)
  | _ => none
theorem TE_inS {l : Expr} {b : Str} {bp pos : Pos} {sa : Addr} {Sx : Int → Bool} {n : Nat} {d : SL → Option (V × SL)} (hC : CxOk C) (hx : C.env.kindOf b = some .globalImplicit) (hd : (b == ("__debug__" : Str)) = false) (gv : GV C.base b (.ref sa))
    (hS : C.base.SetOf (intKind prog w) sa Sx n) (h : TE prog w C l d) : TE prog w C (.Compare l [.In] [.Name b bp] pos) (dInS Sx d) := .mk fun A E Q s σ σ' ad g a hA S hd' hq => by
  unfold dInS at hd'
  split at hd'
  · rename_i k σ1 e1
    cases hd'
    refine wpAny_Compare1 (h.go A E _ s σ _ ad g _ hA S e1 fun v h' tk ad' g' P rv => name_glob (s := { s with heap := h', toks := tk }) hC hx hd gv P.st.hbase ?_) rfl
    obtain ⟨t, rfl⟩ := rv
    obtain ⟨o, es, ep, tt, ho, r⟩ := hS
    exact wpAny_inSet_of (knd := intKind prog w) (k := k) (intKind_is prog w k t) rfl ⟨o, es, ep, tt, P.st.hbase _ _ ho, r⟩ (hq _ h' _ ad' g' P rfl)
  · cases hd'
noncomputable def dGet (tab : Int → Option (List Nat)) (d : SL → Option (V × SL)) : SL → Option (V × SL) := fun σ => match d σ with
  | some (.int k, σ1) => some ((match tab k with | some x => V.str x | none => V.none), σ1)
  | _ => none
theorem TE_get {e : Expr} {b : Str} {bp apos pos : Pos} {da : Addr} {D : List (PyData × PyData)} {tab : Int → Option (List Nat)} {d : SL → Option (V × SL)} (hC : CxOk C) (hx : C.env.kindOf b = some .globalImplicit) (hd : (b == ("__debug__" : Str)) = false) (gv : GV C.base b (.ref da))
    (hT : TabAt (intKind prog w) PyData.int C.base da D) (htab : ∀ k, lookup (.int k) D = (tab k).map fun x => .str (mkS x)) (h : TE prog w C e d) (hs1 : starEach [e] C.env = [(false, eval e C.env)])
    (hbase : attributeBase (.Name b bp) "get" C.env (eval (.Name b bp) C.env) = eval (.Name b bp) C.env) (hline : (apos.endLine == pos.line) = true) :
    TE prog w C (.Call (.Attribute (.Name b bp) "get" apos) [e] [] pos) (dGet tab d) := .mk fun A E Q s σ σ' ad g a hA S hd' hq => by
  unfold dGet at hd'
  split at hd'
  · rename_i k σ1 e1
    cases hd'
    have htr : backTo pos (starEach [e] C.env) = [(false, eval e C.env)] := by rw [hs1]; rfl
    refine wpAny_Call_method_lateS hbase (by rw [htr]; rfl) hline (name_glob hC hx hd gv S.hbase ?_)
    obtain ⟨lo, kvs, ⟨o, es, ep, ho, hc, r⟩, hf⟩ := id hT
    have ho' := S.hbase _ _ ho
    refine ⟨"dict", "dict.get", F.plainAttrs_dict, F.slot_dict_get, F.type_dict_get, ⟨o, ho', hc.1⟩, (fun a e => by cases e; exact ⟨o, ho', hc.2.1⟩), ?_⟩
    rw [htr]
    refine Calls.callWith_builtin rfl (evalArgs_plain (spliced_cons (h.go A E _ _ σ _ ad g _ hA S e1 fun v h' tk ad' g' P rv => spliced_nil ?_)))
    obtain ⟨t, rfl⟩ := rv
    refine call_get1_intTab (TabAt.keep hT P.st.hbase) fun v hv => hq _ h' _ ad' g' P ?_
    rw [htab] at hv
    cases ht : tab k with
    | none =>
      rw [ht] at hv
      have hv' : Flat v .none := hv
      cases hv' {} with | none => rfl
    | some x =>
      rw [ht] at hv
      obtain ⟨t', rfl⟩ := Flat.str_inv (show Flat v (.str (mkS x)) from hv)
      exact ⟨t', rfl⟩
  · cases hd'
end
end Mine
-- part Rules19
set_option maxRecDepth 100000
namespace Mine
open PySem PySem.W PySem.Calls PyProof.Rows PySem.Spec PySem.SeqAt PyProof.V
/-! ## a comprehension's closure -/
noncomputable def closG (cells : List (Str × Addr)) (p : Str × NameKind) : Option (Str × Addr) := if p.2 == .free then some (p.1, (cells.lookup p.1).getD 0) else none
noncomputable def closL (names : List (Str × NameKind)) (cells : List (Str × Addr)) : List (Str × Addr) := (names.filterMap (closG cells)).reverse
theorem clos_loop (env : Env) : ∀ (names : List (Str × NameKind)) (cs : List (Str × Addr)), (names.all fun x => x.2 != .free || (env.cells.lookup x.1).isSome) = true →
    (forIn names cs (fun (p : Str × NameKind) (cs : List (Str × Addr)) => (if p.2 == .free then do let a ← cellOf env p.1; pure (ForInStep.yield ((p.1, a) :: cs)) else pure (ForInStep.yield cs) : Sem (ForInStep (List (Str × Addr))))) : Sem (List (Str × Addr))) = pure ((names.filterMap (closG env.cells)).reverse ++ cs)
  | [], cs, _ => by simp
  | (n, k) :: r, cs, h => by
    rw [List.all_cons, Bool.and_eq_true] at h
    rw [List.forIn_cons]
    by_cases hk : (k == NameKind.free) = true
    · have h1 : (env.cells.lookup n).isSome = true := by
        have := h.1
        have e : (k != NameKind.free) = false := by rw [bne, hk]; rfl
        rw [Bool.or_eq_true] at this
        rcases this with this | this
        · rw [e] at this; cases this
        · exact this
      obtain ⟨a, ha⟩ := Option.isSome_iff_exists.mp h1
      have e2 : cellOf env n = pure a := by unfold cellOf; rw [ha]
      simp only [hk, if_true, e2, pure_bind]
      have e3 : closG env.cells (n, k) = some (n, a) := by unfold closG; simp only [hk, if_true, ha]; rfl
      rw [clos_loop env r _ h.2, List.filterMap_cons, e3]
      simp
    · simp only [hk, if_false, pure_bind]
      have e3 : closG env.cells (n, k) = none := by unfold closG; rw [if_neg hk]
      rw [if_neg Bool.false_ne_true, pure_bind]
      dsimp only
      rw [clos_loop env r cs h.2, List.filterMap_cons, e3]
theorem clos_is (scope : Scope) (env : Env) (h : (scope.names.all fun x => x.2 != .free || (env.cells.lookup x.1).isSome) = true) : closureFor scope env = pure (closL scope.names env.cells) := by
  unfold closureFor
  have := clos_loop env scope.names [] h
  rw [List.append_nil] at this
  show (forIn scope.names [] _ >>= fun cs => pure cs : Sem _) = _
  rw [bind_pure]
  exact this
theorem look_fn {f : Str → Addr} : ∀ {l : List (Str × Addr)}, (∀ p ∈ l, p.2 = f p.1) → ∀ {y : Str}, (∃ p ∈ l, p.1 = y) → l.lookup y = some (f y)
  | [], _, y, ⟨p, hp, _⟩ => by cases hp
  | (n, a) :: r, h, y, ⟨p, hp, e⟩ => by
    rw [List.lookup_cons]
    by_cases q : (y == n) = true
    · rw [q]
      have := eq_of_beq q
      subst this
      show some a = _
      exact congrArg some (h (y, a) (by simp))
    · rw [Bool.not_eq_true] at q
      rw [q]
      refine look_fn (fun p hp => h p (by simp [hp])) ?_
      rcases List.mem_cons.mp hp with rfl | hp
      · exfalso
        simp only at e
        subst e
        simp at q
      · exact ⟨p, hp, e⟩
theorem mem_of_look : ∀ {l : List (Str × Addr)} {y : Str} {c : Addr}, l.lookup y = some c → (y, c) ∈ l := fun {l y c} h => by
  obtain ⟨l1, l2, e, _⟩ := List.lookup_eq_some_iff.mp h
  rw [e]; simp
noncomputable def compB (env : Env) (cns : List Str) (scope : Scope) (x : Str) (fns : List Str) (is : List Nat) : Bool :=
  (scope.names.all fun y => (y.2 != .free || (env.cells.lookup y.1).isSome)) && (scope.names.all fun y => y.2 != .cell) && (scope.names.all fun y => y.2 != .local || decide (scope.names.lookup y.1 = some .local))
  && decide (scope.kind = .function) && decide (scope.names.lookup x = some .local) && decide (x :: fns).Nodup && decide (is.length = fns.length)
  && ((fns.zip is).all fun p => decide (cns[p.2]? = some p.1) && (decide ((relabel scope env).names.lookup p.1 = some .cell) || decide ((relabel scope env).names.lookup p.1 = some .free)) && !decide (env.kindOf p.1 = some .local) && !(p.1 == ("__classdict__" : Str)) && decide (scope.names.lookup p.1 = some .free))
theorem CompOk.of {C : Cx} {scope : Scope} {x : Str} {fns : List Str} {is : List Nat} (h : compB C.env C.ns scope x fns is = true) : CompOk C scope (closL scope.names C.env.cells) x fns is := by
  unfold compB at h
  simp only [Bool.and_eq_true] at h
  obtain ⟨⟨⟨⟨⟨⟨⟨h1, h2⟩, h3⟩, h4⟩, h5⟩, h6⟩, h7⟩, h8⟩ := h
  have isF : ∀ p ∈ closL scope.names C.env.cells, p.2 = (C.env.cells.lookup p.1).getD 0 ∧ ∃ k, (p.1, k) ∈ scope.names ∧ (k == NameKind.free) = true := fun p hp => by
    unfold closL at hp
    rw [List.mem_reverse, List.mem_filterMap] at hp
    obtain ⟨⟨n, k⟩, hm, e⟩ := hp
    unfold closG at e
    split at e
    · rename_i hk
      cases e
      exact ⟨rfl, k, hm, hk⟩
    · cases e
  have some_ : ∀ y k, (y, k) ∈ scope.names → (k == NameKind.free) = true → (C.env.cells.lookup y).isSome = true := fun y k hm hk => by
    have := List.all_eq_true.mp h1 (y, k) hm
    have e : (k != NameKind.free) = false := by rw [bne, hk]; rfl
    rw [Bool.or_eq_true] at this
    rcases this with this | this
    · rw [e] at this; cases this
    · exact this
  refine ⟨clos_is scope C.env h1, fun y hy => ?_, of_decide_eq_true h4, fun y hy hl => ?_, of_decide_eq_true h5, of_decide_eq_true h6, of_decide_eq_true h7, fun j y hj => ?_, fun y c hc => ?_⟩
  · have := List.all_eq_true.mp h2 y hy
    intro q; rw [q] at this; cases this
  · have := List.all_eq_true.mp h3 y hy
    rw [hl] at this
    exact of_decide_eq_true (by simpa using this)
  · have hlen : is.length = fns.length := of_decide_eq_true h7
    have hji : j < is.length := by rw [hlen]; exact lt_of_get hj
    obtain ⟨i, hi⟩ := get_of_lt hji
    have hz : (fns.zip is)[j]? = some (y, i) := by rw [List.getElem?_zip_eq_some]; exact ⟨hj, hi⟩
    have hall := List.all_eq_true.mp h8 (y, i) (List.mem_of_getElem? hz)
    simp only [Bool.and_eq_true, Bool.or_eq_true, decide_eq_true_eq, Bool.not_eq_true', decide_eq_false_iff_not] at hall
    obtain ⟨⟨⟨⟨a1, a2⟩, a3⟩, a4⟩, a5⟩ := hall
    refine ⟨⟨i, hi, a1⟩, a2, a3, a4, ?_⟩
    have hm : (y, NameKind.free) ∈ scope.names := by
      obtain ⟨l1, l2, e, _⟩ := List.lookup_eq_some_iff.mp a5
      rw [e]; simp
    obtain ⟨a, ha⟩ := Option.isSome_iff_exists.mp (some_ y .free hm rfl)
    rw [look_fn (f := fun y => (C.env.cells.lookup y).getD 0) (fun p hp => (isF p hp).1) ⟨(y, (C.env.cells.lookup y).getD 0), ?_, rfl⟩, ha]
    · rfl
    · unfold closL
      rw [List.mem_reverse, List.mem_filterMap]
      exact ⟨(y, .free), hm, rfl⟩
  · have hm := mem_of_look hc
    obtain ⟨e, k, hk, hkf⟩ := isF _ hm
    obtain ⟨a, ha⟩ := Option.isSome_iff_exists.mp (some_ y k hk hkf)
    simp only at e
    rw [ha] at e ⊢
    rw [e]; rfl
end Mine
-- part Rules20
set_option maxRecDepth 100000
namespace Mine
open PySem PySem.W PySem.Calls PyProof.Rows PySem.Spec PySem.SeqAt PyProof.V
section
variable {prog : Program} {w : World} {C : Cx} {σ σ' σ₀ : SL} {ad ad' ad₀ : Nat → Addr} {g g' g₀ : GP} {h h' h₀ : Heap}
noncomputable def dNeg (d : SL → Option (V × SL)) : SL → Option (V × SL) := fun σ => match d σ with
  | some (.int k, σ1) => some (.int (-k), σ1)
  | _ => none
theorem TE_neg {e : Expr} {pos : Pos} {d : SL → Option (V × SL)} (h : TE prog w C e d) : TE prog w C (.UnaryOp .USub e pos) (dNeg d) := .mk fun A E Q s σ σ' ad g a hA S hd hq => by
  unfold dNeg at hd
  split at hd
  · rename_i k σ1 e1
    cases hd
    refine wpAny_UnaryOp (h.go A E _ s σ _ ad g _ hA S e1 fun v h' tk ad' g' P rv => ?_)
    obtain ⟨t, rfl⟩ := rv
    exact PyProof.Rows.neg_int (hq _ h' _ ad' g' P ⟨_, rfl⟩)
  · cases hd
/-! ### tuple targets -/
noncomputable def sAsgT (st : V → SL → Option SL) (d : SL → Option (V × SL)) : SL → Option Out := fun σ => (d σ).bind fun p => (st p.1 p.2).map .next
theorem TX_asgt {ts : List Expr} {k : Nat} {e : Expr} {p pos : Pos} {st : V → SL → Option SL} {d : SL → Option (V × SL)} (ht : TG prog w C (.Tuple ts k p) st) (h : TE prog w C e d)
    (hs : swapsWithSole [.Tuple ts k p] e pos.line C.env = pure false) (hw : swappedStores [.Tuple ts k p] e C.env = pure none) : TX prog w C (.Assign [.Tuple ts k p] e pos) (sAsgT st d) := .mk fun A E Q s σ ad g r hA S hd hq => by
  unfold sAsgT at hd
  obtain ⟨⟨a, σ1⟩, e1, hd⟩ := Option.bind_eq_some_iff.mp hd
  obtain ⟨σ2, e2, hd⟩ := Option.map_eq_some_iff.mp hd
  cases hd
  refine Assign_Tuple (h.go A E _ s σ σ1 ad g a hA S e1 fun v h' tk ad' g' P rv => ?_) hs hw
  exact ht.go A E _ _ σ ad g s.heap σ1 ad' g' σ2 a v hA P.toPost rv e2 fun h2 tk2 ad2 g2 P2 _ => hq _ _ _ _ _ P2 rfl
noncomputable def gBind : List Nat → List V → SL → Option SL
  | [], [], σ => some σ
  | i :: is, x :: xs, σ => gBind is xs (σ.set i (.val x))
  | _, _, _ => none
theorem bind_all (hC : CxOk C) : ∀ (names : List Str) (is : List Nat) (A : Around) (E : Value → Shared → Prop) (Q : Unit → Shared → Prop) (s : Shared) (σ₀ : SL) (ad₀ : Nat → Addr) (g₀ : GP) (h₀ : Heap) (σ : SL) (ad : Nat → Addr) (g : GP) (σ' : SL) (xs : List V) (vs : List Value),
    names.length = is.length → (∀ p ∈ names.zip is, Storable C p.2 p.1) → Post C σ₀ ad₀ g₀ h₀ σ ad g s.heap → RVs g xs vs → gBind is xs σ = some σ' →
    (∀ h' tk ad' g', Post C σ₀ ad₀ g₀ h₀ σ' ad' g' h' → Q () { s with heap := h', toks := tk }) → wpAny (model prog w) A (assignInOrder (names.map fun n => bindName C.env n) vs) Q E s
  | [], [], A, E, Q, s, σ₀, ad₀, g₀, h₀, σ, ad, g, σ', xs, vs, _, _, P, rv, hd, hq => by
    cases xs with
    | nil => cases rv; cases hd; exact wpAny_assignInOrder_none (hq s.heap s.toks ad g P)
    | cons => cases hd
  | n :: names, i :: is, A, E, Q, s, σ₀, ad₀, g₀, h₀, σ, ad, g, σ', xs, vs, hl, hst, P, rv, hd, hq => by
    cases xs with
    | nil => cases hd
    | cons x xs =>
      obtain ⟨v, vr, rfl, r1, r2⟩ := rv
      have hx := hst (n, i) (by simp)
      refine wpAny_assignInOrder_more (wpAny_bindName (store_val hC P hx.1 hx.2 r1 fun h2 tk2 ad2 P2 => ?_))
      exact bind_all hC names is A E Q _ σ₀ ad₀ g₀ h₀ _ ad2 g σ' xs vr (by simpa using hl) (fun p hp => hst p (by simp [hp])) P2 r2 hd fun h3 tk3 ad3 g3 P3 => hq _ _ _ _ P3
  | [], _ :: _, _, _, _, _, _, _, _, _, _, _, _, _, _, _, hl, _, _, _, _, _ => by cases hl
  | _ :: _, [], _, _, _, _, _, _, _, _, _, _, _, _, _, _, hl, _, _, _, _, _ => by cases hl
noncomputable def sAsgS (is : List Nat) (d : SL → Option (V × SL)) : SL → Option Out := fun σ => (d σ).bind fun p => (iterV p.1).bind fun xs => if xs.length = is.length then (gBind is.reverse xs.reverse p.2).map .next else none
theorem RVs.reverse {g : GP} : ∀ {xs : List V} {vs : List Value}, RVs g xs vs → RVs g xs.reverse vs.reverse
  | [], _, h => by cases h; rfl
  | x :: xs, _, ⟨v, r, e, h, hs⟩ => by
    subst e
    rw [List.reverse_cons, List.reverse_cons]
    exact hs.reverse.append ⟨v, [], rfl, h, rfl⟩
theorem TX_asgs {ts : List Expr} {k : Nat} {e : Expr} {p pos : Pos} {names : List Str} {is : List Nat} {d : SL → Option (V × SL)} (hC : CxOk C) (h : TE prog w C e d) (hl : names.length = is.length) (hst : ∀ p ∈ names.reverse.zip is.reverse, Storable C p.2 p.1)
    (hs : swapsWithSole [.Tuple ts k p] e pos.line C.env = pure false) (hw : swappedStores [.Tuple ts k p] e C.env = pure (some names)) : TX prog w C (.Assign [.Tuple ts k p] e pos) (sAsgS is d) := .mk fun A E Q s σ ad g r hA S hd hq => by
  unfold sAsgS at hd
  obtain ⟨⟨a, σ1⟩, e1, hd⟩ := Option.bind_eq_some_iff.mp hd
  obtain ⟨xs, e2, hd⟩ := Option.bind_eq_some_iff.mp hd
  split at hd
  · rename_i hlen
    obtain ⟨σ2, e3, hd⟩ := Option.map_eq_some_iff.mp hd
    cases hd
    refine Assign_Tuple_swapped (h.go A E _ s σ σ1 ad g a hA S e1 fun v h' tk ad' g' P rv => ?_) hs hw
    rw [show names.length = xs.length from hl.trans hlen.symm]
    refine unpack_go (s := { s with heap := h', toks := tk }) hA.handled P.st (Post.refl P.st) e2 rv fun vs h2 tk2 P2 rvs => ?_
    exact bind_all hC names.reverse is.reverse A E _ _ σ ad g s.heap σ1 ad' g' σ2 xs.reverse vs.reverse (by simpa using hl) hst (P.toPost.trans P2) rvs.reverse e3 fun h3 tk3 ad3 g3 P3 => hq _ _ _ _ _ P3 rfl
  · cases hd
theorem FunSpec.weak {base : Heap} {n : Nat} {fv : Value} {φ : Nat → List V → Option V} {ψ : List V → Option V} (h : ∀ k, FunSpec prog w base n fv (φ k)) (e : ∀ xs r, ψ xs = some r → ∃ k, φ k xs = some r) : FunSpec prog w base n fv ψ :=
  fun A E Q s g vs xs r hA hb hg hr hf hq => let ⟨k, q⟩ := e xs r hf; h k A E Q s g vs xs r hA hb hg hr q hq
theorem FunSpec.to {base : Heap} {n : Nat} {fv : Value} {φ ψ : List V → Option V} (h : FunSpec prog w base n fv φ) (e : ∀ xs r, ψ xs = some r → φ xs = some r) : FunSpec prog w base n fv ψ :=
  fun A E Q s g vs xs r hA hb hg hr hf hq => h A E Q s g vs xs r hA hb hg hr (e xs r hf) hq
noncomputable def sStuck : SL → Option Out := fun _ => none
theorem TX_stuck {st : Stmt} : TX prog w C st sStuck := .mk fun A E Q s σ ad g r hA S hd hq => by cases hd
theorem TE_glS {x : Str} {np : Pos} {l : List Nat} (hC : CxOk C) (hx : C.env.kindOf x = some .globalImplicit) (hd : (x == ("__debug__" : Str)) = false) (gv : ∃ t, GV C.base x (.str (mkS l) t)) : TE prog w C (.Name x np) (dConst (.str l)) := .mk fun A E Q s σ σ' ad g b hA S hd' hq => by
  cases hd'
  obtain ⟨t, gv⟩ := gv
  exact name_glob hC hx hd gv S.hbase (hq _ s.heap s.toks ad g (.refl S) ⟨t, rfl⟩)
theorem no_cd {l : List Str} (h : ("__classdict__" : Str) ∉ l) : ∀ x : Str, (x == ("__classdict__" : Str)) = true → x ∉ l := fun x hx hm => h (eq_of_beq hx ▸ hm)
theorem all_loc {scope : Scope} {l : List Str} (h : (l.all fun x => decide (scope.names.lookup x = some .local)) = true) : ∀ m, ∀ x ∈ l, scope.names.lookup x = some .local ∨ (scope.names.lookup x = some .cell ∧ ((cellsFrom m scope.names []).lookup x).isSome = true) :=
  fun _ x hx => .inl (of_decide_eq_true (List.all_eq_true.mp h x hx))
theorem all_cell {scope : Scope} {l ls cs : List Str} (h1 : (l.all fun x => decide (x ∈ ls) || decide (x ∈ cs)) = true) (h2 : (ls.all fun x => decide (scope.names.lookup x = some .local)) = true) (h3 : ∀ m, (cs.all fun x => decide (scope.names.lookup x = some .cell) && ((cellsFrom m scope.names []).lookup x).isSome) = true) :
    ∀ m, ∀ x ∈ l, scope.names.lookup x = some .local ∨ (scope.names.lookup x = some .cell ∧ ((cellsFrom m scope.names []).lookup x).isSome = true) := fun m x hx => by
  have := List.all_eq_true.mp h1 x hx
  simp only [Bool.or_eq_true, decide_eq_true_eq] at this
  rcases this with h | h
  · exact .inl (of_decide_eq_true (List.all_eq_true.mp h2 x h))
  · have := List.all_eq_true.mp (h3 m) x h
    rw [Bool.and_eq_true] at this
    exact .inr ⟨of_decide_eq_true this.1, this.2⟩
theorem len_one {vs : List Value} (h : vs.length = 1) : ∃ a, vs = [a] := List.length_eq_one_iff.mp h
theorem len_cons {α : Type} {l : List α} {n : Nat} (h : l.length = n + 1) : ∃ a t, l = a :: t ∧ t.length = n := by
  cases l with
  | nil => cases h
  | cons a t => exact ⟨a, t, rfl, Nat.succ.inj h⟩
theorem list_two {α : Type} {l : List α} (h : l.length = 2) : ∃ a b, l = [a, b] := by
  obtain ⟨a, t, rfl, h1⟩ := len_cons h
  obtain ⟨b, rfl⟩ := List.length_eq_one_iff.mp h1
  exact ⟨a, b, rfl⟩
theorem list_three {α : Type} {l : List α} (h : l.length = 3) : ∃ a b c, l = [a, b, c] := by
  obtain ⟨a, t, rfl, h1⟩ := len_cons h
  obtain ⟨b, c, rfl⟩ := list_two h1
  exact ⟨a, b, c, rfl⟩
theorem len_two {vs : List Value} (h : vs.length = 2) : ∃ a b, vs = [a, b] := list_two h
theorem len_three {vs : List Value} (h : vs.length = 3) : ∃ a b c, vs = [a, b, c] := list_three h
noncomputable def notStar : Expr → Bool
  | .Starred _ _ => false
  | _ => true
theorem star_cons {e : Expr} {es : List Expr} {env : Env} (h : notStar e = true) : starEach (e :: es) env = (false, eval e env) :: starEach es env := by
  cases e <;> first | rfl | cases h
theorem asg_cons {e : Expr} {es : List Expr} {env : Env} (h : notStar e = true) : assignEach (e :: es) env = (false, assign e env) :: assignEach es env := by
  cases e <;> first | rfl | cases h
end
end Mine
-- part EnumT
set_option maxRecDepth 100000
namespace Mine
open PySem PySem.W PySem.Calls PyProof.Rows PySem.Spec PySem.SeqAt
open AutoSeq1 (wpAny_loadPart')
/-! ## enumerate over a tuple -/
section
variable {prog : Program} {w : World} {A : Around} {E : Value → Shared → Prop} {s : Shared}
theorem nextOf_tuple_item {it l : Addr} {i : Nat} {items : Array Value} {x : Value} {Q : Value → Shared → Prop} (hit : s.heap.IsTupleIter it l i) (hl : s.heap.IsTuple l items) (hx : items[i]? = some x)
    (hQ : ∀ h', h'.IsTupleIter it l (i + 1) → Heap.SameBut it s.heap h' → Q x { s with heap := h' }) : wpAny (model prog w) A (Builtin.SmallTypes.nextOf (.ref it)) Q E s := by
  obtain ⟨o, ho, hc, hd⟩ := id hit
  obtain ⟨ol, hol, _, nl, hdl⟩ := hl
  unfold Builtin.SmallTypes.nextOf
  refine wpAny_bind (wpAny_callSpecial?_slot (name := Str.ofString "__next__") hit.typeIs F.slot_tuple_iterator_next
    (wpAny_call_entry F.slot_tuple_iterator_next hit.typeIs F.entry_tuple_iterator_next ?_ (F.args_tuple_iterator_next_1 _)))
  show wpAny _ _ (field (.ref it) 0 >>= _) _ _ s
  refine wpAny_bind (wpAny_field ho hd (x := .ref l) rfl ?_)
  show wpAny _ _ (if (Value.ref l == Value.none) = true then _ else _) _ _ s
  rw [if_neg (show ¬ ((Value.ref l == Value.none) = true) from Bool.false_ne_true)]
  show wpAny _ _ (field (.ref it) 1 >>= _) _ _ s
  refine wpAny_bind (wpAny_field ho hd (x := .int i 0) rfl ?_)
  show wpAny _ _ (seqItems? (.ref l) >>= _) _ _ s
  refine wpAny_bind (wpAny_seqItems hol hdl ?_)
  simp only [Int.toNat_natCast, hx]
  refine wpAny_bind (wpAny_setField ho hd (by simp) (wpAny_pure ⟨x, rfl, wpAny_pure (hQ _ ?_ (Heap.SameBut.update ..))⟩))
  exact ⟨_, Heap.get?_update_self _ ho (Obj.isFreed_of_fields (Obj.data_mapFields hd _)), (Obj.cls_mapFields ..).trans hc, by
    rw [Obj.data_mapFields hd]; simp [rawInt]⟩
theorem nextOf_tuple_end {it l : Addr} {i : Nat} {items : Array Value} {Q : Value → Shared → Prop} (hh : A.handled = none) (hit : s.heap.IsTupleIter it l i) (hl : s.heap.IsTuple l items) (hx : items[i]? = none)
    (hE : ∀ h' e, Heap.ExtBut it s.heap h' → (∃ o, h'.get? e = some o ∧ o.cls = .type "StopIteration") → E (.ref e) { s with heap := h' }) : wpAny (model prog w) A (Builtin.SmallTypes.nextOf (.ref it)) Q E s := by
  obtain ⟨o, ho, hc, hd⟩ := id hit
  obtain ⟨ol, hol, _, nl, hdl⟩ := hl
  unfold Builtin.SmallTypes.nextOf
  refine wpAny_bind (wpAny_callSpecial?_slot (name := Str.ofString "__next__") hit.typeIs F.slot_tuple_iterator_next
    (wpAny_call_entry F.slot_tuple_iterator_next hit.typeIs F.entry_tuple_iterator_next ?_ (F.args_tuple_iterator_next_1 _)))
  show wpAny _ _ (field (.ref it) 0 >>= _) _ _ s
  refine wpAny_bind (wpAny_field ho hd (x := .ref l) rfl ?_)
  show wpAny _ _ (if (Value.ref l == Value.none) = true then _ else _) _ _ s
  rw [if_neg (show ¬ ((Value.ref l == Value.none) = true) from Bool.false_ne_true)]
  show wpAny _ _ (field (.ref it) 1 >>= _) _ _ s
  refine wpAny_bind (wpAny_field ho hd (x := .int i 0) rfl ?_)
  show wpAny _ _ (seqItems? (.ref l) >>= _) _ _ s
  refine wpAny_bind (wpAny_seqItems hol hdl ?_)
  simp only [Int.toNat_natCast, hx]
  refine wpAny_bind (wpAny_rule (wpAny_bind (wpAny_setField ho hd (by simp) ?_)))
  show wpAny _ _ (newExc (.type "StopIteration") [] >>= _) _ _ _
  refine wpAny_bind ?_
  simp only [newExc, newTuple]
  refine wpAny_bind (wpAny_newObj_type ?_ (by size_fits))
  refine wpAny_bind (m := firstArgMember _ _) (wpAny_of_eq (a := Value.none) (by first | rfl | (simp only [firstArgMember]; rfl)) ?_)
  refine wpAny_newObj_type ?_ (by size_fits)
  simp only [raiseNew]
  refine wpAny_bind (wpAny_handled ?_)
  first | rw [show A.in1.handled = none from hh] | rw [hh]
  refine wpAny_bind (wpAny_pure (wpAny_throw ?_))
  exact hE _ _ (((Heap.SameBut.update ..).extBut.push _).push _) ⟨_, Heap.get?_push_size _ rfl, rfl⟩
end
theorem draws_tuple {prog : Program} {w : World} {A : Around} (hh : A.handled = none) (it l : Addr) (hne : l ≠ it) (items : Array Value) :
    Draws prog w A it [it, l] items.size (fun i v => items[i]? = some v) (fun i h => h.IsTupleIter it l i ∧ h.IsTuple l items) where
  live := fun _ _ st => let ⟨o, ho, _⟩ := st.1; ⟨o, ho⟩
  frame := fun _ _ _ st hk => by
    obtain ⟨⟨o, ho, r⟩, ⟨o2, ho2, r2⟩⟩ := st
    exact ⟨⟨o, hk it (by simp) o ho, r⟩, ⟨o2, hk l (by simp) o2 ho2, r2⟩⟩
  item := fun i s Q E hi st hQ => by
    refine nextOf_tuple_item st.1 st.2 (x := items[i]) (by simp [hi]) fun h' hit' hs' => ?_
    obtain ⟨o2, ho2, r2⟩ := st.2
    exact hQ _ h' s.toks (by simp [hi]) ⟨hit', ⟨o2, (hs'.2 l hne).trans ho2, r2⟩⟩ hs'
  done := fun s Q E st hE => nextOf_tuple_end hh st.1 st.2 (by simp) hE
set_option maxHeartbeats 1000000 in
theorem meets_enumerate_newT (l : Addr) (items : Array Value) (n : Nat) (dct : Option Addr) (sl : Array (Option Value)) :
    Meets (Builtin.«enumerate.__new__» ⟨[.type "enumerate", .ref l], []⟩) (fun _ R s => s.heap.get? l = some { cls := .type "tuple", dict := dct, data := .seq items n, slots := sl } ∧
      R (.ok (.ret (.ref (s.heap.push { cls := .type "tuple_iterator", data := .fields #[.ref l, .int 0 0] }).objs.size)))
        { s with heap := (s.heap.push { cls := .type "tuple_iterator", data := .fields #[.ref l, .int 0 0] }).push { cls := .type "enumerate", data := .fields #[.none, .bool false, .ref s.heap.objs.size, rawInt 0, .none, .none] } }) :=
  .of_wp fun prog w A R s h => by
    obtain ⟨hp, g, d, tk, os⟩ := s; obtain ⟨hl, h⟩ := h
    have hsub := sub_enumerate
    have hL : Heap.IsTuple (Shared.heap ⟨hp, g, d, tk, os⟩) l items := ⟨_, hl, rfl, n, rfl⟩
    wp_walk using wpAny_loadPart' hl
    refine wpAny_stack_any fun st => wpAny_pure ?_
    split
    · rename_i c _ _ _ _ _
      cases (c == Value.type "enumerate")
      · wp_walk using wpAny_loadPart' hl, wpAny_pyIter_tuple hL
        exact ⟨_, rfl, h⟩
      · wp_walk using wpAny_loadPart' hl, wpAny_pyIter_tuple hL
        exact ⟨_, rfl, h⟩
    · wp_walk using wpAny_loadPart' hl, wpAny_pyIter_tuple hL
      exact ⟨_, rfl, h⟩
section
variable {prog : Program} {w : World} {A : Around} {E : Value → Shared → Prop} {s : Shared}
theorem call_enumerate_tuple {l : Addr} {items : Array Value} {Q : Value → Shared → Prop} (hL : s.heap.IsTuple l items)
    (h : ∀ h', IsEnum h' (s.heap.objs.size + 1) s.heap.objs.size 0 .none → h'.IsTupleIter s.heap.objs.size l 0 → h'.objs.size = s.heap.objs.size + 2 →
      (∀ b o, s.heap.get? b = some o → h'.get? b = some o) → Q (.ref (s.heap.objs.size + 1)) { s with heap := h' }) :
    wpAny (model prog w) A (call (.type "enumerate") [.ref l]) Q E s := by
  obtain ⟨⟨c, dct, dt, sl⟩, hl, hc, n, hd⟩ := hL
  replace hc : c = .type "tuple" := hc
  replace hd : dt = .seq items n := hd
  subst hc hd
  refine callType_new F.called_enumerate (by decide) (F.typeCall_enumerate_1 _) (F.newCall_enumerate_1 _) (fun obj => F.args_object_init_2 obj _) F.entry_enumerate_new
    (meets_enumerate_newT l items n dct sl) ⟨hl, ?_⟩
  have hz : (s.heap.push { cls := .type "tuple_iterator", data := .fields #[.ref l, .int 0 0] }).objs.size = s.heap.objs.size + 1 := Heap.size_push ..
  show _ ∧ _
  rw [hz]
  have he : IsEnum ((s.heap.push { cls := .type "tuple_iterator", data := .fields #[.ref l, .int 0 0] }).push
      { cls := .type "enumerate", data := .fields #[.none, .bool false, .ref s.heap.objs.size, rawInt 0, .none, .none] }) (s.heap.objs.size + 1) s.heap.objs.size 0 .none := by
    have := Heap.get?_push_size (s.heap.push { cls := .type "tuple_iterator", data := .fields #[.ref l, .int 0 0] })
      (o := { cls := .type "enumerate", data := .fields #[.none, .bool false, .ref s.heap.objs.size, rawInt 0, .none, .none] }) rfl
    rw [hz] at this; exact this
  refine ⟨⟨_, he, rfl⟩, h _ he ⟨_, Heap.get?_push_of_some _ (Heap.get?_push_size _ rfl), rfl, rfl⟩ (by rw [Heap.size_push, hz]) fun b o x => Heap.get?_push_of_some _ (Heap.get?_push_of_some _ x)⟩
end
end Mine
-- part Rules21
set_option maxRecDepth 100000
namespace Mine
open PySem PySem.W PySem.Calls PyProof.Rows PySem.Spec PySem.SeqAt
/-! ## comprehensions over enumerate -/
section
variable {prog : Program} {w : World} {C : Cx} {σ σ' σ₀ : SL} {ad ad' ad₀ : Nat → Addr} {g g' g₀ : GP} {h h' h₀ : Heap}
/-- objects that are none of the frame's may change -/
theorem St.touchL (S : St C σ ad g h) {wr : List Addr} (hw : ∀ I ∈ wr, ∃ oI, h.get? I = some oI ∧ g I = none ∧ C.base.get? I = none ∧ ¬ Mut C σ ad I ∧ ∀ ov, oI.data ≠ .cell ov)
    (keep : ∀ b o, b ∉ wr → h.get? b = some o → h'.get? b = some o) : St C σ ad g h' where
  gsub := fun a o e => by
    obtain ⟨e1, e2⟩ := S.gsub a o e
    exact ⟨keep a o (fun q => by obtain ⟨_, _, n, _⟩ := hw a q; rw [n] at e; cases e) e1, e2⟩
  hbase := fun b o e => keep b o (fun q => by obtain ⟨_, _, _, n, _⟩ := hw b q; rw [n] at e; cases e) (S.hbase b o e)
  mutNew := fun b hb' => by
    obtain ⟨h1, h2, o, h3⟩ := S.mutNew b hb'
    exact ⟨h1, h2, o, keep b o (fun q => by obtain ⟨_, _, _, _, n, _⟩ := hw b q; exact n hb') h3⟩
  vars := by
    obtain ⟨m, hn, hv⟩ := S.vars
    refine ⟨m, ?_, fun i x sl h1 h2 => ?_⟩
    · obtain ⟨o, es, ep, e1, e2, e3⟩ := hn
      exact ⟨o, es, ep, keep _ o (fun q => by obtain ⟨_, _, _, _, n, _⟩ := hw _ q; exact n (.inl rfl)) e1, e2, e3⟩
    · obtain ⟨ov, a1, a2⟩ := hv i x sl h1 h2
      refine ⟨ov, ?_, ?_⟩
      · rcases a1 with a1 | ⟨b1, b0, c, b3, o, e1, e2⟩
        · exact .inl a1
        · exact .inr ⟨b1, b0, c, b3, o, keep c o (fun q => by obtain ⟨oI, hI, _, _, _, n⟩ := hw c q; rw [hI] at e1; cases e1; exact n _ e2) e1, e2⟩
      · refine a2.mono (.refl g) fun o e hown => ?_
        obtain ⟨xs, rfl⟩ := hown
        exact keep _ o (fun q => by obtain ⟨_, _, _, _, n, _⟩ := hw _ q; exact n (.inr (.inr ⟨i, xs, h2, rfl⟩))) e
  len := S.len
  inj := S.inj
  cells := S.cells
/-- one more frozen object, one that is there -/
theorem St.more (S : St C σ ad g h) {T : Addr} {o : Obj} (hT : h.get? T = some o) (ho : okShape o) (hm : ¬ Mut C σ ad T) (hg : g T = none) : St C σ ad (gput g T o) h where
  gsub := fun a o' e => by
    unfold gput at e
    by_cases q : a = T
    · subst q; rw [if_pos rfl] at e; cases e; exact ⟨hT, ho⟩
    · rw [if_neg q] at e; exact S.gsub a o' e
  hbase := S.hbase
  mutNew := fun b hb => by
    obtain ⟨h1, h2, h3⟩ := S.mutNew b hb
    refine ⟨h1, ?_, h3⟩
    unfold gput
    rw [if_neg (fun q : b = T => hm (by rw [← q]; exact hb))]; exact h2
  vars := by
    obtain ⟨m, hn, hv⟩ := S.vars
    refine ⟨m, hn, fun i x sl h1 h2 => ?_⟩
    obtain ⟨ov, a1, a2⟩ := hv i x sl h1 h2
    exact ⟨ov, a1, a2.mono (gput_ext hg) fun _ e _ => e⟩
  len := S.len
  inj := S.inj
  cells := S.cells
noncomputable def enumL (xs : List V) : List V := xs.zipIdx.map fun p => .tup [.int (p.2 : Int), p.1]
theorem enumL_get {xs : List V} {i : Nat} (h : i < xs.length) : (enumL xs)[i]? = some (.tup [.int (i : Int), xs[i]]) := by
  unfold enumL
  rw [List.getElem?_map, List.getElem?_zipIdx, List.getElem?_eq_getElem h]
  simp
theorem enumL_len (xs : List V) : (enumL xs).length = xs.length := by unfold enumL; simp
theorem comp_loopP {C' : Cx} {elt iter : Expr} {elts : List Expr} {kk : Nat} {tp : Pos} {scope : Scope} {pos : Pos} {A : Around} {s₂ : Shared} {e itr D : Addr} {fp : List Addr} {Pv : Nat → Value → Prop} {St' : Nat → Heap → Prop} {g1 : GP} {xs rs : List V} {σi : SL} {ad1 : Nat → Addr} {st : V → SL → Option SL} {de : SL → Option (V × SL)} {RR : Result → Shared → Prop}
    (hA : AOk C'.n A) (Dr : Draws prog w A.in1 itr fp xs.length Pv St') (rep : ∀ i v x, Pv i v → xs[i]? = some x → RV g1 x v) (hxs : xs.length ≤ big) (ht : TG prog w C' (.Tuple elts kk tp) st) (he : TE prog w C' elt de) (hd : compL st fNil de (enumL xs) σi = some rs)
    (hei : e ≠ itr) (hef : e ∉ fp) (hif : itr ∈ fp) (hfp : ∀ b ∈ fp, b = itr ∨ ∃ o, g1 b = some o)
    (S : St C' σi ad1 g1 s₂.heap) (sti : St' 0 s₂.heap) (hen : IsEnum s₂.heap e itr 0 .none) (heD : e ≠ D) (hiD : itr ≠ D) (hbe : C'.base.get? e = none) (hbi : C'.base.get? itr = none) (hbD : C'.base.get? D = none) (hge : g1 e = none) (hgi : g1 itr = none) (hgD : g1 D = none)
    (hpl : s₂.heap.PlainList D #[]) (hmD : ¬ Mut C' σi ad1 D) (hme : ¬ Mut C' σi ad1 e) (hmi : ¬ Mut C' σi ad1 itr) (hcell : ∀ i h, St' i h → ∃ o, h.get? itr = some o ∧ ∀ ov, o.data ≠ .cell ov)
    (hR : ∀ h' tk vs g' σ' ad', St C' σ' ad' g' h' → h'.PlainList D vs.toArray → RVs g' rs vs → GExt g1 g' → (∀ a o, g' a = some o → g1 a = some o ∨ C'.base.get? a = none) → g' D = none → RR (.ok .next) { s₂ with heap := h', toks := tk }) :
    codeAny (model prog w) A (.compLoop (.ListComp elt [⟨.Tuple elts kk tp, iter, [], 0⟩] scope pos) 0 (.ref e) (.ref D) C'.env) RR s₂ := by
  have W := WalksT.enumerateD Dr e hei hef hif
  refine LCp.codeAny_compLoop_pair (fun k s' => ∃ r : LR, s' = { s₂ with heap := r.h, toks := r.tk } ∧ LI C' g1 xs.length rs D [D, e, itr] (fun i h => (∃ old, IsEnum h e itr (i : Nat) old) ∧ St' i h) (fun i σ => compL st fNil de ((enumL xs).drop i) σ) k r)
    (fun k s' hI => ?_) xs.length ⟨⟨s₂.heap, s₂.toks, σi, ad1, g1, 0, [], [], rs⟩, rfl, S, ⟨⟨_, hen⟩, sti⟩, Nat.zero_add _, hd, rfl, Nat.le_refl _, hpl, rfl, .refl g1, fun a o e => .inl e, by simp [hgD, hge, hgi, hmD, hme, hmi]⟩
  obtain ⟨⟨h', tk, σ', ad', g', i, acc, vs, rr⟩, rfl, L⟩ := hI
  have Le := L.no e (by simp)
  have Li := L.no itr (by simp)
  have LD := L.no D (by simp)
  have en : ∀ {j : Int} {hh : Heap}, (∃ old, IsEnum hh e itr j old) → ∃ o, hh.get? e = some o ∧ ∀ ov, o.data ≠ .cell ov := fun {j hh} h1 => h1.elim fun old q => ⟨_, q, fun ov q => by cases q⟩
  have wr : ∀ {j : Nat} {hh : Heap}, (∃ o, hh.get? e = some o ∧ ∀ ov, o.data ≠ .cell ov) → St' j hh → ∀ I ∈ [e, itr], ∃ oI, hh.get? I = some oI ∧ g' I = none ∧ C'.base.get? I = none ∧ ¬ Mut C' σ' ad' I ∧ ∀ ov, oI.data ≠ .cell ov := fun {j hh} h1 h2 I hI => by
    rcases List.mem_cons.mp hI with rfl | hI
    · exact h1.elim fun o q => ⟨o, q.1, Le.1, hbe, Le.2, q.2⟩
    · rw [List.mem_singleton.mp hI]
      exact (hcell j hh h2).elim fun o q => ⟨o, q.1, Li.1, hbi, Li.2, q.2⟩
  have twr := wr (en L.sti.1) L.sti.2
  have Dwr : D ∉ [e, itr] := by simp [Ne.symm heD, Ne.symm hiD]
  have e3 : compL st fNil de ((enumL xs).drop i) σ' = some rr := L.go
  cases k with
  | zero =>
    have hn : xs.length = i := L.ik.symm
    refine W.done _ _ _ (by rw [hn]; exact L.sti) fun h3 tk3 k3 => ?_
    have e4 : rs = acc ++ rr := L.ac
    rw [List.drop_eq_nil_of_le (by rw [enumL_len]; omega), compL] at e3
    cases e3
    rw [List.append_nil] at e4
    subst e4
    exact hR h3 tk3 vs g' σ' ad' (L.st.touchL twr k3) (L.pl.imp fun n q => k3 _ _ Dwr q) L.rv L.gx L.gn LD.1
  | succ k =>
    have hik : i + (k + 1) = xs.length := L.ik
    have hlt : i < xs.length := by omega
    have hget : (enumL xs)[i]? = some (.tup [.int (i : Int), xs[i]]) := enumL_get hlt
    have hlt' : i < (enumL xs).length := by rw [enumL_len]; exact hlt
    rw [List.drop_eq_getElem_cons hlt', compL] at e3
    have hgi' : (enumL xs)[i] = .tup [.int (i : Int), xs[i]] := by
      have := List.getElem?_eq_getElem hlt'
      rw [hget] at this
      exact (Option.some.inj this).symm
    rw [hgi'] at e3
    obtain ⟨σ2, q1, e3⟩ := Option.bind_eq_some_iff.mp e3
    replace e3 : (de σ2).bind (fun q => (compL st fNil de (List.drop (i + 1) (enumL xs)) q.2).map (q.1 :: ·)) = some rr := e3
    refine W.item i _ _ _ hlt L.sti fun T vals h3 tk3 hP hT hIs hMid k3 => ?_
    obtain ⟨t, x, hPx, rfl⟩ := hP
    have hap := W.apart i T h3 hMid
    have hD3 : h3.PlainList D vs.toArray := L.pl.imp fun n q => k3 _ _ Dwr q
    have S3 : St C' σ' ad' g' h3 := L.st.touchL twr k3
    have newT : h'.get? T = none := by
      cases q : h'.get? T with
      | none => rfl
      | some o => exact absurd (Heap.lt_size q) (Nat.not_lt.mpr hT)
    have twr3 := wr (hMid.1.elim fun y q => ⟨_, q, fun ov q => by cases q⟩) hMid.2.1
    refine W.go elts kk tp i T _ _ _ hMid fun h4 sti4 k4 => ?_
    have S4 := S3.touchL twr3 k4
    have hD4 : h4.PlainList D vs.toArray := hD3.imp fun n q => k4 _ _ Dwr q
    obtain ⟨oT, hoT, hcT, nT, hdT⟩ := hIs
    have hoT4 := k4 T oT hap hoT
    have gT : g' T = none := by
      cases q : g' T with
      | none => rfl
      | some o => rw [(L.st.gsub T o q).1] at newT; cases newT
    have mT : ¬ Mut C' σ' ad' T := fun hm => by
      obtain ⟨_, _, o, q⟩ := L.st.mutNew T hm
      rw [newT] at q; cases q
    have S5 := S4.more hoT4 (.inl ⟨_, _, hdT⟩) mT gT
    have gx5 : GExt g' (gput g' T oT) := gput_ext gT
    have rvx : RV (gput g' T oT) xs[i] x := ((rep i x xs[i] hPx (List.getElem?_eq_getElem hlt)).mono L.gx).mono gx5
    have rv3 : RV (gput g' T oT) (.tup [.int (i : Int), xs[i]]) (.ref T) := ⟨T, [.int i t, x], rfl, ⟨oT, gput_self, hcT, nT, hdT⟩, _, _, rfl, ⟨_, rfl⟩, _, _, rfl, rvx, rfl⟩
    have bT : C'.base.get? T = none := by
      cases q : C'.base.get? T with
      | none => rfl
      | some o => rw [L.st.hbase T o q] at newT; cases newT
    have hTD : T ≠ D := fun q => L.pl.elim fun n z => by rw [q] at newT; rw [newT] at z; cases z
    have no5 : ∀ Z ∈ [D, e, itr], gput g' T oT Z = none ∧ ¬ Mut C' σ' ad' Z := fun Z hZ => by
      refine ⟨?_, (L.no Z hZ).2⟩
      unfold gput
      rw [if_neg]
      · exact (L.no Z hZ).1
      intro q
      rw [q] at hZ
      rcases List.mem_cons.mp hZ with hZ | hZ
      · exact hTD hZ
      · exact hap hZ
    have at4 : ∀ Z ∈ [D, e, itr], ∃ o, h4.get? Z = some o := fun Z hZ => by
      rcases List.mem_cons.mp hZ with rfl | hZ
      · exact hD4.elim fun n q => ⟨_, q⟩
      · exact (wr (en sti4.1) sti4.2 Z hZ).imp fun o q => q.1
    have gn5 : ∀ a o, gput g' T oT a = some o → g1 a = some o ∨ C'.base.get? a = none := fun a o e => by
      unfold gput at e
      by_cases q : a = T
      · subst q; exact .inr bT
      · rw [if_neg q] at e; exact L.gn a o e
    refine ht.go A _ _ _ σ' ad' (gput g' T oT) h4 σ' ad' (gput g' T oT) σ2 _ (.ref T) hA (.refl S5) rv3 q1 fun h5 tk5 ad5 g5 P5 x5 => ?_
    obtain ⟨⟨r, σ4⟩, q3, e3⟩ := Option.bind_eq_some_iff.mp e3
    obtain ⟨rr', e5, rfl⟩ := Option.map_eq_some_iff.mp e3
    refine he.go A _ _ _ σ2 σ4 ad5 g5 r hA P5.st q3 fun v6 h6 tk6 ad6 g6 P6 rv6 => ?_
    have P56 := P5.trans P6.toPost
    have Z := LS.of S5 (L.gx.trans gx5) gn5 no5 at4 P56
    have zst : St' (i + 1) h6 := Dr.frame (i + 1) h4 h6 sti4.2 fun b hb o' ho' => by
      rcases hfp b hb with rfl | ⟨ob, hob⟩
      · exact (P56.keep b o' ho' Li.2).1
      · have r1 := (S4.gsub b ob (L.gx b ob hob)).1
        have r2 : ob = o' := Option.some.inj (r1.symm.trans ho')
        subst r2
        exact (P56.st.gsub b ob (P56.gext b ob (gx5 b ob (L.gx b ob hob)))).1
    have hD6 : h6.PlainList D vs.toArray := hD4.imp fun n q => (Z.kz D (by simp)).trans q
    have hlen : vs.length = acc.length := L.rv.length
    have hle : acc.length ≤ i := L.le
    refine wpAny_list_append_plain (x := v6) hD6 (fun h7 hpl7 hsb => ?_) (by rw [show vs.toArray.size = vs.length from rfl, hlen, sizeLine_eq]; have h22 : big = 4194304 := rfl; omega)
    have k7 : ∀ b o, b ≠ D → h6.get? b = some o → h7.get? b = some o := fun b o q e => (hsb.2 b q).trans e
    rw [show vs.toArray.push v6 = (vs ++ [v6]).toArray by simp] at hpl7
    have S7 : St C' σ4 ad6 g6 h7 := hD6.elim fun n6 q => P6.st.touch q (Z.no D (by simp)).1 hbD (Z.no D (by simp)).2 (fun ov q => by cases q) k7
    have ac' : rs = (acc ++ [r]) ++ rr' := by
      have : rs = acc ++ r :: rr' := L.ac
      rw [this]; simp
    refine ⟨k, Nat.lt_succ_self k, ⟨h7, tk6, σ4, ad6, g6, i + 1, acc ++ [r], vs ++ [v6], rr'⟩, rfl, S7, ⟨sti4.1.imp fun old q => k7 _ _ heD ((Z.kz e (by simp)).trans q), ?_⟩, by show i + 1 + k = _; omega, e5, ac', by show (acc ++ [r]).length ≤ i + 1; rw [List.length_append]; simp; omega, hpl7, (L.rv.mono (gx5.trans P56.gext)).append ⟨v6, [], rfl, rv6, rfl⟩, Z.gx, Z.gn, Z.no⟩
    refine Dr.frame (i + 1) h6 h7 zst fun b hb o' ho' => k7 b o' ?_ ho'
    rcases hfp b hb with rfl | ⟨ob, hob⟩
    · exact hiD
    · intro q
      subst q
      rw [hgD] at hob; cases hob
end
end Mine
-- part Rules22
set_option maxRecDepth 100000
namespace Mine
open PySem PySem.W PySem.Calls PyProof.Rows PySem.Spec PySem.SeqAt
section
variable {prog : Program} {w : World} {C : Cx} {σ σ' σ₀ : SL} {ad ad' ad₀ : Nat → Addr} {g g' g₀ : GP} {h h' h₀ : Heap}
structure CompWP (prog : Program) (w : World) (C : Cx) (scope : Scope) (cl : List (Str × Addr)) (x y : Str) (tgt : Expr) (fns : List Str) (elt : Expr) (st : V → SL → Option SL) (de : SL → Option (V × SL)) : Prop where
  go : ∀ (b : Heap) (L : Addr), Grow C.base b → CK prog (compCx C scope cl (x :: y :: fns) b L) → TG prog w (compCx C scope cl (x :: y :: fns) b L) tgt st ∧ TE prog w (compCx C scope cl (x :: y :: fns) b L) elt de
theorem comp_blockP {elt iter : Expr} {x y : Str} {elts : List Expr} {kk : Nat} {tp : Pos} {scope : Scope} {cl : List (Str × Addr)} {fns : List Str} {is : List Nat} {pos : Pos} {A : Around} {E : Value → Shared → Prop} {s₂ : Shared} {h1 : Heap} {e itr : Addr} {fp : List Addr} {Pv : Nat → Value → Prop} {St' : Nat → Heap → Prop} {xs rs : List V} {ps : SL}
    {st : V → SL → Option SL} {de : SL → Option (V × SL)} {RR : Value → Addr → Result → Shared → Prop}
    (K : CK prog C) (ok : CompOk C scope cl x fns is) (hy : scope.names.lookup y = some .local) (hnd : (x :: y :: fns).Nodup) (W : CompWP prog w C scope cl x y (.Tuple elts kk tp) fns elt st de) (hA : AOk C.n A) (S : St C σ ad g h1) (gr : Grow h1 s₂.heap)
    (Dr : Draws prog w A.in1 itr fp xs.length Pv St') (rep : ∀ i v x, Pv i v → xs[i]? = some x → RV g x v) (hei : e ≠ itr) (hef : e ∉ fp) (hif : itr ∈ fp) (hfp : ∀ b ∈ fp, b = itr ∨ ∃ o, g b = some o) (sti : St' 0 s₂.heap) (hen : IsEnum s₂.heap e itr 0 .none)
    (he1 : h1.get? e = none) (hi1 : h1.get? itr = none) (hcell : ∀ i h, St' i h → ∃ o, h.get? itr = some o ∧ ∀ ov, o.data ≠ .cell ov) (hxs : xs.length ≤ big)
    (hps : pickS σ is = some ps) (hd : compL st fNil de (enumL xs) (.unset :: .unset :: ps) = some rs)
    (hRR : ∀ D L h' tk vs g' m, h1.get? D = none → h1.get? L = none → D ≠ L → Grow h1 h' → h'.PlainList D vs.toArray → RVs g' rs vs → GS g' h' → GExt g g' → (∀ a o, g' a = some o → g a = some o ∨ h1.get? a = none) → g' D = none → g' L = none → h'.Ns L m → RR (.ref D) L (.ok .next) { s₂ with heap := h', toks := tk }) :
    wpAny (model prog w) A (newList []) (fun acc s₃ => wpAny (model prog w) A (newFunctionEnv scope C.env.globals cl [] C.env.qual none .none (some C.env)) (fun cenv s₄ =>
      codeAny (model prog w) A (.compStart (.ListComp elt [⟨.Tuple elts kk tp, iter, [], 0⟩] scope pos) 0 (.ref e) acc { cenv with scope := relabel scope C.env }) (RR acc cenv.locals) s₄) E s₃) E s₂ := by
  refine wpAny_newObj_type (wpAny_newFunctionEnv ok.cell (by intro y hy; simp at hy) (fun h₃ hns hsb => ?_) ok.kind) (by show (#[] : Array Value).size ≤ sizeLine; rw [sizeLine_eq]; decide)
  dsimp only at hns hsb ⊢
  generalize hH2 : s₂.heap.push { cls := .type "list", dict := none, data := .seq ([] : List Value).toArray } = H2 at hns hsb ⊢
  have hC : H2.objs.size = s₂.heap.objs.size + 1 := by rw [← hH2, Heap.size_push]
  have hDC : s₂.heap.objs.size ≠ H2.objs.size := by rw [hC]; exact Nat.ne_of_lt (Nat.lt_succ_self _)
  have old : ∀ b o, s₂.heap.get? b = some o → h₃.get? b = some o := fun b o e => hsb.extBut b o (by rw [hC]; exact Nat.ne_of_lt (Nat.lt_succ_of_lt (Heap.lt_size e))) (Heap.get?_push_of_some _ (hH2 ▸ Heap.get?_push_of_some _ e))
  have n1 : ∀ a, s₂.heap.objs.size ≤ a → h1.get? a = none := fun a ha => by
    cases q : h1.get? a with
    | none => rfl
    | some o' => exact absurd (Heap.lt_size (gr a o' q)) (Nat.not_lt.mpr ha)
  have n1D := n1 _ (Nat.le_refl s₂.heap.objs.size)
  have n1L := n1 H2.objs.size (by rw [hC]; exact Nat.le_succ _)
  have ng : ∀ a, h1.get? a = none → g a = none := fun a e => by
    cases q : g a with
    | none => rfl
    | some o' => rw [(S.gsub a o' q).1] at e; cases e
  have hD3 : h₃.PlainList s₂.heap.objs.size #[] := ⟨_, hsb.extBut _ _ hDC (Heap.get?_push_of_some _ (hH2 ▸ Heap.get?_push_size _ rfl))⟩
  let C' := compCx C scope cl (x :: y :: fns) h1 H2.objs.size
  have K' : CK prog C' := ⟨⟨by show (relabel scope C.env).kind = .function; simp [relabel, ok.kind], K.ok.glob, K.ok.blt, hnd⟩, K.wd.up S.hbase⟩
  obtain ⟨w1, w3⟩ := W.go h1 H2.objs.size S.hbase K'
  obtain ⟨pl, pg⟩ := pickS_get hps
  have hnoown : ∀ (i : Nat) (ys : List V), (Slot.unset :: Slot.unset :: ps)[i]? ≠ some (Slot.own ys) := fun i ys e => by
    match i, e with
    | 0, e => cases e
    | 1, e => cases e
    | i + 2, e => obtain ⟨_, _, _, _, q⟩ := pg i _ e; cases q
  have noMut : ∀ b, Mut C' (.unset :: .unset :: ps) (fun _ => 0) b → b = H2.objs.size := fun b hb => by
    rcases hb with hb | ⟨hb, _⟩ | ⟨i, ys, hi, _⟩
    · exact hb
    · cases hb
    · exact absurd hi (hnoown i ys)
  have S' : St C' (.unset :: .unset :: ps) (fun _ => 0) g h₃ := {
    gsub := fun a o e => ⟨old _ _ (gr _ _ (S.gsub a o e).1), (S.gsub a o e).2⟩
    hbase := fun b o e => old _ _ (gr _ _ e)
    mutNew := fun b hb => by
      rw [noMut b hb]
      obtain ⟨o, _, _, e, _⟩ := hns
      exact ⟨n1L, ng _ n1L, o, e⟩
    vars := ⟨_, hns, fun i z sl hz hsl => by
      match i, hz, hsl with
      | 0, hz, hsl =>
        cases hz; cases hsl
        exact ⟨none, .inl ⟨lookup_relabel_local ok.tgt, rfl⟩, rfl⟩
      | 1, hz, hsl =>
        cases hz; cases hsl
        exact ⟨none, .inl ⟨lookup_relabel_local hy, rfl⟩, rfl⟩
      | j + 2, hz, hsl =>
        obtain ⟨i, v, q1, q2, rfl⟩ := pg j sl hsl
        obtain ⟨⟨i', r1, r2⟩, r3, r4, r5, r6⟩ := ok.free j z hz
        rw [q1] at r1; cases r1
        obtain ⟨m, hn, hv⟩ := S.vars
        obtain ⟨ov, a1, va, rfl, rv⟩ := hv i z _ r2 q2
        rcases a1 with ⟨a1, _⟩ | ⟨_, _, c, b3, o, e1, e2⟩
        · exact absurd a1 r4
        · exact ⟨_, .inr ⟨r3, r5, c, r6.trans b3, o, old _ _ (gr _ _ e1), e2⟩, va, rfl, rv⟩⟩
    len := by show (Slot.unset :: Slot.unset :: ps).length = (x :: y :: fns).length; simp [pl, ok.len]
    inj := fun i j ys zs hi _ _ => absurd hi (hnoown i ys)
    cells := fun y z c hy hz => S.cells y z c (ok.sub y c hy) (ok.sub z c hz) }
  obtain ⟨oi, hoi, _⟩ := hcell 0 _ sti
  have stI : St' 0 h₃ := Dr.frame 0 _ _ sti fun b _ o e => old b o e
  have eL : e ≠ H2.objs.size := by rw [hC]; exact Nat.ne_of_lt (Nat.lt_succ_of_lt (Heap.lt_size hen))
  have iL : itr ≠ H2.objs.size := by rw [hC]; exact Nat.ne_of_lt (Nat.lt_succ_of_lt (Heap.lt_size hoi))
  have loop : ∀ s₃ : Shared, s₃ = { s₂ with heap := h₃, toks := s₂.toks + ([] : List (Str × Value)).length } →
      codeAny (model prog w) A (.compLoop (.ListComp elt [⟨.Tuple elts kk tp, iter, [], 0⟩] scope pos) 0 (.ref e) (.ref s₂.heap.objs.size) C'.env) (RR (.ref s₂.heap.objs.size) H2.objs.size) s₃ := by
    rintro s₃ rfl
    refine comp_loopP (C' := C') (σi := .unset :: .unset :: ps) (ad1 := fun _ => 0) hA Dr rep hxs w1 w3 hd hei hef hif hfp S' stI (old _ _ hen) (Nat.ne_of_lt (Heap.lt_size hen)) (Nat.ne_of_lt (Heap.lt_size hoi)) he1 hi1 n1D (ng _ he1) (ng _ hi1) (ng _ n1D) hD3 (fun hm => hDC (noMut _ hm)) (fun hm => eL (noMut _ hm)) (fun hm => iL (noMut _ hm)) hcell fun h' tk vs g' σ' ad' Sx hpl rv gx gn gD => ?_
    obtain ⟨m, hn, _⟩ := Sx.vars
    exact hRR _ _ h' tk vs g' m n1D n1L hDC Sx.hbase hpl rv Sx.gsub gx gn gD (Sx.mutNew _ (.inl rfl)).2.1 hn
  exact codeAny_compStart_list (loop _ rfl) (wpAny_pyIter_enum (old _ _ hen) (loop _ rfl))
noncomputable def tupL : V → Option (List V)
  | .tup xs => some xs
  | _ => none
noncomputable def dCompP (is : List Nat) (d : SL → Option (V × SL)) (st : V → SL → Option SL) (de : SL → Option (V × SL)) : SL → Option (V × SL) := fun σ =>
  (d σ).bind fun p => (tupL p.1).bind fun xs => if xs.length ≤ big then (pickS p.2 is).bind fun ps => (compL st fNil de (enumL xs) (.unset :: .unset :: ps)).map fun rs => (.list rs, p.2) else none
theorem dCompP_some {is : List Nat} {d : SL → Option (V × SL)} {st : V → SL → Option SL} {de : SL → Option (V × SL)} {a : V} (hd : dCompP is d st de σ = some (a, σ')) :
    ∃ xs ps rs, d σ = some (.tup xs, σ') ∧ xs.length ≤ big ∧ pickS σ' is = some ps ∧ compL st fNil de (enumL xs) (.unset :: .unset :: ps) = some rs ∧ a = .list rs := by
  unfold dCompP at hd
  obtain ⟨⟨b, σ1⟩, e1, hd⟩ := Option.bind_eq_some_iff.mp hd
  obtain ⟨xs, e2, hd⟩ := Option.bind_eq_some_iff.mp hd
  split at hd
  · rename_i hx
    obtain ⟨ps, e3, hd⟩ := Option.bind_eq_some_iff.mp hd
    obtain ⟨rs, e4, hd⟩ := Option.map_eq_some_iff.mp hd
    cases hd
    unfold tupL at e2
    split at e2
    · rename_i ys hb
      cases e2
      exact ⟨_, ps, rs, hb ▸ e1, hx, e3, e4, rfl⟩
    · cases e2
  · cases hd
/-- enumerate(tuple) is made, and asked for its iterator -/
theorem enum_go {A : Around} {E : Value → Shared → Prop} {Q : Value → Shared → Prop} {s : Shared} {f : Str} {fp pos : Pos} {t : Expr} {xs : List V} {d : SL → Option (V × SL)} (hC : CxOk C) (hA : AOk C.n A) (hf : C.env.kindOf f = some .globalImplicit) (hfd : (f == ("__debug__" : Str)) = false) (gv : GV C.base f (.type "enumerate"))
    (h : TE prog w C t d) (hs1 : starEach [t] C.env = [(false, eval t C.env)]) (S : St C σ ad g s.heap) (e1 : d σ = some (.tup xs, σ'))
    (hq : ∀ h1 tk1 ad1 g1 h2 (l : Addr) (vs : List Value), PostE C σ ad g s.heap σ' ad1 g1 h1 → IsL g1 "tuple" l vs → RVs g1 xs vs → Grow h1 h2 → h1.get? (h1.objs.size + 1) = none → h1.get? h1.objs.size = none → IsEnum h2 (h1.objs.size + 1) h1.objs.size 0 .none → h2.IsTupleIter h1.objs.size l 0 →
      Q (.ref (h1.objs.size + 1)) { s with heap := h2, toks := tk1 }) :
    wpAny (model prog w) A (eval (.Call (.Name f fp) [t] [] pos) C.env) (fun x s₁ => wpAny (model prog w) A (pyIter x) Q E s₁) E s := by
  refine Call_Name (trees := [(false, eval t C.env)]) (by rw [hs1]; rfl) (name_glob hC hf hfd gv S.hbase ?_)
  refine PySem.callWith_type rfl (evalArgs_plain (spliced_cons (h.go A _ _ s σ σ' ad g _ hA S e1 fun v h' tk ad' g' P rv => spliced_nil ?_)))
  obtain ⟨l, vs, rfl, hl, rvs⟩ := rv
  have hT := isTup_of P.st.gs hl
  have n2 : ∀ a, h'.objs.size ≤ a → h'.get? a = none := fun a ha => by
    cases q : h'.get? a with
    | none => rfl
    | some o' => exact absurd (Heap.lt_size q) (Nat.not_lt.mpr ha)
  refine call_enumerate_tuple (s := { s with heap := h', toks := tk }) hT fun h2 hen hit _ k => ?_
  exact wpAny_pyIter_enum hen (hq h' tk ad' g' h2 l vs P hl rvs k (n2 _ (Nat.le_succ _)) (n2 _ (Nat.le_refl _)) hen hit)
theorem TE_compP {elt t : Expr} {f x y : Str} {fp pos2 : Pos} {elts : List Expr} {kk : Nat} {tp : Pos} {scope : Scope} {cl : List (Str × Addr)} {fns : List Str} {is : List Nat} {pos : Pos} {d : SL → Option (V × SL)} {st : V → SL → Option SL} {de : SL → Option (V × SL)}
    (K : CK prog C) (ok : CompOk C scope cl x fns is) (hy : scope.names.lookup y = some .local) (hnd : (x :: y :: fns).Nodup) (W : CompWP prog w C scope cl x y (.Tuple elts kk tp) fns elt st de) (hf : C.env.kindOf f = some .globalImplicit) (hfd : (f == ("__debug__" : Str)) = false) (gv : GV C.base f (.type "enumerate"))
    (h : TE prog w C t d) (hs1 : starEach [t] C.env = [(false, eval t C.env)]) (hs : ∀ v, foldedSetIterable (.Call (.Name f fp) [t] [] pos2) C.env v = pure v) :
    TE prog w C (.ListComp elt [⟨.Tuple elts kk tp, .Call (.Name f fp) [t] [] pos2, [], 0⟩] scope pos) (dCompP is d st de) := .mk fun A E Q s σ σ' ad g a hA S hd hq => by
  obtain ⟨xs, ps, rs, e1, e3, e4, e5, rfl⟩ := dCompP_some hd
  rw [eval_ListComp]
  refine wpAny_comprehension_free (use := none) rfl hs ok.clos ok.kind ok.names (enum_go K.ok hA hf hfd gv h hs1 S e1 fun h1 tk1 ad1 g1 h2 l ws P1 hl rvl gr n1e n1i hen hit => ?_)
  have hil : l ≠ h1.objs.size := fun q => by
    obtain ⟨o, ho, _⟩ := hl
    rw [q] at ho
    rw [(P1.st.gsub _ o ho).1] at n1i; cases n1i
  have hel : l ≠ h1.objs.size + 1 := fun q => by
    obtain ⟨o, ho, _⟩ := hl
    rw [q] at ho
    rw [(P1.st.gsub _ o ho).1] at n1e; cases n1e
  have hwl := rvl.length
  have Dr := draws_tuple (prog := prog) (w := w) (A := A.in1) hA.handled h1.objs.size l hil ws.toArray
  rw [show ws.toArray.size = xs.length from hwl] at Dr
  have hlt : h2.IsTuple l ws.toArray := by
    obtain ⟨o, ho, hc, n, hdd⟩ := hl
    exact ⟨o, gr _ _ (P1.st.gsub _ o ho).1, hc, n, hdd⟩
  refine comp_blockP (s₂ := { s with heap := h2, toks := tk1 }) (RR := fun acc L => compPost (model prog w) A E none Q acc L) K ok hy hnd W hA P1.st gr Dr (fun i v x' hp hx => ?_) (Nat.succ_ne_self _) (by simp [Ne.symm hel]) (by simp) (fun b hb => ?_) ⟨hit, hlt⟩ hen n1e n1i (fun i h ⟨⟨o, ho, _, hd⟩, _⟩ => ⟨o, ho, fun ov q => by rw [hd] at q; cases q⟩) e3 e4 e5 fun D L h' tk vs g' m nD nL hDL gr' hpl rvs gs gx gn gD gL hn => ?_
  · obtain ⟨v', h1', h2'⟩ := rvl.get' hx
    rw [hp] at h1'; cases h1'; exact h2'
  · rcases List.mem_cons.mp hb with rfl | hb
    · exact .inl rfl
    · rw [List.mem_singleton.mp hb]
      obtain ⟨o, ho, _⟩ := hl
      exact .inr ⟨o, ho⟩
  refine ⟨m, hn, fun h'' hs'' => ?_⟩
  have nLr : ∀ b o, h1.get? b = some o → b ≠ L := fun b o e q => by subst q; rw [nL] at e; cases e
  have gr'' : Grow h1 h'' := fun b o e => hs''.extBut b o (nLr b o e) (gr' b o e)
  obtain ⟨n, hpl⟩ := hpl
  have hD'' := hs''.extBut _ _ hDL hpl
  have P2 := P1.st.grow (g' := gput g' D _) gr'' (gx.trans (gput_ext gD)) (fun a o e => by
    unfold gput at e
    by_cases q : a = D
    · subst q; rw [if_pos rfl] at e; cases e; exact ⟨hD'', .inl ⟨_, _, rfl⟩⟩
    · rw [if_neg q] at e
      refine ⟨hs''.extBut a o (fun q2 => by subst q2; rw [gL] at e; cases e) (gs a o e).1, (gs a o e).2⟩) (fun a o e => by
    unfold gput at e
    by_cases q : a = D
    · subst q; exact .inr nD
    · rw [if_neg q] at e; exact gn a o e)
  exact hq (.ref D) h'' tk ad1 _ (P1.trans P2) ⟨D, vs, rfl, ⟨_, gput_self, rfl, _, rfl⟩, rvs.mono (gput_ext gD)⟩
end
end Mine
-- part Rules23
set_option maxRecDepth 100000
namespace Mine
open PySem PySem.W PySem.Calls PyProof.Rows PySem.Spec PySem.SeqAt
/-! ## a frame entered, whatever comes of it -/
section
variable {prog : Program} {w : World}
theorem fun_enter {base bb : Heap} {name : Str} {params : Arguments} {body : List Stmt} {scope : Scope} {pm cd doc : Value} {fa : Addr} {o : Obj} {ps ns : List Str} {n : Nat}
    (W : World0 prog base) (ho : base.get? fa = some o) (hdata : o.data = .func (docDef name params body scope pm cd doc)) (hcd : base.CodeRec cd name)
    (hbind : ∀ vs : List Value, vs.length = ps.length → bindArgs (docDef name params body scope pm cd doc) ⟨vs, []⟩ = pure (ps.zip vs))
    (hns : (ps ++ ns).Nodup) (hkind : ∀ m, ∀ x ∈ ps ++ ns, scope.names.lookup x = some .local ∨ (scope.names.lookup x = some .cell ∧ ((cellsFrom m scope.names []).lookup x).isSome = true))
    (hcl : ∀ x : Str, (x == ("__classdict__" : Str)) = true → x ∉ ps ++ ns)
    (hco : scope.isCoroutine = false) (hgen : scope.isGenerator = false) (hk : scope.kind = .function)
    {A : Around} {E : Value → Shared → Prop} {Q : Value → Shared → Prop} {s : Shared} {g : GP} {vs : List Value} {xs : List V} (hA : AOkF (n + 1) A) (hb0 : Grow base s.heap) (hb : Grow base bb) (hbb : Grow bb s.heap) (hg : ∀ a o, g a = some o → s.heap.get? a = some o ∧ okShape o) (hr : RVs g xs vs) (hlen : xs.length = ps.length)
    (k : ∀ (L : Addr) (h₁ : Heap) (tk : Nat) (C : Cx), C = callCx name scope cd (ps ++ ns) n fa bb L → CK prog C → St C (initS xs ns.length) (fun _ => 0) g h₁ → AOk n (A.deeper C.env) → Grow s.heap h₁ → s.heap.get? L = none → (∀ b, Mut C (initS xs ns.length) (fun _ => 0) b → s.heap.get? b = none) → C.env.frame = some L →
      wpAny (model prog w) (A.deeper C.env) (execs body C.env) (fun f s' => Q (match f with | .ret v => v | _ => .none) s')
        (fun e s' => wpAny (model prog w) (A.deeper C.env) (leaving C.env e) (fun _ s'' => E e s'') (fun e' s'' => E e' s'') s') { s with heap := h₁, toks := tk }) :
    wpAny (model prog w) A (call (.ref fa) vs) Q E s := by
  have hvl : vs.length = ps.length := hr.length.trans hlen
  have Ws := W.up hb0
  have hpn : ps.Nodup := (List.nodup_append.mp hns).1
  refine wpAny_call (codeAny_call_function (by have := hA.depth; show A.depth < 1000; omega) (hb0 _ _ ho) hdata hco hgen rfl (hcd.keeps hb0) ?_)
  rw [hbind vs hvl]
  refine wpAny_pure (wpAny_newFunctionEnv_cells hk (fun x hx => ?_) fun env he s' x => ⟨?_, ?_⟩)
  · refine hkind _ x.1 (List.mem_append_left _ ?_)
    rw [← zip_names hvl]
    exact List.mem_map_of_mem hx
  · exact Ws.noLimit.keeps x.toInCall.keep
  subst he
  obtain ⟨h₁, tk, rfl, kk⟩ := x.done
  refine codeAny_func ?_
  let C := callCx name scope cd (ps ++ ns) n fa bb s.heap.objs.size
  have hCe : C.env = newEnv scope s.heap.objs.size mainGlobals (cellsFrom (s.heap.objs.size + 1) scope.names []) (name ++ ".<locals>.") (some fa) cd none builtinsNs := rfl
  have kk' : Grow s.heap h₁ := kk
  have hzn : ((ps.zip vs).map (·.1)) = ps := zip_names hvl
  have hlocal : s.heap.get? s.heap.objs.size = none := none_at _
  have bnone : ∀ b, s.heap.get? b = none → bb.get? b = none := fun b e => by
    cases q : bb.get? b with
    | none => rfl
    | some o' => rw [hbb b o' q] at e; cases e
  have gnone : ∀ b, s.heap.get? b = none → g b = none := fun b e => by
    cases q : g b with
    | none => rfl
    | some o' => rw [(hg b o' q).1] at e; cases e
  have big' : ∀ b, s.heap.objs.size ≤ b → s.heap.get? b = none := fun b hb => by
    cases q : s.heap.get? b with
    | none => rfl
    | some o' => exact absurd (Heap.lt_size q) (Nat.not_lt.mpr hb)
  have hnsL := x.toInCall.ns
  have S : St C (initS xs ns.length) (fun _ => 0) g h₁ := {
    gsub := fun a o' e => ⟨kk' _ _ (hg a o' e).1, (hg a o' e).2⟩
    hbase := fun b o e => kk' _ _ (hbb b o e)
    mutNew := fun b hb => by
      rcases hb with hb | ⟨_, _, y, _, _, hy⟩ | ⟨i, ys, hi, _⟩
      · subst hb
        obtain ⟨o', _, _, e, _⟩ := hnsL
        exact ⟨bnone _ hlocal, gnone _ hlocal, o', e⟩
      · have hm := x.above y b (by
          obtain ⟨l1, l2, e, _⟩ := List.lookup_eq_some_iff.mp hy
          show (y, b) ∈ C.env.cells
          rw [e]; simp)
        have hbn := big' b (Nat.le_of_lt hm)
        obtain ⟨o', e, _⟩ := x.cell y b hy
        exact ⟨bnone _ hbn, gnone _ hbn, o', e⟩
      · rcases initS_get hi with ⟨a, _, e⟩ | ⟨_, e⟩ <;> cases e
    vars := ⟨_, hnsL, fun i y sl hy hsl => by
      have hym : y ∈ ps ++ ns := List.mem_of_getElem? hy
      have hcd' : (y == ("__classdict__" : Str)) = false := by
        cases q : (y == ("__classdict__" : Str)) with
        | false => rfl
        | true => exact absurd hym (hcl y q)
      have slotv : ∀ (ov : Option Value), (∀ v, (ps.zip vs)[i]? = some (y, v) → ov = some v) → (y ∉ ps → ov = none) → SlotOk g h₁ 0 sl ov := fun ov h1 h2 => by
        rcases initS_get hsl with ⟨a, ha, rfl⟩ | ⟨hle, rfl⟩
        · have hip : i < ps.length := by rw [← hlen]; exact lt_of_get ha
          have hyp : ps[i]? = some y := by rw [← hy]; exact (List.getElem?_append_left hip).symm
          obtain ⟨v, hv, rv⟩ := hr.get ha
          exact ⟨v, h1 v (zip_get hyp hv), rv⟩
        · refine h2 fun hyp => ?_
          have hle' : ps.length ≤ i := by omega
          have hyn : y ∈ ns := by
            have : (ps ++ ns)[i]? = ns[i - ps.length]? := List.getElem?_append_right hle'
            exact List.mem_of_getElem? (this.symm.trans hy)
          exact (List.nodup_append.mp hns).2.2 y hyp y hyn rfl
      rcases hkind (s.heap.objs.size + 1) y hym with hkl | ⟨hkc, hsome⟩
      · refine ⟨_, .inl ⟨hkl, rfl⟩, slotv _ (fun v hv => ?_) fun hyp => ?_⟩
        · exact bindL_hit hkl _ _ i (by rw [hzn]; exact hpn) hv
        · exact bindL_miss _ _ (by rw [hzn]; exact hyp)
      · obtain ⟨c, hc⟩ := Option.isSome_iff_exists.mp hsome
        have hnl : C.env.kindOf y ≠ some .local := fun q => by
          have q' : scope.names.lookup y = some .local := q
          rw [hkc] at q'; cases q'
        refine ⟨_, .inr ⟨.inl hkc, hcd', c, hc, x.cell y c hc⟩, slotv _ (fun v hv => ?_) fun hyp => ?_⟩
        · exact bindC_hit hnl _ _ i (by rw [hzn]; exact hpn) hv
        · exact bindC_miss _ _ (by rw [hzn]; exact hyp)⟩
    len := by show (initS xs ns.length).length = (ps ++ ns).length; unfold initS; simp [hlen]
    inj := fun i j ys zs hi _ _ => by rcases initS_get hi with ⟨a, _, e⟩ | ⟨_, e⟩ <;> cases e
    cells := fun y z c hy hz => pair_inj x.apart hy hz }
  have hA' : AOk n (A.deeper C.env) := by
    obtain ⟨l, f1⟩ := hA.frames
    refine ⟨hA.handled, by have := hA.depth; show A.depth + 1 + n < 700; omega, by have := hA.units; show A.units + 3 + 10 * n < 9000; omega, C.env, l, ?_, rfl, rfl, hgen, hco⟩
    show A.frames.map (C.env :: ·) = _
    rw [f1]; rfl
  have K : CK prog C := ⟨⟨hk, rfl, rfl, hns⟩, W.up hb⟩
  exact k s.heap.objs.size h₁ tk C rfl K S hA' kk' hlocal (fun b hb => by
    rcases hb with hb | ⟨_, _, y, _, _, hy⟩ | ⟨i, ys, hi, _⟩
    · subst hb; exact hlocal
    · have hm := x.above y b (by
        obtain ⟨l1, l2, e, _⟩ := List.lookup_eq_some_iff.mp hy
        show (y, b) ∈ C.env.cells
        rw [e]; simp)
      exact big' b (Nat.le_of_lt hm)
    · rcases initS_get hi with ⟨a, _, e⟩ | ⟨_, e⟩ <;> cases e) rfl
end
end Mine
-- part Rules24
set_option maxRecDepth 100000
namespace Mine
open PySem PySem.W PySem.Calls PyProof.Rows PySem.Spec PySem.SeqAt
/-! ## frames that an exception passes -/
section
variable {prog : Program} {w : World} {C : Cx} {σ σ' σ'' : SL} {ad ad' ad'' : Nat → Addr} {g g' g'' : GP} {h h' h'' : Heap} {X : List Addr}
/-- a heap without some of its objects -/
noncomputable def dropL (h : Heap) (X : List Addr) : Heap := { h with objs := h.objs.mapIdx fun i o => if i ∈ X then { o with data := .freed } else o }
theorem dropL_out {b : Addr} (hb : b ∉ X) : (dropL h X).get? b = h.get? b := by
  unfold Heap.get? dropL
  simp only [Array.getElem?_mapIdx]
  cases h.objs[b]? with
  | none => rfl
  | some o => simp only [Option.map_some, if_neg hb]
theorem dropL_in {b : Addr} (hb : b ∈ X) : (dropL h X).get? b = none := by
  unfold Heap.get? dropL
  simp only [Array.getElem?_mapIdx]
  cases h.objs[b]? with
  | none => rfl
  | some o => simp only [Option.map_some, if_pos hb]
theorem dropL_some {b : Addr} {o : Obj} (e : (dropL h X).get? b = some o) : b ∉ X ∧ h.get? b = some o := by
  by_cases hb : b ∈ X
  · rw [dropL_in hb] at e; cases e
  · exact ⟨hb, (dropL_out hb).symm.trans e⟩
/-- what is kept where an exception passed: all but the frames' slots -/
noncomputable def KeepX (X : List Addr) (h h' : Heap) : Prop := ∀ b o, h.get? b = some o → h'.get? b = some o ∨ (b ∈ X ∧ ∃ sl, h'.get? b = some { o with slots := sl })
theorem KeepX.refl : KeepX X h h := fun _ _ e => .inl e
theorem KeepX.trans (x : KeepX X h h') (y : KeepX X h' h'') : KeepX X h h'' := fun b o e => by
  rcases x b o e with e1 | ⟨hb, sl, e1⟩
  · exact y b o e1
  · rcases y b _ e1 with e2 | ⟨_, sl2, e2⟩
    · exact .inr ⟨hb, sl, e2⟩
    · exact .inr ⟨hb, sl2, e2⟩
/-- the frames outside -/
structure OutOk (base : Heap) (g : GP) (h : Heap) (outer : List Env) : Prop where
  ok : ∀ env ∈ outer, env.scope.kind ≠ .module ∧ ∃ L o es ep, env.frame = some L ∧ base.get? L = none ∧ g L = none ∧ h.get? L = some o ∧ o.data = .dict es ep
noncomputable abbrev XOf (outer : List Env) : List Addr := outer.filterMap (·.frame)
theorem OutOk.mem {base : Heap} {outer : List Env} (O : OutOk base g h outer) {b : Addr} (hb : b ∈ XOf outer) : base.get? b = none ∧ g b = none ∧ ∃ o es ep, h.get? b = some o ∧ o.data = .dict es ep := by
  obtain ⟨env, he, hf⟩ := List.mem_filterMap.mp hb
  obtain ⟨_, L, o, es, ep, h1, h2, h3, h4, h5⟩ := O.ok env he
  rw [h1] at hf; cases hf
  exact ⟨h2, h3, o, es, ep, h4, h5⟩
structure PostX (X : List Addr) (C : Cx) (σ : SL) (ad : Nat → Addr) (g : GP) (h : Heap) (σ' : SL) (ad' : Nat → Addr) (g' : GP) (h' : Heap) : Prop where
  st : St C σ' ad' g' h'
  keep : ∀ b o, h.get? b = some o → ¬ Mut C σ ad b → (h'.get? b = some o ∨ (b ∈ X ∧ ∃ sl, h'.get? b = some { o with slots := sl })) ∧ ¬ Mut C σ' ad' b
  gext : GExt g g'
  gnew : ∀ a o, g' a = some o → g a = some o ∨ h.get? a = none ∨ Mut C σ ad a
theorem Post.toX (P : Post C σ ad g h σ' ad' g' h') : PostX X C σ ad g h σ' ad' g' h' := ⟨P.st, fun b o e n => let ⟨a, b⟩ := P.keep b o e n; ⟨.inl a, b⟩, P.gext, P.gnew⟩
theorem PostX.trans (x : PostX X C σ ad g h σ' ad' g' h') (y : PostX X C σ' ad' g' h' σ'' ad'' g'' h'') : PostX X C σ ad g h σ'' ad'' g'' h'' where
  st := y.st
  keep := fun b o e n => by
    obtain ⟨e', n'⟩ := x.keep b o e n
    rcases e' with e1 | ⟨hb, sl, e1⟩
    · exact y.keep b o e1 n'
    · obtain ⟨e2, n2⟩ := y.keep b _ e1 n'
      refine ⟨.inr ⟨hb, ?_⟩, n2⟩
      rcases e2 with e2 | ⟨_, sl2, e2⟩
      · exact ⟨sl, e2⟩
      · exact ⟨sl2, e2⟩
  gext := x.gext.trans y.gext
  gnew := fun a o e => by
    rcases y.gnew a o e with e | e | e
    · exact x.gnew a o e
    · by_cases hm : Mut C σ ad a
      · exact .inr (.inr hm)
      · refine .inr (.inl ?_)
        cases q : h.get? a with
        | none => rfl
        | some o' => rcases (x.keep a o' q hm).1 with e1 | ⟨_, sl, e1⟩ <;> (rw [e1] at e; cases e)
    · by_cases hm : Mut C σ ad a
      · exact .inr (.inr hm)
      · refine .inr (.inl ?_)
        cases q : h.get? a with
        | none => rfl
        | some o' => exact absurd e (x.keep a o' q hm).2
theorem OutOk.post {outer : List Env} (O : OutOk C.base g h outer) (hm : ∀ b ∈ XOf outer, ¬ Mut C σ ad b) (P : PostX X C σ ad g h σ' ad' g' h') : OutOk C.base g' h' outer ∧ ∀ b ∈ XOf outer, ¬ Mut C σ' ad' b := by
  refine ⟨⟨fun env he => ?_⟩, fun b hb => ?_⟩
  · obtain ⟨h0, L, o, es, ep, h1, h2, h3, h4, h5⟩ := O.ok env he
    have hL : L ∈ XOf outer := List.mem_filterMap.mpr ⟨env, he, h1⟩
    have hg : g' L = none := by
      cases q : g' L with
      | none => rfl
      | some o' =>
        rcases P.gnew L o' q with e | e | e
        · rw [h3] at e; cases e
        · rw [h4] at e; cases e
        · exact absurd e (hm L hL)
    rcases (P.keep L o h4 (hm L hL)).1 with e | ⟨_, sl, e⟩
    · exact ⟨h0, L, o, es, ep, h1, h2, hg, e, h5⟩
    · exact ⟨h0, L, _, es, ep, h1, h2, hg, e, h5⟩
  · obtain ⟨_, _, o, _, _, h4, _⟩ := O.mem hb
    exact (P.keep b o h4 (hm b hb)).2
/-! ### blocks in which an exception may pass (and be caught) -/
structure TX2 (prog : Program) (w : World) (C : Cx) (b : Stmt) (d : SL → Option Out) : Prop where
  go : ∀ (A : Around) (E : Value → Shared → Prop) (Q : Flow → Shared → Prop) (s : Shared) (σ : SL) (ad : Nat → Addr) (g : GP) (o : Out) (outer : List Env), AOk C.n A → A.frames = some (C.env :: outer) → OutOk C.base g s.heap outer → (∀ b ∈ XOf outer, ¬ Mut C σ ad b) → St C σ ad g s.heap → d σ = some o →
    (∀ f h' tk ad' g', PostX (XOf outer) C σ ad g s.heap o.flow.1 ad' g' h' → o.flow.2 f g' → Q f { s with heap := h', toks := tk }) → wpAny (model prog w) A (exec b C.env) Q E s
structure TS2 (prog : Program) (w : World) (C : Cx) (b : List Stmt) (d : SL → Option Out) : Prop where
  go : ∀ (A : Around) (E : Value → Shared → Prop) (Q : Flow → Shared → Prop) (s : Shared) (σ : SL) (ad : Nat → Addr) (g : GP) (o : Out) (outer : List Env), AOk C.n A → A.frames = some (C.env :: outer) → OutOk C.base g s.heap outer → (∀ b ∈ XOf outer, ¬ Mut C σ ad b) → St C σ ad g s.heap → d σ = some o →
    (∀ f h' tk ad' g', PostX (XOf outer) C σ ad g s.heap o.flow.1 ad' g' h' → o.flow.2 f g' → Q f { s with heap := h', toks := tk }) → wpAny (model prog w) A (execs b C.env) Q E s
theorem TX2.of {b : Stmt} {d : SL → Option Out} (h : TX prog w C b d) : TX2 prog w C b d := .mk fun A E Q s σ ad g o outer hA _ _ _ S hd hq => h.go A E Q s σ ad g o hA S hd fun f h' tk ad' g' P hf => hq f h' tk ad' g' P.toX hf
theorem TS2.of {b : List Stmt} {d : SL → Option Out} (h : TS prog w C b d) : TS2 prog w C b d := .mk fun A E Q s σ ad g o outer hA _ _ _ S hd hq => h.go A E Q s σ ad g o hA S hd fun f h' tk ad' g' P hf => hq f h' tk ad' g' P.toX hf
theorem TS2_cons {st : Stmt} {rest : List Stmt} {d1 d2 : SL → Option Out} (h1 : TX2 prog w C st d1) (h2 : TS2 prog w C rest d2) : TS2 prog w C (st :: rest) (sSeq d1 d2) := .mk fun A E Q s σ ad g o outer hA hF O hm S hd hq => by
  unfold sSeq at hd
  refine wpAny_execs_cons ?_
  split at hd
  · rename_i σ1 e1
    refine h1.go A E _ s σ ad g (.next σ1) outer hA hF O hm S e1 fun f h' tk ad' g' P hf => ?_
    subst hf
    obtain ⟨O', hm'⟩ := O.post hm P
    exact h2.go A E Q _ σ1 ad' g' o outer hA hF O' hm' P.st hd fun f2 h2 tk2 ad2 g2 P2 hf2 => hq _ _ _ _ _ (P.trans P2) hf2
  · rename_i hn
    refine h1.go A E _ s σ ad g o outer hA hF O hm S hd fun f h' tk ad' g' P hf => ?_
    cases o with
    | next σ1 => exact absurd hd (hn σ1)
    | brk σ1 => have : f = .brk := hf; subst this; exact hq _ _ _ _ _ P rfl
    | cont σ1 => have : f = .cont := hf; subst this; exact hq _ _ _ _ _ P rfl
    | ret a σ1 => obtain ⟨v, rfl, rv⟩ := hf; exact hq _ _ _ _ _ P ⟨v, rfl, rv⟩
theorem TX2_if {t : Expr} {b o : List Stmt} {pos : Pos} {dt : SL → Option (Bool × SL)} {d1 d2 : SL → Option Out} (ht : TT prog w C t dt) (h1 : TS2 prog w C b d1) (h2 : TS2 prog w C o d2) : TX2 prog w C (.If t b o pos) (sIf dt d1 d2) := .mk fun A E Q s σ ad g r outer hA hF O hm S hd hq => by
  unfold sIf at hd
  rw [Option.bind_eq_some_iff] at hd
  obtain ⟨⟨c, σ1⟩, e1, hd⟩ := hd
  refine wpAny_If (ht.go A E _ s σ σ1 ad g c hA S e1 fun h' tk ad' g' P => ?_)
  obtain ⟨O', hm'⟩ := O.post hm (P.toPost.toX (X := XOf outer))
  cases c with
  | true => exact h1.go A E Q _ σ1 ad' g' r outer hA hF O' hm' P.st hd fun f h2 tk2 ad2 g2 P2 hf => hq _ _ _ _ _ (P.toPost.toX.trans P2) hf
  | false => exact h2.go A E Q _ σ1 ad' g' r outer hA hF O' hm' P.st hd fun f h2 tk2 ad2 g2 P2 hf => hq _ _ _ _ _ (P.toPost.toX.trans P2) hf
/-- a function's spec, exceptions passing inside -/
noncomputable def FunSpecX (prog : Program) (w : World) (base : Heap) (n : Nat) (fv : Value) (φ : List V → Option V) : Prop :=
  ∀ (A : Around) (E : Value → Shared → Prop) (Q : Value → Shared → Prop) (s : Shared) (g : GP) (vs : List Value) (xs : List V) (r : V) (outer : List Env), AOkF n A → A.frames = some outer → Grow base s.heap → OutOk base g s.heap outer → (∀ a o, g a = some o → s.heap.get? a = some o ∧ okShape o) → RVs g xs vs → φ xs = some r →
    (∀ v h' tk g', KeepX (XOf outer) s.heap h' → (∀ a o, g' a = some o → h'.get? a = some o ∧ okShape o) → GExt g g' → (∀ a o, g' a = some o → g a = some o ∨ s.heap.get? a = none) → RV g' r v → Q v { s with heap := h', toks := tk }) →
    wpAny (model prog w) A (call fv vs) Q E s
theorem FunSpecX.weak {base : Heap} {n : Nat} {fv : Value} {φ : Nat → List V → Option V} {ψ : List V → Option V} (h : ∀ k, FunSpecX prog w base n fv (φ k)) (e : ∀ xs r, ψ xs = some r → ∃ k, φ k xs = some r) : FunSpecX prog w base n fv ψ :=
  fun A E Q s g vs xs r outer hA hF hb O hg hr hf hq => let ⟨k, q⟩ := e xs r hf; h k A E Q s g vs xs r outer hA hF hb O hg hr q hq
theorem FunSpecX.to {base : Heap} {n : Nat} {fv : Value} {φ ψ : List V → Option V} (h : FunSpecX prog w base n fv φ) (e : ∀ xs r, ψ xs = some r → φ xs = some r) : FunSpecX prog w base n fv ψ :=
  fun A E Q s g vs xs r outer hA hF hb O hg hr hf hq => h A E Q s g vs xs r outer hA hF hb O hg hr (e xs r hf) hq
theorem fun_specX {base : Heap} {name : Str} {params : Arguments} {body : List Stmt} {scope : Scope} {pm cd doc : Value} {fa : Addr} {o : Obj} {ps ns : List Str} {n : Nat} {d : SL → Option Out}
    (W : World0 prog base) (ho : base.get? fa = some o) (hdata : o.data = .func (docDef name params body scope pm cd doc)) (hcd : base.CodeRec cd name)
    (hbind : ∀ vs : List Value, vs.length = ps.length → bindArgs (docDef name params body scope pm cd doc) ⟨vs, []⟩ = pure (ps.zip vs))
    (hns : (ps ++ ns).Nodup) (hkind : ∀ m, ∀ x ∈ ps ++ ns, scope.names.lookup x = some .local ∨ (scope.names.lookup x = some .cell ∧ ((cellsFrom m scope.names []).lookup x).isSome = true))
    (hcl : ∀ x : Str, (x == ("__classdict__" : Str)) = true → x ∉ ps ++ ns)
    (hco : scope.isCoroutine = false) (hgen : scope.isGenerator = false) (hk : scope.kind = .function)
    (walk : ∀ (b : Heap) (L : Addr), Grow base b → CK prog (callCx name scope cd (ps ++ ns) n fa b L) → TS2 prog w (callCx name scope cd (ps ++ ns) n fa b L) body d) :
    FunSpecX prog w base (n + 1) (.ref fa) (funP ps.length ns.length d) := fun A E Q s g vs xs r outer hA hF hb O hg hr hf hq => by
  unfold funP at hf
  split at hf
  · rename_i hlen
    obtain ⟨out, e1, e2⟩ := Option.bind_eq_some_iff.mp hf
    refine fun_enter (bb := base) W ho hdata hcd hbind hns hkind hcl hco hgen hk hA hb (.refl _) hb hg hr hlen fun L h₁ tk C hC K S hA' kk hL hnew hfr => ?_
    subst hC
    have Oh : OutOk base g h₁ outer := ⟨fun env he => by
      obtain ⟨h0, L', o', es, ep, h1, h2, h3, h4, h5⟩ := O.ok env he
      exact ⟨h0, L', o', es, ep, h1, h2, h3, kk _ _ h4, h5⟩⟩
    have hmX : ∀ b ∈ XOf outer, ¬ Mut (callCx name scope cd (ps ++ ns) n fa base L) (initS xs ns.length) (fun _ => 0) b := fun b hb' hm => by
      obtain ⟨_, _, o', _, _, e, _⟩ := O.mem hb'
      rw [hnew b hm] at e; cases e
    refine (walk base L (.refl _) K).go (A.deeper _) _ _ _ (initS xs ns.length) (fun _ => 0) g out outer hA' (Around.frames_deeper hF) Oh hmX S e1 fun f h' tk' ad' g' P hf => ?_
    have fin : ∀ v, RV g' r v → Q v { s with heap := h', toks := tk' } := fun v rv => hq v h' tk' g' (fun b o' e => (P.keep b o' (kk b o' e) fun hm => by rw [hnew b hm] at e; cases e).1) P.st.gsub P.gext (fun a o' e => by
      rcases P.gnew a o' e with e | e | e
      · exact .inl e
      · refine .inr ?_
        cases q : s.heap.get? a with
        | none => rfl
        | some o2 => rw [kk _ _ q] at e; cases e
      · exact .inr (hnew a e)) rv
    cases out with
    | next σ1 => have : f = .next := hf; subst this; cases e2; exact fin _ rfl
    | brk => cases e2
    | cont => cases e2
    | ret a σ1 => obtain ⟨v, rfl, rv⟩ := hf; cases e2; exact fin _ rv
  · cases hf
end
end Mine
-- part Rules25
set_option maxRecDepth 100000
namespace Mine
open PySem PySem.W PySem.Calls PyProof.Rows PySem.Spec PySem.SeqAt
/-! ## a class of exceptions of the module; a function that raises one -/
noncomputable abbrev bmE : List Value := [.type "Exception", .type "BaseException", .type "object"]
structure ExcP where
  nm : Str
  q : Str
  N : Addr
  bs : List Value
  bm : List Value
  hdct : Bool
  sn : List Str
  sub : List Value
  ab : Bool
  col : Option Bool
  dd : Option Addr
  k0 : Option Value
  k1 : Option Value
  k2 : Option Value
  k3 : Option Value
  k5 : Option Value
  mN : Str → Option Value
noncomputable def ExcP.obj (p : ExcP) (C : Addr) : Obj := excClassObj p.nm p.q C p.N p.bs p.bm p.hdct p.sn p.sub p.ab p.col p.dd p.k0 p.k1 p.k2 p.k3 p.k5 "Exception.__new__"
structure OwnAt (base : Heap) (C : Addr) (p : ExcP) : Prop where
  at_ : base.get? C = some (p.obj C)
  ns : base.Ns p.N p.mN
  init : p.mN "__init__" = none
  tail : OwnTail base bmE p.bm
noncomputable def OwnExc (base : Heap) (C : Addr) : Prop := ∃ p, OwnAt base C p
theorem OwnAt.hasBase {base : Heap} {C : Addr} {p : ExcP} (x : OwnAt base C p) : p.bm.contains (.type "BaseException") = true := x.tail.hasType (by decide)
theorem OwnExc.up {b b' : Heap} {C : Addr} (x : OwnExc b C) (k : Grow b b') : OwnExc b' C := by
  obtain ⟨p, c⟩ := x
  exact ⟨p, k _ _ c.at_, c.ns.keeps k, c.init, c.tail.keeps k⟩
section
variable {prog : Program} {w : World}
noncomputable def RaiseSpec (prog : Program) (w : World) (base : Heap) (n : Nat) (fv : Value) (Cl : Addr) (φ : List V → Option (List Nat)) : Prop :=
  ∀ (A : Around) (E : Value → Shared → Prop) (Q : Value → Shared → Prop) (s : Shared) (g : GP) (vs : List Value) (xs : List V) (x : List Nat) (outer : List Env) (bs : Heap), AOkF n A → A.frames = some outer → Grow base s.heap → (∀ a o, g a = some o → s.heap.get? a = some o ∧ okShape o) → RVs g xs vs → φ xs = some x →
    bs.StaysIn s.heap → s.heap.FunFrames bs outer →
    (∀ e h' t tk tx, Heap.FlyingW bs outer e (.ref Cl) (.ref t) h' → h'.TupAt t [.str (mkS x) tx] → bs.get? t = none → s.heap.UpToSlots h' → E (.ref e) { s with heap := h', toks := tk }) →
    wpAny (model prog w) A (call fv vs) Q E s
theorem RaiseSpec.up {b b' : Heap} {n : Nat} {fv : Value} {Cl : Addr} {φ : List V → Option (List Nat)} (h : RaiseSpec prog w b n fv Cl φ) (k : Grow b b') : RaiseSpec prog w b' n fv Cl φ :=
  fun A E Q s g vs xs x outer bs hA hF hb => h A E Q s g vs xs x outer bs hA hF (k.trans hb)
theorem raise_spec {base : Heap} {name : Str} {params : Arguments} {scope : Scope} {pm cd doc : Value} {fa Cl : Addr} {o : Obj} {ps ns : List Str} {n : Nat} {t e : Expr} {x : Str} {np cpos rpos ipos : Pos} {rest : List Stmt}
    {dt : SL → Option (Bool × SL)} {de : SL → Option (V × SL)} {φ : List V → Option (List Nat)} {body : List Stmt} (hbody : body = .If t [.Raise (some (.Call (.Name x np) [e] [] cpos)) none rpos] [] ipos :: rest)
    (W : World0 prog base) (ho : base.get? fa = some o) (hdata : o.data = .func (docDef name params body scope pm cd doc)) (hcd : base.CodeRec cd name)
    (hbind : ∀ vs : List Value, vs.length = ps.length → bindArgs (docDef name params body scope pm cd doc) ⟨vs, []⟩ = pure (ps.zip vs))
    (hns : (ps ++ ns).Nodup) (hkind : ∀ m, ∀ x ∈ ps ++ ns, scope.names.lookup x = some .local ∨ (scope.names.lookup x = some .cell ∧ ((cellsFrom m scope.names []).lookup x).isSome = true))
    (hcl : ∀ x : Str, (x == ("__classdict__" : Str)) = true → x ∉ ps ++ ns)
    (hco : scope.isCoroutine = false) (hgen : scope.isGenerator = false) (hk : scope.kind = .function)
    (own : OwnExc base Cl) (gv : GV base x (.ref Cl)) (hxd : (x == ("__debug__" : Str)) = false)
    (walk : ∀ (b : Heap) (L : Addr), Grow base b → CK prog (callCx name scope cd (ps ++ ns) n fa b L) → TT prog w (callCx name scope cd (ps ++ ns) n fa b L) t dt ∧ TE prog w (callCx name scope cd (ps ++ ns) n fa b L) e de
      ∧ (callCx name scope cd (ps ++ ns) n fa b L).env.kindOf x = some .globalImplicit ∧ starEach [e] (callCx name scope cd (ps ++ ns) n fa b L).env = [(false, eval e (callCx name scope cd (ps ++ ns) n fa b L).env)])
    (hφ : ∀ xs x, φ xs = some x → xs.length = ps.length ∧ ∃ σ1 σ2, dt (initS xs ns.length) = some (true, σ1) ∧ de σ1 = some (.str x, σ2)) :
    RaiseSpec prog w base (n + 1) (.ref fa) Cl φ := fun A E Q s g vs xs r outer bs hA hF hb hg hr hf hbs hfr hE => by
  obtain ⟨hlen, σ1, σ2, e1, e2⟩ := hφ xs r hf
  refine fun_enter (bb := s.heap) W ho hdata hcd hbind hns hkind hcl hco hgen hk hA hb hb (.refl _) hg hr hlen fun L h₁ tk C hC K S hA' kk hL hnew hfL => ?_
  subst hC
  obtain ⟨w1, w2, w3, w4⟩ := walk s.heap L hb K
  rw [hbody]
  refine wpAny_execs_cons (wpAny_If (w1.go _ _ _ _ _ σ1 _ g true hA' S e1 fun h2 tk2 ad2 g2 P2 => ?_))
  show wpAny _ _ (execs [_] _) _ _ _
  refine wpAny_execs_cons ?_
  obtain ⟨p, c⟩ := own
  have F := PySem.F.excBase_Exception
  refine wpAny_Raise_call_subU (nm := p.nm) (q := p.q) (N := p.N) (bs := p.bs) (bm := p.bm) (hdct := p.hdct) (sn := p.sn) (sub := p.sub) (ab := p.ab) (col := p.col) (dd := p.dd) (k0 := p.k0) (k1 := p.k1) (k2 := p.k2) (k3 := p.k3) (k5 := p.k5) F (by decide) F c.hasBase hA'.handled (by rw [w4]; rfl) c.init (name_glob K.ok w3 hxd (gv.up hb) P2.st.hbase ⟨rfl, ?_⟩)
  have htr : backTo cpos (starEach [e] (callCx name scope cd (ps ++ ns) n fa s.heap L).env) = [(false, eval e (callCx name scope cd (ps ++ ns) n fa s.heap L).env)] := by rw [w4]; rfl
  rw [htr]
  refine evalArgs_plain (spliced_cons (w2.go _ _ _ _ σ1 σ2 ad2 g2 _ hA' P2.st e2 fun v h3 tk3 ad3 g3 P3 rv => spliced_nil ?_))
  obtain ⟨tx, rfl⟩ := rv
  have P := P2.trans P3
  have kb : Grow s.heap h3 := P3.st.hbase
  have kb0 : Grow base h3 := hb.trans kb
  refine ⟨rfl, by show 1 ≤ sizeLine; rw [sizeLine_eq]; decide, kb0 _ _ c.at_, c.ns.keeps kb0, c.tail.keeps kb0, fun h4 ex M => ?_⟩
  obtain ⟨m, hn, _⟩ := P3.st.vars
  have hbsL : bs.get? L = none := by
    cases q : bs.get? L with
    | none => rfl
    | some o' => rw [hbs L o' q] at hL; cases hL
  have hff : h3.FunFrames bs ((callCx name scope cd (ps ++ ns) n fa s.heap L).env :: outer) := Heap.FunFrames.cons (by show scope.kind ≠ .module; rw [hk]; intro q; cases q) hfL hn hbsL (hfr.of_keeps fun b o' e' _ => ⟨o', kb b o' e', rfl⟩)
  refine wpAny_leaves_madeW (h := h3) (Around.frames_deeper hF) hfL (fun b o' e' => kb b o' (hbs b o' e')) hff M fun h5 t hfl htp hbt hup => ?_
  refine hE ex h5 t _ tx hfl htp hbt ?_
  exact ((Heap.UpToSlots.of_keeps kb).trans (Heap.UpToSlots.of_keeps M.keeps)).trans hup
end
end Mine
-- part Rules26
set_option maxRecDepth 100000
namespace Mine
open PySem PySem.W PySem.Calls PyProof.Rows PySem.Spec PySem.SeqAt
open Builtin Builtin.Str Builtin.BaseException Builtin.Exceptions
/-! ## str of an exception of the module -/
theorem bexc_kind : builtinKind "BaseException.__str__" = some .slot := by decide +kernel
theorem bexc_split : splitId "BaseException.__str__" = some ("BaseException", "__str__") := by decide +kernel
section
variable {prog : Program} {w : World} {A : Around} {E : Value → Shared → Prop} {s : Shared} {e t Cl : Addr}
/-- an exception's object -/
noncomputable def ExOf (h : Heap) (e Cl t : Addr) : Prop := ∃ oe vs, h.get? e = some oe ∧ oe.cls = .ref Cl ∧ oe.data = .fields vs ∧ vs[0]? = some (.ref t)
theorem own_check {Q : Unit → Shared → Prop} (own : OwnExc s.heap Cl) (x : ExOf s.heap e Cl t) (hq : Q () s) : wpAny (model prog w) A (checkBuiltinCall "BaseException.__str__" ⟨[.ref e], []⟩) Q E s := by
  obtain ⟨p, c⟩ := own
  have hC := c.at_
  unfold ExcP.obj at hC
  obtain ⟨oe, vs, he, hcls, hd, h0⟩ := x
  obtain ⟨h, g, d, tk, os⟩ := s
  have hcB : (Value.ref Cl :: p.bm).contains (.type "BaseException") = true := by rw [List.contains_cons, c.hasBase, Bool.or_true]
  simp only [checkBuiltinCall, bexc_kind, bexc_split]
  repeat (any_goals (first | assumption | (with_reducible refine wpAny_loadPart_at he ?_; rw [hcls]) | with_reducible refine wpAny_loadPart_at hC ?_ | (with_reducible refine wpAny_isSubtype_exc hC ?_; rw [hcB]) | with_reducible refine wpAny_onRaise ?_ | with_reducible refine wpAny_map ?_ | wp_step))
theorem own_body {m : Str} {tk : Tok} {Q : Fin → Shared → Prop} (x : ExOf s.heap e Cl t) (ht : s.heap.TupAt t [.str m tk]) (hq : Q (.done (.ret (.str m tk))) s) : wpAny (model prog w) A (Builtin.«BaseException.__str__» ⟨[.ref e], []⟩) Q E s := by
  have args : ∀ {Q : Value × List Value → Shared → Prop}, Q (.ref t, [.str m tk]) s → wpAny (model prog w) A (bexcArgs (.ref e)) Q E s := fun {Q} hq => by
    obtain ⟨o, vs, ho, _, hd, h0⟩ := x
    obtain ⟨ot, k, hto, _, htd⟩ := ht
    unfold bexcArgs
    exact wpAny_bind (wpAny_field ho hd h0 (wpAny_bind (wpAny_seqItems hto htd (wpAny_pure hq))))
  unfold Builtin.«BaseException.__str__»
  repeat (first | with_reducible refine args ?_ | wp_step)
  exact hq
theorem own_call {m : Str} {tk : Tok} {Q : Value → Shared → Prop} (own : OwnExc s.heap Cl) (x : ExOf s.heap e Cl t) (ht : s.heap.TupAt t [.str m tk]) (hq : Q (.str m tk) s) : wpAny (model prog w) A (call (.builtin "BaseException.__str__") [.ref e]) Q E s :=
  wpAny_call (codeAny_call_builtin F.excStr_Exception.str.plain F.entry_bexc_str (own_check own x (own_body x ht hq)))
theorem own_strOf {m : Str} {tk : Tok} {K : Frag} {Q : Value → Shared → Prop} (hu : A.units < cLine) (X : K.In s.heap) (hs : findIn K (.ref Cl) "__str__" = some (some (.builtin "BaseException.__str__"))) (own : OwnExc s.heap Cl) (x : ExOf s.heap e Cl t) (ht : s.heap.TupAt t [.str m tk]) (hq : Q (.str m tk) s) :
    wpAny (model prog w) A (Builtin.Str.strOf (.ref e)) Q E s := by
  obtain ⟨oe, vs, he, hcls, hd, h0⟩ := id x
  have ty : Looks (model prog w) s.heap (typeOf (.ref e)) (.ref Cl) := hcls ▸ (Looks.ld he).andThen .now
  unfold Builtin.Str.strOf
  rw [show isExactStr (.ref e) = false from rfl]
  refine wpAny_bind (m := cRoomFor _ _) (wpAny_cRoomFor hu ?_)
  refine wpAny_bind (m := callSpecial? (.ref e) (Str.ofString "__str__")) ?_
  simp only [callSpecial?, specialOf]
  refine wpAny_bind (wpAny_bind (ty.here ((looks_findIn X hs).here ?_)))
  simp only [F.excStr_Exception.str.bind]
  exact wpAny_holding (wpAny_bind (wpAny_pure (wpAny_bind (own_call own x ht (wpAny_pure (wpAny_pure hq))))))
theorem own_str {m : Str} {tk : Tok} {K : Frag} {Q : Value → Shared → Prop} (hu : A.units + 2 < cLine) (X : K.In s.heap) (hs : findIn K (.ref Cl) "__str__" = some (some (.builtin "BaseException.__str__"))) (own : OwnExc s.heap Cl) (x : ExOf s.heap e Cl t) (ht : s.heap.TupAt t [.str m tk]) (h : Q (.str m tk) s) :
    wpAny (model prog w) A (call (.type "str") [.ref e]) Q E s :=
  callType_new F.called_str (by decide) (F.typeCall_str_1 _) (F.newCall_str_1 _) (fun obj => F.args_object_init_2 obj _) F.entry_str_new
    (meets_str_new (S := fun A' R s' => A'.units + 1 < cLine ∧ K.In s'.heap ∧ OwnExc s'.heap Cl ∧ ExOf s'.heap e Cl t ∧ s'.heap.TupAt t [.str m tk] ∧ R (.ok (.ret (.str m tk))) s')
      fun _ _ A' _ _ hq => own_strOf (A := A'.in1) hq.1 hq.2.1 hs hq.2.2.1 hq.2.2.2.1 hq.2.2.2.2.1 hq.2.2.2.2.2)
    ⟨(show A.units + 1 + 1 < cLine from hu), X, own, x, ht, typeIs_str _ _ _, h⟩
end
end Mine
-- part Rules27
set_option maxRecDepth 100000
namespace Mine
open PySem PySem.W PySem.Calls PyProof.Rows PySem.Spec PySem.SeqAt
/-! ## try: f(x) ... except cls as fault: if str(fault) != x: return False -/
section
variable {prog : Program} {w : World} {C : Cx} {σ σ' : SL} {ad ad' : Nat → Addr} {g g' : GP} {h h' : Heap}
theorem OutOk.frames {base : Heap} {outer : List Env} {bs : Heap} (O : OutOk base g h outer) (hb : ∀ L ∈ XOf outer, bs.get? L = none) : h.FunFrames bs outer := by
  have : ∀ l : List Env, (∀ env ∈ l, env ∈ outer) → h.FunFrames bs l := by
    intro l
    induction l with
    | nil => intro _; trivial
    | cons env rest ih =>
      intro hl
      obtain ⟨h0, L, o, es, ep, h1, h2, h3, h4, h5⟩ := O.ok env (hl env (by simp))
      exact ⟨h0, ⟨L, o, h1, hb L (List.mem_filterMap.mpr ⟨env, hl env (by simp), h1⟩), h4, fun vs q => by rw [h5] at q; cases q⟩, ih fun e he => hl e (by simp [he])⟩
  exact this outer fun _ h => h
theorem own_matches {A : Around} {E : Value → Shared → Prop} {Q : Bool → Shared → Prop} {s : Shared} {e Cl : Addr} (own : OwnExc s.heap Cl) (x : ∃ oe, s.heap.get? e = some oe ∧ oe.cls = .ref Cl) (hq : Q true s) : wpAny (model prog w) A (excMatches (.ref e) (.ref Cl)) Q E s := by
  obtain ⟨p, c⟩ := own
  obtain ⟨oe, he, hcls⟩ := x
  exact wpAny_excMatches_sub_self c.at_ he hcls c.hasBase hq
noncomputable def sTryP (i : Nat) (φ : List V → Option (List Nat)) : SL → Option Out := fun σ => match σ[i]? with
  | some (.val (.str x)) => if φ [.str x] = some x then some (.next σ) else none
  | _ => none
theorem TX2_try {f rn cls fault strN : Str} {i n : Nat} {fa Cl : Addr} {o : Obj} {fd : FuncData} {φ : List V → Option (List Nat)} {Kf : Frag} {fp rp cp ep np hp pos sp ffp scp rp2 cmpp ip : Pos} {rest suite : List Stmt}
    (K : CK prog C) (hx : C.ns[i]? = some rn) (hrd : (rn == ("__debug__" : Str)) = false) (hrl : C.env.kindOf rn = some .local)
    (hf1 : C.env.kindOf f = some .globalImplicit) (hf2 : (f == ("__debug__" : Str)) = false) (gvf : GV C.base f (.ref fa)) (ho : C.base.get? fa = some o) (hfd : o.data = .func fd) (spec : RaiseSpec prog w C.base n (.ref fa) Cl φ) (hn : n ≤ C.n)
    (hs1 : starEach [.Name rn rp] C.env = [(false, eval (.Name rn rp) C.env)]) (hi1 : interactive C.env = false) (hsw : swapsWith (.Call (.Name f fp) [.Name rn rp] [] cp) none ep.line C.env = pure false)
    (hc1 : C.env.kindOf cls = some .globalImplicit) (hc2 : (cls == ("__debug__" : Str)) = false) (gvc : GV C.base cls (.ref Cl)) (own : OwnExc C.base Cl) (hK : Kf.In C.base) (hfind : findIn Kf (.ref Cl) "__str__" = some (some (.builtin "BaseException.__str__")))
    (hfl : C.env.kindOf fault = some .local) (hfn : fault ∉ C.ns) (hfd2 : (fault == ("__debug__" : Str)) = false) (hst1 : C.env.kindOf strN = some .globalImplicit) (hst2 : (strN == ("__debug__" : Str)) = false) (gvs : GV C.base strN (.type "str"))
    (hs2 : starEach [.Name fault ffp] C.env = [(false, eval (.Name fault ffp) C.env)]) (hm : behindInMarks .NotEq (.Name rn rp2) = false) (hfr : C.env.frame = some C.env.locals) :
    TX2 prog w C (.Try (.Expr (.Call (.Name f fp) [.Name rn rp] [] cp) ep :: rest) [.ExceptHandler (some (.Name cls np)) (some fault) [.If (.Compare (.Call (.Name strN sp) [.Name fault ffp] [] scp) [.NotEq] [.Name rn rp2] cmpp) suite [] ip] hp] [] [] pos) (sTryP i φ) := .mk fun A E Q s σ ad g r outer hA hF O hmX S hd hq => by
  unfold sTryP at hd
  split at hd
  · rename_i x hi
    split at hd
    · rename_i hφ
      cases hd
      obtain ⟨m, hnL, hv⟩ := S.vars
      have hmr : ∃ tr, m rn = some (.str (mkS x) tr) := by
        obtain ⟨ov, a1, v, rfl, rv⟩ := hv i rn _ hx hi
        obtain ⟨tr, rfl⟩ := rv
        refine ⟨tr, ?_⟩
        rcases a1 with ⟨_, e⟩ | ⟨k1 | k1, _⟩
        · exact e
        · rw [hrl] at k1; cases k1
        · rw [hrl] at k1; cases k1
      obtain ⟨tr, hmr⟩ := hmr
      have hkp : (C.env.scope.kind == .class || (C.env.scope.kind == .module && C.env.locals != C.env.globals)) = false := by rw [K.ok.kind]; rfl
      have mL : Mut C σ ad C.env.locals := .inl rfl
      -- the heap without the frames
      have keepBs : ∀ b o, s.heap.get? b = some o → b ≠ C.env.locals → b ∉ XOf outer → (dropL s.heap (C.env.locals :: XOf outer)).get? b = some o := fun b o e h1 h2 => by
        rw [dropL_out (by simp [h1, h2])]; exact e
      have baseBs : Grow C.base (dropL s.heap (C.env.locals :: XOf outer)) := fun b o e => keepBs b o (S.hbase b o e) (fun q => by rw [q, (S.mutNew _ mL).1] at e; cases e) (fun q => by rw [(O.mem q).1] at e; cases e)
      have hbs : (dropL s.heap (C.env.locals :: XOf outer)).StaysIn s.heap := fun b o e => (dropL_some e).2
      have hff : s.heap.FunFrames (dropL s.heap (C.env.locals :: XOf outer)) (C.env :: outer) :=
        Heap.FunFrames.cons (by rw [K.ok.kind]; intro q; cases q) hfr hnL (dropL_in (by simp)) (O.frames fun L hL => dropL_in (List.mem_cons_of_mem _ hL))
      generalize hbsD : dropL s.heap (C.env.locals :: XOf outer) = bs at keepBs baseBs hbs hff
      refine wpAny_Try_except (wpAny_execs_cons (wpAny_Expr (Call_Name (trees := [(false, eval (.Name rn rp) C.env)]) (by rw [hs1]; rfl) (name_glob K.ok hf1 hf2 gvf S.hbase ?_)) hi1 hsw))
      refine Calls.callWith_function (o := o) (fd := fd) (evalArgs_plain (spliced_cons (wpAny_Name (load_at K.ok hnL (v := .str (mkS x) tr) (.inl ⟨hrl, hmr⟩) (spliced_nil ⟨⟨S.hbase _ _ ho, hfd⟩, ?_⟩)) hrd)))
      refine spec A _ _ s g [.str (mkS x) tr] [.str x] x (C.env :: outer) bs (hA.mono hn).toF hF S.hbase S.gs ⟨_, [], rfl, ⟨_, rfl⟩, rfl⟩ hφ hbs hff fun e h1 t tk tx hfly htp hbt hup => ?_
      refine wpAny_looks_onW hF hfr hfly fun h2 hheld hup2 => ?_
      refine wpAny_landsW hheld fun h3 hfly3 hup3 => ?_
      have base3 : Grow C.base h3 := fun b o e => hfly3.1 b o (baseBs b o e)
      have own3 := own.up base3
      have fst3 : ∃ oe, h3.get? e = some oe ∧ oe.cls = .ref Cl := by
        obtain ⟨oe, vs, he, hcls, hdE, h0E⟩ := hfly3.first
        exact ⟨oe, he, hcls⟩
      have up3 : s.heap.UpToSlots h3 := (hup.trans hup2).trans hup3
      have tp3 : h3.TupAt t [.str (mkS x) tx] := (htp.of_slots hup2).of_slots hup3
      refine wpAny_handleBy_cons (codeAny_handlers_test (name_glob K.ok hc1 hc2 gvc base3 ?_)) (by intro q; cases q)
      refine own_matches (s := { s with heap := h3, toks := tk }) own3 fst3 ?_
      refine codeAny_handlers_suite_as ?_
      obtain ⟨f1, f2, f3, f4⟩ := hfly3
      refine wpAny_setFlight_noneW f1 f3 f4.at fun h4 g1 g2 g3 g4 => ?_
      have up4 : s.heap.UpToSlots h4 := up3.trans fun b o e1 e2 => ⟨o.slots, g4 b o e1 e2⟩
      have n4 : h4.Ns C.env.locals m := up4.ns hnL
      have tp4 : h4.TupAt t [.str (mkS x) tx] := tp3.of_slots fun b o e1 e2 => ⟨o.slots, g4 b o e1 e2⟩
      have ex4 : ExOf h4 e Cl t := by
        obtain ⟨oe4, vs4, T4, oT4, ts4, he4, ⟨hcls4, h04⟩, hd4, _⟩ := g3
        exact ⟨oe4, vs4, he4, hcls4, hd4, h04⟩
      refine wpAny_storeName_local hfl n4 (fun h5 n5 sb5 => ?_) hkp
      have eL : e ≠ C.env.locals := fun q => by
        obtain ⟨oe4, vs4, he4, _, hd4, _⟩ := ex4
        obtain ⟨oL, es, ep', hoL, hdL, _⟩ := n4
        rw [q] at he4; rw [hoL] at he4; cases he4; rw [hdL] at hd4; cases hd4
      have tL : t ≠ C.env.locals := fun q => by
        obtain ⟨ot, nt, hot, hct, hdt⟩ := tp4
        obtain ⟨oL, es, ep', hoL, hdL, _⟩ := n4
        rw [q] at hot; rw [hoL] at hot; cases hot; rw [hdL] at hdt; cases hdt
      have ex5 : ExOf h5 e Cl t := by
        obtain ⟨oe4, vs4, he4, r⟩ := ex4
        exact ⟨oe4, vs4, (sb5.2 e eL).trans he4, r⟩
      have tp5 : h5.TupAt t [.str (mkS x) tx] := by
        obtain ⟨ot, nt, hot, r⟩ := tp4
        exact ⟨ot, nt, (sb5.2 t tL).trans hot, r⟩
      have base4 : Grow C.base h4 := fun b o e => g1 b o (baseBs b o e)
      have base5 : Grow C.base h5 := fun b o e => (sb5.2 b fun q => by rw [q, (S.mutNew _ mL).1] at e; cases e).trans (base4 b o e)
      have rnf : rn ≠ fault := fun q => hfn (by rw [← q]; exact List.mem_of_getElem? hx)
      have m5r : (fun y => if y = fault then some (Value.ref e) else m y) rn = some (.str (mkS x) tr) := by simp only [if_neg rnf]; exact hmr
      refine wpAny_execs_cons (wpAny_If (wpAny_isTrue_Compare1 (Call_Name (trees := [(false, eval (.Name fault ffp) C.env)]) (by rw [hs2]; rfl) (name_glob K.ok hst1 hst2 gvs base5 ?_)) hm))
      refine PySem.callWith_type rfl (evalArgs_plain (spliced_cons (wpAny_Name (load_at K.ok n5 (v := .ref e) (.inl ⟨hfl, by simp⟩) (spliced_nil ?_)) hfd2)))
      refine own_str (by have := hA.cmp; show A.units + 2 < cLine; omega) (hK.keeps base5) hfind (own.up base5) ex5 tp5 ?_
      refine wpAny_Name (load_at K.ok n5 (v := .str (mkS x) tr) (.inl ⟨hrl, m5r⟩) (PyProof.Rows.ne_str ?_)) hrd
      have hne : (mkS x != mkS x) = false := by simp
      rw [hne]
      refine wpAny_truthy_bool ?_
      refine wpAny_execs_nil (wpAny_execs_nil ?_)
      refine wpAny_nameGoes_keeps hfl n5 hkp fun h7 v7 n7 sb7 => ?_
      have keep7 : ∀ b o, s.heap.get? b = some o → b ≠ C.env.locals → b ∉ XOf outer → h7.get? b = some o := fun b o e1 e2 e3 =>
        (sb7.2 b e2).trans ((sb5.2 b e2).trans (g1 b o (keepBs b o e1 e2 e3)))
      have notX : ∀ b, Mut C σ ad b → b ∉ XOf outer := fun b hb hbX => hmX b hbX hb
      have gkeep : ∀ b o, g b = some o → h7.get? b = some o := fun b o e1 => keep7 b o (S.gsub b o e1).1 (fun q => by rw [q, (S.mutNew _ mL).2.1] at e1; cases e1) (fun q => by rw [(O.mem q).2.1] at e1; cases e1)
      have P : PostX (XOf outer) C σ ad g s.heap σ ad g h7 := {
        st := {
          gsub := fun b o e1 => ⟨gkeep b o e1, (S.gsub b o e1).2⟩
          hbase := fun b o e1 => (sb7.2 b fun q => by rw [q, (S.mutNew _ mL).1] at e1; cases e1).trans (base5 b o e1)
          mutNew := fun b hb => by
            obtain ⟨z1, z2, o', z3⟩ := S.mutNew b hb
            refine ⟨z1, z2, ?_⟩
            by_cases hbl : b = C.env.locals
            · obtain ⟨o7, _, _, e7, _⟩ := n7
              exact ⟨o7, by rw [hbl]; exact e7⟩
            · exact ⟨o', keep7 b o' z3 hbl (notX b hb)⟩
          vars := ⟨_, n7, fun j y sl z1 z2 => by
            obtain ⟨ov, b1, b2⟩ := hv j y sl z1 z2
            have yf : y ≠ fault := fun q => hfn (by rw [← q]; exact List.mem_of_getElem? z1)
            refine ⟨ov, ?_, b2.mono (.refl g) fun o' e1 hown => ?_⟩
            · rcases b1 with ⟨c1, c2⟩ | ⟨c1, c0, c, c3, o', c4, c5⟩
              · exact .inl ⟨c1, by simp only [if_neg yf]; exact c2⟩
              · refine .inr ⟨c1, c0, c, c3, o', ?_, c5⟩
                have hcL : c ≠ C.env.locals := fun q => by
                  obtain ⟨oL0, _, _, e0, d0, _⟩ := hnL
                  rw [q, e0] at c4; cases c4; rw [d0] at c5; cases c5
                by_cases hcX : c ∈ XOf outer
                · obtain ⟨_, _, oX, _, _, e8, d8⟩ := O.mem hcX
                  rw [e8] at c4; cases c4; rw [d8] at c5; cases c5
                · exact keep7 c o' c4 hcL hcX
            · obtain ⟨ys, rfl⟩ := hown
              have hmj : Mut C σ ad (ad j) := .inr (.inr ⟨j, ys, z2, rfl⟩)
              refine keep7 _ o' e1 (fun q => ?_) (notX _ hmj)
              obtain ⟨_, vs0, n0, e9, _⟩ := b2
              obtain ⟨oL0, _, _, e0, d0, _⟩ := hnL
              rw [q, e0] at e9; cases e9; cases d0⟩
          len := S.len
          inj := S.inj
          cells := S.cells }
        keep := fun b o e1 nm => by
          refine ⟨?_, nm⟩
          have hbl : b ≠ C.env.locals := fun q => nm (q ▸ mL)
          by_cases hbX : b ∈ XOf outer
          · obtain ⟨_, _, oX, es8, ep8, e8, d8⟩ := O.mem hbX
            have hoX : o = oX := Option.some.inj (e1.symm.trans e8)
            subst hoX
            obtain ⟨sl, hsl⟩ := up4 b _ e8 fun vs q => by rw [d8] at q; cases q
            exact .inr ⟨hbX, sl, (sb7.2 b hbl).trans ((sb5.2 b hbl).trans hsl)⟩
          · exact .inl (keep7 b o e1 hbl hbX)
        gext := .refl g
        gnew := fun _ _ e1 => .inl e1 }
      exact hq .next h7 _ ad g P rfl
    · cases hd
  · cases hd
end
end Mine
-- part Rules28
set_option maxRecDepth 100000
namespace Mine
open PySem PySem.W PySem.Calls PyProof.Rows PySem.Spec PySem.SeqAt
/-! ## the law's own frame: nothing outside it -/
section
variable {prog : Program} {w : World} {C : Cx} {σ σ' : SL} {ad ad' : Nat → Addr} {g g' : GP} {h h' : Heap}
structure TE1 (prog : Program) (w : World) (C : Cx) (e : Expr) (d : SL → Option (V × SL)) : Prop where
  go : ∀ (A : Around) (E : Value → Shared → Prop) (Q : Value → Shared → Prop) (s : Shared) (σ σ' : SL) (ad : Nat → Addr) (g : GP) (a : V), AOk C.n A → A.frames = some [C.env] → St C σ ad g s.heap → d σ = some (a, σ') →
    (∀ v h' tk ad' g', PostE C σ ad g s.heap σ' ad' g' h' → RV g' a v → Q v { s with heap := h', toks := tk }) → wpAny (model prog w) A (eval e C.env) Q E s
structure TT1 (prog : Program) (w : World) (C : Cx) (e : Expr) (d : SL → Option (Bool × SL)) : Prop where
  go : ∀ (A : Around) (E : Value → Shared → Prop) (Q : Bool → Shared → Prop) (s : Shared) (σ σ' : SL) (ad : Nat → Addr) (g : GP) (b : Bool), AOk C.n A → A.frames = some [C.env] → St C σ ad g s.heap → d σ = some (b, σ') →
    (∀ h' tk ad' g', PostE C σ ad g s.heap σ' ad' g' h' → Q b { s with heap := h', toks := tk }) → wpAny (model prog w) A (isTrue e C.env (eval e C.env)) Q E s
structure TX1 (prog : Program) (w : World) (C : Cx) (b : Stmt) (d : SL → Option Out) : Prop where
  go : ∀ (A : Around) (E : Value → Shared → Prop) (Q : Flow → Shared → Prop) (s : Shared) (σ : SL) (ad : Nat → Addr) (g : GP) (o : Out), AOk C.n A → A.frames = some [C.env] → St C σ ad g s.heap → d σ = some o →
    (∀ f h' tk ad' g', Post C σ ad g s.heap o.flow.1 ad' g' h' → o.flow.2 f g' → Q f { s with heap := h', toks := tk }) → wpAny (model prog w) A (exec b C.env) Q E s
structure TS1 (prog : Program) (w : World) (C : Cx) (b : List Stmt) (d : SL → Option Out) : Prop where
  go : ∀ (A : Around) (E : Value → Shared → Prop) (Q : Flow → Shared → Prop) (s : Shared) (σ : SL) (ad : Nat → Addr) (g : GP) (o : Out), AOk C.n A → A.frames = some [C.env] → St C σ ad g s.heap → d σ = some o →
    (∀ f h' tk ad' g', Post C σ ad g s.heap o.flow.1 ad' g' h' → o.flow.2 f g' → Q f { s with heap := h', toks := tk }) → wpAny (model prog w) A (execs b C.env) Q E s
theorem TX1.of {b : Stmt} {d : SL → Option Out} (h : TX prog w C b d) : TX1 prog w C b d := .mk fun A E Q s σ ad g o hA _ S hd hq => h.go A E Q s σ ad g o hA S hd hq
theorem TS1.of {b : List Stmt} {d : SL → Option Out} (h : TS prog w C b d) : TS1 prog w C b d := .mk fun A E Q s σ ad g o hA _ S hd hq => h.go A E Q s σ ad g o hA S hd hq
theorem TS1_cons {st : Stmt} {rest : List Stmt} {d1 d2 : SL → Option Out} (h1 : TX1 prog w C st d1) (h2 : TS1 prog w C rest d2) : TS1 prog w C (st :: rest) (sSeq d1 d2) := .mk fun A E Q s σ ad g o hA hF S hd hq => by
  unfold sSeq at hd
  refine wpAny_execs_cons ?_
  split at hd
  · rename_i σ1 e1
    refine h1.go A E _ s σ ad g (.next σ1) hA hF S e1 fun f h' tk ad' g' P hf => ?_
    subst hf
    exact h2.go A E Q _ σ1 ad' g' o hA hF P.st hd fun f2 h2 tk2 ad2 g2 P2 hf2 => hq _ _ _ _ _ (P.trans P2) hf2
  · rename_i hn
    refine h1.go A E _ s σ ad g o hA hF S hd fun f h' tk ad' g' P hf => ?_
    cases o with
    | next σ1 => exact absurd hd (hn σ1)
    | brk σ1 => have : f = .brk := hf; subst this; exact hq _ _ _ _ _ P rfl
    | cont σ1 => have : f = .cont := hf; subst this; exact hq _ _ _ _ _ P rfl
    | ret a σ1 => obtain ⟨v, rfl, rv⟩ := hf; exact hq _ _ _ _ _ P ⟨v, rfl, rv⟩
theorem TX1_if {t : Expr} {b o : List Stmt} {pos : Pos} {dt : SL → Option (Bool × SL)} {d1 d2 : SL → Option Out} (ht : TT1 prog w C t dt) (h1 : TS prog w C b d1) (h2 : TS prog w C o d2) : TX1 prog w C (.If t b o pos) (sIf dt d1 d2) := .mk fun A E Q s σ ad g r hA hF S hd hq => by
  unfold sIf at hd
  rw [Option.bind_eq_some_iff] at hd
  obtain ⟨⟨c, σ1⟩, e1, hd⟩ := hd
  refine wpAny_If (ht.go A E _ s σ σ1 ad g c hA hF S e1 fun h' tk ad' g' P => ?_)
  cases c with
  | true => exact h1.go A E Q _ σ1 ad' g' r hA P.st hd fun f h2 tk2 ad2 g2 P2 hf => hq _ _ _ _ _ (P.toPost.trans P2) hf
  | false => exact h2.go A E Q _ σ1 ad' g' r hA P.st hd fun f h2 tk2 ad2 g2 P2 hf => hq _ _ _ _ _ (P.toPost.trans P2) hf
theorem TT1_val {e : Expr} {d : SL → Option (V × SL)} (h1 : TE1 prog w C e d) (he : isTrue e C.env (eval e C.env) = (do let v ← eval e C.env; standAt e.pos; holding [v] (truthy v))) : TT1 prog w C e (tVal d) := .mk fun A E Q s σ σ' ad g b hA hF S hd hq => by
  unfold tVal at hd
  rw [Option.bind_eq_some_iff] at hd
  obtain ⟨⟨x, σ1⟩, e1, hd⟩ := hd
  rw [Option.map_eq_some_iff] at hd
  obtain ⟨b', e2, hd⟩ := hd
  cases hd
  refine wpAny_isTrue_value (h1.go A E _ s σ σ1 ad g x hA hF S e1 fun v h' tk ad' g' P rv => ?_) he
  exact truthy_prm e2 rv fun tk' => hq _ _ _ _ P
theorem TT1_not {x : Expr} {pos : Pos} {d : SL → Option (Bool × SL)} (h : TT1 prog w C x d) : TT1 prog w C (.UnaryOp .Not x pos) (tNot d) := .mk fun A E Q s σ σ' ad g b hA hF S hd hq => by
  unfold tNot at hd
  rw [Option.map_eq_some_iff] at hd
  obtain ⟨⟨b', σ1⟩, e1, hd⟩ := hd
  cases hd
  exact wpAny_isTrue_Not (h.go A E _ s σ σ1 ad g b' hA hF S e1 fun h' tk ad' g' P => hq _ _ _ _ P)
/-- a test, or one that calls what may catch -/
theorem TT1_or2 {e1 e2 : Expr} {pos : Pos} {d1 d2 : SL → Option (Bool × SL)} (h1 : TT prog w C e1 d1) (h2 : TT1 prog w C e2 d2) : TT1 prog w C (.BoolOp .Or [e1, e2] pos) (bOr d1 (bOr d2 bFalse)) := .mk fun A E Q s σ σ' ad g b hA hF S hd hq => by
  refine wpAny_isTrue_BoolOp ?_
  obtain ⟨⟨c, σ1⟩, q1, hd⟩ := Option.bind_eq_some_iff.mp hd
  refine wpAny_allTrue_Or_cons (h1.go A E _ s σ σ1 ad g c hA S q1 fun h' tk ad' g' P => ?_)
  cases c with
  | true => cases hd; exact hq _ _ _ _ P
  | false =>
    obtain ⟨⟨c2, σ2⟩, q2, hd⟩ := Option.bind_eq_some_iff.mp (show (d2 σ1).bind _ = some (b, σ') from hd)
    refine wpAny_allTrue_Or_cons (h2.go A E _ _ σ1 σ2 ad' g' c2 hA hF P.st q2 fun h2 tk2 ad2 g2 P2 => ?_)
    cases c2 with
    | true => cases hd; exact hq _ _ _ _ (P.trans P2)
    | false => cases hd; exact wpAny_allTrue_Or_nil (hq _ _ _ _ (P.trans P2))
theorem TE1_fnX {x : Str} {np pos : Pos} {fa : Addr} {o : Obj} {fd : FuncData} {n : Nat} {φ : List V → Option V} {es : List Expr} {ds : SL → Option (List V × SL)} (hC : CxOk C) (hfrm : C.env.frame = some C.env.locals) (hx : C.env.kindOf x = some .globalImplicit) (hd : (x == ("__debug__" : Str)) = false)
    (gv : GV C.base x (.ref fa)) (ho : C.base.get? fa = some o) (hf : o.data = .func fd) (sp : FunSpecX prog w C.base n (.ref fa) φ) (hn : n ≤ C.n) (h : TA prog w C es ds) :
    TE1 prog w C (.Call (.Name x np) es [] pos) (dCall φ ds) := .mk fun A E Q s σ σ' ad g a hA hF S hd' hq => by
  obtain ⟨xs, e1, e2⟩ := dCall_some hd'
  refine Call_Name (by rw [h.plain, backTo_trees]) (name_glob hC hx hd gv S.hbase ?_)
  refine Calls.callWith_function (o := o) (fd := fd) (evalArgs_trees (h.go A E _ s σ σ' ad g xs hA S e1 fun vs h1 tk1 ad1 g1 P rvs => ⟨⟨P.st.hbase _ _ ho, hf⟩, ?_⟩))
  have mL : Mut C σ' ad1 C.env.locals := .inl rfl
  obtain ⟨m, hn1, hv1⟩ := P.st.vars
  obtain ⟨oL, es0, ep0, hoL, hdL, hkL⟩ := id hn1
  have hXO : XOf [C.env] = [C.env.locals] := by unfold XOf; rw [List.filterMap_cons, hfrm]; rfl
  have O : OutOk C.base g1 h1 [C.env] := ⟨fun env he => by
    rw [List.mem_singleton] at he
    subst he
    exact ⟨by rw [hC.kind]; (intro q; cases q), _, oL, es0, ep0, hfrm, (P.st.mutNew _ mL).1, (P.st.mutNew _ mL).2.1, hoL, hdL⟩⟩
  refine sp A E _ { s with heap := h1, toks := tk1 } g1 ([] ++ vs) xs a [C.env] (hA.mono hn).toF hF P.st.hbase O P.st.gs rvs e2 fun v h2 tk2 g2 kx gs gx gn rv => ?_
  rw [hXO] at kx
  have keep : ∀ b o, h1.get? b = some o → b ≠ C.env.locals → h2.get? b = some o := fun b o q hb => by
    rcases kx b o q with e | ⟨hb', _⟩
    · exact e
    · exact absurd (List.mem_singleton.mp hb') hb
  have nL : h2.Ns C.env.locals m := by
    rcases kx _ _ hoL with e | ⟨_, sl, e⟩
    · exact ⟨oL, es0, ep0, e, hdL, hkL⟩
    · exact ⟨_, es0, ep0, e, hdL, hkL⟩
  have P2 : PostE C σ' ad1 g1 h1 σ' ad1 g2 h2 := {
    same := rfl
    st := {
      gsub := gs
      hbase := fun b o q => keep b o (P.st.hbase b o q) fun e => by rw [e, (P.st.mutNew _ mL).1] at q; cases q
      mutNew := fun b hb => by
        obtain ⟨z1, z2, o', z3⟩ := P.st.mutNew b hb
        refine ⟨z1, ?_, ?_⟩
        · cases q : g2 b with
          | none => rfl
          | some o2 =>
            rcases gn b o2 q with e | e
            · rw [z2] at e; cases e
            · rw [show h1.get? b = none from e] at z3; cases z3
        · by_cases hbl : b = C.env.locals
          · obtain ⟨o7, _, _, e7, _⟩ := nL
            exact ⟨o7, by rw [hbl]; exact e7⟩
          · exact ⟨o', keep b o' z3 hbl⟩
      vars := ⟨m, nL, fun j y sl z1 z2 => by
        obtain ⟨ov, b1, b2⟩ := hv1 j y sl z1 z2
        refine ⟨ov, ?_, b2.mono gx fun o' e1 hown => ?_⟩
        · rcases b1 with b1 | ⟨c1, c0, c, c3, o', c4, c5⟩
          · exact .inl b1
          · refine .inr ⟨c1, c0, c, c3, o', keep c o' c4 fun q => ?_, c5⟩
            rw [q, hoL] at c4; cases c4; rw [hdL] at c5; cases c5
        · obtain ⟨ys, rfl⟩ := hown
          refine keep _ o' e1 fun q => ?_
          obtain ⟨_, vs0, n0, e9, _⟩ := b2
          rw [q, hoL] at e9; cases e9; cases hdL⟩
      len := P.st.len
      inj := P.st.inj
      cells := P.st.cells }
    keep := fun b o q nm => ⟨keep b o q fun e => nm (e ▸ mL), nm⟩
    gext := gx
    gnew := fun b o q => (gn b o q).imp id .inl }
  exact hq v h2 tk2 ad1 g2 (P.trans P2) rv
/-- a function's spec, called from outside every frame -/
noncomputable def FunSpec0 (prog : Program) (w : World) (base : Heap) (n : Nat) (fv : Value) (φ : List V → Option V) : Prop :=
  ∀ (A : Around) (E : Value → Shared → Prop) (Q : Value → Shared → Prop) (s : Shared) (g : GP) (vs : List Value) (xs : List V) (r : V), AOkF n A → A.frames = some [] → Grow base s.heap → (∀ a o, g a = some o → s.heap.get? a = some o ∧ okShape o) → RVs g xs vs → φ xs = some r →
    (∀ v h' tk g', Grow s.heap h' → RV g' r v → Q v { s with heap := h', toks := tk }) → wpAny (model prog w) A (call fv vs) Q E s
theorem fun_spec0 {base : Heap} {name : Str} {params : Arguments} {body : List Stmt} {scope : Scope} {pm cd doc : Value} {fa : Addr} {o : Obj} {ps ns : List Str} {n : Nat} {d : SL → Option Out}
    (W : World0 prog base) (ho : base.get? fa = some o) (hdata : o.data = .func (docDef name params body scope pm cd doc)) (hcd : base.CodeRec cd name)
    (hbind : ∀ vs : List Value, vs.length = ps.length → bindArgs (docDef name params body scope pm cd doc) ⟨vs, []⟩ = pure (ps.zip vs))
    (hns : (ps ++ ns).Nodup) (hkind : ∀ m, ∀ x ∈ ps ++ ns, scope.names.lookup x = some .local ∨ (scope.names.lookup x = some .cell ∧ ((cellsFrom m scope.names []).lookup x).isSome = true))
    (hcl : ∀ x : Str, (x == ("__classdict__" : Str)) = true → x ∉ ps ++ ns)
    (hco : scope.isCoroutine = false) (hgen : scope.isGenerator = false) (hk : scope.kind = .function)
    (walk : ∀ (b : Heap) (L : Addr), Grow base b → CK prog (callCx name scope cd (ps ++ ns) n fa b L) → TS1 prog w (callCx name scope cd (ps ++ ns) n fa b L) body d) :
    FunSpec0 prog w base (n + 1) (.ref fa) (funP ps.length ns.length d) := fun A E Q s g vs xs r hA hF hb hg hr hf hq => by
  unfold funP at hf
  split at hf
  · rename_i hlen
    obtain ⟨out, e1, e2⟩ := Option.bind_eq_some_iff.mp hf
    refine fun_enter (bb := s.heap) W ho hdata hcd hbind hns hkind hcl hco hgen hk hA hb hb (.refl _) hg hr hlen fun L h₁ tk C hC K S hA' kk hL hnew hfr => ?_
    subst hC
    refine (walk s.heap L hb K).go (A.deeper _) _ _ _ (initS xs ns.length) (fun _ => 0) g out hA' (Around.frames_deeper hF) S e1 fun f h' tk' ad' g' P hf => ?_
    have fin : ∀ v, RV g' r v → Q v { s with heap := h', toks := tk' } := fun v rv => hq v h' tk' g' P.st.hbase rv
    cases out with
    | next σ1 => have : f = .next := hf; subst this; cases e2; exact fin _ rfl
    | brk => cases e2
    | cont => cases e2
    | ret a σ1 => obtain ⟨v, rfl, rv⟩ := hf; cases e2; exact fin _ rv
  · cases hf
end
end Mine
-- part Rules29
set_option maxRecDepth 100000
namespace Mine
open PySem PySem.W PySem.Calls PyProof.Rows PySem.Spec PySem.SeqAt
section
variable {prog : Program} {w : World} {C : Cx} {σ σ' σ1 σ2 : SL} {ad ad' : Nat → Addr} {g g' : GP} {h h' : Heap}
/-! ## x and y, as a value -/
end
end Mine
-- part Ev
set_option maxRecDepth 100000
noncomputable section
namespace Mine
open PySem PySem.W PySem.Calls PyProof.Rows PySem.Spec PySem.SeqAt PyProof.V
/-! ## the evaluators, a step at a time -/
section
variable {σ σ1 σ2 σ3 : SL}
theorem ev_two {f : V → V → Option V} {d1 d2 : SL → Option (V × SL)} {a b r : V} (h1 : d1 σ = some (a, σ1)) (h2 : d2 σ1 = some (b, σ2)) (h : f a b = some r) : dTwo f d1 d2 σ = some (r, σ2) := by
  unfold dTwo; rw [h1]; simp [h2, h]
theorem ev_bin {op : Operator} {d1 d2 : SL → Option (V × SL)} {a b r : V} (h1 : d1 σ = some (a, σ1)) (h2 : d2 σ1 = some (b, σ2)) (h : binV op a b = some r) : dBin op d1 d2 σ = some (r, σ2) := ev_two h1 h2 h
theorem ev_item {d1 d2 : SL → Option (V × SL)} {a b r : V} (h1 : d1 σ = some (a, σ1)) (h2 : d2 σ1 = some (b, σ2)) (h : itemV a b = some r) : dItem d1 d2 σ = some (r, σ2) := ev_two h1 h2 h
theorem ev_cmp {op : CmpOp} {d1 d2 : SL → Option (V × SL)} {a b : V} {r : Bool} (h1 : d1 σ = some (a, σ1)) (h2 : d2 σ1 = some (b, σ2)) (h : cmpV op a b = some r) : dCmp op d1 d2 σ = some (.bool r, σ2) := ev_two h1 h2 (by rw [h]; rfl)
theorem ev_test {op : CmpOp} {d1 d2 : SL → Option (V × SL)} {a b : V} {r : Bool} (h1 : d1 σ = some (a, σ1)) (h2 : d2 σ1 = some (b, σ2)) (h : cmpV op a b = some r) : tCmp op d1 d2 σ = some (r, σ2) := by
  unfold tCmp tTwo; rw [h1]; simp [h2, h]
theorem ev_val {d : SL → Option (V × SL)} {a : V} {r : Bool} (h1 : d σ = some (a, σ1)) (h : truthV a = some r) : tVal d σ = some (r, σ1) := by
  unfold tVal; rw [h1]; simp [h]
theorem ev_not {d : SL → Option (Bool × SL)} {r : Bool} (h1 : d σ = some (r, σ1)) : tNot d σ = some (!r, σ1) := by
  unfold tNot; rw [h1]; rfl
theorem ev_and_t {d1 d2 : SL → Option (Bool × SL)} {r : Bool} (h1 : d1 σ = some (true, σ1)) (h2 : d2 σ1 = some (r, σ2)) : bAnd d1 d2 σ = some (r, σ2) := by
  unfold bAnd; rw [h1]; simp [h2]
theorem ev_and_f {d1 d2 : SL → Option (Bool × SL)} (h1 : d1 σ = some (false, σ1)) : bAnd d1 d2 σ = some (false, σ1) := by
  unfold bAnd; rw [h1]; simp
theorem ev_or_f {d1 d2 : SL → Option (Bool × SL)} {r : Bool} (h1 : d1 σ = some (false, σ1)) (h2 : d2 σ1 = some (r, σ2)) : bOr d1 d2 σ = some (r, σ2) := by
  unfold bOr; rw [h1]; simp [h2]
theorem ev_or_t {d1 d2 : SL → Option (Bool × SL)} (h1 : d1 σ = some (true, σ1)) : bOr d1 d2 σ = some (true, σ1) := by
  unfold bOr; rw [h1]; simp
theorem ev_nil : aNil σ = some ([], σ) := rfl
theorem ev_cons {d : SL → Option (V × SL)} {ds : SL → Option (List V × SL)} {a : V} {xs : List V} (h1 : d σ = some (a, σ1)) (h2 : ds σ1 = some (xs, σ2)) : aCons d ds σ = some (a :: xs, σ2) := by
  unfold aCons; rw [h1]; simp [h2]
theorem ev_one {d : SL → Option (V × SL)} {a : V} (h1 : d σ = some (a, σ1)) : aCons d aNil σ = some ([a], σ1) := ev_cons h1 rfl
theorem ev_pair {d e : SL → Option (V × SL)} {a b : V} (h1 : d σ = some (a, σ1)) (h2 : e σ1 = some (b, σ2)) : aCons d (aCons e aNil) σ = some ([a, b], σ2) := ev_cons h1 (ev_one h2)
theorem ev_call {f : List V → Option V} {ds : SL → Option (List V × SL)} {xs : List V} {r : V} (h1 : ds σ = some (xs, σ1)) (h : f xs = some r) : dCall f ds σ = some (r, σ1) := by
  unfold dCall; rw [h1]; simp [h]
theorem ev_list {ds : SL → Option (List V × SL)} {xs : List V} (h1 : ds σ = some (xs, σ1)) (h : xs.length ≤ big) : dList ds σ = some (.list xs, σ1) := by
  unfold dList; rw [h1]; simp [h]
theorem ev_tup {ds : SL → Option (List V × SL)} {xs : List V} (h1 : ds σ = some (xs, σ1)) (h : xs.length ≤ big) : dTup ds σ = some (.tup xs, σ1) := by
  unfold dTup; rw [h1]; simp [h]
theorem ev_meth {f : BF} {d : SL → Option (V × SL)} {ds : SL → Option (List V × SL)} {x : List Nat} {xs : List V} {r : V} (h1 : d σ = some (.str x, σ1)) (h2 : ds σ1 = some (xs, σ2)) (h : bfV f (.str x :: xs) = some r) : dMeth f d ds σ = some (r, σ2) := by
  unfold dMeth; rw [h1]; simp [h2, h]
theorem ev_if_t {t : SL → Option (Bool × SL)} {d1 d2 : SL → Option (V × SL)} (h : t σ = some (true, σ1)) : dIf t d1 d2 σ = d1 σ1 := by
  unfold dIf; rw [h]; rfl
theorem ev_if_f {t : SL → Option (Bool × SL)} {d1 d2 : SL → Option (V × SL)} (h : t σ = some (false, σ1)) : dIf t d1 d2 σ = d2 σ1 := by
  unfold dIf; rw [h]; rfl
theorem ev_asg {i : Nat} {d : SL → Option (V × SL)} {a : V} (h : d σ = some (a, σ1)) : sAsg i d σ = some (.next (σ1.set i (.val a))) := by
  unfold sAsg; rw [h]; rfl
theorem ev_ret {d : SL → Option (V × SL)} {a : V} (h : d σ = some (a, σ1)) : sRet d σ = some (.ret a σ1) := by
  unfold sRet; rw [h]; rfl
theorem ev_sif_t {t : SL → Option (Bool × SL)} {d1 d2 : SL → Option Out} (h : t σ = some (true, σ1)) : sIf t d1 d2 σ = d1 σ1 := by
  unfold sIf; rw [h]; rfl
theorem ev_sif_f {t : SL → Option (Bool × SL)} {d1 d2 : SL → Option Out} (h : t σ = some (false, σ1)) : sIf t d1 d2 σ = d2 σ1 := by
  unfold sIf; rw [h]; rfl
theorem ev_seq {d1 d2 : SL → Option Out} (h : d1 σ = some (.next σ1)) : sSeq d1 d2 σ = d2 σ1 := by unfold sSeq; rw [h]
theorem ev_seq_ret {d1 d2 : SL → Option Out} {a : V} (h : d1 σ = some (.ret a σ1)) : sSeq d1 d2 σ = some (.ret a σ1) := by unfold sSeq; rw [h]
theorem ev_for {st : V → SL → Option SL} {d : SL → Option (V × SL)} {b : SL → Option Out} {a : V} {xs : List V} (h : d σ = some (a, σ1)) (h2 : iterV a = some xs) : sFor st d b σ = loopV st b xs σ1 := by
  unfold sFor; rw [h]; simp [h2]
theorem ev_loop {st : V → SL → Option SL} {b : SL → Option Out} {x : V} {xs : List V} (h : st x σ = some σ1) (h2 : b σ1 = some (.next σ2)) : loopV st b (x :: xs) σ = loopV st b xs σ2 := by
  rw [loopV, h]; simp [h2]
theorem ev_nextc {d1 d2 : SL → Option Out} {r : Option Out} (h : d1 σ = some (.next σ1)) (h2 : d2 σ1 = r) : sSeq d1 d2 σ = r := by rw [ev_seq h, h2]
theorem ev_seq_brk {d1 d2 : SL → Option Out} (h : d1 σ = some (.brk σ1)) : sSeq d1 d2 σ = some (.brk σ1) := by unfold sSeq; rw [h]
theorem ev_while_f {t : SL → Option (Bool × SL)} {d e : SL → Option Out} {k : Nat} (h : t σ = some (false, σ1)) : sWhile t d e (k + 1) σ = e σ1 := by
  rw [sWhile, h]; rfl
theorem ev_while_t {t : SL → Option (Bool × SL)} {d e : SL → Option Out} {k : Nat} (h : t σ = some (true, σ1)) (h2 : d σ1 = some (.next σ2)) : sWhile t d e (k + 1) σ = sWhile t d e k σ2 := by
  rw [sWhile, h]; simp [h2]
theorem ev_while_b {t : SL → Option (Bool × SL)} {d e : SL → Option Out} {k : Nat} (h : t σ = some (true, σ1)) (h2 : d σ1 = some (.brk σ2)) : sWhile t d e (k + 1) σ = some (.next σ2) := by
  rw [sWhile, h]; simp [h2]
end
end Mine
end
-- part Y2a
set_option maxRecDepth 100000
noncomputable section
namespace Mine
open PySem PySem.W PySem.Calls PyProof.Rows PySem.Spec PySem.SeqAt PyProof.V
/-! ## law 2: what the walk knows of the heap -/
structure F3 (w : World) (b : Heap) : Prop where
  wd : World0 pw b
  kin : (KF w.params).In b
  g : ∃ mg, b.Ns mainGlobals mg
  bl : ∃ mb, b.Ns builtinsNs mb ∧ ∀ x : Str, x ≠ "__name__" → mb x = bootBuiltins x
theorem F3.up {w : World} {b b' : Heap} (F : F3 w b) (k : Grow b b') : F3 w b' :=
  ⟨F.wd.up k, F.kin.keeps k, let ⟨m, e⟩ := F.g; ⟨m, e.keeps k⟩, let ⟨m, e, r⟩ := F.bl; ⟨m, e.keeps k, r⟩⟩
theorem F3.gl {w : World} {b : Heap} (F : F3 w b) {x : Str} {v : Value} (e : nsIn (KF w.params) mainGlobals x = some (some v)) : GV b x v := by
  obtain ⟨mg, hg⟩ := F.g
  obtain ⟨mb, hb, _⟩ := F.bl
  exact ⟨mg, mb, hg, hb, .inl (mg_of F.kin hg e)⟩
theorem F3.gb {w : World} {b : Heap} (F : F3 w b) {x : Str} {v : Value} (e : nsIn (KF w.params) mainGlobals x = some none) (e2 : bootBuiltins x = some v) (hx : x ≠ "__name__") : GV b x v := by
  obtain ⟨mg, hg⟩ := F.g
  obtain ⟨mb, hb, hr⟩ := F.bl
  exact ⟨mg, mb, hg, hb, .inr ⟨mg_none_of F.kin hg e, (hr x hx).trans e2⟩⟩
section
variable {w : World} {b : Heap}
theorem g_ord (F : F3 w b) : GV b "ord" BF.ord.val := F.gb (by kernel_rfl) (by kernel_rfl) (by decide +kernel)
theorem g_chr (F : F3 w b) : GV b "chr" BF.chr.val := F.gb (by kernel_rfl) (by kernel_rfl) (by decide +kernel)
theorem g_len (F : F3 w b) : GV b "len" BF.len.val := F.gb (by kernel_rfl) (by kernel_rfl) (by decide +kernel)
theorem g_range (F : F3 w b) : GV b "range" BF.range.val := F.gb (by kernel_rfl) (by kernel_rfl) (by decide +kernel)
theorem g_list (F : F3 w b) : GV b "list" BF.list.val := F.gb (by kernel_rfl) (by kernel_rfl) (by decide +kernel)
theorem g_sum (F : F3 w b) : GV b "sum" BF.sum.val := F.gb (by kernel_rfl) (by kernel_rfl) (by decide +kernel)
theorem g_enumerate (F : F3 w b) : GV b "enumerate" (.type "enumerate") := F.gb (by kernel_rfl) (by kernel_rfl) (by decide +kernel)
theorem g_str (F : F3 w b) : GV b "str" BF.str.val := F.gb (by kernel_rfl) (by kernel_rfl) (by decide +kernel)
theorem g_b1 (F : F3 w b) : GV b "b1_set" (.ref 61) := F.gl (by kernel_rfl)
theorem g_b3 (F : F3 w b) : GV b "b3_exceptions" (.ref 72) := F.gl (by kernel_rfl)
theorem g_EM (F : F3 w b) : ∃ t, GV b "ELLIPSIS_MARKER" (.str (mkS [46, 46, 46]) t) := ⟨238, F.gl (by kernel_rfl)⟩
theorem g_par (F : F3 w b) : GV b "parse257" (.ref 46) := F.gl (by kernel_rfl)
theorem g_ell (F : F3 w b) : GV b "_ellipsis_match" (.ref 53) := F.gl (by kernel_rfl)
theorem g_in (F : F3 w b) : GV b "in_table_b1" (.ref 71) := F.gl (by kernel_rfl)
theorem g_map (F : F3 w b) : GV b "map_table_b3" (.ref 117) := F.gl (by kernel_rfl)
theorem g_hid (F : F3 w b) : GV b "_law_hidden" (.ref 124) := F.gl (by kernel_rfl)
theorem g_typ (F : F3 w b) : GV b "_law_typed" (.ref 131) := F.gl (by kernel_rfl)
theorem g_row (F : F3 w b) : GV b "_law_row" (.ref 138) := F.gl (by kernel_rfl)
theorem g_heard (F : F3 w b) : GV b "_law_heard" (.ref 143) := F.gl (by kernel_rfl)
theorem g_take (F : F3 w b) : GV b "_law_takings" (.ref 150) := F.gl (by kernel_rfl)
theorem g_told (F : F3 w b) : GV b "_law_told" (.ref 157) := F.gl (by kernel_rfl)
theorem g_exc (F : F3 w b) : GV b "error_reply" (.ref 37) := F.gl (by kernel_rfl)
theorem find_str (P : Params) : findIn (KF P) (.ref 37) "__str__" = some (some (.builtin "BaseException.__str__")) := by kernel_rfl
noncomputable def nsc_es (P : Params) : Array DictEntry := match (o36_4 P).data with | .dict es _ => es | _ => #[]
noncomputable def nsc_n (P : Params) : Nat := match (o36_4 P).data with | .dict _ n => n | _ => 0
theorem nsc_keys (P : Params) : (nsc_es P).toList.all (fun e => match e.key with | .str _ _ => true | _ => false) = true := by kernel_rfl
theorem nsc_at (F : F3 w b) : ∃ m, b.Ns 36 m ∧ m "__init__" = none := by
  refine ⟨nsFind (nsc_es w.params), ⟨o36_4 w.params, nsc_es w.params, nsc_n w.params, F.kin 36 (o36_4 w.params) rfl, rfl, fun e he => ?_, fun x => rfl⟩, by kernel_rfl⟩
  have := List.all_eq_true.mp (nsc_keys w.params) e (by simpa using he)
  split at this
  · rename_i x t q; exact ⟨x, t, q⟩
  · cases this
noncomputable def nse_es (P : Params) : Array DictEntry := match (o23_3 P).data with | .dict es _ => es | _ => #[]
noncomputable def nse_n (P : Params) : Nat := match (o23_3 P).data with | .dict _ n => n | _ => 0
theorem nse_keys (P : Params) : (nse_es P).toList.all (fun e => match e.key with | .str _ _ => true | _ => false) = true := by kernel_rfl
theorem nse_at (F : F3 w b) : ∃ m, b.Ns 23 m ∧ m "__init__" = none := by
  refine ⟨nsFind (nse_es w.params), ⟨o23_3 w.params, nse_es w.params, nse_n w.params, F.kin 23 (o23_3 w.params) rfl, rfl, fun e he => ?_, fun x => rfl⟩, by kernel_rfl⟩
  have := List.all_eq_true.mp (nse_keys w.params) e (by simpa using he)
  split at this
  · rename_i x t q; exact ⟨x, t, q⟩
  · cases this
theorem own_exc (F : F3 w b) : OwnExc b 37 := by
  obtain ⟨m, h1, h2⟩ := nsc_at F
  obtain ⟨m0, h3, h4⟩ := nse_at F
  exact ⟨⟨_, _, _, _, _, _, _, _, _, _, _, _, _, _, _, _, m⟩, F.kin 37 (o37_4 w.params) rfl, h1, h2, .own (F.kin 24 (o24_4 w.params) rfl) h3 h4 .base⟩
end
end Mine
end
-- part Y2s
set_option maxRecDepth 100000
noncomputable section
namespace Mine
open PySem PySem.W PySem.Calls PyProof.Rows PySem.Spec PySem.SeqAt PyProof.V
section
variable {w : World} {b : Heap}
/-! ## the set of the module -/
noncomputable def sB1 : Int → Bool := fun k => [173, 847, 6150, 6155, 6156, 6157, 8203, 8204, 8205, 8288, 65279].contains k || (decide (65024 ≤ k) && decide (k < 65040))
noncomputable def setEs : Obj → Array (Int × Value)
  | ⟨_, _, .set es _ _, _⟩ => es
  | _ => #[]
noncomputable def setEp : Obj → Nat
  | ⟨_, _, .set _ ep _, _⟩ => ep
  | _ => 0
noncomputable def setT (P : Params) : Obj → SetTable
  | ⟨_, _, .set _ _ t, _⟩ => t
  | _ => (match (o61_10 P).data with | .set _ _ t => t | _ => default)
noncomputable def intOf : Value → Int
  | .int i _ => i
  | _ => 0
noncomputable abbrev L3 : List Int := [65024, 65025, 65026, 65027, 65028, 65029, 65030, 65031, 65032, 65033, 65034, 65035, 65036, 65037, 65038, 65039, 173, 847, 6150, 6155, 6156, 6157, 8203, 8204, 8205, 8288, 65279]
noncomputable def el11 : List Int := [173, 847, 6150, 6155, 6156, 6157, 8203, 8204, 8205, 8288, 65279]
theorem L3_is : L3 = ((List.range 16).map fun (j : Nat) => 65024 + (j : Int)) ++ el11 := rfl
theorem in_L3 (k : Int) : sB1 k = true ↔ k ∈ L3 := by
  have e : sB1 k = (el11.contains k || (decide (65024 ≤ k) && decide (k < 65040))) := rfl
  rw [e, L3_is, List.mem_append, List.mem_map, Bool.or_eq_true, Bool.and_eq_true, decide_eq_true_eq, decide_eq_true_eq, List.contains_eq_mem, decide_eq_true_eq]
  constructor
  · rintro (h | ⟨h1, h2⟩)
    · exact .inr h
    · exact .inl ⟨(k - 65024).toNat, List.mem_range.mpr (by omega), by omega⟩
  · rintro (⟨j, hj, rfl⟩ | h)
    · have := List.mem_range.mp hj
      exact .inr ⟨by omega, by omega⟩
    · exact .inl h
theorem es_ok (P : Params) : ((setEs (o61_10 P)).toList.all fun e => (match e.2 with | .int i _ => e.1 == hashInt i && e.2.scannable | _ => false)) = true := by kernel_rfl
theorem es_keys (P : Params) : (((setEs (o61_10 P)).toList.all fun e => L3.contains (intOf e.2)) && (L3.all fun k => ((setEs (o61_10 P)).toList.map fun e => intOf e.2).contains k)) = true := by kernel_rfl
theorem set_b1 (F : F3 w b) : b.SetOf (intKind pw w) 61 sB1 27 := by
  have ok := es_ok w.params
  have keys := es_keys w.params
  rw [Bool.and_eq_true] at keys
  have shape : ∀ e ∈ (setEs (o61_10 w.params)).toList, ∃ i t, e.2 = .int i t ∧ e.1 = hashInt i ∧ e.2.scannable = true := fun e he => by
    have := List.all_eq_true.mp ok e he
    split at this
    · rename_i i t q
      rw [Bool.and_eq_true, beq_iff_eq] at this
      exact ⟨i, t, q, this.1, this.2⟩
    · cases this
  refine ⟨o61_10 w.params, setEs (o61_10 w.params), setEp (o61_10 w.params), setT w.params (o61_10 w.params), F.kin 61 (o61_10 w.params) rfl, ⟨rfl, rfl, rfl⟩, rfl, fun e he => ?_, fun k => ?_, ?_, ?_, ?_⟩
  · obtain ⟨i, t, q, h1, h2⟩ := shape e he
    exact ⟨⟨i, by rw [q]; exact intKind_is pw w i t, h1⟩, h2⟩
  · rw [in_L3]
    constructor
    · intro h
      have := List.all_eq_true.mp keys.2 k h
      rw [List.contains_eq_mem, decide_eq_true_eq, List.mem_map] at this
      obtain ⟨e, he, hk⟩ := this
      obtain ⟨i, t, q, _, _⟩ := shape e he
      rw [q] at hk
      have : i = k := hk
      subst this
      exact ⟨e, he, by rw [q]; exact intKind_is pw w i t⟩
    · rintro ⟨e, he, hk⟩
      obtain ⟨i, t, q, _, _⟩ := shape e he
      rw [q] at hk
      have : i = k := by
        have h2 : (i == k) = true := hk
        exact eq_of_beq h2
      subst this
      have h3 := List.all_eq_true.mp keys.1 e he
      rw [List.contains_eq_mem, decide_eq_true_eq, q] at h3
      exact h3
  · have e : (setEs (o61_10 w.params)).size = 27 := by kernel_rfl
    rw [e]; decide
  · kernel_rfl
  · kernel_rfl
end
end Mine
end
-- part Y2t
set_option maxRecDepth 100000
noncomputable section
namespace Mine
open PySem PySem.W PySem.Calls PyProof.Rows PySem.Spec PySem.SeqAt PyProof.V
section
variable {w : World} {b : Heap}
/-! ## the dict of the module -/
noncomputable def D3 : List (PyData × PyData) := items.map fun p => (.int p.1, .str p.2)
noncomputable def okE : List DictEntry → List (Int × Str) → Bool
  | [], [] => true
  | e :: es, p :: ps => (match e.key, e.val with | .int i _, .str x _ => i == p.1 && x == p.2 && e.hash == hashInt i | _, _ => false) && okE es ps
  | _, _ => false
noncomputable def rise : List Int → Bool
  | a :: c :: r => decide (a < c) && rise (c :: r)
  | _ => true
theorem rise_lt : ∀ (l : List Int) (a : Int), rise (a :: l) = true → ∀ x ∈ l, a < x
  | [], _, _, x, hx => by cases hx
  | c :: r, a, h, x, hx => by
    rw [rise, Bool.and_eq_true, decide_eq_true_eq] at h
    rcases List.mem_cons.mp hx with rfl | hx
    · exact h.1
    · exact Int.lt_trans h.1 (rise_lt r c h.2 x hx)
theorem rise_nodup : ∀ l : List Int, rise l = true → l.Nodup
  | [], _ => List.nodup_nil
  | [a], _ => by simp
  | a :: c :: r, h => by
    have h2 := h
    rw [rise, Bool.and_eq_true] at h2
    refine List.nodup_cons.mpr ⟨fun hm => ?_, rise_nodup (c :: r) h2.2⟩
    exact Int.lt_irrefl _ (rise_lt _ _ h a hm)
noncomputable def kvsOf (es : List DictEntry) : List (Int × Value) := es.map fun e => (intOf e.key, e.val)
theorem okE_all : ∀ (es : List DictEntry) (ps : List (Int × Str)), okE es ps = true →
    (∀ e ∈ es, ∃ k, (intKind pw w).is k e.key = true ∧ e.hash = (intKind pw w).hash k) ∧ Pairs (intKind pw w) es (kvsOf es) ∧ FlatPairs PyData.int (kvsOf es) (ps.map fun p => (PyData.int p.1, PyData.str p.2)) ∧ (kvsOf es).map (·.1) = ps.map (·.1)
  | [], [], _ => ⟨fun e he => (by cases he), .nil, .nil, rfl⟩
  | [], _ :: _, h => by cases h
  | _ :: _, [], h => by cases h
  | e :: es, p :: ps, h => by
    rw [okE, Bool.and_eq_true] at h
    obtain ⟨i1, i2, i3, i4⟩ := okE_all es ps h.2
    have h1 := h.1
    split at h1
    · rename_i i t x u hk hv
      simp only [Bool.and_eq_true, beq_iff_eq] at h1
      obtain ⟨⟨rfl, rfl⟩, hh⟩ := h1
      refine ⟨fun e' he' => ?_, .cons (by show (intKind pw w).is (intOf e.key) e.key = true; rw [hk]; exact intKind_is pw w p.1 t) rfl i2, ?_, ?_⟩
      · rcases List.mem_cons.mp he' with rfl | he'
        · exact ⟨p.1, by rw [hk]; exact intKind_is pw w _ t, hh⟩
        · exact i1 e' he'
      · have := FlatPairs.cons (enc := PyData.int) (k := p.1) (v := e.val) (d := .str p.2) (by rw [hv]; exact Flat.str _ _) i3
        show FlatPairs PyData.int ((intOf e.key, e.val) :: kvsOf es) _
        rw [hk]
        exact this
      · show intOf e.key :: (kvsOf es).map (·.1) = p.1 :: ps.map (·.1)
        rw [i4, hk]
        rfl
    · cases h1
theorem main_ok : okE mainE items = true := by kernel_rfl
theorem items_rise : rise (items.map (·.1)) = true := by kernel_rfl
theorem tab_b3 (F : F3 w b) : TabAt (intKind pw w) PyData.int b 72 D3 := by
  obtain ⟨i1, i2, i3, i4⟩ := okE_all (w := w) mainE items main_ok
  refine ⟨by decide, kvsOf mainE, ⟨o72_12 w.params, mainE.toArray, mainE.length, F.kin 72 (o72_12 w.params) rfl, ⟨rfl, rfl, rfl⟩, rfl, fun e he => i1 e (by simpa using he), i2, ?_⟩, i3⟩
  rw [i4]
  exact rise_nodup _ items_rise
end
end Mine
end
-- part Y2b
set_option maxRecDepth 100000
noncomputable section
namespace Mine
open PySem PySem.W PySem.Calls PyProof.Rows PySem.Spec PySem.SeqAt PyProof.V
section
variable {w : World} {b : Heap}
/-! ## the module's tables -/
noncomputable def tB3 (k : Int) : Option (List Nat) := (items.find? fun p => decide (p.1 = k)).map fun p => p.2.cps.toList
theorem look_items : ∀ (l : List (Int × Str)) (k : Int), Spec.lookup (.int k) (l.map fun p => (PyData.int p.1, PyData.str p.2)) = ((l.find? fun p => decide (p.1 = k)).map fun p => p.2.cps.toList).map fun x => .str (mkS x)
  | [], k => by simp [Spec.lookup]
  | (i, x) :: r, k => by
    have ih := look_items r k
    simp only [List.map_cons, List.find?_cons]
    by_cases h : i = k
    · subst h
      simp [Spec.lookup, Spec.same, mkS]
    · simp only [decide_eq_false h]
      rw [← ih]
      simp [Spec.lookup, Spec.same, h]
theorem tab_b3_is (k : Int) : Spec.lookup (.int k) D3 = (tB3 k).map fun x => .str (mkS x) := look_items items k
/-! ## in_table_b1 -/
/-! in_table_b1: 0 code -/
noncomputable abbrev dIn : SL → Option Out := sSeq (sRet (dInS sB1 (dCall (bfV .ord) (aCons (dLoc 0) (aNil))))) (sNil)
theorem wIn (F : F3 w b) : FunSpec pw w b 1 (.ref 71) (funP 1 0 (dIn)) :=
  fun_spec (name := "in_table_b1") (params := stArgs (st 9)) (body := stBody (st 9)) (scope := stScope (st 9)) (cd := .ref 70) (ps := ["code"]) (ns := []) (n := 0)
    F.wd (F.kin 71 (o71_11 w.params) rfl) rfl ⟨70, _, _, _, rfl, F.kin 70 (o70_11 w.params) rfl, rfl, rfl⟩ (fun vs h => by obtain ⟨a, rfl⟩ := len_one h; rfl) (by decide +kernel) (all_loc (by decide +kernel)) (no_cd (by decide +kernel)) rfl rfl rfl
    fun b' L k K => (TS_cons (TX_ret (TE_inS K.ok (by kernel_rfl) (by kernel_rfl) (g_b1 (F.up k)) (set_b1 (F.up k)) (TE_bf K.ok (by kernel_rfl) (by kernel_rfl) (g_ord (F.up k)) (TA_cons (TE_loc K.ok (by kernel_rfl) (by kernel_rfl)) TA_nil (star_cons rfl))))) TS_nil)

noncomputable def pInS : List Nat → Option V
  | [c] => some (.bool (sB1 c))
  | _ => none
noncomputable def pIn : List V → Option V := ar1 (onS pInS)
theorem sIn (F : F3 w b) : FunSpec pw w b 1 (.ref 71) pIn := (wIn F).to fun xs r h => by
  obtain ⟨a, rfl, hq⟩ := ar1_some h; replace h := hq; clear hq
  obtain ⟨x, rfl, hq⟩ := onS_some h; replace h := hq; clear hq
  unfold pInS at h
  split at h
  · cases h; rfl
  · cases h
/-! ## map_table_b3 -/
/-! map_table_b3: 0 code, 1 r -/
noncomputable abbrev dMap : SL → Option Out := sSeq (sAsg 1 (dGet tB3 (dCall (bfV .ord) (aCons (dLoc 0) (aNil))))) (sSeq (sIf (tCmp .IsNot (dLoc 1) (dConst .none)) (sSeq (sRet (dLoc 1)) (sNil)) (sNil)) (sSeq (sRet (dMeth .lower (dLoc 0) (aNil))) (sNil)))
theorem wMap (F : F3 w b) : FunSpec pw w b 1 (.ref 117) (funP 1 1 (dMap)) :=
  fun_spec (name := "map_table_b3") (params := stArgs (st 11)) (body := stBody (st 11)) (scope := stScope (st 11)) (cd := .ref 116) (ps := ["code"]) (ns := ["r"]) (n := 0)
    F.wd (F.kin 117 (o117_13 w.params) rfl) rfl ⟨116, _, _, _, rfl, F.kin 116 (o116_13 w.params) rfl, rfl, rfl⟩ (fun vs h => by obtain ⟨a, rfl⟩ := len_one h; rfl) (by decide +kernel) (all_loc (by decide +kernel)) (no_cd (by decide +kernel)) rfl rfl rfl
    fun b' L k K => (TS_cons (TX_asg K.ok ⟨(by kernel_rfl), .inl (by kernel_rfl)⟩ (TE_get K.ok (by kernel_rfl) (by kernel_rfl) (g_b3 (F.up k)) (tab_b3 (F.up k)) tab_b3_is (TE_bf K.ok (by kernel_rfl) (by kernel_rfl) (g_ord (F.up k)) (TA_cons (TE_loc K.ok (by kernel_rfl) (by kernel_rfl)) TA_nil (star_cons rfl))) (star_cons rfl) (by kernel_rfl) (by kernel_rfl)) (by kernel_rfl)) (TS_cons (TX_if (TT_cmp (TE_loc K.ok (by kernel_rfl) (by kernel_rfl)) TE_none (by kernel_rfl)) (TS_cons (TX_ret (TE_loc K.ok (by kernel_rfl) (by kernel_rfl))) TS_nil) TS_nil) (TS_cons (TX_ret (TE_meth meth_lower (TE_loc K.ok (by kernel_rfl) (by kernel_rfl)) TA_nil (by kernel_rfl) (by kernel_rfl) (by decide))) TS_nil)))

noncomputable def mapB3 (c : Nat) : List Nat := match tB3 c with
  | some x => x
  | none => lowV [c]
noncomputable def pMap : List V → Option V
  | [.str [c]] => some (.str (mapB3 c))
  | _ => none
theorem big1 : 1 ≤ big := by unfold big; decide
theorem sMap (F : F3 w b) : FunSpec pw w b 1 (.ref 117) pMap := (wMap F).to fun xs r h => by
  unfold pMap at h
  split at h
  · rename_i c
    cases h
    unfold mapB3
    cases ht : tB3 (c : Int) with
    | some x => simp [funP, funV, initS, dMap, sSeq, sAsg, sIf, sRet, sNil, dGet, dCall, aCons, aNil, dLoc, dConst, tCmp, tTwo, cmpV, eqV, neV, ltV, leV, gtV, geV, isBool, isV, isnV, inV, ninStr, ninV, onI, onS, onB, onL, onN, bfV, ar1, ar2, lenB, ordB, rangeB, listB, findA, findB, onI, onS, onL, outV, ht]
    | none => simp [funP, funV, initS, dMap, sSeq, sAsg, sIf, sRet, sNil, dGet, dCall, dMeth, aCons, aNil, dLoc, dConst, tCmp, tTwo, cmpV, eqV, neV, ltV, leV, gtV, geV, isBool, isV, isnV, inV, ninStr, ninV, onI, onS, onB, onL, onN, bfV, ar1, ar2, lenB, ordB, rangeB, listB, findA, findB, onI, onS, onL, outV, ht, big1]
  · cases h
end
end Mine
end
-- part Y2c
set_option maxRecDepth 100000
noncomputable section
namespace Mine
open PySem PySem.W PySem.Calls PyProof.Rows PySem.Spec PySem.SeqAt PyProof.V
section
variable {w : World} {b : Heap}
/-! ## parse257, after its front -/
noncomputable def unq : List Nat → List Nat
  | [] => []
  | [c] => if c = 34 then [] else [c]
  | c :: d :: r => if c = 34 then (if d = 34 then 34 :: unq r else []) else c :: unq (d :: r)
theorem item_at {x r : List Nat} {c : Nat} {i : Nat} (hx : x.length ≤ big) (h : x.drop i = c :: r) : itemV (.str x) (.int i) = some (.str [c]) := by
  have hlt : i < x.length := by
    have := congrArg List.length h
    rw [List.length_drop, List.length_cons] at this
    omega
  have hc : x[i]? = some c := by
    have := congrArg (fun l => l[0]?) h
    simpa using this
  show (if x.length ≤ big then (idx x.length (i : Int)).bind fun k => some (V.str [x.getD k 0]) else none) = _
  rw [if_pos hx]
  have : idx x.length (i : Int) = some i := by
    unfold idx
    rw [if_pos (by omega), if_pos (by omega)]
    simp
  rw [this]
  simp [List.getD_eq_getElem?_getD, hc]
/-! parse257: 0 resp, 1 dirname, 2 i, 3 n, 4 c -/
noncomputable abbrev dPar (fuel : Nat) : SL → Option Out := sSeq (sIf (tCmp .NotEq (dSlice (dLoc 0) pNone (pSome (dConst (.int 3))) pNone) (dConst (.str [50, 53, 55]))) (sSeq (sStuck) (sNil)) (sNil)) (sSeq (sIf (tCmp .NotEq (dSlice (dLoc 0) (pSome (dConst (.int 3))) (pSome (dConst (.int 5))) pNone) (dConst (.str [32, 34]))) (sSeq (sRet (dConst (.str []))) (sNil)) (sNil)) (sSeq (sAsg 1 (dConst (.str []))) (sSeq (sAsg 2 (dConst (.int 5))) (sSeq (sAsg 3 (dCall (bfV .len) (aCons (dLoc 0) (aNil)))) (sSeq (sWhile (tCmp .Lt (dLoc 2) (dLoc 3)) (sSeq (sAsg 4 (dItem (dLoc 0) (dLoc 2))) (sSeq (sAsg 2 (dBin .Add (dLoc 2) (dConst (.int 1)))) (sSeq (sIf (tCmp .Eq (dLoc 4) (dConst (.str [34]))) (sSeq (sIf (bOr (tCmp .GtE (dLoc 2) (dLoc 3)) (bOr (tCmp .NotEq (dItem (dLoc 0) (dLoc 2)) (dConst (.str [34]))) (bFalse))) (sSeq (sBrk) (sNil)) (sNil)) (sSeq (sAsg 2 (dBin .Add (dLoc 2) (dConst (.int 1)))) (sNil))) (sNil)) (sSeq (sAsg 1 (dBin .Add (dLoc 1) (dLoc 4))) (sNil))))) sNil fuel) (sSeq (sRet (dLoc 1)) (sNil)))))))
theorem wPar (F : F3 w b) (fuel : Nat) : FunSpec pw w b 1 (.ref 46) (funP 1 4 (dPar fuel)) :=
  fun_spec (name := "parse257") (params := stArgs (st 3)) (body := stBody (st 3)) (scope := stScope (st 3)) (cd := .ref 45) (ps := ["resp"]) (ns := ["dirname", "i", "n", "c"]) (n := 0)
    F.wd (F.kin 46 (o46_5 w.params) rfl) rfl ⟨45, _, _, _, rfl, F.kin 45 (o45_5 w.params) rfl, rfl, rfl⟩ (fun vs h => by obtain ⟨a, rfl⟩ := len_one h; rfl) (by decide +kernel) (all_loc (by decide +kernel)) (no_cd (by decide +kernel)) rfl rfl rfl
    fun b' L k K => (TS_cons (TX_if (TT_cmp (TE_slice (TE_loc K.ok (by kernel_rfl) (by kernel_rfl)) TP_none (TP_some TE_int) TP_none) (TE_str (by kernel_rfl)) (by kernel_rfl)) (TS_cons TX_stuck TS_nil) TS_nil) (TS_cons (TX_if (TT_cmp (TE_slice (TE_loc K.ok (by kernel_rfl) (by kernel_rfl)) (TP_some TE_int) (TP_some TE_int) TP_none) (TE_str (by kernel_rfl)) (by kernel_rfl)) (TS_cons (TX_ret (TE_str (by kernel_rfl))) TS_nil) TS_nil) (TS_cons (TX_asg K.ok ⟨(by kernel_rfl), .inl (by kernel_rfl)⟩ (TE_str (by kernel_rfl)) (by kernel_rfl)) (TS_cons (TX_asg K.ok ⟨(by kernel_rfl), .inl (by kernel_rfl)⟩ TE_int (by kernel_rfl)) (TS_cons (TX_asg K.ok ⟨(by kernel_rfl), .inl (by kernel_rfl)⟩ (TE_bf K.ok (by kernel_rfl) (by kernel_rfl) (g_len (F.up k)) (TA_cons (TE_loc K.ok (by kernel_rfl) (by kernel_rfl)) TA_nil (star_cons rfl))) (by kernel_rfl)) (TS_cons (TX_while (TT_cmp (TE_loc K.ok (by kernel_rfl) (by kernel_rfl)) (TE_loc K.ok (by kernel_rfl) (by kernel_rfl)) (by kernel_rfl)) (TS_cons (TX_asg K.ok ⟨(by kernel_rfl), .inl (by kernel_rfl)⟩ (TE_item (TE_loc K.ok (by kernel_rfl) (by kernel_rfl)) (TE_loc K.ok (by kernel_rfl) (by kernel_rfl))) (by kernel_rfl)) (TS_cons (TX_asg K.ok ⟨(by kernel_rfl), .inl (by kernel_rfl)⟩ (TE_bin K (TE_loc K.ok (by kernel_rfl) (by kernel_rfl)) TE_int) (by kernel_rfl)) (TS_cons (TX_if (TT_cmp (TE_loc K.ok (by kernel_rfl) (by kernel_rfl)) (TE_str (by kernel_rfl)) (by kernel_rfl)) (TS_cons (TX_if (TT_bool (TB_or (TT_cmp (TE_loc K.ok (by kernel_rfl) (by kernel_rfl)) (TE_loc K.ok (by kernel_rfl) (by kernel_rfl)) (by kernel_rfl)) (TB_or (TT_cmp (TE_item (TE_loc K.ok (by kernel_rfl) (by kernel_rfl)) (TE_loc K.ok (by kernel_rfl) (by kernel_rfl))) (TE_str (by kernel_rfl)) (by kernel_rfl)) TB_or0))) (TS_cons TX_brk TS_nil) TS_nil) (TS_cons (TX_asg K.ok ⟨(by kernel_rfl), .inl (by kernel_rfl)⟩ (TE_bin K (TE_loc K.ok (by kernel_rfl) (by kernel_rfl)) TE_int) (by kernel_rfl)) TS_nil)) TS_nil) (TS_cons (TX_asg K.ok ⟨(by kernel_rfl), .inl (by kernel_rfl)⟩ (TE_bin K (TE_loc K.ok (by kernel_rfl) (by kernel_rfl)) (TE_loc K.ok (by kernel_rfl) (by kernel_rfl))) (by kernel_rfl)) TS_nil)))) TS_nil fuel) (TS_cons (TX_ret (TE_loc K.ok (by kernel_rfl) (by kernel_rfl))) TS_nil)))))))

noncomputable abbrev parT : SL → Option (Bool × SL) := tCmp .Lt (dLoc 2) (dLoc 3)
noncomputable abbrev parB : SL → Option Out := sSeq (sAsg 4 (dItem (dLoc 0) (dLoc 2))) (sSeq (sAsg 2 (dBin .Add (dLoc 2) (dConst (.int 1)))) (sSeq (sIf (tCmp .Eq (dLoc 4) (dConst (.str [34]))) (sSeq (sIf (bOr (tCmp .GtE (dLoc 2) (dLoc 3)) (bOr (tCmp .NotEq (dItem (dLoc 0) (dLoc 2)) (dConst (.str [34]))) (bFalse))) (sSeq (sBrk) (sNil)) (sNil)) (sSeq (sAsg 2 (dBin .Add (dLoc 2) (dConst (.int 1)))) (sNil))) (sNil)) (sSeq (sAsg 1 (dBin .Add (dLoc 1) (dLoc 4))) (sNil))))
theorem par_lt {x : List Nat} {i : Nat} (h : i < x.length) (s1 s4 : Slot) : parT [.val (.str x), s1, .val (.int (i : Int)), .val (.int (x.length : Int)), s4] = some (true, [.val (.str x), s1, .val (.int (i : Int)), .val (.int (x.length : Int)), s4]) :=
  ev_test rfl rfl (by show some (decide ((i : Int) < (x.length : Int))) = _; rw [decide_eq_true (Int.ofNat_lt.mpr h)])
theorem par_end (x : List Nat) (acc : List Nat) (c : Slot) (fuel : Nat) (hf : 0 < fuel) : sWhile parT parB sNil fuel [.val (.str x), .val (.str acc), .val (.int (x.length : Int)), .val (.int (x.length : Int)), c] = some (.next [.val (.str x), .val (.str acc), .val (.int (x.length : Int)), .val (.int (x.length : Int)), c]) := by
  obtain ⟨fuel, rfl⟩ : ∃ k, fuel = k + 1 := ⟨fuel - 1, by omega⟩
  exact ev_while_f (ev_test rfl rfl (by show some (decide ((x.length : Int) < (x.length : Int))) = _; rw [decide_eq_false (Int.lt_irrefl _)]))
theorem add_ok {a c : List Nat} (h : a.length + c.length ≤ 1000000) : binV .Add (.str a) (.str c) = some (.str (a ++ c)) := if_pos h
theorem par_eq (a c : Nat) : cmpV .Eq (.str [a]) (.str [c]) = some (decide (a = c)) := by
  show some ([a] == [c]) = _
  by_cases h : a = c
  · subst h; simp
  · rw [decide_eq_false h, beq_eq_false_iff_ne.mpr fun q => h (List.cons.inj q).1]
theorem par_ne (a c : Nat) : cmpV .NotEq (.str [a]) (.str [c]) = some (decide (a ≠ c)) := by
  show some ([a] != [c]) = _
  by_cases h : a = c
  · subst h; simp
  · rw [decide_eq_true h, bne_iff_ne.mpr fun q => h (List.cons.inj q).1]
theorem par_ge (i n : Int) : cmpV .GtE (.int i) (.int n) = some (decide (n ≤ i)) := rfl
theorem par_inc (i : Nat) : binV .Add (.int (i : Int)) (.int 1) = some (.int ((i + 1 : Nat) : Int)) := rfl
section
variable {x acc : List Nat} {i c0 : Nat} {c : Slot} {it : itemV (.str x) (.int (i : Int)) = some (.str [c0])}
/-- an end mark -/
theorem par_stop (it : itemV (.str x) (.int (i : Int)) = some (.str [34])) (h : x.length ≤ i + 1 ∨ ∃ d, itemV (.str x) (.int ((i + 1 : Nat) : Int)) = some (.str [d]) ∧ d ≠ 34) :
    parB [.val (.str x), .val (.str acc), .val (.int (i : Int)), .val (.int (x.length : Int)), c] = some (.brk [.val (.str x), .val (.str acc), .val (.int ((i + 1 : Nat) : Int)), .val (.int (x.length : Int)), .val (.str [34])]) := by
  refine ev_nextc (ev_asg (ev_item rfl rfl it)) (ev_nextc (ev_asg (ev_bin rfl rfl (par_inc i))) (ev_seq_brk ((ev_sif_t (ev_test rfl rfl (par_eq 34 34))).trans (ev_seq_brk ((ev_sif_t ?_).trans (ev_seq_brk rfl))))))
  by_cases h1 : x.length ≤ i + 1
  · exact ev_or_t (ev_test rfl rfl ((par_ge _ _).trans (by rw [decide_eq_true (Int.ofNat_le.mpr h1)])))
  · rcases h with h | ⟨d, it1, hd⟩
    · exact absurd h h1
    · exact ev_or_f (ev_test rfl rfl ((par_ge _ _).trans (by rw [decide_eq_false fun q => h1 (Int.ofNat_le.mp q)]))) (ev_or_t (ev_test (ev_item rfl rfl it1) rfl ((par_ne d 34).trans (by rw [decide_eq_true hd]))))
/-- a mark for a mark -/
theorem par_two (it : itemV (.str x) (.int (i : Int)) = some (.str [34])) (h1 : ¬ x.length ≤ i + 1) (it1 : itemV (.str x) (.int ((i + 1 : Nat) : Int)) = some (.str [34])) (ha : acc.length ≤ 500000) :
    parB [.val (.str x), .val (.str acc), .val (.int (i : Int)), .val (.int (x.length : Int)), c] = some (.next [.val (.str x), .val (.str (acc ++ [34])), .val (.int ((i + 2 : Nat) : Int)), .val (.int (x.length : Int)), .val (.str [34])]) :=
  ev_nextc (ev_asg (ev_item rfl rfl it)) (ev_nextc (ev_asg (ev_bin rfl rfl (par_inc i))) (ev_nextc ((ev_sif_t (ev_test rfl rfl (par_eq 34 34))).trans (ev_nextc ((ev_sif_f (ev_or_f (ev_test rfl rfl ((par_ge _ _).trans (by rw [decide_eq_false fun q => h1 (Int.ofNat_le.mp q)]))) (ev_or_f (ev_test (ev_item rfl rfl it1) rfl (par_ne 34 34)) rfl))).trans rfl) (ev_nextc (ev_asg (ev_bin rfl rfl (par_inc (i + 1)))) rfl))) (ev_nextc (ev_asg (ev_bin rfl rfl (add_ok (by simp; omega)))) rfl)))
/-- any other sign -/
theorem par_one (it : itemV (.str x) (.int (i : Int)) = some (.str [c0])) (hc : c0 ≠ 34) (ha : acc.length ≤ 500000) :
    parB [.val (.str x), .val (.str acc), .val (.int (i : Int)), .val (.int (x.length : Int)), c] = some (.next [.val (.str x), .val (.str (acc ++ [c0])), .val (.int ((i + 1 : Nat) : Int)), .val (.int (x.length : Int)), .val (.str [c0])]) :=
  ev_nextc (ev_asg (ev_item rfl rfl it)) (ev_nextc (ev_asg (ev_bin rfl rfl (par_inc i))) (ev_nextc ((ev_sif_f (ev_test rfl rfl ((par_eq c0 34).trans (by rw [decide_eq_false hc])))).trans rfl) (ev_nextc (ev_asg (ev_bin rfl rfl (add_ok (by simp; omega)))) rfl)))
end
theorem unq_two (r : List Nat) : unq (34 :: 34 :: r) = 34 :: unq r := by simp [unq]
theorem unq_end {d : Nat} (h : d ≠ 34) (r : List Nat) : unq (34 :: d :: r) = [] := by simp [unq, h]
theorem unq_else {c : Nat} (h : c ≠ 34) (r : List Nat) : unq (c :: r) = c :: unq r := by
  cases r with
  | nil => simp [unq, h]
  | cons d r2 => simp [unq, h]
theorem par_loop (x : List Nat) (hx : x.length ≤ 500000) : ∀ (n : Nat) (rest : List Nat) (i : Nat) (acc : List Nat) (c : Slot) (fuel : Nat), rest.length ≤ n → x.drop i = rest → i ≤ x.length → rest.length < fuel → acc.length + rest.length ≤ 500000 →
    ∃ i' c', sWhile parT parB sNil fuel [.val (.str x), .val (.str acc), .val (.int (i : Int)), .val (.int (x.length : Int)), c] = some (.next [.val (.str x), .val (.str (acc ++ unq rest)), .val (.int i'), .val (.int (x.length : Int)), c']) := by
  have hxb : x.length ≤ big := by unfold big; omega
  intro n
  induction n with
  | zero =>
    intro rest i acc c fuel hn hd hi hf ha
    have : rest = [] := List.length_eq_zero_iff.mp (by omega)
    subst this
    have hix : i = x.length := by
      have := List.drop_eq_nil_iff.mp hd
      omega
    subst hix
    refine ⟨x.length, c, ?_⟩
    rw [par_end x acc c fuel (by simpa using hf), unq, List.append_nil]
  | succ n ih =>
    intro rest i acc c fuel hn hd hi hf ha
    have hlen := congrArg List.length hd
    rw [List.length_drop] at hlen
    cases rest with
    | nil => exact ih [] i acc c fuel (Nat.zero_le _) hd hi hf ha
    | cons c0 r =>
      simp only [List.length_cons] at hn hf ha hlen
      obtain ⟨fuel, rfl⟩ : ∃ k, fuel = k + 1 := ⟨fuel - 1, by omega⟩
      have it := item_at hxb hd
      have hlt : i < x.length := by omega
      have hd1 : x.drop (i + 1) = r := by rw [← List.drop_drop, hd]; rfl
      have T := par_lt hlt (.val (.str acc)) c
      by_cases hc : c0 = 34
      · subst hc
        cases r with
        | nil =>
          refine ⟨((i + 1 : Nat) : Int), .val (.str [34]), ev_while_b T (par_stop it (.inl ?_)) |>.trans ?_⟩
          · simp at hlen; omega
          · rw [show unq [34] = [] by simp [unq], List.append_nil]
        | cons d r2 =>
          simp only [List.length_cons] at hn hf ha hlen
          have e1 : ¬ x.length ≤ i + 1 := by omega
          have it1 := item_at hxb hd1
          by_cases hd34 : d = 34
          · subst hd34
            obtain ⟨i', c', h⟩ := ih r2 (i + 2) (acc ++ [34]) (.val (.str [34])) fuel (by omega) (by rw [← List.drop_drop, hd]; rfl) (by omega) (by omega) (by simp; omega)
            refine ⟨i', c', (ev_while_t T (par_two it e1 it1 (by omega))).trans (h.trans ?_)⟩
            rw [unq_two, List.append_assoc]
            rfl
          · refine ⟨((i + 1 : Nat) : Int), .val (.str [34]), ev_while_b T (par_stop it (.inr ⟨d, it1, hd34⟩)) |>.trans ?_⟩
            rw [unq_end hd34, List.append_nil]
      · obtain ⟨i', c', h⟩ := ih r (i + 1) (acc ++ [c0]) (.val (.str [c0])) fuel (by omega) hd1 (by omega) (by omega) (by simp; omega)
        refine ⟨i', c', (ev_while_t T (par_one it hc (by omega))).trans (h.trans ?_)⟩
        rw [unq_else hc, List.append_assoc]
        rfl
noncomputable def front : List Nat := [50, 53, 55, 32, 34]
noncomputable def pPar : List V → Option V
  | [.str x] => if x.length ≤ 500000 ∧ x.take 5 = front then some (.str (unq (x.drop 5))) else if x.length ≤ 500000 ∧ x.take 3 = [50, 53, 55] ∧ (x.drop 3).take 2 ≠ [32, 34] then some (.str []) else none
  | _ => none
theorem cut_to {x : List Nat} {k : Nat} : cutP x none (some (k : Int)) = x.take k := by
  unfold cutP
  simp only [Option.elim, clipAt_nat, List.drop_zero, Nat.sub_zero]
  by_cases h : k ≤ x.length
  · rw [Nat.min_eq_left h]
  · rw [Nat.min_eq_right (by omega), List.take_of_length_le (by omega), List.take_of_length_le (by omega)]
theorem cut_mid {x : List Nat} {j k : Nat} (hk : k ≤ x.length) (hj : j ≤ k) : cutP x (some (j : Int)) (some (k : Int)) = (x.drop j).take (k - j) := by
  unfold cutP
  simp only [Option.elim, clipAt_nat]
  rw [Nat.min_eq_left hk, Nat.min_eq_left (by omega)]
theorem sPar (F : F3 w b) : FunSpec pw w b 1 (.ref 46) pPar := FunSpec.weak (wPar F) fun xs r h => by
  unfold pPar at h
  split at h
  · rename_i x
    split at h
    · rename_i hc
      cases h
      obtain ⟨hx, hf⟩ := hc
      have hxb : x.length ≤ big := by unfold big; omega
      obtain ⟨t, rfl⟩ : ∃ t, x = front ++ t := ⟨x.drop 5, by rw [← hf, List.take_append_drop]⟩
      obtain ⟨i', c', hl⟩ := par_loop (front ++ t) hx t.length t 5 [] .unset (t.length + 1) (Nat.le_refl _) rfl (by simp [front]) (by omega) (by simp [front] at hx ⊢; omega)
      refine ⟨t.length + 1, ?_⟩
      have s1 : sliceV' (.str (front ++ t)) none (some 3) none = some (.str [50, 53, 55]) := by
        show (if (front ++ t).length ≤ big then some (V.str (cutP (front ++ t) none (some 3))) else none) = _
        rw [if_pos hxb, show (3 : Int) = ((3 : Nat) : Int) from rfl, cut_to]; rfl
      have s2 : sliceV' (.str (front ++ t)) (some 3) (some 5) none = some (.str [32, 34]) := by
        show (if (front ++ t).length ≤ big then some (V.str (cutP (front ++ t) (some 3) (some 5))) else none) = _
        rw [if_pos hxb, show (3 : Int) = ((3 : Nat) : Int) from rfl, show (5 : Int) = ((5 : Nat) : Int) from rfl, cut_mid (by simp [front]) (by omega)]; rfl
      have s3 : bfV .len [.str (front ++ t)] = some (.int ((front ++ t).length : Nat)) := if_pos hxb
      have ed : List.drop 5 (front ++ t) = t := rfl
      rw [ed]
      show (dPar (t.length + 1) [.val (.str (front ++ t)), .unset, .unset, .unset, .unset]).bind outV = _
      rw [List.nil_append] at hl
      have hl' : sWhile parT parB sNil (t.length + 1) [.val (.str (front ++ t)), .val (.str []), .val (.int 5), .val (.int ((front ++ t).length : Nat)), .unset] = _ := hl
      have c1 : cmpV .NotEq (.str [50, 53, 55]) (.str [50, 53, 55]) = some false := rfl
      have c2 : cmpV .NotEq (.str [32, 34]) (.str [32, 34]) = some false := rfl
      have w1 : sIf (tCmp .NotEq (dSlice (dLoc 0) pNone (pSome (dConst (.int 3))) pNone) (dConst (.str [50, 53, 55]))) (sSeq (sStuck) (sNil)) (sNil) [.val (.str (front ++ t)), .unset, .unset, .unset, .unset] = some (.next [.val (.str (front ++ t)), .unset, .unset, .unset, .unset]) := by
        simp [sIf, tCmp, tTwo, dSlice, dLoc, pNone, pSome, dConst, s1, c1, sNil]
      have w2 : sIf (tCmp .NotEq (dSlice (dLoc 0) (pSome (dConst (.int 3))) (pSome (dConst (.int 5))) pNone) (dConst (.str [32, 34]))) (sSeq (sRet (dConst (.str []))) (sNil)) (sNil) [.val (.str (front ++ t)), .unset, .unset, .unset, .unset] = some (.next [.val (.str (front ++ t)), .unset, .unset, .unset, .unset]) := by
        simp [sIf, tCmp, tTwo, dSlice, dLoc, pNone, pSome, dConst, s2, c2, sNil]
      have w3 : sAsg 3 (dCall (bfV .len) (aCons (dLoc 0) (aNil))) [.val (.str (front ++ t)), .val (.str []), .val (.int 5), .unset, .unset] = some (.next [.val (.str (front ++ t)), .val (.str []), .val (.int 5), .val (.int ((front ++ t).length : Nat)), .unset]) := by
        simp [sAsg, dCall, aCons, aNil, dLoc, s3]
      have e1 : ∀ (d1 d2 : SL → Option Out) (σ σ1 : SL), d1 σ = some (.next σ1) → sSeq d1 d2 σ = d2 σ1 := fun d1 d2 σ σ1 h => by unfold sSeq; rw [h]
      unfold dPar
      rw [e1 _ _ _ _ w1, e1 _ _ _ _ w2, e1 _ _ _ [.val (.str (front ++ t)), .val (.str []), .unset, .unset, .unset] rfl, e1 _ _ _ [.val (.str (front ++ t)), .val (.str []), .val (.int 5), .unset, .unset] rfl, e1 _ _ _ _ w3, e1 _ _ _ _ hl']
      rfl
    · split at h
      · rename_i hc
        cases h
        obtain ⟨hx, h3, h5⟩ := hc
        have hxb : x.length ≤ big := by unfold big; omega
        refine ⟨0, ?_⟩
        have s1 : sliceV' (.str x) none (some 3) none = some (.str [50, 53, 55]) := by
          show (if x.length ≤ big then some (V.str (cutP x none (some 3))) else none) = _
          rw [if_pos hxb, show (3 : Int) = ((3 : Nat) : Int) from rfl, cut_to, h3]
        have s2 : sliceV' (.str x) (some 3) (some 5) none = some (.str ((x.drop 3).take 2)) := by
          show (if x.length ≤ big then some (V.str (cutP x (some 3) (some 5))) else none) = _
          rw [if_pos hxb]
          unfold cutP
          rw [show (3 : Int) = ((3 : Nat) : Int) from rfl, show (5 : Int) = ((5 : Nat) : Int) from rfl]
          simp only [Option.elim, clipAt_nat]
          have hl := congrArg List.length h3
          rw [List.length_take] at hl
          simp only [List.length_cons, List.length_nil] at hl
          by_cases q : 5 ≤ x.length
          · rw [Nat.min_eq_left q, Nat.min_eq_left (by omega)]
          · rw [Nat.min_eq_right (by omega), Nat.min_eq_left (by omega), List.take_of_length_le (by rw [List.length_drop]; omega), List.take_of_length_le (by rw [List.length_drop]; omega)]
        have c1 : cmpV .NotEq (.str [50, 53, 55]) (.str [50, 53, 55]) = some false := rfl
        have c2 : cmpV .NotEq (.str ((x.drop 3).take 2)) (.str [32, 34]) = some true := by
          show some ((x.drop 3).take 2 != [32, 34]) = _
          rw [bne_iff_ne.mpr h5]
        show (dPar 0 [.val (.str x), .unset, .unset, .unset, .unset]).bind outV = _
        generalize (x.drop 3).take 2 = y at *
        have w1 : sIf (tCmp .NotEq (dSlice (dLoc 0) pNone (pSome (dConst (.int 3))) pNone) (dConst (.str [50, 53, 55]))) (sSeq (sStuck) (sNil)) (sNil) [.val (.str x), .unset, .unset, .unset, .unset] = some (.next [.val (.str x), .unset, .unset, .unset, .unset]) := by
          simp [sIf, tCmp, tTwo, dSlice, dLoc, pNone, pSome, dConst, s1, c1, sNil]
        have w2 : sIf (tCmp .NotEq (dSlice (dLoc 0) (pSome (dConst (.int 3))) (pSome (dConst (.int 5))) pNone) (dConst (.str [32, 34]))) (sSeq (sRet (dConst (.str []))) (sNil)) (sNil) [.val (.str x), .unset, .unset, .unset, .unset] = some (.ret (.str []) [.val (.str x), .unset, .unset, .unset, .unset]) := by
          simp [sIf, tCmp, tTwo, dSlice, dLoc, pNone, pSome, dConst, s2, c2, sNil, sSeq, sRet]
        have e1 : ∀ (d1 d2 : SL → Option Out) (σ σ1 : SL), d1 σ = some (.next σ1) → sSeq d1 d2 σ = d2 σ1 := fun d1 d2 σ σ1 h => by unfold sSeq; rw [h]
        have e2 : ∀ (d1 d2 : SL → Option Out) (σ σ1 : SL) (a : V), d1 σ = some (.ret a σ1) → sSeq d1 d2 σ = some (.ret a σ1) := fun d1 d2 σ σ1 a h => by unfold sSeq; rw [h]
        unfold dPar
        rw [e1 _ _ _ _ w1, e2 _ _ _ _ _ w2]
        rfl
      · cases h
  · cases h
end
end Mine
end
-- part P3c
set_option maxRecDepth 100000
noncomputable section
namespace Mine
open PySem PySem.W PySem.Calls PyProof.Rows PySem.Spec PySem.SeqAt PyProof.V Builtin Builtin.Str
/-! ## searching -/
noncomputable def occL (hit : Nat → Bool) (w limit : Nat) : List Nat → Nat → Nat → List Nat
  | [], _, _ => []
  | i :: is, n, free => if (decide (n < limit) && decide (free ≤ i) && hit i) = true then i :: occL hit w limit is (n + 1) (i + w) else occL hit w limit is n free
theorem occ_run (s sub : Str) (hi limit : Nat) : ∀ (is : List Nat) (acc : Array Nat) (free : Nat),
    (forIn (m := Id) is (acc, free) (StrLaws.occBody s sub hi limit)).run.fst.toList = acc.toList ++ occL (fun i => decide (i + sub.length ≤ hi) && subAt s sub i) sub.length limit is acc.size free
  | [], acc, free => by simp [occL]
  | i :: is, acc, free => by
    rw [List.forIn_cons]
    unfold StrLaws.occBody
    split
    · rename_i hc
      refine Eq.trans (occ_run s sub hi limit is (acc.push i) (i + sub.length)) ?_
      rw [occL, if_pos (by simp only [Bool.and_eq_true, decide_eq_true_eq]; exact ⟨⟨hc.1.1.1, hc.1.1.2⟩, hc.1.2, hc.2⟩)]
      simp
    · rename_i hc
      refine Eq.trans (occ_run s sub hi limit is acc free) ?_
      rw [occL, if_neg (by simp only [Bool.and_eq_true, decide_eq_true_eq]; exact fun q => hc ⟨⟨⟨q.1.1, q.1.2⟩, q.2.1⟩, q.2.2⟩)]
theorem occ_is (x y : List Nat) (lo hi limit : Nat) : occurrences (mkS x) (mkS y) lo hi limit = occL (fun i => decide (i + y.length ≤ hi) && ((x.drop i).take y.length == y)) y.length limit (List.range' lo (hi + 1 - lo)) 0 lo := by
  rw [StrLaws.occ_eq, occ_run]
  simp only [mkS_len, subAt_is]
  rfl
/-- positions without a hit are passed -/
theorem occL_skip (hit : Nat → Bool) (w limit n free : Nat) (r : List Nat) : ∀ (k j : Nat), (∀ i, j ≤ i → i < j + k → hit i = false ∨ i < free) → occL hit w limit (List.range' j k ++ r) n free = occL hit w limit r n free
  | 0, j, _ => rfl
  | k + 1, j, h => by
    rw [List.range'_succ, List.cons_append, occL, if_neg, occL_skip hit w limit n free r k (j + 1) fun i h1 h2 => h i (by omega) (by omega)]
    simp only [Bool.and_eq_true, decide_eq_true_eq]
    rintro ⟨⟨_, h2⟩, h3⟩
    rcases h j (Nat.le_refl _) (by omega) with e | e
    · rw [h3] at e; cases e
    · omega
noncomputable abbrev dots : List Nat := [46, 46, 46]
/-- where the separators of joined pieces stand -/
noncomputable def cutsAt : List (List Nat) → Nat → List Nat
  | [], _ => []
  | [_], _ => []
  | p :: ps, j => (j + p.length) :: cutsAt ps (j + p.length + 3)
theorem joinL_cons (p q : List Nat) (r : List (List Nat)) : joinL dots (p :: q :: r) = p ++ (dots ++ joinL dots (q :: r)) := by simp [joinL]
theorem drop_more {x p rest : List Nat} {j i : Nat} (hd : x.drop j = p ++ rest) (h1 : j ≤ i) : x.drop i = (p ++ rest).drop (i - j) := by
  rw [← hd, List.drop_drop]
  congr 1
  omega
theorem hit_false {x p rest : List Nat} {j i : Nat} (hd : x.drop j = p ++ rest) (hp : 46 ∉ p) (h1 : j ≤ i) (h2 : i < j + p.length) : (decide (i + 3 ≤ x.length) && ((x.drop i).take 3 == dots)) = false := by
  rw [Bool.and_eq_false_iff]
  right
  rw [beq_eq_false_iff_ne]
  intro e
  rw [drop_more hd h1, List.drop_append_of_le_length (by omega)] at e
  have hlt : i - j < p.length := by omega
  rw [List.drop_eq_getElem_cons hlt] at e
  have : p[i - j] = 46 := by
    rw [List.cons_append, List.take_succ_cons] at e
    exact (List.cons.inj e).1
  exact hp (this ▸ List.getElem_mem hlt)
theorem joinL_one (p : List Nat) : joinL dots [p] = p := by simp [joinL]
theorem occ_pieces (x : List Nat) (limit : Nat) : ∀ (ps : List (List Nat)) (j n free : Nat), ps ≠ [] → (∀ p ∈ ps, 46 ∉ p) → x.drop j = joinL dots ps → j ≤ x.length → free ≤ j → n + ps.length ≤ limit →
    occL (fun i => decide (i + 3 ≤ x.length) && ((x.drop i).take 3 == dots)) 3 limit (List.range' j (x.length + 1 - j)) n free = cutsAt ps j
  | [], _, _, _, h, _, _, _, _, _ => absurd rfl h
  | [p], j, n, free, _, hp, hd, hj, hf, hl => by
    rw [joinL_one] at hd
    have hlen : x.length = j + p.length := by
      have := congrArg List.length hd
      rw [List.length_drop] at this
      omega
    have := occL_skip (fun i => decide (i + 3 ≤ x.length) && ((x.drop i).take 3 == dots)) 3 limit n free [] (x.length + 1 - j) j (fun i h1 h2 => .inl (by
      by_cases q : i < j + p.length
      · exact hit_false (rest := []) (by rw [List.append_nil]; exact hd) (hp p (by simp)) h1 q
      · rw [Bool.and_eq_false_iff]; left; exact decide_eq_false (by omega)))
    rw [List.append_nil] at this
    rw [this]
    rfl
  | p :: q :: r, j, n, free, _, hp, hd, hj, hf, hl => by
    rw [joinL_cons] at hd
    have hlen : x.length = j + (p.length + (3 + (joinL dots (q :: r)).length)) := by
      have := congrArg List.length hd
      rw [List.length_drop, List.length_append, List.length_append] at this
      simp only [List.length_cons, List.length_nil] at this
      omega
    have hd0 : x.drop (j + p.length) = dots ++ joinL dots (q :: r) := by
      rw [drop_more hd (by omega), show j + p.length - j = p.length by omega, List.drop_left]
    have hd3 : x.drop (j + p.length + 3) = joinL dots (q :: r) := by
      rw [← List.drop_drop, hd0]; rfl
    have ih := occ_pieces x limit (q :: r) (j + p.length + 3) (n + 1) (j + p.length + 3) (by simp) (fun p' h' => hp p' (List.mem_cons_of_mem _ h')) hd3 (by omega) (Nat.le_refl _) (by simp only [List.length_cons] at hl ⊢; omega)
    have e1 : List.range' j (x.length + 1 - j) = List.range' j p.length ++ ((j + p.length) :: (List.range' (j + p.length + 1) 2 ++ List.range' (j + p.length + 3) (x.length + 1 - (j + p.length + 3)))) := by
      have k1 : List.range' j (x.length + 1 - j) = List.range' j p.length ++ List.range' (j + p.length) (x.length + 1 - j - p.length) := by
        rw [List.range'_append_1]; congr 1; omega
      have k2 : List.range' (j + p.length) (x.length + 1 - j - p.length) = (j + p.length) :: List.range' (j + p.length + 1) (x.length - j - p.length) := by
        rw [← List.range'_succ]; congr 1; omega
      have k3 : List.range' (j + p.length + 1) (x.length - j - p.length) = List.range' (j + p.length + 1) 2 ++ List.range' (j + p.length + 1 + 2) (x.length + 1 - (j + p.length + 3)) := by
        rw [List.range'_append_1]; congr 1; omega
      rw [k1, k2, k3]
    rw [e1, occL_skip _ 3 limit n free _ p.length j fun i h1 h2 => .inl (hit_false hd (hp p (by simp)) h1 h2)]
    rw [occL, if_pos, occL_skip _ 3 limit (n + 1) (j + p.length + 3) _ 2 (j + p.length + 1) fun i h1 h2 => .inr (by omega), ih]
    · rfl
    · simp only [Bool.and_eq_true, decide_eq_true_eq, List.length_cons] at hl ⊢
      refine ⟨⟨by omega, by omega⟩, by omega, ?_⟩
      rw [hd0]
      rfl
end Mine
end
-- part P3d
set_option maxRecDepth 100000
noncomputable section
namespace Mine
open PySem PySem.W PySem.Calls PyProof.Rows PySem.Spec PySem.SeqAt PyProof.V Builtin Builtin.Str
theorem sub_is (x : List Nat) (i j : Nat) : strSub (mkS x) i j = mkS ((x.drop i).take (j - i)) := by
  unfold strSub
  show (⟨x.toArray.extract i j⟩ : Str) = _
  rw [List.extract_toArray, List.extract_eq_take_drop]
theorem parts_pieces (x : List Nat) : ∀ (ps : List (List Nat)) (j : Nat), ps ≠ [] → x.drop j = joinL dots ps → j ≤ x.length →
    ((j :: (cutsAt ps j).map (· + 3)).zip (cutsAt ps j ++ [x.length])).map (fun p => strSub (mkS x) p.1 p.2) = ps.map mkS
  | [], _, h, _, _ => absurd rfl h
  | [p], j, _, hd, hj => by
    rw [joinL_one] at hd
    have hlen : x.length = j + p.length := by
      have := congrArg List.length hd
      rw [List.length_drop] at this
      omega
    show [strSub (mkS x) j x.length] = [mkS p]
    rw [sub_is, hd, List.take_of_length_le (by omega)]
  | p :: q :: r, j, _, hd, hj => by
    rw [joinL_cons] at hd
    have hlen : x.length = j + (p.length + (3 + (joinL dots (q :: r)).length)) := by
      have := congrArg List.length hd
      rw [List.length_drop, List.length_append, List.length_append] at this
      simp only [List.length_cons, List.length_nil] at this
      omega
    have hd0 : x.drop (j + p.length) = dots ++ joinL dots (q :: r) := by
      rw [drop_more hd (by omega), show j + p.length - j = p.length by omega, List.drop_left]
    have hd3 : x.drop (j + p.length + 3) = joinL dots (q :: r) := by
      rw [← List.drop_drop, hd0]; rfl
    have ih := parts_pieces x (q :: r) (j + p.length + 3) (by simp) hd3 (by omega)
    have e : cutsAt (p :: q :: r) j = (j + p.length) :: cutsAt (q :: r) (j + p.length + 3) := rfl
    rw [e, List.map_cons, List.cons_append, List.zip_cons_cons, List.map_cons, ih, sub_is, hd, show j + p.length - j = p.length by omega, List.take_left]
    rfl
theorem kind_one : Builtin.Str.strKind (mkS dots) = 1 := by decide +kernel
theorem kind_ge (s : Str) : 1 ≤ Builtin.Str.strKind s := by unfold Builtin.Str.strKind; split <;> (try split) <;> decide
theorem cuts_len : ∀ (ps : List (List Nat)) (j : Nat), ps ≠ [] → (cutsAt ps j).length + 1 = ps.length
  | [], _, h => absurd rfl h
  | [p], _, _ => rfl
  | p :: q :: r, j, _ => by
    show ((j + p.length) :: cutsAt (q :: r) (j + p.length + 3)).length + 1 = _
    rw [List.length_cons, cuts_len (q :: r) _ (by simp)]
    rfl
theorem occ_all (ps : List (List Nat)) (hne : ps ≠ []) (hp : ∀ p ∈ ps, 46 ∉ p) (limit : Nat) (hl : ps.length ≤ limit) : occurrences (mkS (joinL dots ps)) (mkS dots) 0 (joinL dots ps).length limit = cutsAt ps 0 := by
  rw [occ_is]
  exact occ_pieces (joinL dots ps) limit ps 0 0 0 hne hp rfl (Nat.zero_le _) (Nat.le_refl _) (by omega)
theorem join_len : ∀ ps : List (List Nat), ps ≠ [] → ps.length ≤ (joinL dots ps).length + 1
  | [], h => absurd rfl h
  | [p], _ => by simp
  | p :: q :: r, _ => by
    have := join_len (q :: r) (by simp)
    rw [joinL_cons, List.length_append, List.length_append]
    simp only [List.length_cons] at this ⊢
    omega
theorem split_pieces (ps : List (List Nat)) (hne : ps ≠ []) (hp : ∀ p ∈ ps, 46 ∉ p) : splitV (joinL dots ps) dots = ps := by
  have ho := occ_all ps hne hp ((joinL dots ps).length + 1) (join_len ps hne)
  have back : ∀ l : List (List Nat), (l.map mkS).map (·.cps.toList) = l := fun l => by
    rw [List.map_map]
    exact List.map_id'' (fun x => rfl) l
  unfold splitV Txt.split
  rw [mkS_len, mkS_len, ho]
  match ps, hne with
  | [p], _ =>
    have e : (cutsAt [p] 0).isEmpty = true := rfl
    split
    · simp [joinL_one, mkS]
    · simp [cutsAt, joinL_one, mkS]
  | p :: q :: r, hne =>
    have hlen : 3 ≤ (joinL dots (p :: q :: r)).length := by
      rw [joinL_cons, List.length_append, List.length_append]
      simp only [List.length_cons, List.length_nil]
      omega
    rw [if_neg, if_neg]
    · have := parts_pieces (joinL dots (p :: q :: r)) (p :: q :: r) 0 (by simp) rfl (Nat.zero_le _)
      unfold partsBetween
      rw [mkS_len]
      have h2 : ((0 :: (cutsAt (p :: q :: r) 0).map (· + 3)).zip (cutsAt (p :: q :: r) 0 ++ [(joinL dots (p :: q :: r)).length])).map (fun (i, j) => strSub (mkS (joinL dots (p :: q :: r))) i j) = (p :: q :: r).map mkS := this
      show (((0 :: (cutsAt (p :: q :: r) 0).map (· + 3)).zip (cutsAt (p :: q :: r) 0 ++ [(joinL dots (p :: q :: r)).length])).map (fun (i, j) => strSub (mkS (joinL dots (p :: q :: r))) i j)).map _ = _
      rw [h2, back]
    · intro q; cases q
    · have k1 := kind_ge (mkS (joinL dots (p :: q :: r)))
      rw [kind_one]
      simp only [Bool.or_eq_true, decide_eq_true_eq]
      show ¬ ((joinL dots (p :: q :: r)).length < 3 ∨ _)
      omega
end Mine
end
-- part P3e
set_option maxRecDepth 100000
noncomputable section
namespace Mine
open PySem PySem.W PySem.Calls PyProof.Rows PySem.Spec PySem.SeqAt PyProof.V
/-! ## find -/
theorem occL_full (hit : Nat → Bool) (w limit : Nat) : ∀ (is : List Nat) (n free : Nat), limit ≤ n → occL hit w limit is n free = []
  | [], _, _, _ => rfl
  | i :: is, n, free, h => by
    rw [occL, if_neg, occL_full hit w limit is n free h]
    simp only [Bool.and_eq_true, decide_eq_true_eq]
    omega
theorem occL_first (hit : Nat → Bool) (w : Nat) : ∀ (k lo free : Nat), free ≤ lo → occL hit w 1 (List.range' lo k) 0 free = (match (List.range' lo k).find? hit with | some i => [i] | none => [])
  | 0, _, _, _ => rfl
  | k + 1, lo, free, h => by
    rw [List.range'_succ, occL, List.find?_cons]
    cases hh : hit lo with
    | true =>
      rw [if_pos (by simp [h]), occL_full _ _ _ _ _ _ (Nat.le_refl 1)]
    | false =>
      rw [if_neg (by simp), occL_first hit w k (lo + 1) free (by omega)]
/-- the first place where the piece stands, from lo on, before hi -/
noncomputable def findN (x y : List Nat) (lo hi : Nat) : Option Nat := (List.range' lo (hi + 1 - lo)).find? fun i => decide (i + y.length ≤ hi) && ((x.drop i).take y.length == y)
theorem find_is (x y : List Nat) (lo hi : Nat) (h : hi ≤ x.length) : findV x y (lo : Int) (hi : Int) = (match findN x y lo hi with | some i => (i : Int) | none => -1) := by
  unfold findV
  have f1 : fromIndex x.length (lo : Int) = lo := by unfold fromIndex; rw [if_neg (by omega)]; omega
  have f2 : fromIndex x.length (hi : Int) = hi := by unfold fromIndex; rw [if_neg (by omega)]; omega
  rw [f1, f2, Nat.min_eq_left h, occ_is, occL_first _ _ _ _ _ (Nat.le_refl _)]
  unfold findN
  cases (List.range' lo (hi + 1 - lo)).find? fun i => decide (i + y.length ≤ hi) && ((x.drop i).take y.length == y) <;> rfl
end Mine
end
-- part P3f
set_option maxRecDepth 100000
noncomputable section
namespace Mine
open PySem PySem.W PySem.Calls PyProof.Rows PySem.Spec PySem.SeqAt PyProof.V
/-! ## the loop of _ellipsis_match -/
noncomputable def ellL (x : List Nat) (hi : Nat) : List (List Nat) → Nat → Bool
  | [], _ => true
  | p :: ps, lo => match findN x p lo hi with
    | some i => ellL x hi ps (i + p.length)
    | none => false
theorem findN_some {x y : List Nat} {lo hi k : Nat} (h1 : lo ≤ k) (h2 : k + y.length ≤ hi) (h3 : (x.drop k).take y.length = y) : ∃ i, findN x y lo hi = some i ∧ lo ≤ i ∧ i ≤ k := by
  unfold findN
  cases h : (List.range' lo (hi + 1 - lo)).find? fun i => decide (i + y.length ≤ hi) && ((x.drop i).take y.length == y) with
  | none =>
    have := List.find?_eq_none.mp h k (by rw [List.mem_range'_1]; omega)
    exfalso
    apply this
    simp [h2, h3]
  | some i =>
    refine ⟨i, rfl, ?_, ?_⟩
    · have := List.mem_of_find?_eq_some h
      rw [List.mem_range'_1] at this
      exact this.1
    · by_cases q : i ≤ k
      · exact q
      · exfalso
        obtain ⟨_, as, bs, e, hn⟩ := List.find?_eq_some_iff_append.mp h
        have hk : k ∈ as := by
          have hm : k ∈ List.range' lo (hi + 1 - lo) := by rw [List.mem_range'_1]; omega
          rw [e, List.mem_append, List.mem_cons] at hm
          rcases hm with hm | hm | hm
          · exact hm
          · omega
          · have hs : (List.range' lo (hi + 1 - lo)).Pairwise (· < ·) := List.pairwise_lt_range'
            rw [e] at hs
            have := (List.pairwise_cons.mp (List.pairwise_append.mp hs).2.1).1 k hm
            omega
        have := hn k hk
        simp [h2, h3] at this
end Mine
end
-- part P3g
set_option maxRecDepth 100000
noncomputable section
namespace Mine
open PySem PySem.W PySem.Calls PyProof.Rows PySem.Spec PySem.SeqAt PyProof.V
theorem findN_range {x y : List Nat} {lo hi i : Nat} (h : findN x y lo hi = some i) : lo ≤ i ∧ i + y.length ≤ hi := by
  unfold findN at h
  have h1 := List.mem_of_find?_eq_some h
  have h2 := List.find?_some h
  rw [List.mem_range'_1] at h1
  simp only [Bool.and_eq_true, decide_eq_true_eq] at h2
  exact ⟨h1.1, h2.1⟩
end Mine
end
-- part P3h
set_option maxRecDepth 100000
noncomputable section
namespace Mine
open PySem PySem.W PySem.Calls PyProof.Rows PySem.Spec PySem.SeqAt PyProof.V
/-! ## what _ellipsis_match answers -/
/-! _ellipsis_match: 0 want, 1 got, 2 ws, 3 startpos, 4 endpos, 5 w -/
noncomputable abbrev ellB : SL → Option Out := (sSeq (sAsg 3 (dMeth .find (dLoc 1) (aCons (dLoc 5) (aCons (dLoc 3) (aCons (dLoc 4) (aNil)))))) (sSeq (sIf (tCmp .Lt (dLoc 3) (dConst (.int 0))) (sSeq (sRet (dConst (.bool false))) (sNil)) (sNil)) (sSeq (sAug 3 .Add (dCall (bfV .len) (aCons (dLoc 5) (aNil)))) (sNil))))
noncomputable abbrev ellI1 : SL → Option Out := (sIf (tVal (dLoc 5)) (sSeq (sIf (tVal (dMeth .startswith (dLoc 1) (aCons (dLoc 5) (aNil)))) (sSeq (sAsg 3 (dCall (bfV .len) (aCons (dLoc 5) (aNil)))) (sSeq (sDel 2 (dConst (.int 0))) (sNil))) (sSeq (sRet (dConst (.bool false))) (sNil))) (sNil)) (sNil))
noncomputable abbrev ellI2 : SL → Option Out := (sIf (tVal (dLoc 5)) (sSeq (sIf (tVal (dMeth .endswith (dLoc 1) (aCons (dLoc 5) (aNil)))) (sSeq (sAug 4 .Sub (dCall (bfV .len) (aCons (dLoc 5) (aNil)))) (sSeq (sDel 2 (dNeg (dConst (.int 1)))) (sNil))) (sSeq (sRet (dConst (.bool false))) (sNil))) (sNil)) (sNil))
noncomputable abbrev ellI3 : SL → Option Out := (sIf (tCmp .Gt (dLoc 3) (dLoc 4)) (sSeq (sRet (dConst (.bool false))) (sNil)) (sNil))
noncomputable abbrev ellT : SL → Option Out := (sSeq (sFor (gName 5) (dLoc 2) ellB) (sSeq (sRet (dConst (.bool true))) (sNil)))
noncomputable abbrev dEll : SL → Option Out := sSeq (sIf (tCmp .NotIn (dConst (.str [46, 46, 46])) (dLoc 0)) (sSeq (sRet (dCmp .Eq (dLoc 0) (dLoc 1))) (sNil)) (sNil)) (sSeq (sNew 2 (nSplit (dLoc 0) (dConst (.str [46, 46, 46])))) (sSeq (sAssert (tCmp .GtE (dLenO 2) (dConst (.int 2)))) (sSeq (sAsgS [3, 4] (dTup (aCons (dConst (.int 0)) (aCons (dCall (bfV .len) (aCons (dLoc 1) (aNil))) (aNil))))) (sSeq (sAsg 5 (dItemO 2 (dConst (.int 0)))) (sSeq ellI1 (sSeq (sAsg 5 (dItemO 2 (dNeg (dConst (.int 1))))) (sSeq ellI2 (sSeq ellI3 ellT))))))))
theorem len_ok {x : List Nat} (h : x.length ≤ big) : bfV .len [.str x] = some (.int (x.length : Int)) := if_pos h
theorem lenS_ok {x : List Nat} (h : x.length ≤ big) : truthV (.str x) = some (!x.isEmpty) := if_pos h
theorem ell_loop (s0 s2 : Slot) (got : List Nat) (hi : Nat) (hg : hi ≤ got.length) : ∀ (qs : List (List Nat)) (lo : Nat) (c : Slot), (∀ q ∈ qs, q.length ≤ big) →
    ∃ r, loopV (gName 5) ellB (qs.map V.str) [s0, .val (.str got), s2, .val (.int (lo : Int)), .val (.int (hi : Int)), c] = some r ∧ (if ellL got hi qs lo then ∃ σ, r = .next σ else ∃ σ, r = .ret (.bool false) σ)
  | [], lo, c, _ => ⟨_, rfl, by rw [ellL, if_pos rfl]; exact ⟨_, rfl⟩⟩
  | q :: r, lo, c, hq => by
    have h1 : gName 5 (.str q) [s0, .val (.str got), s2, .val (.int (lo : Int)), .val (.int (hi : Int)), c] = some [s0, .val (.str got), s2, .val (.int (lo : Int)), .val (.int (hi : Int)), .val (.str q)] := rfl
    have hf := find_is got q lo hi hg
    have hl := len_ok (hq q (by simp))
    rw [List.map_cons, loopV, h1, Option.bind_some, ellL]
    cases hfn : findN got q lo hi with
    | none =>
      rw [hfn] at hf
      simp only at hf
      have e : ellB [s0, .val (.str got), s2, .val (.int (lo : Int)), .val (.int (hi : Int)), .val (.str q)] = some (.ret (.bool false) [s0, .val (.str got), s2, .val (.int (-1)), .val (.int (hi : Int)), .val (.str q)]) := by
        simp [ellB, sSeq, sAsg, sIf, sRet, sNil, dMeth, dLoc, aCons, aNil, bfV, ar1, ar2, lenB, ordB, rangeB, listB, findA, findB, onI, onS, onL, hf, tCmp, tTwo, dConst, cmpV, eqV, neV, ltV, leV, gtV, geV, isBool, isV, isnV, inV, ninStr, ninV, onI, onS, onB, onL, onN]
      rw [e]
      exact ⟨_, rfl, ⟨_, rfl⟩⟩
    | some i =>
      rw [hfn] at hf
      simp only at hf
      have ei : ¬ ((i : Int) < 0) := by omega
      have e : ellB [s0, .val (.str got), s2, .val (.int (lo : Int)), .val (.int (hi : Int)), .val (.str q)] = some (.next [s0, .val (.str got), s2, .val (.int ((i + q.length : Nat) : Int)), .val (.int (hi : Int)), .val (.str q)]) := by
        have hfv : bfV .find [.str got, .str q, .int (lo : Int), .int (hi : Int)] = some (.int (i : Int)) := by show some (V.int (findV _ _ _ _)) = _; rw [hf]
        simp [ellB, sSeq, sAsg, sAug, inpV, dCall, sIf, sRet, sNil, dMeth, dLoc, aCons, aNil, hfv, tCmp, tTwo, dConst, cmpV, eqV, neV, ltV, leV, gtV, geV, isBool, isV, isnV, inV, ninStr, ninV, onI, onS, onB, onL, onN, ei, hl]
      rw [e]
      exact ell_loop s0 s2 got hi hg r (i + q.length) (.val (.str q)) fun q' h' => hq q' (by simp [h'])
/-- after the two ends -/
noncomputable def preB (w got : List Nat) : Bool := decide (w.length ≤ got.length) && (got.take w.length == w)
noncomputable def sufB (w got : List Nat) : Bool := decide (w.length ≤ got.length) && (got.drop (got.length - w.length) == w)
noncomputable def ellP (w0 : List Nat) (mid : List (List Nat)) (wl got : List Nat) : Bool := preB w0 got && sufB wl got && decide (w0.length + wl.length ≤ got.length) && ellL got (got.length - wl.length) mid w0.length
theorem ellL_front (got : List Nat) (hi lo : Nat) (h : lo ≤ hi) (qs : List (List Nat)) : ellL got hi ([] :: qs) lo = ellL got hi qs lo := by
  obtain ⟨i, h1, h2, h3⟩ := findN_some (x := got) (y := []) (lo := lo) (hi := hi) (k := lo) (Nat.le_refl _) (by simpa using h) rfl
  rw [ellL, h1]
  have : i = lo := by omega
  rw [this]
  rfl
theorem ellL_back (got : List Nat) (hi : Nat) : ∀ (qs : List (List Nat)) (lo : Nat), lo ≤ hi → ellL got hi (qs ++ [[]]) lo = ellL got hi qs lo
  | [], lo, h => ellL_front got hi lo h []
  | q :: r, lo, h => by
    rw [List.cons_append, ellL, ellL]
    cases hf : findN got q lo hi with
    | none => rfl
    | some i =>
      have := findN_range hf
      exact ellL_back got hi r (i + q.length) (by omega)
theorem pre_nil (got : List Nat) : preB [] got = true := by simp [preB]
theorem suf_nil (got : List Nat) : sufB [] got = true := by simp [sufB]
/-- the two ends tested, the loop run -/
theorem ell_tail (s0 c : Slot) (got : List Nat) (hg : got.length ≤ big) (ws : List (List Nat)) (lo : Nat) (hi : Int) (hhi : hi ≤ got.length) (hw : ∀ q ∈ ws, q.length ≤ big) :
    (sSeq ellI3 ellT [s0, .val (.str got), .own (ws.map V.str), .val (.int (lo : Int)), .val (.int hi), c]).bind outV = some (.bool (decide ((lo : Int) ≤ hi) && ellL got hi.toNat ws lo)) := by
  by_cases h : hi < (lo : Int)
  · have e : ellI3 [s0, .val (.str got), .own (ws.map V.str), .val (.int (lo : Int)), .val (.int hi), c] = some (.ret (.bool false) [s0, .val (.str got), .own (ws.map V.str), .val (.int (lo : Int)), .val (.int hi), c]) := by
      simp [ellI3, sIf, tCmp, tTwo, dLoc, cmpV, eqV, neV, ltV, leV, gtV, geV, isBool, isV, isnV, inV, ninStr, ninV, onI, onS, onB, onL, onN, h, sSeq, sRet, dConst]
    rw [ev_seq_ret e, decide_eq_false (by omega)]
    rfl
  · have e : ellI3 [s0, .val (.str got), .own (ws.map V.str), .val (.int (lo : Int)), .val (.int hi), c] = some (.next [s0, .val (.str got), .own (ws.map V.str), .val (.int (lo : Int)), .val (.int hi), c]) := by
      simp [ellI3, sIf, tCmp, tTwo, dLoc, cmpV, eqV, neV, ltV, leV, gtV, geV, isBool, isV, isnV, inV, ninStr, ninV, onI, onS, onB, onL, onN, h, sNil]
    rw [ev_seq e, decide_eq_true (by omega)]
    obtain ⟨k, rfl⟩ : ∃ k : Nat, hi = k := ⟨hi.toNat, by omega⟩
    obtain ⟨r, h1, h2⟩ := ell_loop s0 (.val (.list (ws.map V.str))) got k (by omega) ws lo c hw
    have e2 : sFor (gName 5) (dLoc 2) ellB [s0, .val (.str got), .own (ws.map V.str), .val (.int (lo : Int)), .val (.int (k : Int)), c] = some r := by
      rw [← h1]
      rfl
    rw [Int.toNat_natCast]
    cases hl : ellL got k ws lo with
    | true =>
      rw [hl, if_pos rfl] at h2
      obtain ⟨σ, rfl⟩ := h2
      rw [ellT, ev_seq e2]
      rfl
    | false =>
      rw [hl, if_neg (by simp)] at h2
      obtain ⟨σ, rfl⟩ := h2
      rw [ellT, ev_seq_ret e2]
      rfl
end Mine
end
-- part P3i
set_option maxRecDepth 100000
noncomputable section
namespace Mine
open PySem PySem.W PySem.Calls PyProof.Rows PySem.Spec PySem.SeqAt PyProof.V Builtin.Str
theorem dots_in1 (w : List Nat) (hw : 46 ∉ w) : inS dots w = false := by
  unfold inS
  rw [occ_is]
  have := occ_pieces w 1 [w] 0 0 0 (by simp) (by simpa using hw) (by rw [joinL_one]; rfl) (Nat.zero_le _) (Nat.le_refl _) (by simp)
  rw [Nat.sub_zero] at this ⊢
  show (!(occL (fun i => decide (i + 3 ≤ w.length) && ((w.drop i).take 3 == dots)) 3 1 (List.range' 0 (w.length + 1)) 0 0).isEmpty) = false
  rw [this]
  rfl
theorem dots_in2 (p q : List Nat) (r : List (List Nat)) : inS dots (joinL dots (p :: q :: r)) = true := by
  unfold inS
  rw [occ_is]
  have hd : (joinL dots (p :: q :: r)).drop p.length = dots ++ joinL dots (q :: r) := by rw [joinL_cons, List.drop_left]
  have hl : p.length + 3 ≤ (joinL dots (p :: q :: r)).length := by
    rw [joinL_cons]
    simp only [List.length_append, List.length_cons, List.length_nil]
    omega
  obtain ⟨i, hi, _⟩ := findN_some (x := joinL dots (p :: q :: r)) (y := dots) (lo := 0) (hi := (joinL dots (p :: q :: r)).length) (k := p.length) (Nat.zero_le _) hl (by rw [hd]; rfl)
  unfold findN at hi
  rw [Nat.sub_zero] at hi ⊢
  rw [occL_first _ _ _ _ _ (Nat.le_refl _), hi]
  rfl
theorem parts_len (ps : List (List Nat)) (hne : ps ≠ []) (hp : ∀ p ∈ ps, 46 ∉ p) : (partsBetween (mkS (joinL dots ps)) (occurrences (mkS (joinL dots ps)) (mkS dots) 0 (joinL dots ps).length ((joinL dots ps).length + 1)) 3).length = ps.length := by
  rw [occ_all ps hne hp _ (join_len ps hne)]
  unfold partsBetween
  rw [List.length_map, List.length_zip, List.length_cons, List.length_map, List.length_append, List.length_singleton]
  have := cuts_len ps 0 hne
  omega
noncomputable abbrev σE (want got : List Nat) (a b c d : Slot) : SL := [.val (.str want), .val (.str got), a, b, c, d]
theorem ell_i1 (s0 c d : Slot) (got w0 : List Nat) (rest : List V) (hg : got.length ≤ big) (hw : w0.length ≤ big) (hr : rest.length + 1 ≤ big) :
    (preB w0 got = true → ∃ d', ellI1 [s0, .val (.str got), .own (.str w0 :: rest), .val (.int 0), c, .val (.str w0)] = some (.next [s0, .val (.str got), .own ((if w0 = [] then [V.str []] else []) ++ rest), .val (.int (w0.length : Int)), c, d'])) ∧
    (preB w0 got = false → ∃ σ, ellI1 [s0, .val (.str got), .own (.str w0 :: rest), .val (.int 0), c, .val (.str w0)] = some (.ret (.bool false) σ)) := by
  have hl := len_ok hw
  have ht := lenS_ok hw
  by_cases h0 : w0 = []
  · subst h0
    constructor
    · intro _
      refine ⟨.val (.str []), ?_⟩
      rw [if_pos rfl]
      exact (ev_sif_f (ev_val rfl ht)).trans rfl
    · intro h; rw [pre_nil] at h; cases h
  · have he : (!w0.isEmpty) = true := by cases w0 with | nil => exact absurd rfl h0 | cons => rfl
    rw [he] at ht
    have hs : bfV .startswith [.str got, .str w0] = some (.bool (preB w0 got)) := rfl
    constructor
    · intro hp
      rw [hp] at hs
      refine ⟨.val (.str w0), ?_⟩
      rw [if_neg h0]
      have e1 : sAsg 3 (dCall (bfV .len) (aCons (dLoc 5) (aNil))) [s0, .val (.str got), .own (.str w0 :: rest), .val (.int 0), c, .val (.str w0)] = some (.next [s0, .val (.str got), .own (.str w0 :: rest), .val (.int (w0.length : Int)), c, .val (.str w0)]) := (ev_asg (ev_call (ev_one rfl) hl)).trans rfl
      have e2 : sDel 2 (dConst (.int 0)) [s0, .val (.str got), .own (.str w0 :: rest), .val (.int (w0.length : Int)), c, .val (.str w0)] = some (.next [s0, .val (.str got), .own rest, .val (.int (w0.length : Int)), c, .val (.str w0)]) := by
        have hi : idx (V.str w0 :: rest).length 0 = some 0 := by unfold idx; rw [if_pos (by omega), if_pos (by simp)]; rfl
        show (if (V.str w0 :: rest).length ≤ big then (idx (V.str w0 :: rest).length 0).map _ else none) = _
        rw [if_pos (by simpa using hr), hi]
        rfl
      exact (ev_sif_t (ev_val rfl ht)).trans ((ev_seq ((ev_sif_t (ev_val (ev_meth rfl (ev_one rfl) hs) rfl)).trans ((ev_seq e1).trans ((ev_seq e2).trans rfl)))).trans rfl)
    · intro hp
      rw [hp] at hs
      exact ⟨_, (ev_sif_t (ev_val rfl ht)).trans (ev_seq_ret ((ev_sif_f (ev_val (ev_meth rfl (ev_one rfl) hs) rfl)).trans (ev_seq_ret (ev_ret rfl))))⟩
theorem ell_i2 (s0 c d : Slot) (got wl : List Nat) (A : List V) (hg : got.length ≤ big) (hw : wl.length ≤ big) (hr : A.length + 1 ≤ big) :
    (sufB wl got = true → ∃ d', ellI2 [s0, .val (.str got), .own (A ++ [.str wl]), c, .val (.int (got.length : Int)), .val (.str wl)] = some (.next [s0, .val (.str got), .own (A ++ (if wl = [] then [V.str []] else [])), c, .val (.int ((got.length : Int) - (wl.length : Int))), d'])) ∧
    (sufB wl got = false → ∃ σ, ellI2 [s0, .val (.str got), .own (A ++ [.str wl]), c, .val (.int (got.length : Int)), .val (.str wl)] = some (.ret (.bool false) σ)) := by
  have hl := len_ok hw
  have ht := lenS_ok hw
  by_cases h0 : wl = []
  · subst h0
    constructor
    · intro _
      refine ⟨.val (.str []), ?_⟩
      rw [if_pos rfl]
      refine (ev_sif_f (ev_val rfl ht)).trans ?_
      show some (Out.next _) = some (Out.next _)
      simp
    · intro h; rw [suf_nil] at h; cases h
  · have he : (!wl.isEmpty) = true := by cases wl with | nil => exact absurd rfl h0 | cons => rfl
    rw [he] at ht
    have hs : bfV .endswith [.str got, .str wl] = some (.bool (sufB wl got)) := rfl
    constructor
    · intro hp
      rw [hp] at hs
      refine ⟨.val (.str wl), ?_⟩
      rw [if_neg h0]
      have e1 : sAug 4 .Sub (dCall (bfV .len) (aCons (dLoc 5) (aNil))) [s0, .val (.str got), .own (A ++ [.str wl]), c, .val (.int (got.length : Int)), .val (.str wl)] = some (.next [s0, .val (.str got), .own (A ++ [.str wl]), c, .val (.int ((got.length : Int) - (wl.length : Int))), .val (.str wl)]) := by
        show ((dCall (bfV .len) (aCons (dLoc 5) (aNil)) _).bind _) = _
        rw [ev_call (ev_one rfl) hl]
        rfl
      have e2 : sDel 2 (dNeg (dConst (.int 1))) [s0, .val (.str got), .own (A ++ [.str wl]), c, .val (.int ((got.length : Int) - (wl.length : Int))), .val (.str wl)] = some (.next [s0, .val (.str got), .own A, c, .val (.int ((got.length : Int) - (wl.length : Int))), .val (.str wl)]) := by
        have hi : idx (A ++ [V.str wl]).length (-1) = some A.length := by
          unfold idx
          rw [if_neg (by omega), if_pos (by rw [List.length_append, List.length_singleton]; omega), List.length_append, List.length_singleton]
          congr 1
          omega
        show (if (A ++ [V.str wl]).length ≤ big then (idx (A ++ [V.str wl]).length (-1)).map (fun j => Out.next (List.set [s0, .val (.str got), .own (A ++ [.str wl]), c, .val (.int ((got.length : Int) - (wl.length : Int))), .val (.str wl)] 2 (.own ((A ++ [V.str wl]).eraseIdx j)))) else none) = _
        rw [if_pos (by simpa using hr), hi]
        show some (Out.next [s0, .val (.str got), .own ((A ++ [V.str wl]).eraseIdx A.length), c, .val (.int ((got.length : Int) - (wl.length : Int))), .val (.str wl)]) = _
        rw [List.eraseIdx_append_of_length_le (Nat.le_refl _), Nat.sub_self]
        simp
      rw [List.append_nil]
      exact (ev_sif_t (ev_val rfl ht)).trans ((ev_seq ((ev_sif_t (ev_val (ev_meth rfl (ev_one rfl) hs) rfl)).trans ((ev_seq e1).trans ((ev_seq e2).trans rfl)))).trans rfl)
    · intro hp
      rw [hp] at hs
      exact ⟨_, (ev_sif_t (ev_val rfl ht)).trans (ev_seq_ret ((ev_sif_f (ev_val (ev_meth rfl (ev_one rfl) hs) rfl)).trans (ev_seq_ret (ev_ret rfl))))⟩
theorem ell_eval1 (w got : List Nat) (hw : 46 ∉ w) : (dEll (σE w got .unset .unset .unset .unset)).bind outV = some (.bool (decide (w = got))) := by
  have e : cmpV .NotIn (.str [46, 46, 46]) (.str w) = some (!inS dots w) := rfl
  rw [dots_in1 w hw] at e
  have e2 : cmpV .Eq (.str w) (.str got) = some (decide (w = got)) := by
    show some (w == got) = _
    congr 1
    by_cases h : w = got
    · subst h; simp
    · rw [decide_eq_false h]; simpa using h
  rw [dEll, ev_seq_ret ((ev_sif_t (ev_test rfl rfl e)).trans (ev_seq_ret (ev_ret (ev_cmp rfl rfl e2))))]
  rfl
theorem ell_eval (w0 wl got : List Nat) (mid : List (List Nat)) (hp : ∀ p ∈ w0 :: (mid ++ [wl]), 46 ∉ p) (hb : (joinL dots (w0 :: (mid ++ [wl]))).length ≤ 1000000) (hl : ∀ p ∈ w0 :: (mid ++ [wl]), p.length ≤ 1000000) (hg : got.length ≤ 1000000) :
    (dEll (σE (joinL dots (w0 :: (mid ++ [wl]))) got .unset .unset .unset .unset)).bind outV = some (.bool (ellP w0 mid wl got)) := by
  have h22 : big = 4194304 := rfl
  have hne : w0 :: (mid ++ [wl]) ≠ [] := by simp
  have hin : inS dots (joinL dots (w0 :: (mid ++ [wl]))) = true := by
    cases mid with
    | nil => exact dots_in2 w0 wl []
    | cons a m => exact dots_in2 w0 a (m ++ [wl])
  have hsp := split_pieces _ hne hp
  have hpl := parts_len _ hne hp
  have hjl := join_len _ hne
  generalize hW : joinL dots (w0 :: (mid ++ [wl])) = want at *
  have c1 : cmpV .NotIn (.str [46, 46, 46]) (.str want) = some false := by
    show some (!inS dots want) = _
    rw [hin]; rfl
  have hlen : (w0 :: (mid ++ [wl])).length = mid.length + 2 := by simp
  have s2 : nSplit (dLoc 0) (dConst (.str [46, 46, 46])) (σE want got .unset .unset .unset .unset) = some (((w0 :: (mid ++ [wl])).map V.str), σE want got .unset .unset .unset .unset) := by
    show (if want.length ≤ big ∧ dots ≠ [] ∧ (partsBetween (mkS want) (occurrences (mkS want) (mkS dots) 0 want.length (want.length + 1)) dots.length).length ≤ big then some ((splitV want dots).map V.str, σE want got .unset .unset .unset .unset) else none) = _
    rw [if_pos ⟨by omega, by simp, by rw [show dots.length = 3 from rfl, hpl]; omega⟩, hsp]
  have s2' : sNew 2 (nSplit (dLoc 0) (dConst (.str [46, 46, 46]))) (σE want got .unset .unset .unset .unset) = some (.next (σE want got (.own ((w0 :: (mid ++ [wl])).map V.str)) .unset .unset .unset)) := by
    unfold sNew; rw [s2]; rfl
  rw [List.map_cons, List.map_append, List.map_singleton] at s2'
  have hlm : (mid.map V.str).length = mid.length := List.length_map ..
  have s3 : sAssert (tCmp .GtE (dLenO 2) (dConst (.int 2))) (σE want got (.own (.str w0 :: (mid.map V.str ++ [.str wl]))) .unset .unset .unset) = some (.next (σE want got (.own (.str w0 :: (mid.map V.str ++ [.str wl]))) .unset .unset .unset)) := by
    have hL : dLenO 2 (σE want got (.own (.str w0 :: (mid.map V.str ++ [.str wl]))) .unset .unset .unset) = some (.int ((V.str w0 :: (mid.map V.str ++ [V.str wl])).length : Int), σE want got (.own (.str w0 :: (mid.map V.str ++ [.str wl]))) .unset .unset .unset) := if_pos (by simp; omega)
    have hc : cmpV .GtE (.int ((V.str w0 :: (mid.map V.str ++ [V.str wl])).length : Int)) (.int 2) = some true := by
      show some (decide _) = _
      congr 1
      refine decide_eq_true ?_
      simp
      omega
    unfold sAssert
    rw [ev_test hL rfl hc]
  have s4 : sAsgS [3, 4] (dTup (aCons (dConst (.int 0)) (aCons (dCall (bfV .len) (aCons (dLoc 1) (aNil))) (aNil)))) (σE want got (.own (.str w0 :: (mid.map V.str ++ [.str wl]))) .unset .unset .unset) = some (.next (σE want got (.own (.str w0 :: (mid.map V.str ++ [.str wl]))) (.val (.int 0)) (.val (.int (got.length : Int))) .unset)) := by
    unfold sAsgS
    rw [ev_tup (ev_pair rfl (ev_call (ev_one rfl) (len_ok (x := got) (by omega)))) (show 2 ≤ big by omega)]
    rfl
  have s5 : sAsg 5 (dItemO 2 (dConst (.int 0))) (σE want got (.own (.str w0 :: (mid.map V.str ++ [.str wl]))) (.val (.int 0)) (.val (.int (got.length : Int))) .unset) = some (.next (σE want got (.own (.str w0 :: (mid.map V.str ++ [.str wl]))) (.val (.int 0)) (.val (.int (got.length : Int))) (.val (.str w0)))) := by
    refine (ev_asg (a := .str w0) (σ1 := σE want got (.own (.str w0 :: (mid.map V.str ++ [.str wl]))) (.val (.int 0)) (.val (.int (got.length : Int))) .unset) ?_).trans rfl
    have hi : idx (V.str w0 :: (mid.map V.str ++ [.str wl])).length 0 = some 0 := by unfold idx; rw [if_pos (by omega), if_pos (by simp; omega)]; rfl
    show (if (V.str w0 :: (mid.map V.str ++ [.str wl])).length ≤ big then (idx (V.str w0 :: (mid.map V.str ++ [.str wl])).length 0).bind _ else none) = _
    rw [if_pos (by simp; omega), hi]
    rfl
  rw [dEll, ev_seq ((ev_sif_f (ev_test rfl rfl c1)).trans rfl), ev_seq s2', ev_seq s3, ev_seq s4, ev_seq s5]
  have i1 := ell_i1 (.val (.str want)) (.val (.int (got.length : Int))) .unset got w0 (mid.map V.str ++ [.str wl]) (by omega) (by have := hl w0 (by simp); omega) (by simp; omega)
  unfold ellP
  cases hp0 : preB w0 got with
  | false =>
    obtain ⟨σ, e⟩ := i1.2 hp0
    rw [ev_seq_ret e]
    rfl
  | true =>
    obtain ⟨d1, e⟩ := i1.1 hp0
    rw [ev_seq e, ← List.append_assoc]
    generalize hA : (if w0 = [] then [V.str []] else []) ++ mid.map V.str = A
    have hAl : A.length ≤ mid.length + 1 := by
      rw [← hA, List.length_append, hlm]
      split <;> simp
      omega
    have s7 : sAsg 5 (dItemO 2 (dNeg (dConst (.int 1)))) [.val (.str want), .val (.str got), .own (A ++ [.str wl]), .val (.int (w0.length : Int)), .val (.int (got.length : Int)), d1] = some (.next [.val (.str want), .val (.str got), .own (A ++ [.str wl]), .val (.int (w0.length : Int)), .val (.int (got.length : Int)), .val (.str wl)]) := by
      refine (ev_asg (a := .str wl) (σ1 := [.val (.str want), .val (.str got), .own (A ++ [.str wl]), .val (.int (w0.length : Int)), .val (.int (got.length : Int)), d1]) ?_).trans rfl
      have hi : idx (A ++ [V.str wl]).length (-1) = some A.length := by
        unfold idx
        rw [if_neg (by omega), if_pos (by rw [List.length_append, List.length_singleton]; omega), List.length_append, List.length_singleton]
        congr 1
        omega
      show (if (A ++ [V.str wl]).length ≤ big then (idx (A ++ [V.str wl]).length (-1)).bind _ else none) = _
      rw [if_pos (by simp; omega), hi]
      show ((A ++ [V.str wl])[A.length]?).map _ = _
      rw [List.getElem?_append_right (Nat.le_refl _), Nat.sub_self]
      rfl
    rw [ev_seq s7]
    have i2 := ell_i2 (.val (.str want)) (.val (.int (w0.length : Int))) .unset got wl A (by omega) (by have := hl wl (by simp); omega) (by omega)
    cases hp1 : sufB wl got with
    | false =>
      obtain ⟨σ, e⟩ := i2.2 hp1
      rw [ev_seq_ret e]
      rfl
    | true =>
      obtain ⟨d2, e⟩ := i2.1 hp1
      rw [ev_seq e]
      have hA2 : A ++ (if wl = [] then [V.str []] else []) = ((if w0 = [] then [[]] else []) ++ mid ++ (if wl = [] then [[]] else [])).map V.str := by
        rw [← hA, List.map_append, List.map_append]
        congr 1
        · congr 1
          split <;> rfl
        · split <;> rfl
      rw [hA2]
      have hw' : ∀ q ∈ (if w0 = [] then [[]] else []) ++ mid ++ (if wl = [] then [[]] else []), q.length ≤ big := by
        intro q hq
        rw [List.mem_append, List.mem_append] at hq
        rcases hq with (hq | hq) | hq
        · split at hq
          · rw [List.mem_singleton] at hq; subst hq; simp
          · cases hq
        · have := hl q (by simp [hq]); omega
        · split at hq
          · rw [List.mem_singleton] at hq; subst hq; simp
          · cases hq
      have t := ell_tail (.val (.str want)) d2 got (by omega) ((if w0 = [] then [[]] else []) ++ mid ++ (if wl = [] then [[]] else [])) w0.length ((got.length : Int) - (wl.length : Int)) (by omega) hw'
      rw [t]
      congr 2
      rw [Bool.true_and, Bool.true_and]
      by_cases hle : w0.length + wl.length ≤ got.length
      · rw [decide_eq_true hle, decide_eq_true (by omega), Bool.true_and, Bool.true_and, show ((got.length : Int) - (wl.length : Int)).toNat = got.length - wl.length by omega]
        have b1 : ellL got (got.length - wl.length) ((if w0 = [] then [[]] else []) ++ mid ++ (if wl = [] then [[]] else [])) w0.length = ellL got (got.length - wl.length) ((if w0 = [] then [[]] else []) ++ mid) w0.length := by
          by_cases hx : wl = []
          · rw [if_pos hx]; exact ellL_back _ _ _ _ (by omega)
          · rw [if_neg hx, List.append_nil]
        rw [b1]
        by_cases hx : w0 = []
        · rw [if_pos hx]; exact ellL_front _ _ _ (by omega) _
        · rw [if_neg hx]; rfl
      · rw [decide_eq_false hle, decide_eq_false (by omega)]
        rfl
end Mine
end
-- part P3j
set_option maxRecDepth 100000
noncomputable section
namespace Mine
open PySem PySem.W PySem.Calls PyProof.Rows PySem.Spec PySem.SeqAt PyProof.V Builtin.Str
noncomputable def ellS : List (List Nat) → List Nat → Bool
  | [], _ => false
  | [w], got => decide (w = got)
  | w0 :: p :: r, got => ellP w0 (p :: r).dropLast ((p :: r).getLast?.getD []) got
noncomputable def pEll : List V → Option V
  | [.str want, .str got] => if want.length ≤ 1000000 ∧ got.length ≤ 1000000 ∧ joinL dots (splitV want dots) = want ∧ splitV want dots ≠ [] ∧ (∀ p ∈ splitV want dots, 46 ∉ p) then some (.bool (ellS (splitV want dots) got)) else none
  | _ => none
theorem piece_len : ∀ (ps : List (List Nat)), ∀ p ∈ ps, p.length ≤ (joinL dots ps).length
  | [], p, h => by cases h
  | [q], p, h => by rw [List.mem_singleton] at h; subst h; rw [joinL_one]; exact Nat.le_refl _
  | q :: s :: r, p, h => by
    rw [joinL_cons, List.length_append, List.length_append]
    rcases List.mem_cons.mp h with h | h
    · subst h; omega
    · have := piece_len (s :: r) p h
      omega
theorem ell_pure (xs : List V) (r : V) (h : pEll xs = some r) : funP 2 4 dEll xs = some r := by
  unfold pEll at h
  split at h
  · rename_i want got
    split at h
    · rename_i hc
      obtain ⟨h1, h2, h3, h4, h5⟩ := hc
      cases h
      show (dEll (σE want got .unset .unset .unset .unset)).bind outV = _
      generalize splitV want dots = ps at *
      subst h3
      have hl := fun p hp => Nat.le_trans (piece_len ps p hp) h1
      match ps, h4 with
      | [w], _ =>
        rw [joinL_one]
        exact ell_eval1 w got (h5 w (by simp))
      | w0 :: p :: r, _ =>
        have e : p :: r = (p :: r).dropLast ++ [(p :: r).getLast (by simp)] := (List.dropLast_concat_getLast _).symm
        have q := ell_eval w0 ((p :: r).getLast (by simp)) got (p :: r).dropLast (by rw [← e]; exact h5) (by rw [← e]; exact h1) (by rw [← e]; exact hl) h2
        rw [← e] at q
        rw [q]
        show _ = some (V.bool (ellP w0 (p :: r).dropLast ((p :: r).getLast?.getD []) got))
        rw [List.getLast?_eq_some_getLast (l := p :: r) (by simp)]
        rfl
    · cases h
  · cases h
theorem pEll_join (ps : List (List Nat)) (got : List Nat) (hne : ps ≠ []) (hp : ∀ p ∈ ps, 46 ∉ p) (h1 : (joinL dots ps).length ≤ 1000000) (h2 : got.length ≤ 1000000) : pEll [.str (joinL dots ps), .str got] = some (.bool (ellS ps got)) := by
  unfold pEll
  have := split_pieces ps hne hp
  simp only [this]
  rw [if_pos ⟨h1, h2, trivial, hne, hp⟩]
/-! ### the three questions of law 3 -/
end Mine
end
-- part Y2e
set_option maxRecDepth 100000
noncomputable section
namespace Mine
open PySem PySem.W PySem.Calls PyProof.Rows PySem.Spec PySem.SeqAt PyProof.V
section
variable {w : World} {b : Heap}
/-! _ellipsis_match: 0 want, 1 got, 2 ws, 3 startpos, 4 endpos, 5 w -/
theorem wEll (F : F3 w b) : FunSpec pw w b 1 (.ref 53) (funP 2 4 (dEll)) :=
  fun_spec (name := "_ellipsis_match") (params := stArgs (st 6)) (body := stBody (st 6)) (scope := stScope (st 6)) (cd := .ref 52) (ps := ["want", "got"]) (ns := ["ws", "startpos", "endpos", "w"]) (n := 0)
    F.wd (F.kin 53 (o53_8 w.params) rfl) rfl ⟨52, _, _, _, rfl, F.kin 52 (o52_8 w.params) rfl, rfl, rfl⟩ (fun vs h => by obtain ⟨a, b, rfl⟩ := len_two h; rfl) (by decide +kernel) (all_loc (by decide +kernel)) (no_cd (by decide +kernel)) rfl rfl rfl
    fun b' L k K => (TS_cons (TX_if (TT_cmp (TE_glS K.ok (by kernel_rfl) (by kernel_rfl) (g_EM (F.up k))) (TE_loc K.ok (by kernel_rfl) (by kernel_rfl)) (by kernel_rfl)) (TS_cons (TX_ret (TE_cmp (TE_loc K.ok (by kernel_rfl) (by kernel_rfl)) (TE_loc K.ok (by kernel_rfl) (by kernel_rfl)) (by kernel_rfl))) TS_nil) TS_nil) (TS_cons (TX_new K.ok ⟨(by kernel_rfl), .inl (by kernel_rfl)⟩ (TN_split (TE_loc K.ok (by kernel_rfl) (by kernel_rfl)) (TE_glS K.ok (by kernel_rfl) (by kernel_rfl) (g_EM (F.up k))) (star_cons rfl) (by kernel_rfl) (by kernel_rfl)) (by kernel_rfl)) (TS_cons (TX_assert (TT_cmp (TE_lenO K.ok (by kernel_rfl) (by kernel_rfl) (g_len (F.up k)) (by kernel_rfl) (by kernel_rfl)) TE_int (by kernel_rfl))) (TS_cons (TX_asgs (names := ["startpos", "endpos"]) K.ok (TE_tup (TA_cons TE_int (TA_cons (TE_bf K.ok (by kernel_rfl) (by kernel_rfl) (g_len (F.up k)) (TA_cons (TE_loc K.ok (by kernel_rfl) (by kernel_rfl)) TA_nil (star_cons rfl))) TA_nil (star_cons rfl)) (star_cons rfl))) (by kernel_rfl) (by intro p hp; simp only [List.reverse_cons, List.reverse_nil, List.nil_append, List.cons_append, List.zip_cons_cons, List.zip_nil_right, List.mem_cons, List.not_mem_nil, or_false] at hp; rcases hp with rfl | rfl;  all_goals exact ⟨(by kernel_rfl), .inl (by kernel_rfl)⟩) (by kernel_rfl) (by kernel_rfl)) (TS_cons (TX_asg K.ok ⟨(by kernel_rfl), .inl (by kernel_rfl)⟩ (TE_itemO K.ok (by kernel_rfl) (by kernel_rfl) TE_int) (by kernel_rfl)) (TS_cons (TX_if (TT_val (TE_loc K.ok (by kernel_rfl) (by kernel_rfl)) (by kernel_rfl)) (TS_cons (TX_if (TT_val (TE_meth meth_startswith (TE_loc K.ok (by kernel_rfl) (by kernel_rfl)) (TA_cons (TE_loc K.ok (by kernel_rfl) (by kernel_rfl)) TA_nil (star_cons rfl)) (by kernel_rfl) (by kernel_rfl) (by decide)) (by kernel_rfl)) (TS_cons (TX_asg K.ok ⟨(by kernel_rfl), .inl (by kernel_rfl)⟩ (TE_bf K.ok (by kernel_rfl) (by kernel_rfl) (g_len (F.up k)) (TA_cons (TE_loc K.ok (by kernel_rfl) (by kernel_rfl)) TA_nil (star_cons rfl))) (by kernel_rfl)) (TS_cons (TX_del K.ok (by kernel_rfl) (by kernel_rfl) TE_int) TS_nil)) (TS_cons (TX_ret TE_bool) TS_nil)) TS_nil) TS_nil) (TS_cons (TX_asg K.ok ⟨(by kernel_rfl), .inl (by kernel_rfl)⟩ (TE_itemO K.ok (by kernel_rfl) (by kernel_rfl) (TE_neg TE_int)) (by kernel_rfl)) (TS_cons (TX_if (TT_val (TE_loc K.ok (by kernel_rfl) (by kernel_rfl)) (by kernel_rfl)) (TS_cons (TX_if (TT_val (TE_meth meth_endswith (TE_loc K.ok (by kernel_rfl) (by kernel_rfl)) (TA_cons (TE_loc K.ok (by kernel_rfl) (by kernel_rfl)) TA_nil (star_cons rfl)) (by kernel_rfl) (by kernel_rfl) (by decide)) (by kernel_rfl)) (TS_cons (TX_aug K.ok ⟨(by kernel_rfl), .inl (by kernel_rfl)⟩ (TE_bf K.ok (by kernel_rfl) (by kernel_rfl) (g_len (F.up k)) (TA_cons (TE_loc K.ok (by kernel_rfl) (by kernel_rfl)) TA_nil (star_cons rfl)))) (TS_cons (TX_del K.ok (by kernel_rfl) (by kernel_rfl) (TE_neg TE_int)) TS_nil)) (TS_cons (TX_ret TE_bool) TS_nil)) TS_nil) TS_nil) (TS_cons (TX_if (TT_cmp (TE_loc K.ok (by kernel_rfl) (by kernel_rfl)) (TE_loc K.ok (by kernel_rfl) (by kernel_rfl)) (by kernel_rfl)) (TS_cons (TX_ret TE_bool) TS_nil) TS_nil) (TS_cons (TX_for (TG_name K.ok ⟨(by kernel_rfl), .inl (by kernel_rfl)⟩) (TE_loc K.ok (by kernel_rfl) (by kernel_rfl)) (TS_cons (TX_asg K.ok ⟨(by kernel_rfl), .inl (by kernel_rfl)⟩ (TE_meth meth_find (TE_loc K.ok (by kernel_rfl) (by kernel_rfl)) (TA_cons (TE_loc K.ok (by kernel_rfl) (by kernel_rfl)) (TA_cons (TE_loc K.ok (by kernel_rfl) (by kernel_rfl)) (TA_cons (TE_loc K.ok (by kernel_rfl) (by kernel_rfl)) TA_nil (star_cons rfl)) (star_cons rfl)) (star_cons rfl)) (by kernel_rfl) (by kernel_rfl) (by decide)) (by kernel_rfl)) (TS_cons (TX_if (TT_cmp (TE_loc K.ok (by kernel_rfl) (by kernel_rfl)) TE_int (by kernel_rfl)) (TS_cons (TX_ret TE_bool) TS_nil) TS_nil) (TS_cons (TX_aug K.ok ⟨(by kernel_rfl), .inl (by kernel_rfl)⟩ (TE_bf K.ok (by kernel_rfl) (by kernel_rfl) (g_len (F.up k)) (TA_cons (TE_loc K.ok (by kernel_rfl) (by kernel_rfl)) TA_nil (star_cons rfl)))) TS_nil))) (fun _ => (by kernel_rfl))) (TS_cons (TX_ret TE_bool) TS_nil)))))))))))
theorem sEll (F : F3 w b) : FunSpec pw w b 1 (.ref 53) pEll := (wEll F).to ell_pure
end
end Mine
end
-- part Ev2
set_option maxRecDepth 100000
noncomputable section
namespace Mine
open PySem PySem.W PySem.Calls PyProof.Rows PySem.Spec PySem.SeqAt PyProof.V
/-! ## more steps of the evaluators, for laws 1 and 2 -/
noncomputable def md (z : Int) (m : Nat) : Nat := (z.fmod m).toNat
theorem md_is (z : Int) {m : Nat} (hm : 0 < m) : z.fmod (m : Int) = (md z m : Int) := by
  unfold md
  have h1 := Int.fmod_nonneg_of_pos z (show (0 : Int) < (m : Int) by omega)
  omega
theorem mod_md (z : Int) (m : Nat) (hm : 0 < m) : binV .Mod (.int z) (.int (m : Int)) = some (.int (md z m : Int)) := by
  show (if _ then none else some _) = _
  rw [if_neg (by omega), md_is z hm]
theorem item_nat (L : List V) (k : Nat) (hk : k < L.length) (hb : L.length ≤ big) : itemV (.list L) (.int (k : Int)) = L[k]? := by
  show (if L.length ≤ big then (idx L.length (k : Int)).bind fun j => L[j]? else none) = _
  rw [if_pos hb]
  have : idx L.length (k : Int) = some k := by
    unfold idx
    rw [if_pos (by omega), if_pos (by omega)]
    simp
  rw [this]
  rfl
theorem map_at {α : Type} (f : α → V) (l : List α) (dflt : α) (k : Nat) (hk : k < l.length) (hb : l.length ≤ big) : itemV (.list (l.map f)) (.int (k : Int)) = some (f (l.getD k dflt)) := by
  rw [item_nat _ _ (by rw [List.length_map]; exact hk) (by rw [List.length_map]; exact hb), List.getElem?_map, List.getElem?_eq_getElem hk, List.getD_eq_getElem?_getD, List.getElem?_eq_getElem hk]
  rfl
theorem mul_small (a b : Int) (h1 : -(2 ^ 60) < b) (h2 : b < 2 ^ 60) : binV .Mult (.int a) (.int b) = some (.int (a * b)) := if_pos ⟨h1, h2⟩
noncomputable def iV (n : Nat) : V := .int (n : Int)
theorem le_big {n : Nat} (h : n ≤ 1000) : n ≤ big := by unfold big; omega
theorem chr_ok (n : Nat) (h : n ≤ 1114111) : bfV .chr [.int (n : Int)] = some (.str [n]) := by
  show (if _ then some _ else none) = _
  rw [if_pos ⟨by omega, by omega⟩]
  simp
theorem getD_mem {α : Type} (l : List α) (d : α) (k : Nat) (h : k < l.length) : l.getD k d ∈ l := by
  rw [List.getD_eq_getElem?_getD, List.getElem?_eq_getElem h]
  exact List.getElem_mem h
theorem cutP_to {α : Type} {x : List α} {k : Nat} : cutP x none (some (k : Int)) = x.take k := by
  unfold cutP
  simp only [Option.elim, clipAt_nat, List.drop_zero, Nat.sub_zero]
  by_cases h : k ≤ x.length
  · rw [Nat.min_eq_left h]
  · rw [Nat.min_eq_right (by omega), List.take_of_length_le (by omega), List.take_of_length_le (by omega)]
theorem cutP_from {α : Type} {x : List α} {k : Nat} : cutP x (some (k : Int)) none = x.drop k := by
  unfold cutP
  simp only [Option.elim, clipAt_nat]
  by_cases h : k ≤ x.length
  · rw [Nat.min_eq_left h, List.take_of_length_le (by rw [List.length_drop]; omega)]
  · rw [Nat.min_eq_right (by omega), List.drop_eq_nil_of_le (Nat.le_refl _), List.drop_eq_nil_of_le (by omega)]
    simp
theorem slice_list_ok {x : List V} {lo hi : Option Int} (h : x.length ≤ big) : sliceV' (.list x) lo hi none = some (.list (cutP x lo hi)) := if_pos h
theorem slice_str_ok {x : List Nat} {lo hi : Option Int} (h : x.length ≤ big) : sliceV' (.str x) lo hi none = some (.str (cutP x lo hi)) := if_pos h
theorem ev_slice {σ σ1 σ2 σ3 σ4 : SL} {d : SL → Option (V × SL)} {l u st : SL → Option (Option Int × SL)} {a r : V} {x y z : Option Int} (h1 : d σ = some (a, σ1)) (h2 : l σ1 = some (x, σ2)) (h3 : u σ2 = some (y, σ3)) (h4 : st σ3 = some (z, σ4)) (h : sliceV' a x y z = some r) : dSlice d l u st σ = some (r, σ4) := by
  unfold dSlice
  rw [h1]; simp [h2, h3, h4, h]
theorem ev_some {σ σ1 : SL} {d : SL → Option (V × SL)} {i : Int} (h : d σ = some (.int i, σ1)) : pSome d σ = some (some i, σ1) := by
  unfold pSome; rw [h]
theorem ev_comp {σ σ1 ps : SL} {is : List Nat} {d : SL → Option (V × SL)} {st : V → SL → Option SL} {dt : SL → Option (Bool × SL)} {de : SL → Option (V × SL)} {a : V} {xs rs : List V} (h1 : d σ = some (a, σ1)) (h2 : iterV a = some xs) (h3 : xs.length ≤ big) (h4 : pickS σ1 is = some ps) (h5 : compL st dt de xs (.unset :: ps) = some rs) : dComp is d st dt de σ = some (.list rs, σ1) := by
  unfold dComp
  rw [h1]; simp [h2, h3, h4, h5]
theorem comp_map_mem {α : Type} (f : α → V) (g : α → V) (de : SL → Option (V × SL)) (ps : SL) : ∀ (l : List α) (s : Slot), (∀ x ∈ l, de (.val (f x) :: ps) = some (g x, .val (f x) :: ps)) → compL (gName 0) fNil de (l.map f) (s :: ps) = some (l.map g)
  | [], _, _ => rfl
  | x :: l, s, h => by
    have ih := comp_map_mem f g de ps l (.val (f x)) fun y hy => h y (by simp [hy])
    have hx := h x (by simp)
    rw [List.map_cons, compL]
    simp only [gName, fNil, Option.bind_some, List.set_cons_zero]
    simp [hx, ih]
theorem strsOf_mapV {α : Type} (f : α → List Nat) : ∀ l : List α, strsOf (l.map fun c => V.str (f c)) = some (l.map f)
  | [] => rfl
  | c :: l => by rw [List.map_cons, strsOf, strsOf_mapV f l]; rfl
theorem big_of {n : Nat} (h : n ≤ 4000000) : n ≤ big := by unfold big; omega
theorem joinL_nil : ∀ ss : List (List Nat), joinL [] ss = ss.flatten
  | [] => rfl
  | x :: xs => by simp [joinL]
theorem isnot_same (b : Bool) : cmpV .IsNot (.bool b) (.bool b) = some false := by
  show some (b != b) = _
  cases b <;> rfl
theorem rng_ok (a b : Int) (h1 : -(2 ^ 20 : Int) ≤ a) (h2 : a ≤ 2 ^ 20) (h3 : -(2 ^ 20 : Int) ≤ b) (h4 : b ≤ 2 ^ 20) : iterV (.rng a b) = some (rngL a b) := if_pos ⟨h1, h2, h3, h4⟩
theorem bi_add (a c : Int) : binV .Add (.int a) (.int c) = some (.int (a + c)) := rfl
theorem bi_sub (a c : Int) : binV .Sub (.int a) (.int c) = some (.int (a - c)) := rfl
theorem nat_add (a c : Nat) : binV .Add (.int (a : Int)) (.int (c : Int)) = some (.int ((a + c : Nat) : Int)) := rfl
theorem nat_sub {a c : Nat} (h : c ≤ a) : binV .Sub (.int (a : Int)) (.int (c : Int)) = some (.int ((a - c : Nat) : Int)) := by
  rw [bi_sub, show (a : Int) - (c : Int) = ((a - c : Nat) : Int) by omega]
theorem nat_mod (a m : Nat) (hm : 0 < m) : binV .Mod (.int (a : Int)) (.int (m : Int)) = some (.int ((a % m : Nat) : Int)) := by
  rw [mod_md _ m hm]
  unfold md
  rw [Int.fmod_eq_emod_of_nonneg _ (by omega)]
  rfl
theorem nat_div (a m : Nat) (hm : 0 < m) : binV .FloorDiv (.int (a : Int)) (.int (m : Int)) = some (.int ((a / m : Nat) : Int)) := by
  show (if _ then none else some _) = _
  rw [if_neg (by omega), Int.fdiv_eq_ediv_of_nonneg _ (by omega)]
  rfl
theorem str_add {a c : List Nat} (h : a.length + c.length ≤ 1000000) : binV .Add (.str a) (.str c) = some (.str (a ++ c)) := if_pos h
/-- a comprehension with a test, element by element -/
theorem comp_filt {α : Type} (f : α → V) (t : α → Bool) (g : α → V) (dt : SL → Option (Bool × SL)) (de : SL → Option (V × SL)) (ps : SL) : ∀ (l : List α) (s : Slot), (∀ x ∈ l, dt (.val (f x) :: ps) = some (t x, .val (f x) :: ps)) → (∀ x ∈ l, t x = true → de (.val (f x) :: ps) = some (g x, .val (f x) :: ps)) → compL (gName 0) dt de (l.map f) (s :: ps) = some ((l.filter t).map g)
  | [], _, _, _ => rfl
  | x :: l, s, h, h' => by
    have ih := comp_filt f t g dt de ps l (.val (f x)) (fun y hy => h y (by simp [hy])) (fun y hy => h' y (by simp [hy]))
    have hx := h x (by simp)
    have hx' := h' x (by simp)
    rw [List.map_cons, compL]
    simp only [gName, Option.bind_some, List.set_cons_zero]
    cases q : t x with
    | true => simp [hx, hx' q, ih, q]
    | false => simp [hx, ih, q]
theorem join_nil_ok {l : List (List Nat)} (h : (l.map List.length).sum ≤ 4000000) : bfV .join [.str [], .list (l.map V.str)] = some (.str l.flatten) := by
  show ((strsOf (l.map fun c => V.str c)).bind fun ss => if (ss.map List.length).sum + ss.length * ([] : List Nat).length ≤ big then some (V.str (joinL [] ss)) else none) = _
  rw [strsOf_mapV (fun c => c), Option.bind_some, List.map_id', if_pos (big_of (by simpa using h)), joinL_nil]
theorem len_list {l : List V} (h : l.length ≤ 4000000) : bfV .len [.list l] = some (.int (l.length : Int)) := if_pos (big_of h)
theorem join_of {α : Type} (f : α → List Nat) (l : List α) (h : (l.flatMap f).length ≤ 4000000) : bfV .join [.str [], .list (l.map fun c => .str (f c))] = some (.str (l.flatMap f)) := by
  have : (l.map fun c => V.str (f c)) = (l.map f).map V.str := by rw [List.map_map]; rfl
  rw [this, List.flatMap_def]
  refine join_nil_ok ?_
  rw [← List.length_flatten, ← List.flatMap_def]
  exact h
theorem rng_nat {a b : Nat} (h1 : a ≤ 1000000) (h2 : b ≤ 1000000) : iterV (.rng (a : Int) (b : Int)) = some ((List.range (b - a)).map fun (k : Nat) => V.int ((a + k : Nat) : Int)) := by
  rw [rng_ok _ _ (by omega) (by omega) (by omega) (by omega)]
  unfold rngL
  rw [show ((b : Int) - (a : Int)).toNat = b - a by omega]
  rfl
theorem rng_zero {b : Nat} (h2 : b ≤ 1000000) : iterV (.rng 0 (b : Int)) = some ((List.range b).map fun (k : Nat) => V.int (k : Int)) := by
  have := rng_nat (a := 0) (b := b) (by decide) h2
  simpa using this
theorem iter_str {x : List Nat} (h : x.length ≤ 4000000) : iterV (.str x) = some (x.map fun c => .str [c]) := rfl
theorem pow_nat (a k : Nat) (h1 : a < 100) (h2 : k < 1000) : binV .Pow (.int (a : Int)) (.int (k : Int)) = some (.int ((a ^ k : Nat) : Int)) := by
  show (if _ then some (V.int ((a : Int) ^ (k : Int).toNat)) else none) = _
  rw [if_pos ⟨by omega, by omega, by omega, by omega⟩]
  simp
theorem eq_nat (a c : Nat) : cmpV .Eq (.int (a : Int)) (.int (c : Int)) = some (a == c) := by
  show some ((a : Int) == (c : Int)) = _
  by_cases h : a = c
  · subst h; simp
  · rw [beq_eq_false_iff_ne.mpr h, beq_eq_false_iff_ne.mpr (by omega)]
theorem le_nat (a c : Nat) : cmpV .LtE (.int (a : Int)) (.int (c : Int)) = some (decide (a ≤ c)) := by
  show some (decide ((a : Int) ≤ (c : Int))) = _
  congr 1
  by_cases h : a ≤ c
  · rw [decide_eq_true h, decide_eq_true (by omega)]
  · rw [decide_eq_false h, decide_eq_false (by omega)]
theorem eq_str (a c : List Nat) : cmpV .Eq (.str a) (.str c) = some (a == c) := rfl
theorem digV_is (n : Nat) : digV (n : Int) = (Nat.toDigits 10 n).map Char.toNat := by
  show (cpsOfBytes 0 0 (Nat.repr n).toByteArray.data.toList).toArray.toList = _
  rw [cpsOfBytes_string]
  unfold Nat.repr
  simp
theorem digV_len {n : Nat} (h : n < 10 ^ 4) : (digV (n : Int)).length ≤ 4 := by
  rw [digV_is, List.length_map]
  exact (Nat.length_toDigits_le_iff (by decide) (by decide)).mpr h
theorem str_ok1 {k : Int} (h1 : 0 ≤ k) (h2 : k < 2 ^ 60) : bfV .str [.int k] = some (.str (digV k)) := if_pos ⟨h1, h2⟩
theorem small_lt {n : Nat} (h : n < 10 ^ 4) : (n : Int) < 2 ^ 60 := by
  have h1 : (n : Int) < 10000 := by omega
  exact Int.lt_trans h1 (by decide)
theorem str_nat {n : Nat} (h : n < 10 ^ 4) : bfV .str [.int (n : Int)] = some (.str (digV (n : Int))) := str_ok1 (Int.natCast_nonneg n) (small_lt h)
theorem ne_str (a c : List Nat) : cmpV .NotEq (.str a) (.str c) = some (a != c) := rfl
noncomputable def ar3 (f : V → V → V → Option V) : List V → Option V
  | [a, b, c] => f a b c
  | _ => none
theorem ar3_some {f : V → V → V → Option V} {xs : List V} {r : V} (h : ar3 f xs = some r) : ∃ a b c, xs = [a, b, c] ∧ f a b c = some r := by
  unfold ar3 at h
  split at h
  · exact ⟨_, _, _, rfl, h⟩
  · cases h
noncomputable def oneC (f : Nat → Option V) : List Nat → Option V
  | [c] => f c
  | _ => none
theorem oneC_some {f : Nat → Option V} {x : List Nat} {r : V} (h : oneC f x = some r) : ∃ c, x = [c] ∧ f c = some r := by
  unfold oneC at h
  split at h
  · exact ⟨_, rfl, h⟩
  · cases h
theorem mod6 {k : Nat} (h : k < 6) : k = 1 ∨ k = 2 ∨ k = 3 ∨ k = 4 ∨ k = 0 ∨ k = 5 := by omega
end Mine
end
-- part Y2r
set_option maxRecDepth 100000
noncomputable section
namespace Mine
open PySem PySem.W PySem.Calls PyProof.Rows PySem.Spec PySem.SeqAt PyProof.V
section
variable {w : World} {b : Heap}
/-! ## parse257, where it raises -/
noncomputable def rPar : List V → Option (List Nat)
  | [.str x] => if x.length ≤ 500000 ∧ x.take 3 ≠ [50, 53, 55] then some x else none
  | _ => none
theorem rPar_spec (F : F3 w b) : RaiseSpec pw w b 1 (.ref 46) 37 rPar :=
  raise_spec (name := "parse257") (params := stArgs (st 3)) (scope := stScope (st 3)) (cd := .ref 45) (ps := ["resp"]) (ns := ["dirname", "i", "n", "c"]) (n := 0) (x := "error_reply") (dt := tCmp .NotEq (dSlice (dLoc 0) pNone (pSome (dConst (.int 3))) pNone) (dConst (.str [50, 53, 55]))) (de := dLoc 0)
    (body := stBody (st 3)) (hbody := rfl)
    F.wd (F.kin 46 (o46_5 w.params) rfl) rfl ⟨45, _, _, _, rfl, F.kin 45 (o45_5 w.params) rfl, rfl, rfl⟩ (fun vs h => by obtain ⟨a, rfl⟩ := len_one h; rfl) (by decide +kernel) (all_loc (by decide +kernel)) (no_cd (by decide +kernel)) rfl rfl rfl
    (own_exc F) (g_exc F) (by decide +kernel)
    (fun b' L k K => ⟨TT_cmp (TE_slice (TE_loc K.ok (by kernel_rfl) (by kernel_rfl)) TP_none (TP_some TE_int) TP_none) (TE_str (by kernel_rfl)) (by kernel_rfl), TE_loc K.ok (by kernel_rfl) (by kernel_rfl), by kernel_rfl, star_cons rfl⟩)
    (fun xs y h => by
      unfold rPar at h
      split at h
      · rename_i x
        split at h
        · rename_i hc
          obtain ⟨hx, h3⟩ := hc
          cases h
          have s1 : sliceV' (.str y) none (some 3) none = some (.str (y.take 3)) := by
            rw [slice_str_ok (big_of (by omega)), show (3 : Int) = ((3 : Nat) : Int) from rfl, cutP_to]
          have c1 : cmpV .NotEq (.str (y.take 3)) (.str [50, 53, 55]) = some true := by
            show some (y.take 3 != [50, 53, 55]) = _
            rw [bne_iff_ne.mpr h3]
          exact ⟨rfl, [.val (.str y), .unset, .unset, .unset, .unset], [.val (.str y), .unset, .unset, .unset, .unset], ev_test (ev_slice rfl rfl (ev_some rfl) rfl s1) rfl c1, rfl⟩
        · cases h
      · cases h)
end
end Mine
end
-- part Y2u
set_option maxRecDepth 100000
noncomputable section
namespace Mine
open PySem PySem.W PySem.Calls PyProof.Rows PySem.Spec PySem.SeqAt PyProof.V
/-! ## the table B.3 as figures -/
noncomputable def mapN (c : Nat) : List Nat := mapB3 c
theorem mapB3_lit (c : Nat) : mapB3 c = mapN c := rfl
noncomputable def hB (c : Nat) : List Nat := if sB1 c then [] else mapN c
end Mine
end
-- part P4a
set_option maxRecDepth 100000
noncomputable section
namespace Mine
open PySem PySem.W PySem.Calls PyProof.Rows PySem.Spec PySem.SeqAt PyProof.V Builtin.Str
/-! ## find, and what a pattern of dots answers, in general -/
theorem findN_spec {x y : List Nat} {lo hi i : Nat} (h : findN x y lo hi = some i) : lo ≤ i ∧ i + y.length ≤ hi ∧ (x.drop i).take y.length = y ∧ ∀ k, lo ≤ k → k + y.length ≤ hi → (x.drop k).take y.length = y → i ≤ k := by
  obtain ⟨h1, h2⟩ := findN_range h
  refine ⟨h1, h2, ?_, fun k q1 q2 q3 => ?_⟩
  · unfold findN at h
    have := List.find?_some h
    simp only [Bool.and_eq_true, decide_eq_true_eq, beq_iff_eq] at this
    exact this.2
  · obtain ⟨i', e, _, l⟩ := findN_some q1 q2 q3
    rw [h] at e
    cases e
    exact l
theorem pre_is (a got : List Nat) : preB a got = (got.take a.length == a) := by
  unfold preB
  by_cases h : a.length ≤ got.length
  · rw [decide_eq_true h, Bool.true_and]
  · rw [decide_eq_false h, Bool.false_and]
    symm
    apply beq_eq_false_iff_ne.mpr
    intro q
    have := congrArg List.length q
    rw [List.length_take] at this
    omega
/-- two pieces -/
theorem pEll_two {a c got : List Nat} (ha : 46 ∉ a) (hc : 46 ∉ c) (h1 : a.length + c.length ≤ 1000) (h2 : got.length ≤ 1000) (p : preB a got = true) (s : sufB c got = true) : pEll [.str (a ++ dots ++ c), .str got] = some (.bool (decide (a.length + c.length ≤ got.length))) := by
  have e : a ++ dots ++ c = joinL dots [a, c] := by simp [joinL]
  rw [e, pEll_join [a, c] got (by simp) (by simp [ha, hc]) (by rw [← e]; simp [dots]; omega) (by omega)]
  show some (V.bool (ellP a [] c got)) = _
  unfold ellP
  rw [p, s]
  simp [ellL]
theorem ellL_one (x y : List Nat) (hi lo : Nat) : ellL x hi [y] lo = (findN x y lo hi).isSome := by
  rw [ellL]
  cases findN x y lo hi <;> rfl
end Mine
end
-- part Rules30
set_option maxRecDepth 100000
namespace Mine
open PySem PySem.W PySem.Calls PyProof.Rows PySem.Spec PySem.SeqAt
/-! ## a comprehension that reads a list of the frame's own -/
section
variable {prog : Program} {w : World} {C : Cx} {σ σ' σ₀ σ1 σ2 : SL} {ad ad' ad₀ : Nat → Addr} {g g' g₀ : GP} {h h' h₀ : Heap}
theorem Itr.mono {A : Around} {xs : List V} {I : Addr} {fp : List Addr} {Pv : Nat → Value → Prop} {St' : Nat → Heap → Prop} (it : Itr prog w A g xs I fp Pv St') (k : GExt g g') : Itr prog w A g' xs I fp Pv St' :=
  ⟨it.walks, it.data, fun i v x a e => (it.rep i v x a e).mono k, fun b hb => (it.fpOk b hb).imp id fun ⟨o, e⟩ => ⟨o, k b o e⟩⟩
noncomputable def flatV : V → Bool
  | .none => true
  | .bool _ => true
  | .int _ => true
  | .str _ => true
  | _ => false
theorem flat_rv {a : V} {v : Value} (hf : flatV a = true) (h : RV g a v) : RV g' a v := by
  cases a with
  | none => exact h
  | bool b => exact h
  | int i => exact h
  | str x => exact h
  | list xs => cases hf
  | tup xs => cases hf
  | rng a b => cases hf
theorem flat_rvs : ∀ {xs : List V} {vs : List Value}, xs.all flatV = true → RVs g xs vs → RVs g' xs vs
  | [], _, _, h => h
  | x :: xs, _, hf, ⟨v, r, e, h, hs⟩ => by
    rw [List.all_cons, Bool.and_eq_true] at hf
    exact ⟨v, r, e, flat_rv hf.1 h, flat_rvs hf.2 hs⟩
noncomputable def dCompO (i : Nat) (is : List Nat) (d : SL → Option (V × SL)) (st : V → SL → Option SL) (dt : SL → Option (Bool × SL)) (de : SL → Option (V × SL)) : SL → Option (V × SL) := fun σ =>
  (d σ).bind fun p => (iterV p.1).bind fun xs => if xs.length ≤ big then match p.2[i]? with
    | some (.own ys) => (pickS (p.2.set i (.val (.list ys))) is).bind fun ps => (compL st dt de xs (.unset :: ps)).bind fun rs => if rs.all flatV then some (.list rs, p.2) else none
    | _ => none else none
theorem dCompO_some {i : Nat} {is : List Nat} {d : SL → Option (V × SL)} {st : V → SL → Option SL} {dt : SL → Option (Bool × SL)} {de : SL → Option (V × SL)} {a : V} (hd : dCompO i is d st dt de σ = some (a, σ')) :
    ∃ b xs ys ps rs, d σ = some (b, σ') ∧ iterV b = some xs ∧ xs.length ≤ big ∧ σ'[i]? = some (.own ys) ∧ pickS (σ'.set i (.val (.list ys))) is = some ps ∧ compL st dt de xs (.unset :: ps) = some rs ∧ rs.all flatV = true ∧ a = .list rs := by
  unfold dCompO at hd
  obtain ⟨⟨b, σ1⟩, e1, hd⟩ := Option.bind_eq_some_iff.mp hd
  obtain ⟨xs, e2, hd⟩ := Option.bind_eq_some_iff.mp hd
  split at hd
  · rename_i hx
    split at hd
    · rename_i ys hys
      obtain ⟨ps, e3, hd⟩ := Option.bind_eq_some_iff.mp hd
      obtain ⟨rs, e4, hd⟩ := Option.bind_eq_some_iff.mp hd
      split at hd
      · rename_i hf
        cases hd
        exact ⟨b, xs, ys, ps, rs, e1, e2, hx, hys, e3, e4, hf, rfl⟩
      · cases hd
    · cases hd
  · cases hd
theorem ev_compO {i : Nat} {is : List Nat} {d : SL → Option (V × SL)} {st : V → SL → Option SL} {dt : SL → Option (Bool × SL)} {de : SL → Option (V × SL)} {a : V} {xs ys rs : List V} {ps : SL} (h1 : d σ = some (a, σ1)) (h2 : iterV a = some xs) (h3 : xs.length ≤ big) (h0 : σ1[i]? = some (.own ys)) (h4 : pickS (σ1.set i (.val (.list ys))) is = some ps) (h5 : compL st dt de xs (.unset :: ps) = some rs) (h6 : rs.all flatV = true) : dCompO i is d st dt de σ = some (.list rs, σ1) := by
  unfold dCompO
  rw [h1, Option.bind_some, h2, Option.bind_some, if_pos h3]
  dsimp only
  rw [h0]
  dsimp only
  rw [h4, Option.bind_some, h5, Option.bind_some, if_pos h6]
theorem TE_compO {i : Nat} {elt iter : Expr} {x : Str} {px : Pos} {ifs : List Expr} {scope : Scope} {cl : List (Str × Addr)} {fns : List Str} {is : List Nat} {pos : Pos} {d : SL → Option (V × SL)} {st : V → SL → Option SL} {dt : SL → Option (Bool × SL)} {de : SL → Option (V × SL)}
    (K : CK prog C) (ok : CompOk C scope cl x fns is) (W : CompW prog w C scope cl x px fns ifs elt st dt de) (h : TE prog w C iter d) (hs : ∀ v, foldedSetIterable iter C.env v = pure v) :
    TE prog w C (.ListComp elt [⟨.Name x px, iter, ifs, 0⟩] scope pos) (dCompO i is d st dt de) := .mk fun A E Q s σ σ' ad g a hA S hd hq => by
  obtain ⟨b, xs, ys, ps, rs, e1, e2, e3, e0, e4, e5, hf, rfl⟩ := dCompO_some hd
  rw [eval_ListComp]
  refine wpAny_comprehension_free (use := none) rfl hs ok.clos ok.kind ok.names (h.go A E _ s σ σ' ad g b hA S e1 fun v h1 tk1 ad1 g1 P1 rv => iter_go (s := { s with heap := h1, toks := tk1 }) P1.st.gs hA.handled e2 rv fun I h2 fp Pv St' hI gr it sti => ?_)
  obtain ⟨oO, _, PF, _⟩ := P1.st.freeze e0
  refine comp_block (s₂ := { s with heap := h2, toks := tk1 }) (RR := fun acc L => compPost (model prog w) A E none Q acc L) K ok W hA PF.st gr hI (it.mono PF.gext) sti e3 e4 e5 fun D L h' tk vs g' m nD nL hDL gr' hpl rvs gs gx gn gD gL hn => ?_
  refine ⟨m, hn, fun h'' hs'' => ?_⟩
  have nLr : ∀ b o, h1.get? b = some o → b ≠ L := fun b o e q => by subst q; rw [nL] at e; cases e
  have gr'' : Grow h1 h'' := fun b o e => hs''.extBut b o (nLr b o e) (gr' b o e)
  obtain ⟨n, hpl⟩ := hpl
  have hD'' := hs''.extBut _ _ hDL hpl
  have g1D : g1 D = none := by
    cases q : g1 D with
    | none => rfl
    | some o => rw [(P1.st.gsub D o q).1] at nD; cases nD
  have P2 := P1.st.grow (g' := gput g1 D _) gr'' (gput_ext g1D) (fun a o e => by
    unfold gput at e
    by_cases q : a = D
    · subst q; rw [if_pos rfl] at e; cases e; exact ⟨hD'', .inl ⟨_, _, rfl⟩⟩
    · rw [if_neg q] at e
      exact ⟨gr'' a o (P1.st.gsub a o e).1, (P1.st.gsub a o e).2⟩) (fun a o e => by
    unfold gput at e
    by_cases q : a = D
    · subst q; exact .inr nD
    · rw [if_neg q] at e; exact .inl e)
  exact hq (.ref D) h'' tk ad1 _ (P1.trans P2) ⟨D, vs, rfl, ⟨_, gput_self, rfl, _, rfl⟩, flat_rvs hf rvs⟩
theorem TX_asgcO {k : Nat} {elt iter : Expr} {x y : Str} {i : Nat} {px py : Pos} {ifs : List Expr} {scope : Scope} {cl : List (Str × Addr)} {fns : List Str} {is : List Nat} {pos spos : Pos} {d : SL → Option (V × SL)} {st : V → SL → Option SL} {dt : SL → Option (Bool × SL)} {de : SL → Option (V × SL)}
    (K : CK prog C) (ok : CompOk C scope cl x fns is) (W : CompW prog w C scope cl x px fns ifs elt st dt de) (h : TE prog w C iter d) (hs : ∀ v, foldedSetIterable iter C.env v = pure v) (hy : Storable C i y)
    (hsw : swapsWith (.ListComp elt [⟨.Name x px, iter, ifs, 0⟩] scope pos) (some (.Name y py)) spos.line C.env = pure true) :
    TX prog w C (.Assign [.Name y py] (.ListComp elt [⟨.Name x px, iter, ifs, 0⟩] scope pos) spos) (sAsg i (dCompO k is d st dt de)) := .mk fun A E Q s σ ad g r hA S hd hq => by
  unfold sAsg at hd
  obtain ⟨⟨a, σ'⟩, hd2, hr⟩ := Option.map_eq_some_iff.mp hd
  cases hr
  obtain ⟨b, xs, ys, ps, rs, e1, e2, e3, e0, e4, e5, hf, rfl⟩ := dCompO_some hd2
  rw [exec_Assign_Name_used _ _ _ _ hsw]
  refine wpAny_bind (wpAny_standAt (wpAny_bind ?_))
  show wpAny _ A (do let _ ← comprehension (.ListComp elt [⟨.Name x px, iter, ifs, 0⟩] scope pos) scope C.env _ (newList []) false (eval iter C.env) (some (assign (.Name y py) C.env))) _ _ s
  refine wpAny_bind (wpAny_mono (wpAny_comprehension_free (use := some (assign (.Name y py) C.env)) (Q := fun _ s' => Q .next s') rfl hs ok.clos ok.kind ok.names
    (h.go A E _ s σ σ' ad g b hA S e1 fun v h1 tk1 ad1 g1 P1 rv => iter_go (s := { s with heap := h1, toks := tk1 }) P1.st.gs hA.handled e2 rv fun I h2 fp Pv St' hI gr it sti => ?_)) (fun _ s' hq => wpAny_pure (wpAny_pure hq)) fun _ _ e => e)
  obtain ⟨oO, _, PF, _⟩ := P1.st.freeze e0
  refine comp_block (s₂ := { s with heap := h2, toks := tk1 }) (RR := fun acc L => compPost (model prog w) A E (some (assign (.Name y py) C.env)) (fun _ s' => Q .next s') acc L) K ok W hA PF.st gr hI (it.mono PF.gext) sti e3 e4 e5 fun D L h' tk vs g' m nD nL hDL gr' hpl rvs gs gx gn gD gL hn => ?_
  show wpAny _ A (assign (.Name y py) C.env (.ref D)) _ _ _
  obtain ⟨n, hpl⟩ := hpl
  have g1n : ∀ Z, h1.get? Z = none → g1 Z = none := fun Z nZ => by
    cases q : g1 Z with
    | none => rfl
    | some o => rw [(P1.st.gsub Z o q).1] at nZ; cases nZ
  have P2 := P1.st.grow (g' := gput g1 D _) gr' (gput_ext (g1n D nD)) (fun a o e => by
    unfold gput at e
    by_cases q : a = D
    · subst q; rw [if_pos rfl] at e; cases e; exact ⟨hpl, .inl ⟨_, _, rfl⟩⟩
    · rw [if_neg q] at e
      exact ⟨gr' a o (P1.st.gsub a o e).1, (P1.st.gsub a o e).2⟩) (fun a o e => by
    unfold gput at e
    by_cases q : a = D
    · subst q; exact .inr nD
    · rw [if_neg q] at e; exact .inl e)
  have P3 := P1.trans P2
  obtain ⟨oL, es, ep, eL, edL, efL⟩ := hn
  have hmL : ¬ Mut C σ' ad1 L := fun hm => by
    obtain ⟨_, _, o, e⟩ := P1.st.mutNew L hm
    rw [nL] at e; cases e
  refine wpAny_assign_Name (store_val (s := { s with heap := h', toks := tk }) K.ok (Post.refl P2.st) hy.1 hy.2 (a := .list rs) ⟨D, vs, rfl, ⟨_, gput_self, rfl, _, rfl⟩, flat_rvs hf rvs⟩ fun h3 tk3 ad3 P4 => ?_)
  obtain ⟨kL, kmL⟩ := P4.keep L oL eL hmL
  have P5 := P3.toPost.trans P4
  refine ⟨m, ⟨oL, es, ep, kL, edL, efL⟩, fun h'' hs'' => hq .next h'' _ ad3 _ { st := ?_, keep := fun b o e nm => ?_, gext := P5.gext, gnew := P5.gnew } rfl⟩
  · refine P5.st.touch kL ?_ ?_ kmL (fun ov q => by rw [edL] at q; cases q) fun b o q e => (hs''.2 b q).trans e
    · unfold gput
      rw [if_neg (Ne.symm hDL)]; exact g1n L nL
    · cases q : C.base.get? L with
      | none => rfl
      | some o => rw [P1.st.hbase L o q] at nL; cases nL
  · obtain ⟨q1, q2⟩ := P5.keep b o e nm
    refine ⟨(hs''.2 b fun q => ?_).trans q1, q2⟩
    subst q
    rw [(P1.keep b o e nm).1] at nL; cases nL
end
end Mine
-- part Rules31
set_option maxRecDepth 100000
namespace Mine
open PySem PySem.W PySem.Calls PyProof.Rows PySem.Spec PySem.SeqAt
/-! ## a dict display, read at once -/
section
variable {prog : Program} {w : World} {C : Cx} {σ σ' σ₀ σ1 σ2 : SL} {ad ad' ad₀ : Nat → Addr} {g g' g₀ : GP} {h h' h₀ : Heap}
structure TD (prog : Program) (w : World) (C : Cx) (keys : List (Option Expr)) (values : List Expr) (kl : List (List Nat)) (ds : SL → Option (List V × SL)) : Prop where
  some : keys.all (·.isSome) = true
  len : keys.length = values.length
  klen : keys.length = kl.length
  go : ∀ (A : Around) (E : Value → Shared → Prop) (Q : List (Value × Value) → Shared → Prop) (s : Shared) (σ σ' : SL) (ad : Nat → Addr) (g : GP) (xs : List V) (pos : Pos), AOk C.n A → St C σ ad g s.heap → ds σ = .some (xs, σ') →
    (∀ pv vals h' tk ad' g', PostE C σ ad g s.heap σ' ad' g' h' → Carries (strKind prog w) pv ((kl.map mkS).zip vals) → vals.length = kl.length → RVs g' xs vals → Q pv { s with heap := h', toks := tk }) →
    wpAny (model prog w) A (evalPairs (pairTrees keys values C.env pos)) Q E s
theorem TD_nil : TD prog w C [] [] [] aNil where
  some := rfl
  len := rfl
  klen := rfl
  go := fun A E Q s σ σ' ad g xs pos hA S hd hq => by
    cases hd
    exact pairTrees_nil_walk (hq [] [] s.heap s.toks ad g (.refl S) trivial rfl rfl)
theorem TD_cons {x : Str} {l : List Nat} {n : Nat} {kp : Pos} {v : Expr} {ks : List (Option Expr)} {vs : List Expr} {kl : List (List Nat)} {d : SL → Option (V × SL)} {ds : SL → Option (List V × SL)} (e : x = mkS l) (h1 : TE prog w C v d) (h2 : TD prog w C ks vs kl ds) :
    TD prog w C (.some (.Constant (.str x) n kp) :: ks) (v :: vs) (l :: kl) (aCons d ds) where
  some := by rw [List.all_cons, h2.some]; rfl
  len := by rw [List.length_cons, List.length_cons, h2.len]
  klen := by rw [List.length_cons, List.length_cons, h2.klen]
  go := fun A E Q s σ σ' ad g xs pos hA S hd hq => by
    subst e
    unfold aCons at hd
    obtain ⟨⟨a, σ1⟩, e1, hd⟩ := Option.bind_eq_some_iff.mp hd
    obtain ⟨⟨as, σ2⟩, e2, hd⟩ := Option.map_eq_some_iff.mp hd
    cases hd
    refine pairTrees_cons_walk (wpAny_Constant_str (h1.go A E _ _ σ σ1 ad g a hA S e1 fun v h' tk ad' g' P rv => h2.go A E _ _ σ1 _ ad' g' as pos hA P.st e2 fun pv vals h2 tk2 ad2 g2 P2 cr hl rvs => ?_))
    refine hq _ (v :: vals) _ _ _ _ (P.trans P2) ⟨?_, rfl, cr⟩ (by rw [List.length_cons, List.length_cons, hl]) ⟨v, vals, rfl, rv.mono P2.gext, rvs⟩
    show Value.isStrOf (mkS l) (.str (mkS l) s.toks) = true
    unfold Value.isStrOf
    exact beq_self_eq_true _
noncomputable def lkK (kl : List (List Nat)) (xs : List V) (k : List Nat) : Option V := ((kl.zip xs).find? fun p => p.1 == k).map (·.2)
noncomputable def dDictI (kl : List (List Nat)) (ds : SL → Option (List V × SL)) (di : SL → Option (V × SL)) : SL → Option (V × SL) := fun σ => (ds σ).bind fun p => (di p.2).bind fun q => match q.1 with
  | .str k => (lkK kl p.1 k).map (·, q.2)
  | _ => none
theorem mkS_inj {x y : List Nat} (h : mkS x = mkS y) : x = y := by
  have : (mkS x).cps.toList = (mkS y).cps.toList := by rw [h]
  simpa using this
theorem value_zip {g : GP} : ∀ {kl : List (List Nat)} {xs : List V} {vals : List Value} {k : List Nat} {r : V}, RVs g xs vals → lkK kl xs k = some r → ∃ v, valueAt ((kl.map mkS).zip vals) (mkS k) = some v ∧ RV g r v
  | [], _, _, _, _, _, h => by unfold lkK at h; cases h
  | l :: kl, [], _, _, _, _, h => by unfold lkK at h; cases h
  | l :: kl, x :: xs, _, k, r, ⟨v, vs, e, rv, rvs⟩, h => by
    subst e
    unfold lkK at h
    rw [List.zip_cons_cons, List.find?_cons] at h
    by_cases q : l = k
    · subst q
      rw [beq_self_eq_true] at h
      cases h
      refine ⟨v, ?_, rv⟩
      unfold valueAt
      rw [List.map_cons, List.zip_cons_cons, List.find?_cons]
      simp
    · rw [beq_eq_false_iff_ne.mpr q] at h
      obtain ⟨v', e1, e2⟩ := value_zip rvs (show lkK kl xs k = some r from h)
      refine ⟨v', ?_, e2⟩
      unfold valueAt
      rw [List.map_cons, List.zip_cons_cons, List.find?_cons]
      have : decide (mkS l = mkS k) = false := decide_eq_false fun z => q (mkS_inj z)
      simp only [this]
      exact e1
theorem TE_dictI {keys : List (Option Expr)} {values : List Expr} {kl : List (List Nat)} {slice : Expr} {pos pos2 : Pos} {ds : SL → Option (List V × SL)} {di : SL → Option (V × SL)}
    (h1 : TD prog w C keys values kl ds) (h2 : TE prog w C slice di) (h0 : keys ≠ []) (hlen : keys.length ≤ 15) (hnd : kl.Nodup) : TE prog w C (.Subscript (.Dict keys values pos) slice pos2) (dDictI kl ds di) := .mk fun A E Q s σ σ' ad g a hA S hd hq => by
  unfold dDictI at hd
  obtain ⟨⟨xs, σ1⟩, e1, hd⟩ := Option.bind_eq_some_iff.mp hd
  obtain ⟨⟨kv, σ2⟩, e2, hd⟩ := Option.bind_eq_some_iff.mp hd
  dsimp only at e2 hd
  cases kv <;> try cases hd
  rename_i k
  obtain ⟨r, e3, hd⟩ := Option.map_eq_some_iff.mp hd
  cases hd
  have nD := none_at s.heap
  have gD0 : g s.heap.objs.size = none := by
    cases q : g s.heap.objs.size with
    | none => rfl
    | some o => rw [(S.gsub _ o q).1] at nD; cases nD
  have mD0 : ¬ Mut C σ ad s.heap.objs.size := fun hm => by
    obtain ⟨_, _, o, e⟩ := S.mutNew _ hm
    rw [nD] at e; cases e
  have bD : C.base.get? s.heap.objs.size = none := by
    cases q : C.base.get? s.heap.objs.size with
    | none => rfl
    | some o => rw [S.hbase _ o q] at nD; cases nD
  have gr0 : Grow s.heap (s.heap.push { cls := .type "dict", data := .dict #[] }) := (Grow.refl s.heap).push _
  have S0 := S.grow0 gr0
  have hD0 : (s.heap.push { cls := .type "dict", data := .dict #[] }).get? s.heap.objs.size = some { cls := .type "dict", data := .dict #[] } := Heap.get?_push_size _ rfl
  refine Subscript_ (wpAny_Dict_walk (knd := strKind prog w) h1.some h1.len h0 hlen (h1.go A E _ _ σ σ1 ad g xs pos hA S0.st e1 fun pv vals h' tk ad' g' P cr hl rvs => ⟨_, cr, ?_, fun h2' hdo hsb => ?_⟩))
  · exact ⟨_, _, _, (P.keep _ _ hD0 mD0).1, ⟨rfl, rfl, rfl⟩, rfl, (fun e he => by simp at he), .nil, List.nodup_nil⟩
  · obtain ⟨kD, kmD⟩ := P.keep _ _ hD0 mD0
    have gD' : g' s.heap.objs.size = none := by
      cases q : g' s.heap.objs.size with
      | none => rfl
      | some o =>
        rcases P.gnew _ o q with e | e | e
        · rw [gD0] at e; cases e
        · rw [hD0] at e; cases e
        · exact absurd e mD0
    have keepD : ∀ b o, b ≠ s.heap.objs.size → h'.get? b = some o → h2'.get? b = some o := fun b o q e => (hsb.2 b q).trans e
    have S2 := P.st.touch kD gD' bD kmD (fun ov q => by cases q) keepD
    have P2 : PostE C σ ad g s.heap σ1 ad' g' h2' := {
      st := S2
      keep := fun b o e nm => by
        obtain ⟨q1, q2⟩ := P.keep b o (gr0 b o e) nm
        exact ⟨keepD b o (fun q => by subst q; rw [nD] at e; cases e) q1, q2⟩
      gext := P.gext
      gnew := fun b o e => by
        rcases P.gnew b o e with q | q | q
        · exact .inl q
        · refine .inr (.inl ?_)
          cases z : s.heap.get? b with
          | none => rfl
          | some o' => rw [gr0 b o' z] at q; cases q
        · exact .inr (.inr q)
      same := P.same }
    refine h2.go A E _ _ σ1 σ' ad' g' _ hA S2 e2 fun v2 h3 tk3 ad3 g3 P3 rv2 => ?_
    obtain ⟨t, rfl⟩ := rv2
    rw [merged_nil_of_nodup _ (by
      rw [List.map_fst_zip (by rw [List.length_map, hl]; exact Nat.le_refl _)]
      exact (List.pairwise_map.mpr (hnd.imp fun hne e => hne (mkS_inj e)))) ] at hdo
    obtain ⟨v, f1, f2⟩ := value_zip (rvs.mono P3.gext) e3
    obtain ⟨o, es, ep, z1, z2⟩ := hdo
    have hdo3 : h3.DictOf (strKind prog w) s.heap.objs.size ((kl.map mkS).zip vals) := ⟨o, es, ep, (P3.keep _ o z1 (by
      intro hm
      have := P2.st
      exact kmD (by simpa using hm))).1, z2⟩
    refine tail_of (s := { s with heap := h3, toks := tk3 }) hdo3.mapOf.typeIs slot_dict_getitem.lookup (wpAny_getItem_of (knd := strKind prog w) (k := mkS k) ?_ hdo3.mapOf f1 (hq v h3 _ ad3 g3 (P2.trans P3) f2))
    show Value.isStrOf (mkS k) (.str (mkS k) t) = true
    unfold Value.isStrOf
    exact beq_self_eq_true _
end
end Mine
-- part Rules32
set_option maxRecDepth 100000
namespace Mine
open PySem PySem.W PySem.Calls PyProof.Rows PySem.Spec PySem.SeqAt
/-! ## a text ahead of a replacing in a name's text -/
section
variable {prog : Program} {w : World} {C : Cx} {σ σ' σ₀ σ1 σ2 : SL} {ad ad' ad₀ : Nat → Addr} {g g' g₀ : GP} {h h' h₀ : Heap}
noncomputable def repR (x y z : List Nat) : List Nat := (Txt.replace (mkS x) (mkS y) (mkS z)).cps.toList
noncomputable def dRep (i : Nat) (y z : List Nat) : SL → Option (V × SL) := fun σ => match σ[i]? with
  | some (.val (.str x)) => if y ≠ z ∧ x.length ≤ 100000 ∧ z.length ≤ 14 then some (.str (repR x y z), σ) else none
  | _ => none
theorem TE_preRep {x y z n : Str} {lx ly lz : List Nat} {i k1 k2 k3 : Nat} {p1 p2 p3 np apos pos pos2 : Pos} (K : CK prog C) (hx : x = mkS lx) (hy : y = mkS ly) (hz : z = mkS lz) (hn : C.ns[i]? = some n) (hd : (n == ("__debug__" : Str)) = false)
    (hbase : attributeBase (.Name n np) "replace" C.env (eval (.Name n np) C.env) = eval (.Name n np) C.env) (hline : (apos.endLine == pos.line) = true) :
    TE prog w C (.BinOp (.Constant (.str x) k1 p1) .Add (.Call (.Attribute (.Name n np) "replace" apos) [.Constant (.str y) k2 p2, .Constant (.str z) k3 p3] [] pos) pos2) (dBin .Add (dConst (.str lx)) (dRep i ly lz)) := .mk fun A E Q s σ σ' ad g a hA S hd' hq => by
  subst hx hy hz
  obtain ⟨a1, σ1, a2, e1, e2, e3⟩ := dTwo_some hd'
  cases e1
  unfold dRep at e2
  split at e2
  · rename_i lt hi
    split at e2
    · rename_i hc
      obtain ⟨c1, c2, c3⟩ := hc
      cases e2
      refine wpAny_BinOp (wpAny_Constant_str ?_)
      refine wpAny_Call_method_lateS hbase (by rfl) hline (wpAny_Name ?_ hd)
      obtain ⟨m, hns, hv⟩ := S.vars
      obtain ⟨ov, b1, v, rfl, t, rfl⟩ := hv i n _ hn hi
      refine load_at (s := { s with toks := s.toks + 1 }) K.ok hns b1 ?_
      refine ⟨"str", "str.replace", F.plainAttrs_str, F.slot_str_replace, F.type_str_replace, typeIs_str _ _ _, (fun _ e => nomatch e), ?_⟩
      rw [show backTo pos (starEach [.Constant (.str (mkS ly)) k2 p2, .Constant (.str (mkS lz)) k3 p3] C.env) = [(false, eval (.Constant (.str (mkS ly)) k2 p2) C.env), (false, eval (.Constant (.str (mkS lz)) k3 p3) C.env)] from rfl]
      refine Calls.callWith_builtin rfl (evalArgs_plain (spliced_cons (wpAny_Constant_str (spliced_cons (wpAny_Constant_str (spliced_nil ?_))))))
      refine SC.replaceW (Nat.succ_ne_zero _) (Nat.succ_ne_zero _) (Nat.ne_of_lt (Nat.lt_succ_self _)) (beq_eq_false_iff_ne.mpr fun q => c1 (mkS_inj q)) (by rw [mkS_len]; omega) (by rw [mkS_len]; exact c3) fun t' tk => ?_
      have er : Txt.replace (mkS lt) (mkS ly) (mkS lz) = mkS (repR lt ly lz) := by
        apply Str.ext'
        simp [repR, mkS]
      rw [er]
      exact (bin_prm (s := { s with toks := tk }) S.gs (hA.room (K.wd.up S.hbase)) e3 ⟨_, rfl⟩ ⟨_, rfl⟩).at S fun v3 h3 tk3 g3 P3 rv3 => hq _ _ _ _ _ P3 rv3
    · cases e2
  · cases e2
end
end Mine
-- part P5a
set_option maxRecDepth 100000
noncomputable section
namespace Mine
open PySem PySem.W PySem.Calls PyProof.Rows PySem.Spec PySem.SeqAt PyProof.V Builtin Builtin.Str
/-! ## a mark replaced, everywhere -/
noncomputable def posL (c : Nat) : List Nat → Nat → List Nat
  | [], _ => []
  | d :: r, j => if d = c then j :: posL c r (j + 1) else posL c r (j + 1)
noncomputable def subL (c : Nat) (z : List Nat) : List Nat → List Nat
  | [] => []
  | d :: r => (if d = c then z else [d]) ++ subL c z r
theorem occ_one (x : List Nat) (c limit : Nat) : ∀ (r : List Nat) (j n free : Nat), x.drop j = r → j ≤ x.length → free ≤ j → n + r.length < limit →
    occL (fun i => decide (i + 1 ≤ x.length) && ((x.drop i).take 1 == [c])) 1 limit (List.range' j (x.length + 1 - j)) n free = posL c r j
  | [], j, n, free, hd, hj, hf, hl => by
    have hlen : x.length = j := by
      have := List.drop_eq_nil_iff.mp hd
      omega
    rw [show x.length + 1 - j = 1 by omega, List.range'_one, occL, if_neg, occL, posL]
    simp only [Bool.and_eq_true, decide_eq_true_eq]
    omega
  | d :: r, j, n, free, hd, hj, hf, hl => by
    have hlen : x.length = j + (r.length + 1) := by
      have := congrArg List.length hd
      rw [List.length_drop] at this
      simp only [List.length_cons] at this
      omega
    have hd1 : x.drop (j + 1) = r := by
      rw [← List.drop_drop, hd]; rfl
    rw [show x.length + 1 - j = (x.length + 1 - (j + 1)) + 1 by omega, List.range'_succ, occL, posL]
    simp only [List.length_cons] at hl
    have ht : (x.drop j).take 1 = [d] := by rw [hd]; rfl
    by_cases q : d = c
    · subst q
      rw [if_pos, if_pos rfl, occ_one x d limit r (j + 1) (n + 1) (j + 1) hd1 (by omega) (Nat.le_refl _) (by omega)]
      simp only [Bool.and_eq_true, decide_eq_true_eq, ht, beq_self_eq_true, and_true]
      omega
    · rw [if_neg, if_neg q, occ_one x c limit r (j + 1) n free hd1 (by omega) (by omega) (by omega)]
      simp only [Bool.and_eq_true, ht, beq_iff_eq]
      rintro ⟨_, _, h3⟩
      exact q (List.cons.inj h3).1
theorem glued_is (z : List Nat) (p : List Nat) (ps : List (List Nat)) : (glued (mkS z) ((p :: ps).map mkS)).cps.toList = joinL z (p :: ps) := by
  have k : ∀ (l : List (List Nat)) (acc : Array Nat), ((l.map mkS).foldl (fun acc p => acc ++ (mkS z).cps ++ p.cps) acc).toList = acc.toList ++ (l.map (z ++ ·)).flatten := by
    intro l
    induction l with
    | nil => intro acc; simp
    | cons q l ih =>
      intro acc
      rw [List.map_cons, List.foldl_cons, ih]
      simp [mkS]
  unfold glued
  show (((ps.map mkS).foldl (fun acc p => acc ++ (mkS z).cps ++ p.cps) (mkS p).cps)).toList = _
  rw [k]
  simp [joinL, mkS]
theorem sub_parts (x z : List Nat) (c : Nat) : ∀ (r : List Nat) (s j : Nat), x.drop j = r → s ≤ j → j ≤ x.length →
    ∃ p ps, ((s :: (posL c r j).map (· + 1)).zip (posL c r j ++ [x.length])).map (fun p => strSub (mkS x) p.1 p.2) = (p :: ps).map mkS ∧ joinL z (p :: ps) = (x.drop s).take (j - s) ++ subL c z r
  | [], s, j, hd, hs, hj => by
    have hlen : x.length = j := by
      have := List.drop_eq_nil_iff.mp hd
      omega
    refine ⟨(x.drop s).take (j - s), [], ?_, by simp [joinL, subL]⟩
    show [strSub (mkS x) s x.length] = _
    rw [sub_is, hlen]
    rfl
  | d :: r, s, j, hd, hs, hj => by
    have hlen : x.length = j + (r.length + 1) := by
      have := congrArg List.length hd
      rw [List.length_drop] at this
      simp only [List.length_cons] at this
      omega
    have hd1 : x.drop (j + 1) = r := by
      rw [← List.drop_drop, hd]; rfl
    by_cases q : d = c
    · subst q
      obtain ⟨p, ps, e1, e2⟩ := sub_parts x z d r (j + 1) (j + 1) hd1 (Nat.le_refl _) (by omega)
      refine ⟨(x.drop s).take (j - s), p :: ps, ?_, ?_⟩
      · rw [posL, if_pos rfl, List.map_cons, List.cons_append, List.zip_cons_cons, List.map_cons, e1, sub_is, List.map_cons]
        rfl
      · have : joinL z ((x.drop s).take (j - s) :: p :: ps) = (x.drop s).take (j - s) ++ (z ++ joinL z (p :: ps)) := by simp [joinL]
        rw [this, e2, Nat.sub_self, List.take_zero, subL, if_pos rfl]
        simp
    · obtain ⟨p, ps, e1, e2⟩ := sub_parts x z c r s (j + 1) hd1 (by omega) (by omega)
      refine ⟨p, ps, by rw [posL, if_neg q]; exact e1, ?_⟩
      rw [e2, subL, if_neg q]
      have : (x.drop s).take (j + 1 - s) = (x.drop s).take (j - s) ++ [d] := by
        rw [show j + 1 - s = j - s + 1 by omega, List.take_add_one, List.getElem?_drop, show s + (j - s) = j by omega]
        have : x[j]? = some d := by
          have := congrArg (·[0]?) hd
          simpa using this
        rw [this]; rfl
      rw [this]
      simp
theorem rep_one (x z : List Nat) (c : Nat) : repR x [c] z = subL c z x := by
  have ho : occurrences (mkS x) (mkS [c]) 0 x.length (x.length + 1) = posL c x 0 := by
    rw [occ_is]
    exact occ_one x c (x.length + 1) x 0 0 0 rfl (Nat.zero_le _) (Nat.le_refl _) (by omega)
  obtain ⟨p, ps, e1, e2⟩ := sub_parts x z c x 0 0 rfl (Nat.le_refl _) (Nat.zero_le _)
  rw [Nat.sub_zero, List.take_zero, List.nil_append] at e2
  unfold repR Txt.replace
  rw [mkS_len, ho]
  have e3 : partsBetween (mkS x) (posL c x 0) (mkS [c]).length = (p :: ps).map mkS := by
    unfold partsBetween
    rw [mkS_len]
    exact e1
  split
  · rename_i hc
    have h0 : posL c x 0 = [] := by
      rcases Bool.or_eq_true_iff.mp hc with h | h
      · exact List.isEmpty_iff.mp h
      · simp [mkS_len] at h
    rw [← e2]
    rw [h0] at e1
    have e4 : [strSub (mkS x) 0 x.length] = (p :: ps).map mkS := e1
    rw [sub_is] at e4
    rw [List.map_cons] at e4
    obtain ⟨f1, f2⟩ := List.cons.inj e4
    have f3 : ps = [] := by
      cases ps with
      | nil => rfl
      | cons a l => rw [List.map_cons] at f2; cases f2
    subst f3
    have f4 := mkS_inj f1
    rw [← f4]
    simp [joinL, mkS]
  · rw [e3, glued_is, e2]
theorem subL_len (c : Nat) (z : List Nat) (hz : z.length ≤ 2) : ∀ a : List Nat, (subL c z a).length ≤ 2 * a.length
  | [] => Nat.le_refl _
  | x :: a => by
    have := subL_len c z hz a
    rw [subL, List.length_append]
    split <;> simp only [List.length_cons, List.length_nil] <;> omega
end Mine
end
-- part Y2h
set_option maxRecDepth 100000
noncomputable section
namespace Mine
open PySem PySem.W PySem.Calls PyProof.Rows PySem.Spec PySem.SeqAt PyProof.V
section
variable {w : World} {b : Heap}
/-! ## _law_hidden -/
/-! _law_hidden:  -/
noncomputable abbrev dHid : SL → Option Out := sSeq (sRet (dBin .Add (dList (aCons (dConst (.int 173)) (aCons (dConst (.int 847)) (aCons (dConst (.int 6150)) (aCons (dConst (.int 6155)) (aCons (dConst (.int 6156)) (aCons (dConst (.int 6157)) (aCons (dConst (.int 8203)) (aCons (dConst (.int 8204)) (aCons (dConst (.int 8205)) (aCons (dConst (.int 8288)) (aCons (dConst (.int 65279)) (aNil))))))))))))) (dCall (bfV .list) (aCons (dCall (bfV .range) (aCons (dConst (.int 65024)) (aCons (dConst (.int 65040)) (aNil)))) (aNil))))) (sNil)
theorem wHid (F : F3 w b) : FunSpec pw w b 1 (.ref 124) (funP 0 0 (dHid)) :=
  fun_spec (name := "_law_hidden") (params := stArgs (st 13)) (body := stBody (st 13)) (scope := stScope (st 13)) (cd := .ref 123) (ps := []) (ns := []) (n := 0)
    F.wd (F.kin 124 (o124_15 w.params) rfl) rfl ⟨123, _, _, _, rfl, F.kin 123 (o123_15 w.params) rfl, rfl, rfl⟩ (fun vs h => by obtain rfl := List.length_eq_zero_iff.mp h; rfl) (by decide +kernel) (all_loc (by decide +kernel)) (no_cd (by decide +kernel)) rfl rfl rfl
    fun b' L k K => (TS_cons (TX_ret (TE_bin K (TE_list (TA_cons TE_int (TA_cons TE_int (TA_cons TE_int (TA_cons TE_int (TA_cons TE_int (TA_cons TE_int (TA_cons TE_int (TA_cons TE_int (TA_cons TE_int (TA_cons TE_int (TA_cons TE_int TA_nil (star_cons rfl)) (star_cons rfl)) (star_cons rfl)) (star_cons rfl)) (star_cons rfl)) (star_cons rfl)) (star_cons rfl)) (star_cons rfl)) (star_cons rfl)) (star_cons rfl)) (star_cons rfl))) (TE_bf K.ok (by kernel_rfl) (by kernel_rfl) (g_list (F.up k)) (TA_cons (TE_bf K.ok (by kernel_rfl) (by kernel_rfl) (g_range (F.up k)) (TA_cons TE_int (TA_cons TE_int TA_nil (star_cons rfl)) (star_cons rfl))) TA_nil (star_cons rfl))))) TS_nil)

noncomputable def hid : List Nat := [173, 847, 6150, 6155, 6156, 6157, 8203, 8204, 8205, 8288, 65279, 65024, 65025, 65026, 65027, 65028, 65029, 65030, 65031, 65032, 65033, 65034, 65035, 65036, 65037, 65038, 65039]
noncomputable def pHid : List V → Option V
  | [] => some (.list (hid.map iV))
  | _ => none
theorem sHid (F : F3 w b) : FunSpec pw w b 1 (.ref 124) pHid := (wHid F).to fun xs r h => by
  unfold pHid at h
  split at h
  · cases h; kernel_rfl
  · cases h
noncomputable def pMapN : List V → Option V
  | [.str [c]] => some (.str (mapN c))
  | _ => none
theorem sMapN (F : F3 w b) : FunSpec pw w b 1 (.ref 117) pMapN := (sMap F).to fun xs r h => by
  unfold pMapN at h
  split at h
  · unfold pMap; simp only [mapB3_lit]; exact h
  · cases h
/-! ## _law_told: a heap's number -/
/-! _law_told: 0 number, 1 marks, 2 turn, 3 told -/
noncomputable abbrev dTold : SL → Option Out := sSeq (sAsg 1 (dBin .Mult (dConst (.str [34])) (dLoc 0))) (sSeq (sFor (gName 2) (dCall (bfV .range) (aCons (dConst (.int 4)) (aNil))) (sSeq (sAsg 3 (dCall pPar (aCons (dBin .Add (dBin .Add (dConst (.str [50, 53, 55, 32, 34])) (dLoc 1)) (dConst (.str [122]))) (aNil)))) (sSeq (sIf (tCmp .Eq (dLoc 3) (dBin .Add (dBin .Mult (dConst (.str [34])) (dBin .Sub (dCall (bfV .len) (aCons (dLoc 3) (aNil))) (dConst (.int 1)))) (dConst (.str [122])))) (sSeq (sRet (dBin .Sub (dCall (bfV .len) (aCons (dLoc 3) (aNil))) (dConst (.int 1)))) (sNil)) (sNil)) (sSeq (sAsg 1 (dLoc 3)) (sNil))))) (sSeq (sRet (dNeg (dConst (.int 1)))) (sNil)))
theorem wTold (F : F3 w b) : FunSpec pw w b 2 (.ref 157) (funP 1 3 (dTold)) :=
  fun_spec (name := "_law_told") (params := stArgs (st 18)) (body := stBody (st 18)) (scope := stScope (st 18)) (cd := .ref 156) (ps := ["number"]) (ns := ["marks", "turn", "told"]) (n := 1)
    F.wd (F.kin 157 (o157_20 w.params) rfl) rfl ⟨156, _, _, _, rfl, F.kin 156 (o156_20 w.params) rfl, rfl, rfl⟩ (fun vs h => by obtain ⟨a, rfl⟩ := len_one h; rfl) (by decide +kernel) (all_loc (by decide +kernel)) (no_cd (by decide +kernel)) rfl rfl rfl
    fun b' L k K => (TS_cons (TX_asg K.ok ⟨(by kernel_rfl), .inl (by kernel_rfl)⟩ (TE_bin K (TE_str (by kernel_rfl)) (TE_loc K.ok (by kernel_rfl) (by kernel_rfl))) (by kernel_rfl)) (TS_cons (TX_for (TG_name K.ok ⟨(by kernel_rfl), .inl (by kernel_rfl)⟩) (TE_bf K.ok (by kernel_rfl) (by kernel_rfl) (g_range (F.up k)) (TA_cons TE_int TA_nil (star_cons rfl))) (TS_cons (TX_asg K.ok ⟨(by kernel_rfl), .inl (by kernel_rfl)⟩ (TE_fn K.ok (by kernel_rfl) (by kernel_rfl) (g_par (F.up k)) (((F.up k)).kin 46 (o46_5 w.params) rfl) rfl (sPar (F.up k)) (Nat.le_of_ble_eq_true rfl) (TA_cons (TE_bin K (TE_bin K (TE_str (by kernel_rfl)) (TE_loc K.ok (by kernel_rfl) (by kernel_rfl))) (TE_str (by kernel_rfl))) TA_nil (star_cons rfl))) (by kernel_rfl)) (TS_cons (TX_if (TT_cmp (TE_loc K.ok (by kernel_rfl) (by kernel_rfl)) (TE_bin K (TE_bin K (TE_str (by kernel_rfl)) (TE_bin K (TE_bf K.ok (by kernel_rfl) (by kernel_rfl) (g_len (F.up k)) (TA_cons (TE_loc K.ok (by kernel_rfl) (by kernel_rfl)) TA_nil (star_cons rfl))) TE_int)) (TE_str (by kernel_rfl))) (by kernel_rfl)) (TS_cons (TX_ret (TE_bin K (TE_bf K.ok (by kernel_rfl) (by kernel_rfl) (g_len (F.up k)) (TA_cons (TE_loc K.ok (by kernel_rfl) (by kernel_rfl)) TA_nil (star_cons rfl))) TE_int)) TS_nil) TS_nil) (TS_cons (TX_asg K.ok ⟨(by kernel_rfl), .inl (by kernel_rfl)⟩ (TE_loc K.ok (by kernel_rfl) (by kernel_rfl)) (by kernel_rfl)) TS_nil))) (fun _ => (by kernel_rfl))) (TS_cons (TX_ret (TE_neg TE_int)) TS_nil)))

noncomputable def toldN : Nat → Option Nat
  | 0 => some 0 | 1 => some 0 | 2 => some 1 | 3 => some 0 | 4 => some 2 | 5 => some 1 | 6 => some 3 | _ => none
noncomputable def pTold : List V → Option V := ar1 (onI fun n => (toldN n.toNat).bind fun r => if 0 ≤ n then some (.int (r : Int)) else none)
theorem told_is (k : Nat) (r : Nat) (h : toldN k = some r) : funP 1 3 dTold [.int (k : Int)] = some (.int (r : Int)) := by
  unfold toldN at h
  split at h <;> first | cases h; done | (cases h; kernel_rfl)
theorem sTold (F : F3 w b) : FunSpec pw w b 2 (.ref 157) pTold := (wTold F).to fun xs r h => by
  obtain ⟨a, rfl, hq⟩ := ar1_some h; replace h := hq; clear hq
  obtain ⟨n, rfl, hq⟩ := onI_some h; replace h := hq; clear hq
  obtain ⟨q, h1, h2⟩ := Option.bind_eq_some_iff.mp h
  split at h2
  · obtain rfl := Option.some.inj h2
    have := told_is n.toNat q h1
    rw [show ((n.toNat : Nat) : Int) = n by omega] at this
    exact this
  · cases h2
/-! ## _law_row -/
/-! _law_row: 0 heaps, 1 number -/
noncomputable abbrev dRow : SL → Option Out := sSeq (sRet (dBin .Add (dBin .Add (dBin .Add (dBin .Add (dBin .Mult (dConst (.str [102])) (dItem (dLoc 0) (dConst (.int 0)))) (dBin .Mult (dConst (.str [34])) (dBin .Mod (dLoc 1) (dConst (.int 4))))) (dBin .Mult (dConst (.str [115])) (dItem (dLoc 0) (dConst (.int 1))))) (dBin .Mult (dConst (.str [34])) (dBin .Mod (dBin .FloorDiv (dLoc 1) (dConst (.int 4))) (dConst (.int 4))))) (dBin .Mult (dConst (.str [107])) (dItem (dLoc 0) (dConst (.int 2)))))) (sNil)
theorem wRow (F : F3 w b) : FunSpec pw w b 2 (.ref 138) (funP 2 0 (dRow)) :=
  fun_spec (name := "_law_row") (params := stArgs (st 15)) (body := stBody (st 15)) (scope := stScope (st 15)) (cd := .ref 137) (ps := ["heaps", "number"]) (ns := []) (n := 1)
    F.wd (F.kin 138 (o138_17 w.params) rfl) rfl ⟨137, _, _, _, rfl, F.kin 137 (o137_17 w.params) rfl, rfl, rfl⟩ (fun vs h => by obtain ⟨a, b, rfl⟩ := len_two h; rfl) (by decide +kernel) (all_loc (by decide +kernel)) (no_cd (by decide +kernel)) rfl rfl rfl
    fun b' L k K => (TS_cons (TX_ret (TE_bin K (TE_bin K (TE_bin K (TE_bin K (TE_bin K (TE_str (by kernel_rfl)) (TE_item (TE_loc K.ok (by kernel_rfl) (by kernel_rfl)) TE_int)) (TE_bin K (TE_str (by kernel_rfl)) (TE_bin K (TE_loc K.ok (by kernel_rfl) (by kernel_rfl)) TE_int))) (TE_bin K (TE_str (by kernel_rfl)) (TE_item (TE_loc K.ok (by kernel_rfl) (by kernel_rfl)) TE_int))) (TE_bin K (TE_str (by kernel_rfl)) (TE_bin K (TE_bin K (TE_loc K.ok (by kernel_rfl) (by kernel_rfl)) TE_int) TE_int))) (TE_bin K (TE_str (by kernel_rfl)) (TE_item (TE_loc K.ok (by kernel_rfl) (by kernel_rfl)) TE_int)))) TS_nil)

noncomputable def rp (n c : Nat) : List Nat := List.replicate n c
theorem rp_len (n c : Nat) : (rp n c).length = n := List.length_replicate
noncomputable def rowF (a b c n : Nat) : List Nat := rp a 102 ++ rp (n % 4) 34 ++ rp b 115 ++ rp (n / 4 % 4) 34 ++ rp c 107
theorem rep1 (c n : Nat) : repV [c] n = rp n c := by
  unfold repV rp
  induction n with
  | zero => rfl
  | succ n ih => rw [List.replicate_succ, List.flatten_cons, ih, List.replicate_succ]; rfl
theorem mul_str (c n : Nat) (h : n ≤ 1000) : binV .Mult (.str [c]) (.int (n : Int)) = some (.str (rp n c)) := by
  show (if -1000 ≤ (n : Int) ∧ (n : Int) ≤ 1000 ∧ [c].length ≤ 1000 then some (V.str (repV [c] (n : Int).toNat)) else none) = _
  rw [if_pos ⟨by omega, by omega, by simp⟩, Int.toNat_natCast, rep1]
noncomputable def natV : Option V → Option Nat
  | some (.int a) => if 0 ≤ a then some a.toNat else none
  | _ => none
theorem natV_some {o : Option V} {n : Nat} (h : natV o = some n) : o = some (.int (n : Int)) := by
  unfold natV at h
  split at h
  · rename_i a
    split at h
    · cases h
      rw [show ((a.toNat : Nat) : Int) = a by omega]
    · cases h
  · cases h
theorem natV_nat (n : Nat) : natV (some (.int (n : Int))) = some n := by
  show (if 0 ≤ (n : Int) then some (n : Int).toNat else none) = _
  rw [if_pos (by omega)]
  rfl
theorem list_at (L : List V) (hL : L.length ≤ 1000) (k : Nat) (x : V) (h : L[k]? = some x) : itemV (.list L) (.int (k : Int)) = some x := by
  have hk : k < L.length := by
    rw [List.getElem?_eq_some_iff] at h
    exact h.1
  rw [item_nat _ _ hk (big_of (by omega)), h]
/-- three heaps of a list -/
noncomputable def three (L : List V) : Option (Nat × Nat × Nat) := if L.length = 3 then (natV L[0]?).bind fun a => (natV L[1]?).bind fun b => (natV L[2]?).bind fun c => if a ≤ 9 ∧ b ≤ 9 ∧ c ≤ 9 then some (a, b, c) else none else none
theorem three_some {L : List V} {p : Nat × Nat × Nat} (h : three L = some p) : L = [iV p.1, iV p.2.1, iV p.2.2] ∧ p.1 ≤ 9 ∧ p.2.1 ≤ 9 ∧ p.2.2 ≤ 9 := by
  unfold three at h
  split at h
  · rename_i hl
    obtain ⟨a, e0, h⟩ := Option.bind_eq_some_iff.mp h
    obtain ⟨b, e1, h⟩ := Option.bind_eq_some_iff.mp h
    obtain ⟨c, e2, h⟩ := Option.bind_eq_some_iff.mp h
    split at h
    · rename_i hc
      cases h
      obtain ⟨x, y, z, rfl⟩ := list_three hl
      cases natV_some e0
      cases natV_some e1
      cases natV_some e2
      exact ⟨rfl, hc⟩
    · cases h
  · cases h
theorem three_is (a b c : Nat) (h1 : a ≤ 9) (h2 : b ≤ 9) (h3 : c ≤ 9) : three [iV a, iV b, iV c] = some (a, b, c) := by
  show (natV (some (.int (a : Int)))).bind (fun a => (natV (some (.int (b : Int)))).bind fun b => (natV (some (.int (c : Int)))).bind fun c => if a ≤ 9 ∧ b ≤ 9 ∧ c ≤ 9 then some (a, b, c) else none) = _
  rw [natV_nat, natV_nat, natV_nat]
  exact if_pos ⟨h1, h2, h3⟩
noncomputable def pRow : List V → Option V :=
  ar2 fun a b => onL (fun L => onI (fun n => (three L).bind fun p => if 0 ≤ n then some (.str (rowF p.1 p.2.1 p.2.2 n.toNat)) else none) b) a
theorem row_eval (a bb c n : Nat) (h1 : a ≤ 9) (h2 : bb ≤ 9) (h3 : c ≤ 9) : (dRow [.val (.list [iV a, iV bb, iV c]), .val (.int (n : Int))]).bind outV = some (.str (rowF a bb c n)) := by
  have i0 : itemV (.list [iV a, iV bb, iV c]) (.int 0) = some (.int (a : Int)) := list_at _ (by show 3 ≤ 1000; decide) 0 _ rfl
  have i1 : itemV (.list [iV a, iV bb, iV c]) (.int 1) = some (.int (bb : Int)) := list_at _ (by show 3 ≤ 1000; decide) 1 _ rfl
  have i2 : itemV (.list [iV a, iV bb, iV c]) (.int 2) = some (.int (c : Int)) := list_at _ (by show 3 ≤ 1000; decide) 2 _ rfl
  generalize [iV a, iV bb, iV c] = C at *
  have m4 : binV .Mod (.int (n : Int)) (.int 4) = some (.int ((n % 4 : Nat) : Int)) := nat_mod n 4 (by decide)
  have d4 : binV .FloorDiv (.int (n : Int)) (.int 4) = some (.int ((n / 4 : Nat) : Int)) := nat_div n 4 (by decide)
  have m44 : binV .Mod (.int ((n / 4 : Nat) : Int)) (.int 4) = some (.int ((n / 4 % 4 : Nat) : Int)) := nat_mod (n / 4) 4 (by decide)
  have l1 := Nat.mod_lt n (show 0 < 4 by decide)
  have l2 := Nat.mod_lt (n / 4) (show 0 < 4 by decide)
  have r1 := mul_str 102 a (by omega)
  have r2 := mul_str 34 (n % 4) (by omega)
  have r3 := mul_str 115 bb (by omega)
  have r4 := mul_str 34 (n / 4 % 4) (by omega)
  have r5 := mul_str 107 c (by omega)
  have s1 : binV .Add (.str (rp a 102)) (.str (rp (n % 4) 34)) = some (.str (rp a 102 ++ rp (n % 4) 34)) := str_add (by simp only [rp_len]; omega)
  have s2 : binV .Add (.str (rp a 102 ++ rp (n % 4) 34)) (.str (rp bb 115)) = some (.str (rp a 102 ++ rp (n % 4) 34 ++ rp bb 115)) := str_add (by simp only [rp_len, List.length_append]; omega)
  have s3 : binV .Add (.str (rp a 102 ++ rp (n % 4) 34 ++ rp bb 115)) (.str (rp (n / 4 % 4) 34)) = some (.str (rp a 102 ++ rp (n % 4) 34 ++ rp bb 115 ++ rp (n / 4 % 4) 34)) := str_add (by simp only [rp_len, List.length_append]; omega)
  have s4 : binV .Add (.str (rp a 102 ++ rp (n % 4) 34 ++ rp bb 115 ++ rp (n / 4 % 4) 34)) (.str (rp c 107)) = some (.str (rowF a bb c n)) := str_add (by simp only [rp_len, List.length_append]; omega)
  have st : dRow [.val (.list C), .val (.int (n : Int))] = _ :=
    ev_seq_ret (ev_ret (ev_bin (ev_bin (ev_bin (ev_bin (ev_bin rfl (ev_item rfl rfl i0) r1) (ev_bin rfl (ev_bin rfl rfl m4) r2) s1) (ev_bin rfl (ev_item rfl rfl i1) r3) s2) (ev_bin rfl (ev_bin (ev_bin rfl rfl d4) rfl m44) r4) s3) (ev_bin rfl (ev_item rfl rfl i2) r5) s4))
  rw [st]
  rfl
theorem sRow (F : F3 w b) : FunSpec pw w b 2 (.ref 138) pRow := (wRow F).to fun xs r h => by
  obtain ⟨a, c, rfl, hq⟩ := ar2_some h; replace h := hq; clear hq
  obtain ⟨L, rfl, hq⟩ := onL_some h; replace h := hq; clear hq
  obtain ⟨n, rfl, hq⟩ := onI_some h; replace h := hq; clear hq
  obtain ⟨p, e, h⟩ := Option.bind_eq_some_iff.mp h
  split at h
  · obtain rfl := Option.some.inj h
    obtain ⟨rfl, h1, h2, h3⟩ := three_some e
    have := row_eval p.1 p.2.1 p.2.2 n.toNat h1 h2 h3
    rw [show ((n.toNat : Nat) : Int) = n by omega] at this
    exact this
  · cases h
end
end Mine
end
-- part Y2k
set_option maxRecDepth 100000
noncomputable section
namespace Mine
open PySem PySem.W PySem.Calls PyProof.Rows PySem.Spec PySem.SeqAt PyProof.V
section
variable {w : World} {b : Heap}
/-! ## _law_typed -/
/-! _law_typed: 0 letter, 1 left, 2 number, 3 pair, 4 other, 5 typed, 6 way, 7 alphabet -/
noncomputable abbrev dTyp (fuel : Nat) : SL → Option Out := sSeq (sAsgT (gTup (gCons (gName 3) (gCons (gName 4) (gNil)))) (dDictI [[102], [115], [107]] (aCons (dTup (aCons (dConst (.int 64256)) (aCons (dConst (.int 8497)) (aNil)))) (aCons (dTup (aCons (dConst (.int 223)) (aCons (dConst (.int 383)) (aNil)))) (aCons (dTup (aCons (dConst (.int 13261)) (aCons (dConst (.int 120130)) (aNil)))) (aNil)))) (dLoc 0))) (sSeq (sAsg 5 (dConst (.str []))) (sSeq (sWhile (tCmp .Gt (dLoc 1) (dConst (.int 0))) (sSeq (sAsg 6 (dBin .FloorDiv (dLoc 2) (dLoc 1))) (sSeq (sAsg 1 (dBin .Sub (dLoc 1) (dConst (.int 1)))) (sSeq (sIf (bAnd (tCmp .Eq (dBin .Mod (dLoc 6) (dConst (.int 6))) (dConst (.int 0))) (bAnd (tCmp .Gt (dLoc 1) (dConst (.int 0))) (bTrue))) (sSeq (sAsg 5 (dBin .Add (dLoc 5) (dCall (bfV .chr) (aCons (dLoc 3) (aNil))))) (sSeq (sAsg 1 (dBin .Sub (dLoc 1) (dConst (.int 1)))) (sNil))) (sSeq (sIf (tCmp .Eq (dBin .Mod (dLoc 6) (dConst (.int 6))) (dConst (.int 1))) (sSeq (sAsg 5 (dBin .Add (dLoc 5) (dCall (bfV .chr) (aCons (dBin .Sub (dCall (bfV .ord) (aCons (dLoc 0) (aNil))) (dConst (.int 32))) (aNil))))) (sNil)) (sSeq (sIf (tCmp .Eq (dBin .Mod (dLoc 6) (dConst (.int 6))) (dConst (.int 2))) (sSeq (sAsg 7 (dItem (dList (aCons (dConst (.int 0)) (aCons (dConst (.int 1)) (aCons (dConst (.int 2)) (aCons (dConst (.int 4)) (aCons (dConst (.int 7)) (aCons (dConst (.int 8)) (aCons (dConst (.int 9)) (aCons (dConst (.int 10)) (aCons (dConst (.int 11)) (aCons (dConst (.int 12)) (aNil)))))))))))) (dBin .Mod (dBin .FloorDiv (dLoc 6) (dConst (.int 6))) (dConst (.int 10))))) (sSeq (sAsg 5 (dBin .Add (dLoc 5) (dCall (bfV .chr) (aCons (dBin .Sub (dBin .Add (dBin .Add (dConst (.int 119808)) (dBin .Mult (dConst (.int 52)) (dLoc 7))) (dCall (bfV .ord) (aCons (dLoc 0) (aNil)))) (dConst (.int 97))) (aNil))))) (sNil))) (sSeq (sIf (tCmp .Eq (dBin .Mod (dLoc 6) (dConst (.int 6))) (dConst (.int 3))) (sSeq (sAsg 5 (dBin .Add (dLoc 5) (dCall (bfV .chr) (aCons (dLoc 4) (aNil))))) (sNil)) (sSeq (sIf (tCmp .Eq (dBin .Mod (dLoc 6) (dConst (.int 6))) (dConst (.int 4))) (sSeq (sAsg 5 (dBin .Add (dBin .Add (dLoc 5) (dCall (bfV .chr) (aCons (dItem (dCall pHid (aNil)) (dBin .Mod (dBin .FloorDiv (dLoc 6) (dConst (.int 6))) (dConst (.int 27)))) (aNil)))) (dLoc 0))) (sNil)) (sSeq (sAsg 5 (dBin .Add (dLoc 5) (dLoc 0))) (sNil))) (sNil))) (sNil))) (sNil))) (sNil))) (sNil)))) sNil fuel) (sSeq (sRet (dLoc 5)) (sNil))))
theorem wTyp (F : F3 w b) (fuel : Nat) : FunSpec pw w b 2 (.ref 131) (funP 3 5 (dTyp fuel)) :=
  fun_spec (name := "_law_typed") (params := stArgs (st 14)) (body := stBody (st 14)) (scope := stScope (st 14)) (cd := .ref 130) (ps := ["letter", "left", "number"]) (ns := ["pair", "other", "typed", "way", "alphabet"]) (n := 1)
    F.wd (F.kin 131 (o131_16 w.params) rfl) rfl ⟨130, _, _, _, rfl, F.kin 130 (o130_16 w.params) rfl, rfl, rfl⟩ (fun vs h => by obtain ⟨a, b, c, rfl⟩ := len_three h; rfl) (by decide +kernel) (all_loc (by decide +kernel)) (no_cd (by decide +kernel)) rfl rfl rfl
    fun b' L k K => (TS_cons (TX_asgt (TG_tup (TGs_cons (TG_name K.ok ⟨(by kernel_rfl), .inl (by kernel_rfl)⟩) (TGs_cons (TG_name K.ok ⟨(by kernel_rfl), .inl (by kernel_rfl)⟩) TGs_nil (asg_cons rfl)) (asg_cons rfl))) (TE_dictI (kl := [[102], [115], [107]]) (TD_cons (by kernel_rfl) (TE_tup (TA_cons TE_int (TA_cons TE_int TA_nil (star_cons rfl)) (star_cons rfl))) (TD_cons (by kernel_rfl) (TE_tup (TA_cons TE_int (TA_cons TE_int TA_nil (star_cons rfl)) (star_cons rfl))) (TD_cons (by kernel_rfl) (TE_tup (TA_cons TE_int (TA_cons TE_int TA_nil (star_cons rfl)) (star_cons rfl))) TD_nil))) (TE_loc K.ok (by kernel_rfl) (by kernel_rfl)) (by intro q; cases q) (by decide) (by decide)) (by kernel_rfl) (by kernel_rfl)) (TS_cons (TX_asg K.ok ⟨(by kernel_rfl), .inl (by kernel_rfl)⟩ (TE_str (by kernel_rfl)) (by kernel_rfl)) (TS_cons (TX_while (TT_cmp (TE_loc K.ok (by kernel_rfl) (by kernel_rfl)) TE_int (by kernel_rfl)) (TS_cons (TX_asg K.ok ⟨(by kernel_rfl), .inl (by kernel_rfl)⟩ (TE_bin K (TE_loc K.ok (by kernel_rfl) (by kernel_rfl)) (TE_loc K.ok (by kernel_rfl) (by kernel_rfl))) (by kernel_rfl)) (TS_cons (TX_asg K.ok ⟨(by kernel_rfl), .inl (by kernel_rfl)⟩ (TE_bin K (TE_loc K.ok (by kernel_rfl) (by kernel_rfl)) TE_int) (by kernel_rfl)) (TS_cons (TX_if (TT_bool (TB_and (TT_cmp (TE_bin K (TE_loc K.ok (by kernel_rfl) (by kernel_rfl)) TE_int) TE_int (by kernel_rfl)) (TB_and (TT_cmp (TE_loc K.ok (by kernel_rfl) (by kernel_rfl)) TE_int (by kernel_rfl)) TB_and0))) (TS_cons (TX_asg K.ok ⟨(by kernel_rfl), .inl (by kernel_rfl)⟩ (TE_bin K (TE_loc K.ok (by kernel_rfl) (by kernel_rfl)) (TE_bf K.ok (by kernel_rfl) (by kernel_rfl) (g_chr (F.up k)) (TA_cons (TE_loc K.ok (by kernel_rfl) (by kernel_rfl)) TA_nil (star_cons rfl)))) (by kernel_rfl)) (TS_cons (TX_asg K.ok ⟨(by kernel_rfl), .inl (by kernel_rfl)⟩ (TE_bin K (TE_loc K.ok (by kernel_rfl) (by kernel_rfl)) TE_int) (by kernel_rfl)) TS_nil)) (TS_cons (TX_if (TT_cmp (TE_bin K (TE_loc K.ok (by kernel_rfl) (by kernel_rfl)) TE_int) TE_int (by kernel_rfl)) (TS_cons (TX_asg K.ok ⟨(by kernel_rfl), .inl (by kernel_rfl)⟩ (TE_bin K (TE_loc K.ok (by kernel_rfl) (by kernel_rfl)) (TE_bf K.ok (by kernel_rfl) (by kernel_rfl) (g_chr (F.up k)) (TA_cons (TE_bin K (TE_bf K.ok (by kernel_rfl) (by kernel_rfl) (g_ord (F.up k)) (TA_cons (TE_loc K.ok (by kernel_rfl) (by kernel_rfl)) TA_nil (star_cons rfl))) TE_int) TA_nil (star_cons rfl)))) (by kernel_rfl)) TS_nil) (TS_cons (TX_if (TT_cmp (TE_bin K (TE_loc K.ok (by kernel_rfl) (by kernel_rfl)) TE_int) TE_int (by kernel_rfl)) (TS_cons (TX_asg K.ok ⟨(by kernel_rfl), .inl (by kernel_rfl)⟩ (TE_item (TE_list (TA_cons TE_int (TA_cons TE_int (TA_cons TE_int (TA_cons TE_int (TA_cons TE_int (TA_cons TE_int (TA_cons TE_int (TA_cons TE_int (TA_cons TE_int (TA_cons TE_int TA_nil (star_cons rfl)) (star_cons rfl)) (star_cons rfl)) (star_cons rfl)) (star_cons rfl)) (star_cons rfl)) (star_cons rfl)) (star_cons rfl)) (star_cons rfl)) (star_cons rfl))) (TE_bin K (TE_bin K (TE_loc K.ok (by kernel_rfl) (by kernel_rfl)) TE_int) TE_int)) (by kernel_rfl)) (TS_cons (TX_asg K.ok ⟨(by kernel_rfl), .inl (by kernel_rfl)⟩ (TE_bin K (TE_loc K.ok (by kernel_rfl) (by kernel_rfl)) (TE_bf K.ok (by kernel_rfl) (by kernel_rfl) (g_chr (F.up k)) (TA_cons (TE_bin K (TE_bin K (TE_bin K TE_int (TE_bin K TE_int (TE_loc K.ok (by kernel_rfl) (by kernel_rfl)))) (TE_bf K.ok (by kernel_rfl) (by kernel_rfl) (g_ord (F.up k)) (TA_cons (TE_loc K.ok (by kernel_rfl) (by kernel_rfl)) TA_nil (star_cons rfl)))) TE_int) TA_nil (star_cons rfl)))) (by kernel_rfl)) TS_nil)) (TS_cons (TX_if (TT_cmp (TE_bin K (TE_loc K.ok (by kernel_rfl) (by kernel_rfl)) TE_int) TE_int (by kernel_rfl)) (TS_cons (TX_asg K.ok ⟨(by kernel_rfl), .inl (by kernel_rfl)⟩ (TE_bin K (TE_loc K.ok (by kernel_rfl) (by kernel_rfl)) (TE_bf K.ok (by kernel_rfl) (by kernel_rfl) (g_chr (F.up k)) (TA_cons (TE_loc K.ok (by kernel_rfl) (by kernel_rfl)) TA_nil (star_cons rfl)))) (by kernel_rfl)) TS_nil) (TS_cons (TX_if (TT_cmp (TE_bin K (TE_loc K.ok (by kernel_rfl) (by kernel_rfl)) TE_int) TE_int (by kernel_rfl)) (TS_cons (TX_asg K.ok ⟨(by kernel_rfl), .inl (by kernel_rfl)⟩ (TE_bin K (TE_bin K (TE_loc K.ok (by kernel_rfl) (by kernel_rfl)) (TE_bf K.ok (by kernel_rfl) (by kernel_rfl) (g_chr (F.up k)) (TA_cons (TE_item (TE_fn K.ok (by kernel_rfl) (by kernel_rfl) (g_hid (F.up k)) (((F.up k)).kin 124 (o124_15 w.params) rfl) rfl (sHid (F.up k)) (Nat.le_of_ble_eq_true rfl) TA_nil) (TE_bin K (TE_bin K (TE_loc K.ok (by kernel_rfl) (by kernel_rfl)) TE_int) TE_int)) TA_nil (star_cons rfl)))) (TE_loc K.ok (by kernel_rfl) (by kernel_rfl))) (by kernel_rfl)) TS_nil) (TS_cons (TX_asg K.ok ⟨(by kernel_rfl), .inl (by kernel_rfl)⟩ (TE_bin K (TE_loc K.ok (by kernel_rfl) (by kernel_rfl)) (TE_loc K.ok (by kernel_rfl) (by kernel_rfl))) (by kernel_rfl)) TS_nil)) TS_nil)) TS_nil)) TS_nil)) TS_nil)) TS_nil))) TS_nil fuel) (TS_cons (TX_ret (TE_loc K.ok (by kernel_rfl) (by kernel_rfl))) TS_nil))))

noncomputable def alph : List Nat := [0, 1, 2, 4, 7, 8, 9, 10, 11, 12]
noncomputable def pieceK (o : Nat) : Nat → Nat → Nat → List Nat
  | 1, _, l => [l - 32]
  | 2, q, l => [119808 + 52 * alph.getD (q % 10) 0 + l - 97]
  | 3, _, _ => [o]
  | 4, q, l => [hid.getD (q % 27) 0, l]
  | _, _, l => [l]
noncomputable def piece (o W l : Nat) : List Nat := pieceK o (W % 6) (W / 6) l
noncomputable def typL (l p o N : Nat) : Nat → List Nat
  | 0 => []
  | 1 => piece o (N / 1) l
  | k + 2 => if N / (k + 2) % 6 = 0 then p :: typL l p o N k else piece o (N / (k + 2)) l ++ typL l p o N (k + 1)
noncomputable abbrev typE : SL → Option Out := (sSeq (sIf (tCmp .Eq (dBin .Mod (dLoc 6) (dConst (.int 6))) (dConst (.int 1))) (sSeq (sAsg 5 (dBin .Add (dLoc 5) (dCall (bfV .chr) (aCons (dBin .Sub (dCall (bfV .ord) (aCons (dLoc 0) (aNil))) (dConst (.int 32))) (aNil))))) (sNil)) (sSeq (sIf (tCmp .Eq (dBin .Mod (dLoc 6) (dConst (.int 6))) (dConst (.int 2))) (sSeq (sAsg 7 (dItem (dList (aCons (dConst (.int 0)) (aCons (dConst (.int 1)) (aCons (dConst (.int 2)) (aCons (dConst (.int 4)) (aCons (dConst (.int 7)) (aCons (dConst (.int 8)) (aCons (dConst (.int 9)) (aCons (dConst (.int 10)) (aCons (dConst (.int 11)) (aCons (dConst (.int 12)) (aNil)))))))))))) (dBin .Mod (dBin .FloorDiv (dLoc 6) (dConst (.int 6))) (dConst (.int 10))))) (sSeq (sAsg 5 (dBin .Add (dLoc 5) (dCall (bfV .chr) (aCons (dBin .Sub (dBin .Add (dBin .Add (dConst (.int 119808)) (dBin .Mult (dConst (.int 52)) (dLoc 7))) (dCall (bfV .ord) (aCons (dLoc 0) (aNil)))) (dConst (.int 97))) (aNil))))) (sNil))) (sSeq (sIf (tCmp .Eq (dBin .Mod (dLoc 6) (dConst (.int 6))) (dConst (.int 3))) (sSeq (sAsg 5 (dBin .Add (dLoc 5) (dCall (bfV .chr) (aCons (dLoc 4) (aNil))))) (sNil)) (sSeq (sIf (tCmp .Eq (dBin .Mod (dLoc 6) (dConst (.int 6))) (dConst (.int 4))) (sSeq (sAsg 5 (dBin .Add (dBin .Add (dLoc 5) (dCall (bfV .chr) (aCons (dItem (dCall pHid (aNil)) (dBin .Mod (dBin .FloorDiv (dLoc 6) (dConst (.int 6))) (dConst (.int 27)))) (aNil)))) (dLoc 0))) (sNil)) (sSeq (sAsg 5 (dBin .Add (dLoc 5) (dLoc 0))) (sNil))) (sNil))) (sNil))) (sNil))) (sNil))
noncomputable abbrev typC : SL → Option (Bool × SL) := (bAnd (tCmp .Eq (dBin .Mod (dLoc 6) (dConst (.int 6))) (dConst (.int 0))) (bAnd (tCmp .Gt (dLoc 1) (dConst (.int 0))) (bTrue)))
noncomputable abbrev typP : SL → Option Out := (sSeq (sAsg 5 (dBin .Add (dLoc 5) (dCall (bfV .chr) (aCons (dLoc 3) (aNil))))) (sSeq (sAsg 1 (dBin .Sub (dLoc 1) (dConst (.int 1)))) (sNil)))
noncomputable abbrev typT : SL → Option (Bool × SL) := tCmp .Gt (dLoc 1) (dConst (.int 0))
noncomputable abbrev typB : SL → Option Out := sSeq (sAsg 6 (dBin .FloorDiv (dLoc 2) (dLoc 1))) (sSeq (sAsg 1 (dBin .Sub (dLoc 1) (dConst (.int 1)))) (sSeq (sIf typC typP typE) (sNil)))
theorem hid_le : ∀ k, k < 27 → hid.getD k 0 ≤ 1114111 := by decide
theorem alph_le : ∀ k, k < 10 → alph.getD k 0 ≤ 12 := by decide
theorem typ_piece (acc : List Nat) (l o W : Nat) (N i1 : V) (s3 s7 : Slot) (hl : 97 ≤ l ∧ l ≤ 122) (ho : o ≤ 1114111) (ha : acc.length ≤ 1000) :
    ∃ s7', typE [.val (.str [l]), .val i1, .val N, s3, .val (.int (o : Int)), .val (.str acc), .val (.int (W : Int)), s7] = some (.next [.val (.str [l]), .val i1, .val N, s3, .val (.int (o : Int)), .val (.str (acc ++ piece o W l)), .val (.int (W : Int)), s7']) := by
  have m6 : binV .Mod (.int (W : Int)) (.int 6) = some (.int ((W % 6 : Nat) : Int)) := nat_mod W 6 (by decide)
  have d6 : binV .FloorDiv (.int (W : Int)) (.int 6) = some (.int ((W / 6 : Nat) : Int)) := nat_div W 6 (by decide)
  have h6 := Nat.mod_lt W (show 0 < 6 by decide)
  have ap : ∀ y : List Nat, y.length ≤ 2 → binV .Add (.str acc) (.str y) = some (.str (acc ++ y)) := fun y hy => str_add (by omega)
  have ol : bfV .ord [.str [l]] = some (.int (l : Int)) := rfl
  unfold piece
  generalize hk : W % 6 = k at *
  clear hk
  generalize W / 6 = q at *
  have tt : ∀ j : Nat, tCmp .Eq (dBin .Mod (dLoc 6) (dConst (.int 6))) (dConst (.int (j : Int))) [.val (.str [l]), .val i1, .val N, s3, .val (.int (o : Int)), .val (.str acc), .val (.int (W : Int)), s7] = some (k == j, [.val (.str [l]), .val i1, .val N, s3, .val (.int (o : Int)), .val (.str acc), .val (.int (W : Int)), s7]) := fun j => ev_test (ev_bin rfl rfl m6) rfl (eq_nat k j)
  have tt1 := tt 1
  have tt2 := tt 2
  have tt3 := tt 3
  have tt4 := tt 4
  rcases mod6 h6 with rfl | rfl | rfl | rfl | rfl | rfl
  · skip
    have sb : binV .Sub (.int (l : Int)) (.int 32) = some (.int ((l - 32 : Nat) : Int)) := nat_sub (c := 32) (by omega)
    exact ⟨s7, ev_nextc ((ev_sif_t tt1).trans (ev_nextc (ev_asg (ev_bin rfl (ev_call (ev_one (ev_bin (ev_call (ev_one rfl) ol) rfl sb)) (chr_ok (l - 32) (by omega))) (ap [l - 32] (by simp)))) rfl)) rfl⟩
  · skip
    have m10 : binV .Mod (.int (q : Int)) (.int 10) = some (.int ((q % 10 : Nat) : Int)) := nat_mod q 10 (by decide)
    have i10 : itemV (.list (alph.map iV)) (.int ((q % 10 : Nat) : Int)) = some (iV (alph.getD (q % 10) 0)) := map_at iV alph 0 (q % 10) (Nat.mod_lt _ (by decide)) (le_big (by decide))
    have a10 := alph_le (q % 10) (Nat.mod_lt _ (by decide))
    show ∃ s7', typE _ = some (.next [.val (.str [l]), .val i1, .val N, s3, .val (.int (o : Int)), .val (.str (acc ++ [119808 + 52 * alph.getD (q % 10) 0 + l - 97])), .val (.int (W : Int)), s7'])
    generalize alph.getD (q % 10) 0 = al at *
    have mu : binV .Mult (.int 52) (.int (al : Int)) = some (.int ((52 * al : Nat) : Int)) := by
      rw [mul_small 52 (al : Int) (by omega) (by omega), show ((52 : Int) * (al : Int)) = ((52 * al : Nat) : Int) by omega]
    have ad1 : binV .Add (.int 119808) (.int ((52 * al : Nat) : Int)) = some (.int ((119808 + 52 * al : Nat) : Int)) := nat_add 119808 (52 * al)
    have ad2 := nat_add (119808 + 52 * al) l
    have sb : binV .Sub (.int ((119808 + 52 * al + l : Nat) : Int)) (.int 97) = some (.int ((119808 + 52 * al + l - 97 : Nat) : Int)) := nat_sub (c := 97) (by omega)
    have b10 : 10 ≤ big := le_big (by decide)
    have dl : ∀ σ : SL, dList (aCons (dConst (.int 0)) (aCons (dConst (.int 1)) (aCons (dConst (.int 2)) (aCons (dConst (.int 4)) (aCons (dConst (.int 7)) (aCons (dConst (.int 8)) (aCons (dConst (.int 9)) (aCons (dConst (.int 10)) (aCons (dConst (.int 11)) (aCons (dConst (.int 12)) (aNil))))))))))) σ = some (.list (alph.map iV), σ) := fun σ => ev_list (ev_cons rfl (ev_cons rfl (ev_cons rfl (ev_cons rfl (ev_cons rfl (ev_cons rfl (ev_cons rfl (ev_cons rfl (ev_cons rfl (ev_cons rfl ev_nil)))))))))) b10
    exact ⟨.val (iV al), ev_nextc ((ev_sif_f tt1).trans (ev_nextc ((ev_sif_t tt2).trans
      (ev_nextc (ev_asg (ev_item (dl _) (ev_bin (ev_bin rfl rfl d6) rfl m10) i10)) (ev_nextc (ev_asg (ev_bin rfl (ev_call (ev_one (ev_bin (ev_bin (ev_bin rfl (ev_bin rfl rfl mu) ad1) (ev_call (ev_one rfl) ol) ad2) rfl sb)) (chr_ok (119808 + 52 * al + l - 97) (by omega))) (ap [119808 + 52 * al + l - 97] (by simp)))) rfl))) rfl)) rfl⟩
  · skip
    exact ⟨s7, ev_nextc ((ev_sif_f tt1).trans (ev_nextc ((ev_sif_f tt2).trans (ev_nextc ((ev_sif_t tt3).trans
      (ev_nextc (ev_asg (ev_bin rfl (ev_call (ev_one rfl) (chr_ok o ho)) (ap [o] (by simp)))) rfl)) rfl)) rfl)) rfl⟩
  · skip
    have m27 : binV .Mod (.int (q : Int)) (.int 27) = some (.int ((q % 27 : Nat) : Int)) := nat_mod q 27 (by decide)
    have i27 : itemV (.list (hid.map iV)) (.int ((q % 27 : Nat) : Int)) = some (iV (hid.getD (q % 27) 0)) := map_at iV hid 0 (q % 27) (Nat.mod_lt _ (by decide)) (le_big (by decide))
    have a27 := hid_le (q % 27) (Nat.mod_lt _ (by decide))
    show ∃ s7', typE _ = some (.next [.val (.str [l]), .val i1, .val N, s3, .val (.int (o : Int)), .val (.str (acc ++ [hid.getD (q % 27) 0, l])), .val (.int (W : Int)), s7'])
    generalize hid.getD (q % 27) 0 = al at *
    have ap2 : binV .Add (.str (acc ++ [al])) (.str [l]) = some (.str (acc ++ [al, l])) := by
      rw [str_add (by simp; omega), List.append_assoc]
      rfl
    exact ⟨s7, ev_nextc ((ev_sif_f tt1).trans (ev_nextc ((ev_sif_f tt2).trans (ev_nextc ((ev_sif_f tt3).trans (ev_nextc ((ev_sif_t tt4).trans
      (ev_nextc (ev_asg (ev_bin (ev_bin rfl (ev_call (ev_one (ev_item (ev_call ev_nil rfl) (ev_bin (ev_bin rfl rfl d6) rfl m27) i27)) (chr_ok al (by omega))) (ap [al] (by simp))) rfl ap2)) rfl)) rfl)) rfl)) rfl)) rfl⟩
  · skip
    exact ⟨s7, ev_nextc ((ev_sif_f tt1).trans (ev_nextc ((ev_sif_f tt2).trans (ev_nextc ((ev_sif_f tt3).trans (ev_nextc ((ev_sif_f tt4).trans
      (ev_nextc (ev_asg (ev_bin rfl rfl (ap [l] (by simp)))) rfl)) rfl)) rfl)) rfl)) rfl⟩
  · skip
    exact ⟨s7, ev_nextc ((ev_sif_f tt1).trans (ev_nextc ((ev_sif_f tt2).trans (ev_nextc ((ev_sif_f tt3).trans (ev_nextc ((ev_sif_f tt4).trans
      (ev_nextc (ev_asg (ev_bin rfl rfl (ap [l] (by simp)))) rfl)) rfl)) rfl)) rfl)) rfl⟩
theorem gt_zero (k : Nat) : cmpV .Gt (.int (k : Int)) (.int 0) = some (decide (0 < k)) := by
  show some (decide ((0 : Int) < (k : Int))) = _
  congr 1
  by_cases h : 0 < k
  · rw [decide_eq_true h, decide_eq_true (by omega)]
  · rw [decide_eq_false h, decide_eq_false (by omega)]
theorem typ_loop (l p o N : Nat) (hl : 97 ≤ l ∧ l ≤ 122) (hp : p ≤ 1114111) (ho : o ≤ 1114111) : ∀ (n k : Nat) (acc : List Nat) (s6 s7 : Slot) (fuel : Nat), k ≤ n → k < fuel → acc.length + 2 * k ≤ 100 →
    ∃ i1 s6' s7', sWhile typT typB sNil fuel [.val (.str [l]), .val (.int (k : Int)), .val (.int (N : Int)), .val (.int (p : Int)), .val (.int (o : Int)), .val (.str acc), s6, s7] = some (.next [.val (.str [l]), i1, .val (.int (N : Int)), .val (.int (p : Int)), .val (.int (o : Int)), .val (.str (acc ++ typL l p o N k)), s6', s7']) := by
  intro n
  induction n with
  | zero =>
    intro k acc s6 s7 fuel hk hf ha
    obtain rfl : k = 0 := by omega
    obtain ⟨fuel, rfl⟩ : ∃ j, fuel = j + 1 := ⟨fuel - 1, by omega⟩
    refine ⟨.val (.int ((0 : Nat) : Int)), s6, s7, (ev_while_f (ev_test rfl rfl (gt_zero 0))).trans ?_⟩
    rw [typL, List.append_nil]
    rfl
  | succ n ih =>
    intro k acc s6 s7 fuel hk hf ha
    match k, hk, hf, ha with
    | 0, hk, hf, ha => exact ih 0 acc s6 s7 fuel (Nat.zero_le _) hf ha
    | j + 1, hk, hf, ha =>
      obtain ⟨fuel, rfl⟩ : ∃ j, fuel = j + 1 := ⟨fuel - 1, by omega⟩
      have T : ∀ s6 s7, typT [.val (.str [l]), .val (.int ((j + 1 : Nat) : Int)), .val (.int (N : Int)), .val (.int (p : Int)), .val (.int (o : Int)), .val (.str acc), s6, s7] = some (true, [.val (.str [l]), .val (.int ((j + 1 : Nat) : Int)), .val (.int (N : Int)), .val (.int (p : Int)), .val (.int (o : Int)), .val (.str acc), s6, s7]) := fun s6 s7 => ev_test rfl rfl (gt_zero (j + 1))
      have dv : binV .FloorDiv (.int (N : Int)) (.int ((j + 1 : Nat) : Int)) = some (.int ((N / (j + 1) : Nat) : Int)) := nat_div N (j + 1) (by omega)
      have sb : binV .Sub (.int ((j + 1 : Nat) : Int)) (.int 1) = some (.int ((j : Nat) : Int)) := nat_sub (a := j + 1) (c := 1) (by omega)
      have m6 : binV .Mod (.int ((N / (j + 1) : Nat) : Int)) (.int 6) = some (.int ((N / (j + 1) % 6 : Nat) : Int)) := nat_mod (N / (j + 1)) 6 (by decide)
      have z6 : cmpV .Eq (.int ((N / (j + 1) % 6 : Nat) : Int)) (.int 0) = some (N / (j + 1) % 6 == 0) := eq_nat _ 0
      -- one piece
      have one : ¬ (N / (j + 1) % 6 = 0 ∧ 0 < j) → typL l p o N (j + 1) = piece o (N / (j + 1)) l ++ typL l p o N j → ∃ i1 s6' s7', sWhile typT typB sNil (fuel + 1) [.val (.str [l]), .val (.int ((j + 1 : Nat) : Int)), .val (.int (N : Int)), .val (.int (p : Int)), .val (.int (o : Int)), .val (.str acc), s6, s7] = some (.next [.val (.str [l]), i1, .val (.int (N : Int)), .val (.int (p : Int)), .val (.int (o : Int)), .val (.str (acc ++ typL l p o N (j + 1))), s6', s7']) := fun hc e => by
        obtain ⟨s7', pe⟩ := typ_piece acc l o (N / (j + 1)) (.int (N : Int)) (.int (j : Int)) (.val (.int (p : Int))) s7 hl ho (by omega)
        have pl : (piece o (N / (j + 1)) l).length ≤ 2 := by
          unfold piece pieceK
          split <;> simp
        obtain ⟨i1, s6', s7'', h⟩ := ih j (acc ++ piece o (N / (j + 1)) l) (.val (.int ((N / (j + 1) : Nat) : Int))) s7' fuel (by omega) (by omega) (by rw [List.length_append]; omega)
        have C : typC [.val (.str [l]), .val (.int (j : Int)), .val (.int (N : Int)), .val (.int (p : Int)), .val (.int (o : Int)), .val (.str acc), .val (.int ((N / (j + 1) : Nat) : Int)), s7] = some (false, [.val (.str [l]), .val (.int (j : Int)), .val (.int (N : Int)), .val (.int (p : Int)), .val (.int (o : Int)), .val (.str acc), .val (.int ((N / (j + 1) : Nat) : Int)), s7]) := by
          by_cases h0 : N / (j + 1) % 6 = 0
          · rw [beq_iff_eq.mpr h0] at z6
            refine ev_and_t (ev_test (ev_bin rfl rfl m6) rfl z6) (ev_and_f (ev_test rfl rfl ((gt_zero j).trans ?_)))
            rw [decide_eq_false fun q => hc ⟨h0, q⟩]
          · rw [beq_eq_false_iff_ne.mpr h0] at z6
            exact ev_and_f (ev_test (ev_bin rfl rfl m6) rfl z6)
        refine ⟨i1, s6', s7'', (ev_while_t (T s6 s7) (ev_nextc (ev_asg (ev_bin rfl rfl dv)) (ev_nextc (ev_asg (ev_bin rfl rfl sb)) (ev_nextc ((ev_sif_f C).trans pe) rfl)))).trans (h.trans ?_)⟩
        rw [e, List.append_assoc]
      match j, one, ih, hk, ha, T, dv, sb, m6, z6 with
      | 0, one, ih, hk, ha, T, dv, sb, m6, z6 => exact one (fun q => absurd q.2 (by decide)) (by show piece o (N / 1) l = _; rw [typL, List.append_nil])
      | i + 1, one, ih, hk, ha, T, dv, sb, m6, z6 =>
        by_cases h0 : N / (i + 1 + 1) % 6 = 0
        · have sb2 : binV .Sub (.int ((i + 1 : Nat) : Int)) (.int 1) = some (.int ((i : Nat) : Int)) := nat_sub (a := i + 1) (c := 1) (by omega)
          obtain ⟨i1, s6', s7', h⟩ := ih i (acc ++ [p]) (.val (.int ((N / (i + 1 + 1) : Nat) : Int))) s7 fuel (by omega) (by omega) (by simp; omega)
          rw [beq_iff_eq.mpr h0] at z6
          have ad : binV .Add (.str acc) (.str [p]) = some (.str (acc ++ [p])) := str_add (by simp; omega)
          refine ⟨i1, s6', s7', (ev_while_t (T s6 s7) (ev_nextc (ev_asg (ev_bin rfl rfl dv)) (ev_nextc (ev_asg (ev_bin rfl rfl sb)) (ev_nextc ((ev_sif_t (ev_and_t (ev_test (ev_bin rfl rfl m6) rfl z6) (ev_and_t (ev_test rfl rfl (gt_zero (i + 1))) rfl))).trans (ev_nextc (ev_asg (ev_bin rfl (ev_call (ev_one rfl) (chr_ok p hp)) ad)) (ev_nextc (ev_asg (ev_bin rfl rfl sb2)) rfl))) rfl)))).trans (h.trans ?_)⟩
          rw [typL, if_pos h0, List.append_assoc]
          rfl
        · exact one (fun q => h0 q.1) (by rw [typL, if_neg h0])
end
end Mine
end
-- part Y2l
set_option maxRecDepth 100000
noncomputable section
namespace Mine
open PySem PySem.W PySem.Calls PyProof.Rows PySem.Spec PySem.SeqAt PyProof.V
section
variable {w : World} {b : Heap}
/-! ## what is typed, prepared -/
noncomputable def prep (t : List Nat) : List Nat := (t.filter fun (c : Nat) => !sB1 (c : Int)).flatMap mapN
theorem prep_app (a c : List Nat) : prep (a ++ c) = prep a ++ prep c := by unfold prep; rw [List.filter_append, List.flatMap_append]
noncomputable def goodP (l t : List Nat) : Bool := prep t == l && t.all (fun c => c != 34) && decide (t.length ≤ 2)
noncomputable def letK : Nat → Option (Nat × Nat)
  | 102 => some (64256, 8497)
  | 115 => some (223, 383)
  | 107 => some (13261, 120130)
  | _ => none
/-- all that is typed for a letter -/
noncomputable def goodL (l p o : Nat) : Bool := goodP [l, l] [p] && goodP [l] [o] && goodP [l] [l - 32] && goodP [l] [l] && (alph.all fun a => goodP [l] [119808 + 52 * a + l - 97]) && hid.all fun a => goodP [l] [a, l]
theorem gf : goodL 102 64256 8497 = true := by kernel_rfl
theorem gs : goodL 115 223 383 = true := by kernel_rfl
theorem gk : goodL 107 13261 120130 = true := by kernel_rfl
theorem let_good {l : Nat} {q : Nat × Nat} (h : letK l = some q) : goodL l q.1 q.2 = true ∧ 97 ≤ l ∧ l ≤ 122 ∧ q.1 ≤ 1114111 ∧ q.2 ≤ 1114111 := by
  unfold letK at h
  split at h
  · cases h; exact ⟨gf, by decide⟩
  · cases h; exact ⟨gs, by decide⟩
  · cases h; exact ⟨gk, by decide⟩
  · cases h
structure TypOk (rest t : List Nat) : Prop where
  pr : prep t = rest
  no : ∀ c ∈ t, c ≠ 34
  len : t.length ≤ 2 * rest.length
theorem TypOk.nil : TypOk [] [] := ⟨rfl, (fun _ h => by cases h), Nat.le_refl _⟩
theorem TypOk.cons {l t r u : List Nat} (h : goodP l t = true) (hl : 1 ≤ l.length) (x : TypOk r u) : TypOk (l ++ r) (t ++ u) := by
  unfold goodP at h
  simp only [Bool.and_eq_true, beq_iff_eq, List.all_eq_true, bne_iff_ne, decide_eq_true_eq] at h
  obtain ⟨⟨h1, h2⟩, h3⟩ := h
  refine ⟨by rw [prep_app, h1, x.pr], fun c hc => ?_, by have := x.len; rw [List.length_append, List.length_append]; omega⟩
  rcases List.mem_append.mp hc with q | q
  · exact h2 c q
  · exact x.no c q
theorem piece_good {l p o : Nat} (W : Nat) (h : goodL l p o = true) : goodP [l] (piece o W l) = true := by
  unfold goodL at h
  simp only [Bool.and_eq_true] at h
  obtain ⟨⟨⟨⟨⟨g1, g2⟩, g3⟩, g4⟩, g5⟩, g6⟩ := h
  unfold piece
  generalize W / 6 = q
  match W % 6 with
  | 0 => exact g4
  | 1 => exact g3
  | 2 => exact List.all_eq_true.mp g5 _ (getD_mem alph 0 (q % 10) (Nat.mod_lt _ (by decide)))
  | 3 => exact g2
  | 4 => exact List.all_eq_true.mp g6 _ (getD_mem hid 0 (q % 27) (Nat.mod_lt _ (by decide)))
  | (n + 5) => exact g4
theorem rp_succ (n c : Nat) : rp (n + 1) c = [c] ++ rp n c := rfl
theorem typL_ok {l p o : Nat} (N : Nat) (h : goodL l p o = true) : ∀ k, TypOk (rp k l) (typL l p o N k)
  | 0 => TypOk.nil
  | 1 => by
    have := TypOk.cons (piece_good (N / 1) h) (Nat.le_refl 1) TypOk.nil
    rw [typL]
    rw [List.append_nil, List.append_nil] at this
    exact this
  | k + 2 => by
    rw [typL]
    split
    · have g1 : goodP [l, l] [p] = true := by
        unfold goodL at h
        simp only [Bool.and_eq_true] at h
        exact h.1.1.1.1.1
      exact TypOk.cons g1 (by simp) (typL_ok N h k)
    · exact TypOk.cons (piece_good _ h) (Nat.le_refl 1) (typL_ok N h (k + 1))
noncomputable def pTyp : List V → Option V :=
  ar3 fun a b c => onS (oneC fun l => onI (fun k => onI (fun n => (letK l).bind fun q => if 0 ≤ k ∧ k ≤ 9 ∧ 0 ≤ n then some (.str (typL l q.1 q.2 n.toNat k.toNat)) else none) c) b) a
theorem ev_dictI {kl : List (List Nat)} {ds : SL → Option (List V × SL)} {di : SL → Option (V × SL)} {σ σ1 σ2 : SL} {xs : List V} {k : List Nat} {r : V} (h1 : ds σ = some (xs, σ1)) (h2 : di σ1 = some (.str k, σ2)) (h3 : lkK kl xs k = some r) : dDictI kl ds di σ = some (r, σ2) := by
  unfold dDictI
  rw [h1, Option.bind_some, h2, Option.bind_some]
  dsimp only
  rw [h3]
  rfl
theorem ev_asgT {g : V → SL → Option SL} {d : SL → Option (V × SL)} {σ σ1 σ2 : SL} {a : V} (h1 : d σ = some (a, σ1)) (h2 : g a σ1 = some σ2) : sAsgT g d σ = some (.next σ2) := by
  unfold sAsgT
  rw [h1]
  simp [h2]
theorem sTyp (F : F3 w b) : FunSpec pw w b 2 (.ref 131) pTyp := FunSpec.weak (wTyp F) fun xs r h => by
  obtain ⟨a, d, e, rfl, hq⟩ := ar3_some h; replace h := hq; clear hq
  obtain ⟨x, rfl, hq⟩ := onS_some h; replace h := hq; clear hq
  obtain ⟨l, rfl, hq⟩ := oneC_some h; replace h := hq; clear hq
  obtain ⟨k, rfl, hq⟩ := onI_some h; replace h := hq; clear hq
  obtain ⟨n, rfl, hq⟩ := onI_some h; replace h := hq; clear hq
  obtain ⟨q, eq, h⟩ := Option.bind_eq_some_iff.mp h
  split at h
  · rename_i hc
    obtain ⟨h1, h2, h3⟩ := hc
    obtain rfl := Option.some.inj h
    obtain ⟨hg, g1, g2, g3, g4⟩ := let_good eq
    obtain ⟨i1, s6', s7', lp⟩ := typ_loop l q.1 q.2 n.toNat ⟨g1, g2⟩ g3 g4 k.toNat k.toNat [] .unset .unset (k.toNat + 1) (Nat.le_refl _) (Nat.lt_succ_self _) (by simp; omega)
    refine ⟨k.toNat + 1, ?_⟩
    rw [show ((n.toNat : Nat) : Int) = n by omega, show ((k.toNat : Nat) : Int) = k by omega] at lp
    show (dTyp (k.toNat + 1) [.val (.str [l]), .val (.int k), .val (.int n), .unset, .unset, .unset, .unset, .unset]).bind outV = _
    have hb2 : 2 ≤ big := big_of (by decide)
    have lk : lkK [[102], [115], [107]] [.tup [.int 64256, .int 8497], .tup [.int 223, .int 383], .tup [.int 13261, .int 120130]] [l] = some (.tup [.int (q.1 : Int), .int (q.2 : Int)]) := by
      unfold letK at eq
      split at eq
      · cases eq; rfl
      · cases eq; rfl
      · cases eq; rfl
      · cases eq
    have st : dTyp (k.toNat + 1) [.val (.str [l]), .val (.int k), .val (.int n), .unset, .unset, .unset, .unset, .unset] = _ :=
      ev_nextc (ev_asgT (ev_dictI (ev_cons (ev_tup (ev_pair rfl rfl) hb2) (ev_cons (ev_tup (ev_pair rfl rfl) hb2) (ev_cons (ev_tup (ev_pair rfl rfl) hb2) ev_nil))) rfl lk) rfl) (ev_nextc (ev_asg rfl) (ev_nextc lp (ev_seq_ret (ev_ret rfl))))
    rw [st]
    rfl
  · cases h
end
end Mine
end
-- part Y2m
set_option maxRecDepth 100000
noncomputable section
namespace Mine
open PySem PySem.W PySem.Calls PyProof.Rows PySem.Spec PySem.SeqAt PyProof.V
section
variable {w : World} {b : Heap}
/-! ## _law_heard -/
/-! _law_heard: 0 typed, 1 row, 2 number, 3 reply, 4 name, 5 front, 6 code, 7 near -/
noncomputable abbrev dHeard : SL → Option Out := sSeq (sAsg 3 (dBin .Add (dConst (.str [50, 53, 55, 32, 34])) (dRep 0 [34] [34, 34]))) (sSeq (sAsg 4 (dCall pPar (aCons (dBin .Add (dBin .Add (dLoc 3) (dConst (.str [34]))) (dItem (dList (aCons (dConst (.str [])) (aCons (dConst (.str [32])) (aCons (dConst (.str [32, 34, 105, 115, 34, 32, 109, 97, 100, 101])) (aCons (dConst (.str [122, 34, 34])) (aNil)))))) (dBin .Mod (dLoc 2) (dConst (.int 4))))) (aNil)))) (sSeq (sIf (bOr (tCmp .NotEq (dLoc 4) (dLoc 0)) (bOr (tCmp .NotEq (dCall pPar (aCons (dLoc 3) (aNil))) (dLoc 0)) (bFalse))) (sSeq (sRet (dConst (.bool false))) (sNil)) (sNil)) (sSeq (sFor (gName 5) (dTup (aCons (dConst (.str [50, 53, 55, 45])) (aCons (dConst (.str [50, 53, 55, 32, 105, 115, 32])) (aNil)))) (sSeq (sIf (tCmp .NotEq (dCall pPar (aCons (dBin .Add (dLoc 5) (dSlice (dLoc 3) (pSome (dConst (.int 4))) pNone pNone)) (aNil))) (dConst (.str []))) (sSeq (sRet (dConst (.bool false))) (sNil)) (sNil)) (sNil))) (sSeq (sAsg 3 (dBin .Add (dSlice (dCall (bfV .str) (aCons (dBin .Add (dConst (.int 1000)) (dBin .Mod (dBin .FloorDiv (dLoc 2) (dConst (.int 4))) (dConst (.int 1000)))) (aNil))) (pSome (dConst (.int 1))) pNone pNone) (dSlice (dLoc 3) (pSome (dConst (.int 3))) pNone pNone))) (sSeq (sIf (tCmp .NotEq (dSlice (dLoc 3) pNone (pSome (dConst (.int 3))) pNone) (dConst (.str [50, 53, 55]))) (sSeq (sTryP 3 rPar) (sNil)) (sNil)) (sSeq (sAsg 6 (dItem (dCall pHid (aNil)) (dBin .Mod (dBin .FloorDiv (dLoc 2) (dConst (.int 4000))) (dConst (.int 27))))) (sSeq (sFor (gName 7) (dTup (aCons (dBin .Sub (dLoc 6) (dConst (.int 1))) (aCons (dLoc 6) (aCons (dBin .Add (dLoc 6) (dConst (.int 1))) (aNil))))) (sSeq (sIf (tCmp .IsNot (dCall pIn (aCons (dCall (bfV .chr) (aCons (dLoc 7) (aNil))) (aNil))) (dCmp .In (dLoc 7) (dCall pHid (aNil)))) (sSeq (sRet (dConst (.bool false))) (sNil)) (sNil)) (sNil))) (sSeq (sRet (dCmp .Eq (dMeth .join (dConst (.str [])) (aCons (dComp [] (dLoc 4) (gName 0) (tNot (tVal (dCall pIn (aCons (dLoc 0) (aNil))))) (dCall pMapN (aCons (dLoc 0) (aNil)))) (aNil))) (dLoc 1))) (sNil)))))))))
theorem wHeard (F : F3 w b) : FunSpecX pw w b 3 (.ref 143) (funP 3 5 (dHeard)) :=
  fun_specX (name := "_law_heard") (params := stArgs (st 16)) (body := stBody (st 16)) (scope := stScope (st 16)) (cd := .ref 142) (ps := ["typed", "row", "number"]) (ns := ["reply", "name", "front", "code", "near"]) (n := 2)
    F.wd (F.kin 143 (o143_18 w.params) rfl) rfl ⟨142, _, _, _, rfl, F.kin 142 (o142_18 w.params) rfl, rfl, rfl⟩ (fun vs h => by obtain ⟨a, b, c, rfl⟩ := len_three h; rfl) (by decide +kernel) (all_loc (by decide +kernel)) (no_cd (by decide +kernel)) rfl rfl rfl
    fun b' L k K => (TS2_cons (TX2.of (TX_asg K.ok ⟨(by kernel_rfl), .inl (by kernel_rfl)⟩ (TE_preRep K (by kernel_rfl) (by kernel_rfl) (by kernel_rfl) (by kernel_rfl) (by kernel_rfl) (by kernel_rfl) (by kernel_rfl)) (by kernel_rfl))) (TS2_cons (TX2.of (TX_asg K.ok ⟨(by kernel_rfl), .inl (by kernel_rfl)⟩ (TE_fn K.ok (by kernel_rfl) (by kernel_rfl) (g_par (F.up k)) (((F.up k)).kin 46 (o46_5 w.params) rfl) rfl (sPar (F.up k)) (Nat.le_of_ble_eq_true rfl) (TA_cons (TE_bin K (TE_bin K (TE_loc K.ok (by kernel_rfl) (by kernel_rfl)) (TE_str (by kernel_rfl))) (TE_item (TE_list (TA_cons (TE_str (by kernel_rfl)) (TA_cons (TE_str (by kernel_rfl)) (TA_cons (TE_str (by kernel_rfl)) (TA_cons (TE_str (by kernel_rfl)) TA_nil (star_cons rfl)) (star_cons rfl)) (star_cons rfl)) (star_cons rfl))) (TE_bin K (TE_loc K.ok (by kernel_rfl) (by kernel_rfl)) TE_int))) TA_nil (star_cons rfl))) (by kernel_rfl))) (TS2_cons (TX2.of (TX_if (TT_bool (TB_or (TT_cmp (TE_loc K.ok (by kernel_rfl) (by kernel_rfl)) (TE_loc K.ok (by kernel_rfl) (by kernel_rfl)) (by kernel_rfl)) (TB_or (TT_cmp (TE_fn K.ok (by kernel_rfl) (by kernel_rfl) (g_par (F.up k)) (((F.up k)).kin 46 (o46_5 w.params) rfl) rfl (sPar (F.up k)) (Nat.le_of_ble_eq_true rfl) (TA_cons (TE_loc K.ok (by kernel_rfl) (by kernel_rfl)) TA_nil (star_cons rfl))) (TE_loc K.ok (by kernel_rfl) (by kernel_rfl)) (by kernel_rfl)) TB_or0))) (TS_cons (TX_ret TE_bool) TS_nil) TS_nil)) (TS2_cons (TX2.of (TX_for (TG_name K.ok ⟨(by kernel_rfl), .inl (by kernel_rfl)⟩) (TE_tup (TA_cons (TE_str (by kernel_rfl)) (TA_cons (TE_str (by kernel_rfl)) TA_nil (star_cons rfl)) (star_cons rfl))) (TS_cons (TX_if (TT_cmp (TE_fn K.ok (by kernel_rfl) (by kernel_rfl) (g_par (F.up k)) (((F.up k)).kin 46 (o46_5 w.params) rfl) rfl (sPar (F.up k)) (Nat.le_of_ble_eq_true rfl) (TA_cons (TE_bin K (TE_loc K.ok (by kernel_rfl) (by kernel_rfl)) (TE_slice (TE_loc K.ok (by kernel_rfl) (by kernel_rfl)) (TP_some TE_int) TP_none TP_none)) TA_nil (star_cons rfl))) (TE_str (by kernel_rfl)) (by kernel_rfl)) (TS_cons (TX_ret TE_bool) TS_nil) TS_nil) TS_nil) (fun _ => (by kernel_rfl)))) (TS2_cons (TX2.of (TX_asg K.ok ⟨(by kernel_rfl), .inl (by kernel_rfl)⟩ (TE_bin K (TE_slice (TE_bf K.ok (by kernel_rfl) (by kernel_rfl) (g_str (F.up k)) (TA_cons (TE_bin K TE_int (TE_bin K (TE_bin K (TE_loc K.ok (by kernel_rfl) (by kernel_rfl)) TE_int) TE_int)) TA_nil (star_cons rfl))) (TP_some TE_int) TP_none TP_none) (TE_slice (TE_loc K.ok (by kernel_rfl) (by kernel_rfl)) (TP_some TE_int) TP_none TP_none)) (by kernel_rfl))) (TS2_cons (TX2_if (TT_cmp (TE_slice (TE_loc K.ok (by kernel_rfl) (by kernel_rfl)) TP_none (TP_some TE_int) TP_none) (TE_str (by kernel_rfl)) (by kernel_rfl)) (TS2_cons (TX2_try K (by kernel_rfl) (by kernel_rfl) (by kernel_rfl) (by kernel_rfl) (by kernel_rfl) (g_par (F.up k)) (((F.up k)).kin 46 (o46_5 w.params) rfl) rfl (rPar_spec (F.up k)) (Nat.le_of_ble_eq_true rfl) (star_cons rfl) (by kernel_rfl) (by kernel_rfl) (by kernel_rfl) (by kernel_rfl) (g_exc (F.up k)) (own_exc (F.up k)) ((F.up k)).kin (find_str w.params) (by kernel_rfl) (by show _ ∉ (["typed", "row", "number", "reply", "name", "front", "code", "near"] : List Str); decide +kernel) (by kernel_rfl) (by kernel_rfl) (by kernel_rfl) (g_str (F.up k)) (star_cons rfl) (by kernel_rfl) rfl) (TS2.of TS_nil)) (TS2.of TS_nil)) (TS2_cons (TX2.of (TX_asg K.ok ⟨(by kernel_rfl), .inl (by kernel_rfl)⟩ (TE_item (TE_fn K.ok (by kernel_rfl) (by kernel_rfl) (g_hid (F.up k)) (((F.up k)).kin 124 (o124_15 w.params) rfl) rfl (sHid (F.up k)) (Nat.le_of_ble_eq_true rfl) TA_nil) (TE_bin K (TE_bin K (TE_loc K.ok (by kernel_rfl) (by kernel_rfl)) TE_int) TE_int)) (by kernel_rfl))) (TS2_cons (TX2.of (TX_for (TG_name K.ok ⟨(by kernel_rfl), .inl (by kernel_rfl)⟩) (TE_tup (TA_cons (TE_bin K (TE_loc K.ok (by kernel_rfl) (by kernel_rfl)) TE_int) (TA_cons (TE_loc K.ok (by kernel_rfl) (by kernel_rfl)) (TA_cons (TE_bin K (TE_loc K.ok (by kernel_rfl) (by kernel_rfl)) TE_int) TA_nil (star_cons rfl)) (star_cons rfl)) (star_cons rfl))) (TS_cons (TX_if (TT_cmp (TE_fn K.ok (by kernel_rfl) (by kernel_rfl) (g_in (F.up k)) (((F.up k)).kin 71 (o71_11 w.params) rfl) rfl (sIn (F.up k)) (Nat.le_of_ble_eq_true rfl) (TA_cons (TE_bf K.ok (by kernel_rfl) (by kernel_rfl) (g_chr (F.up k)) (TA_cons (TE_loc K.ok (by kernel_rfl) (by kernel_rfl)) TA_nil (star_cons rfl))) TA_nil (star_cons rfl))) (TE_cmp (TE_loc K.ok (by kernel_rfl) (by kernel_rfl)) (TE_fn K.ok (by kernel_rfl) (by kernel_rfl) (g_hid (F.up k)) (((F.up k)).kin 124 (o124_15 w.params) rfl) rfl (sHid (F.up k)) (Nat.le_of_ble_eq_true rfl) TA_nil) (by kernel_rfl)) (by kernel_rfl)) (TS_cons (TX_ret TE_bool) TS_nil) TS_nil) TS_nil) (fun _ => (by kernel_rfl)))) (TS2_cons (TX2.of (TX_ret (TE_cmp (TE_meth meth_join (TE_str (by kernel_rfl)) (TA_cons (TE_comp K (CompOk.of (fns := []) (is := []) (by kernel_rfl)) ⟨fun b1 L1 k1 K1 => ⟨TG_name K1.ok ⟨(by kernel_rfl), .inl (by kernel_rfl)⟩, (TF_one (TT_not (TT_val (TE_fn K1.ok (by kernel_rfl) (by kernel_rfl) (g_in (((F.up k)).up k1)) (((((F.up k)).up k1)).kin 71 (o71_11 w.params) rfl) rfl (sIn (((F.up k)).up k1)) (Nat.le_of_ble_eq_true rfl) (TA_cons (TE_loc K1.ok (by kernel_rfl) (by kernel_rfl)) TA_nil (star_cons rfl))) (by kernel_rfl)))), (TE_fn K1.ok (by kernel_rfl) (by kernel_rfl) (g_map (((F.up k)).up k1)) (((((F.up k)).up k1)).kin 117 (o117_13 w.params) rfl) rfl (sMapN (((F.up k)).up k1)) (Nat.le_of_ble_eq_true rfl) (TA_cons (TE_loc K1.ok (by kernel_rfl) (by kernel_rfl)) TA_nil (star_cons rfl)))⟩⟩ (TE_loc K.ok (by kernel_rfl) (by kernel_rfl)) (fun _ => (by kernel_rfl))) TA_nil (star_cons rfl)) (by kernel_rfl) (by kernel_rfl) (by decide)) (TE_loc K.ok (by kernel_rfl) (by kernel_rfl)) (by kernel_rfl)))) (TS2.of TS_nil))))))))))

theorem unq_other {c : Nat} (h : c ≠ 34) (r : List Nat) : unq (c :: r) = c :: unq r := by
  cases r with
  | nil => simp [unq, h]
  | cons d r => simp [unq, h]
/-- marks typed twice -/
noncomputable def dbl (t : List Nat) : List Nat := subL 34 [34, 34] t
theorem unq_dbl : ∀ (m r : List Nat), unq (dbl m ++ r) = m ++ unq r
  | [], _ => rfl
  | c :: m, r => by
    have ih := unq_dbl m r
    unfold dbl at ih ⊢
    rw [subL]
    by_cases h : c = 34
    · subst h
      rw [if_pos rfl]
      show unq (34 :: 34 :: (subL 34 [34, 34] m ++ r)) = _
      rw [show unq (34 :: 34 :: (subL 34 [34, 34] m ++ r)) = 34 :: unq (subL 34 [34, 34] m ++ r) by simp [unq], ih]
      rfl
    · rw [if_neg h]
      show unq (c :: (subL 34 [34, 34] m ++ r)) = _
      rw [unq_other h, ih]
      rfl
theorem dbl_len (t : List Nat) : (dbl t).length ≤ 2 * t.length := subL_len 34 [34, 34] (by decide) t
noncomputable def tails : List (List Nat) := [[], [32], [32, 34, 105, 115, 34, 32, 109, 97, 100, 101], [122, 34, 34]]
theorem tail_ok (k : Nat) (h : k < 4) : unq (34 :: tails.getD k []) = [] ∧ (tails.getD k []).length ≤ 10 := by
  match k, h with
  | 0, _ => exact ⟨rfl, by decide⟩
  | 1, _ => exact ⟨rfl, by decide⟩
  | 2, _ => exact ⟨rfl, by decide⟩
  | 3, _ => exact ⟨rfl, by decide⟩
noncomputable def nearOk (c n : Int) : Bool := match cmpV .In (.int n) (.list (hid.map iV)) with
  | some q => q == sB1 n
  | none => false
theorem near_all : (hid.all fun c => nearOk c ((c : Int) - 1) && nearOk c (c : Int) && nearOk c ((c : Int) + 1) && Nat.ble 1 c && Nat.ble c 100000) = true := by kernel_rfl
theorem near_in {c n : Int} (h : nearOk c n = true) : cmpV .In (.int n) (.list (hid.map iV)) = some (sB1 n) := by
  unfold nearOk at h
  split at h
  · rename_i q e
    rw [e, beq_iff_eq.mp h]
  · cases h
noncomputable abbrev nearB : SL → Option Out := (sSeq (sIf (tCmp .IsNot (dCall pIn (aCons (dCall (bfV .chr) (aCons (dLoc 7) (aNil))) (aNil))) (dCmp .In (dLoc 7) (dCall pHid (aNil)))) (sSeq (sRet (dConst (.bool false))) (sNil)) (sNil)) (sNil))
theorem near_body (s0 s1 s2 s3 s4 s5 s6 : Slot) (c : Int) (n : Nat) (hn : n ≤ 200000) (h : nearOk c (n : Int) = true) : nearB [s0, s1, s2, s3, s4, s5, s6, .val (.int (n : Int))] = some (.next [s0, s1, s2, s3, s4, s5, s6, .val (.int (n : Int))]) := by
  have i1 := near_in h
  have i2 : pIn [.str [n]] = some (.bool (sB1 (n : Int))) := rfl
  exact ev_nextc ((ev_sif_f (ev_test (ev_call (ev_one (ev_call (ev_one rfl) (chr_ok n (by omega)))) i2) (ev_cmp rfl (ev_call ev_nil rfl) i1) (isnot_same _))).trans rfl) rfl
noncomputable abbrev frontB : SL → Option Out := (sSeq (sIf (tCmp .NotEq (dCall pPar (aCons (dBin .Add (dLoc 5) (dSlice (dLoc 3) (pSome (dConst (.int 4))) pNone pNone)) (aNil))) (dConst (.str []))) (sSeq (sRet (dConst (.bool false))) (sNil)) (sNil)) (sNil))
theorem front_body (f q s : List Nat) (hs : sliceV' (.str q) (some 4) none none = some (.str s)) (ha : f.length + s.length ≤ 5000) (hp : pPar [.str (f ++ s)] = some (.str [])) (s0 s1 s2 s4 s6 s7 : Slot) :
    frontB [s0, s1, s2, .val (.str q), s4, .val (.str f), s6, s7] = some (.next [s0, s1, s2, .val (.str q), s4, .val (.str f), s6, s7]) :=
  ev_nextc ((ev_sif_f (ev_test (ev_call (ev_one (ev_bin rfl (ev_slice rfl (ev_some rfl) rfl rfl hs) (str_add (by omega)))) hp) rfl rfl)).trans rfl) rfl
noncomputable def pHeard : List V → Option V :=
  ar3 fun a b c => onS (fun t => onS (fun r => onI (fun n => if 0 ≤ n ∧ t.length ≤ 1000 ∧ r.length ≤ 1000 ∧ prep t = r then some (.bool true) else none) c) b) a
theorem prep_comp (t : List Nat) : compL (gName 0) (tNot (tVal (dCall pIn (aCons (dLoc 0) (aNil))))) (dCall pMapN (aCons (dLoc 0) (aNil))) (t.map fun c => V.str [c]) [.unset] = some ((t.filter fun (c : Nat) => !sB1 (c : Int)).map fun c => V.str (mapN c)) :=
  comp_filt (fun c => V.str [c]) (fun (c : Nat) => !sB1 (c : Int)) (fun c => V.str (mapN c)) _ _ [] t .unset
    (fun c _ => ev_not (ev_val (ev_call (ev_one rfl) rfl) rfl)) (fun c _ _ => ev_call (ev_one rfl) rfl)
theorem heard_eval (t : List Nat) (n : Nat) (hl : t.length ≤ 1000) (hr : (prep t).length ≤ 1000) : (dHeard [.val (.str t), .val (.str (prep t)), .val (.int (n : Int)), .unset, .unset, .unset, .unset, .unset]).bind outV = some (.bool true) := by
  have m4 : binV .Mod (.int (n : Int)) (.int 4) = some (.int ((n % 4 : Nat) : Int)) := nat_mod n 4 (by decide)
  have i4 : itemV (.list (tails.map V.str)) (.int ((n % 4 : Nat) : Int)) = some (.str (tails.getD (n % 4) [])) := map_at V.str tails [] (n % 4) (Nat.mod_lt _ (by decide)) (le_big (by decide))
  obtain ⟨t1, t2⟩ := tail_ok (n % 4) (Nat.mod_lt _ (by decide))
  generalize tails.getD (n % 4) [] = tl at *
  have b4 : 4 ≤ big := big_of (by decide)
  have b2 : 2 ≤ big := big_of (by decide)
  have b3 : 3 ≤ big := big_of (by decide)
  have rpl : ∀ s1 s2 s3 s4 s5 s6 s7 : Slot, dRep 0 [34] [34, 34] [.val (.str t), s1, s2, s3, s4, s5, s6, s7] = some (.str (dbl t), [.val (.str t), s1, s2, s3, s4, s5, s6, s7]) := fun s1 s2 s3 s4 s5 s6 s7 => by
    show (if [34] ≠ [34, 34] ∧ t.length ≤ 100000 ∧ ([34, 34] : List Nat).length ≤ 14 then some (V.str (repR t [34] [34, 34]), _) else none) = _
    rw [if_pos ⟨by decide, by omega, by decide⟩, rep_one]
    rfl
  have ql := dbl_len t
  have u1 : unq (dbl t) = t := by
    have := unq_dbl t []
    rw [List.append_nil] at this
    rw [this]
    simp [unq]
  have u2 : unq (dbl t ++ (34 :: tl)) = t := by rw [unq_dbl, t1, List.append_nil]
  generalize dbl t = q at *
  have a1 : binV .Add (.str [50, 53, 55, 32, 34]) (.str q) = some (.str (front ++ q)) := str_add (by simp; omega)
  have a2 : binV .Add (.str (front ++ q)) (.str [34]) = some (.str (front ++ q ++ [34])) := str_add (by simp [front]; omega)
  have a3 : binV .Add (.str (front ++ q ++ [34])) (.str tl) = some (.str (front ++ q ++ [34] ++ tl)) := str_add (by simp [front]; omega)
  have p1 : pPar [.str (front ++ q ++ [34] ++ tl)] = some (.str t) := by
    have e : front ++ q ++ [34] ++ tl = front ++ (q ++ 34 :: tl) := by simp
    have e2 : (front ++ (q ++ 34 :: tl)).drop 5 = q ++ 34 :: tl := rfl
    unfold pPar
    simp only
    rw [e, if_pos ⟨by simp [front]; omega, rfl⟩, e2, u2]
  have p2 : pPar [.str (front ++ q)] = some (.str t) := by
    have e2 : (front ++ q).drop 5 = q := rfl
    unfold pPar
    simp only
    rw [if_pos ⟨by simp [front]; omega, rfl⟩, e2, u1]
  have s4 : sliceV' (.str (front ++ q)) (some 4) none none = some (.str (34 :: q)) := by
    rw [slice_str_ok (big_of (by simp [front]; omega)), show (4 : Int) = ((4 : Nat) : Int) from rfl, cutP_from]
    rfl
  have s3 : sliceV' (.str (front ++ q)) (some 3) none none = some (.str (32 :: 34 :: q)) := by
    rw [slice_str_ok (big_of (by simp [front]; omega)), show (3 : Int) = ((3 : Nat) : Int) from rfl, cutP_from]
    rfl
  have p3 : pPar [.str ([50, 53, 55, 45] ++ 34 :: q)] = some (.str []) := by
    unfold pPar
    simp only
    rw [if_neg (fun h => absurd h.2 (show ¬ [50, 53, 55, 45, 34] = front by decide)), if_pos ⟨by simp; omega, rfl, show [45, 34] ≠ [32, 34] by decide⟩]
  have p4 : pPar [.str ([50, 53, 55, 32, 105, 115, 32] ++ 34 :: q)] = some (.str []) := by
    unfold pPar
    simp only
    rw [if_neg (fun h => absurd h.2 (show ¬ [50, 53, 55, 32, 105] = front by decide)), if_pos ⟨by simp; omega, rfl, show [32, 105] ≠ [32, 34] by decide⟩]
  have n1 : cmpV .NotEq (.str t) (.str t) = some false := by rw [ne_str]; simp
  have d4 : binV .FloorDiv (.int (n : Int)) (.int 4) = some (.int ((n / 4 : Nat) : Int)) := nat_div n 4 (by decide)
  have m1000 : binV .Mod (.int ((n / 4 : Nat) : Int)) (.int 1000) = some (.int ((n / 4 % 1000 : Nat) : Int)) := nat_mod (n / 4) 1000 (by decide)
  have l1000 := Nat.mod_lt (n / 4) (show 0 < 1000 by decide)
  generalize n / 4 % 1000 = q1000 at *
  have ad1000 : binV .Add (.int 1000) (.int (q1000 : Int)) = some (.int ((1000 + q1000 : Nat) : Int)) := nat_add 1000 q1000
  have ds := str_nat (n := 1000 + q1000) (by omega)
  have dl := digV_len (n := 1000 + q1000) (by omega)
  generalize digV ((1000 + q1000 : Nat) : Int) = dg at *
  have sl1 : sliceV' (.str dg) (some 1) none none = some (.str (dg.drop 1)) := by
    rw [slice_str_ok (big_of (by omega)), show (1 : Int) = ((1 : Nat) : Int) from rfl, cutP_from]
  have a7 : binV .Add (.str (dg.drop 1)) (.str (32 :: 34 :: q)) = some (.str (dg.drop 1 ++ 32 :: 34 :: q)) := str_add (by simp; omega)
  have rl : (dg.drop 1 ++ 32 :: 34 :: q).length ≤ 3000 := by simp; omega
  generalize dg.drop 1 ++ 32 :: 34 :: q = rp' at *
  have sl3 : sliceV' (.str rp') none (some 3) none = some (.str (rp'.take 3)) := by
    rw [slice_str_ok (big_of (by omega)), show (3 : Int) = ((3 : Nat) : Int) from rfl, cutP_to]
  have c257 := ne_str (rp'.take 3) [50, 53, 55]
  have d4000 : binV .FloorDiv (.int (n : Int)) (.int 4000) = some (.int ((n / 4000 : Nat) : Int)) := nat_div n 4000 (by decide)
  have m27 : binV .Mod (.int ((n / 4000 : Nat) : Int)) (.int 27) = some (.int ((n / 4000 % 27 : Nat) : Int)) := nat_mod (n / 4000) 27 (by decide)
  have i27 : itemV (.list (hid.map iV)) (.int ((n / 4000 % 27 : Nat) : Int)) = some (.int (hid.getD (n / 4000 % 27) 0 : Nat)) := map_at iV hid 0 (n / 4000 % 27) (Nat.mod_lt _ (by decide)) (le_big (by decide))
  have nr := List.all_eq_true.mp near_all _ (getD_mem hid 0 (n / 4000 % 27) (Nat.mod_lt _ (by decide)))
  generalize hid.getD (n / 4000 % 27) 0 = hc at *
  simp only [Bool.and_eq_true] at nr
  obtain ⟨⟨⟨⟨g1, g2⟩, g3⟩, g4⟩, g5⟩ := nr
  have g4 := Nat.le_of_ble_eq_true g4
  have g5 := Nat.le_of_ble_eq_true g5
  have s1 : binV .Sub (.int (hc : Int)) (.int 1) = some (.int ((hc - 1 : Nat) : Int)) := nat_sub (c := 1) g4
  have s5 : binV .Add (.int (hc : Int)) (.int 1) = some (.int ((hc + 1 : Nat) : Int)) := nat_add hc 1
  rw [show (hc : Int) - 1 = ((hc - 1 : Nat) : Int) by omega] at g1
  rw [show (hc : Int) + 1 = ((hc + 1 : Nat) : Int) by omega] at g3
  have pc := prep_comp t
  have fl : ((t.filter fun (c : Nat) => !sB1 (c : Int)).flatMap mapN) = prep t := rfl
  have j := join_of mapN (t.filter fun (c : Nat) => !sB1 (c : Int)) (by rw [fl]; omega)
  rw [fl] at j
  have ce := eq_str (prep t) (prep t)
  rw [beq_self_eq_true] at ce
  generalize prep t = r at *
  have w4 : (sIf (tCmp .NotEq (dSlice (dLoc 3) pNone (pSome (dConst (.int 3))) pNone) (dConst (.str [50, 53, 55]))) (sSeq (sTryP 3 rPar) (sNil)) (sNil)) [.val (.str t), .val (.str r), .val (.int (n : Int)), .val (.str rp'), .val (.str t), .val (.str [50, 53, 55, 32, 105, 115, 32]), .unset, .unset] = some (.next [.val (.str t), .val (.str r), .val (.int (n : Int)), .val (.str rp'), .val (.str t), .val (.str [50, 53, 55, 32, 105, 115, 32]), .unset, .unset]) := by
    cases q : (rp'.take 3 != [50, 53, 55]) with
    | true =>
      rw [q] at c257
      have tr : sTryP 3 rPar [.val (.str t), .val (.str r), .val (.int (n : Int)), .val (.str rp'), .val (.str t), .val (.str [50, 53, 55, 32, 105, 115, 32]), .unset, .unset] = some (.next [.val (.str t), .val (.str r), .val (.int (n : Int)), .val (.str rp'), .val (.str t), .val (.str [50, 53, 55, 32, 105, 115, 32]), .unset, .unset]) := by
        have : rPar [.str rp'] = some rp' := if_pos ⟨by omega, bne_iff_ne.mp q⟩
        show (if rPar [.str rp'] = some rp' then _ else none) = _
        rw [if_pos this]
      exact (ev_sif_t (ev_test (ev_slice rfl rfl (ev_some rfl) rfl sl3) rfl c257)).trans (ev_nextc tr rfl)
    | false =>
      rw [q] at c257
      exact (ev_sif_f (ev_test (ev_slice rfl rfl (ev_some rfl) rfl sl3) rfl c257)).trans rfl
  have w3 : sFor (gName 5) (dTup (aCons (dConst (.str [50, 53, 55, 45])) (aCons (dConst (.str [50, 53, 55, 32, 105, 115, 32])) (aNil)))) frontB [.val (.str t), .val (.str r), .val (.int (n : Int)), .val (.str (front ++ q)), .val (.str t), .unset, .unset, .unset] = some (.next [.val (.str t), .val (.str r), .val (.int (n : Int)), .val (.str (front ++ q)), .val (.str t), .val (.str [50, 53, 55, 32, 105, 115, 32]), .unset, .unset]) := by
    refine (ev_for (ev_tup (ev_pair rfl rfl) (by exact b2)) rfl).trans ?_
    refine (ev_loop rfl (front_body [50, 53, 55, 45] (front ++ q) (34 :: q) s4 (by simp; omega) p3 _ _ _ _ _ _)).trans ?_
    exact (ev_loop rfl (front_body [50, 53, 55, 32, 105, 115, 32] (front ++ q) (34 :: q) s4 (by simp; omega) p4 _ _ _ _ _ _)).trans rfl
  have st : dHeard [.val (.str t), .val (.str r), .val (.int (n : Int)), .unset, .unset, .unset, .unset, .unset] = _ :=
    ev_nextc (ev_asg (ev_bin rfl (rpl _ _ _ _ _ _ _) a1))
    (ev_nextc (ev_asg (ev_call (ev_one (ev_bin (ev_bin rfl rfl a2) (ev_item (ev_list (ev_cons rfl (ev_cons rfl (ev_cons rfl (ev_cons rfl ev_nil)))) (by exact b4)) (ev_bin rfl rfl m4) i4) a3)) p1))
    (ev_nextc ((ev_sif_f (ev_or_f (ev_test rfl rfl n1) (ev_or_f (ev_test (ev_call (ev_one rfl) p2) rfl n1) rfl))).trans rfl)
    (ev_nextc w3
    (ev_nextc (ev_asg (ev_bin (ev_slice (ev_call (ev_one (ev_bin rfl (ev_bin (ev_bin rfl rfl d4) rfl m1000) ad1000)) ds) (ev_some rfl) rfl rfl sl1) (ev_slice rfl (ev_some rfl) rfl rfl s3) a7))
    (ev_nextc w4
    (ev_nextc (ev_asg (ev_item (ev_call ev_nil rfl) (ev_bin (ev_bin rfl rfl d4000) rfl m27) i27))
    (ev_nextc ((ev_for (ev_tup (ev_cons (ev_bin rfl rfl s1) (ev_cons rfl (ev_cons (ev_bin rfl rfl s5) ev_nil))) (by exact b3)) rfl).trans
      ((ev_loop rfl (near_body _ _ _ _ _ _ _ _ (hc - 1) (by omega) g1)).trans ((ev_loop rfl (near_body _ _ _ _ _ _ _ _ hc (by omega) g2)).trans ((ev_loop rfl (near_body _ _ _ _ _ _ _ _ (hc + 1) (by omega) g3)).trans rfl))))
    (ev_seq_ret (ev_ret (ev_cmp (ev_meth rfl (ev_one (ev_comp rfl (iter_str (by omega)) (big_of (by rw [List.length_map]; omega)) rfl pc)) j) rfl ce))))))))))
  rw [st]
  rfl
theorem sHeard (F : F3 w b) : FunSpecX pw w b 3 (.ref 143) pHeard := (wHeard F).to fun xs r h => by
  obtain ⟨a, c, d, rfl, hq⟩ := ar3_some h; replace h := hq; clear hq
  obtain ⟨t, rfl, hq⟩ := onS_some h; replace h := hq; clear hq
  obtain ⟨q, rfl, hq⟩ := onS_some h; replace h := hq; clear hq
  obtain ⟨n, rfl, hq⟩ := onI_some h; replace h := hq; clear hq
  split at h
  · rename_i hc
    obtain ⟨h1, h2, h2', rfl⟩ := hc
    obtain rfl := Option.some.inj h
    have := heard_eval t n.toNat h2 h2'
    rw [show ((n.toNat : Nat) : Int) = n by omega] at this
    exact this
  · cases h
end
end Mine
end
-- part P5b
set_option maxRecDepth 100000
noncomputable section
namespace Mine
open PySem PySem.W PySem.Calls PyProof.Rows PySem.Spec PySem.SeqAt PyProof.V Builtin.Str
/-! ## runs of a letter -/
theorem rp_get {n c j : Nat} (h : j < n) : (rp n c)[j]? = some c := by unfold rp; rw [List.getElem?_replicate, if_pos h]
theorem rp_mem {n c x : Nat} (h : x ∈ rp n c) : x = c := List.eq_of_mem_replicate h
theorem rp_no {n c x : Nat} (h : x ≠ c) : x ∉ rp n c := fun q => h (rp_mem q)
structure Run (T A B : List Nat) (k x : Nat) : Prop where
  eq : T = A ++ (rp k x ++ B)
  hA : x ∉ A
  hB : x ∉ B
namespace Run
variable {T A B : List Nat} {k x n lo hi : Nat}
theorem len (R : Run T A B k x) : T.length = A.length + k + B.length := by
  rw [R.eq, List.length_append, List.length_append, rp_len]
  omega
theorem get (R : Run T A B k x) {j : Nat} (h1 : A.length ≤ j) (h2 : j < A.length + k) : T[j]? = some x := by
  rw [R.eq, List.getElem?_append_right h1, List.getElem?_append_left (by rw [rp_len]; omega)]
  exact rp_get (by omega)
theorem only (R : Run T A B k x) {j : Nat} (h : T[j]? = some x) : A.length ≤ j ∧ j < A.length + k := by
  rw [R.eq] at h
  refine ⟨Nat.le_of_not_lt fun q => ?_, Nat.lt_of_not_le fun q => ?_⟩
  · rw [List.getElem?_append_left q] at h
    exact R.hA (List.mem_of_getElem? h)
  · rw [List.getElem?_append_right (by omega), List.getElem?_append_right (by rw [rp_len]; omega)] at h
    exact R.hB (List.mem_of_getElem? h)
theorem at_ (R : Run T A B k x) (hn : 1 ≤ n) (i : Nat) : (T.drop i).take n = rp n x ↔ A.length ≤ i ∧ i + n ≤ A.length + k := by
  constructor
  · intro h
    have g : ∀ j, j < n → T[i + j]? = some x := fun j hj => by
      have := congrArg (·[j]?) h
      simp only [List.getElem?_take, List.getElem?_drop, if_pos hj, rp_get hj] at this
      exact this
    have h0 := R.only (g 0 (by omega))
    have h1 := R.only (g (n - 1) (by omega))
    omega
  · rintro ⟨h1, h2⟩
    apply List.ext_getElem?
    intro j
    by_cases hj : j < n
    · rw [List.getElem?_take, if_pos hj, List.getElem?_drop, rp_get hj]
      exact R.get (by omega) (by omega)
    · rw [List.getElem?_take, if_neg hj, List.getElem?_eq_none (by rw [rp_len]; omega)]
theorem find (R : Run T A B k x) (hn : 1 ≤ n) (lo : Nat) : findN T (rp n x) lo hi = if max lo A.length + n ≤ min hi (A.length + k) then some (max lo A.length) else none := by
  split
  · rename_i h
    obtain ⟨i, e, l1, l2⟩ := findN_some (x := T) (y := rp n x) (lo := lo) (hi := hi) (k := max lo A.length) (by omega) (by rw [rp_len]; omega) (by rw [rp_len]; exact (R.at_ hn _).mpr (by omega))
    obtain ⟨_, _, h3, _⟩ := findN_spec e
    rw [rp_len] at h3
    have := (R.at_ hn i).mp h3
    rw [e]
    congr 1
    omega
  · rename_i h
    cases e : findN T (rp n x) lo hi with
    | none => rfl
    | some i =>
      exfalso
      obtain ⟨h1, h2, h3, _⟩ := findN_spec e
      rw [rp_len] at h2 h3
      have := (R.at_ hn i).mp h3
      omega
theorem pre (R : Run T [] B k x) (n : Nat) : preB (rp n x) T = decide (n ≤ k) := by
  cases n with
  | zero => rw [show rp 0 x = [] from rfl, pre_nil, decide_eq_true (Nat.zero_le _)]
  | succ n =>
    have := R.at_ (n := n + 1) (by omega) 0
    simp only [List.drop_zero, List.length_nil, Nat.le_refl, Nat.zero_add, true_and] at this
    rw [pre_is, rp_len]
    by_cases h : n + 1 ≤ k
    · rw [this.mpr h, decide_eq_true h, beq_self_eq_true]
    · rw [decide_eq_false h, beq_eq_false_iff_ne]
      exact fun q => h (this.mp q)
theorem suf (R : Run T A [] k x) (n : Nat) : sufB (rp n x) T = decide (n ≤ k) := by
  have hl := R.len
  simp only [List.length_nil, Nat.add_zero] at hl
  cases n with
  | zero => rw [show rp 0 x = [] from rfl, suf_nil, decide_eq_true (Nat.zero_le _)]
  | succ n =>
    unfold sufB
    rw [rp_len]
    by_cases h : n + 1 ≤ T.length
    · rw [decide_eq_true h, Bool.true_and]
      have := R.at_ (n := n + 1) (by omega) (T.length - (n + 1))
      rw [List.take_of_length_le (by rw [List.length_drop]; omega)] at this
      by_cases h2 : n + 1 ≤ k
      · rw [this.mpr (by omega), decide_eq_true h2, beq_self_eq_true]
      · rw [decide_eq_false h2, beq_eq_false_iff_ne]
        exact fun q => h2 (by have := this.mp q; omega)
    · rw [decide_eq_false h, decide_eq_false (by omega), Bool.false_and]
/-- the letters once, from ahead of them -/
theorem once (R : Run T A B k x) (hlo : lo ≤ A.length) (hi' : lo ≤ hi) (rest : List (List Nat)) : ellL T hi (rp n x :: rest) lo = (if n = 0 then ellL T hi rest lo else decide (A.length + n ≤ min hi (A.length + k)) && ellL T hi rest (A.length + n)) := by
  by_cases h : n = 0
  · subst h
    rw [if_pos rfl]
    exact ellL_front T hi lo hi' rest
  · rw [if_neg h, ellL, R.find (by omega), Nat.max_eq_right hlo]
    by_cases q : A.length + n ≤ min hi (A.length + k)
    · rw [if_pos q, decide_eq_true q, Bool.true_and]
      simp only [rp_len]
    · rw [if_neg q, decide_eq_false q, Bool.false_and]
/-- the letters once more, from among them -/
theorem more (R : Run T A B k x) (h : 1 ≤ n) (hlo : A.length ≤ lo) (rest : List (List Nat)) : ellL T hi (rp n x :: rest) lo = (decide (lo + n ≤ min hi (A.length + k)) && ellL T hi rest (lo + n)) := by
  rw [ellL, R.find h, Nat.max_eq_left hlo]
  by_cases q : lo + n ≤ min hi (A.length + k)
  · rw [if_pos q, decide_eq_true q, Bool.true_and]
    simp only [rp_len]
  · rw [if_neg q, decide_eq_false q, Bool.false_and]
/-- twice -/
theorem twice (R : Run T A B k x) (hlo : lo ≤ A.length) (hi' : A.length + k ≤ hi) (rest : List (List Nat)) : ∃ lo', lo' ≤ A.length + k ∧ ellL T hi (rp n x :: rp n x :: rest) lo = (decide (2 * n ≤ k) && ellL T hi rest lo') := by
  rw [R.once hlo (by omega)]
  by_cases h : n = 0
  · subst h
    refine ⟨lo, by omega, ?_⟩
    rw [if_pos rfl, show rp 0 x = [] from rfl, ellL_front T hi lo (by omega) rest, decide_eq_true (by omega), Bool.true_and]
  · rw [if_neg h, R.more (by omega) (by omega), Nat.min_eq_right hi']
    by_cases q : 2 * n ≤ k
    · refine ⟨A.length + n + n, by omega, ?_⟩
      rw [decide_eq_true (by omega), decide_eq_true (by omega), decide_eq_true q]
      simp only [Bool.true_and]
    · refine ⟨A.length, by omega, ?_⟩
      rw [show decide (A.length + n + n ≤ A.length + k) = false from decide_eq_false (by omega), decide_eq_false q, Bool.false_and, Bool.false_and, Bool.and_false]
end Run
theorem rp46 {n c : Nat} (h : c ≠ 46) : 46 ∉ rp n c := fun q => h (rp_mem q).symm
/-- a row, the marks told by their counts -/
noncomputable def rowG (a u b v c : Nat) : List Nat := rp a 102 ++ rp u 34 ++ rp b 115 ++ rp v 34 ++ rp c 107
theorem rowF_is (a b c n : Nat) : rowF a b c n = rowG a (n % 4) b (n / 4 % 4) c := rfl
theorem rowF_len (a b c n : Nat) (hl : a ≤ 9 ∧ b ≤ 9 ∧ c ≤ 9) : (rowG a (n % 4) b (n / 4 % 4) c).length ≤ 100 := by
  have l4 := Nat.mod_lt n (show 0 < 4 by decide)
  have l5 := Nat.mod_lt (n / 4) (show 0 < 4 by decide)
  unfold rowG
  simp only [List.length_append, rp_len]
  omega
theorem row_len (a u b v c : Nat) : (rowG a u b v c).length = a + u + b + v + c := by unfold rowG; simp only [List.length_append, rp_len]
theorem run_f (a u b v c : Nat) : Run (rowG a u b v c) [] (rp u 34 ++ (rp b 115 ++ (rp v 34 ++ rp c 107))) a 102 :=
  ⟨by unfold rowG; simp, by simp, by simp only [List.mem_append, not_or]; exact ⟨rp_no (by decide), rp_no (by decide), rp_no (by decide), rp_no (by decide)⟩⟩
theorem run_s (a u b v c : Nat) : Run (rowG a u b v c) (rp a 102 ++ rp u 34) (rp v 34 ++ rp c 107) b 115 :=
  ⟨by unfold rowG; simp, by simp only [List.mem_append, not_or]; exact ⟨rp_no (by decide), rp_no (by decide)⟩, by simp only [List.mem_append, not_or]; exact ⟨rp_no (by decide), rp_no (by decide)⟩⟩
theorem run_k (a u b v c : Nat) : Run (rowG a u b v c) (rp a 102 ++ (rp u 34 ++ (rp b 115 ++ rp v 34))) [] c 107 :=
  ⟨by unfold rowG; simp, by simp only [List.mem_append, not_or]; exact ⟨rp_no (by decide), rp_no (by decide), rp_no (by decide), rp_no (by decide)⟩, by simp⟩
theorem joinL_le : ∀ ps : List (List Nat), (∀ p ∈ ps, p.length ≤ 100) → (joinL dots ps).length ≤ 103 * ps.length
  | [], _ => Nat.le_refl _
  | [p], h => by rw [joinL_one]; exact Nat.le_trans (h p (by simp)) (by simp)
  | p :: q :: r, h => by
    have h1 := joinL_le (q :: r) fun x hx => h x (List.mem_cons_of_mem _ hx)
    have h2 := h p (by simp)
    rw [joinL_cons, List.length_append, List.length_append, List.length_cons (as := q :: r)]
    show p.length + (3 + (joinL dots (q :: r)).length) ≤ _
    omega
theorem pEll_few (ps : List (List Nat)) (got : List Nat) (hne : ps ≠ []) (hp : ∀ p ∈ ps, 46 ∉ p) (h1 : ∀ p ∈ ps, p.length ≤ 100) (h2 : ps.length ≤ 10) (h3 : got.length ≤ 100) : pEll [.str (joinL dots ps), .str got] = some (.bool (ellS ps got)) :=
  pEll_join ps got hne hp (by have := joinL_le ps h1; omega) (by omega)
theorem Run.findB {T A B : List Nat} {k x n hi : Nat} (R : Run T A B k x) (hn : 1 ≤ n) (lo : Nat) : (findN T (rp n x) lo hi).isSome = decide (max lo A.length + n ≤ min hi (A.length + k)) := by
  rw [R.find hn]
  by_cases h : max lo A.length + n ≤ min hi (A.length + k)
  · rw [if_pos h, decide_eq_true h]; rfl
  · rw [if_neg h, decide_eq_false h]; rfl
theorem ar_f {m a N : Nat} (h2 : m ≤ a) (hN : a ≤ N) : (decide (m ≤ a) && true && decide (m + 0 ≤ N) && decide (max m 0 + m ≤ min (N - 0) (0 + a))) = decide (2 * m ≤ a) := by
  rw [decide_eq_true h2, decide_eq_true (show m + 0 ≤ N from Nat.le_trans h2 hN)]
  apply decide_eq_decide.mpr
  rw [Nat.sub_zero, Nat.zero_add, Nat.min_eq_right hN]
  omega
/-- a taking of the first heap -/
theorem take_f {a u b v c m : Nat} (h1 : 1 ≤ m) (h2 : m ≤ a) (hl : (rowG a u b v c).length ≤ 100) : pEll [.str (rp m 102 ++ dots ++ rp m 102 ++ dots), .str (rowG a u b v c)] = some (.bool (decide (2 * m ≤ a))) := by
  have e : rp m 102 ++ dots ++ rp m 102 ++ dots = joinL dots [rp m 102, rp m 102, []] := by simp [joinL]
  have R := run_f a u b v c
  have hN : a ≤ (rowG a u b v c).length := by rw [R.len]; omega
  have hm : m ≤ 100 := Nat.le_trans h2 (Nat.le_trans hN hl)
  rw [e, pEll_few [rp m 102, rp m 102, []] _ (by simp) (by simp [rp46]) (by simp [rp_len, hm]) (by simp) hl]
  show some (V.bool (ellP (rp m 102) [rp m 102] [] _)) = _
  unfold ellP
  rw [R.pre, suf_nil, ellL_one, R.findB h1, rp_len, List.length_nil]
  exact congrArg (fun x => some (V.bool x)) (ar_f h2 hN)
theorem ar_k {m c al N : Nat} (h2 : m ≤ c) (hN : N = al + c) : (true && decide (m ≤ c) && decide (0 + m ≤ N) && decide (max 0 al + m ≤ min (N - m) (al + c))) = decide (2 * m ≤ c) := by
  subst hN
  obtain ⟨d, rfl⟩ : ∃ d, c = m + d := ⟨c - m, by omega⟩
  rw [decide_eq_true h2, decide_eq_true (show 0 + m ≤ al + (m + d) by omega), Nat.zero_max, show al + (m + d) - m = al + d by omega, Nat.min_eq_left (show al + d ≤ al + (m + d) by omega)]
  apply decide_eq_decide.mpr
  omega
/-- of the last heap -/
theorem take_k {a u b v c m : Nat} (h1 : 1 ≤ m) (h2 : m ≤ c) (hl : (rowG a u b v c).length ≤ 100) : pEll [.str (dots ++ rp m 107 ++ dots ++ rp m 107), .str (rowG a u b v c)] = some (.bool (decide (2 * m ≤ c))) := by
  have e : dots ++ rp m 107 ++ dots ++ rp m 107 = joinL dots [[], rp m 107, rp m 107] := by simp [joinL]
  have R := run_k a u b v c
  have RL := R.len
  rw [List.length_nil, Nat.add_zero] at RL
  have hm : m ≤ 100 := Nat.le_trans h2 (Nat.le_trans (by rw [RL]; exact Nat.le_add_left _ _) hl)
  rw [e, pEll_few [[], rp m 107, rp m 107] _ (by simp) (by simp [rp46]) (by simp [rp_len, hm]) (by simp) hl]
  show some (V.bool (ellP [] [rp m 107] (rp m 107) _)) = _
  unfold ellP
  rw [R.suf, pre_nil, ellL_one, R.findB h1, rp_len, List.length_nil]
  exact congrArg (fun x => some (V.bool x)) (ar_k h2 RL)
/-- of the middle one, alone -/
theorem take_s {b m : Nat} (h2 : m ≤ b) (hl : b ≤ 9) : pEll [.str (rp m 115 ++ dots ++ rp m 115), .str (rp b 115)] = some (.bool (decide (2 * m ≤ b))) := by
  have R : Run (rp b 115) [] [] b 115 := ⟨by simp, by simp, by simp⟩
  have R' : Run (rp b 115) [] [] b 115 := R
  rw [pEll_two (rp46 (by decide)) (rp46 (by decide)) (by rw [rp_len]; omega) (by rw [rp_len]; omega) ((R.pre m).trans (decide_eq_true h2)) ((R'.suf m).trans (decide_eq_true h2)), rp_len, rp_len]
  congr 2
  apply decide_eq_decide.mpr
  omega
noncomputable def wantF (i j l : Nat) : List Nat := joinL dots [rp i 102, rp i 102, rp j 115, rp j 115, rp l 107, rp l 107]
/-- the rest of the first heap's -/
theorem rest_f {T B : List Nat} {a hi i : Nat} (R : Run T [] B a 102) (h1 : i ≤ a) (hh : a ≤ hi) (rest : List (List Nat)) : ∃ lo, lo ≤ a ∧ ellL T hi (rp i 102 :: rest) i = (decide (2 * i ≤ a) && ellL T hi rest lo) := by
  by_cases h0 : i = 0
  · subst h0
    refine ⟨0, Nat.zero_le _, ?_⟩
    rw [show rp 0 102 = [] from rfl, ellL_front _ _ 0 (Nat.zero_le _), decide_eq_true (Nat.zero_le _), Bool.true_and]
  · rw [R.more (by omega) (Nat.zero_le _), List.length_nil, Nat.zero_add, Nat.min_eq_right hh]
    by_cases q : i + i ≤ a
    · refine ⟨i + i, q, ?_⟩
      rw [decide_eq_true q, decide_eq_true (by omega)]
    · refine ⟨0, Nat.zero_le _, ?_⟩
      rw [decide_eq_false q, decide_eq_false (by omega), Bool.false_and, Bool.false_and]
/-- and the last heap's -/
theorem rest_k {T A B : List Nat} {c d l lo : Nat} (R : Run T A B c 107) (hc : c = l + d) (hlo : lo ≤ A.length) : ellL T (A.length + d) [rp l 107] lo = decide (2 * l ≤ c) := by
  subst hc
  rw [R.once hlo (by omega)]
  by_cases h0 : l = 0
  · subst h0
    rw [if_pos rfl, ellL, decide_eq_true (Nat.zero_le _)]
  · rw [if_neg h0, ellL, Bool.and_true, Nat.min_eq_left (show A.length + d ≤ A.length + (l + d) by omega)]
    apply decide_eq_decide.mpr
    omega
/-- three takings at once -/
theorem take_all (a u b v c i j l : Nat) (hl : (rowG a u b v c).length ≤ 100) (hi : i ≤ 20 ∧ j ≤ 20 ∧ l ≤ 20) : pEll [.str (wantF i j l), .str (rowG a u b v c)] = some (.bool (decide (2 * i ≤ a) && (decide (2 * j ≤ b) && decide (2 * l ≤ c)))) := by
  have L := row_len a u b v c
  have Rf := run_f a u b v c
  have Rs := run_s a u b v c
  have Rk := run_k a u b v c
  have b1 : i ≤ 100 := Nat.le_trans hi.1 (by decide)
  have b2 : j ≤ 100 := Nat.le_trans hi.2.1 (by decide)
  have b3 : l ≤ 100 := Nat.le_trans hi.2.2 (by decide)
  unfold wantF
  rw [pEll_few _ _ (by simp) (by simp [rp46]) (by simp [rp_len, b1, b2, b3]) (by simp) hl]
  clear hl hi b1 b2 b3
  show some (V.bool (ellP (rp i 102) [rp i 102, rp j 115, rp j 115, rp l 107] (rp l 107) _)) = _
  unfold ellP
  rw [Rf.pre, Rk.suf, rp_len, rp_len]
  refine congrArg (fun x => some (V.bool x)) ?_
  have sl : (rp a 102 ++ rp u 34).length = a + u := by simp only [List.length_append, rp_len]
  have kl : (rp a 102 ++ (rp u 34 ++ (rp b 115 ++ rp v 34))).length = a + u + b + v := by simp only [List.length_append, rp_len, Nat.add_assoc]
  by_cases h1 : i ≤ a
  · by_cases h2 : l ≤ c
    · obtain ⟨d, hc⟩ : ∃ d, c = l + d := ⟨c - l, by omega⟩
      have hN : (rowG a u b v c).length - l = a + u + b + v + d := by rw [L]; omega
      rw [decide_eq_true h1, decide_eq_true h2, decide_eq_true (show i + l ≤ (rowG a u b v c).length by rw [L]; omega), Bool.true_and, Bool.true_and, Bool.true_and, hN]
      clear L hN
      obtain ⟨lo, e1, e2⟩ := rest_f (hi := a + u + b + v + d) Rf h1 (by omega) [rp j 115, rp j 115, rp l 107]
      obtain ⟨lo2, e3, e4⟩ := Rs.twice (n := j) (lo := lo) (hi := a + u + b + v + d) (by rw [sl]; omega) (by rw [sl]; omega) [rp l 107]
      rw [sl] at e3
      have e5 := rest_k Rk hc (show lo2 ≤ _ by rw [kl]; omega)
      rw [kl] at e5
      rw [e2, e4, e5]
    · rw [decide_eq_false h2, show decide (2 * l ≤ c) = false from decide_eq_false (by omega)]
      simp
  · rw [decide_eq_false h1, show decide (2 * i ≤ a) = false from decide_eq_false (by omega)]
    simp
end Mine
end
-- part Y2n
set_option maxRecDepth 100000
noncomputable section
namespace Mine
open PySem PySem.W PySem.Calls PyProof.Rows PySem.Spec PySem.SeqAt PyProof.V
section
variable {w : World} {b : Heap}
/-! ## _law_takings -/
/-! _law_takings: 0 heaps, 1 number, 2 takings, 3 heap, 4 left, 5 row, 6 fewer, 7 count, 8 taking, 9 want -/
noncomputable abbrev dTake : SL → Option Out := sSeq (sNew 2 nNil) (sSeq (sFor (gName 3) (dCall (bfV .range) (aCons (dConst (.int 3)) (aNil))) (sSeq (sFor (gName 4) (dCall (bfV .range) (aCons (dBin .Add (dItem (dLoc 0) (dLoc 3)) (dConst (.int 1))) (aNil))) (sSeq (sAsg 5 (dIf (tCmp .Eq (dLoc 3) (dConst (.int 1))) (dBin .Mult (dConst (.str [115])) (dLoc 4)) (dCall pRow (aCons (dBin .Add (dBin .Add (dSlice (dLoc 0) pNone (pSome (dLoc 3)) pNone) (dList (aCons (dLoc 4) (aNil)))) (dSlice (dLoc 0) (pSome (dBin .Add (dLoc 3) (dConst (.int 1)))) pNone pNone)) (aCons (dLoc 1) (aNil)))))) (sSeq (sNew 6 nNil) (sSeq (sFor (gName 7) (dCall (bfV .range) (aCons (dConst (.int 1)) (aCons (dBin .Add (dLoc 4) (dConst (.int 1))) (aNil)))) (sSeq (sAsg 8 (dBin .Mult (dItem (dConst (.str [102, 115, 107])) (dLoc 3)) (dLoc 7))) (sSeq (sAsg 9 (dBin .Add (dBin .Add (dBin .Add (dBin .Add (dIf (tCmp .Eq (dLoc 3) (dConst (.int 2))) (dConst (.str [46, 46, 46])) (dConst (.str []))) (dLoc 8)) (dConst (.str [46, 46, 46]))) (dLoc 8)) (dIf (tCmp .Eq (dLoc 3) (dConst (.int 0))) (dConst (.str [46, 46, 46])) (dConst (.str []))))) (sSeq (sIf (tCmp .IsNot (dCall pEll (aCons (dLoc 9) (aCons (dLoc 5) (aNil)))) (dCmp .LtE (dBin .Mult (dConst (.int 2)) (dLoc 7)) (dLoc 4))) (sSeq (sRet (dConst .none)) (sNil)) (sNil)) (sSeq (sIf (tCmp .LtE (dBin .Mult (dConst (.int 2)) (dLoc 7)) (dLoc 4)) (sSeq (sApp 6 (dBin .Sub (dLoc 4) (dLoc 7))) (sNil)) (sNil)) (sNil)))))) (sSeq (sApp 2 (dLoc 6)) (sNil)))))) (sNil))) (sSeq (sRet (dLoc 2)) (sNil)))
theorem wTake (F : F3 w b) : FunSpec pw w b 3 (.ref 150) (funP 2 8 (dTake)) :=
  fun_spec (name := "_law_takings") (params := stArgs (st 17)) (body := stBody (st 17)) (scope := stScope (st 17)) (cd := .ref 149) (ps := ["heaps", "number"]) (ns := ["takings", "heap", "left", "row", "fewer", "count", "taking", "want"]) (n := 2)
    F.wd (F.kin 150 (o150_19 w.params) rfl) rfl ⟨149, _, _, _, rfl, F.kin 149 (o149_19 w.params) rfl, rfl, rfl⟩ (fun vs h => by obtain ⟨a, b, rfl⟩ := len_two h; rfl) (by decide +kernel) (all_loc (by decide +kernel)) (no_cd (by decide +kernel)) rfl rfl rfl
    fun b' L k K => (TS_cons (TX_new K.ok ⟨(by kernel_rfl), .inl (by kernel_rfl)⟩ TN_nil (by kernel_rfl)) (TS_cons (TX_for (TG_name K.ok ⟨(by kernel_rfl), .inl (by kernel_rfl)⟩) (TE_bf K.ok (by kernel_rfl) (by kernel_rfl) (g_range (F.up k)) (TA_cons TE_int TA_nil (star_cons rfl))) (TS_cons (TX_for (TG_name K.ok ⟨(by kernel_rfl), .inl (by kernel_rfl)⟩) (TE_bf K.ok (by kernel_rfl) (by kernel_rfl) (g_range (F.up k)) (TA_cons (TE_bin K (TE_item (TE_loc K.ok (by kernel_rfl) (by kernel_rfl)) (TE_loc K.ok (by kernel_rfl) (by kernel_rfl))) TE_int) TA_nil (star_cons rfl))) (TS_cons (TX_asg K.ok ⟨(by kernel_rfl), .inl (by kernel_rfl)⟩ (TE_if (TT_cmp (TE_loc K.ok (by kernel_rfl) (by kernel_rfl)) TE_int (by kernel_rfl)) (TE_bin K (TE_str (by kernel_rfl)) (TE_loc K.ok (by kernel_rfl) (by kernel_rfl))) (TE_fn K.ok (by kernel_rfl) (by kernel_rfl) (g_row (F.up k)) (((F.up k)).kin 138 (o138_17 w.params) rfl) rfl (sRow (F.up k)) (Nat.le_of_ble_eq_true rfl) (TA_cons (TE_bin K (TE_bin K (TE_slice (TE_loc K.ok (by kernel_rfl) (by kernel_rfl)) TP_none (TP_some (TE_loc K.ok (by kernel_rfl) (by kernel_rfl))) TP_none) (TE_list (TA_cons (TE_loc K.ok (by kernel_rfl) (by kernel_rfl)) TA_nil (star_cons rfl)))) (TE_slice (TE_loc K.ok (by kernel_rfl) (by kernel_rfl)) (TP_some (TE_bin K (TE_loc K.ok (by kernel_rfl) (by kernel_rfl)) TE_int)) TP_none TP_none)) (TA_cons (TE_loc K.ok (by kernel_rfl) (by kernel_rfl)) TA_nil (star_cons rfl)) (star_cons rfl)))) (by kernel_rfl)) (TS_cons (TX_new K.ok ⟨(by kernel_rfl), .inl (by kernel_rfl)⟩ TN_nil (by kernel_rfl)) (TS_cons (TX_for (TG_name K.ok ⟨(by kernel_rfl), .inl (by kernel_rfl)⟩) (TE_bf K.ok (by kernel_rfl) (by kernel_rfl) (g_range (F.up k)) (TA_cons TE_int (TA_cons (TE_bin K (TE_loc K.ok (by kernel_rfl) (by kernel_rfl)) TE_int) TA_nil (star_cons rfl)) (star_cons rfl))) (TS_cons (TX_asg K.ok ⟨(by kernel_rfl), .inl (by kernel_rfl)⟩ (TE_bin K (TE_item (TE_str (by kernel_rfl)) (TE_loc K.ok (by kernel_rfl) (by kernel_rfl))) (TE_loc K.ok (by kernel_rfl) (by kernel_rfl))) (by kernel_rfl)) (TS_cons (TX_asg K.ok ⟨(by kernel_rfl), .inl (by kernel_rfl)⟩ (TE_bin K (TE_bin K (TE_bin K (TE_bin K (TE_if (TT_cmp (TE_loc K.ok (by kernel_rfl) (by kernel_rfl)) TE_int (by kernel_rfl)) (TE_str (by kernel_rfl)) (TE_str (by kernel_rfl))) (TE_loc K.ok (by kernel_rfl) (by kernel_rfl))) (TE_str (by kernel_rfl))) (TE_loc K.ok (by kernel_rfl) (by kernel_rfl))) (TE_if (TT_cmp (TE_loc K.ok (by kernel_rfl) (by kernel_rfl)) TE_int (by kernel_rfl)) (TE_str (by kernel_rfl)) (TE_str (by kernel_rfl)))) (by kernel_rfl)) (TS_cons (TX_if (TT_cmp (TE_fn K.ok (by kernel_rfl) (by kernel_rfl) (g_ell (F.up k)) (((F.up k)).kin 53 (o53_8 w.params) rfl) rfl (sEll (F.up k)) (Nat.le_of_ble_eq_true rfl) (TA_cons (TE_loc K.ok (by kernel_rfl) (by kernel_rfl)) (TA_cons (TE_loc K.ok (by kernel_rfl) (by kernel_rfl)) TA_nil (star_cons rfl)) (star_cons rfl))) (TE_cmp (TE_bin K TE_int (TE_loc K.ok (by kernel_rfl) (by kernel_rfl))) (TE_loc K.ok (by kernel_rfl) (by kernel_rfl)) (by kernel_rfl)) (by kernel_rfl)) (TS_cons (TX_ret TE_none) TS_nil) TS_nil) (TS_cons (TX_if (TT_cmp (TE_bin K TE_int (TE_loc K.ok (by kernel_rfl) (by kernel_rfl))) (TE_loc K.ok (by kernel_rfl) (by kernel_rfl)) (by kernel_rfl)) (TS_cons (TX_app K.ok (by kernel_rfl) (by kernel_rfl) (TE_bin K (TE_loc K.ok (by kernel_rfl) (by kernel_rfl)) (TE_loc K.ok (by kernel_rfl) (by kernel_rfl))) (star_cons rfl) (by kernel_rfl) (by kernel_rfl) (by kernel_rfl) (by kernel_rfl)) TS_nil) TS_nil) TS_nil)))) (fun _ => (by kernel_rfl))) (TS_cons (TX_app K.ok (by kernel_rfl) (by kernel_rfl) (TE_loc K.ok (by kernel_rfl) (by kernel_rfl)) (star_cons rfl) (by kernel_rfl) (by kernel_rfl) (by kernel_rfl) (by kernel_rfl)) TS_nil)))) (fun _ => (by kernel_rfl))) TS_nil) (fun _ => (by kernel_rfl))) (TS_cons (TX_ret (TE_loc K.ok (by kernel_rfl) (by kernel_rfl))) TS_nil)))

end
noncomputable abbrev cntB : SL → Option Out := (sSeq (sAsg 8 (dBin .Mult (dItem (dConst (.str [102, 115, 107])) (dLoc 3)) (dLoc 7))) (sSeq (sAsg 9 (dBin .Add (dBin .Add (dBin .Add (dBin .Add (dIf (tCmp .Eq (dLoc 3) (dConst (.int 2))) (dConst (.str [46, 46, 46])) (dConst (.str []))) (dLoc 8)) (dConst (.str [46, 46, 46]))) (dLoc 8)) (dIf (tCmp .Eq (dLoc 3) (dConst (.int 0))) (dConst (.str [46, 46, 46])) (dConst (.str []))))) (sSeq (sIf (tCmp .IsNot (dCall pEll (aCons (dLoc 9) (aCons (dLoc 5) (aNil)))) (dCmp .LtE (dBin .Mult (dConst (.int 2)) (dLoc 7)) (dLoc 4))) (sSeq (sRet (dConst .none)) (sNil)) (sNil)) (sSeq (sIf (tCmp .LtE (dBin .Mult (dConst (.int 2)) (dLoc 7)) (dLoc 4)) (sSeq (sApp 6 (dBin .Sub (dLoc 4) (dLoc 7))) (sNil)) (sNil)) (sNil)))))
noncomputable abbrev lftB : SL → Option Out := (sSeq (sAsg 5 (dIf (tCmp .Eq (dLoc 3) (dConst (.int 1))) (dBin .Mult (dConst (.str [115])) (dLoc 4)) (dCall pRow (aCons (dBin .Add (dBin .Add (dSlice (dLoc 0) pNone (pSome (dLoc 3)) pNone) (dList (aCons (dLoc 4) (aNil)))) (dSlice (dLoc 0) (pSome (dBin .Add (dLoc 3) (dConst (.int 1)))) pNone pNone)) (aCons (dLoc 1) (aNil)))))) (sSeq (sNew 6 nNil) (sSeq (sFor (gName 7) (dCall (bfV .range) (aCons (dConst (.int 1)) (aCons (dBin .Add (dLoc 4) (dConst (.int 1))) (aNil)))) (sSeq (sAsg 8 (dBin .Mult (dItem (dConst (.str [102, 115, 107])) (dLoc 3)) (dLoc 7))) (sSeq (sAsg 9 (dBin .Add (dBin .Add (dBin .Add (dBin .Add (dIf (tCmp .Eq (dLoc 3) (dConst (.int 2))) (dConst (.str [46, 46, 46])) (dConst (.str []))) (dLoc 8)) (dConst (.str [46, 46, 46]))) (dLoc 8)) (dIf (tCmp .Eq (dLoc 3) (dConst (.int 0))) (dConst (.str [46, 46, 46])) (dConst (.str []))))) (sSeq (sIf (tCmp .IsNot (dCall pEll (aCons (dLoc 9) (aCons (dLoc 5) (aNil)))) (dCmp .LtE (dBin .Mult (dConst (.int 2)) (dLoc 7)) (dLoc 4))) (sSeq (sRet (dConst .none)) (sNil)) (sNil)) (sSeq (sIf (tCmp .LtE (dBin .Mult (dConst (.int 2)) (dLoc 7)) (dLoc 4)) (sSeq (sApp 6 (dBin .Sub (dLoc 4) (dLoc 7))) (sNil)) (sNil)) (sNil)))))) (sSeq (sApp 2 (dLoc 6)) (sNil)))))
noncomputable abbrev heapB : SL → Option Out := (sSeq (sFor (gName 4) (dCall (bfV .range) (aCons (dBin .Add (dItem (dLoc 0) (dLoc 3)) (dConst (.int 1))) (aNil))) (sSeq (sAsg 5 (dIf (tCmp .Eq (dLoc 3) (dConst (.int 1))) (dBin .Mult (dConst (.str [115])) (dLoc 4)) (dCall pRow (aCons (dBin .Add (dBin .Add (dSlice (dLoc 0) pNone (pSome (dLoc 3)) pNone) (dList (aCons (dLoc 4) (aNil)))) (dSlice (dLoc 0) (pSome (dBin .Add (dLoc 3) (dConst (.int 1)))) pNone pNone)) (aCons (dLoc 1) (aNil)))))) (sSeq (sNew 6 nNil) (sSeq (sFor (gName 7) (dCall (bfV .range) (aCons (dConst (.int 1)) (aCons (dBin .Add (dLoc 4) (dConst (.int 1))) (aNil)))) (sSeq (sAsg 8 (dBin .Mult (dItem (dConst (.str [102, 115, 107])) (dLoc 3)) (dLoc 7))) (sSeq (sAsg 9 (dBin .Add (dBin .Add (dBin .Add (dBin .Add (dIf (tCmp .Eq (dLoc 3) (dConst (.int 2))) (dConst (.str [46, 46, 46])) (dConst (.str []))) (dLoc 8)) (dConst (.str [46, 46, 46]))) (dLoc 8)) (dIf (tCmp .Eq (dLoc 3) (dConst (.int 0))) (dConst (.str [46, 46, 46])) (dConst (.str []))))) (sSeq (sIf (tCmp .IsNot (dCall pEll (aCons (dLoc 9) (aCons (dLoc 5) (aNil)))) (dCmp .LtE (dBin .Mult (dConst (.int 2)) (dLoc 7)) (dLoc 4))) (sSeq (sRet (dConst .none)) (sNil)) (sNil)) (sSeq (sIf (tCmp .LtE (dBin .Mult (dConst (.int 2)) (dLoc 7)) (dLoc 4)) (sSeq (sApp 6 (dBin .Sub (dLoc 4) (dLoc 7))) (sNil)) (sNil)) (sNil)))))) (sSeq (sApp 2 (dLoc 6)) (sNil)))))) (sNil))
theorem ev_app {i : Nat} {d : SL → Option (V × SL)} {σ σ1 : SL} {a : V} {xs ys : List V} (h0 : σ[i]? = some (.own xs)) (h : d σ = some (a, σ1)) (h1 : σ1[i]? = some (.own ys)) (hl : ys.length ≤ big) : sApp i d σ = some (.next (σ1.set i (.own (ys ++ [a])))) := by
  unfold sApp
  rw [h0]
  dsimp only
  rw [h, Option.bind_some]
  dsimp only
  rw [h1]
  dsimp only
  rw [if_pos hl]
theorem list_add {a c : List V} (h : a.length + c.length ≤ 1000) : binV .Add (.list a) (.list c) = some (.list (a ++ c)) := by
  show (if _ then some (V.list (a ++ c)) else none) = _
  rw [if_pos (by omega)]
theorem mul_two (m : Nat) (h : m ≤ 1000) : binV .Mult (.int 2) (.int (m : Int)) = some (.int ((2 * m : Nat) : Int)) := by
  rw [mul_small 2 (m : Int) (by omega) (by omega), show ((2 : Int) * (m : Int)) = ((2 * m : Nat) : Int) by omega]
noncomputable def wantH (h x m : Nat) : List Nat := (if h = 2 then dots else []) ++ rp m x ++ dots ++ rp m x ++ (if h = 0 then dots else [])
noncomputable def addT (left m : Nat) : List Nat := if 2 * m ≤ left then [left - m] else []
theorem count_body (h x left m : Nat) (row : List Nat) (hx : itemV (.str [102, 115, 107]) (.int (h : Int)) = some (.str [x])) (hm : m ≤ left) (hl : left ≤ 9) (pe : pEll [.str (wantH h x m), .str row] = some (.bool (decide (2 * m ≤ left)))) (F : List Nat) (hF : F.length ≤ 1000) (s0 s1 s2 s8 s9 : Slot) :
    cntB [s0, s1, s2, .val (.int (h : Int)), .val (.int (left : Int)), .val (.str row), .own (F.map iV), .val (.int (m : Int)), s8, s9] = some (.next [s0, s1, s2, .val (.int (h : Int)), .val (.int (left : Int)), .val (.str row), .own ((F ++ addT left m).map iV), .val (.int (m : Int)), .val (.str (rp m x)), .val (.str (wantH h x m))]) := by
  have d2 : ∀ (j : Nat) (σ : SL), σ[3]? = some (.val (.int (h : Int))) → dIf (tCmp .Eq (dLoc 3) (dConst (.int (j : Int)))) (dConst (.str [46, 46, 46])) (dConst (.str [])) σ = some (.str (if h = j then dots else []), σ) := fun j σ e => by
    have e3 : dLoc 3 σ = some (.int (h : Int), σ) := by unfold dLoc; rw [e]
    have q := eq_nat h j
    by_cases c : h = j
    · rw [if_pos c]
      rw [beq_iff_eq.mpr c] at q
      exact (ev_if_t (ev_test e3 rfl q)).trans rfl
    · rw [if_neg c]
      rw [beq_eq_false_iff_ne.mpr c] at q
      exact (ev_if_f (ev_test e3 rfl q)).trans rfl
  have mu := mul_str x m (by omega)
  have l2 : (if h = 2 then dots else ([] : List Nat)).length ≤ 3 := by split <;> decide
  have l0 : (if h = 0 then dots else ([] : List Nat)).length ≤ 3 := by split <;> decide
  have a1 : binV .Add (.str (if h = 2 then dots else [])) (.str (rp m x)) = some (.str ((if h = 2 then dots else []) ++ rp m x)) := str_add (by rw [rp_len]; omega)
  have a2 : binV .Add (.str ((if h = 2 then dots else []) ++ rp m x)) (.str [46, 46, 46]) = some (.str ((if h = 2 then dots else []) ++ rp m x ++ dots)) := str_add (by simp only [List.length_append, rp_len, List.length_cons, List.length_nil]; omega)
  have a3 : binV .Add (.str ((if h = 2 then dots else []) ++ rp m x ++ dots)) (.str (rp m x)) = some (.str ((if h = 2 then dots else []) ++ rp m x ++ dots ++ rp m x)) := str_add (by simp only [List.length_append, rp_len, List.length_cons, List.length_nil]; omega)
  have a4 : binV .Add (.str ((if h = 2 then dots else []) ++ rp m x ++ dots ++ rp m x)) (.str (if h = 0 then dots else [])) = some (.str (wantH h x m)) := str_add (by simp only [List.length_append, rp_len, List.length_cons, List.length_nil]; omega)
  have m2 := mul_two m (by omega)
  have le := le_nat (2 * m) left
  have sb : binV .Sub (.int (left : Int)) (.int (m : Int)) = some (.int ((left - m : Nat) : Int)) := nat_sub hm
  have w4 : ∀ s9 : Slot, sIf (tCmp .LtE (dBin .Mult (dConst (.int 2)) (dLoc 7)) (dLoc 4)) (sSeq (sApp 6 (dBin .Sub (dLoc 4) (dLoc 7))) (sNil)) (sNil) [s0, s1, s2, .val (.int (h : Int)), .val (.int (left : Int)), .val (.str row), .own (F.map iV), .val (.int (m : Int)), .val (.str (rp m x)), s9] = some (.next [s0, s1, s2, .val (.int (h : Int)), .val (.int (left : Int)), .val (.str row), .own ((F ++ addT left m).map iV), .val (.int (m : Int)), .val (.str (rp m x)), s9]) := fun s9 => by
    unfold addT
    by_cases c : 2 * m ≤ left
    · rw [decide_eq_true c] at le
      rw [if_pos c]
      refine (ev_sif_t (ev_test (ev_bin rfl rfl m2) rfl le)).trans (ev_nextc (ev_app rfl (ev_bin rfl rfl sb) rfl (big_of (by rw [List.length_map]; omega))) ?_)
      rw [List.map_append]
      rfl
    · rw [decide_eq_false c] at le
      rw [if_neg c, List.append_nil]
      exact (ev_sif_f (ev_test (ev_bin rfl rfl m2) rfl le)).trans rfl
  refine ev_nextc (ev_asg (ev_bin (ev_item rfl rfl hx) rfl mu)) ?_
  refine ev_nextc (ev_asg (ev_bin (ev_bin (ev_bin (ev_bin (d2 2 _ rfl) rfl a1) rfl a2) rfl a3) (d2 0 _ rfl) a4)) ?_
  refine ev_nextc ((ev_sif_f (ev_test (ev_call (ev_pair rfl rfl) pe) (ev_cmp (ev_bin rfl rfl m2) rfl le) (isnot_same _))).trans rfl) ?_
  exact ev_nextc (w4 _) rfl
noncomputable def tkL (left : Nat) (ms : List Nat) : List Nat := ms.flatMap (addT left)
theorem count_loop (h x left : Nat) (row : List Nat) (hx : itemV (.str [102, 115, 107]) (.int (h : Int)) = some (.str [x])) (hl : left ≤ 9) (s0 s1 s2 : Slot) : ∀ (ms : List Nat) (F : List Nat) (s7 s8 s9 : Slot), (∀ m ∈ ms, m ≤ left ∧ pEll [.str (wantH h x m), .str row] = some (.bool (decide (2 * m ≤ left)))) → F.length + ms.length ≤ 900 →
    ∃ t7 t8 t9, loopV (gName 7) cntB (ms.map iV) [s0, s1, s2, .val (.int (h : Int)), .val (.int (left : Int)), .val (.str row), .own (F.map iV), s7, s8, s9] = some (.next [s0, s1, s2, .val (.int (h : Int)), .val (.int (left : Int)), .val (.str row), .own ((F ++ tkL left ms).map iV), t7, t8, t9])
  | [], F, s7, s8, s9, _, _ => ⟨s7, s8, s9, by unfold tkL; rw [List.flatMap_nil, List.append_nil]; rfl⟩
  | m :: ms, F, s7, s8, s9, hm, hF => by
    have e := count_body h x left m row hx (hm m (by simp)).1 hl (hm m (by simp)).2 F (by omega) s0 s1 s2 s8 s9
    have al : (addT left m).length ≤ 1 := by unfold addT; split <;> simp
    obtain ⟨t7, t8, t9, ih⟩ := count_loop h x left row hx hl s0 s1 s2 ms (F ++ addT left m) (.val (iV m)) (.val (.str (rp m x))) (.val (.str (wantH h x m))) (fun k hk => hm k (List.mem_cons_of_mem _ hk)) (by rw [List.length_append]; simp only [List.length_cons] at hF; omega)
    refine ⟨t7, t8, t9, (ev_loop rfl e).trans (ih.trans ?_)⟩
    unfold tkL
    rw [List.flatMap_cons, List.append_assoc]
/-- what may be left of a heap -/
noncomputable def tk (left : Nat) : List Nat := tkL left ((List.range left).map (1 + ·))
noncomputable def tkV (left : Nat) : V := .list ((tk left).map iV)
noncomputable def rowE : SL → Option (V × SL) := dIf (tCmp .Eq (dLoc 3) (dConst (.int 1))) (dBin .Mult (dConst (.str [115])) (dLoc 4)) (dCall pRow (aCons (dBin .Add (dBin .Add (dSlice (dLoc 0) pNone (pSome (dLoc 3)) pNone) (dList (aCons (dLoc 4) (aNil)))) (dSlice (dLoc 0) (pSome (dBin .Add (dLoc 3) (dConst (.int 1)))) pNone pNone)) (aCons (dLoc 1) (aNil))))
theorem left_body (h x left : Nat) (row : List Nat) (H N : V) (hx : itemV (.str [102, 115, 107]) (.int (h : Int)) = some (.str [x])) (hl : left ≤ 9)
    (hr : ∀ s2 s5 s6 s7 s8 s9 : Slot, rowE [.val H, .val N, s2, .val (.int (h : Int)), .val (.int (left : Int)), s5, s6, s7, s8, s9] = some (.str row, [.val H, .val N, s2, .val (.int (h : Int)), .val (.int (left : Int)), s5, s6, s7, s8, s9]))
    (pe : ∀ m, 1 ≤ m → m ≤ left → pEll [.str (wantH h x m), .str row] = some (.bool (decide (2 * m ≤ left)))) (T : List V) (hT : T.length ≤ 1000) (s5 s6 s7 s8 s9 : Slot) :
    ∃ t5 t6 t7 t8 t9, lftB [.val H, .val N, .own T, .val (.int (h : Int)), .val (.int (left : Int)), s5, s6, s7, s8, s9] = some (.next [.val H, .val N, .own (T ++ [tkV left]), .val (.int (h : Int)), .val (.int (left : Int)), t5, t6, t7, t8, t9]) := by
  have a1 : binV .Add (.int (left : Int)) (.int 1) = some (.int ((left + 1 : Nat) : Int)) := nat_add left 1
  have rg : bfV .range [.int 1, .int ((left + 1 : Nat) : Int)] = some (.rng 1 ((left + 1 : Nat) : Int)) := rfl
  have it : iterV (.rng 1 ((left + 1 : Nat) : Int)) = some (((List.range left).map (1 + ·)).map iV) := by
    have := rng_nat (a := 1) (b := left + 1) (by decide) (by omega)
    rw [Nat.add_sub_cancel, show ((1 : Nat) : Int) = 1 from rfl] at this
    rw [this, List.map_map]
    rfl
  obtain ⟨t7, t8, t9, lp⟩ := count_loop h x left row hx hl (.val H) (.val N) (.own T) ((List.range left).map (1 + ·)) [] s7 s8 s9 (fun m hm => by
    obtain ⟨k, hk, rfl⟩ := List.mem_map.mp hm
    rw [List.mem_range] at hk
    exact ⟨by omega, pe _ (by omega) (by omega)⟩) (by rw [List.length_map, List.length_range]; simp; omega)
  rw [List.nil_append] at lp
  refine ⟨.val (.str row), .val (tkV left), t7, t8, t9, ?_⟩
  refine ev_nextc (ev_asg (hr _ _ _ _ _ _)) ?_
  refine ev_nextc (σ1 := [.val H, .val N, .own T, .val (.int (h : Int)), .val (.int (left : Int)), .val (.str row), .own [], s7, s8, s9]) rfl ?_
  refine ev_nextc ((ev_for (ev_call (ev_pair rfl (ev_bin rfl rfl a1)) rg) it).trans lp) ?_
  exact ev_nextc (ev_app rfl rfl rfl (big_of (by omega))) rfl
theorem left_loop (h x : Nat) (row : Nat → List Nat) (H N : V) (hx : itemV (.str [102, 115, 107]) (.int (h : Int)) = some (.str [x])) : ∀ (ls : List Nat), 
    (∀ left ∈ ls, left ≤ 9 ∧ (∀ s2 s5 s6 s7 s8 s9 : Slot, rowE [.val H, .val N, s2, .val (.int (h : Int)), .val (.int (left : Int)), s5, s6, s7, s8, s9] = some (.str (row left), [.val H, .val N, s2, .val (.int (h : Int)), .val (.int (left : Int)), s5, s6, s7, s8, s9])) ∧
      ∀ m, 1 ≤ m → m ≤ left → pEll [.str (wantH h x m), .str (row left)] = some (.bool (decide (2 * m ≤ left)))) → ∀ (T : List V) (s4 s5 s6 s7 s8 s9 : Slot), T.length + ls.length ≤ 900 →
    ∃ t4 t5 t6 t7 t8 t9, loopV (gName 4) lftB (ls.map iV) [.val H, .val N, .own T, .val (.int (h : Int)), s4, s5, s6, s7, s8, s9] = some (.next [.val H, .val N, .own (T ++ ls.map tkV), .val (.int (h : Int)), t4, t5, t6, t7, t8, t9])
  | [], _, T, s4, s5, s6, s7, s8, s9, _ => ⟨s4, s5, s6, s7, s8, s9, by
    show _ = some (Out.next [_, _, .own (T ++ []), _, _, _, _, _, _, _])
    rw [List.append_nil]
    rfl⟩
  | l :: ls, hs, T, s4, s5, s6, s7, s8, s9, hT => by
    obtain ⟨h1, h2, h3⟩ := hs l (by simp)
    simp only [List.length_cons] at hT
    obtain ⟨u5, u6, u7, u8, u9, e⟩ := left_body h x l (row l) H N hx h1 h2 h3 T (by omega) s5 s6 s7 s8 s9
    obtain ⟨t4, t5, t6, t7, t8, t9, ih⟩ := left_loop h x row H N hx ls (fun k hk => hs k (List.mem_cons_of_mem _ hk)) (T ++ [tkV l]) (.val (iV l)) u5 u6 u7 u8 u9 (by rw [List.length_append]; simp; omega)
    refine ⟨t4, t5, t6, t7, t8, t9, (ev_loop rfl e).trans (ih.trans ?_)⟩
    rw [List.map_cons, List.append_assoc]
    rfl
noncomputable def takL (n : Nat) : List V := (List.range (n + 1)).map tkV
theorem heap_body (h x n : Nat) (row : Nat → List Nat) (H N : V) (hx : itemV (.str [102, 115, 107]) (.int (h : Int)) = some (.str [x])) (hH : itemV H (.int (h : Int)) = some (.int (n : Int))) (hn : n ≤ 9)
    (hs : ∀ left, left ≤ n → (∀ s2 s5 s6 s7 s8 s9 : Slot, rowE [.val H, .val N, s2, .val (.int (h : Int)), .val (.int (left : Int)), s5, s6, s7, s8, s9] = some (.str (row left), [.val H, .val N, s2, .val (.int (h : Int)), .val (.int (left : Int)), s5, s6, s7, s8, s9])) ∧
      ∀ m, 1 ≤ m → m ≤ left → pEll [.str (wantH h x m), .str (row left)] = some (.bool (decide (2 * m ≤ left)))) (T : List V) (hT : T.length ≤ 800) (s4 s5 s6 s7 s8 s9 : Slot) :
    ∃ t4 t5 t6 t7 t8 t9, heapB [.val H, .val N, .own T, .val (.int (h : Int)), s4, s5, s6, s7, s8, s9] = some (.next [.val H, .val N, .own (T ++ takL n), .val (.int (h : Int)), t4, t5, t6, t7, t8, t9]) := by
  have a1 : binV .Add (.int (n : Int)) (.int 1) = some (.int ((n + 1 : Nat) : Int)) := nat_add n 1
  have rg : bfV .range [.int ((n + 1 : Nat) : Int)] = some (.rng 0 ((n + 1 : Nat) : Int)) := rfl
  have it : iterV (.rng 0 ((n + 1 : Nat) : Int)) = some ((List.range (n + 1)).map iV) := rng_zero (by omega)
  obtain ⟨t4, t5, t6, t7, t8, t9, lp⟩ := left_loop h x row H N hx (List.range (n + 1)) (fun l hl => by
    rw [List.mem_range] at hl
    obtain ⟨q1, q2⟩ := hs l (by omega)
    exact ⟨by omega, q1, q2⟩) T s4 s5 s6 s7 s8 s9 (by rw [List.length_range]; omega)
  exact ⟨t4, t5, t6, t7, t8, t9, ev_nextc ((ev_for (ev_call (ev_one (ev_bin (ev_item rfl rfl hH) rfl a1)) rg) it).trans lp) rfl⟩
theorem row_if_s {H N : V} {left : Nat} (hl : left ≤ 9) (s2 s5 s6 s7 s8 s9 : Slot) : rowE [.val H, .val N, s2, .val (.int ((1 : Nat) : Int)), .val (.int (left : Int)), s5, s6, s7, s8, s9] = some (.str (rp left 115), [.val H, .val N, s2, .val (.int ((1 : Nat) : Int)), .val (.int (left : Int)), s5, s6, s7, s8, s9]) :=
  (ev_if_t (ev_test rfl rfl (eq_nat 1 1))).trans (ev_bin rfl rfl (mul_str 115 left (by omega)))
theorem row_if {L : List V} {n h left : Nat} {p : Nat × Nat × Nat} (h1 : h ≠ 1) (hL : L.length ≤ 100) (ht : three (L.take h ++ [iV left] ++ L.drop (h + 1)) = some p) (s2 s5 s6 s7 s8 s9 : Slot) :
    rowE [.val (.list L), .val (.int (n : Int)), s2, .val (.int (h : Int)), .val (.int (left : Int)), s5, s6, s7, s8, s9] = some (.str (rowF p.1 p.2.1 p.2.2 n), [.val (.list L), .val (.int (n : Int)), s2, .val (.int (h : Int)), .val (.int (left : Int)), s5, s6, s7, s8, s9]) := by
  have e := eq_nat h 1
  rw [beq_eq_false_iff_ne.mpr h1] at e
  have c1 : sliceV' (.list L) none (some (h : Int)) none = some (.list (L.take h)) := by
    rw [slice_list_ok (big_of (by omega)), cutP_to]
  have c2 : sliceV' (.list L) (some ((h + 1 : Nat) : Int)) none none = some (.list (L.drop (h + 1))) := by
    rw [slice_list_ok (big_of (by omega)), cutP_from]
  have a1 : binV .Add (.int (h : Int)) (.int 1) = some (.int ((h + 1 : Nat) : Int)) := nat_add h 1
  have l1 : (L.take h).length ≤ 100 := by rw [List.length_take]; omega
  have l2 : (L.drop (h + 1)).length ≤ 100 := by rw [List.length_drop]; omega
  have b1 : binV .Add (.list (L.take h)) (.list [iV left]) = some (.list (L.take h ++ [iV left])) := list_add (by simp only [List.length_cons, List.length_nil]; omega)
  have b2 : binV .Add (.list (L.take h ++ [iV left])) (.list (L.drop (h + 1))) = some (.list (L.take h ++ [iV left] ++ L.drop (h + 1))) := list_add (by rw [List.length_append]; simp only [List.length_cons, List.length_nil]; omega)
  have pr : pRow [.list (L.take h ++ [iV left] ++ L.drop (h + 1)), .int (n : Int)] = some (.str (rowF p.1 p.2.1 p.2.2 n)) := by
    show (three (L.take h ++ [iV left] ++ L.drop (h + 1))).bind (fun p => if 0 ≤ (n : Int) then some (V.str (rowF p.1 p.2.1 p.2.2 (n : Int).toNat)) else none) = _
    rw [ht, Option.bind_some, if_pos (by omega)]
    rfl
  have hb1 : 1 ≤ big := big_of (by decide)
  exact (ev_if_f (ev_test rfl rfl e)).trans (ev_call (ev_pair (ev_bin (ev_bin (ev_slice rfl rfl (ev_some rfl) rfl c1) (ev_list (ev_one rfl) hb1) b1) (ev_slice rfl (ev_some (ev_bin rfl rfl a1)) rfl rfl c2) b2) rfl) pr)
theorem take_eval (a bb c n : Nat) (hl : a ≤ 9 ∧ bb ≤ 9 ∧ c ≤ 9) : (dTake [.val (.list [iV a, iV bb, iV c]), .val (.int (n : Int)), .unset, .unset, .unset, .unset, .unset, .unset, .unset, .unset]).bind outV = some (.list (takL a ++ takL bb ++ takL c)) := by
  obtain ⟨h1, h2, h3⟩ := hl
  have i0 : itemV (.list [iV a, iV bb, iV c]) (.int ((0 : Nat) : Int)) = some (.int (a : Int)) := list_at _ (by show 3 ≤ 1000; decide) 0 _ rfl
  have i1 : itemV (.list [iV a, iV bb, iV c]) (.int ((1 : Nat) : Int)) = some (.int (bb : Int)) := list_at _ (by show 3 ≤ 1000; decide) 1 _ rfl
  have i2 : itemV (.list [iV a, iV bb, iV c]) (.int ((2 : Nat) : Int)) = some (.int (c : Int)) := list_at _ (by show 3 ≤ 1000; decide) 2 _ rfl
  have tl : ∀ n, (takL n).length = n + 1 := fun n => by unfold takL; rw [List.length_map, List.length_range]
  obtain ⟨t4, t5, t6, t7, t8, t9, e0⟩ := heap_body 0 102 a (fun l => rowF l bb c n) (.list [iV a, iV bb, iV c]) (.int (n : Int)) rfl i0 h1 (fun left hl => ⟨row_if (p := (left, bb, c)) (by decide) (by show 3 ≤ 100; decide) (three_is left bb c (by omega) h2 h3), fun m q1 q2 => by
    have := take_f q1 q2 (rowF_len left bb c n ⟨Nat.le_trans hl h1, h2, h3⟩)
    simpa [wantH, rowF_is] using this⟩) [] (by simp) .unset .unset .unset .unset .unset .unset
  obtain ⟨u4, u5, u6, u7, u8, u9, e1⟩ := heap_body 1 115 bb (fun l => rp l 115) (.list [iV a, iV bb, iV c]) (.int (n : Int)) rfl i1 h2 (fun left hl => ⟨row_if_s (by omega), fun m q1 q2 => by
    have := take_s q2 (by omega)
    simpa [wantH] using this⟩) (takL a) (by rw [tl]; omega) t4 t5 t6 t7 t8 t9
  obtain ⟨v4, v5, v6, v7, v8, v9, e2⟩ := heap_body 2 107 c (fun l => rowF a bb l n) (.list [iV a, iV bb, iV c]) (.int (n : Int)) rfl i2 h3 (fun left hl => ⟨row_if (p := (a, bb, left)) (by decide) (by show 3 ≤ 100; decide) (three_is a bb left h1 h2 (by omega)), fun m q1 q2 => by
    have := take_k q1 q2 (rowF_len a bb left n ⟨h1, h2, Nat.le_trans hl h3⟩)
    simpa [wantH, rowF_is] using this⟩) (takL a ++ takL bb) (by rw [List.length_append, tl, tl]; omega) u4 u5 u6 u7 u8 u9
  rw [List.nil_append] at e0
  have rg : bfV .range [.int 3] = some (.rng 0 3) := rfl
  have it : iterV (.rng 0 3) = some [.int ((0 : Nat) : Int), .int ((1 : Nat) : Int), .int ((2 : Nat) : Int)] := rng_ok 0 3 (by decide) (by decide) (by decide) (by decide)
  generalize [iV a, iV bb, iV c] = C at *
  have st : dTake [.val (.list C), .val (.int (n : Int)), .unset, .unset, .unset, .unset, .unset, .unset, .unset, .unset] = _ :=
    ev_nextc (σ1 := [.val (.list C), .val (.int (n : Int)), .own [], .unset, .unset, .unset, .unset, .unset, .unset, .unset]) rfl
    (ev_nextc ((ev_for (ev_call (ev_one rfl) rg) it).trans ((ev_loop rfl e0).trans ((ev_loop rfl e1).trans ((ev_loop rfl e2).trans rfl))))
    (ev_seq_ret (ev_ret rfl)))
  rw [st]
  rfl
section
variable {w : World} {b : Heap}
noncomputable def pTake : List V → Option V :=
  ar2 fun a b => onL (fun L => onI (fun n => (three L).bind fun p => if 0 ≤ n then some (.list (takL p.1 ++ takL p.2.1 ++ takL p.2.2)) else none) b) a
theorem sTake (F : F3 w b) : FunSpec pw w b 3 (.ref 150) pTake := (wTake F).to fun xs r h => by
  obtain ⟨a, c, rfl, hq⟩ := ar2_some h; replace h := hq; clear hq
  obtain ⟨L, rfl, hq⟩ := onL_some h; replace h := hq; clear hq
  obtain ⟨n, rfl, hq⟩ := onI_some h; replace h := hq; clear hq
  obtain ⟨p, e, h⟩ := Option.bind_eq_some_iff.mp h
  split at h
  · obtain rfl := Option.some.inj h
    obtain ⟨rfl, h1, h2, h3⟩ := three_some e
    have := take_eval p.1 p.2.1 p.2.2 n.toNat ⟨h1, h2, h3⟩
    rw [show ((n.toNat : Nat) : Int) = n by omega] at this
    exact this
  · cases h
end
end Mine
end
-- part P5c
set_option maxRecDepth 100000
noncomputable section
namespace Mine
open PySem PySem.W PySem.Calls PyProof.Rows PySem.Spec PySem.SeqAt PyProof.V
/-! ## the plain law 2: who has lost -/
noncomputable def gN : Nat → Nat
  | 2 => 1 | 4 => 2 | 5 => 1 | 6 => 3 | _ => 0
theorem gN_is : ∀ k, k < 7 → toldN k = some (gN k) := by decide
noncomputable def win (a b c : Nat) : Bool := Nat.xor (Nat.xor (gN a) (gN b)) (gN c) == 0
theorem xor_is : ∀ a, a < 7 → ∀ b, b < 5 → ∀ c, c < 3 → (Builtin.bitXor (Builtin.bitXor (gN a : Int) (gN b : Int)) (gN c : Int) == 0) = win a b c := by decide +kernel
noncomputable def endsF (a b c : Nat) : List Bool := (tk a).map (win · b c) ++ (tk b).map (win a · c) ++ (tk c).map (win a b ·)
/-- who can't reach a lost row has lost: the numbers cancel -/
theorem grundy : ∀ a, a < 7 → ∀ b, b < 5 → ∀ c, c < 3 → (!(endsF a b c).any id) = win a b c := by decide +kernel
theorem tk_lt : ∀ a, a < 7 → ∀ x ∈ tk a, x < a := by decide +kernel
theorem tk_len : ∀ a, a < 7 → (tk a).length ≤ 3 := by decide +kernel
/-! ### blocks of one length -/
theorem flat_len {α : Type} (f : Nat → List α) (w : Nat) (hw : ∀ i, (f i).length = w) : ∀ n, ((List.range n).flatMap f).length = n * w
  | 0 => by simp
  | n + 1 => by rw [List.range_succ, List.flatMap_append, List.length_append, flat_len f w hw n, List.flatMap_singleton, hw, Nat.succ_mul]
theorem flat_get {α : Type} (f : Nat → List α) (w : Nat) (hw : ∀ i, (f i).length = w) (i j : Nat) (hj : j < w) : ∀ n, i < n → ((List.range n).flatMap f)[i * w + j]? = (f i)[j]?
  | 0, h => absurd h (Nat.not_lt_zero _)
  | n + 1, h => by
    rw [List.range_succ, List.flatMap_append, List.flatMap_singleton]
    have hl := flat_len f w hw n
    by_cases hi : i < n
    · have : (i + 1) * w ≤ n * w := Nat.mul_le_mul_right w hi
      rw [Nat.succ_mul] at this
      rw [List.getElem?_append_left (by omega)]
      exact flat_get f w hw i j hj n hi
    · obtain rfl : i = n := by omega
      rw [List.getElem?_append_right (by omega), hl, Nat.add_sub_cancel_left]
noncomputable def rowL (W a b : Nat) : List Bool := (List.range W).map (win a b)
noncomputable def blkL (W B a : Nat) : List Bool := (List.range (B + 1)).flatMap (rowL W a)
/-- the table, as far as the three indices -/
noncomputable def tabL (W B a b c : Nat) : List Bool := (List.range a).flatMap (blkL W B) ++ ((List.range b).flatMap (rowL W a) ++ (List.range c).map (win a b))
theorem rowL_len (W a b : Nat) : (rowL W a b).length = W := by unfold rowL; rw [List.length_map, List.length_range]
theorem blkL_len (W B a : Nat) : (blkL W B a).length = W * (B + 1) := by
  unfold blkL
  rw [flat_len _ W (rowL_len W a), Nat.mul_comm]
section
variable {W B a b c : Nat}
theorem rowL_get {x : Nat} (h : x < W) : (rowL W a b)[x]? = some (win a b x) := by
  unfold rowL
  rw [List.getElem?_map, List.getElem?_range h]
  rfl
theorem tabL_1 {x : Nat} (hx : x < a) (hb : b ≤ B) (hc : c < W) : (tabL W B a b c)[x * (W * (B + 1)) + b * W + c]? = some (win x b c) := by
  have hw := blkL_len W B
  have h1 : (b + 1) * W ≤ (B + 1) * W := Nat.mul_le_mul_right W (by omega)
  rw [Nat.succ_mul, Nat.mul_comm (B + 1) W] at h1
  have h2 : (x + 1) * (W * (B + 1)) ≤ a * (W * (B + 1)) := Nat.mul_le_mul_right _ hx
  rw [Nat.succ_mul] at h2
  unfold tabL
  rw [Nat.add_assoc, List.getElem?_append_left (by rw [flat_len _ _ hw]; omega), flat_get _ _ hw x (b * W + c) (by omega) a hx]
  unfold blkL
  rw [flat_get _ W (rowL_len W x) b c hc (B + 1) (by omega), rowL_get hc]
theorem tabL_2 {y : Nat} (hy : y < b) (hc : c < W) : (tabL W B a b c)[a * (W * (B + 1)) + y * W + c]? = some (win a y c) := by
  have h1 : (y + 1) * W ≤ b * W := Nat.mul_le_mul_right W hy
  rw [Nat.succ_mul] at h1
  unfold tabL
  rw [Nat.add_assoc, List.getElem?_append_right (by rw [flat_len _ _ (blkL_len W B)]; omega), flat_len _ _ (blkL_len W B), Nat.add_sub_cancel_left,
    List.getElem?_append_left (by rw [flat_len _ _ (rowL_len W a)]; omega), flat_get _ W (rowL_len W a) y c hc b hy, rowL_get hc]
theorem tabL_3 {z : Nat} (hz : z < c) : (tabL W B a b c)[a * (W * (B + 1)) + b * W + z]? = some (win a b z) := by
  unfold tabL
  rw [Nat.add_assoc, List.getElem?_append_right (by rw [flat_len _ _ (blkL_len W B)]; omega), flat_len _ _ (blkL_len W B), Nat.add_sub_cancel_left,
    List.getElem?_append_right (by rw [flat_len _ _ (rowL_len W a)]; omega), flat_len _ _ (rowL_len W a), Nat.add_sub_cancel_left, List.getElem?_map, List.getElem?_range hz]
  rfl
theorem tabL_len : (tabL W B a b c).length = a * (W * (B + 1)) + (b * W + c) := by
  unfold tabL
  rw [List.length_append, List.length_append, flat_len _ _ (blkL_len W B), flat_len _ _ (rowL_len W a), List.length_map, List.length_range]
theorem tabL_c : tabL W B a b (c + 1) = tabL W B a b c ++ [win a b c] := by
  unfold tabL
  rw [List.range_succ, List.map_append, List.append_assoc, List.append_assoc]
  rfl
theorem tabL_b : tabL W B a (b + 1) 0 = tabL W B a b W := by
  unfold tabL
  rw [List.range_succ (n := b), List.flatMap_append, List.flatMap_singleton, List.range_zero, List.map_nil, List.append_nil]
  rfl
theorem tabL_a : tabL W B (a + 1) 0 0 = tabL W B a (B + 1) 0 := by
  unfold tabL
  rw [List.range_succ (n := a), List.flatMap_append, List.flatMap_singleton]
  simp only [List.range_zero, List.map_nil, List.flatMap_nil, List.append_nil]
  rfl
end
/-- true, not in a list of truths -/
theorem eqv_true : ∀ l : List Bool, (toPDs (l.map V.bool)).any (fun y => PyData.eqv y (.bool true)) = l.any id
  | [] => rfl
  | x :: l => by
    rw [List.map_cons, toPDs, List.any_cons, List.any_cons, eqv_true l]
    congr 1
    show (x == true) = x
    cases x <;> rfl
theorem okIn_true : ∀ l : List Bool, noRgs (l.map V.bool) = true ∧ PyData.canLayAll0 (toPDs (l.map V.bool)) = true
  | [] => ⟨rfl, rfl⟩
  | x :: l => by
    obtain ⟨h1, h2⟩ := okIn_true l
    refine ⟨?_, ?_⟩
    · rw [List.map_cons, noRgs, h1]; rfl
    · rw [List.map_cons, toPDs, PyData.canLayAll0, h2]; rfl
theorem nin_bools (l : List Bool) : cmpV .NotIn (.bool true) (.list (l.map V.bool)) = some (!l.any id) := by
  obtain ⟨h1, h2⟩ := okIn_true l
  have h : okIn (.bool true) (l.map V.bool) = true := by
    unfold okIn
    rw [h1, h2]
    decide +kernel
  show (if okIn (.bool true) (l.map V.bool) then some (!inL (.bool true) (l.map V.bool)) else none) = _
  rw [if_pos h]
  unfold inL
  rw [show toPD (.bool true) = .bool true from rfl, eqv_true]
end Mine
end
-- part Y2p
set_option maxRecDepth 100000
noncomputable section
namespace Mine
open PySem PySem.W PySem.Calls PyProof.Rows PySem.Spec PySem.SeqAt PyProof.V
section
variable {w : World} {b : Heap}
/-! ## law: who has lost -/
end
noncomputable abbrev bodC : SL → Option Out := (sSeq (sAsg 16 (dCompO 12 [12, 15, 11, 14, 10] (dItem (dLoc 6) (dLoc 13)) (gName 0) (fNil) (dItem (dLoc 1) (dBin .Add (dBin .Add (dBin .Mult (dLoc 0) (dLoc 3)) (dBin .Mult (dLoc 4) (dLoc 5))) (dLoc 2))))) (sSeq (sAsg 16 (dBin .Add (dLoc 16) (dCompO 12 [12, 15, 13, 11, 10] (dItem (dLoc 6) (dBin .Add (dBin .Add (dItem (dLoc 2) (dConst (.int 0))) (dConst (.int 1))) (dLoc 14))) (gName 0) (fNil) (dItem (dLoc 1) (dBin .Add (dBin .Add (dBin .Mult (dLoc 3) (dLoc 4)) (dBin .Mult (dLoc 0) (dLoc 5))) (dLoc 2)))))) (sSeq (sAsg 16 (dBin .Add (dLoc 16) (dCompO 12 [12, 13, 11, 14, 10] (dItem (dLoc 6) (dBin .Add (dBin .Add (dBin .Add (dItem (dLoc 2) (dConst (.int 0))) (dItem (dLoc 2) (dConst (.int 1)))) (dConst (.int 2))) (dLoc 15))) (gName 0) (fNil) (dItem (dLoc 1) (dBin .Add (dBin .Add (dBin .Mult (dLoc 2) (dLoc 3)) (dBin .Mult (dLoc 4) (dLoc 5))) (dLoc 0)))))) (sSeq (sApp 12 (dCmp .NotIn (dConst (.bool true)) (dLoc 16))) (sSeq (sIf (tCmp .IsNot (dItemO 12 (dNeg (dConst (.int 1)))) (dCmp .Eq (dBin .BitXor (dBin .BitXor (dItem (dLoc 9) (dLoc 13)) (dItem (dLoc 9) (dLoc 14))) (dItem (dLoc 9) (dLoc 15))) (dConst (.int 0)))) (sSeq (sRet (dConst (.bool false))) (sNil)) (sNil)) (sNil))))))
noncomputable abbrev bodB : SL → Option Out := (sSeq (sFor (gName 15) (dCall (bfV .range) (aCons (dLoc 10) (aNil))) (sSeq (sAsg 16 (dCompO 12 [12, 15, 11, 14, 10] (dItem (dLoc 6) (dLoc 13)) (gName 0) (fNil) (dItem (dLoc 1) (dBin .Add (dBin .Add (dBin .Mult (dLoc 0) (dLoc 3)) (dBin .Mult (dLoc 4) (dLoc 5))) (dLoc 2))))) (sSeq (sAsg 16 (dBin .Add (dLoc 16) (dCompO 12 [12, 15, 13, 11, 10] (dItem (dLoc 6) (dBin .Add (dBin .Add (dItem (dLoc 2) (dConst (.int 0))) (dConst (.int 1))) (dLoc 14))) (gName 0) (fNil) (dItem (dLoc 1) (dBin .Add (dBin .Add (dBin .Mult (dLoc 3) (dLoc 4)) (dBin .Mult (dLoc 0) (dLoc 5))) (dLoc 2)))))) (sSeq (sAsg 16 (dBin .Add (dLoc 16) (dCompO 12 [12, 13, 11, 14, 10] (dItem (dLoc 6) (dBin .Add (dBin .Add (dBin .Add (dItem (dLoc 2) (dConst (.int 0))) (dItem (dLoc 2) (dConst (.int 1)))) (dConst (.int 2))) (dLoc 15))) (gName 0) (fNil) (dItem (dLoc 1) (dBin .Add (dBin .Add (dBin .Mult (dLoc 2) (dLoc 3)) (dBin .Mult (dLoc 4) (dLoc 5))) (dLoc 0)))))) (sSeq (sApp 12 (dCmp .NotIn (dConst (.bool true)) (dLoc 16))) (sSeq (sIf (tCmp .IsNot (dItemO 12 (dNeg (dConst (.int 1)))) (dCmp .Eq (dBin .BitXor (dBin .BitXor (dItem (dLoc 9) (dLoc 13)) (dItem (dLoc 9) (dLoc 14))) (dItem (dLoc 9) (dLoc 15))) (dConst (.int 0)))) (sSeq (sRet (dConst (.bool false))) (sNil)) (sNil)) (sNil))))))) (sNil))
noncomputable abbrev bodA : SL → Option Out := (sSeq (sFor (gName 14) (dCall (bfV .range) (aCons (dBin .Add (dItem (dLoc 2) (dConst (.int 1))) (dConst (.int 1))) (aNil))) (sSeq (sFor (gName 15) (dCall (bfV .range) (aCons (dLoc 10) (aNil))) (sSeq (sAsg 16 (dCompO 12 [12, 15, 11, 14, 10] (dItem (dLoc 6) (dLoc 13)) (gName 0) (fNil) (dItem (dLoc 1) (dBin .Add (dBin .Add (dBin .Mult (dLoc 0) (dLoc 3)) (dBin .Mult (dLoc 4) (dLoc 5))) (dLoc 2))))) (sSeq (sAsg 16 (dBin .Add (dLoc 16) (dCompO 12 [12, 15, 13, 11, 10] (dItem (dLoc 6) (dBin .Add (dBin .Add (dItem (dLoc 2) (dConst (.int 0))) (dConst (.int 1))) (dLoc 14))) (gName 0) (fNil) (dItem (dLoc 1) (dBin .Add (dBin .Add (dBin .Mult (dLoc 3) (dLoc 4)) (dBin .Mult (dLoc 0) (dLoc 5))) (dLoc 2)))))) (sSeq (sAsg 16 (dBin .Add (dLoc 16) (dCompO 12 [12, 13, 11, 14, 10] (dItem (dLoc 6) (dBin .Add (dBin .Add (dBin .Add (dItem (dLoc 2) (dConst (.int 0))) (dItem (dLoc 2) (dConst (.int 1)))) (dConst (.int 2))) (dLoc 15))) (gName 0) (fNil) (dItem (dLoc 1) (dBin .Add (dBin .Add (dBin .Mult (dLoc 2) (dLoc 3)) (dBin .Mult (dLoc 4) (dLoc 5))) (dLoc 0)))))) (sSeq (sApp 12 (dCmp .NotIn (dConst (.bool true)) (dLoc 16))) (sSeq (sIf (tCmp .IsNot (dItemO 12 (dNeg (dConst (.int 1)))) (dCmp .Eq (dBin .BitXor (dBin .BitXor (dItem (dLoc 9) (dLoc 13)) (dItem (dLoc 9) (dLoc 14))) (dItem (dLoc 9) (dLoc 15))) (dConst (.int 0)))) (sSeq (sRet (dConst (.bool false))) (sNil)) (sNil)) (sNil))))))) (sNil))) (sNil))
theorem nat_mul (x y : Nat) (h : y ≤ 1000) : binV .Mult (.int (x : Int)) (.int (y : Int)) = some (.int ((x * y : Nat) : Int)) := by
  rw [mul_small (x : Int) (y : Int) (by omega) (by omega), Int.natCast_mul]
theorem ev_last {i : Nat} {σ : SL} {ys : List V} {v : V} (h : σ[i]? = some (.own (ys ++ [v]))) (hl : ys.length ≤ 1000) : dItemO i (dNeg (dConst (.int 1))) σ = some (v, σ) := by
  unfold dItemO
  rw [h]
  have e : dNeg (dConst (.int 1)) σ = some (.int (-1), σ) := rfl
  dsimp only
  rw [e]
  dsimp only
  rw [h]
  dsimp only
  have hi : idx (ys ++ [v]).length (-1) = some ys.length := by
    unfold idx
    rw [if_neg (by omega), if_pos (by rw [List.length_append]; simp; omega), List.length_append]
    simp
    omega
  rw [if_pos (big_of (by rw [List.length_append]; simp; omega)), hi, Option.bind_some, List.getElem?_append_right (Nat.le_refl _), Nat.sub_self]
  rfl
theorem takL_get {n i : Nat} (h : i ≤ n) : (takL n)[i]? = some (tkV i) := by
  unfold takL
  rw [List.getElem?_map, List.getElem?_range (by omega)]
  rfl
theorem takL_len (n : Nat) : (takL n).length = n + 1 := by unfold takL; rw [List.length_map, List.length_range]
noncomputable def tolds : List V := [0, 1, 2, 3, 4, 5, 6].map fun k => iV (gN k)
theorem told_at {k : Nat} (h : k < 7) : itemV (.list tolds) (.int (k : Int)) = some (.int (gN k : Int)) := by
  refine list_at _ (by show 7 ≤ 1000; decide) k _ ?_
  match k, h with
  | 0, _ => rfl
  | 1, _ => rfl
  | 2, _ => rfl
  | 3, _ => rfl
  | 4, _ => rfl
  | 5, _ => rfl
  | 6, _ => rfl
structure Hp (A B D : Nat) : Prop where
  a : A < 7
  b : B < 5
  d : D < 3
section
variable {A B D : Nat} (H : Hp A B D) (s0 s1 s3 s4 s5 s7 s8 : Slot)
/-- the frame at the three indices -/
noncomputable def stL (A B D : Nat) (s0 s1 s3 s4 s5 s7 s8 : Slot) (a b c : Nat) (x y z t : Slot) : SL :=
  [s0, s1, .val (.list [iV A, iV B, iV D]), s3, s4, s5, .val (.list (takL A ++ takL B ++ takL D)), s7, s8, .val (.list tolds), .val (.int ((D + 1 : Nat) : Int)), .val (.int (((D + 1) * (B + 1) : Nat) : Int)), .own ((tabL (D + 1) B a b c).map V.bool), x, y, z, t]
include H
theorem tab_small {a b c : Nat} (ha : a ≤ A) (hb : b ≤ B) (hc : c ≤ D + 1) : (tabL (D + 1) B a b c).length ≤ 200 := by
  have h1 := H.a
  have h2 := H.b
  have h3 := H.d
  have e1 : (D + 1) * (B + 1) ≤ 3 * 5 := Nat.mul_le_mul (by omega) (by omega)
  have e2 : a * ((D + 1) * (B + 1)) ≤ 6 * 15 := Nat.mul_le_mul (by omega) (by omega)
  have e3 : b * (D + 1) ≤ 4 * 3 := Nat.mul_le_mul (by omega) (by omega)
  rw [tabL_len]
  omega
theorem lost_at {a b c k : Nat} {q : Bool} (ha : a ≤ A) (hb : b ≤ B) (hc : c ≤ D + 1) (h : (tabL (D + 1) B a b c)[k]? = some q) : itemV (.list ((tabL (D + 1) B a b c).map V.bool)) (.int (k : Int)) = some (.bool q) := by
  have := tab_small H ha hb hc
  refine list_at _ (by rw [List.length_map]; omega) k _ ?_
  rw [List.getElem?_map, h]
  rfl
theorem tak_1 {a : Nat} (ha : a ≤ A) : itemV (.list (takL A ++ takL B ++ takL D)) (.int (a : Int)) = some (tkV a) := by
  have h1 := H.a
  have h2 := H.b
  have h3 := H.d
  refine list_at _ (by simp only [List.length_append, takL_len]; omega) a _ ?_
  rw [List.append_assoc, List.getElem?_append_left (by rw [takL_len]; omega), takL_get ha]
theorem tak_2 {b : Nat} (hb : b ≤ B) : itemV (.list (takL A ++ takL B ++ takL D)) (.int ((A + 1 + b : Nat) : Int)) = some (tkV b) := by
  have h1 := H.a
  have h2 := H.b
  have h3 := H.d
  refine list_at _ (by simp only [List.length_append, takL_len]; omega) (A + 1 + b) _ ?_
  rw [List.append_assoc, List.getElem?_append_right (by rw [takL_len]; omega), takL_len, Nat.add_sub_cancel_left, List.getElem?_append_left (by rw [takL_len]; omega), takL_get hb]
theorem tak_3 {c : Nat} (hc : c ≤ D) : itemV (.list (takL A ++ takL B ++ takL D)) (.int ((A + B + 2 + c : Nat) : Int)) = some (tkV c) := by
  have h1 := H.a
  have h2 := H.b
  have h3 := H.d
  refine list_at _ (by simp only [List.length_append, takL_len]; omega) (A + B + 2 + c) _ ?_
  rw [List.getElem?_append_right (by rw [List.length_append, takL_len, takL_len]; omega), List.length_append, takL_len, takL_len, show A + B + 2 + c - (A + 1 + (B + 1)) = c by omega, takL_get hc]
theorem bod_c {a b c : Nat} (ha : a ≤ A) (hb : b ≤ B) (hc : c ≤ D) (t : Slot) :
    ∃ t', bodC (stL A B D s0 s1 s3 s4 s5 s7 s8 a b c (.val (.int (a : Int))) (.val (.int (b : Int))) (.val (.int (c : Int))) t) = some (.next (stL A B D s0 s1 s3 s4 s5 s7 s8 a b (c + 1) (.val (.int (a : Int))) (.val (.int (b : Int))) (.val (.int (c : Int))) t')) := by
  have h1 := H.a
  have h2 := H.b
  have h3 := H.d
  have a7 : a < 7 := by omega
  have b5 : b < 5 := by omega
  have c3 : c < 3 := by omega
  have e1 : (D + 1) * (B + 1) ≤ 3 * 5 := Nat.mul_le_mul (by omega) (by omega)
  have tl := tab_small H ha hb (Nat.le_succ_of_le hc)
  have T1 := tak_1 H ha
  have T2 := tak_2 H hb
  have T3 := tak_3 H hc
  have i0 : itemV (.list [iV A, iV B, iV D]) (.int 0) = some (.int (A : Int)) := list_at _ (by show 3 ≤ 1000; decide) 0 _ rfl
  have i1 : itemV (.list [iV A, iV B, iV D]) (.int 1) = some (.int (B : Int)) := list_at _ (by show 3 ≤ 1000; decide) 1 _ rfl
  have n1 : binV .Add (.int (A : Int)) (.int 1) = some (.int ((A + 1 : Nat) : Int)) := nat_add A 1
  have n2 := nat_add (A + 1) b
  have n3 := nat_add A B
  have n4 : binV .Add (.int ((A + B : Nat) : Int)) (.int 2) = some (.int ((A + B + 2 : Nat) : Int)) := nat_add (A + B) 2
  have n5 := nat_add (A + B + 2) c
  have L1 : ∀ x, x < a → itemV (.list ((tabL (D + 1) B a b c).map V.bool)) (.int ((x * ((D + 1) * (B + 1)) + b * (D + 1) + c : Nat) : Int)) = some (.bool (win x b c)) := fun x hx => lost_at H ha hb (by omega) (tabL_1 hx hb (by omega))
  have L2 : ∀ y, y < b → itemV (.list ((tabL (D + 1) B a b c).map V.bool)) (.int ((a * ((D + 1) * (B + 1)) + y * (D + 1) + c : Nat) : Int)) = some (.bool (win a y c)) := fun y hy => lost_at H ha hb (by omega) (tabL_2 hy (by omega))
  have L3 : ∀ z, z < c → itemV (.list ((tabL (D + 1) B a b c).map V.bool)) (.int ((a * ((D + 1) * (B + 1)) + b * (D + 1) + z : Nat) : Int)) = some (.bool (win a b z)) := fun z hz => lost_at H ha hb (by omega) (tabL_3 hz)
  have gr := grundy a a7 b b5 c c3
  have xr := xor_is a a7 b b5 c c3
  have g1 := told_at a7
  have g2 := told_at (show b < 7 by omega)
  have g3 := told_at (show c < 7 by omega)
  have nx := tabL_c (W := D + 1) (B := B) (a := a) (b := b) (c := c)
  have k1 := tk_len a a7
  have k2 := tk_len b (by omega)
  have k3 := tk_len c (by omega)
  have l1 := tk_lt a a7
  have l2 := tk_lt b (by omega)
  have l3 := tk_lt c (by omega)
  unfold stL
  rw [nx]
  generalize tabL (D + 1) B a b c = tb at *
  generalize takL A ++ takL B ++ takL D = TT at *
  generalize [iV A, iV B, iV D] = HH at *
  have m1 : ∀ x, binV .Mult (.int ((x : Nat) : Int)) (.int (((D + 1) * (B + 1) : Nat) : Int)) = some (.int ((x * ((D + 1) * (B + 1)) : Nat) : Int)) := fun x => nat_mul x _ (by omega)
  have m2 : ∀ x, binV .Mult (.int ((x : Nat) : Int)) (.int ((D + 1 : Nat) : Int)) = some (.int ((x * (D + 1) : Nat) : Int)) := fun x => nat_mul x _ (by omega)
  generalize (D + 1) * (B + 1) = deep at *
  generalize D + 1 = W at *
  have mp : ∀ {α : Type} (f : α → Bool) (l : List α), l.map (fun x => V.bool (f x)) = (l.map f).map V.bool := fun f l => by rw [List.map_map]; rfl
  have flt : ∀ {α : Type} (f : α → Bool) (l : List α), (l.map fun x => V.bool (f x)).all flatV = true := fun f l => by
    rw [List.all_eq_true]
    intro v hv
    obtain ⟨x, _, rfl⟩ := List.mem_map.mp hv
    rfl
  have bl : ∀ {l : List Nat}, l.length ≤ 3 → (l.map iV).length ≤ big := fun h => big_of (by rw [List.length_map]; omega)
  have q1 : compL (gName 0) fNil (dItem (dLoc 1) (dBin .Add (dBin .Add (dBin .Mult (dLoc 0) (dLoc 3)) (dBin .Mult (dLoc 4) (dLoc 5))) (dLoc 2))) ((tk a).map iV) [.unset, .val (.list (tb.map V.bool)), .val (.int (c : Int)), .val (.int (deep : Int)), .val (.int (b : Int)), .val (.int (W : Int))] = some ((tk a).map fun x => V.bool (win x b c)) :=
    comp_map_mem iV (fun x => V.bool (win x b c)) _ _ (tk a) .unset fun x hx => ev_item rfl (ev_bin (ev_bin (ev_bin rfl rfl (m1 x)) (ev_bin rfl rfl (m2 b)) (nat_add _ _)) rfl (nat_add _ _)) (L1 x (l1 x hx))
  have q2 : compL (gName 0) fNil (dItem (dLoc 1) (dBin .Add (dBin .Add (dBin .Mult (dLoc 3) (dLoc 4)) (dBin .Mult (dLoc 0) (dLoc 5))) (dLoc 2))) ((tk b).map iV) [.unset, .val (.list (tb.map V.bool)), .val (.int (c : Int)), .val (.int (a : Int)), .val (.int (deep : Int)), .val (.int (W : Int))] = some ((tk b).map fun x => V.bool (win a x c)) :=
    comp_map_mem iV (fun x => V.bool (win a x c)) _ _ (tk b) .unset fun x hx => ev_item rfl (ev_bin (ev_bin (ev_bin rfl rfl (m1 a)) (ev_bin rfl rfl (m2 x)) (nat_add _ _)) rfl (nat_add _ _)) (L2 x (l2 x hx))
  have q3 : compL (gName 0) fNil (dItem (dLoc 1) (dBin .Add (dBin .Add (dBin .Mult (dLoc 2) (dLoc 3)) (dBin .Mult (dLoc 4) (dLoc 5))) (dLoc 0))) ((tk c).map iV) [.unset, .val (.list (tb.map V.bool)), .val (.int (a : Int)), .val (.int (deep : Int)), .val (.int (b : Int)), .val (.int (W : Int))] = some ((tk c).map fun x => V.bool (win a b x)) :=
    comp_map_mem iV (fun x => V.bool (win a b x)) _ _ (tk c) .unset fun x hx => ev_item rfl (ev_bin (ev_bin (ev_bin rfl rfl (m1 a)) (ev_bin rfl rfl (m2 b)) (nat_add _ _)) rfl (nat_add _ _)) (L3 x (l3 x hx))
  have f1 := flt (win · b c) (tk a)
  have f2 := flt (win a · c) (tk b)
  have f3 := flt (win a b ·) (tk c)
  have ad1 : binV .Add (.list ((tk a).map fun x => V.bool (win x b c))) (.list ((tk b).map fun x => V.bool (win a x c))) = some (.list (((tk a).map fun x => V.bool (win x b c)) ++ (tk b).map fun x => V.bool (win a x c))) := list_add (by rw [List.length_map, List.length_map]; omega)
  have ad2 : binV .Add (.list (((tk a).map fun x => V.bool (win x b c)) ++ (tk b).map fun x => V.bool (win a x c))) (.list ((tk c).map fun x => V.bool (win a b x))) = some (.list ((endsF a b c).map V.bool)) := by
    rw [list_add (by rw [List.length_append, List.length_map, List.length_map, List.length_map]; omega), mp (win · b c), mp (win a · c), mp (win a b ·), ← List.map_append, ← List.map_append]
    rfl
  have nb := nin_bools (endsF a b c)
  rw [gr] at nb
  have x1 : binV .BitXor (.int (gN a : Int)) (.int (gN b : Int)) = some (.int (Builtin.bitXor (gN a : Int) (gN b : Int))) := rfl
  have x2 : binV .BitXor (.int (Builtin.bitXor (gN a : Int) (gN b : Int))) (.int (gN c : Int)) = some (.int (Builtin.bitXor (Builtin.bitXor (gN a : Int) (gN b : Int)) (gN c : Int))) := rfl
  have x3 : cmpV .Eq (.int (Builtin.bitXor (Builtin.bitXor (gN a : Int) (gN b : Int)) (gN c : Int))) (.int 0) = some (win a b c) := by
    rw [← xr]
    rfl
  generalize tolds = TO at *
  refine ⟨.val (.list ((endsF a b c).map V.bool)), ?_⟩
  refine ev_nextc (ev_asg (ev_compO (ev_item rfl rfl T1) rfl (bl k1) rfl rfl q1 f1)) ?_
  refine ev_nextc (ev_asg (ev_bin rfl (ev_compO (ev_item rfl (ev_bin (ev_bin (ev_item rfl rfl i0) rfl n1) rfl n2) T2) rfl (bl k2) rfl rfl q2 f2) ad1)) ?_
  refine ev_nextc (ev_asg (ev_bin rfl (ev_compO (ev_item rfl (ev_bin (ev_bin (ev_bin (ev_item rfl rfl i0) (ev_item rfl rfl i1) n3) rfl n4) rfl n5) T3) rfl (bl k3) rfl rfl q3 f3) ad2)) ?_
  refine ev_nextc (ev_app rfl (ev_cmp rfl rfl nb) rfl (big_of (by rw [List.length_map]; omega))) ?_
  have la : tb.map V.bool ++ [V.bool (win a b c)] = (tb ++ [win a b c]).map V.bool := by rw [List.map_append]; rfl
  refine ev_nextc ((ev_sif_f (ev_test (ev_last rfl (by rw [List.length_map]; omega)) (ev_cmp (ev_bin (ev_bin (ev_item rfl rfl g1) (ev_item rfl rfl g2) x1) (ev_item rfl rfl g3) x2) rfl x3) (isnot_same _))).trans rfl) ?_
  rw [← la]
  rfl
theorem loop_c {a b : Nat} (ha : a ≤ A) (hb : b ≤ B) : ∀ (k c : Nat) (z t : Slot), c + k = D + 1 →
    ∃ z' t', loopV (gName 15) bodC ((List.range' c k).map iV) (stL A B D s0 s1 s3 s4 s5 s7 s8 a b c (.val (.int (a : Int))) (.val (.int (b : Int))) z t) = some (.next (stL A B D s0 s1 s3 s4 s5 s7 s8 a b (D + 1) (.val (.int (a : Int))) (.val (.int (b : Int))) z' t'))
  | 0, c, z, t, h => by
    obtain rfl : c = D + 1 := by omega
    exact ⟨z, t, rfl⟩
  | k + 1, c, z, t, h => by
    obtain ⟨t1, e⟩ := bod_c H s0 s1 s3 s4 s5 s7 s8 ha hb (show c ≤ D by omega) t
    obtain ⟨z', t', ih⟩ := loop_c ha hb k (c + 1) (.val (.int (c : Int))) t1 (by omega)
    rw [List.range'_succ, List.map_cons]
    exact ⟨z', t', (ev_loop (σ1 := stL A B D s0 s1 s3 s4 s5 s7 s8 a b c (.val (.int (a : Int))) (.val (.int (b : Int))) (.val (.int (c : Int))) t) rfl e).trans ih⟩
theorem bod_b {a b : Nat} (ha : a ≤ A) (hb : b ≤ B) (z t : Slot) :
    ∃ z' t', bodB (stL A B D s0 s1 s3 s4 s5 s7 s8 a b 0 (.val (.int (a : Int))) (.val (.int (b : Int))) z t) = some (.next (stL A B D s0 s1 s3 s4 s5 s7 s8 a (b + 1) 0 (.val (.int (a : Int))) (.val (.int (b : Int))) z' t')) := by
  have h3 := H.d
  obtain ⟨z', t', lp⟩ := loop_c H s0 s1 s3 s4 s5 s7 s8 ha hb (D + 1) 0 z t (by omega)
  have it : iterV (.rng 0 ((D + 1 : Nat) : Int)) = some ((List.range' 0 (D + 1)).map iV) := by
    rw [← List.range_eq_range']
    exact rng_zero (by omega)
  refine ⟨z', t', ?_⟩
  have e : stL A B D s0 s1 s3 s4 s5 s7 s8 a (b + 1) 0 (.val (.int (a : Int))) (.val (.int (b : Int))) z' t' = stL A B D s0 s1 s3 s4 s5 s7 s8 a b (D + 1) (.val (.int (a : Int))) (.val (.int (b : Int))) z' t' := by
    unfold stL
    rw [tabL_b]
  rw [e]
  exact ev_nextc ((ev_for (ev_call (ev_one rfl) rfl) it).trans lp) rfl
theorem loop_b {a : Nat} (ha : a ≤ A) : ∀ (k b : Nat) (y z t : Slot), b + k = B + 1 →
    ∃ y' z' t', loopV (gName 14) bodB ((List.range' b k).map iV) (stL A B D s0 s1 s3 s4 s5 s7 s8 a b 0 (.val (.int (a : Int))) y z t) = some (.next (stL A B D s0 s1 s3 s4 s5 s7 s8 a (B + 1) 0 (.val (.int (a : Int))) y' z' t'))
  | 0, b, y, z, t, h => by
    obtain rfl : b = B + 1 := by omega
    exact ⟨y, z, t, rfl⟩
  | k + 1, b, y, z, t, h => by
    obtain ⟨z1, t1, e⟩ := bod_b H s0 s1 s3 s4 s5 s7 s8 ha (show b ≤ B by omega) z t
    obtain ⟨y', z', t', ih⟩ := loop_b ha k (b + 1) (.val (.int (b : Int))) z1 t1 (by omega)
    rw [List.range'_succ, List.map_cons]
    exact ⟨y', z', t', (ev_loop (σ1 := stL A B D s0 s1 s3 s4 s5 s7 s8 a b 0 (.val (.int (a : Int))) (.val (.int (b : Int))) z t) rfl e).trans ih⟩
theorem bod_a {a : Nat} (ha : a ≤ A) (y z t : Slot) :
    ∃ y' z' t', bodA (stL A B D s0 s1 s3 s4 s5 s7 s8 a 0 0 (.val (.int (a : Int))) y z t) = some (.next (stL A B D s0 s1 s3 s4 s5 s7 s8 (a + 1) 0 0 (.val (.int (a : Int))) y' z' t')) := by
  have h2 := H.b
  obtain ⟨y', z', t', lp⟩ := loop_b H s0 s1 s3 s4 s5 s7 s8 ha (B + 1) 0 y z t (by omega)
  have it : iterV (.rng 0 ((B + 1 : Nat) : Int)) = some ((List.range' 0 (B + 1)).map iV) := by
    rw [← List.range_eq_range']
    exact rng_zero (by omega)
  have i1 : itemV (.list [iV A, iV B, iV D]) (.int 1) = some (.int (B : Int)) := list_at _ (by show 3 ≤ 1000; decide) 1 _ rfl
  have n1 : binV .Add (.int (B : Int)) (.int 1) = some (.int ((B + 1 : Nat) : Int)) := nat_add B 1
  refine ⟨y', z', t', ?_⟩
  have e : stL A B D s0 s1 s3 s4 s5 s7 s8 (a + 1) 0 0 (.val (.int (a : Int))) y' z' t' = stL A B D s0 s1 s3 s4 s5 s7 s8 a (B + 1) 0 (.val (.int (a : Int))) y' z' t' := by
    unfold stL
    rw [tabL_a]
  rw [e]
  exact ev_nextc ((ev_for (ev_call (ev_one (ev_bin (ev_item rfl rfl i1) rfl n1)) rfl) it).trans lp) rfl
theorem loop_a : ∀ (k a : Nat) (x y z t : Slot), a + k = A + 1 →
    ∃ x' y' z' t', loopV (gName 13) bodA ((List.range' a k).map iV) (stL A B D s0 s1 s3 s4 s5 s7 s8 a 0 0 x y z t) = some (.next (stL A B D s0 s1 s3 s4 s5 s7 s8 (A + 1) 0 0 x' y' z' t'))
  | 0, a, x, y, z, t, h => by
    obtain rfl : a = A + 1 := by omega
    exact ⟨x, y, z, t, rfl⟩
  | k + 1, a, x, y, z, t, h => by
    obtain ⟨y1, z1, t1, e⟩ := bod_a H s0 s1 s3 s4 s5 s7 s8 (show a ≤ A by omega) y z t
    obtain ⟨x', y', z', t', ih⟩ := loop_a k (a + 1) (.val (.int (a : Int))) y1 z1 t1 (by omega)
    rw [List.range'_succ, List.map_cons]
    exact ⟨x', y', z', t', (ev_loop (σ1 := stL A B D s0 s1 s3 s4 s5 s7 s8 a 0 0 (.val (.int (a : Int))) y z t) rfl e).trans ih⟩
end
end Mine
end
-- part Y2q
set_option maxRecDepth 100000
noncomputable section
namespace Mine
open PySem PySem.W PySem.Calls PyProof.Rows PySem.Spec PySem.SeqAt PyProof.V
section
variable {w : World} {b : Heap}
/-! ## law -/
/-! law: 0 script (cell), 1 cells (cell), 2 heaps (cell), 3 parts, 4 typed, 5 row, 6 takings, 7 counts (cell), 8 want, 9 told, 10 wide (cell), 11 deep (cell), 12 lost (cell), 13 a (cell), 14 b (cell), 15 c (cell), 16 ends -/
noncomputable abbrev dLaw : SL → Option Out := sSeq (sAsg 1 (dCompP [0] (dTup (aCons (dConst (.int 6)) (aCons (dConst (.int 4)) (aCons (dConst (.int 2)) (aCons (dConst (.int 12991)) (aCons (dConst (.int 1081)) (aCons (dConst (.int 13002)) (aNil)))))))) (gTup (gCons (gName 0) (gCons (gName 1) (gNil)))) (dBin .Mod (dBin .Add (dLoc 1) (dCall (bfV .sum) (aCons (dSlice (dLoc 2) (pSome (dLoc 0)) pNone (pSome (dConst (.int 6)))) (aNil)))) (dBin .Pow (dConst (.int 10)) (dConst (.int 6)))))) (sSeq (sAsg 2 (dList (aCons (dBin .Mod (dItem (dLoc 1) (dConst (.int 0))) (dConst (.int 7))) (aCons (dBin .Mod (dItem (dLoc 1) (dConst (.int 1))) (dConst (.int 5))) (aCons (dBin .Mod (dItem (dLoc 1) (dConst (.int 2))) (dConst (.int 3))) (aNil)))))) (sSeq (sAsg 3 (dComp [2, 1] (dCall (bfV .range) (aCons (dConst (.int 3)) (aNil))) (gName 0) (fNil) (dCall pTyp (aCons (dItem (dConst (.str [102, 115, 107])) (dLoc 0)) (aCons (dItem (dLoc 1) (dLoc 0)) (aCons (dBin .FloorDiv (dItem (dLoc 2) (dConst (.int 3))) (dBin .Pow (dConst (.int 7)) (dLoc 0))) (aNil))))))) (sSeq (sAsg 4 (dBin .Add (dBin .Add (dBin .Add (dBin .Add (dItem (dLoc 3) (dConst (.int 0))) (dBin .Mult (dConst (.str [34])) (dBin .Mod (dItem (dLoc 1) (dConst (.int 4))) (dConst (.int 4))))) (dItem (dLoc 3) (dConst (.int 1)))) (dBin .Mult (dConst (.str [34])) (dBin .Mod (dBin .FloorDiv (dItem (dLoc 1) (dConst (.int 4))) (dConst (.int 4))) (dConst (.int 4))))) (dItem (dLoc 3) (dConst (.int 2))))) (sSeq (sAsg 5 (dCall pRow (aCons (dLoc 2) (aCons (dItem (dLoc 1) (dConst (.int 4))) (aNil))))) (sSeq (sAsg 6 (dCall pTake (aCons (dLoc 2) (aCons (dItem (dLoc 1) (dConst (.int 4))) (aNil))))) (sSeq (sIf (bOr (tCmp .Is (dLoc 6) (dConst .none)) (bOr (tNot (tVal (dCall pHeard (aCons (dLoc 4) (aCons (dLoc 5) (aCons (dItem (dLoc 1) (dConst (.int 5))) (aNil))))))) (bFalse))) (sSeq (sRet (dConst (.bool false))) (sNil)) (sNil)) (sSeq (sAsg 7 (dComp [1, 2] (dCall (bfV .range) (aCons (dConst (.int 3)) (aNil))) (gName 0) (fNil) (dBin .Mod (dBin .FloorDiv (dItem (dLoc 1) (dConst (.int 4))) (dItem (dTup (aCons (dConst (.int 16)) (aCons (dConst (.int 128)) (aCons (dConst (.int 768)) (aNil))))) (dLoc 0))) (dBin .Add (dItem (dLoc 2) (dLoc 0)) (dConst (.int 2)))))) (sSeq (sAsg 8 (dMeth .join (dConst (.str [46, 46, 46])) (aCons (dComp [7] (dCall (bfV .range) (aCons (dConst (.int 3)) (aNil))) (gName 0) (fNil) (dBin .Add (dBin .Add (dBin .Mult (dItem (dConst (.str [102, 115, 107])) (dLoc 0)) (dItem (dLoc 1) (dLoc 0))) (dConst (.str [46, 46, 46]))) (dBin .Mult (dItem (dConst (.str [102, 115, 107])) (dLoc 0)) (dItem (dLoc 1) (dLoc 0))))) (aNil)))) (sSeq (sIf (tCmp .IsNot (dCall pEll (aCons (dLoc 8) (aCons (dLoc 5) (aNil)))) (dCmp .Eq (dComp [2, 7] (dCall (bfV .range) (aCons (dConst (.int 3)) (aNil))) (gName 0) (tCmp .Gt (dBin .Mult (dConst (.int 2)) (dItem (dLoc 2) (dLoc 0))) (dItem (dLoc 1) (dLoc 0))) (dLoc 0)) (dList (aNil)))) (sSeq (sRet (dConst (.bool false))) (sNil)) (sNil)) (sSeq (sAsg 9 (dComp [] (dCall (bfV .range) (aCons (dConst (.int 7)) (aNil))) (gName 0) (fNil) (dCall pTold (aCons (dLoc 0) (aNil))))) (sSeq (sAsg 10 (dBin .Add (dItem (dLoc 2) (dConst (.int 2))) (dConst (.int 1)))) (sSeq (sAsg 11 (dBin .Mult (dLoc 10) (dBin .Add (dItem (dLoc 2) (dConst (.int 1))) (dConst (.int 1))))) (sSeq (sNew 12 nNil) (sSeq (sFor (gName 13) (dCall (bfV .range) (aCons (dBin .Add (dItem (dLoc 2) (dConst (.int 0))) (dConst (.int 1))) (aNil))) (sSeq (sFor (gName 14) (dCall (bfV .range) (aCons (dBin .Add (dItem (dLoc 2) (dConst (.int 1))) (dConst (.int 1))) (aNil))) (sSeq (sFor (gName 15) (dCall (bfV .range) (aCons (dLoc 10) (aNil))) (sSeq (sAsg 16 (dCompO 12 [12, 15, 11, 14, 10] (dItem (dLoc 6) (dLoc 13)) (gName 0) (fNil) (dItem (dLoc 1) (dBin .Add (dBin .Add (dBin .Mult (dLoc 0) (dLoc 3)) (dBin .Mult (dLoc 4) (dLoc 5))) (dLoc 2))))) (sSeq (sAsg 16 (dBin .Add (dLoc 16) (dCompO 12 [12, 15, 13, 11, 10] (dItem (dLoc 6) (dBin .Add (dBin .Add (dItem (dLoc 2) (dConst (.int 0))) (dConst (.int 1))) (dLoc 14))) (gName 0) (fNil) (dItem (dLoc 1) (dBin .Add (dBin .Add (dBin .Mult (dLoc 3) (dLoc 4)) (dBin .Mult (dLoc 0) (dLoc 5))) (dLoc 2)))))) (sSeq (sAsg 16 (dBin .Add (dLoc 16) (dCompO 12 [12, 13, 11, 14, 10] (dItem (dLoc 6) (dBin .Add (dBin .Add (dBin .Add (dItem (dLoc 2) (dConst (.int 0))) (dItem (dLoc 2) (dConst (.int 1)))) (dConst (.int 2))) (dLoc 15))) (gName 0) (fNil) (dItem (dLoc 1) (dBin .Add (dBin .Add (dBin .Mult (dLoc 2) (dLoc 3)) (dBin .Mult (dLoc 4) (dLoc 5))) (dLoc 0)))))) (sSeq (sApp 12 (dCmp .NotIn (dConst (.bool true)) (dLoc 16))) (sSeq (sIf (tCmp .IsNot (dItemO 12 (dNeg (dConst (.int 1)))) (dCmp .Eq (dBin .BitXor (dBin .BitXor (dItem (dLoc 9) (dLoc 13)) (dItem (dLoc 9) (dLoc 14))) (dItem (dLoc 9) (dLoc 15))) (dConst (.int 0)))) (sSeq (sRet (dConst (.bool false))) (sNil)) (sNil)) (sNil))))))) (sNil))) (sNil))) (sSeq (sRet (dConst (.bool true))) (sNil))))))))))))))))
theorem wLaw (F : F3 w b) : FunSpec0 pw w b 5 (.ref 162) (funP 1 16 (dLaw)) :=
  fun_spec0 (name := "law") (params := stArgs (st 19)) (body := stBody (st 19)) (scope := stScope (st 19)) (cd := .ref 161) (ps := ["script"]) (ns := ["cells", "heaps", "parts", "typed", "row", "takings", "counts", "want", "told", "wide", "deep", "lost", "a", "b", "c", "ends"]) (n := 4)
    F.wd (F.kin 162 (o162_21 w.params) rfl) rfl ⟨161, _, _, _, rfl, F.kin 161 (o161_21 w.params) rfl, rfl, rfl⟩ (fun vs h => by obtain ⟨a, rfl⟩ := len_one h; rfl) (by decide +kernel) (all_cell (ls := ["parts", "typed", "row", "takings", "want", "told", "ends"]) (cs := ["script", "cells", "heaps", "counts", "wide", "deep", "lost", "a", "b", "c"]) (by decide +kernel) (by decide +kernel) (fun m => by kernel_rfl)) (no_cd (by decide +kernel)) rfl rfl rfl
    fun b' L k K => (TS1_cons (TX1.of (TX_asg K.ok ⟨(by kernel_rfl), .inr ⟨(by kernel_rfl), rfl⟩⟩ (TE_compP (x := "k") (y := "own") K (CompOk.of (fns := ["script"]) (is := [0]) (by kernel_rfl)) (by kernel_rfl) (by decide +kernel) ⟨fun b9 L9 k9 K9 => ⟨(TG_tup (TGs_cons (TG_name K9.ok ⟨(by kernel_rfl), .inl (by kernel_rfl)⟩) (TGs_cons (TG_name K9.ok ⟨(by kernel_rfl), .inl (by kernel_rfl)⟩) TGs_nil (asg_cons rfl)) (asg_cons rfl))), (TE_bin K9 (TE_bin K9 (TE_loc K9.ok (by kernel_rfl) (by kernel_rfl)) (TE_bf K9.ok (by kernel_rfl) (by kernel_rfl) (g_sum (((F.up k)).up k9)) (TA_cons (TE_slice (TE_loc K9.ok (by kernel_rfl) (by kernel_rfl)) (TP_some (TE_loc K9.ok (by kernel_rfl) (by kernel_rfl))) TP_none (TP_some TE_int)) TA_nil (star_cons rfl)))) (TE_bin K9 TE_int TE_int))⟩⟩ (by kernel_rfl) (by kernel_rfl) (g_enumerate (F.up k)) (TE_tup (TA_cons TE_int (TA_cons TE_int (TA_cons TE_int (TA_cons TE_int (TA_cons TE_int (TA_cons TE_int TA_nil (star_cons rfl)) (star_cons rfl)) (star_cons rfl)) (star_cons rfl)) (star_cons rfl)) (star_cons rfl))) (star_cons rfl) (fun _ => (by kernel_rfl))) (by kernel_rfl))) (TS1_cons (TX1.of (TX_asg K.ok ⟨(by kernel_rfl), .inr ⟨(by kernel_rfl), rfl⟩⟩ (TE_list (TA_cons (TE_bin K (TE_item (TE_loc K.ok (by kernel_rfl) (by kernel_rfl)) TE_int) TE_int) (TA_cons (TE_bin K (TE_item (TE_loc K.ok (by kernel_rfl) (by kernel_rfl)) TE_int) TE_int) (TA_cons (TE_bin K (TE_item (TE_loc K.ok (by kernel_rfl) (by kernel_rfl)) TE_int) TE_int) TA_nil (star_cons rfl)) (star_cons rfl)) (star_cons rfl))) (by kernel_rfl))) (TS1_cons (TX1.of (TX_asgc K (CompOk.of (fns := ["heaps", "cells"]) (is := [2, 1]) (by kernel_rfl)) ⟨fun b8 L8 k8 K8 => ⟨TG_name K8.ok ⟨(by kernel_rfl), .inl (by kernel_rfl)⟩, TF_nil, (TE_fn K8.ok (by kernel_rfl) (by kernel_rfl) (g_typ (((F.up k)).up k8)) (((((F.up k)).up k8)).kin 131 (o131_16 w.params) rfl) rfl (sTyp (((F.up k)).up k8)) (Nat.le_of_ble_eq_true rfl) (TA_cons (TE_item (TE_str (by kernel_rfl)) (TE_loc K8.ok (by kernel_rfl) (by kernel_rfl))) (TA_cons (TE_item (TE_loc K8.ok (by kernel_rfl) (by kernel_rfl)) (TE_loc K8.ok (by kernel_rfl) (by kernel_rfl))) (TA_cons (TE_bin K8 (TE_item (TE_loc K8.ok (by kernel_rfl) (by kernel_rfl)) TE_int) (TE_bin K8 TE_int (TE_loc K8.ok (by kernel_rfl) (by kernel_rfl)))) TA_nil (star_cons rfl)) (star_cons rfl)) (star_cons rfl)))⟩⟩ (TE_bf K.ok (by kernel_rfl) (by kernel_rfl) (g_range (F.up k)) (TA_cons TE_int TA_nil (star_cons rfl))) (fun _ => (by kernel_rfl)) ⟨(by kernel_rfl), .inl (by kernel_rfl)⟩ (by kernel_rfl))) (TS1_cons (TX1.of (TX_asg K.ok ⟨(by kernel_rfl), .inl (by kernel_rfl)⟩ (TE_bin K (TE_bin K (TE_bin K (TE_bin K (TE_item (TE_loc K.ok (by kernel_rfl) (by kernel_rfl)) TE_int) (TE_bin K (TE_str (by kernel_rfl)) (TE_bin K (TE_item (TE_loc K.ok (by kernel_rfl) (by kernel_rfl)) TE_int) TE_int))) (TE_item (TE_loc K.ok (by kernel_rfl) (by kernel_rfl)) TE_int)) (TE_bin K (TE_str (by kernel_rfl)) (TE_bin K (TE_bin K (TE_item (TE_loc K.ok (by kernel_rfl) (by kernel_rfl)) TE_int) TE_int) TE_int))) (TE_item (TE_loc K.ok (by kernel_rfl) (by kernel_rfl)) TE_int)) (by kernel_rfl))) (TS1_cons (TX1.of (TX_asg K.ok ⟨(by kernel_rfl), .inl (by kernel_rfl)⟩ (TE_fn K.ok (by kernel_rfl) (by kernel_rfl) (g_row (F.up k)) (((F.up k)).kin 138 (o138_17 w.params) rfl) rfl (sRow (F.up k)) (Nat.le_of_ble_eq_true rfl) (TA_cons (TE_loc K.ok (by kernel_rfl) (by kernel_rfl)) (TA_cons (TE_item (TE_loc K.ok (by kernel_rfl) (by kernel_rfl)) TE_int) TA_nil (star_cons rfl)) (star_cons rfl))) (by kernel_rfl))) (TS1_cons (TX1.of (TX_asg K.ok ⟨(by kernel_rfl), .inl (by kernel_rfl)⟩ (TE_fn K.ok (by kernel_rfl) (by kernel_rfl) (g_take (F.up k)) (((F.up k)).kin 150 (o150_19 w.params) rfl) rfl (sTake (F.up k)) (Nat.le_of_ble_eq_true rfl) (TA_cons (TE_loc K.ok (by kernel_rfl) (by kernel_rfl)) (TA_cons (TE_item (TE_loc K.ok (by kernel_rfl) (by kernel_rfl)) TE_int) TA_nil (star_cons rfl)) (star_cons rfl))) (by kernel_rfl))) (TS1_cons (TX1_if (TT1_or2 (TT_cmp (TE_loc K.ok (by kernel_rfl) (by kernel_rfl)) TE_none (by kernel_rfl)) (TT1_not (TT1_val (TE1_fnX K.ok rfl (by kernel_rfl) (by kernel_rfl) (g_heard (F.up k)) (((F.up k)).kin 143 (o143_18 w.params) rfl) rfl (sHeard (F.up k)) (Nat.le_of_ble_eq_true rfl) (TA_cons (TE_loc K.ok (by kernel_rfl) (by kernel_rfl)) (TA_cons (TE_loc K.ok (by kernel_rfl) (by kernel_rfl)) (TA_cons (TE_item (TE_loc K.ok (by kernel_rfl) (by kernel_rfl)) TE_int) TA_nil (star_cons rfl)) (star_cons rfl)) (star_cons rfl))) (by kernel_rfl)))) (TS_cons (TX_ret TE_bool) TS_nil) TS_nil) (TS1_cons (TX1.of (TX_asg K.ok ⟨(by kernel_rfl), .inr ⟨(by kernel_rfl), rfl⟩⟩ (TE_comp K (CompOk.of (fns := ["cells", "heaps"]) (is := [1, 2]) (by kernel_rfl)) ⟨fun b7 L7 k7 K7 => ⟨TG_name K7.ok ⟨(by kernel_rfl), .inl (by kernel_rfl)⟩, TF_nil, (TE_bin K7 (TE_bin K7 (TE_item (TE_loc K7.ok (by kernel_rfl) (by kernel_rfl)) TE_int) (TE_item (TE_tup (TA_cons TE_int (TA_cons TE_int (TA_cons TE_int TA_nil (star_cons rfl)) (star_cons rfl)) (star_cons rfl))) (TE_loc K7.ok (by kernel_rfl) (by kernel_rfl)))) (TE_bin K7 (TE_item (TE_loc K7.ok (by kernel_rfl) (by kernel_rfl)) (TE_loc K7.ok (by kernel_rfl) (by kernel_rfl))) TE_int))⟩⟩ (TE_bf K.ok (by kernel_rfl) (by kernel_rfl) (g_range (F.up k)) (TA_cons TE_int TA_nil (star_cons rfl))) (fun _ => (by kernel_rfl))) (by kernel_rfl))) (TS1_cons (TX1.of (TX_asg K.ok ⟨(by kernel_rfl), .inl (by kernel_rfl)⟩ (TE_meth meth_join (TE_str (by kernel_rfl)) (TA_cons (TE_comp K (CompOk.of (fns := ["counts"]) (is := [7]) (by kernel_rfl)) ⟨fun b6 L6 k6 K6 => ⟨TG_name K6.ok ⟨(by kernel_rfl), .inl (by kernel_rfl)⟩, TF_nil, (TE_bin K6 (TE_bin K6 (TE_bin K6 (TE_item (TE_str (by kernel_rfl)) (TE_loc K6.ok (by kernel_rfl) (by kernel_rfl))) (TE_item (TE_loc K6.ok (by kernel_rfl) (by kernel_rfl)) (TE_loc K6.ok (by kernel_rfl) (by kernel_rfl)))) (TE_str (by kernel_rfl))) (TE_bin K6 (TE_item (TE_str (by kernel_rfl)) (TE_loc K6.ok (by kernel_rfl) (by kernel_rfl))) (TE_item (TE_loc K6.ok (by kernel_rfl) (by kernel_rfl)) (TE_loc K6.ok (by kernel_rfl) (by kernel_rfl)))))⟩⟩ (TE_bf K.ok (by kernel_rfl) (by kernel_rfl) (g_range (F.up k)) (TA_cons TE_int TA_nil (star_cons rfl))) (fun _ => (by kernel_rfl))) TA_nil (star_cons rfl)) (by kernel_rfl) (by kernel_rfl) (by decide)) (by kernel_rfl))) (TS1_cons (TX1.of (TX_if (TT_cmp (TE_fn K.ok (by kernel_rfl) (by kernel_rfl) (g_ell (F.up k)) (((F.up k)).kin 53 (o53_8 w.params) rfl) rfl (sEll (F.up k)) (Nat.le_of_ble_eq_true rfl) (TA_cons (TE_loc K.ok (by kernel_rfl) (by kernel_rfl)) (TA_cons (TE_loc K.ok (by kernel_rfl) (by kernel_rfl)) TA_nil (star_cons rfl)) (star_cons rfl))) (TE_cmp (TE_comp K (CompOk.of (fns := ["heaps", "counts"]) (is := [2, 7]) (by kernel_rfl)) ⟨fun b5 L5 k5 K5 => ⟨TG_name K5.ok ⟨(by kernel_rfl), .inl (by kernel_rfl)⟩, (TF_one (TT_cmp (TE_bin K5 TE_int (TE_item (TE_loc K5.ok (by kernel_rfl) (by kernel_rfl)) (TE_loc K5.ok (by kernel_rfl) (by kernel_rfl)))) (TE_item (TE_loc K5.ok (by kernel_rfl) (by kernel_rfl)) (TE_loc K5.ok (by kernel_rfl) (by kernel_rfl))) (by kernel_rfl))), (TE_loc K5.ok (by kernel_rfl) (by kernel_rfl))⟩⟩ (TE_bf K.ok (by kernel_rfl) (by kernel_rfl) (g_range (F.up k)) (TA_cons TE_int TA_nil (star_cons rfl))) (fun _ => (by kernel_rfl))) (TE_list TA_nil) (by kernel_rfl)) (by kernel_rfl)) (TS_cons (TX_ret TE_bool) TS_nil) TS_nil)) (TS1_cons (TX1.of (TX_asgc K (CompOk.of (fns := []) (is := []) (by kernel_rfl)) ⟨fun b4 L4 k4 K4 => ⟨TG_name K4.ok ⟨(by kernel_rfl), .inl (by kernel_rfl)⟩, TF_nil, (TE_fn K4.ok (by kernel_rfl) (by kernel_rfl) (g_told (((F.up k)).up k4)) (((((F.up k)).up k4)).kin 157 (o157_20 w.params) rfl) rfl (sTold (((F.up k)).up k4)) (Nat.le_of_ble_eq_true rfl) (TA_cons (TE_loc K4.ok (by kernel_rfl) (by kernel_rfl)) TA_nil (star_cons rfl)))⟩⟩ (TE_bf K.ok (by kernel_rfl) (by kernel_rfl) (g_range (F.up k)) (TA_cons TE_int TA_nil (star_cons rfl))) (fun _ => (by kernel_rfl)) ⟨(by kernel_rfl), .inl (by kernel_rfl)⟩ (by kernel_rfl))) (TS1_cons (TX1.of (TX_asg K.ok ⟨(by kernel_rfl), .inr ⟨(by kernel_rfl), rfl⟩⟩ (TE_bin K (TE_item (TE_loc K.ok (by kernel_rfl) (by kernel_rfl)) TE_int) TE_int) (by kernel_rfl))) (TS1_cons (TX1.of (TX_asg K.ok ⟨(by kernel_rfl), .inr ⟨(by kernel_rfl), rfl⟩⟩ (TE_bin K (TE_loc K.ok (by kernel_rfl) (by kernel_rfl)) (TE_bin K (TE_item (TE_loc K.ok (by kernel_rfl) (by kernel_rfl)) TE_int) TE_int)) (by kernel_rfl))) (TS1_cons (TX1.of (TX_new K.ok ⟨(by kernel_rfl), .inr ⟨(by kernel_rfl), rfl⟩⟩ TN_nil (by kernel_rfl))) (TS1_cons (TX1.of (TX_for (TG_name K.ok ⟨(by kernel_rfl), .inr ⟨(by kernel_rfl), rfl⟩⟩) (TE_bf K.ok (by kernel_rfl) (by kernel_rfl) (g_range (F.up k)) (TA_cons (TE_bin K (TE_item (TE_loc K.ok (by kernel_rfl) (by kernel_rfl)) TE_int) TE_int) TA_nil (star_cons rfl))) (TS_cons (TX_for (TG_name K.ok ⟨(by kernel_rfl), .inr ⟨(by kernel_rfl), rfl⟩⟩) (TE_bf K.ok (by kernel_rfl) (by kernel_rfl) (g_range (F.up k)) (TA_cons (TE_bin K (TE_item (TE_loc K.ok (by kernel_rfl) (by kernel_rfl)) TE_int) TE_int) TA_nil (star_cons rfl))) (TS_cons (TX_for (TG_name K.ok ⟨(by kernel_rfl), .inr ⟨(by kernel_rfl), rfl⟩⟩) (TE_bf K.ok (by kernel_rfl) (by kernel_rfl) (g_range (F.up k)) (TA_cons (TE_loc K.ok (by kernel_rfl) (by kernel_rfl)) TA_nil (star_cons rfl))) (TS_cons (TX_asgcO (k := 12) K (CompOk.of (fns := ["lost", "c", "deep", "b", "wide"]) (is := [12, 15, 11, 14, 10]) (by kernel_rfl)) ⟨fun b3 L3 k3 K3 => ⟨TG_name K3.ok ⟨(by kernel_rfl), .inl (by kernel_rfl)⟩, TF_nil, (TE_item (TE_loc K3.ok (by kernel_rfl) (by kernel_rfl)) (TE_bin K3 (TE_bin K3 (TE_bin K3 (TE_loc K3.ok (by kernel_rfl) (by kernel_rfl)) (TE_loc K3.ok (by kernel_rfl) (by kernel_rfl))) (TE_bin K3 (TE_loc K3.ok (by kernel_rfl) (by kernel_rfl)) (TE_loc K3.ok (by kernel_rfl) (by kernel_rfl)))) (TE_loc K3.ok (by kernel_rfl) (by kernel_rfl))))⟩⟩ (TE_item (TE_loc K.ok (by kernel_rfl) (by kernel_rfl)) (TE_loc K.ok (by kernel_rfl) (by kernel_rfl))) (fun _ => (by kernel_rfl)) ⟨(by kernel_rfl), .inl (by kernel_rfl)⟩ (by kernel_rfl)) (TS_cons (TX_asg K.ok ⟨(by kernel_rfl), .inl (by kernel_rfl)⟩ (TE_bin K (TE_loc K.ok (by kernel_rfl) (by kernel_rfl)) (TE_compO (i := 12) K (CompOk.of (fns := ["lost", "c", "a", "deep", "wide"]) (is := [12, 15, 13, 11, 10]) (by kernel_rfl)) ⟨fun b2 L2 k2 K2 => ⟨TG_name K2.ok ⟨(by kernel_rfl), .inl (by kernel_rfl)⟩, TF_nil, (TE_item (TE_loc K2.ok (by kernel_rfl) (by kernel_rfl)) (TE_bin K2 (TE_bin K2 (TE_bin K2 (TE_loc K2.ok (by kernel_rfl) (by kernel_rfl)) (TE_loc K2.ok (by kernel_rfl) (by kernel_rfl))) (TE_bin K2 (TE_loc K2.ok (by kernel_rfl) (by kernel_rfl)) (TE_loc K2.ok (by kernel_rfl) (by kernel_rfl)))) (TE_loc K2.ok (by kernel_rfl) (by kernel_rfl))))⟩⟩ (TE_item (TE_loc K.ok (by kernel_rfl) (by kernel_rfl)) (TE_bin K (TE_bin K (TE_item (TE_loc K.ok (by kernel_rfl) (by kernel_rfl)) TE_int) TE_int) (TE_loc K.ok (by kernel_rfl) (by kernel_rfl)))) (fun _ => (by kernel_rfl)))) (by kernel_rfl)) (TS_cons (TX_asg K.ok ⟨(by kernel_rfl), .inl (by kernel_rfl)⟩ (TE_bin K (TE_loc K.ok (by kernel_rfl) (by kernel_rfl)) (TE_compO (i := 12) K (CompOk.of (fns := ["lost", "a", "deep", "b", "wide"]) (is := [12, 13, 11, 14, 10]) (by kernel_rfl)) ⟨fun b1 L1 k1 K1 => ⟨TG_name K1.ok ⟨(by kernel_rfl), .inl (by kernel_rfl)⟩, TF_nil, (TE_item (TE_loc K1.ok (by kernel_rfl) (by kernel_rfl)) (TE_bin K1 (TE_bin K1 (TE_bin K1 (TE_loc K1.ok (by kernel_rfl) (by kernel_rfl)) (TE_loc K1.ok (by kernel_rfl) (by kernel_rfl))) (TE_bin K1 (TE_loc K1.ok (by kernel_rfl) (by kernel_rfl)) (TE_loc K1.ok (by kernel_rfl) (by kernel_rfl)))) (TE_loc K1.ok (by kernel_rfl) (by kernel_rfl))))⟩⟩ (TE_item (TE_loc K.ok (by kernel_rfl) (by kernel_rfl)) (TE_bin K (TE_bin K (TE_bin K (TE_item (TE_loc K.ok (by kernel_rfl) (by kernel_rfl)) TE_int) (TE_item (TE_loc K.ok (by kernel_rfl) (by kernel_rfl)) TE_int)) TE_int) (TE_loc K.ok (by kernel_rfl) (by kernel_rfl)))) (fun _ => (by kernel_rfl)))) (by kernel_rfl)) (TS_cons (TX_app K.ok (by kernel_rfl) (by kernel_rfl) (TE_cmp TE_bool (TE_loc K.ok (by kernel_rfl) (by kernel_rfl)) (by kernel_rfl)) (star_cons rfl) (by kernel_rfl) (by kernel_rfl) (by kernel_rfl) (by kernel_rfl)) (TS_cons (TX_if (TT_cmp (TE_itemO K.ok (by kernel_rfl) (by kernel_rfl) (TE_neg TE_int)) (TE_cmp (TE_bin K (TE_bin K (TE_item (TE_loc K.ok (by kernel_rfl) (by kernel_rfl)) (TE_loc K.ok (by kernel_rfl) (by kernel_rfl))) (TE_item (TE_loc K.ok (by kernel_rfl) (by kernel_rfl)) (TE_loc K.ok (by kernel_rfl) (by kernel_rfl)))) (TE_item (TE_loc K.ok (by kernel_rfl) (by kernel_rfl)) (TE_loc K.ok (by kernel_rfl) (by kernel_rfl)))) TE_int (by kernel_rfl)) (by kernel_rfl)) (TS_cons (TX_ret TE_bool) TS_nil) TS_nil) TS_nil))))) (fun _ => (by kernel_rfl))) TS_nil) (fun _ => (by kernel_rfl))) TS_nil) (fun _ => (by kernel_rfl)))) (TS1_cons (TX1.of (TX_ret TE_bool)) (TS1.of TS_nil)))))))))))))))))

end
noncomputable abbrev celD : SL → Option (V × SL) := (dBin .Mod (dBin .Add (dLoc 1) (dCall (bfV .sum) (aCons (dSlice (dLoc 2) (pSome (dLoc 0)) pNone (pSome (dConst (.int 6)))) (aNil)))) (dBin .Pow (dConst (.int 10)) (dConst (.int 6))))
noncomputable abbrev celG : V → SL → Option SL := (gTup (gCons (gName 0) (gCons (gName 1) (gNil))))
theorem ints_map : ∀ l : List Int, intsOf (l.map V.int) = some l
  | [] => rfl
  | i :: l => by rw [List.map_cons, intsOf, ints_map l]; rfl
theorem cutL_map (L : List Int) (lo hi st : Option Int) : cutL (L.map V.int) lo hi st = (cutL L lo hi st).map V.int := by
  unfold cutL
  rw [List.length_map, List.map_filterMap]
  congr 1
  funext i
  rw [List.getElem?_map]
theorem cel_body (L : List Int) (hL : L.length ≤ 63) (k own : Int) : ∃ c : Nat, celD [.val (.int k), .val (.int own), .val (.list (L.map V.int))] = some (.int (c : Int), [.val (.int k), .val (.int own), .val (.list (L.map V.int))]) := by
  have s1 : sliceV' (.list (L.map V.int)) (some k) none (some 6) = some (.list ((cutL L (some k) none (some 6)).map V.int)) := by
    rw [← cutL_map]
    exact if_pos ⟨big_of (by rw [List.length_map]; omega), by decide⟩
  have s2 : bfV .sum [.list ((cutL L (some k) none (some 6)).map V.int)] = some (.int (cutL L (some k) none (some 6)).sum) := by
    show (intsOf ((cutL L (some k) none (some 6)).map V.int)).map (fun l => V.int l.sum) = _
    rw [ints_map]
    rfl
  generalize cutL L (some k) none (some 6) = z at *
  have p : binV .Pow (.int 10) (.int 6) = some (.int ((1000000 : Nat) : Int)) := pow_nat 10 6 (by decide) (by decide)
  have m := mod_md (own + z.sum) 1000000 (by decide)
  exact ⟨_, ev_bin (ev_bin rfl (ev_call (ev_one (ev_slice rfl (ev_some rfl) rfl (ev_some rfl) s1)) s2) (bi_add _ _)) (ev_bin rfl rfl p) m⟩
theorem cel_step {L : List V} {k own : V} {c : V} {rest : List V} {rs : List V} {s0 s1 : Slot} (h : celD [.val k, .val own, .val (.list L)] = some (c, [.val k, .val own, .val (.list L)])) (h2 : compL celG fNil celD rest [.val k, .val own, .val (.list L)] = some rs) :
    compL celG fNil celD (.tup [k, own] :: rest) [s0, s1, .val (.list L)] = some (c :: rs) := by
  have e : celG (.tup [k, own]) [s0, s1, .val (.list L)] = some [.val k, .val own, .val (.list L)] := rfl
  rw [compL, e, Option.bind_some]
  show (celD [.val k, .val own, .val (.list L)]).bind _ = _
  rw [h, Option.bind_some, h2]
  rfl
theorem cells_ok (L : List Int) (hL : L.length ≤ 63) : ∃ c0 c1 c2 c3 c4 c5 : Nat, compL celG fNil celD (enumL [.int 6, .int 4, .int 2, .int 12991, .int 1081, .int 13002]) [.unset, .unset, .val (.list (L.map V.int))] = some [iV c0, iV c1, iV c2, iV c3, iV c4, iV c5] := by
  obtain ⟨c0, h0⟩ := cel_body L hL 0 6
  obtain ⟨c1, h1⟩ := cel_body L hL 1 4
  obtain ⟨c2, h2⟩ := cel_body L hL 2 2
  obtain ⟨c3, h3⟩ := cel_body L hL 3 12991
  obtain ⟨c4, h4⟩ := cel_body L hL 4 1081
  obtain ⟨c5, h5⟩ := cel_body L hL 5 13002
  exact ⟨c0, c1, c2, c3, c4, c5, cel_step h0 (cel_step h1 (cel_step h2 (cel_step h3 (cel_step h4 (cel_step h5 rfl)))))⟩
theorem ev_compP {σ σ1 ps : SL} {is : List Nat} {d : SL → Option (V × SL)} {st : V → SL → Option SL} {de : SL → Option (V × SL)} {xs rs : List V} (h1 : d σ = some (.tup xs, σ1)) (h3 : xs.length ≤ big) (h4 : pickS σ1 is = some ps) (h5 : compL st fNil de (enumL xs) (.unset :: .unset :: ps) = some rs) : dCompP is d st de σ = some (.list rs, σ1) := by
  unfold dCompP
  rw [h1, Option.bind_some]
  show (tupL (.tup xs)).bind _ = _
  rw [show tupL (.tup xs) = some xs from rfl, Option.bind_some, if_pos h3, h4, Option.bind_some, h5]
  rfl
theorem comp3 {de : SL → Option (V × SL)} {ps : SL} {s : Slot} {x0 x1 x2 v0 v1 v2 : V} (h0 : de (.val x0 :: ps) = some (v0, .val x0 :: ps)) (h1 : de (.val x1 :: ps) = some (v1, .val x1 :: ps)) (h2 : de (.val x2 :: ps) = some (v2, .val x2 :: ps)) :
    compL (gName 0) fNil de [x0, x1, x2] (s :: ps) = some [v0, v1, v2] := by
  simp [compL, gName, fNil, h0, h1, h2]
noncomputable def pick3 (t0 t1 t2 : Bool) : List V := (if t0 then [iV 0] else []) ++ ((if t1 then [iV 1] else []) ++ (if t2 then [iV 2] else []))
theorem comp3f {dt : SL → Option (Bool × SL)} {ps : SL} {s : Slot} {t0 t1 t2 : Bool} (h0 : dt (.val (iV 0) :: ps) = some (t0, .val (iV 0) :: ps)) (h1 : dt (.val (iV 1) :: ps) = some (t1, .val (iV 1) :: ps)) (h2 : dt (.val (iV 2) :: ps) = some (t2, .val (iV 2) :: ps)) :
    compL (gName 0) dt (dLoc 0) [iV 0, iV 1, iV 2] (s :: ps) = some (pick3 t0 t1 t2) := by
  have l : ∀ x : V, dLoc 0 (.val x :: ps) = some (x, .val x :: ps) := fun x => rfl
  cases t0 <;> cases t1 <;> cases t2 <;> simp [compL, gName, h0, h1, h2, l, pick3]
theorem pick3_nil (t0 t1 t2 : Bool) : cmpV .Eq (.list (pick3 t0 t1 t2)) (.list []) = some (!t0 && (!t1 && !t2)) := by
  cases t0 <;> cases t1 <;> cases t2 <;> kernel_rfl
theorem rng3 : iterV (.rng 0 3) = some [iV 0, iV 1, iV 2] := rng_ok 0 3 (by decide) (by decide) (by decide) (by decide)
theorem rng7 : iterV (.rng 0 7) = some (([0, 1, 2, 3, 4, 5, 6] : List Nat).map iV) := rng_ok 0 7 (by decide) (by decide) (by decide) (by decide)
theorem prep_marks : ∀ n, prep (rp n 34) = rp n 34
  | 0 => rfl
  | n + 1 => by
    rw [rp_succ, prep_app, prep_marks n]
    congr 1
theorem typ_at {l : Nat} {q : Nat × Nat} (e : letK l = some q) (k n : Nat) (hk : k ≤ 9) : pTyp [.str [l], .int (k : Int), .int (n : Int)] = some (.str (typL l q.1 q.2 n k)) := by
  show (letK l).bind (fun q => if 0 ≤ (k : Int) ∧ (k : Int) ≤ 9 ∧ 0 ≤ (n : Int) then some (V.str (typL l q.1 q.2 (n : Int).toNat (k : Int).toNat)) else none) = _
  rw [e, Option.bind_some, if_pos ⟨by omega, by omega, by omega⟩]
  rfl
theorem pow7 (k : Nat) (h : k < 1000) : binV .Pow (.int 7) (.int (k : Int)) = some (.int ((7 ^ k : Nat) : Int)) := pow_nat 7 k (by decide) h
theorem gt_nat (a c : Nat) : cmpV .Gt (.int (a : Int)) (.int (c : Int)) = some (decide (c < a)) := by
  show some (decide ((c : Int) < (a : Int))) = _
  congr 1
  by_cases h : c < a
  · rw [decide_eq_true h, decide_eq_true (by omega)]
  · rw [decide_eq_false h, decide_eq_false (by omega)]
theorem le_not (a c : Nat) : decide (a ≤ c) = !decide (c < a) := by
  by_cases h : a ≤ c
  · rw [decide_eq_true h, decide_eq_false (by omega)]; rfl
  · rw [decide_eq_false h, decide_eq_true (by omega)]; rfl
theorem marks_add (p0 p1 p2 : List Nat) (u v : Nat) (h0 : p0.length ≤ 20) (h1 : p1.length ≤ 20) (h2 : p2.length ≤ 20) (hu : u < 4) (hv : v < 4) :
    binV .Add (.str p0) (.str (rp u 34)) = some (.str (p0 ++ rp u 34)) ∧ binV .Add (.str (p0 ++ rp u 34)) (.str p1) = some (.str (p0 ++ rp u 34 ++ p1)) ∧
    binV .Add (.str (p0 ++ rp u 34 ++ p1)) (.str (rp v 34)) = some (.str (p0 ++ rp u 34 ++ p1 ++ rp v 34)) ∧ binV .Add (.str (p0 ++ rp u 34 ++ p1 ++ rp v 34)) (.str p2) = some (.str (p0 ++ rp u 34 ++ p1 ++ rp v 34 ++ p2)) ∧ (p0 ++ rp u 34 ++ p1 ++ rp v 34 ++ p2).length ≤ 1000 := by
  have l1 : (p0 ++ rp u 34 ++ p1 ++ rp v 34 ++ p2).length ≤ 100 := by simp only [List.length_append, rp_len]; omega
  have k : ∀ {a b c : List Nat}, (a ++ b ++ c).length ≤ 1000000 → (a ++ b).length ≤ 1000000 := fun h => by rw [List.length_append] at h; omega
  have k2 : ∀ {a b : List Nat}, (a ++ b).length ≤ 1000000 → binV .Add (.str a) (.str b) = some (.str (a ++ b)) := fun h => str_add (by rw [List.length_append] at h; exact h)
  have l4 : (p0 ++ rp u 34 ++ p1 ++ rp v 34 ++ p2).length ≤ 1000000 := Nat.le_trans l1 (by decide)
  exact ⟨k2 (k (k (k l4))), k2 (k (k l4)), k2 (k l4), k2 l4, Nat.le_trans l1 (by decide)⟩
theorem want_join (i j l : Nat) (hi : i ≤ 20) (hj : j ≤ 20) (hl : l ≤ 20) : bfV .join [.str [46, 46, 46], .list [.str (rp i 102 ++ dots ++ rp i 102), .str (rp j 115 ++ dots ++ rp j 115), .str (rp l 107 ++ dots ++ rp l 107)]] = some (.str (wantF i j l)) := by
  have e : ∀ n c : Nat, n ≤ 20 → (rp n c ++ dots ++ rp n c).length ≤ 43 := fun n c h => by simp only [List.length_append, rp_len, List.length_cons, List.length_nil]; omega
  have e0 := e i 102 hi
  have e1 := e j 115 hj
  have e2 := e l 107 hl
  have w : joinL dots [rp i 102 ++ dots ++ rp i 102, rp j 115 ++ dots ++ rp j 115, rp l 107 ++ dots ++ rp l 107] = wantF i j l := by
    unfold wantF
    simp [joinL]
  rw [← w]
  generalize rp i 102 ++ dots ++ rp i 102 = x at *
  generalize rp j 115 ++ dots ++ rp j 115 = y at *
  generalize rp l 107 ++ dots ++ rp l 107 = z at *
  show (if (([x, y, z] : List (List Nat)).map List.length).sum + ([x, y, z] : List (List Nat)).length * ([46, 46, 46] : List Nat).length ≤ big then some (V.str (joinL dots [x, y, z])) else none) = _
  rw [if_pos (big_of (by simp only [List.map_cons, List.map_nil, List.sum_cons, List.sum_nil, List.length_cons, List.length_nil]; omega))]
theorem law_eval (L : List Int) (hL : L.length ≤ 63) : funP 1 16 dLaw [.list (L.map V.int)] = some (.bool true) := by
  obtain ⟨c0, c1, c2, c3, c4, c5, hc⟩ := cells_ok L hL
  have j0 : itemV (.list [iV c0, iV c1, iV c2, iV c3, iV c4, iV c5]) (.int 0) = some (.int (c0 : Int)) := list_at _ (by show 6 ≤ 1000; decide) 0 _ rfl
  have j1 : itemV (.list [iV c0, iV c1, iV c2, iV c3, iV c4, iV c5]) (.int 1) = some (.int (c1 : Int)) := list_at _ (by show 6 ≤ 1000; decide) 1 _ rfl
  have j2 : itemV (.list [iV c0, iV c1, iV c2, iV c3, iV c4, iV c5]) (.int 2) = some (.int (c2 : Int)) := list_at _ (by show 6 ≤ 1000; decide) 2 _ rfl
  have j3 : itemV (.list [iV c0, iV c1, iV c2, iV c3, iV c4, iV c5]) (.int 3) = some (.int (c3 : Int)) := list_at _ (by show 6 ≤ 1000; decide) 3 _ rfl
  have j4 : itemV (.list [iV c0, iV c1, iV c2, iV c3, iV c4, iV c5]) (.int 4) = some (.int (c4 : Int)) := list_at _ (by show 6 ≤ 1000; decide) 4 _ rfl
  have j5 : itemV (.list [iV c0, iV c1, iV c2, iV c3, iV c4, iV c5]) (.int 5) = some (.int (c5 : Int)) := list_at _ (by show 6 ≤ 1000; decide) 5 _ rfl
  generalize [iV c0, iV c1, iV c2, iV c3, iV c4, iV c5] = C at *
  have hA := Nat.mod_lt c0 (show 0 < 7 by decide)
  have hB := Nat.mod_lt c1 (show 0 < 5 by decide)
  have hD := Nat.mod_lt c2 (show 0 < 3 by decide)
  have mA : binV .Mod (.int (c0 : Int)) (.int 7) = some (.int ((c0 % 7 : Nat) : Int)) := nat_mod c0 7 (by decide)
  have mB : binV .Mod (.int (c1 : Int)) (.int 5) = some (.int ((c1 % 5 : Nat) : Int)) := nat_mod c1 5 (by decide)
  have mD : binV .Mod (.int (c2 : Int)) (.int 3) = some (.int ((c2 % 3 : Nat) : Int)) := nat_mod c2 3 (by decide)
  generalize c0 % 7 = A at *
  generalize c1 % 5 = B at *
  generalize c2 % 3 = D at *
  have H : Hp A B D := ⟨hA, hB, hD⟩
  have i0 : itemV (.list [iV A, iV B, iV D]) (.int ((0 : Nat) : Int)) = some (.int (A : Int)) := list_at _ (by show 3 ≤ 1000; decide) 0 _ rfl
  have i1 : itemV (.list [iV A, iV B, iV D]) (.int ((1 : Nat) : Int)) = some (.int (B : Int)) := list_at _ (by show 3 ≤ 1000; decide) 1 _ rfl
  have i2 : itemV (.list [iV A, iV B, iV D]) (.int ((2 : Nat) : Int)) = some (.int (D : Int)) := list_at _ (by show 3 ≤ 1000; decide) 2 _ rfl
  have th := three_is A B D (by omega) (by omega) (by omega)
  have t0 := typ_at (l := 102) rfl A (c3 / 7 ^ 0) (by omega)
  have t1 := typ_at (l := 115) rfl B (c3 / 7 ^ 1) (by omega)
  have t2 := typ_at (l := 107) rfl D (c3 / 7 ^ 2) (by omega)
  have P0 := typL_ok (c3 / 7 ^ 0) gf A
  have P1 := typL_ok (c3 / 7 ^ 1) gs B
  have P2 := typL_ok (c3 / 7 ^ 2) gk D
  have dv : ∀ k, binV .FloorDiv (.int (c3 : Int)) (.int ((7 ^ k : Nat) : Int)) = some (.int ((c3 / 7 ^ k : Nat) : Int)) := fun k => nat_div c3 (7 ^ k) (Nat.pow_pos (by decide))
  dsimp only at t0 t1 t2
  generalize typL 102 64256 8497 (c3 / 7 ^ 0) A = p0 at *
  generalize typL 115 223 383 (c3 / 7 ^ 1) B = p1 at *
  generalize typL 107 13261 120130 (c3 / 7 ^ 2) D = p2 at *
  have l0 := P0.len
  have l1 := P1.len
  have l2 := P2.len
  rw [rp_len] at l0 l1 l2
  have cp : compL (gName 0) fNil (dCall pTyp (aCons (dItem (dConst (.str [102, 115, 107])) (dLoc 0)) (aCons (dItem (dLoc 1) (dLoc 0)) (aCons (dBin .FloorDiv (dItem (dLoc 2) (dConst (.int 3))) (dBin .Pow (dConst (.int 7)) (dLoc 0))) (aNil))))) [iV 0, iV 1, iV 2] [.unset, .val (.list [iV A, iV B, iV D]), .val (.list C)] = some [.str p0, .str p1, .str p2] :=
    comp3 (ev_call (ev_cons (ev_item rfl rfl rfl) (ev_pair (ev_item rfl rfl i0) (ev_bin (ev_item rfl rfl j3) (ev_bin rfl rfl (pow7 0 (by decide))) (dv 0)))) t0)
      (ev_call (ev_cons (ev_item rfl rfl rfl) (ev_pair (ev_item rfl rfl i1) (ev_bin (ev_item rfl rfl j3) (ev_bin rfl rfl (pow7 1 (by decide))) (dv 1)))) t1)
      (ev_call (ev_cons (ev_item rfl rfl rfl) (ev_pair (ev_item rfl rfl i2) (ev_bin (ev_item rfl rfl j3) (ev_bin rfl rfl (pow7 2 (by decide))) (dv 2)))) t2)
  have u0 : itemV (.list [.str p0, .str p1, .str p2]) (.int 0) = some (.str p0) := list_at _ (by show 3 ≤ 1000; decide) 0 _ rfl
  have u1 : itemV (.list [.str p0, .str p1, .str p2]) (.int 1) = some (.str p1) := list_at _ (by show 3 ≤ 1000; decide) 1 _ rfl
  have u2 : itemV (.list [.str p0, .str p1, .str p2]) (.int 2) = some (.str p2) := list_at _ (by show 3 ≤ 1000; decide) 2 _ rfl
  have m4 : binV .Mod (.int (c4 : Int)) (.int 4) = some (.int ((c4 % 4 : Nat) : Int)) := nat_mod c4 4 (by decide)
  have d4 : binV .FloorDiv (.int (c4 : Int)) (.int 4) = some (.int ((c4 / 4 : Nat) : Int)) := nat_div c4 4 (by decide)
  have m44 : binV .Mod (.int ((c4 / 4 : Nat) : Int)) (.int 4) = some (.int ((c4 / 4 % 4 : Nat) : Int)) := nat_mod (c4 / 4) 4 (by decide)
  have r4 := Nat.mod_lt c4 (show 0 < 4 by decide)
  have r44 := Nat.mod_lt (c4 / 4) (show 0 < 4 by decide)
  have q1 := mul_str 34 (c4 % 4) (by omega)
  have q2 := mul_str 34 (c4 / 4 % 4) (by omega)
  obtain ⟨a1, a2, a3, a4, tyl⟩ := marks_add p0 p1 p2 (c4 % 4) (c4 / 4 % 4) (by omega) (by omega) (by omega) r4 r44
  have pt : prep (p0 ++ rp (c4 % 4) 34 ++ p1 ++ rp (c4 / 4 % 4) 34 ++ p2) = rowF A B D c4 := by
    rw [prep_app, prep_app, prep_app, prep_app, P0.pr, P1.pr, P2.pr, prep_marks, prep_marks]
    rfl
  have rl := rowF_len A B D c4 ⟨by omega, by omega, by omega⟩
  have e1 : pRow [.list [iV A, iV B, iV D], .int (c4 : Int)] = some (.str (rowF A B D c4)) := by
    show (three [iV A, iV B, iV D]).bind (fun p => if 0 ≤ (c4 : Int) then some (V.str (rowF p.1 p.2.1 p.2.2 (c4 : Int).toNat)) else none) = _
    rw [th, Option.bind_some, if_pos (by omega)]
    rfl
  have e2 : pTake [.list [iV A, iV B, iV D], .int (c4 : Int)] = some (.list (takL A ++ takL B ++ takL D)) := by
    show (three [iV A, iV B, iV D]).bind (fun p => if 0 ≤ (c4 : Int) then some (V.list (takL p.1 ++ takL p.2.1 ++ takL p.2.2)) else none) = _
    rw [th, Option.bind_some, if_pos (by omega)]
  have e3 : pHeard [.str (p0 ++ rp (c4 % 4) 34 ++ p1 ++ rp (c4 / 4 % 4) 34 ++ p2), .str (rowF A B D c4), .int (c5 : Int)] = some (.bool true) := if_pos ⟨by omega, tyl, Nat.le_trans rl (by decide), pt⟩
  -- the takings at once
  have d16 : binV .FloorDiv (.int (c4 : Int)) (.int 16) = some (.int ((c4 / 16 : Nat) : Int)) := nat_div c4 16 (by decide)
  have d128 : binV .FloorDiv (.int (c4 : Int)) (.int 128) = some (.int ((c4 / 128 : Nat) : Int)) := nat_div c4 128 (by decide)
  have d768 : binV .FloorDiv (.int (c4 : Int)) (.int 768) = some (.int ((c4 / 768 : Nat) : Int)) := nat_div c4 768 (by decide)
  have n0 : binV .Add (.int (A : Int)) (.int 2) = some (.int ((A + 2 : Nat) : Int)) := nat_add A 2
  have n1 : binV .Add (.int (B : Int)) (.int 2) = some (.int ((B + 2 : Nat) : Int)) := nat_add B 2
  have n2 : binV .Add (.int (D : Int)) (.int 2) = some (.int ((D + 2 : Nat) : Int)) := nat_add D 2
  have o0 := nat_mod (c4 / 16) (A + 2) (by omega)
  have o1 := nat_mod (c4 / 128) (B + 2) (by omega)
  have o2 := nat_mod (c4 / 768) (D + 2) (by omega)
  have w0 := Nat.mod_lt (c4 / 16) (show 0 < A + 2 by omega)
  have w1 := Nat.mod_lt (c4 / 128) (show 0 < B + 2 by omega)
  have w2 := Nat.mod_lt (c4 / 768) (show 0 < D + 2 by omega)
  generalize c4 / 16 % (A + 2) = i at *
  generalize c4 / 128 % (B + 2) = j at *
  generalize c4 / 768 % (D + 2) = l at *
  have hb3 : 3 ≤ big := big_of (by decide)
  have hb6 : 6 ≤ big := big_of (by decide)
  have cc : compL (gName 0) fNil (dBin .Mod (dBin .FloorDiv (dItem (dLoc 1) (dConst (.int 4))) (dItem (dTup (aCons (dConst (.int 16)) (aCons (dConst (.int 128)) (aCons (dConst (.int 768)) (aNil))))) (dLoc 0))) (dBin .Add (dItem (dLoc 2) (dLoc 0)) (dConst (.int 2)))) [iV 0, iV 1, iV 2] [.unset, .val (.list C), .val (.list [iV A, iV B, iV D])] = some [iV i, iV j, iV l] :=
    comp3 (ev_bin (ev_bin (ev_item rfl rfl j4) (ev_item (ev_tup (ev_cons rfl (ev_pair rfl rfl)) (by exact hb3)) rfl rfl) d16) (ev_bin (ev_item rfl rfl i0) rfl n0) o0)
      (ev_bin (ev_bin (ev_item rfl rfl j4) (ev_item (ev_tup (ev_cons rfl (ev_pair rfl rfl)) (by exact hb3)) rfl rfl) d128) (ev_bin (ev_item rfl rfl i1) rfl n1) o1)
      (ev_bin (ev_bin (ev_item rfl rfl j4) (ev_item (ev_tup (ev_cons rfl (ev_pair rfl rfl)) (by exact hb3)) rfl rfl) d768) (ev_bin (ev_item rfl rfl i2) rfl n2) o2)
  have k0 : itemV (.list [iV i, iV j, iV l]) (.int ((0 : Nat) : Int)) = some (.int (i : Int)) := list_at _ (by show 3 ≤ 1000; decide) 0 _ rfl
  have k1 : itemV (.list [iV i, iV j, iV l]) (.int ((1 : Nat) : Int)) = some (.int (j : Int)) := list_at _ (by show 3 ≤ 1000; decide) 1 _ rfl
  have k2 : itemV (.list [iV i, iV j, iV l]) (.int ((2 : Nat) : Int)) = some (.int (l : Int)) := list_at _ (by show 3 ≤ 1000; decide) 2 _ rfl
  have s1 : ∀ n x : Nat, n ≤ 20 → binV .Add (.str (rp n x)) (.str [46, 46, 46]) = some (.str (rp n x ++ dots)) := fun n x h => str_add (by rw [rp_len]; simp only [List.length_cons, List.length_nil]; omega)
  have s2 : ∀ n x : Nat, n ≤ 20 → binV .Add (.str (rp n x ++ dots)) (.str (rp n x)) = some (.str (rp n x ++ dots ++ rp n x)) := fun n x h => str_add (by simp only [List.length_append, rp_len, List.length_cons, List.length_nil]; omega)
  have cw : compL (gName 0) fNil (dBin .Add (dBin .Add (dBin .Mult (dItem (dConst (.str [102, 115, 107])) (dLoc 0)) (dItem (dLoc 1) (dLoc 0))) (dConst (.str [46, 46, 46]))) (dBin .Mult (dItem (dConst (.str [102, 115, 107])) (dLoc 0)) (dItem (dLoc 1) (dLoc 0)))) [iV 0, iV 1, iV 2] [.unset, .val (.list [iV i, iV j, iV l])] = some [.str (rp i 102 ++ dots ++ rp i 102), .str (rp j 115 ++ dots ++ rp j 115), .str (rp l 107 ++ dots ++ rp l 107)] :=
    comp3 (ev_bin (ev_bin (ev_bin (ev_item rfl rfl rfl) (ev_item rfl rfl k0) (mul_str 102 i (by omega))) rfl (s1 _ _ (by omega))) (ev_bin (ev_item rfl rfl rfl) (ev_item rfl rfl k0) (mul_str 102 i (by omega))) (s2 _ _ (by omega)))
      (ev_bin (ev_bin (ev_bin (ev_item rfl rfl rfl) (ev_item rfl rfl k1) (mul_str 115 j (by omega))) rfl (s1 _ _ (by omega))) (ev_bin (ev_item rfl rfl rfl) (ev_item rfl rfl k1) (mul_str 115 j (by omega))) (s2 _ _ (by omega)))
      (ev_bin (ev_bin (ev_bin (ev_item rfl rfl rfl) (ev_item rfl rfl k2) (mul_str 107 l (by omega))) rfl (s1 _ _ (by omega))) (ev_bin (ev_item rfl rfl rfl) (ev_item rfl rfl k2) (mul_str 107 l (by omega))) (s2 _ _ (by omega)))
  have jn := want_join i j l (by omega) (by omega) (by omega)
  have ta : pEll [.str (wantF i j l), .str (rowF A B D c4)] = some (.bool (!decide (A < 2 * i) && (!decide (B < 2 * j) && !decide (D < 2 * l)))) := by
    have := take_all A (c4 % 4) B (c4 / 4 % 4) D i j l rl ⟨by omega, by omega, by omega⟩
    rw [le_not, le_not, le_not] at this
    exact this
  have ct : compL (gName 0) (tCmp .Gt (dBin .Mult (dConst (.int 2)) (dItem (dLoc 2) (dLoc 0))) (dItem (dLoc 1) (dLoc 0))) (dLoc 0) [iV 0, iV 1, iV 2] [.unset, .val (.list [iV A, iV B, iV D]), .val (.list [iV i, iV j, iV l])] = some (pick3 (decide (A < 2 * i)) (decide (B < 2 * j)) (decide (D < 2 * l))) :=
    comp3f (ev_test (ev_bin rfl (ev_item rfl rfl k0) (mul_two i (by omega))) (ev_item rfl rfl i0) (gt_nat (2 * i) A))
      (ev_test (ev_bin rfl (ev_item rfl rfl k1) (mul_two j (by omega))) (ev_item rfl rfl i1) (gt_nat (2 * j) B))
      (ev_test (ev_bin rfl (ev_item rfl rfl k2) (mul_two l (by omega))) (ev_item rfl rfl i2) (gt_nat (2 * l) D))
  have pn := pick3_nil (decide (A < 2 * i)) (decide (B < 2 * j)) (decide (D < 2 * l))
  have cg : compL (gName 0) fNil (dCall pTold (aCons (dLoc 0) (aNil))) (([0, 1, 2, 3, 4, 5, 6] : List Nat).map iV) [.unset] = some tolds :=
    comp_map_mem iV (fun k => iV (gN k)) _ [] [0, 1, 2, 3, 4, 5, 6] .unset fun k hk => ev_call (ev_one rfl) (by
      have k7 : k < 7 := by
        simp only [List.mem_cons, List.not_mem_nil, or_false] at hk
        omega
      show (toldN (k : Int).toNat).bind (fun r => if 0 ≤ (k : Int) then some (V.int (r : Int)) else none) = _
      rw [Int.toNat_natCast, gN_is k k7, Option.bind_some, if_pos (by omega)]
      rfl)
  have nD : binV .Add (.int (D : Int)) (.int 1) = some (.int ((D + 1 : Nat) : Int)) := nat_add D 1
  have nB : binV .Add (.int (B : Int)) (.int 1) = some (.int ((B + 1 : Nat) : Int)) := nat_add B 1
  have nA : binV .Add (.int (A : Int)) (.int 1) = some (.int ((A + 1 : Nat) : Int)) := nat_add A 1
  have nW := nat_mul (D + 1) (B + 1) (by omega)
  have itA : iterV (.rng 0 ((A + 1 : Nat) : Int)) = some ((List.range' 0 (A + 1)).map iV) := by
    rw [← List.range_eq_range']
    exact rng_zero (by omega)
  generalize hty : p0 ++ rp (c4 % 4) 34 ++ p1 ++ rp (c4 / 4 % 4) 34 ++ p2 = ty at *
  generalize hrw : rowF A B D c4 = rw' at *
  generalize hwf : wantF i j l = wf at *
  obtain ⟨x', y', z', t', lp⟩ := loop_a H (.val (.list (L.map V.int))) (.val (.list C)) (.val (.list [.str p0, .str p1, .str p2])) (.val (.str ty)) (.val (.str rw')) (.val (.list [iV i, iV j, iV l])) (.val (.str wf)) (A + 1) 0 .unset .unset .unset .unset (by omega)
  show (dLaw [.val (.list (L.map V.int)), .unset, .unset, .unset, .unset, .unset, .unset, .unset, .unset, .unset, .unset, .unset, .unset, .unset, .unset, .unset, .unset]).bind outV = _
  have st : dLaw [.val (.list (L.map V.int)), .unset, .unset, .unset, .unset, .unset, .unset, .unset, .unset, .unset, .unset, .unset, .unset, .unset, .unset, .unset, .unset] = some (.ret (.bool true) (stL A B D (.val (.list (L.map V.int))) (.val (.list C)) (.val (.list [.str p0, .str p1, .str p2])) (.val (.str ty)) (.val (.str rw')) (.val (.list [iV i, iV j, iV l])) (.val (.str wf)) (A + 1) 0 0 x' y' z' t')) := by
    refine ev_nextc (ev_asg (ev_compP (ev_tup (ev_cons rfl (ev_cons rfl (ev_cons rfl (ev_cons rfl (ev_cons rfl (ev_cons rfl ev_nil)))))) (by exact hb6)) (by exact hb6) rfl hc)) ?_
    refine ev_nextc (ev_asg (ev_list (ev_cons (ev_bin (ev_item rfl rfl j0) rfl mA) (ev_cons (ev_bin (ev_item rfl rfl j1) rfl mB) (ev_cons (ev_bin (ev_item rfl rfl j2) rfl mD) ev_nil))) (by exact hb3))) ?_
    refine ev_nextc (ev_asg (ev_comp (ev_call (ev_one rfl) rfl) rng3 (by exact hb3) rfl cp)) ?_
    refine ev_nextc (ev_asg (ev_bin (ev_bin (ev_bin (ev_bin (ev_item rfl rfl u0) (ev_bin rfl (ev_bin (ev_item rfl rfl j4) rfl m4) q1) a1) (ev_item rfl rfl u1) a2) (ev_bin rfl (ev_bin (ev_bin (ev_item rfl rfl j4) rfl d4) rfl m44) q2) a3) (ev_item rfl rfl u2) a4)) ?_
    refine ev_nextc (ev_asg (ev_call (ev_pair rfl (ev_item rfl rfl j4)) e1)) ?_
    refine ev_nextc (ev_asg (ev_call (ev_pair rfl (ev_item rfl rfl j4)) e2)) ?_
    refine ev_nextc ((ev_sif_f (ev_or_f (ev_test rfl rfl rfl) (ev_or_f (ev_not (ev_val (ev_call (ev_cons rfl (ev_pair rfl (ev_item rfl rfl j5))) e3) rfl)) rfl))).trans rfl) ?_
    refine ev_nextc (ev_asg (ev_comp (ev_call (ev_one rfl) rfl) rng3 (by exact hb3) rfl cc)) ?_
    refine ev_nextc (ev_asg (ev_meth rfl (ev_one (ev_comp (ev_call (ev_one rfl) rfl) rng3 (by exact hb3) rfl cw)) jn)) ?_
    refine ev_nextc ((ev_sif_f (ev_test (ev_call (ev_pair rfl rfl) ta) (ev_cmp (ev_comp (ev_call (ev_one rfl) rfl) rng3 (by exact hb3) rfl ct) (ev_list ev_nil (Nat.zero_le _)) pn) (isnot_same _))).trans rfl) ?_
    refine ev_nextc (ev_asg (ev_comp (ev_call (ev_one rfl) rfl) rng7 (big_of (by decide)) rfl cg)) ?_
    refine ev_nextc (ev_asg (ev_bin (ev_item rfl rfl i2) rfl nD)) ?_
    refine ev_nextc (ev_asg (ev_bin rfl (ev_bin (ev_item rfl rfl i1) rfl nB) nW)) ?_
    refine ev_nextc (σ1 := stL A B D (.val (.list (L.map V.int))) (.val (.list C)) (.val (.list [.str p0, .str p1, .str p2])) (.val (.str ty)) (.val (.str rw')) (.val (.list [iV i, iV j, iV l])) (.val (.str wf)) 0 0 0 .unset .unset .unset .unset) rfl ?_
    refine ev_nextc ((ev_for (ev_call (ev_one (ev_bin (ev_item rfl rfl i0) rfl nA)) rfl) itA).trans lp) ?_
    exact ev_seq_ret (ev_ret rfl)
  rw [st]
  rfl
end Mine
end
-- part Y2y
set_option maxRecDepth 100000
noncomputable section
namespace Mine
open PySem PySem.W PySem.Calls PyProof.Rows PySem.Spec PySem.SeqAt PyProof.V
theorem walk2 : ∀ d kwd, defOf qV rwL.row.name = some (d, kwd) → WalkO qV looseV (XL qV []) (Hook.says hkF) rwL.row.toRowW d kwd fun f vs => PySem.call f vs := by
  intro d kwd hdef w s₀ s₁ mg mb G Y fa o pm cd doc dV kV ho hd hcd hD hmg hg args vals as hpre hlay hrd hwl hlo
  have T := G.T
  have F : F3 w s₁.heap := ⟨⟨rfl, T.nolimit, T.seer (by decide +kernel), ⟨mg, T.g⟩⟩, kIn_of Y, ⟨mg, T.g⟩, ⟨mb, T.b, T.builtins⟩⟩
  have hl : mg "law" = some (.ref 162) := mg_of F.kin T.g (by kernel_rfl)
  have hn := defOf_name hdef
  rw [hn] at hmg
  have hfa : fa = 162 := by
    have : mg "law" = some (.ref fa) := hmg
    rw [hl] at this
    cases this; rfl
  subst hfa
  have hp := hpre
  wrow_args hpre hlay hrd hwl hlo
  rename_i L _ _ _ _ _ _ _ a vs _ hList _ _ _ hI _ hlen _
  obtain ⟨ob, hob, hoc, n, hod⟩ := hList
  have hL63 : L.length ≤ 63 := by omega
  have rvs : ∀ (g : GP) (vs : List Value) (L : List Int), IntsAre vs L → RVs g (L.map V.int) vs := by
    intro g vs L h
    induction h with
    | nil => rfl
    | cons _ _ _ ih => exact ⟨_, _, rfl, ⟨_, rfl⟩, ih⟩
  have hA : AOkF 5 callerA := ⟨rfl, by decide, by decide, [], rfl⟩
  refine wLaw F callerA _ _ s₁ (gput (fun _ => none) a ob) [.ref a] [.list (L.map V.int)] (.bool true) hA rfl (.refl _) (fun b o' e => ?_) ⟨_, _, rfl, ⟨a, vs, rfl, ⟨ob, gput_self, hoc, n, hod⟩, rvs _ _ _ hI⟩, rfl⟩ (law_eval L hL63) fun v h' tk g' hgrow hv => ?_
  · unfold gput at e
    split at e
    · rename_i q
      subst q
      cases e
      exact ⟨hob, .inl ⟨_, _, hod⟩⟩
    · cases e
  · have hv' : v = .bool true := hv
    subst hv'
    exact GoodW.toG ⟨.inl ⟨_, .bool true, [], rfl, fun _ => rfl, .bool true, postW_of (r := rwL.row.toRowW) (X := true) (by wrow_shape) (by simp [OpenRow.toRowW, OpenLaw.row, WTm.value]; exact W.same_self _) rfl, fun _ => ⟨List.nodup_nil, fun _ h => nomatch h⟩⟩, hgrow, rfl, hg⟩
theorem done2 : rwL.Holds := head walk2
end Mine
end
theorem PySem.Challenge.cw_ux0025_02_holds : PySem.Challenge.rw_ux0025_02.Holds :=
  Mine.done2
