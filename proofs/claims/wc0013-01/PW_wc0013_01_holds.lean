import PyProof.Rows.All
import Wide.All
import OpenK.AllK
import Wide.FinOn
import Lean
import PySem.Challenge.RW_wc0013_01
set_option Elab.async false
set_option maxRecDepth 100000
set_option linter.all false

namespace WC
open PySem PySem.W PySem.Calls PyProof.Rows

/-! a run told to the sign: from s the tree gives a and leaves s' -/
section ex
variable {prog : Program} {w : World} {A : Around} {α β : Type}

noncomputable def Ex (prog : Program) (w : World) (A : Around) {α : Type} (m : Sem α) (s : Shared) (a : α) (s' : Shared) : Prop :=
  ∀ (Q : α → Shared → Prop) (E : Value → Shared → Prop), Q a s' → wpAny (model prog w) A m Q E s

theorem Ex.ret {a : α} {s : Shared} : Ex prog w A (Pure.pure a : Sem α) s a s := fun _ _ h => wpAny_pure h
theorem Ex.bind {m : Sem α} {f : α → Sem β} {s s₁ s₂ : Shared} {a : α} {b : β} (h₁ : Ex prog w A m s a s₁) (h₂ : Ex prog w A (f a) s₁ b s₂) : Ex prog w A (m >>= f) s b s₂ :=
  fun Q E h => wpAny_bind (h₁ _ _ (h₂ _ _ h))
theorem Ex.hold {vs : List Value} {m : Sem α} {s s' : Shared} {a : α} (h : Ex prog w A m s a s') : Ex prog w A (holding vs m) s a s' := fun Q E q => wpAny_holding (h Q E q)
theorem Ex.rule {tag : String} {s : Shared} : Ex prog w A (PySem.rule tag) s () s := fun _ _ h => wpAny_rule h
theorem Ex.stand {p : Pos} {s : Shared} : Ex prog w A (standAt p) s () s := fun _ _ h => wpAny_standAt h

/-- a heap with objects laid behind it -/
noncomputable def App (H : Heap) (l : List Obj) : Heap := ⟨H.objs ++ l.toArray, H.life⟩
theorem App_nil (H : Heap) : App H [] = H := by cases H; simp [App]
theorem App_push (H : Heap) (l : List Obj) (o : Obj) : (App H l).push o = App H (l ++ [o]) := by
  cases H; simp [App, Heap.push]
theorem App_size (H : Heap) (l : List Obj) : (App H l).objs.size = H.objs.size + l.length := by simp [App]
theorem App_at (H : Heap) (l : List Obj) (k : Nat) : (App H l).objs[H.objs.size + k]? = l[k]? := by
  have : ¬ H.objs.size + k < H.objs.size := by omega
  simp [App, Array.getElem?_append, this]
theorem App_get {H : Heap} {l : List Obj} {k : Nat} {o : Obj} (h : l[k]? = some o) (hf : o.isFreed = false) : (App H l).get? (H.objs.size + k) = some o := by
  unfold Heap.get?
  rw [App_at, h]
  obtain ⟨c, d, dt, sl⟩ := o
  cases dt <;> first | rfl | cases hf
theorem App_update (H : Heap) (l : List Obj) (k : Nat) (f : Obj → Obj) : (App H l).update (H.objs.size + k) f = App H (l.modify k f) := by
  show Heap.mk ((H.objs ++ l.toArray).modify (H.objs.size + k) f) H.life = Heap.mk (H.objs ++ (l.modify k f).toArray) H.life
  refine congrArg (Heap.mk · H.life) (Array.ext_getElem? fun i => ?_)
  rw [Array.getElem?_modify, Array.getElem?_append, Array.getElem?_append]
  simp only [List.getElem?_toArray, List.getElem?_modify]
  by_cases h : i < H.objs.size
  · simp only [h, if_true]
    have : ¬ H.objs.size + k = i := by omega
    simp [this]
  · simp only [h, if_false]
    by_cases e : H.objs.size + k = i
    · subst e; simp
    · have : ¬ k = i - H.objs.size := by omega
      simp [e, this]

noncomputable abbrev dObj (es : List DictEntry) (n : Nat) : Obj := { cls := .type "dict", data := .dict es.toArray n }

/-- the state with objects laid behind, and its tokens -/
noncomputable abbrev At (s : Shared) (H : Heap) (l : List Obj) (tk : Nat) : Shared := { s with heap := App H l, toks := tk }

inductive Two {γ δ : Type} (R : γ → δ → Prop) : List γ → List δ → Prop
  | nil : Two R [] []
  | cons {a b l m} : R a b → Two R l m → Two R (a :: l) (b :: m)
theorem Two.length {γ δ : Type} {R : γ → δ → Prop} {l : List γ} {m : List δ} (h : Two R l m) : l.length = m.length := by
  induction h with
  | nil => rfl
  | cons _ _ ih => simp [ih]
theorem Two.split {γ δ : Type} {R : γ → δ → Prop} {l : List γ} {m₁ m₂ : List δ} (h : Two R l (m₁ ++ m₂)) : ∃ l₁ l₂, l = l₁ ++ l₂ ∧ Two R l₁ m₁ ∧ Two R l₂ m₂ := by
  induction m₁ generalizing l with
  | nil => exact ⟨[], l, rfl, .nil, h⟩
  | cons b m ih =>
    cases h with
    | cons r h =>
      obtain ⟨l₁, l₂, rfl, h₁, h₂⟩ := ih h
      exact ⟨_ :: l₁, l₂, rfl, .cons r h₁, h₂⟩

/-- the entries of a long display's piece: key, text, hash take a token each, in turn -/
noncomputable def entL (t : Nat) : List (Int × Str) → List DictEntry
  | [] => []
  | p :: r => ⟨hashInt p.1, .int p.1 t, .str p.2 (t + 1)⟩ :: entL (t + 3) r
/-- the entries of a short display's piece: the pairs first, then the hashes -/
noncomputable def entS (t : Nat) : List (Int × Str) → List DictEntry
  | [] => []
  | p :: r => ⟨hashInt p.1, .int p.1 t, .str p.2 (t + 1)⟩ :: entS (t + 2) r
theorem entL_length : ∀ (ps : List (Int × Str)) (t : Nat), (entL t ps).length = ps.length
  | [], _ => rfl
  | _ :: r, t => by simp [entL, entL_length r]
theorem entS_length : ∀ (ps : List (Int × Str)) (t : Nat), (entS t ps).length = ps.length
  | [], _ => rfl
  | _ :: r, t => by simp [entS, entS_length r]

/-- all keys are ints under k -/
noncomputable def Under (es : List DictEntry) (k : Int) : Prop := ∀ e ∈ es, ∃ j t, e.key = .int j t ∧ e.hash = hashInt j ∧ j < k
theorem Under.nil {k : Int} : Under [] k := fun _ h => nomatch h
theorem Under.le {es : List DictEntry} {k k' : Int} (h : Under es k) (l : k ≤ k') : Under es k' := fun e he => let ⟨j, t, a, b, c⟩ := h e he; ⟨j, t, a, b, by omega⟩
theorem Under.snoc {es : List DictEntry} {k k' : Int} {t : Nat} {v : Value} (h : Under es k) (l : k < k') : Under (es ++ [⟨hashInt k, .int k t, v⟩]) k' := fun e he => by
  rcases List.mem_append.mp he with q | q
  · exact h.le (by omega) e q
  · obtain rfl := List.mem_singleton.mp q
    exact ⟨k, t, rfl, rfl, l⟩
theorem Under.ints {es : List DictEntry} {k : Int} (h : Under es k) : IntKeys es.toArray := fun e he => let ⟨j, t, a, b, _⟩ := h e (by simpa using he); ⟨j, t, a, b⟩
theorem Under.none {es : List DictEntry} {k : Int} (h : Under es k) : (es.toArray.findIdx? fun e => Value.isInt k e.key) = Option.none := by
  rw [Array.findIdx?_eq_none_iff]
  intro e he
  obtain ⟨j, t, a, _, c⟩ := h e (by simpa using he)
  rw [a]
  show (j == k) = false
  exact beq_eq_false_iff_ne.mpr (by omega)

variable {s : Shared} {H : Heap}

theorem ex_find {l : List Obj} {tk c n : Nat} {es : List DictEntry} {i : Int} {t : Nat} (hd : l[c]? = some (dObj es n)) (hu : Under es i) :
    Ex prog w A (dictFind (H.objs.size + c) (.int i t) (hashInt i)) (At s H l tk) none (At s H l tk) := fun Q E q =>
  wpAny_dictFind_int (s := At s H l tk) (App_get hd rfl) rfl hu.ints (by rw [hu.none]; exact q)

theorem ex_push {l : List Obj} {tk c n : Nat} {es : List DictEntry} {e : DictEntry} {part : Option Value} (hd : l[c]? = some (dObj es n)) (hz : es.length ≤ 10000) :
    Ex prog w A (updateDictKeys (H.objs.size + c) (·.push e) part) (At s H l tk) () (At s H (l.set c (dObj (es ++ [e]) (n + 1))) tk) := fun Q E q => by
  refine wpAny_updateDictKeys (s := At s H l tk) (App_get hd rfl) rfl ?_ (by rw [List.size_toArray, sizeLine_eq]; omega) (by simp)
  show Q () { s with heap := (App H l).update (H.objs.size + c) _, toks := tk }
  rw [App_update]
  have : l.modify c (Obj.mapDictKeys fun x => x.push e) = l.set c (dObj (es ++ [e]) (n + 1)) := by
    apply List.ext_getElem?
    intro i
    rw [List.getElem?_modify, List.getElem?_set]
    by_cases q : c = i
    · subst q
      rw [hd]
      simp [Obj.mapDictKeys, dObj, (List.getElem?_eq_some_iff.mp hd).1]
    · simp [q]
  rw [this]
  exact q

theorem ex_setHashed {l : List Obj} {tk c n : Nat} {es : List DictEntry} {i : Int} {t : Nat} {v : Value} (hd : l[c]? = some (dObj es n)) (hu : Under es i) (hz : es.length ≤ 10000) :
    Ex prog w A (dictSetHashed (H.objs.size + c) (.int i t) (hashInt i) v) (At s H l tk) () (At s H (l.set c (dObj (es ++ [⟨hashInt i, .int i t, v⟩]) (n + 1))) tk) := by
  unfold dictSetHashed
  refine Ex.hold (Ex.bind (ex_find hd hu) ?_)
  exact Ex.bind Ex.rule (ex_push hd hz)

theorem ex_set {l : List Obj} {tk c n : Nat} {es : List DictEntry} {i : Int} {t : Nat} {v : Value} (hd : l[c]? = some (dObj es n)) (hu : Under es i) (hz : es.length ≤ 10000) :
    Ex prog w A (dictSet (H.objs.size + c) (.int i t) v) (At s H l tk) () (At s H (l.set c (dObj (es ++ [⟨hashInt i, .int i t, v⟩]) (n + 1))) (tk + 1)) := by
  unfold dictSet
  refine Ex.hold (Ex.bind (s₁ := At s H l (tk + 1)) (fun Q E q => wpAny_pyHash_int (s := At s H l tk) q) (ex_setHashed hd hu hz))

theorem ex_put {l : List Obj} {tk c n : Nat} {es : List DictEntry} {i : Int} {t : Nat} {v : Value} (hd : l[c]? = some (dObj es n)) (hu : Under es i) (hz : es.length ≤ 10000) :
    Ex prog w A (dictPut (H.objs.size + c) (hashInt i) (.int i t) v) (At s H l tk) () (At s H (l.set c (dObj (es ++ [⟨hashInt i, .int i t, v⟩]) (n + 1))) tk) := by
  unfold dictPut
  exact Ex.bind (ex_find hd hu) (ex_push hd hz)

/-- what a pair's two trees give: the int, the text -/
noncomputable def PairIs (prog : Program) (w : World) (A : Around) (p : Sem Value × Sem Value) (q : Int × Str) : Prop :=
  (∀ s : Shared, Ex prog w A p.1 s (.int q.1 s.toks) { s with toks := s.toks + 1 }) ∧ ∀ s : Shared, Ex prog w A p.2 s (.str q.2 s.toks) { s with toks := s.toks + 1 }

/-- rising keys, from above k on -/
noncomputable def Rises (k : Int) : List (Int × Str) → Prop
  | [] => True
  | p :: r => k < p.1 ∧ Rises p.1 r
theorem set_set {γ : Type} (l : List γ) (c : Nat) (a b : γ) : (l.set c a).set c b = l.set c b := by simp
theorem set_get {γ : Type} {l : List γ} {c : Nat} {a b : γ} (h : l[c]? = some a) : (l.set c b)[c]? = some b := by
  have := (List.getElem?_eq_some_iff.mp h).1
  simp [this]

theorem ex_fillL {c : Nat} (s : Shared) : ∀ {pairs : List (Sem Value × Sem Value)} {ps : List (Int × Str)} (_ : Two (PairIs prog w A) pairs ps) {l : List Obj} {tk n : Nat} {es : List DictEntry} {k : Int}
    (_ : l[c]? = some (dObj es n)) (_ : Under es (k + 1)) (_ : Rises k ps) (_ : es.length + ps.length ≤ 10000),
    Ex prog w A (forIn pairs PUnit.unit fun (x : Sem Value × Sem Value) (_ : PUnit) => (do
        let kv ← x.1
        let vv ← holding [kv] x.2
        holding [kv, vv] (dictSet (H.objs.size + c) kv vv)
        pure (ForInStep.yield PUnit.unit) : Sem (ForInStep PUnit))) (At s H l tk) PUnit.unit (At s H (l.set c (dObj (es ++ entL tk ps) (n + ps.length))) (tk + 3 * ps.length))
  | _, _, .nil, l, tk, n, es, k, hd, hu, hr, hz => by
    rw [List.forIn_nil]
    have e : l.set c (dObj (es ++ entL tk []) (n + ([] : List (Int × Str)).length)) = l := by
      have : l.set c (dObj es n) = l := by
        apply List.ext_getElem?
        intro i
        rw [List.getElem?_set]
        by_cases q : c = i
        · subst q; rw [hd]; simp [(List.getElem?_eq_some_iff.mp hd).1]
        · simp [q]
      simpa [entL] using this
    rw [e]
    exact Ex.ret
  | (a, b) :: pairs, (i, x) :: ps, .cons r h, l, tk, n, es, k, hd, hu, hr, hz => by
    rw [List.forIn_cons]
    obtain ⟨r1, r2⟩ := r
    obtain ⟨q1, q2⟩ := hr
    have q1 : k < i := q1
    simp only [List.length_cons] at hz
    refine Ex.bind (s₁ := At s H (l.set c (dObj (es ++ [⟨hashInt i, .int i tk, .str x (tk + 1)⟩]) (n + 1))) (tk + 3)) (a := ForInStep.yield PUnit.unit) ?_ ?_
    · refine Ex.bind (r1 (At s H l tk)) ?_
      refine Ex.bind (Ex.hold (r2 (At s H l (tk + 1)))) ?_
      refine Ex.bind (Ex.hold (ex_set (tk := tk + 2) hd (hu.le (by omega)) (by omega))) Ex.ret
    · have := ex_fillL s h (l := l.set c (dObj (es ++ [⟨hashInt i, .int i tk, .str x (tk + 1)⟩]) (n + 1))) (tk := tk + 3) (n := n + 1) (k := i) (set_get hd) (Under.snoc (hu.le (by omega)) (by omega)) q2
        (by simp; omega)
      rw [set_set, List.append_assoc] at this
      simpa [entL, Nat.add_assoc, Nat.add_comm, Nat.mul_add, Nat.add_left_comm] using this

theorem ex_evalPairs (s : Shared) : ∀ {pairs : List (Sem Value × Sem Value)} {ps : List (Int × Str)} (_ : Two (PairIs prog w A) pairs ps) {l : List Obj} {tk : Nat},
    Ex prog w A (evalPairs pairs) (At s H l tk) ((entS tk ps).map fun e => (e.key, e.val)) (At s H l (tk + 2 * ps.length))
  | _, _, .nil, l, tk => Ex.ret
  | (a, b) :: pairs, (i, x) :: ps, .cons r h, l, tk => by
    rw [evalPairs]
    obtain ⟨r1, r2⟩ := r
    refine Ex.bind (r1 (At s H l tk)) ?_
    refine Ex.bind (Ex.hold (r2 (At s H l (tk + 1)))) ?_
    have := ex_evalPairs s h (l := l) (tk := tk + 2)
    refine Ex.bind (Ex.hold this) ?_
    simp only [entS, List.map_cons, List.length_cons]
    rw [show tk + 2 * (ps.length + 1) = tk + 2 + 2 * ps.length by omega]
    exact Ex.ret

theorem ex_storeS {c : Nat} (s : Shared) : ∀ (ps : List (Int × Str)) {t : Nat} {l : List Obj} {tk n : Nat} {es : List DictEntry} {k : Int}
    (_ : l[c]? = some (dObj es n)) (_ : Under es (k + 1)) (_ : Rises k ps) (_ : es.length + ps.length ≤ 10000),
    Ex prog w A (forIn ((entS t ps).map fun e => (e.key, e.val)) PUnit.unit fun (x : Value × Value) (_ : PUnit) => (do
        dictSet (H.objs.size + c) x.1 x.2
        pure (ForInStep.yield PUnit.unit) : Sem (ForInStep PUnit))) (At s H l tk) PUnit.unit (At s H (l.set c (dObj (es ++ entS t ps) (n + ps.length))) (tk + ps.length))
  | [], t, l, tk, n, es, k, hd, hu, hr, hz => by
    rw [show (entS t []).map (fun e => (e.key, e.val)) = [] from rfl, List.forIn_nil]
    have e : l.set c (dObj (es ++ entS t []) (n + ([] : List (Int × Str)).length)) = l := by
      have : l.set c (dObj es n) = l := by
        apply List.ext_getElem?
        intro i
        rw [List.getElem?_set]
        by_cases q : c = i
        · subst q; rw [hd]; simp [(List.getElem?_eq_some_iff.mp hd).1]
        · simp [q]
      simpa [entS] using this
    rw [e]
    exact Ex.ret
  | (i, x) :: ps, t, l, tk, n, es, k, hd, hu, hr, hz => by
    rw [show (entS t ((i, x) :: ps)).map (fun e => (e.key, e.val)) = (.int i t, .str x (t + 1)) :: (entS (t + 2) ps).map (fun e => (e.key, e.val)) from rfl, List.forIn_cons]
    obtain ⟨q1, q2⟩ := hr
    have q1 : k < i := q1
    simp only [List.length_cons] at hz
    refine Ex.bind (s₁ := At s H (l.set c (dObj (es ++ [⟨hashInt i, .int i t, .str x (t + 1)⟩]) (n + 1))) (tk + 1)) (a := ForInStep.yield PUnit.unit) ?_ ?_
    · exact Ex.bind (ex_set (tk := tk) hd (hu.le (by omega)) (by omega)) Ex.ret
    · have := ex_storeS s ps (t := t + 2) (l := l.set c (dObj (es ++ [⟨hashInt i, .int i t, .str x (t + 1)⟩]) (n + 1))) (tk := tk + 1) (n := n + 1) (k := i) (set_get hd) (Under.snoc (hu.le (by omega)) (by omega)) q2
        (by simp; omega)
      rw [set_set, List.append_assoc] at this
      simpa [entS, Nat.add_assoc, Nat.add_comm, Nat.mul_add, Nat.add_left_comm] using this

theorem last_get {γ : Type} (l : List γ) (a : γ) : (l ++ [a])[l.length]? = some a := by simp
theorem last_set {γ : Type} (l : List γ) (a b : γ) : (l ++ [a]).set l.length b = l ++ [b] := by
  rw [List.set_append_right _ _ (Nat.le_refl _)]; simp

theorem ex_subL {pairs : List (Sem Value × Sem Value)} {ps : List (Int × Str)} (h : Two (PairIs prog w A) pairs ps) (hl : ps.length = 17) {l : List Obj} {tk : Nat} {k : Int} (hr : Rises k ps) :
    Ex prog w A (subDict pairs) (At s H l tk) (H.objs.size + l.length) (At s H (l ++ [dObj (entL tk ps) ps.length]) (tk + 3 * ps.length)) := by
  unfold subDict
  refine Ex.bind (s₁ := At s H (l ++ [dObj [] 0]) tk) (a := H.objs.size + l.length) (fun Q E q => wpAny_alloc ?_) ?_
  · show Q (App H l).objs.size { s with heap := (App H l).push _, toks := tk }
    rw [App_size, App_push]; exact q
  · refine Ex.bind (s₁ := At s H (l ++ [dObj (entL tk ps) ps.length]) (tk + 3 * ps.length)) (a := ()) (Ex.hold ?_) Ex.ret
    rw [if_neg (by rw [h.length, hl]; decide)]
    refine Ex.bind Ex.rule ?_
    have := ex_fillL (H := H) s h (c := l.length) (l := l ++ [dObj [] 0]) (tk := tk) (n := 0) (es := []) (k := k) (last_get _ _) Under.nil hr (by rw [hl]; decide)
    rw [last_set] at this
    simp only [List.nil_append, Nat.zero_add] at this
    exact Ex.bind this Ex.ret

theorem ex_subS {pairs : List (Sem Value × Sem Value)} {ps : List (Int × Str)} (h : Two (PairIs prog w A) pairs ps) (hl : ps.length ≤ 15) {l : List Obj} {tk : Nat} {k : Int} (hr : Rises k ps) :
    Ex prog w A (subDict pairs) (At s H l tk) (H.objs.size + l.length) (At s H (l ++ [dObj (entS tk ps) ps.length]) (tk + 3 * ps.length)) := by
  unfold subDict
  refine Ex.bind (s₁ := At s H (l ++ [dObj [] 0]) tk) (a := H.objs.size + l.length) (fun Q E q => wpAny_alloc ?_) ?_
  · show Q (App H l).objs.size { s with heap := (App H l).push _, toks := tk }
    rw [App_size, App_push]; exact q
  · refine Ex.bind (s₁ := At s H (l ++ [dObj (entS tk ps) ps.length]) (tk + 3 * ps.length)) (a := ()) (Ex.hold ?_) Ex.ret
    rw [if_pos (by rw [h.length]; exact hl)]
    refine Ex.bind (ex_evalPairs s h) (Ex.hold ?_)
    have := ex_storeS (A := A) (prog := prog) (w := w) (H := H) s ps (t := tk) (c := l.length) (l := l ++ [dObj [] 0]) (tk := tk + 2 * ps.length) (n := 0) (es := []) (k := k) (last_get _ _) Under.nil hr (by simp only [List.length_nil]; omega)
    rw [last_set] at this
    simp only [List.nil_append, Nat.zero_add] at this
    rw [show tk + 3 * ps.length = tk + 2 * ps.length + ps.length by omega]
    exact Ex.bind this Ex.ret
end ex
end WC

namespace WC
open PySem PySem.W PySem.Calls PyProof.Rows
section ex
variable {prog : Program} {w : World} {A : Around} {α β : Type}
variable {H : Heap}

theorem typeIs_dObj {s : Shared} {l : List Obj} {tk c n : Nat} {es : List DictEntry} (hd : l[c]? = some (dObj es n)) : (At s H l tk).TypeIs (.ref (H.objs.size + c)) "dict" := ⟨_, App_get hd rfl, rfl⟩

theorem Ex.onRaise {m : Sem α} {k : Value → Sem Unit} {s s' : Shared} {a : α} (h : Ex prog w A m s a s') : Ex prog w A (m.onRaise k) s a s' := fun Q E q =>
  wpAny_onRaise (h Q _ q)

theorem ex_entries (s : Shared) {l : List Obj} {tk c n : Nat} {es : List DictEntry} {part : Option Value} (hd : l[c]? = some (dObj es n)) : Ex prog w A (dictEntries (H.objs.size + c) part) (At s H l tk) es.toArray (At s H l tk) := fun Q E q =>
  wpAny_dictEntries (s := At s H l tk) (App_get hd rfl) rfl q
theorem ex_epoch (s : Shared) {l : List Obj} {tk c n : Nat} {es : List DictEntry} {part : Option Value} (hd : l[c]? = some (dObj es n)) : Ex prog w A (dictEpoch (H.objs.size + c) part) (At s H l tk) n (At s H l tk) := fun Q E q =>
  wpAny_dictEpoch (s := At s H l tk) (App_get hd rfl) rfl q

/-- the entries rise from k on -/
noncomputable def ERises (k : Int) : List DictEntry → Prop
  | [] => True
  | e :: r => ∃ i t, e.key = .int i t ∧ e.hash = hashInt i ∧ k < i ∧ ERises i r

theorem entL_rises : ∀ (ps : List (Int × Str)) (t : Nat) (k : Int), Rises k ps → ERises k (entL t ps)
  | [], _, _, _ => trivial
  | p :: r, t, k, h => ⟨p.1, t, rfl, rfl, h.1, entL_rises r _ _ h.2⟩
theorem entS_rises : ∀ (ps : List (Int × Str)) (t : Nat) (k : Int), Rises k ps → ERises k (entS t ps)
  | [], _, _, _ => trivial
  | p :: r, t, k, h => ⟨p.1, t, rfl, rfl, h.1, entS_rises r _ _ h.2⟩

theorem range_cons (i n : Nat) (h : i < n) : List.range' i (n - i) = i :: List.range' (i + 1) (n - (i + 1)) := by
  have e : n - i = (n - (i + 1)) + 1 := by omega
  rw [e, List.range'_succ]

theorem ex_mergeLoop {c d : Nat} (hcd : c ≠ d) (s : Shared) {src : List DictEntry} {ne : Nat} {tk : Nat} : ∀ (rest : List DictEntry) (i : Nat) (_ : src.drop i = rest) {l : List Obj} {n : Nat} {es : List DictEntry} {k : Int}
    (_ : l[c]? = some (dObj es n)) (_ : l[d]? = some (dObj src ne)) (_ : Under es (k + 1)) (_ : ERises k rest) (_ : es.length + rest.length ≤ 10000)
    (f : Nat → PUnit → Sem (ForInStep PUnit)) (_ : ∀ j, f j PUnit.unit = (do
        let l' ← dictEntries (H.objs.size + d)
        match l'[j]? with
          | some e => do
            holding [e.key, e.val] (dictPut (H.objs.size + c) e.hash e.key e.val)
            let ep' ← dictEpoch (H.objs.size + d)
            if (ep' != ne) = true then do
                (unsupported "dict.changed-during-merge" : Sem PUnit)
                pure (ForInStep.yield PUnit.unit)
              else pure (ForInStep.yield PUnit.unit)
          | _ => unsupported "dict.changed-during-merge" : Sem (ForInStep PUnit))),
    Ex prog w A (forIn (List.range' i (src.length - i)) PUnit.unit f) (At s H l tk) PUnit.unit (At s H (l.set c (dObj (es ++ rest) (n + rest.length))) tk)
  | [], i, hrest, l, n, es, k, hc, hd, hu, hr, hz, f, hf => by
    have : src.length - i = 0 := by
      have := congrArg List.length hrest
      rw [List.length_drop] at this; simpa using this
    rw [this]
    show Ex prog w A (forIn [] PUnit.unit f) _ _ _
    rw [List.forIn_nil]
    have e : l.set c (dObj (es ++ []) (n + ([] : List DictEntry).length)) = l := by
      rw [List.append_nil, List.length_nil, Nat.add_zero]
      apply List.ext_getElem?
      intro j
      rw [List.getElem?_set]
      by_cases q : c = j
      · subst q; rw [hc]; simp [(List.getElem?_eq_some_iff.mp hc).1]
      · simp [q]
    rw [e]
    exact Ex.ret
  | e :: rest, i, hrest, l, n, es, k, hc, hd, hu, hr, hz, f, hf => by
    have hlt : i < src.length := by
      have := congrArg List.length hrest
      rw [List.length_drop, List.length_cons] at this; omega
    have hget : src[i]? = some e := by
      have := congrArg (·[0]?) hrest
      simpa using this
    have hrest' : src.drop (i + 1) = rest := by
      have := congrArg List.tail hrest
      simpa using this
    obtain ⟨j, t, e1, e2, e3, e4⟩ := hr
    simp only [List.length_cons] at hz
    rw [range_cons i _ hlt, List.forIn_cons, hf]
    obtain ⟨eh, ek, ev⟩ := e
    dsimp only at e1 e2
    subst e1 e2
    refine Ex.bind (s₁ := At s H (l.set c (dObj (es ++ [⟨hashInt j, .int j t, ev⟩]) (n + 1))) tk) (a := ForInStep.yield PUnit.unit) ?_ ?_
    · refine Ex.bind (ex_entries s hd) ?_
      rw [show src.toArray[i]? = some ⟨hashInt j, .int j t, ev⟩ by simpa using hget]
      refine Ex.bind (Ex.hold (ex_put hc (hu.le (by omega)) (by omega))) ?_
      refine Ex.bind (ex_epoch s (n := ne) (es := src) (by rw [List.getElem?_set_ne hcd]; exact hd)) ?_
      rw [if_neg (by simp)]
      exact Ex.ret
    · have := ex_mergeLoop hcd s (tk := tk) rest (i + 1) hrest' (l := l.set c (dObj (es ++ [⟨hashInt j, .int j t, ev⟩]) (n + 1))) (n := n + 1) (k := j) (set_get hc) (by rw [List.getElem?_set_ne hcd]; exact hd)
        (Under.snoc (hu.le (by omega)) (by omega)) e4 (by simp; omega) f hf
      rw [set_set, List.append_assoc] at this
      simpa [Nat.add_assoc, Nat.add_comm, Nat.add_left_comm] using this

theorem ex_merge {c d : Nat} (hcd : c ≠ d) (hS : H.objs.size > sysModules) (s : Shared) {src : List DictEntry} {ne tk : Nat} {l : List Obj} {n : Nat} {es : List DictEntry} {k : Int}
    (hc : l[c]? = some (dObj es n)) (hd : l[d]? = some (dObj src ne)) (hne : es ≠ []) (hu : Under es (k + 1)) (hr : ERises k src) (hz : es.length + src.length ≤ 10000) :
    Ex prog w A (mergeMapping (H.objs.size + c) (.ref (H.objs.size + d)) false) (At s H l tk) () (At s H (l.set c (dObj (es ++ src) (n + src.length))) tk) := by
  have hT := typeIs_dObj (H := H) (s := s) (tk := tk) hd
  unfold mergeMapping
  refine Ex.bind (s₁ := At s H l tk) (a := true) (fun Q E q => wpAny_isInstance hT isSubtype_dict_dict q) ?_
  rw [if_pos rfl]
  refine Ex.bind (s₁ := At s H l tk) (fun Q E q => wpAny_specialOf hT F.slot_dict_iter.lookup q) ?_
  rw [show (some (Value.builtin "dict.__iter__") == some (Value.builtin "dict.__iter__")) = true from beq_self_eq_true _]
  refine Ex.bind Ex.ret ?_
  dsimp only
  rw [if_neg (by rw [beq_iff_eq]; exact Nat.ne_of_gt (by omega))]
  refine Ex.bind (ex_entries s hc) ?_
  have hemp : (es.toArray.isEmpty) = false := by
    cases es with
    | nil => exact absurd rfl hne
    | cons _ _ => rfl
  rw [if_neg (by rw [hemp]; exact Bool.false_ne_true)]
  refine Ex.bind (ex_entries s hd) ?_
  refine Ex.bind (ex_epoch s hd) ?_
  have := ex_mergeLoop (prog := prog) (w := w) (A := A) (H := H) hcd s (tk := tk) src 0 rfl hc hd hu hr hz
  rw [Nat.sub_zero, show List.range' 0 src.length = List.range src.length from List.range_eq_range'.symm] at this
  rw [List.size_toArray]
  refine Ex.bind (this _ fun j => ?_) ?_
  · rfl
  · exact Ex.ret

/-! the display: pieces of seventeen, then the last piece -/
noncomputable abbrev Step17 := (Option (Sem Value) × Sem Value) → Option Addr × List (Sem Value × Sem Value) → Sem (ForInStep (Option Addr × List (Sem Value × Sem Value)))

theorem gather (f : Step17) (main : Option Addr)
    (hf : ∀ (p : Sem Value × Sem Value) (run : List (Sem Value × Sem Value)), run.length + 1 < 17 → f (some p.1, p.2) (main, run) = pure (.yield (main, run ++ [p]))) :
    ∀ (items : List (Sem Value × Sem Value)) (more : List (Option (Sem Value) × Sem Value)) (run : List (Sem Value × Sem Value)), run.length + items.length < 17 →
      forIn (items.map (fun p => ((some p.1, p.2) : Option (Sem Value) × Sem Value)) ++ more) (main, run) f = forIn more (main, run ++ items) f
  | [], more, run, _ => by simp
  | p :: rest, more, run, h => by
    simp only [List.length_cons] at h
    rw [List.map_cons, List.cons_append, List.forIn_cons, hf p run (by omega), pure_bind]
    have := gather f main hf rest more (run ++ [p]) (by simp; omega)
    simpa using this

/-- what stands behind the full pieces: the big dict's entries, the small dicts, the tokens -/
noncomputable def bigGo (es : List DictEntry) (subs : List Obj) (t : Nat) : List (List (Int × Str)) → List DictEntry × List Obj × Nat
  | [] => (es, subs, t)
  | c :: r => bigGo (es ++ entL t c) (subs ++ [dObj (entL t c) c.length]) (t + 3 * c.length) r

noncomputable def lastKey (k : Int) : List (Int × Str) → Int
  | [] => k
  | p :: r => lastKey p.1 r
theorem rises_split : ∀ (a b : List (Int × Str)) (k : Int), Rises k (a ++ b) → Rises k a ∧ Rises (lastKey k a) b
  | [], b, k, h => ⟨trivial, h⟩
  | p :: a, b, k, h => by
    obtain ⟨h1, h2⟩ := h
    obtain ⟨q1, q2⟩ := rises_split a b p.1 h2
    exact ⟨⟨h1, q1⟩, q2⟩
theorem under_app : ∀ (ps : List (Int × Str)) (es : List DictEntry) (t : Nat) (k : Int), Under es (k + 1) → Rises k ps → Under (es ++ entL t ps) (lastKey k ps + 1)
  | [], es, t, k, h, _ => by simpa [entL, lastKey] using h
  | p :: ps, es, t, k, h, hr => by
    obtain ⟨h1, h2⟩ := hr
    have := under_app ps (es ++ [⟨hashInt p.1, .int p.1 t, .str p.2 (t + 1)⟩]) (t + 3) p.1 (Under.snoc (h.le (by omega)) (by omega)) h2
    rw [List.append_assoc] at this
    simpa [entL, lastKey] using this

/-- how a turn of the display's loop goes -/
structure Turns (f : Step17) (d0 : Addr) : Prop where
  plain : ∀ (main : Option Addr) (p : Sem Value × Sem Value) (run : List (Sem Value × Sem Value)), run.length + 1 < 17 → f (some p.1, p.2) (main, run) = pure (.yield (main, run ++ [p]))
  full : ∀ (p : Sem Value × Sem Value) (run : List (Sem Value × Sem Value)), run.length + 1 = 17 → ∃ g : Value → Value → Sem Unit, f (some p.1, p.2) (some d0, run) = (do
      let sub ← holding [.ref d0] (subDict (run ++ [p]))
      (holding [.ref d0, .ref sub] (mergeMapping d0 (.ref sub) false)).onRaise (g (.ref sub))
      pure (.yield (some d0, [])))

theorem ex_chunks (s : Shared) (hS : H.objs.size > sysModules) (f : Step17) (hf : Turns f H.objs.size) : ∀ (cs : List (List (Int × Str))) (pairs : List (Sem Value × Sem Value)) (_ : Two (PairIs prog w A) pairs cs.flatten)
    (_ : ∀ c ∈ cs, c.length = 17) (more : List (Option (Sem Value) × Sem Value)) (es : List DictEntry) (subs : List Obj) (tk : Nat) (k : Int)
    (_ : Under es (k + 1)) (_ : Rises k cs.flatten) (_ : es ≠ []) (_ : es.length + cs.flatten.length ≤ 10000) (r : Option Addr × List (Sem Value × Sem Value)) (s' : Shared)
    (_ : Ex prog w A (forIn more ((some H.objs.size, []) : Option Addr × List (Sem Value × Sem Value)) f) (At s H (dObj (bigGo es subs tk cs).1 (bigGo es subs tk cs).1.length :: (bigGo es subs tk cs).2.1) (bigGo es subs tk cs).2.2) r s'),
    Ex prog w A (forIn (pairs.map (fun p => ((some p.1, p.2) : Option (Sem Value) × Sem Value)) ++ more) ((some H.objs.size, []) : Option Addr × List (Sem Value × Sem Value)) f) (At s H (dObj es es.length :: subs) tk) r s'
  | [], pairs, h, hl, more, es, subs, tk, k, hu, hr, hne, hz, r, s', hm => by
    cases h
    exact hm
  | c :: cs, pairs, h, hl, more, es, subs, tk, k, hu, hr, hne, hz, r, s', hm => by
    rw [List.flatten_cons] at h hr hz
    obtain ⟨pa, pb, rfl, h1, h2⟩ := h.split
    obtain ⟨r1, r2⟩ := rises_split _ _ _ hr
    have hc : c.length = 17 := hl c (.head _)
    have hpa : pa.length = 17 := h1.length.trans hc
    rw [List.length_append] at hz
    -- the piece's last pair
    obtain ⟨pi, pl, rfl⟩ : ∃ pi pl, pa = pi ++ [pl] := by
      cases q : pa.reverse with
      | nil => rw [List.reverse_eq_nil_iff] at q; rw [q] at hpa; cases hpa
      | cons x y => exact ⟨y.reverse, x, by have := congrArg List.reverse q; simpa using this⟩
    have hpi : pi.length = 16 := by simpa using hpa
    rw [List.map_append, List.append_assoc, List.map_append, List.append_assoc, gather f _ (hf.plain _) pi _ [] (by simp [hpi]), List.nil_append]
    obtain ⟨g, hg⟩ := hf.full pl pi (by omega)
    rw [List.map_cons, List.map_nil, List.singleton_append, List.forIn_cons, hg]
    refine Ex.bind (s₁ := At s H (dObj (es ++ entL tk c) (es ++ entL tk c).length :: (subs ++ [dObj (entL tk c) c.length])) (tk + 3 * c.length)) (a := ForInStep.yield (some H.objs.size, [])) ?_ ?_
    · have e1 := ex_subL (s := s) (H := H) h1 hc (l := dObj es es.length :: subs) (tk := tk) r1
      refine Ex.bind (Ex.hold e1) ?_
      have hd : (dObj es es.length :: (subs ++ [dObj (entL tk c) c.length]))[(dObj es es.length :: subs).length]? = some (dObj (entL tk c) c.length) := by simp
      have e2 := ex_merge (prog := prog) (w := w) (A := A) (H := H) (c := 0) (d := (dObj es es.length :: subs).length) (by simp) hS s (src := entL tk c) (ne := c.length) (tk := tk + 3 * c.length) (l := dObj es es.length :: (subs ++ [dObj (entL tk c) c.length]))
        (n := es.length) (es := es) (k := k) rfl hd hne hu (entL_rises _ _ _ r1) (by rw [entL_length]; omega)
      refine Ex.bind (Ex.onRaise (Ex.hold e2)) ?_
      rw [List.set_cons_zero, show es.length + (entL tk c).length = (es ++ entL tk c).length by rw [List.length_append]]
      exact Ex.ret
    · refine ex_chunks s hS f hf cs pb h2 (fun c' hc' => hl c' (.tail _ hc')) more _ _ _ _ (under_app c es tk k hu r1) r2 (by simp [hne]) ?_ r s' hm
      rw [List.length_append, entL_length]; omega

theorem ex_loop (s : Shared) (hS : H.objs.size > sysModules) (f : Step17) (hf : Turns f H.objs.size)
    (hf0 : ∀ (p : Sem Value × Sem Value) (run : List (Sem Value × Sem Value)), run.length + 1 = 17 → f (some p.1, p.2) (none, run) = (do let d ← subDict (run ++ [p]); pure (.yield (some d, []))))
    {pairs : List (Sem Value × Sem Value)} {c0 : List (Int × Str)} {cs : List (List (Int × Str))} {last : List (Int × Str)} {tk : Nat} {k : Int}
    (h : Two (PairIs prog w A) pairs (c0 ++ (cs.flatten ++ last))) (hc0 : c0.length = 17) (hcs : ∀ c ∈ cs, c.length = 17) (hl : last.length ≤ 15) (hr : Rises k (c0 ++ (cs.flatten ++ last))) (hz : c0.length + cs.flatten.length ≤ 9000) :
    ∃ run, Two (PairIs prog w A) run last ∧
    Ex prog w A (forIn (pairs.map (fun p => ((some p.1, p.2) : Option (Sem Value) × Sem Value))) ((none, []) : Option Addr × List (Sem Value × Sem Value)) f) (At s H [] tk) (some H.objs.size, run)
      (At s H (dObj (bigGo (entL tk c0) [] (tk + 51) cs).1 (bigGo (entL tk c0) [] (tk + 51) cs).1.length :: (bigGo (entL tk c0) [] (tk + 51) cs).2.1) (bigGo (entL tk c0) [] (tk + 51) cs).2.2) := by
  obtain ⟨pa, pb, rfl, h1, h2⟩ := h.split
  obtain ⟨pm, pl, rfl, h3, h4⟩ := h2.split
  obtain ⟨r1, r2⟩ := rises_split _ _ _ hr
  obtain ⟨r3, r4⟩ := rises_split _ _ _ r2
  refine ⟨pl, h4, ?_⟩
  have hpa : pa.length = 17 := h1.length.trans hc0
  obtain ⟨pi, pz, rfl⟩ : ∃ pi pz, pa = pi ++ [pz] := by
    cases q : pa.reverse with
    | nil => rw [List.reverse_eq_nil_iff] at q; rw [q] at hpa; cases hpa
    | cons x y => exact ⟨y.reverse, x, by have := congrArg List.reverse q; simpa using this⟩
  have hpi : pi.length = 16 := by simpa using hpa
  rw [List.map_append, List.map_append, List.append_assoc, gather f _ (hf.plain _) pi _ [] (by simp [hpi]), List.nil_append]
  rw [List.map_cons, List.map_nil, List.singleton_append, List.forIn_cons, hf0 pz pi (by omega)]
  refine Ex.bind (s₁ := At s H [dObj (entL tk c0) (entL tk c0).length] (tk + 51)) (a := ForInStep.yield (some H.objs.size, [])) ?_ ?_
  · have e1 := ex_subL (s := s) (H := H) h1 hc0 (l := []) (tk := tk) r1
    rw [hc0] at e1
    refine Ex.bind e1 ?_
    rw [entL_length, hc0]
    exact Ex.ret
  · dsimp only
    rw [List.map_append]
    have hu := under_app c0 [] tk k Under.nil r1
    rw [List.nil_append] at hu
    refine ex_chunks s hS f hf cs pm h3 hcs _ (entL tk c0) [] (tk + 51) (lastKey k c0) hu r3 (by intro q; have := congrArg List.length q; rw [entL_length, hc0] at this; cases this) (by rw [entL_length]; omega) _ _ ?_
    have := gather f (some H.objs.size) (hf.plain _) pl [] [] (by simp [h4.length]; omega)
    rw [List.append_nil] at this
    rw [this, List.forIn_nil, List.nil_append]
    exact Ex.ret

theorem bigGo_under : ∀ (cs : List (List (Int × Str))) (es : List DictEntry) (subs : List Obj) (t : Nat) (k : Int), Under es (k + 1) → Rises k cs.flatten → Under (bigGo es subs t cs).1 (lastKey k cs.flatten + 1)
  | [], es, subs, t, k, h, _ => h
  | c :: cs, es, subs, t, k, h, hr => by
    rw [List.flatten_cons] at hr
    obtain ⟨r1, r2⟩ := rises_split _ _ _ hr
    have := bigGo_under cs (es ++ entL t c) (subs ++ [dObj (entL t c) c.length]) (t + 3 * c.length) (lastKey k c) (under_app c es t k h r1) r2
    have e : ∀ (a b : List (Int × Str)) (k : Int), lastKey k (a ++ b) = lastKey (lastKey k a) b := fun a => by
      induction a with
      | nil => intro b k; rfl
      | cons p a ih => intro b k; exact ih b p.1
    rw [List.flatten_cons, e]
    exact this
theorem bigGo_len : ∀ (cs : List (List (Int × Str))) (es : List DictEntry) (subs : List Obj) (t : Nat), (bigGo es subs t cs).1.length = es.length + cs.flatten.length
  | [], es, subs, t => by simp [bigGo]
  | c :: cs, es, subs, t => by
    rw [bigGo, bigGo_len cs]; simp [entL_length, Nat.add_assoc]

theorem ex_display (s : Shared) (hS : H.objs.size > sysModules)
    {pairs : List (Sem Value × Sem Value)} {c0 : List (Int × Str)} {cs : List (List (Int × Str))} {last : List (Int × Str)} {tk : Nat} {k : Int}
    (h : Two (PairIs prog w A) pairs (c0 ++ (cs.flatten ++ last))) (hc0 : c0.length = 17) (hcs : ∀ c ∈ cs, c.length = 17) (hl : last.length ≤ 15) (hl0 : last ≠ []) (hr : Rises k (c0 ++ (cs.flatten ++ last))) (hz : c0.length + cs.flatten.length ≤ 9000) :
    Ex prog w A (dictDisplay (pairs.map (fun p => ((some p.1, p.2) : Option (Sem Value) × Sem Value)))) (At s H [] tk) (.ref H.objs.size)
      (At s H (dObj ((bigGo (entL tk c0) [] (tk + 51) cs).1 ++ entS (bigGo (entL tk c0) [] (tk + 51) cs).2.2 last) ((bigGo (entL tk c0) [] (tk + 51) cs).1.length + last.length) ::
        ((bigGo (entL tk c0) [] (tk + 51) cs).2.1 ++ [dObj (entS (bigGo (entL tk c0) [] (tk + 51) cs).2.2 last) last.length])) ((bigGo (entL tk c0) [] (tk + 51) cs).2.2 + 3 * last.length)) := by
  have key : ∀ (F : Step17) (G : Option Addr × List (Sem Value × Sem Value) → Sem Value), Turns F H.objs.size →
      (∀ (p : Sem Value × Sem Value) (run : List (Sem Value × Sem Value)), run.length + 1 = 17 → F (some p.1, p.2) (none, run) = (do let d ← subDict (run ++ [p]); pure (.yield (some d, [])))) →
      (∀ run : List (Sem Value × Sem Value), run ≠ [] → ∃ g : Value → Value → Sem Unit, G (some H.objs.size, run) = (do
        let sub ← holding [.ref H.objs.size] (subDict run)
        (holding [.ref H.objs.size, .ref sub] (mergeMapping H.objs.size (.ref sub) false)).onRaise (g (.ref sub))
        pure (.ref H.objs.size))) →
      Ex prog w A (forIn (pairs.map (fun p => ((some p.1, p.2) : Option (Sem Value) × Sem Value))) ((none, []) : Option Addr × List (Sem Value × Sem Value)) F >>= G) (At s H [] tk) (.ref H.objs.size)
      (At s H (dObj ((bigGo (entL tk c0) [] (tk + 51) cs).1 ++ entS (bigGo (entL tk c0) [] (tk + 51) cs).2.2 last) ((bigGo (entL tk c0) [] (tk + 51) cs).1.length + last.length) ::
        ((bigGo (entL tk c0) [] (tk + 51) cs).2.1 ++ [dObj (entS (bigGo (entL tk c0) [] (tk + 51) cs).2.2 last) last.length])) ((bigGo (entL tk c0) [] (tk + 51) cs).2.2 + 3 * last.length)) := by
    intro F G hF hF0 hG
    obtain ⟨run, hrun, hx⟩ := ex_loop (prog := prog) (w := w) (A := A) (H := H) s hS F hF hF0 h hc0 hcs hl hr hz (tk := tk)
    obtain ⟨g, hg⟩ := hG run (by intro q; have := hrun.length; rw [q] at this; exact hl0 (List.eq_nil_of_length_eq_zero this.symm))
    refine Ex.bind hx ?_
    rw [hg]
    obtain ⟨r1, r2⟩ := rises_split _ _ _ hr
    obtain ⟨r3, r4⟩ := rises_split _ _ _ r2
    have hu := under_app c0 [] tk k Under.nil r1
    rw [List.nil_append] at hu
    have hb := bigGo_under cs (entL tk c0) [] (tk + 51) (lastKey k c0) hu r3
    have hlen := bigGo_len cs (entL tk c0) [] (tk + 51)
    generalize bigGo (entL tk c0) [] (tk + 51) cs = big at hb hlen ⊢
    obtain ⟨es, subs, t1⟩ := big
    dsimp only at hb hlen ⊢
    rw [entL_length] at hlen
    have hne : es ≠ [] := by intro q; rw [q, hc0] at hlen; simp at hlen; omega
    refine Ex.bind (Ex.hold (ex_subS (s := s) (H := H) hrun hl (l := dObj es es.length :: subs) (tk := t1) r4)) ?_
    have hd : (dObj es es.length :: (subs ++ [dObj (entS t1 last) last.length]))[(dObj es es.length :: subs).length]? = some (dObj (entS t1 last) last.length) := by simp
    have e2 := ex_merge (prog := prog) (w := w) (A := A) (H := H) (c := 0) (d := (dObj es es.length :: subs).length) (by simp) hS s (src := entS t1 last) (ne := last.length) (tk := t1 + 3 * last.length) (l := dObj es es.length :: (subs ++ [dObj (entS t1 last) last.length]))
        (n := es.length) (es := es) (k := lastKey (lastKey k c0) cs.flatten) rfl hd hne hb (entS_rises _ _ _ r4) (by rw [entS_length]; omega)
    refine Ex.bind (Ex.onRaise (Ex.hold e2)) ?_
    rw [List.set_cons_zero, entS_length]
    exact Ex.ret
  unfold dictDisplay
  dsimp only
  refine key _ _ ⟨fun main p run hlt => ?_, fun p run hlt => ⟨fun _ x => do let _ ← holding [.ref H.objs.size, x] (runValue (.builtin "proto.let_go" {})); pure (), ?_⟩⟩ (fun p run hlt => ?_) (fun run hne => ⟨fun _ x => do let _ ← holding [.ref H.objs.size, x] (runValue (.builtin "proto.let_go" {})); pure (), ?_⟩)
  · have hne : ((run ++ [(p.1, p.2)]).length == 17) = false := by simp; omega
    simp only [hne, Bool.false_eq_true, if_false]
  · have hne : ((run ++ [(p.1, p.2)]).length == 17) = true := by simp; omega
    have hemp : (run ++ [(p.1, p.2)]).isEmpty = false := by simp
    simp only [hne, if_true, hemp, Bool.false_eq_true, if_false, bind_assoc, pure_bind]
  · have hne : ((run ++ [(p.1, p.2)]).length == 17) = true := by simp; omega
    have hemp : (run ++ [(p.1, p.2)]).isEmpty = false := by simp
    simp only [hne, if_true, hemp, Bool.false_eq_true, if_false, bind_assoc, pure_bind]
  · have hemp : run.isEmpty = false := by
      cases run with
      | nil => exact absurd rfl hne
      | cons _ _ => rfl
    simp only [hemp, Bool.false_eq_true, if_false, bind_assoc, pure_bind]
end ex
end WC

namespace WC
open PySem PySem.W PySem.Calls PyProof.Rows
open Sem (wp)

/-! from a fact of the logic to the machine's steps, up to the tree's end -/
section steps
variable {M : Model}

noncomputable def Steps (M : Model) (s : Shared) (th : Thread) (s' : Shared) (th' : Thread) : Prop := ∃ n, M.runN n s th = .running s' th'
theorem Steps.refl {s : Shared} {th : Thread} : Steps M s th s th := ⟨0, rfl⟩
theorem Steps.head {s s₁ s' : Shared} {th th₁ th' : Thread} (h : M.step s th = .go s₁ th₁) (k : Steps M s₁ th₁ s' th') : Steps M s th s' th' := by
  obtain ⟨n, e⟩ := k
  exact ⟨n + 1, by rw [runN_succ, h]; exact e⟩
theorem Steps.trans {s s₁ s' : Shared} {th th₁ th' : Thread} (h : Steps M s th s₁ th₁) (k : Steps M s₁ th₁ s' th') : Steps M s th s' th' := by
  obtain ⟨n, e⟩ := h
  induction n generalizing s th with
  | zero =>
    injection (show Run.running s th = .running s₁ th₁ from e) with e1 e2
    subst e1 e2; exact k
  | succ n ih =>
    rw [runN_succ] at e
    cases hs : M.step s th with
    | go s₂ t₂ => rw [hs] at e; exact Steps.head hs (ih e)
    | halt o s₂ => rw [hs] at e; cases e
theorem Steps.of_reach {B pre : List Frame} {s s' : Shared} {t : Sem Fin} {c : Code} {p : Pos} {r : Result} (h : Reach M B s t c p pre s' (.ret r)) : ∃ c' p', Steps M s ⟨t, c, p, pre ++ B⟩ s' ⟨leafOf r, c', p', B⟩ := by
  obtain ⟨n, t', c', p', pre', hn, rfl, rfl⟩ := h.runN
  exact ⟨c', p', n, hn⟩

/-- the steps go on to the tree's end -/
noncomputable def Ends {α : Type} (M : Model) (K : α → Sem Fin) (c : Code) (B : List Frame) (Q : α → Pos → Shared → Prop) (s : Shared) (th : Thread) : Prop := ∃ a p' s', Steps M s th s' ⟨K a, c, p', B⟩ ∧ Q a p' s'
theorem Ends.head {α : Type} {K : α → Sem Fin} {c : Code} {B : List Frame} {Q : α → Pos → Shared → Prop} {s s₁ : Shared} {th th₁ : Thread} (h : M.step s th = .go s₁ th₁) (k : Ends M K c B Q s₁ th₁) : Ends M K c B Q s th :=
  let ⟨a, p', s', e, q⟩ := k; ⟨a, p', s', .head h e, q⟩
theorem Ends.thru {α : Type} {K : α → Sem Fin} {c : Code} {B : List Frame} {Q : α → Pos → Shared → Prop} {s s₁ : Shared} {th th₁ : Thread} (h : Steps M s th s₁ th₁) (k : Ends M K c B Q s₁ th₁) : Ends M K c B Q s th :=
  let ⟨a, p', s', e, q⟩ := k; ⟨a, p', s', h.trans e, q⟩
theorem steps_of_wp {α : Type} {c : Code} {B : List Frame} (K : α → Sem Fin) (E : Value → Sem Fin) (m : Sem α) : ∀ {Γ : Ctx} {Q : α → Pos → Shared → Prop} {p : Pos} {s : Shared}, Γ.Fits B → Γ.code = c →
    wp M Γ m Q (fun _ _ _ => False) p s → Ends M K c B Q s ⟨m.wrap K E id id, c, p, B⟩ := by
  induction m with
  | pure a => intro Γ Q p s hf hc h; exact ⟨a, p, s, Steps.refl, by rw [Sem.wp_pure] at h; exact h⟩
  | raise x => intro Γ Q p s hf hc h; exact h.elim
  | unsupported what => intro Γ Q p s hf hc h; exact h.elim
  | finish x => intro Γ Q p s hf hc h; exact h.elim
  | register a k => intro Γ Q p s hf hc h; exact h.elim
  | yield v g l k => intro Γ Q p s hf hc h; exact h.elim
  | fork c k => intro Γ Q p s hf hc h; exact h.elim
  | await a f d l k => intro Γ Q p s hf hc h; exact h.elim
  | rule tag k ih => intro Γ Q p s hf hc h; exact .head (step_rule ..) (ih () hf hc h)
  | «at» p₁ k ih => intro Γ Q p s hf hc h; exact .head (step_at ..) (ih () hf hc h)
  | load a part k ih => intro Γ Q p s hf hc h; obtain ⟨o, ho, h⟩ := h; exact .head (step_load _ _ _ _ _ _ _ ho) (ih o hf hc h)
  | update a part f k ih => intro Γ Q p s hf hc h; obtain ⟨ha, h⟩ := h; exact .head (step_update _ _ _ _ _ _ _ _ ha) (ih () hf hc h)
  | alloc o k ih => intro Γ Q p s hf hc h; exact .head (step_alloc ..) (ih _ hf hc h)
  | loadIfAlive a k ih => intro Γ Q p s hf hc h; exact .head (step_loadIfAlive ..) (ih _ hf hc h)
  | point l k ih => intro Γ Q p s hf hc h; exact .head (step_point ..) (ih _ hf hc h)
  | fresh k ih => intro Γ Q p s hf hc h; exact .head (step_fresh ..) (ih _ hf hc h)
  | ask k ih => intro Γ Q p s hf hc h; exact .head (step_ask ..) (ih _ hf hc h)
  | choose src n k ih => intro Γ Q p s hf hc h; obtain ⟨hn, h⟩ := h; exact .head (step_choose _ _ _ _ _ _ _ hn) (ih _ hf hc h)
  | os q l k ih => intro Γ Q p s hf hc h; exact .head (step_os ..) (ih _ hf hc h)
  | call c' h g l k ih =>
    intro Γ Q p s hf hc hw
    subst hc
    obtain ⟨r, s₁, hret, hw⟩ := hw
    obtain ⟨a, p', s', e, q⟩ := ih r hf rfl hw
    obtain ⟨c₁, p₁, e₁⟩ := Steps.of_reach (pre := []) (runs_reach hret (.ret (fun r => (k r).wrap K E id id) h g l Γ.code p [] :: B) (hf.enter c' _ h g l p []))
    exact ⟨a, p', s', .head (step_call ..) (e₁.trans (.head (step_leaf_ret ..) e)), q⟩
  | handled own k ih =>
    intro Γ Q p s hf hc h; obtain ⟨a, p', s', e, q⟩ := ih _ hf hc h
    refine ⟨a, p', s', .head (step_handled ..) ?_, q⟩
    cases own
    · rw [hf.handled] at e; exact e
    · rw [hf.own] at e; exact e
  | newGen c k ih => intro Γ Q p s hf hc h; exact .head (step_newGen ..) (ih _ hf hc h)
  | genState g k ih => intro Γ Q p s hf hc h; obtain ⟨st, hg, h⟩ := h; exact .head (step_genState _ _ _ _ _ _ hg) (ih _ hf hc h)
  | resume g r l k ih =>
    intro Γ Q p s hf hc h
    subst hc
    obtain ⟨res, s₁, hwk, h⟩ := h
    obtain ⟨a, p', s', e, q⟩ := ih res hf rfl h
    refine ⟨a, p', s', Steps.trans ?_ e, q⟩
    unfold Wakes at hwk
    cases hg : s.gens[g]? with
    | none => rw [hg] at hwk; exact hwk.elim
    | some st =>
      rw [hg] at hwk
      have wake : ∀ {c₀ : Code} {p₀ : Pos} {t₀ : Sem Fin} {fs : List Frame} {e₁ : End} {s₂ : Shared}, Runs M (Γ.wake c₀ p) p₀ t₀ fs (s.setGen g .running) e₁ s₂ → e₁.quiet = true →
          Steps M (s.setGen g .running) ⟨t₀, c₀, p₀, fs ++ .gen g (fun x => (k x).wrap K E id id) l Γ.code p :: B⟩ (s₂.setGen g e₁.genState) ⟨(k e₁.result).wrap K E id id, Γ.code, p, B⟩ := by
        intro c₀ p₀ t₀ fs e₁ s₂ hr hq
        obtain ⟨n, t', c', p', pre', hn, hx⟩ := (runs_reach hr (.gen g (fun x => (k x).wrap K E id id) l Γ.code p :: B) (hf.wake c₀ g _ l p)).runN
        exact Steps.trans ⟨n, hn⟩ (.head (step_exit_gen _ _ _ _ _ _ _ hx hq) .refl)
      cases st with
      | fresh c₀ =>
        cases r with
        | send v =>
          by_cases hv : v = .none
          · subst hv
            obtain ⟨e₁, s₂, hr, hq, rfl, rfl⟩ := hwk
            exact .head (step_resume_fresh _ _ _ _ _ _ _ hg) (wake hr hq)
          · have : res = .justStarted ∧ s₁ = s := by cases v <;> first | exact absurd rfl hv | exact hwk
            obtain ⟨rfl, rfl⟩ := this
            exact .head (step_resume_justStarted _ _ _ _ _ _ _ hg hv) .refl
        | throw x => obtain ⟨rfl, rfl⟩ := hwk; exact .head (step_resume_throwFresh _ _ _ _ _ _ _ _ hg) .refl
      | suspended k₀ l₀ c₀ p₀ fs cl =>
        obtain ⟨e₁, s₂, hr, hq, rfl, rfl⟩ := hwk
        exact .head (step_resume_suspended _ _ _ _ _ _ _ _ hg) (wake hr hq)
      | running => obtain ⟨rfl, rfl⟩ := hwk; exact .head (step_resume_running _ _ _ _ _ _ _ _ hg) .refl
      | finished => obtain ⟨rfl, rfl⟩ := hwk; exact .head (step_resume_finished _ _ _ _ _ _ _ _ hg) .refl
  | stack k ih => intro Γ Q p s hf hc h; subst hc; obtain ⟨a, p', s', e, q⟩ := ih _ hf rfl h; exact ⟨a, p', s', .head (step_stack ..) (by rw [hf.below] at e; exact e), q⟩
  | thread k ih => intro Γ Q p s hf hc h; exact .head (step_thread ..) (ih _ hf hc h)
end steps

/-! from the logic's machine to the real one -/
section real
variable {prog : Program} {w : World}
theorem life_forget {s s' : Shared} (h : s.forget = s'.forget) : s.heap = s'.heap := (Shared.forget_eq h).1
theorem asleep_forget {s s' : Shared} (h : s.forget = s'.forget) (z : s'.asleep) : s.asleep := by
  unfold Shared.asleep at z ⊢; rw [life_forget h]; exact z

theorem real_of_steps : ∀ (n : Nat) {s s' : Shared} {t t' : Thread}, (model prog w).runN n s t = .running s' t' → ∀ {sr : Shared} {tr : Thread}, sr.asleep → sr.forget = s.forget → tr.forget = t.forget →
    ∃ sr' tr', schedN (denote table) prog w n (.single sr tr) = .running (.single sr' tr') ∧ sr'.forget = s'.forget ∧ tr'.forget = t'.forget ∧ sr'.asleep
  | 0, s, s', t, t', h, sr, tr, z, e1, e2 => by
    injection (show Run.running s t = .running s' t' from h) with h1 h2
    subst h1 h2
    exact ⟨sr, tr, rfl, e1, e2, z⟩
  | n + 1, s, s', t, t', h, sr, tr, z, e1, e2 => by
    rw [runN_succ] at h
    cases hs : (model prog w).step s t with
    | halt o s₂ => rw [hs] at h; cases h
    | go s₂ t₂ =>
      rw [hs] at h
      have hl : t.loud = false := by
        cases q : t.loud with
        | false => rfl
        | true => rw [Model.step_loud _ q] at hs; cases hs
      rw [Model.step_quiet _ hl] at hs
      have hr : t.refused = false := by
        cases q : t.refused with
        | false => rfl
        | true => obtain ⟨what, e⟩ := stepK_refused (model prog w).den (model prog w).prog (model prog w).w (s := s) q; rw [e] at hs; cases hs
      have hc : tr.calm = true := by
        rw [← Thread.calm_forget, e2, Thread.calm_forget, Thread.calm_eq, hl, hr]; rfl
      have hf : (step (denote table) prog w sr tr).forget = (Step.go s₂ t₂).forget := by
        rw [step_same (denote table) prog w e1 e2, ← stepK_forget]
        exact congrArg Step.forget hs
      cases hq : step (denote table) prog w sr tr with
      | halt o s₃ => rw [hq] at hf; cases hf
      | go s₃ t₃ =>
        rw [hq] at hf
        obtain ⟨f1, f2⟩ : s₃.forget = s₂.forget ∧ t₃.forget = t₂.forget := by
          simp only [Step.forget, Step.go.injEq] at hf; exact hf
        have z₃ := Shared.asleep_of_life (step_life (denote table) prog w sr s₃ tr t₃ hq) z
        obtain ⟨sr', tr', k1, k2, k3, k4⟩ := real_of_steps n h z₃ f1 f2
        refine ⟨sr', tr', ?_, k2, k3, k4⟩
        have e : sstep (denote table) prog w (.single sr tr) = .go (.single s₃ t₃) := by
          rcases sstep_single (denote table) prog w sr tr hc z with e | e
          · rw [e, hq]; rfl
          · rw [hq] at e; cases e
        simp only [schedN, e]; exact k1

theorem sched_add : ∀ (n m : Nat) (c c₁ : Config) (r : SRun), schedN (denote table) prog w n c = .running c₁ → schedN (denote table) prog w m c₁ = r → schedN (denote table) prog w (n + m) c = r
  | 0, m, c, c₁, r, h, k => by
    injection (show SRun.running c = .running c₁ from h) with h
    subst h; rw [Nat.zero_add]; exact k
  | n + 1, m, c, c₁, r, h, k => by
    rw [show n + 1 + m = n + m + 1 by omega]
    simp only [schedN] at h ⊢
    cases hs : sstep (denote table) prog w c with
    | halt o s => rw [hs] at h; cases h
    | go c₂ => rw [hs] at h; exact sched_add n m c₂ c₁ r h k

theorem sched_of_segGo {n₀ : Nat} {ann : Option Value} {b : Nat} : ∀ (n : Nat) {s s' : Shared} {t t' : Thread}, s.asleep → segGo table prog w n₀ ann b n s t = some (s', t') →
    schedN (denote table) prog w n (.single s t) = .running (.single s' t')
  | 0, s, s', t, t', z, h => by
    obtain ⟨rfl, rfl⟩ : s = s' ∧ t = t' := by simpa [segGo] using h
    rfl
  | n + 1, s, s', t, t', z, h => by
    unfold segGo at h
    cases he : endAt b t with
    | some f => rw [he] at h; cases h
    | none =>
      rw [he] at h
      cases hk : stepOk n₀ ann t with
      | false => rw [hk] at h; cases h
      | true =>
        rw [hk] at h
        cases hs : step (denote table) prog w s t with
        | halt o s₂ => rw [hs] at h; cases h
        | go s₂ t₂ =>
          rw [hs] at h
          have hc : t.calm = true := (Bool.and_eq_true_iff.mp hk).1
          have z₂ := Shared.asleep_of_life (step_life (denote table) prog w s s₂ t t₂ hs) z
          have e : sstep (denote table) prog w (.single s t) = .go (.single s₂ t₂) := by
            rcases sstep_single (denote table) prog w s t hc z with e | e
            · rw [e, hs]; rfl
            · rw [hs] at e; cases e
          simp only [schedN, e]
          exact sched_of_segGo n z₂ h
end real
end WC

set_option maxHeartbeats 0
namespace WC
open PySem PySem.W PySem.Calls PyProof.Rows
noncomputable section
noncomputable abbrev pw : Program := PySem.Challenge.pw_wc0013_01
noncomputable abbrev sO (x : String) : Str := Str.ofString x
noncomputable abbrev kH (P : Params) (x : Str) : Int := PyData.keyHash P x
noncomputable def stI (i : Nat) : Stmt := (pw.main.body.drop i).headD default
noncomputable def fparams : Stmt → Arguments
  | .FunctionDef _ a _ _ _ _ _ _ _ _ => a
  | _ => default
noncomputable def fbody : Stmt → List Stmt
  | .FunctionDef _ _ b _ _ _ _ _ _ _ => b
  | _ => []
noncomputable def fscope : Stmt → Scope
  | .FunctionDef _ _ _ _ _ _ s _ _ _ => s
  | _ => default
noncomputable def tenv : Env := { scope := pw.main.scope, locals := mainNs, globals := mainNs, cells := [], code := .ref 13, frame := some 14 }
noncomputable def tcode : Code := .body (behindTheImports pw) tenv
noncomputable def tB : List Frame := [topFrame default]
/-- the thread of the top ahead of the statement number i -/
noncomputable def TH (i : Nat) (p : Pos) : Thread := ⟨((execs (pw.main.body.drop i) tenv).onRaise (leaving tenv)).bind fun f => (Sem.pure (Fin.done f) : Sem Fin), tcode, p, tB⟩
noncomputable def tann : Option Value := some (.ref 6)
noncomputable def tlife : Life := (boot_heap { strHash := fun _ => 0, shareClass := fun _ => 0, mergeTok := id, idOf := fun _ => 0, idOfShared := fun _ _ => 0, followText := fun _ => false, idOfImm := fun _ => 0 }).life
noncomputable def ST (T : Params → BT) (n toks : Nat) (w : World) (os : OsState) : SharedT := ⟨T w.params, n, tlife, Array.mk [], boot_drawn, toks, os⟩
/-! the big dict's display -/
noncomputable def b3keys : List (Option Expr) := match stI 11 with | .Assign _ (.Dict ks _ _) _ => ks | _ => []
noncomputable def b3vals : List Expr := match stI 11 with | .Assign _ (.Dict _ vs _) _ => vs | _ => []
noncomputable def b3pd : Pos := match stI 11 with | .Assign _ (.Dict _ _ p) _ => p | _ => default
noncomputable def b3pn : Pos := match stI 11 with | .Assign [.Name _ p] _ _ => p | _ => default
noncomputable def b3pos : Pos := match stI 11 with | .Assign _ _ p => p | _ => default
noncomputable def keyI : Option Expr → Option Int
  | some (.Constant (.int i) _ _) => some i
  | _ => none
noncomputable def valS : Expr → Option Str
  | .Constant (.str x) _ _ => some x
  | _ => none
noncomputable def pairsOk : List (Option Expr) → List Expr → Option (List (Int × Str))
  | [], [] => some []
  | k :: ks, v :: vs => (keyI k).bind fun i => (valS v).bind fun x => (pairsOk ks vs).map fun r => (i, x) :: r
  | _, _ => none
noncomputable def b3p : List (Int × Str) := match pairsOk b3keys b3vals with
  | some r => r
  | none => []
noncomputable def chop : Nat → List (Int × Str) → List (List (Int × Str))
  | 0, _ => []
  | n + 1, l => l.take 17 :: chop n (l.drop 17)
noncomputable def b3c0 : List (Int × Str) := b3p.take 17
noncomputable def b3cs : List (List (Int × Str)) := chop 37 (b3p.drop 17)
noncomputable def b3last : List (Int × Str) := b3p.drop 646
noncomputable def b3big : List DictEntry × List Obj × Nat := bigGo (entL 339 b3c0) [] (339 + 51) b3cs
noncomputable def b3objs : List Obj := dObj (b3big.1 ++ entS b3big.2.2 b3last) (b3big.1.length + b3last.length) :: (b3big.2.1 ++ [dObj (entS b3big.2.2 b3last) b3last.length])
noncomputable def b3o (j : Nat) : Obj := b3objs.getD j default
noncomputable def o11_A : Params → Obj := fun P => ⟨(.type "tuple"), none, (.seq #[] 0), #[]⟩
noncomputable def o12_A : Params → Obj := fun P => ⟨.none, none, (.fields #[]), #[]⟩
noncomputable def o13_A : Params → Obj := fun P => ⟨(.type "code"), none, (.fields #[(.str (sO "<module>") 182), (.str (sO "<module>") 183), (.str (sO "/claim/cut.py") 184), (.int (1) 0), (.int (0) 0), (.int (0) 0), (.int (0) 0), (.int (0) 0), (.ref 11), (.bool false), (.int (181) 0), (.ref 12), .none, .none, .none, .none, (.int (185) 0), (.int (1) 0), (.str (sO "/claim/cut.py") 186)]), #[]⟩
noncomputable def o14_A : Params → Obj := fun P => ⟨(.type "frame"), none, .plain, #[some (.ref 13), some (.ref 3), some (.ref 3), none, some (.str (sO "__main__") 164), none, some (.ref 0)]⟩
/-- toks 187, size 15 -/
noncomputable def T_A : Params → BT := fun P => (.node (boot_o_0 P) (.node (boot_o_1 P) (.node (boot_o_3 P) (.node (boot_o_7 P) .nil .nil) (.node (o11_A P) .nil .nil)) (.node (boot_o_5 P) (.node (boot_o_9 P) .nil .nil) (.node (o13_A P) .nil .nil))) (.node (boot_o_2 P) (.node (boot_o_4 P) (.node (boot_o_8 P) .nil .nil) (.node (o12_A P) .nil .nil)) (.node (boot_o_6 P) (.node (boot_o_10 P) .nil .nil) (.node (o14_A P) .nil .nil))))
noncomputable def o2_5 : Params → Obj := fun P => ⟨.none, none, (.dict #[⟨kH P (sO "type.__subclasses__.Exception.0"), (.str (sO "type.__subclasses__.Exception.0") 239), (.int (45) 0)⟩, ⟨kH P (sO "type.__subclasses__.Exception.n"), (.str (sO "type.__subclasses__.Exception.n") 240), (.int (1) 0)⟩] 2), #[]⟩
noncomputable def o3_5 : Params → Obj := fun P => ⟨(.type "dict"), none, (.dict #[⟨kH P (sO "__name__"), (.str (sO "__name__") 165), (.str (sO "cpy313.ftplib") 221)⟩, ⟨kH P (sO "__doc__"), (.str (sO "__doc__") 166), .none⟩, ⟨kH P (sO "__package__"), (.str (sO "__package__") 167), .none⟩, ⟨kH P (sO "__loader__"), (.str (sO "__loader__") 168), (.builtin "__main__.__loader__#opaque")⟩, ⟨kH P (sO "__spec__"), (.str (sO "__spec__") 169), .none⟩, ⟨kH P (sO "__annotations__"), (.str (sO "__annotations__") 170), (.ref 6)⟩, ⟨kH P (sO "__builtins__"), (.str (sO "__builtins__") 171), (.ref 4)⟩, ⟨kH P (sO "__file__"), (.str (sO "__file__") 173), (.str (sO "/claim/cut.py") 172)⟩, ⟨kH P (sO "__cached__"), (.str (sO "__cached__") 174), .none⟩, ⟨kH P (sO "_iter_escaped_chars"), (.str (sO "_iter_escaped_chars") 198), (.ref 21)⟩, ⟨kH P (sO "_strip_quoted_realnames"), (.str (sO "_strip_quoted_realnames") 210), (.ref 28)⟩, ⟨kH P (sO "_check_parenthesis"), (.str (sO "_check_parenthesis") 220), (.ref 35)⟩, ⟨kH P (sO "Error"), (.str (sO "Error") 242), (.ref 45)⟩] 13), #[]⟩
noncomputable def o12_5 : Params → Obj := fun P => ⟨.none, none, (.fields #[(.int (2) 0), (.int (0) 0), (.ref 20), (.int (15) 0), (.int (0) 0), (.ref 27), (.int (33) 0), (.int (0) 0), (.ref 34), (.int (45) 0), (.int (0) 0), (.ref 41)]), #[]⟩
noncomputable def o15_5 : Params → Obj := fun P => ⟨(.type "tuple"), none, (.seq #[] 0), #[]⟩
noncomputable def o16_5 : Params → Obj := fun P => ⟨.none, none, (.fields #[]), #[]⟩
noncomputable def o17_5 : Params → Obj := fun P => ⟨(.type "tuple"), none, (.seq #[(.str (sO "addr") 192), (.str (sO "pos") 193), (.str (sO "escape") 194), (.str (sO "ch") 195)] 0), #[]⟩
noncomputable def o18_5 : Params → Obj := fun P => ⟨(.type "tuple"), none, (.seq #[] 0), #[]⟩
noncomputable def o19_5 : Params → Obj := fun P => ⟨.none, none, (.func { name := (sO "_iter_escaped_chars"), qualname := (sO "_iter_escaped_chars"), params := (fparams (stI 1)), body := .stmts (fbody (stI 1)), scope := fscope (stI 1), globals := 0, closure := [], defaults := .none, kwdefaults := .none, doc := .none, pyModule := .none, annotations := none, code := .none, closureTuple := .none, builtins := 0 }), #[]⟩
noncomputable def o20_5 : Params → Obj := fun P => ⟨(.type "code"), none, (.fields #[(.str (sO "_iter_escaped_chars") 189), (.str (sO "_iter_escaped_chars") 190), (.str (sO "/claim/cut.py") 191), (.int (2) 0), (.int (1) 0), (.int (0) 0), (.int (0) 0), (.int (35) 0), (.ref 15), (.bool true), (.int (181) 0), (.ref 16), .none, (.ref 17), (.ref 18), (.ref 19), (.int (196) 0), (.int (2) 0), (.str (sO "/claim/cut.py") 197)]), #[]⟩
noncomputable def o21_5 : Params → Obj := fun P => ⟨(.type "function"), none, (.func { name := (sO "_iter_escaped_chars"), qualname := (sO "_iter_escaped_chars"), params := (fparams (stI 1)), body := .stmts (fbody (stI 1)), scope := fscope (stI 1), globals := 3, closure := [], defaults := .none, kwdefaults := .none, doc := .none, pyModule := (.str (sO "cpy313.email.utils") 187), annotations := none, code := (.ref 20), closureTuple := .none, builtins := 0 }), #[]⟩
noncomputable def o22_5 : Params → Obj := fun P => ⟨(.type "tuple"), none, (.seq #[] 0), #[]⟩
noncomputable def o23_5 : Params → Obj := fun P => ⟨.none, none, (.fields #[]), #[]⟩
noncomputable def o24_5 : Params → Obj := fun P => ⟨(.type "tuple"), none, (.seq #[(.str (sO "addr") 202), (.str (sO "start") 203), (.str (sO "open_pos") 204), (.str (sO "result") 205), (.str (sO "pos") 206), (.str (sO "ch") 207)] 0), #[]⟩
noncomputable def o25_5 : Params → Obj := fun P => ⟨(.type "tuple"), none, (.seq #[] 0), #[]⟩
noncomputable def o26_5 : Params → Obj := fun P => ⟨.none, none, (.func { name := (sO "_strip_quoted_realnames"), qualname := (sO "_strip_quoted_realnames"), params := (fparams (stI 2)), body := .stmts (fbody (stI 2)), scope := fscope (stI 2), globals := 0, closure := [], defaults := .none, kwdefaults := .none, doc := .none, pyModule := .none, annotations := none, code := .none, closureTuple := .none, builtins := 0 }), #[]⟩
noncomputable def o27_5 : Params → Obj := fun P => ⟨(.type "code"), none, (.fields #[(.str (sO "_strip_quoted_realnames") 199), (.str (sO "_strip_quoted_realnames") 200), (.str (sO "/claim/cut.py") 201), (.int (15) 0), (.int (1) 0), (.int (0) 0), (.int (0) 0), (.int (3) 0), (.ref 22), (.bool true), (.int (181) 0), (.ref 23), .none, (.ref 24), (.ref 25), (.ref 26), (.int (208) 0), (.int (15) 0), (.str (sO "/claim/cut.py") 209)]), #[]⟩
noncomputable def o28_5 : Params → Obj := fun P => ⟨(.type "function"), none, (.func { name := (sO "_strip_quoted_realnames"), qualname := (sO "_strip_quoted_realnames"), params := (fparams (stI 2)), body := .stmts (fbody (stI 2)), scope := fscope (stI 2), globals := 3, closure := [], defaults := .none, kwdefaults := .none, doc := .none, pyModule := (.str (sO "cpy313.email.utils") 187), annotations := none, code := (.ref 27), closureTuple := .none, builtins := 0 }), #[]⟩
noncomputable def o29_5 : Params → Obj := fun P => ⟨(.type "tuple"), none, (.seq #[] 0), #[]⟩
noncomputable def o30_5 : Params → Obj := fun P => ⟨.none, none, (.fields #[]), #[]⟩
noncomputable def o31_5 : Params → Obj := fun P => ⟨(.type "tuple"), none, (.seq #[(.str (sO "addr") 214), (.str (sO "opens") 215), (.str (sO "pos") 216), (.str (sO "ch") 217)] 0), #[]⟩
noncomputable def o32_5 : Params → Obj := fun P => ⟨(.type "tuple"), none, (.seq #[] 0), #[]⟩
noncomputable def o33_5 : Params → Obj := fun P => ⟨.none, none, (.func { name := (sO "_check_parenthesis"), qualname := (sO "_check_parenthesis"), params := (fparams (stI 3)), body := .stmts (fbody (stI 3)), scope := fscope (stI 3), globals := 0, closure := [], defaults := .none, kwdefaults := .none, doc := .none, pyModule := .none, annotations := none, code := .none, closureTuple := .none, builtins := 0 }), #[]⟩
noncomputable def o34_5 : Params → Obj := fun P => ⟨(.type "code"), none, (.fields #[(.str (sO "_check_parenthesis") 211), (.str (sO "_check_parenthesis") 212), (.str (sO "/claim/cut.py") 213), (.int (33) 0), (.int (1) 0), (.int (0) 0), (.int (0) 0), (.int (3) 0), (.ref 29), (.bool true), (.int (181) 0), (.ref 30), .none, (.ref 31), (.ref 32), (.ref 33), (.int (218) 0), (.int (33) 0), (.str (sO "/claim/cut.py") 219)]), #[]⟩
noncomputable def o35_5 : Params → Obj := fun P => ⟨(.type "function"), none, (.func { name := (sO "_check_parenthesis"), qualname := (sO "_check_parenthesis"), params := (fparams (stI 3)), body := .stmts (fbody (stI 3)), scope := fscope (stI 3), globals := 3, closure := [], defaults := .none, kwdefaults := .none, doc := .none, pyModule := (.str (sO "cpy313.email.utils") 187), annotations := none, code := (.ref 34), closureTuple := .none, builtins := 0 }), #[]⟩
noncomputable def o36_5 : Params → Obj := fun P => ⟨(.type "tuple"), none, (.seq #[(.type "Exception")] 0), #[]⟩
noncomputable def o37_5 : Params → Obj := fun P => ⟨(.type "builtin_function_or_method"), none, (.fields #[(.builtin "type.__prepare__"), (.type "type")]), #[]⟩
noncomputable def o38_5 : Params → Obj := fun P => ⟨(.type "dict"), none, (.dict #[⟨kH P (sO "__module__"), (.str (sO "__module__") 230), (.str (sO "cpy313.ftplib") 221)⟩, ⟨kH P (sO "__qualname__"), (.str (sO "__qualname__") 232), (.str (sO "Error") 231)⟩, ⟨kH P (sO "__firstlineno__"), (.str (sO "__firstlineno__") 234), (.int (45) 233)⟩, ⟨kH P (sO "__static_attributes__"), (.str (sO "__static_attributes__") 235), (.ref 43)⟩] 4), #[]⟩
noncomputable def o39_5 : Params → Obj := fun P => ⟨(.type "tuple"), none, (.seq #[] 0), #[]⟩
noncomputable def o40_5 : Params → Obj := fun P => ⟨.none, none, (.fields #[]), #[]⟩
noncomputable def o41_5 : Params → Obj := fun P => ⟨(.type "code"), none, (.fields #[(.str (sO "Error") 225), (.str (sO "Error") 226), (.str (sO "/claim/cut.py") 227), (.int (45) 0), (.int (0) 0), (.int (0) 0), (.int (0) 0), (.int (0) 0), (.ref 39), (.bool false), (.int (181) 0), (.ref 40), .none, .none, .none, .none, (.int (228) 0), (.int (45) 0), (.str (sO "/claim/cut.py") 229)]), #[]⟩
noncomputable def o42_5 : Params → Obj := fun P => ⟨(.type "frame"), none, .plain, #[some (.ref 41), some (.ref 3), some (.ref 38), none, some (.str (sO "cpy313.ftplib") 221), none, some (.ref 0)]⟩
noncomputable def o43_5 : Params → Obj := fun P => ⟨(.type "tuple"), none, (.seq #[] 0), #[]⟩
noncomputable def o44_5 : Params → Obj := fun P => ⟨(.type "dict"), none, (.dict #[⟨kH P (sO "__module__"), (.str (sO "__module__") 230), (.str (sO "cpy313.ftplib") 221)⟩, ⟨kH P (sO "__firstlineno__"), (.str (sO "__firstlineno__") 234), (.int (45) 233)⟩, ⟨kH P (sO "__static_attributes__"), (.str (sO "__static_attributes__") 235), (.ref 43)⟩, ⟨kH P (sO "__weakref__"), (.str (sO "__weakref__") 237), (.ref 46)⟩, ⟨kH P (sO "__doc__"), (.str (sO "__doc__") 238), .none⟩] 3), #[]⟩
noncomputable def o45_5 : Params → Obj := fun P => ⟨(.type "type"), none, (.cls { name := (sO "Error"), bases := [(.type "Exception")], mro := [(.ref 45), (.type "Exception"), (.type "BaseException"), (.type "object")], ns := 44, qualname := (sO "Error"), hasDict := true, slotNames := [], subclasses := [], abstract := false, collection := none, hasDel := false }), #[some (.ref 36), none, some (.str (sO "Error") 223), some (.str (sO "Error") 231), some (.builtin "Exception.__new__"), some (.bool true)]⟩
noncomputable def o46_5 : Params → Obj := fun P => ⟨(.type "getset_descriptor"), none, (.fields #[(.str (sO "__weakref__") 236), (.ref 45), (.builtin "ExceptionGroup.__weakref__"), .none]), #[]⟩
noncomputable def o47_5 : Params → Obj := fun P => ⟨(.type "super"), none, (.fields #[(.ref 45), (.ref 45), (.ref 45)]), #[]⟩
noncomputable def o48_5 : Params → Obj := fun P => ⟨(.type "builtin_function_or_method"), none, (.fields #[(.builtin "object.__init_subclass__"), (.ref 45)]), #[]⟩
/-- toks 243, size 49 -/
noncomputable def T_5 : Params → BT := fun P => (.node (boot_o_0 P) (.node (boot_o_1 P) (.node (o3_5 P) (.node (boot_o_7 P) (.node (o15_5 P) (.node (o31_5 P) .nil .nil) (.node (o47_5 P) .nil .nil)) (.node (o23_5 P) (.node (o39_5 P) .nil .nil) .nil)) (.node (o11_A P) (.node (o19_5 P) (.node (o35_5 P) .nil .nil) .nil) (.node (o27_5 P) (.node (o43_5 P) .nil .nil) .nil))) (.node (boot_o_5 P) (.node (boot_o_9 P) (.node (o17_5 P) (.node (o33_5 P) .nil .nil) .nil) (.node (o25_5 P) (.node (o41_5 P) .nil .nil) .nil)) (.node (o13_A P) (.node (o21_5 P) (.node (o37_5 P) .nil .nil) .nil) (.node (o29_5 P) (.node (o45_5 P) .nil .nil) .nil)))) (.node (o2_5 P) (.node (boot_o_4 P) (.node (boot_o_8 P) (.node (o16_5 P) (.node (o32_5 P) .nil .nil) (.node (o48_5 P) .nil .nil)) (.node (o24_5 P) (.node (o40_5 P) .nil .nil) .nil)) (.node (o12_5 P) (.node (o20_5 P) (.node (o36_5 P) .nil .nil) .nil) (.node (o28_5 P) (.node (o44_5 P) .nil .nil) .nil))) (.node (boot_o_6 P) (.node (boot_o_10 P) (.node (o18_5 P) (.node (o34_5 P) .nil .nil) .nil) (.node (o26_5 P) (.node (o42_5 P) .nil .nil) .nil)) (.node (o14_A P) (.node (o22_5 P) (.node (o38_5 P) .nil .nil) .nil) (.node (o30_5 P) (.node (o46_5 P) .nil .nil) .nil)))))
noncomputable def o3_8 : Params → Obj := fun P => ⟨(.type "dict"), none, (.dict #[⟨kH P (sO "__name__"), (.str (sO "__name__") 165), (.str (sO "cpy313.stringprep") 270)⟩, ⟨kH P (sO "__doc__"), (.str (sO "__doc__") 166), .none⟩, ⟨kH P (sO "__package__"), (.str (sO "__package__") 167), .none⟩, ⟨kH P (sO "__loader__"), (.str (sO "__loader__") 168), (.builtin "__main__.__loader__#opaque")⟩, ⟨kH P (sO "__spec__"), (.str (sO "__spec__") 169), .none⟩, ⟨kH P (sO "__annotations__"), (.str (sO "__annotations__") 170), (.ref 6)⟩, ⟨kH P (sO "__builtins__"), (.str (sO "__builtins__") 171), (.ref 4)⟩, ⟨kH P (sO "__file__"), (.str (sO "__file__") 173), (.str (sO "/claim/cut.py") 172)⟩, ⟨kH P (sO "__cached__"), (.str (sO "__cached__") 174), .none⟩, ⟨kH P (sO "_iter_escaped_chars"), (.str (sO "_iter_escaped_chars") 198), (.ref 21)⟩, ⟨kH P (sO "_strip_quoted_realnames"), (.str (sO "_strip_quoted_realnames") 210), (.ref 28)⟩, ⟨kH P (sO "_check_parenthesis"), (.str (sO "_check_parenthesis") 220), (.ref 35)⟩, ⟨kH P (sO "Error"), (.str (sO "Error") 242), (.ref 45)⟩, ⟨kH P (sO "error_reply"), (.str (sO "error_reply") 258), (.ref 58)⟩, ⟨kH P (sO "parse257"), (.str (sO "parse257") 269), (.ref 67)⟩] 15), #[]⟩
noncomputable def o12_8 : Params → Obj := fun P => ⟨.none, none, (.fields #[(.int (2) 0), (.int (0) 0), (.ref 20), (.int (15) 0), (.int (0) 0), (.ref 27), (.int (33) 0), (.int (0) 0), (.ref 34), (.int (45) 0), (.int (0) 0), (.ref 41), (.int (47) 0), (.int (0) 0), (.ref 54), (.int (49) 0), (.int (0) 0), (.ref 66)]), #[]⟩
noncomputable def o45_8 : Params → Obj := fun P => ⟨(.type "type"), none, (.cls { name := (sO "Error"), bases := [(.type "Exception")], mro := [(.ref 45), (.type "Exception"), (.type "BaseException"), (.type "object")], ns := 44, qualname := (sO "Error"), hasDict := true, slotNames := [], subclasses := [(.ref 58)], abstract := false, collection := none, hasDel := false }), #[some (.ref 36), none, some (.str (sO "Error") 223), some (.str (sO "Error") 231), some (.builtin "Exception.__new__"), some (.bool true)]⟩
noncomputable def o49_8 : Params → Obj := fun P => ⟨(.type "tuple"), none, (.seq #[(.ref 45)] 0), #[]⟩
noncomputable def o50_8 : Params → Obj := fun P => ⟨(.type "builtin_function_or_method"), none, (.fields #[(.builtin "type.__prepare__"), (.type "type")]), #[]⟩
noncomputable def o51_8 : Params → Obj := fun P => ⟨(.type "dict"), none, (.dict #[⟨kH P (sO "__module__"), (.str (sO "__module__") 250), (.str (sO "cpy313.ftplib") 221)⟩, ⟨kH P (sO "__qualname__"), (.str (sO "__qualname__") 252), (.str (sO "error_reply") 251)⟩, ⟨kH P (sO "__firstlineno__"), (.str (sO "__firstlineno__") 254), (.int (47) 253)⟩, ⟨kH P (sO "__static_attributes__"), (.str (sO "__static_attributes__") 255), (.ref 56)⟩] 4), #[]⟩
noncomputable def o52_8 : Params → Obj := fun P => ⟨(.type "tuple"), none, (.seq #[] 0), #[]⟩
noncomputable def o53_8 : Params → Obj := fun P => ⟨.none, none, (.fields #[]), #[]⟩
noncomputable def o54_8 : Params → Obj := fun P => ⟨(.type "code"), none, (.fields #[(.str (sO "error_reply") 245), (.str (sO "error_reply") 246), (.str (sO "/claim/cut.py") 247), (.int (47) 0), (.int (0) 0), (.int (0) 0), (.int (0) 0), (.int (0) 0), (.ref 52), (.bool false), (.int (181) 0), (.ref 53), .none, .none, .none, .none, (.int (248) 0), (.int (47) 0), (.str (sO "/claim/cut.py") 249)]), #[]⟩
noncomputable def o55_8 : Params → Obj := fun P => ⟨(.type "frame"), none, .plain, #[some (.ref 54), some (.ref 3), some (.ref 51), none, some (.str (sO "cpy313.ftplib") 221), none, some (.ref 0)]⟩
noncomputable def o56_8 : Params → Obj := fun P => ⟨(.type "tuple"), none, (.seq #[] 0), #[]⟩
noncomputable def o57_8 : Params → Obj := fun P => ⟨(.type "dict"), none, (.dict #[⟨kH P (sO "__module__"), (.str (sO "__module__") 250), (.str (sO "cpy313.ftplib") 221)⟩, ⟨kH P (sO "__firstlineno__"), (.str (sO "__firstlineno__") 254), (.int (47) 253)⟩, ⟨kH P (sO "__static_attributes__"), (.str (sO "__static_attributes__") 255), (.ref 56)⟩, ⟨kH P (sO "__doc__"), (.str (sO "__doc__") 256), .none⟩] 2), #[]⟩
noncomputable def o58_8 : Params → Obj := fun P => ⟨(.type "type"), none, (.cls { name := (sO "error_reply"), bases := [(.ref 45)], mro := [(.ref 58), (.ref 45), (.type "Exception"), (.type "BaseException"), (.type "object")], ns := 57, qualname := (sO "error_reply"), hasDict := true, slotNames := [], subclasses := [], abstract := false, collection := none, hasDel := false }), #[some (.ref 49), none, some (.str (sO "error_reply") 243), some (.str (sO "error_reply") 251), some (.builtin "Exception.__new__"), some (.bool true)]⟩
noncomputable def o59_8 : Params → Obj := fun P => ⟨(.type "super"), none, (.fields #[(.ref 58), (.ref 58), (.ref 58)]), #[]⟩
noncomputable def o60_8 : Params → Obj := fun P => ⟨(.type "builtin_function_or_method"), none, (.fields #[(.builtin "object.__init_subclass__"), (.ref 58)]), #[]⟩
noncomputable def o61_8 : Params → Obj := fun P => ⟨(.type "tuple"), none, (.seq #[] 0), #[]⟩
noncomputable def o62_8 : Params → Obj := fun P => ⟨.none, none, (.fields #[]), #[]⟩
noncomputable def o63_8 : Params → Obj := fun P => ⟨(.type "tuple"), none, (.seq #[(.str (sO "resp") 262), (.str (sO "dirname") 263), (.str (sO "i") 264), (.str (sO "n") 265), (.str (sO "c") 266)] 0), #[]⟩
noncomputable def o64_8 : Params → Obj := fun P => ⟨(.type "tuple"), none, (.seq #[] 0), #[]⟩
noncomputable def o65_8 : Params → Obj := fun P => ⟨.none, none, (.func { name := (sO "parse257"), qualname := (sO "parse257"), params := (fparams (stI 7)), body := .stmts (fbody (stI 7)), scope := fscope (stI 7), globals := 0, closure := [], defaults := .none, kwdefaults := .none, doc := .none, pyModule := .none, annotations := none, code := .none, closureTuple := .none, builtins := 0 }), #[]⟩
noncomputable def o66_8 : Params → Obj := fun P => ⟨(.type "code"), none, (.fields #[(.str (sO "parse257") 259), (.str (sO "parse257") 260), (.str (sO "/claim/cut.py") 261), (.int (49) 0), (.int (1) 0), (.int (0) 0), (.int (0) 0), (.int (3) 0), (.ref 61), (.bool true), (.int (181) 0), (.ref 62), .none, (.ref 63), (.ref 64), (.ref 65), (.int (267) 0), (.int (49) 0), (.str (sO "/claim/cut.py") 268)]), #[]⟩
noncomputable def o67_8 : Params → Obj := fun P => ⟨(.type "function"), none, (.func { name := (sO "parse257"), qualname := (sO "parse257"), params := (fparams (stI 7)), body := .stmts (fbody (stI 7)), scope := fscope (stI 7), globals := 3, closure := [], defaults := .none, kwdefaults := .none, doc := .none, pyModule := (.str (sO "cpy313.ftplib") 221), annotations := none, code := (.ref 66), closureTuple := .none, builtins := 0 }), #[]⟩
/-- toks 272, size 68 -/
noncomputable def T_8 : Params → BT := fun P => (.node (boot_o_0 P) (.node (boot_o_1 P) (.node (o3_8 P) (.node (boot_o_7 P) (.node (o15_5 P) (.node (o31_5 P) (.node (o63_8 P) .nil .nil) .nil) (.node (o47_5 P) .nil .nil)) (.node (o23_5 P) (.node (o39_5 P) .nil .nil) (.node (o55_8 P) .nil .nil))) (.node (o11_A P) (.node (o19_5 P) (.node (o35_5 P) (.node (o67_8 P) .nil .nil) .nil) (.node (o51_8 P) .nil .nil)) (.node (o27_5 P) (.node (o43_5 P) .nil .nil) (.node (o59_8 P) .nil .nil)))) (.node (boot_o_5 P) (.node (boot_o_9 P) (.node (o17_5 P) (.node (o33_5 P) (.node (o65_8 P) .nil .nil) .nil) (.node (o49_8 P) .nil .nil)) (.node (o25_5 P) (.node (o41_5 P) .nil .nil) (.node (o57_8 P) .nil .nil))) (.node (o13_A P) (.node (o21_5 P) (.node (o37_5 P) .nil .nil) (.node (o53_8 P) .nil .nil)) (.node (o29_5 P) (.node (o45_8 P) .nil .nil) (.node (o61_8 P) .nil .nil))))) (.node (o2_5 P) (.node (boot_o_4 P) (.node (boot_o_8 P) (.node (o16_5 P) (.node (o32_5 P) (.node (o64_8 P) .nil .nil) .nil) (.node (o48_5 P) .nil .nil)) (.node (o24_5 P) (.node (o40_5 P) .nil .nil) (.node (o56_8 P) .nil .nil))) (.node (o12_8 P) (.node (o20_5 P) (.node (o36_5 P) .nil .nil) (.node (o52_8 P) .nil .nil)) (.node (o28_5 P) (.node (o44_5 P) .nil .nil) (.node (o60_8 P) .nil .nil)))) (.node (boot_o_6 P) (.node (boot_o_10 P) (.node (o18_5 P) (.node (o34_5 P) (.node (o66_8 P) .nil .nil) .nil) (.node (o50_8 P) .nil .nil)) (.node (o26_5 P) (.node (o42_5 P) .nil .nil) (.node (o58_8 P) .nil .nil))) (.node (o14_A P) (.node (o22_5 P) (.node (o38_5 P) .nil .nil) (.node (o54_8 P) .nil .nil)) (.node (o30_5 P) (.node (o46_5 P) .nil .nil) (.node (o62_8 P) .nil .nil))))))
noncomputable def o3_9 : Params → Obj := fun P => ⟨(.type "dict"), none, (.dict #[⟨kH P (sO "__name__"), (.str (sO "__name__") 165), (.str (sO "cpy313.stringprep") 270)⟩, ⟨kH P (sO "__doc__"), (.str (sO "__doc__") 166), .none⟩, ⟨kH P (sO "__package__"), (.str (sO "__package__") 167), .none⟩, ⟨kH P (sO "__loader__"), (.str (sO "__loader__") 168), (.builtin "__main__.__loader__#opaque")⟩, ⟨kH P (sO "__spec__"), (.str (sO "__spec__") 169), .none⟩, ⟨kH P (sO "__annotations__"), (.str (sO "__annotations__") 170), (.ref 6)⟩, ⟨kH P (sO "__builtins__"), (.str (sO "__builtins__") 171), (.ref 4)⟩, ⟨kH P (sO "__file__"), (.str (sO "__file__") 173), (.str (sO "/claim/cut.py") 172)⟩, ⟨kH P (sO "__cached__"), (.str (sO "__cached__") 174), .none⟩, ⟨kH P (sO "_iter_escaped_chars"), (.str (sO "_iter_escaped_chars") 198), (.ref 21)⟩, ⟨kH P (sO "_strip_quoted_realnames"), (.str (sO "_strip_quoted_realnames") 210), (.ref 28)⟩, ⟨kH P (sO "_check_parenthesis"), (.str (sO "_check_parenthesis") 220), (.ref 35)⟩, ⟨kH P (sO "Error"), (.str (sO "Error") 242), (.ref 45)⟩, ⟨kH P (sO "error_reply"), (.str (sO "error_reply") 258), (.ref 58)⟩, ⟨kH P (sO "parse257"), (.str (sO "parse257") 269), (.ref 67)⟩, ⟨kH P (sO "b1_set"), (.str (sO "b1_set") 331), (.ref 75)⟩] 16), #[]⟩
noncomputable def o68_9 : Params → Obj := fun P => ⟨(.type "list"), none, (.seq #[(.int (173) 272), (.int (847) 273), (.int (6150) 274), (.int (6155) 275), (.int (6156) 276), (.int (6157) 277), (.int (8203) 278), (.int (8204) 279), (.int (8205) 280), (.int (8288) 281), (.int (65279) 282)] 0), #[]⟩
noncomputable def o69_9 : Params → Obj := fun P => ⟨(.type "range"), none, (.fields #[(.int (65024) 283), (.int (65040) 284), (.int (1) 285)]), #[]⟩
noncomputable def o70_9 : Params → Obj := fun P => ⟨(.type "list"), none, (.seq #[(.int (65024) 288), (.int (65025) 289), (.int (65026) 290), (.int (65027) 291), (.int (65028) 292), (.int (65029) 293), (.int (65030) 294), (.int (65031) 295), (.int (65032) 296), (.int (65033) 297), (.int (65034) 298), (.int (65035) 299), (.int (65036) 300), (.int (65037) 301), (.int (65038) 302), (.int (65039) 303)] 18), #[]⟩
noncomputable def o71_9 : Params → Obj := fun P => ⟨(.type "range_iterator"), none, (.fields #[(.int (65040) 0), (.int (0) 0), (.int (1) 0)]), #[]⟩
noncomputable def o72_9 : Params → Obj := fun P => ⟨(.type "tuple"), none, (.seq #[] 0), #[]⟩
noncomputable def o73_9 : Params → Obj := fun P => ⟨(.type "StopIteration"), none, (.fields #[(.ref 72), .none, .none, .none, (.bool false), .none]), #[]⟩
noncomputable def o74_9 : Params → Obj := fun P => ⟨(.type "list"), none, (.seq #[(.int (173) 272), (.int (847) 273), (.int (6150) 274), (.int (6155) 275), (.int (6156) 276), (.int (6157) 277), (.int (8203) 278), (.int (8204) 279), (.int (8205) 280), (.int (8288) 281), (.int (65279) 282), (.int (65024) 288), (.int (65025) 289), (.int (65026) 290), (.int (65027) 291), (.int (65028) 292), (.int (65029) 293), (.int (65030) 294), (.int (65031) 295), (.int (65032) 296), (.int (65033) 297), (.int (65034) 298), (.int (65035) 299), (.int (65036) 300), (.int (65037) 301), (.int (65038) 302), (.int (65039) 303)] 0), #[]⟩
noncomputable def o75_9 : Params → Obj := fun P => ⟨(.type "set"), none, (.set #[(65024, (.int (65024) 288)), (65025, (.int (65025) 289)), (65026, (.int (65026) 290)), (65027, (.int (65027) 291)), (65028, (.int (65028) 292)), (65029, (.int (65029) 293)), (6150, (.int (6150) 274)), (65030, (.int (65030) 294)), (65031, (.int (65031) 295)), (65032, (.int (65032) 296)), (65033, (.int (65033) 297)), (6155, (.int (6155) 275)), (6156, (.int (6156) 276)), (6157, (.int (6157) 277)), (8203, (.int (8203) 278)), (8204, (.int (8204) 279)), (8205, (.int (8205) 280)), (65034, (.int (65034) 298)), (65035, (.int (65035) 299)), (65036, (.int (65036) 300)), (65037, (.int (65037) 301)), (65038, (.int (65038) 302)), (65039, (.int (65039) 303)), (173, (.int (173) 272)), (847, (.int (847) 273)), (8288, (.int (8288) 281)), (65279, (.int (65279) 282))] 29 ⟨127, #[0, 1, 2, 3, 4, 5, 6, 7, 8, 9, 10, 11, 12, 13, 14, 15, 16, 17, 18, 19, 20, 21, 22, 45, 79, 96, 127], #[], 0, !P.followText "set-order", 2, true⟩), #[]⟩
noncomputable def o76_9 : Params → Obj := fun P => ⟨(.type "list_iterator"), none, (.fields #[.none, (.int (27) 0)]), #[]⟩
noncomputable def o77_9 : Params → Obj := fun P => ⟨(.type "tuple"), none, (.seq #[] 0), #[]⟩
noncomputable def o78_9 : Params → Obj := fun P => ⟨(.type "StopIteration"), none, (.fields #[(.ref 77), .none, .none, .none, (.bool false), .none]), #[]⟩
/-- toks 332, size 79 -/
noncomputable def T_9 : Params → BT := fun P => (.node (boot_o_0 P) (.node (boot_o_1 P) (.node (o3_9 P) (.node (boot_o_7 P) (.node (o15_5 P) (.node (o31_5 P) (.node (o63_8 P) .nil .nil) .nil) (.node (o47_5 P) .nil .nil)) (.node (o23_5 P) (.node (o39_5 P) (.node (o71_9 P) .nil .nil) .nil) (.node (o55_8 P) .nil .nil))) (.node (o11_A P) (.node (o19_5 P) (.node (o35_5 P) (.node (o67_8 P) .nil .nil) .nil) (.node (o51_8 P) .nil .nil)) (.node (o27_5 P) (.node (o43_5 P) (.node (o75_9 P) .nil .nil) .nil) (.node (o59_8 P) .nil .nil)))) (.node (boot_o_5 P) (.node (boot_o_9 P) (.node (o17_5 P) (.node (o33_5 P) (.node (o65_8 P) .nil .nil) .nil) (.node (o49_8 P) .nil .nil)) (.node (o25_5 P) (.node (o41_5 P) (.node (o73_9 P) .nil .nil) .nil) (.node (o57_8 P) .nil .nil))) (.node (o13_A P) (.node (o21_5 P) (.node (o37_5 P) (.node (o69_9 P) .nil .nil) .nil) (.node (o53_8 P) .nil .nil)) (.node (o29_5 P) (.node (o45_8 P) (.node (o77_9 P) .nil .nil) .nil) (.node (o61_8 P) .nil .nil))))) (.node (o2_5 P) (.node (boot_o_4 P) (.node (boot_o_8 P) (.node (o16_5 P) (.node (o32_5 P) (.node (o64_8 P) .nil .nil) .nil) (.node (o48_5 P) .nil .nil)) (.node (o24_5 P) (.node (o40_5 P) (.node (o72_9 P) .nil .nil) .nil) (.node (o56_8 P) .nil .nil))) (.node (o12_8 P) (.node (o20_5 P) (.node (o36_5 P) (.node (o68_9 P) .nil .nil) .nil) (.node (o52_8 P) .nil .nil)) (.node (o28_5 P) (.node (o44_5 P) (.node (o76_9 P) .nil .nil) .nil) (.node (o60_8 P) .nil .nil)))) (.node (boot_o_6 P) (.node (boot_o_10 P) (.node (o18_5 P) (.node (o34_5 P) (.node (o66_8 P) .nil .nil) .nil) (.node (o50_8 P) .nil .nil)) (.node (o26_5 P) (.node (o42_5 P) (.node (o74_9 P) .nil .nil) .nil) (.node (o58_8 P) .nil .nil))) (.node (o14_A P) (.node (o22_5 P) (.node (o38_5 P) (.node (o70_9 P) .nil .nil) .nil) (.node (o54_8 P) .nil .nil)) (.node (o30_5 P) (.node (o46_5 P) (.node (o78_9 P) .nil .nil) .nil) (.node (o62_8 P) .nil .nil))))))
noncomputable def o3_10 : Params → Obj := fun P => ⟨(.type "dict"), none, (.dict #[⟨kH P (sO "__name__"), (.str (sO "__name__") 165), (.str (sO "cpy313.stringprep") 270)⟩, ⟨kH P (sO "__doc__"), (.str (sO "__doc__") 166), .none⟩, ⟨kH P (sO "__package__"), (.str (sO "__package__") 167), .none⟩, ⟨kH P (sO "__loader__"), (.str (sO "__loader__") 168), (.builtin "__main__.__loader__#opaque")⟩, ⟨kH P (sO "__spec__"), (.str (sO "__spec__") 169), .none⟩, ⟨kH P (sO "__annotations__"), (.str (sO "__annotations__") 170), (.ref 6)⟩, ⟨kH P (sO "__builtins__"), (.str (sO "__builtins__") 171), (.ref 4)⟩, ⟨kH P (sO "__file__"), (.str (sO "__file__") 173), (.str (sO "/claim/cut.py") 172)⟩, ⟨kH P (sO "__cached__"), (.str (sO "__cached__") 174), .none⟩, ⟨kH P (sO "_iter_escaped_chars"), (.str (sO "_iter_escaped_chars") 198), (.ref 21)⟩, ⟨kH P (sO "_strip_quoted_realnames"), (.str (sO "_strip_quoted_realnames") 210), (.ref 28)⟩, ⟨kH P (sO "_check_parenthesis"), (.str (sO "_check_parenthesis") 220), (.ref 35)⟩, ⟨kH P (sO "Error"), (.str (sO "Error") 242), (.ref 45)⟩, ⟨kH P (sO "error_reply"), (.str (sO "error_reply") 258), (.ref 58)⟩, ⟨kH P (sO "parse257"), (.str (sO "parse257") 269), (.ref 67)⟩, ⟨kH P (sO "b1_set"), (.str (sO "b1_set") 331), (.ref 75)⟩, ⟨kH P (sO "in_table_b1"), (.str (sO "in_table_b1") 338), (.ref 85)⟩] 17), #[]⟩
noncomputable def o12_10 : Params → Obj := fun P => ⟨.none, none, (.fields #[(.int (2) 0), (.int (0) 0), (.ref 20), (.int (15) 0), (.int (0) 0), (.ref 27), (.int (33) 0), (.int (0) 0), (.ref 34), (.int (45) 0), (.int (0) 0), (.ref 41), (.int (47) 0), (.int (0) 0), (.ref 54), (.int (49) 0), (.int (0) 0), (.ref 66), (.int (68) 0), (.int (0) 0), (.ref 84)]), #[]⟩
noncomputable def o79_10 : Params → Obj := fun P => ⟨(.type "tuple"), none, (.seq #[] 0), #[]⟩
noncomputable def o80_10 : Params → Obj := fun P => ⟨.none, none, (.fields #[]), #[]⟩
noncomputable def o81_10 : Params → Obj := fun P => ⟨(.type "tuple"), none, (.seq #[(.str (sO "code") 335)] 0), #[]⟩
noncomputable def o82_10 : Params → Obj := fun P => ⟨(.type "tuple"), none, (.seq #[] 0), #[]⟩
noncomputable def o83_10 : Params → Obj := fun P => ⟨.none, none, (.func { name := (sO "in_table_b1"), qualname := (sO "in_table_b1"), params := (fparams (stI 10)), body := .stmts (fbody (stI 10)), scope := fscope (stI 10), globals := 0, closure := [], defaults := .none, kwdefaults := .none, doc := .none, pyModule := .none, annotations := none, code := .none, closureTuple := .none, builtins := 0 }), #[]⟩
noncomputable def o84_10 : Params → Obj := fun P => ⟨(.type "code"), none, (.fields #[(.str (sO "in_table_b1") 332), (.str (sO "in_table_b1") 333), (.str (sO "/claim/cut.py") 334), (.int (68) 0), (.int (1) 0), (.int (0) 0), (.int (0) 0), (.int (3) 0), (.ref 79), (.bool true), (.int (181) 0), (.ref 80), .none, (.ref 81), (.ref 82), (.ref 83), (.int (336) 0), (.int (68) 0), (.str (sO "/claim/cut.py") 337)]), #[]⟩
noncomputable def o85_10 : Params → Obj := fun P => ⟨(.type "function"), none, (.func { name := (sO "in_table_b1"), qualname := (sO "in_table_b1"), params := (fparams (stI 10)), body := .stmts (fbody (stI 10)), scope := fscope (stI 10), globals := 3, closure := [], defaults := .none, kwdefaults := .none, doc := .none, pyModule := (.str (sO "cpy313.stringprep") 270), annotations := none, code := (.ref 84), closureTuple := .none, builtins := 0 }), #[]⟩
/-- toks 339, size 86 -/
noncomputable def T_10 : Params → BT := fun P => (.node (boot_o_0 P) (.node (boot_o_1 P) (.node (o3_10 P) (.node (boot_o_7 P) (.node (o15_5 P) (.node (o31_5 P) (.node (o63_8 P) .nil .nil) .nil) (.node (o47_5 P) (.node (o79_10 P) .nil .nil) .nil)) (.node (o23_5 P) (.node (o39_5 P) (.node (o71_9 P) .nil .nil) .nil) (.node (o55_8 P) .nil .nil))) (.node (o11_A P) (.node (o19_5 P) (.node (o35_5 P) (.node (o67_8 P) .nil .nil) .nil) (.node (o51_8 P) (.node (o83_10 P) .nil .nil) .nil)) (.node (o27_5 P) (.node (o43_5 P) (.node (o75_9 P) .nil .nil) .nil) (.node (o59_8 P) .nil .nil)))) (.node (boot_o_5 P) (.node (boot_o_9 P) (.node (o17_5 P) (.node (o33_5 P) (.node (o65_8 P) .nil .nil) .nil) (.node (o49_8 P) (.node (o81_10 P) .nil .nil) .nil)) (.node (o25_5 P) (.node (o41_5 P) (.node (o73_9 P) .nil .nil) .nil) (.node (o57_8 P) .nil .nil))) (.node (o13_A P) (.node (o21_5 P) (.node (o37_5 P) (.node (o69_9 P) .nil .nil) .nil) (.node (o53_8 P) (.node (o85_10 P) .nil .nil) .nil)) (.node (o29_5 P) (.node (o45_8 P) (.node (o77_9 P) .nil .nil) .nil) (.node (o61_8 P) .nil .nil))))) (.node (o2_5 P) (.node (boot_o_4 P) (.node (boot_o_8 P) (.node (o16_5 P) (.node (o32_5 P) (.node (o64_8 P) .nil .nil) .nil) (.node (o48_5 P) (.node (o80_10 P) .nil .nil) .nil)) (.node (o24_5 P) (.node (o40_5 P) (.node (o72_9 P) .nil .nil) .nil) (.node (o56_8 P) .nil .nil))) (.node (o12_10 P) (.node (o20_5 P) (.node (o36_5 P) (.node (o68_9 P) .nil .nil) .nil) (.node (o52_8 P) (.node (o84_10 P) .nil .nil) .nil)) (.node (o28_5 P) (.node (o44_5 P) (.node (o76_9 P) .nil .nil) .nil) (.node (o60_8 P) .nil .nil)))) (.node (boot_o_6 P) (.node (boot_o_10 P) (.node (o18_5 P) (.node (o34_5 P) (.node (o66_8 P) .nil .nil) .nil) (.node (o50_8 P) (.node (o82_10 P) .nil .nil) .nil)) (.node (o26_5 P) (.node (o42_5 P) (.node (o74_9 P) .nil .nil) .nil) (.node (o58_8 P) .nil .nil))) (.node (o14_A P) (.node (o22_5 P) (.node (o38_5 P) (.node (o70_9 P) .nil .nil) .nil) (.node (o54_8 P) .nil .nil)) (.node (o30_5 P) (.node (o46_5 P) (.node (o78_9 P) .nil .nil) .nil) (.node (o62_8 P) .nil .nil))))))
noncomputable def o3_11 : Params → Obj := fun P => ⟨(.type "dict"), none, (.dict #[⟨kH P (sO "__name__"), (.str (sO "__name__") 165), (.str (sO "cpy313.stringprep") 270)⟩, ⟨kH P (sO "__doc__"), (.str (sO "__doc__") 166), .none⟩, ⟨kH P (sO "__package__"), (.str (sO "__package__") 167), .none⟩, ⟨kH P (sO "__loader__"), (.str (sO "__loader__") 168), (.builtin "__main__.__loader__#opaque")⟩, ⟨kH P (sO "__spec__"), (.str (sO "__spec__") 169), .none⟩, ⟨kH P (sO "__annotations__"), (.str (sO "__annotations__") 170), (.ref 6)⟩, ⟨kH P (sO "__builtins__"), (.str (sO "__builtins__") 171), (.ref 4)⟩, ⟨kH P (sO "__file__"), (.str (sO "__file__") 173), (.str (sO "/claim/cut.py") 172)⟩, ⟨kH P (sO "__cached__"), (.str (sO "__cached__") 174), .none⟩, ⟨kH P (sO "_iter_escaped_chars"), (.str (sO "_iter_escaped_chars") 198), (.ref 21)⟩, ⟨kH P (sO "_strip_quoted_realnames"), (.str (sO "_strip_quoted_realnames") 210), (.ref 28)⟩, ⟨kH P (sO "_check_parenthesis"), (.str (sO "_check_parenthesis") 220), (.ref 35)⟩, ⟨kH P (sO "Error"), (.str (sO "Error") 242), (.ref 45)⟩, ⟨kH P (sO "error_reply"), (.str (sO "error_reply") 258), (.ref 58)⟩, ⟨kH P (sO "parse257"), (.str (sO "parse257") 269), (.ref 67)⟩, ⟨kH P (sO "b1_set"), (.str (sO "b1_set") 331), (.ref 75)⟩, ⟨kH P (sO "in_table_b1"), (.str (sO "in_table_b1") 338), (.ref 85)⟩, ⟨kH P (sO "b3_exceptions"), (.str (sO "b3_exceptions") 2289), (.ref 86)⟩] 18), #[]⟩
/-- toks 2290, size 125 -/
noncomputable def T_11 : Params → BT := fun P => (.node (boot_o_0 P) (.node (boot_o_1 P) (.node (o3_11 P) (.node (boot_o_7 P) (.node (o15_5 P) (.node (o31_5 P) (.node (o63_8 P) .nil .nil) (.node (b3o 9) .nil .nil)) (.node (o47_5 P) (.node (o79_10 P) .nil .nil) (.node (b3o 25) .nil .nil))) (.node (o23_5 P) (.node (o39_5 P) (.node (o71_9 P) .nil .nil) (.node (b3o 17) .nil .nil)) (.node (o55_8 P) (.node (b3o 1) .nil .nil) (.node (b3o 33) .nil .nil)))) (.node (o11_A P) (.node (o19_5 P) (.node (o35_5 P) (.node (o67_8 P) .nil .nil) (.node (b3o 13) .nil .nil)) (.node (o51_8 P) (.node (o83_10 P) .nil .nil) (.node (b3o 29) .nil .nil))) (.node (o27_5 P) (.node (o43_5 P) (.node (o75_9 P) .nil .nil) (.node (b3o 21) .nil .nil)) (.node (o59_8 P) (.node (b3o 5) .nil .nil) (.node (b3o 37) .nil .nil))))) (.node (boot_o_5 P) (.node (boot_o_9 P) (.node (o17_5 P) (.node (o33_5 P) (.node (o65_8 P) .nil .nil) (.node (b3o 11) .nil .nil)) (.node (o49_8 P) (.node (o81_10 P) .nil .nil) (.node (b3o 27) .nil .nil))) (.node (o25_5 P) (.node (o41_5 P) (.node (o73_9 P) .nil .nil) (.node (b3o 19) .nil .nil)) (.node (o57_8 P) (.node (b3o 3) .nil .nil) (.node (b3o 35) .nil .nil)))) (.node (o13_A P) (.node (o21_5 P) (.node (o37_5 P) (.node (o69_9 P) .nil .nil) (.node (b3o 15) .nil .nil)) (.node (o53_8 P) (.node (o85_10 P) .nil .nil) (.node (b3o 31) .nil .nil))) (.node (o29_5 P) (.node (o45_8 P) (.node (o77_9 P) .nil .nil) (.node (b3o 23) .nil .nil)) (.node (o61_8 P) (.node (b3o 7) .nil .nil) .nil))))) (.node (o2_5 P) (.node (boot_o_4 P) (.node (boot_o_8 P) (.node (o16_5 P) (.node (o32_5 P) (.node (o64_8 P) .nil .nil) (.node (b3o 10) .nil .nil)) (.node (o48_5 P) (.node (o80_10 P) .nil .nil) (.node (b3o 26) .nil .nil))) (.node (o24_5 P) (.node (o40_5 P) (.node (o72_9 P) .nil .nil) (.node (b3o 18) .nil .nil)) (.node (o56_8 P) (.node (b3o 2) .nil .nil) (.node (b3o 34) .nil .nil)))) (.node (o12_10 P) (.node (o20_5 P) (.node (o36_5 P) (.node (o68_9 P) .nil .nil) (.node (b3o 14) .nil .nil)) (.node (o52_8 P) (.node (o84_10 P) .nil .nil) (.node (b3o 30) .nil .nil))) (.node (o28_5 P) (.node (o44_5 P) (.node (o76_9 P) .nil .nil) (.node (b3o 22) .nil .nil)) (.node (o60_8 P) (.node (b3o 6) .nil .nil) (.node (b3o 38) .nil .nil))))) (.node (boot_o_6 P) (.node (boot_o_10 P) (.node (o18_5 P) (.node (o34_5 P) (.node (o66_8 P) .nil .nil) (.node (b3o 12) .nil .nil)) (.node (o50_8 P) (.node (o82_10 P) .nil .nil) (.node (b3o 28) .nil .nil))) (.node (o26_5 P) (.node (o42_5 P) (.node (o74_9 P) .nil .nil) (.node (b3o 20) .nil .nil)) (.node (o58_8 P) (.node (b3o 4) .nil .nil) (.node (b3o 36) .nil .nil)))) (.node (o14_A P) (.node (o22_5 P) (.node (o38_5 P) (.node (o70_9 P) .nil .nil) (.node (b3o 16) .nil .nil)) (.node (o54_8 P) (.node (b3o 0) .nil .nil) (.node (b3o 32) .nil .nil))) (.node (o30_5 P) (.node (o46_5 P) (.node (o78_9 P) .nil .nil) (.node (b3o 24) .nil .nil)) (.node (o62_8 P) (.node (b3o 8) .nil .nil) .nil))))))
noncomputable def o3_18 : Params → Obj := fun P => ⟨(.type "dict"), none, (.dict #[⟨kH P (sO "__name__"), (.str (sO "__name__") 165), (.str (sO "law_wc0013_01") 2298)⟩, ⟨kH P (sO "__doc__"), (.str (sO "__doc__") 166), .none⟩, ⟨kH P (sO "__package__"), (.str (sO "__package__") 167), .none⟩, ⟨kH P (sO "__loader__"), (.str (sO "__loader__") 168), (.builtin "__main__.__loader__#opaque")⟩, ⟨kH P (sO "__spec__"), (.str (sO "__spec__") 169), .none⟩, ⟨kH P (sO "__annotations__"), (.str (sO "__annotations__") 170), (.ref 6)⟩, ⟨kH P (sO "__builtins__"), (.str (sO "__builtins__") 171), (.ref 4)⟩, ⟨kH P (sO "__file__"), (.str (sO "__file__") 173), (.str (sO "/claim/cut.py") 172)⟩, ⟨kH P (sO "__cached__"), (.str (sO "__cached__") 174), .none⟩, ⟨kH P (sO "_iter_escaped_chars"), (.str (sO "_iter_escaped_chars") 198), (.ref 21)⟩, ⟨kH P (sO "_strip_quoted_realnames"), (.str (sO "_strip_quoted_realnames") 210), (.ref 28)⟩, ⟨kH P (sO "_check_parenthesis"), (.str (sO "_check_parenthesis") 220), (.ref 35)⟩, ⟨kH P (sO "Error"), (.str (sO "Error") 242), (.ref 45)⟩, ⟨kH P (sO "error_reply"), (.str (sO "error_reply") 258), (.ref 58)⟩, ⟨kH P (sO "parse257"), (.str (sO "parse257") 269), (.ref 67)⟩, ⟨kH P (sO "b1_set"), (.str (sO "b1_set") 331), (.ref 75)⟩, ⟨kH P (sO "in_table_b1"), (.str (sO "in_table_b1") 338), (.ref 85)⟩, ⟨kH P (sO "b3_exceptions"), (.str (sO "b3_exceptions") 2289), (.ref 86)⟩, ⟨kH P (sO "map_table_b3"), (.str (sO "map_table_b3") 2297), (.ref 131)⟩, ⟨kH P (sO "_law_drawn"), (.str (sO "_law_drawn") 2305), (.ref 136)⟩, ⟨kH P (sO "_law_read"), (.str (sO "_law_read") 2311), (.ref 141)⟩, ⟨kH P (sO "_law_end"), (.str (sO "_law_end") 2320), (.ref 148)⟩, ⟨kH P (sO "_law_told"), (.str (sO "_law_told") 2330), (.ref 155)⟩, ⟨kH P (sO "law"), (.str (sO "law") 2336), (.ref 160)⟩] 24), #[]⟩
noncomputable def o12_18 : Params → Obj := fun P => ⟨.none, none, (.fields #[(.int (2) 0), (.int (0) 0), (.ref 20), (.int (15) 0), (.int (0) 0), (.ref 27), (.int (33) 0), (.int (0) 0), (.ref 34), (.int (45) 0), (.int (0) 0), (.ref 41), (.int (47) 0), (.int (0) 0), (.ref 54), (.int (49) 0), (.int (0) 0), (.ref 66), (.int (68) 0), (.int (0) 0), (.ref 84), (.int (71) 0), (.int (0) 0), (.ref 130), (.int (77) 0), (.int (0) 0), (.ref 135), (.int (85) 0), (.int (0) 0), (.ref 140), (.int (87) 0), (.int (0) 0), (.ref 147), (.int (92) 0), (.int (0) 0), (.ref 154), (.int (98) 0), (.int (0) 0), (.ref 159)]), #[]⟩
noncomputable def o125_18 : Params → Obj := fun P => ⟨(.type "tuple"), none, (.seq #[] 0), #[]⟩
noncomputable def o126_18 : Params → Obj := fun P => ⟨.none, none, (.fields #[]), #[]⟩
noncomputable def o127_18 : Params → Obj := fun P => ⟨(.type "tuple"), none, (.seq #[(.str (sO "code") 2293), (.str (sO "r") 2294)] 0), #[]⟩
noncomputable def o128_18 : Params → Obj := fun P => ⟨(.type "tuple"), none, (.seq #[] 0), #[]⟩
noncomputable def o129_18 : Params → Obj := fun P => ⟨.none, none, (.func { name := (sO "map_table_b3"), qualname := (sO "map_table_b3"), params := (fparams (stI 12)), body := .stmts (fbody (stI 12)), scope := fscope (stI 12), globals := 0, closure := [], defaults := .none, kwdefaults := .none, doc := .none, pyModule := .none, annotations := none, code := .none, closureTuple := .none, builtins := 0 }), #[]⟩
noncomputable def o130_18 : Params → Obj := fun P => ⟨(.type "code"), none, (.fields #[(.str (sO "map_table_b3") 2290), (.str (sO "map_table_b3") 2291), (.str (sO "/claim/cut.py") 2292), (.int (71) 0), (.int (1) 0), (.int (0) 0), (.int (0) 0), (.int (3) 0), (.ref 125), (.bool true), (.int (181) 0), (.ref 126), .none, (.ref 127), (.ref 128), (.ref 129), (.int (2295) 0), (.int (71) 0), (.str (sO "/claim/cut.py") 2296)]), #[]⟩
noncomputable def o131_18 : Params → Obj := fun P => ⟨(.type "function"), none, (.func { name := (sO "map_table_b3"), qualname := (sO "map_table_b3"), params := (fparams (stI 12)), body := .stmts (fbody (stI 12)), scope := fscope (stI 12), globals := 3, closure := [], defaults := .none, kwdefaults := .none, doc := .none, pyModule := (.str (sO "cpy313.stringprep") 270), annotations := none, code := (.ref 130), closureTuple := .none, builtins := 0 }), #[]⟩
noncomputable def o132_18 : Params → Obj := fun P => ⟨(.type "tuple"), none, (.seq #[] 0), #[]⟩
noncomputable def o133_18 : Params → Obj := fun P => ⟨.none, none, (.fields #[]), #[]⟩
noncomputable def o134_18 : Params → Obj := fun P => ⟨.none, none, (.func { name := (sO "_law_drawn"), qualname := (sO "_law_drawn"), params := (fparams (stI 14)), body := .stmts (fbody (stI 14)), scope := fscope (stI 14), globals := 0, closure := [], defaults := .none, kwdefaults := .none, doc := .none, pyModule := .none, annotations := none, code := .none, closureTuple := .none, builtins := 0 }), #[]⟩
noncomputable def o135_18 : Params → Obj := fun P => ⟨(.type "code"), none, (.fields #[(.str (sO "_law_drawn") 2300), (.str (sO "_law_drawn") 2301), (.str (sO "/claim/cut.py") 2302), (.int (77) 0), (.int (1) 0), (.int (0) 0), (.int (0) 0), (.int (3) 0), (.ref 132), (.bool true), (.int (181) 0), (.ref 133), .none, .none, .none, (.ref 134), (.int (2303) 0), (.int (77) 0), (.str (sO "/claim/cut.py") 2304)]), #[]⟩
noncomputable def o136_18 : Params → Obj := fun P => ⟨(.type "function"), none, (.func { name := (sO "_law_drawn"), qualname := (sO "_law_drawn"), params := (fparams (stI 14)), body := .stmts (fbody (stI 14)), scope := fscope (stI 14), globals := 3, closure := [], defaults := .none, kwdefaults := .none, doc := .none, pyModule := (.str (sO "law_wc0013_01") 2298), annotations := none, code := (.ref 135), closureTuple := .none, builtins := 0 }), #[]⟩
noncomputable def o137_18 : Params → Obj := fun P => ⟨(.type "tuple"), none, (.seq #[] 0), #[]⟩
noncomputable def o138_18 : Params → Obj := fun P => ⟨.none, none, (.fields #[]), #[]⟩
noncomputable def o139_18 : Params → Obj := fun P => ⟨.none, none, (.func { name := (sO "_law_read"), qualname := (sO "_law_read"), params := (fparams (stI 15)), body := .stmts (fbody (stI 15)), scope := fscope (stI 15), globals := 0, closure := [], defaults := .none, kwdefaults := .none, doc := .none, pyModule := .none, annotations := none, code := .none, closureTuple := .none, builtins := 0 }), #[]⟩
noncomputable def o140_18 : Params → Obj := fun P => ⟨(.type "code"), none, (.fields #[(.str (sO "_law_read") 2306), (.str (sO "_law_read") 2307), (.str (sO "/claim/cut.py") 2308), (.int (85) 0), (.int (1) 0), (.int (0) 0), (.int (0) 0), (.int (3) 0), (.ref 137), (.bool true), (.int (181) 0), (.ref 138), .none, .none, .none, (.ref 139), (.int (2309) 0), (.int (85) 0), (.str (sO "/claim/cut.py") 2310)]), #[]⟩
noncomputable def o141_18 : Params → Obj := fun P => ⟨(.type "function"), none, (.func { name := (sO "_law_read"), qualname := (sO "_law_read"), params := (fparams (stI 15)), body := .stmts (fbody (stI 15)), scope := fscope (stI 15), globals := 3, closure := [], defaults := .none, kwdefaults := .none, doc := .none, pyModule := (.str (sO "law_wc0013_01") 2298), annotations := none, code := (.ref 140), closureTuple := .none, builtins := 0 }), #[]⟩
noncomputable def o142_18 : Params → Obj := fun P => ⟨(.type "tuple"), none, (.seq #[] 0), #[]⟩
noncomputable def o143_18 : Params → Obj := fun P => ⟨.none, none, (.fields #[]), #[]⟩
noncomputable def o144_18 : Params → Obj := fun P => ⟨(.type "tuple"), none, (.seq #[(.str (sO "written") 2315), (.str (sO "k") 2316), (.str (sO "j") 2317)] 0), #[]⟩
noncomputable def o145_18 : Params → Obj := fun P => ⟨(.type "tuple"), none, (.seq #[] 0), #[]⟩
noncomputable def o146_18 : Params → Obj := fun P => ⟨.none, none, (.func { name := (sO "_law_end"), qualname := (sO "_law_end"), params := (fparams (stI 16)), body := .stmts (fbody (stI 16)), scope := fscope (stI 16), globals := 0, closure := [], defaults := .none, kwdefaults := .none, doc := .none, pyModule := .none, annotations := none, code := .none, closureTuple := .none, builtins := 0 }), #[]⟩
noncomputable def o147_18 : Params → Obj := fun P => ⟨(.type "code"), none, (.fields #[(.str (sO "_law_end") 2312), (.str (sO "_law_end") 2313), (.str (sO "/claim/cut.py") 2314), (.int (87) 0), (.int (2) 0), (.int (0) 0), (.int (0) 0), (.int (3) 0), (.ref 142), (.bool true), (.int (181) 0), (.ref 143), .none, (.ref 144), (.ref 145), (.ref 146), (.int (2318) 0), (.int (87) 0), (.str (sO "/claim/cut.py") 2319)]), #[]⟩
noncomputable def o148_18 : Params → Obj := fun P => ⟨(.type "function"), none, (.func { name := (sO "_law_end"), qualname := (sO "_law_end"), params := (fparams (stI 16)), body := .stmts (fbody (stI 16)), scope := fscope (stI 16), globals := 3, closure := [], defaults := .none, kwdefaults := .none, doc := .none, pyModule := (.str (sO "law_wc0013_01") 2298), annotations := none, code := (.ref 147), closureTuple := .none, builtins := 0 }), #[]⟩
noncomputable def o149_18 : Params → Obj := fun P => ⟨(.type "tuple"), none, (.seq #[] 0), #[]⟩
noncomputable def o150_18 : Params → Obj := fun P => ⟨.none, none, (.fields #[]), #[]⟩
noncomputable def o151_18 : Params → Obj := fun P => ⟨(.type "tuple"), none, (.seq #[(.str (sO "written") 2324), (.str (sO "folders") 2325), (.str (sO "k") 2326), (.str (sO "sign") 2327)] 0), #[]⟩
noncomputable def o152_18 : Params → Obj := fun P => ⟨(.type "tuple"), none, (.seq #[] 0), #[]⟩
noncomputable def o153_18 : Params → Obj := fun P => ⟨.none, none, (.func { name := (sO "_law_told"), qualname := (sO "_law_told"), params := (fparams (stI 17)), body := .stmts (fbody (stI 17)), scope := fscope (stI 17), globals := 0, closure := [], defaults := .none, kwdefaults := .none, doc := .none, pyModule := .none, annotations := none, code := .none, closureTuple := .none, builtins := 0 }), #[]⟩
noncomputable def o154_18 : Params → Obj := fun P => ⟨(.type "code"), none, (.fields #[(.str (sO "_law_told") 2321), (.str (sO "_law_told") 2322), (.str (sO "/claim/cut.py") 2323), (.int (92) 0), (.int (1) 0), (.int (0) 0), (.int (0) 0), (.int (3) 0), (.ref 149), (.bool true), (.int (181) 0), (.ref 150), .none, (.ref 151), (.ref 152), (.ref 153), (.int (2328) 0), (.int (92) 0), (.str (sO "/claim/cut.py") 2329)]), #[]⟩
noncomputable def o155_18 : Params → Obj := fun P => ⟨(.type "function"), none, (.func { name := (sO "_law_told"), qualname := (sO "_law_told"), params := (fparams (stI 17)), body := .stmts (fbody (stI 17)), scope := fscope (stI 17), globals := 3, closure := [], defaults := .none, kwdefaults := .none, doc := .none, pyModule := (.str (sO "law_wc0013_01") 2298), annotations := none, code := (.ref 154), closureTuple := .none, builtins := 0 }), #[]⟩
noncomputable def o156_18 : Params → Obj := fun P => ⟨(.type "tuple"), none, (.seq #[] 0), #[]⟩
noncomputable def o157_18 : Params → Obj := fun P => ⟨.none, none, (.fields #[]), #[]⟩
noncomputable def o158_18 : Params → Obj := fun P => ⟨.none, none, (.func { name := (sO "law"), qualname := (sO "law"), params := (fparams (stI 18)), body := .stmts (fbody (stI 18)), scope := fscope (stI 18), globals := 0, closure := [], defaults := .none, kwdefaults := .none, doc := .none, pyModule := .none, annotations := none, code := .none, closureTuple := .none, builtins := 0 }), #[]⟩
noncomputable def o159_18 : Params → Obj := fun P => ⟨(.type "code"), none, (.fields #[(.str (sO "law") 2331), (.str (sO "law") 2332), (.str (sO "/claim/cut.py") 2333), (.int (98) 0), (.int (1) 0), (.int (0) 0), (.int (0) 0), (.int (3) 0), (.ref 156), (.bool true), (.int (181) 0), (.ref 157), .none, .none, .none, (.ref 158), (.int (2334) 0), (.int (98) 0), (.str (sO "/claim/cut.py") 2335)]), #[]⟩
noncomputable def o160_18 : Params → Obj := fun P => ⟨(.type "function"), none, (.func { name := (sO "law"), qualname := (sO "law"), params := (fparams (stI 18)), body := .stmts (fbody (stI 18)), scope := fscope (stI 18), globals := 3, closure := [], defaults := .none, kwdefaults := .none, doc := .none, pyModule := (.str (sO "law_wc0013_01") 2298), annotations := none, code := (.ref 159), closureTuple := .none, builtins := 0 }), #[]⟩
/-- toks 2337, size 161 -/
noncomputable def T_18 : Params → BT := fun P => (.node (boot_o_0 P) (.node (boot_o_1 P) (.node (o3_18 P) (.node (boot_o_7 P) (.node (o15_5 P) (.node (o31_5 P) (.node (o63_8 P) (.node (o127_18 P) .nil .nil) .nil) (.node (b3o 9) (.node (o159_18 P) .nil .nil) .nil)) (.node (o47_5 P) (.node (o79_10 P) (.node (o143_18 P) .nil .nil) .nil) (.node (b3o 25) .nil .nil))) (.node (o23_5 P) (.node (o39_5 P) (.node (o71_9 P) (.node (o135_18 P) .nil .nil) .nil) (.node (b3o 17) .nil .nil)) (.node (o55_8 P) (.node (b3o 1) (.node (o151_18 P) .nil .nil) .nil) (.node (b3o 33) .nil .nil)))) (.node (o11_A P) (.node (o19_5 P) (.node (o35_5 P) (.node (o67_8 P) (.node (o131_18 P) .nil .nil) .nil) (.node (b3o 13) .nil .nil)) (.node (o51_8 P) (.node (o83_10 P) (.node (o147_18 P) .nil .nil) .nil) (.node (b3o 29) .nil .nil))) (.node (o27_5 P) (.node (o43_5 P) (.node (o75_9 P) (.node (o139_18 P) .nil .nil) .nil) (.node (b3o 21) .nil .nil)) (.node (o59_8 P) (.node (b3o 5) (.node (o155_18 P) .nil .nil) .nil) (.node (b3o 37) .nil .nil))))) (.node (boot_o_5 P) (.node (boot_o_9 P) (.node (o17_5 P) (.node (o33_5 P) (.node (o65_8 P) (.node (o129_18 P) .nil .nil) .nil) (.node (b3o 11) .nil .nil)) (.node (o49_8 P) (.node (o81_10 P) (.node (o145_18 P) .nil .nil) .nil) (.node (b3o 27) .nil .nil))) (.node (o25_5 P) (.node (o41_5 P) (.node (o73_9 P) (.node (o137_18 P) .nil .nil) .nil) (.node (b3o 19) .nil .nil)) (.node (o57_8 P) (.node (b3o 3) (.node (o153_18 P) .nil .nil) .nil) (.node (b3o 35) .nil .nil)))) (.node (o13_A P) (.node (o21_5 P) (.node (o37_5 P) (.node (o69_9 P) (.node (o133_18 P) .nil .nil) .nil) (.node (b3o 15) .nil .nil)) (.node (o53_8 P) (.node (o85_10 P) (.node (o149_18 P) .nil .nil) .nil) (.node (b3o 31) .nil .nil))) (.node (o29_5 P) (.node (o45_8 P) (.node (o77_9 P) (.node (o141_18 P) .nil .nil) .nil) (.node (b3o 23) .nil .nil)) (.node (o61_8 P) (.node (b3o 7) (.node (o157_18 P) .nil .nil) .nil) (.node (o125_18 P) .nil .nil)))))) (.node (o2_5 P) (.node (boot_o_4 P) (.node (boot_o_8 P) (.node (o16_5 P) (.node (o32_5 P) (.node (o64_8 P) (.node (o128_18 P) .nil .nil) .nil) (.node (b3o 10) (.node (o160_18 P) .nil .nil) .nil)) (.node (o48_5 P) (.node (o80_10 P) (.node (o144_18 P) .nil .nil) .nil) (.node (b3o 26) .nil .nil))) (.node (o24_5 P) (.node (o40_5 P) (.node (o72_9 P) (.node (o136_18 P) .nil .nil) .nil) (.node (b3o 18) .nil .nil)) (.node (o56_8 P) (.node (b3o 2) (.node (o152_18 P) .nil .nil) .nil) (.node (b3o 34) .nil .nil)))) (.node (o12_18 P) (.node (o20_5 P) (.node (o36_5 P) (.node (o68_9 P) (.node (o132_18 P) .nil .nil) .nil) (.node (b3o 14) .nil .nil)) (.node (o52_8 P) (.node (o84_10 P) (.node (o148_18 P) .nil .nil) .nil) (.node (b3o 30) .nil .nil))) (.node (o28_5 P) (.node (o44_5 P) (.node (o76_9 P) (.node (o140_18 P) .nil .nil) .nil) (.node (b3o 22) .nil .nil)) (.node (o60_8 P) (.node (b3o 6) (.node (o156_18 P) .nil .nil) .nil) (.node (b3o 38) .nil .nil))))) (.node (boot_o_6 P) (.node (boot_o_10 P) (.node (o18_5 P) (.node (o34_5 P) (.node (o66_8 P) (.node (o130_18 P) .nil .nil) .nil) (.node (b3o 12) .nil .nil)) (.node (o50_8 P) (.node (o82_10 P) (.node (o146_18 P) .nil .nil) .nil) (.node (b3o 28) .nil .nil))) (.node (o26_5 P) (.node (o42_5 P) (.node (o74_9 P) (.node (o138_18 P) .nil .nil) .nil) (.node (b3o 20) .nil .nil)) (.node (o58_8 P) (.node (b3o 4) (.node (o154_18 P) .nil .nil) .nil) (.node (b3o 36) .nil .nil)))) (.node (o14_A P) (.node (o22_5 P) (.node (o38_5 P) (.node (o70_9 P) (.node (o134_18 P) .nil .nil) .nil) (.node (b3o 16) .nil .nil)) (.node (o54_8 P) (.node (b3o 0) (.node (o150_18 P) .nil .nil) .nil) (.node (b3o 32) .nil .nil))) (.node (o30_5 P) (.node (o46_5 P) (.node (o78_9 P) (.node (o142_18 P) .nil .nil) .nil) (.node (b3o 24) .nil .nil)) (.node (o62_8 P) (.node (b3o 8) (.node (o158_18 P) .nil .nil) .nil) (.node (o126_18 P) .nil .nil)))))))
noncomputable def p0L (w : World) (os : OsState) : Option (Shared × Thread) := segGo treeTable pw w 11 tann 0 12 ⟨boot_heap w.params, Array.mk [], boot_drawn, boot_toks, os⟩ (topStub pw)
noncomputable def p0R (w : World) (os : OsState) : Option (Shared × Thread) := some ((ST T_A 15 187 w os).abs, TH 0 ⟨0, 0, 0, 0⟩)
theorem p0La : p0L = p0L := rfl
theorem p0Ra : p0R = p0R := rfl
name_quick p0LQ for WC.p0L by WC.p0La
name_quick p0RQ for WC.p0R by WC.p0Ra
theorem p0K (w : World) (os : OsState) : PySem.W.Fast.p0LQ w os = PySem.W.Fast.p0RQ w os := by kernel_rfl!
theorem p0P : ∀ w os, p0L w os = p0R w os := fun w os => by rw [PySem.W.Fast.p0LQ_eq, PySem.W.Fast.p0RQ_eq]; exact p0K w os
noncomputable def p1L (w : World) (os : OsState) : Option (SharedT × Thread) := segGoT treeTable pw w 11 tann 0 312 (ST T_A 15 187 w os) (TH 0 ⟨0, 0, 0, 0⟩)
noncomputable def p1R (w : World) (os : OsState) : Option (SharedT × Thread) := some (ST T_5 49 243 w os, TH 6 ⟨45, 0, 46, 8⟩)
theorem p1La : p1L = p1L := rfl
theorem p1Ra : p1R = p1R := rfl
name_quick p1LQ for WC.p1L by WC.p1La
name_quick p1RQ for WC.p1R by WC.p1Ra
theorem p1K (w : World) (os : OsState) : PySem.W.Fast.p1LQ w os = PySem.W.Fast.p1RQ w os := by kernel_rfl!
theorem p1P : ∀ w os, p1L w os = p1R w os := fun w os => by rw [PySem.W.Fast.p1LQ_eq, PySem.W.Fast.p1RQ_eq]; exact p1K w os
noncomputable def p2L (w : World) (os : OsState) : Option (SharedT × Thread) := segGoT treeTable pw w 11 tann 0 255 (ST T_5 49 243 w os) (TH 6 ⟨45, 0, 46, 8⟩)
noncomputable def p2R (w : World) (os : OsState) : Option (SharedT × Thread) := some (ST T_8 68 272 w os, TH 9 ⟨66, 0, 66, 8⟩)
theorem p2La : p2L = p2L := rfl
theorem p2Ra : p2R = p2R := rfl
name_quick p2LQ for WC.p2L by WC.p2La
name_quick p2RQ for WC.p2R by WC.p2Ra
theorem p2K (w : World) (os : OsState) : PySem.W.Fast.p2LQ w os = PySem.W.Fast.p2RQ w os := by kernel_rfl!
theorem p2P : ∀ w os, p2L w os = p2R w os := fun w os => by rw [PySem.W.Fast.p2LQ_eq, PySem.W.Fast.p2RQ_eq]; exact p2K w os
noncomputable def p3L (w : World) (os : OsState) : Option (SharedT × Thread) := segGoT treeTable pw w 11 tann 0 998 (ST T_8 68 272 w os) (TH 9 ⟨66, 0, 66, 8⟩)
noncomputable def p3R (w : World) (os : OsState) : Option (SharedT × Thread) := some (ST T_9 79 332 w os, TH 10 ⟨67, 0, 67, 6⟩)
theorem p3La : p3L = p3L := rfl
theorem p3Ra : p3R = p3R := rfl
name_quick p3LQ for WC.p3L by WC.p3La
name_quick p3RQ for WC.p3R by WC.p3Ra
theorem p3K0 (w : World) (os : OsState) : PySem.W.Fast.p3LQ (w.withFollow "special-get-raises" false) os = PySem.W.Fast.p3RQ (w.withFollow "special-get-raises" false) os := by kernel_rfl!
theorem p3K1 (w : World) (os : OsState) : PySem.W.Fast.p3LQ (w.withFollow "special-get-raises" true) os = PySem.W.Fast.p3RQ (w.withFollow "special-get-raises" true) os := by kernel_rfl!
theorem p3P : ∀ w os, p3L w os = p3R w os := fun w os => by
  rw [PySem.W.Fast.p3LQ_eq, PySem.W.Fast.p3RQ_eq]
  exact byRow2 "special-get-raises" (P := fun w => PySem.W.Fast.p3LQ w os = PySem.W.Fast.p3RQ w os) (fun w => p3K0 w os) (fun w => p3K1 w os) w
noncomputable def p4L (w : World) (os : OsState) : Option (SharedT × Thread) := segGoT treeTable pw w 11 tann 0 29 (ST T_9 79 332 w os) (TH 10 ⟨67, 0, 67, 6⟩)
noncomputable def p4R (w : World) (os : OsState) : Option (SharedT × Thread) := some (ST T_10 86 339 w os, TH 11 ⟨68, 0, 69, 30⟩)
theorem p4La : p4L = p4L := rfl
theorem p4Ra : p4R = p4R := rfl
name_quick p4LQ for WC.p4L by WC.p4La
name_quick p4RQ for WC.p4R by WC.p4Ra
theorem p4K (w : World) (os : OsState) : PySem.W.Fast.p4LQ w os = PySem.W.Fast.p4RQ w os := by kernel_rfl!
theorem p4P : ∀ w os, p4L w os = p4R w os := fun w os => by rw [PySem.W.Fast.p4LQ_eq, PySem.W.Fast.p4RQ_eq]; exact p4K w os
noncomputable def TH12 (p : Pos) (kept : List Value) : Thread := ⟨(TH 12 p).cur, tcode, p, [.ret topAfter none false [] (.builtin "claim.caller" {}) default kept]⟩
noncomputable def FT : Thread := ⟨.pure (.done (.ret .none)), .builtin "claim.caller" {}, default, []⟩
noncomputable def p6L (p : Pos) (kept : List Value) (w : World) (os : OsState) : Option (SharedT × Thread) := segGoT treeTable pw w 11 tann 0 181 (ST T_11 125 2290 w os) (TH12 p kept)
noncomputable def p6R (w : World) (os : OsState) : Option (SharedT × Thread) := some (ST T_18 161 2337 w os, FT)
theorem p6La : p6L = p6L := rfl
theorem p6Ra : p6R = p6R := rfl
name_quick p6LQ for WC.p6L by WC.p6La
name_quick p6RQ for WC.p6R by WC.p6Ra
theorem p6K (p : Pos) (kept : List Value) (w : World) (os : OsState) : PySem.W.Fast.p6LQ p kept w os = PySem.W.Fast.p6RQ w os := by kernel_rfl!
theorem p6P : ∀ p kept w os, p6L p kept w os = p6R w os := fun p kept w os => by rw [PySem.W.Fast.p6LQ_eq, PySem.W.Fast.p6RQ_eq]; exact p6K p kept w os
end
end WC


set_option maxHeartbeats 0
namespace WC
open PySem PySem.W PySem.Calls PyProof.Rows
open Sem (wp)

/-! the big dict's statement -/
theorem b3some : (pairsOk b3keys b3vals).isSome = true := by kernel_rfl!
noncomputable def rising : Int → List (Int × Str) → Bool
  | _, [] => true
  | k, p :: r => match decide (k < p.1) with
    | true => rising p.1 r
    | false => false
theorem rises_of : ∀ (ps : List (Int × Str)) (k : Int), rising k ps = true → Rises k ps
  | [], _, _ => trivial
  | p :: r, k, h => by
    unfold rising at h
    cases q : decide (k < p.1) with
    | false => rw [q] at h; cases h
    | true => rw [q] at h; exact ⟨of_decide_eq_true q, rises_of r _ h⟩
theorem b3rise : rising 0 b3p = true := by kernel_rfl!
theorem b3len : b3p.length = 650 := by kernel_rfl!
theorem b3objsLen : b3objs.length = 39 := by kernel_rfl!
theorem b3toks : b3big.2.2 + 3 * b3last.length = 2289 := by kernel_rfl!

theorem chop_flat : ∀ (n : Nat) (l : List (Int × Str)), (chop n l).flatten ++ l.drop (17 * n) = l
  | 0, l => by simp [chop]
  | n + 1, l => by
    have := chop_flat n (l.drop 17)
    rw [List.drop_drop] at this
    rw [chop, List.flatten_cons, List.append_assoc, show 17 * (n + 1) = 17 + 17 * n by omega, this, List.take_append_drop]
theorem chop_len : ∀ (n : Nat) (l : List (Int × Str)), 17 * n ≤ l.length → ∀ c ∈ chop n l, c.length = 17
  | 0, l, _, c, h => by cases h
  | n + 1, l, hl, c, h => by
    rw [chop] at h
    rcases List.mem_cons.mp h with rfl | h
    · rw [List.length_take]; omega
    · exact chop_len n _ (by rw [List.length_drop]; omega) c h
theorem b3split : b3c0 ++ (b3cs.flatten ++ b3last) = b3p := by
  have h := chop_flat 37 (b3p.drop 17)
  rw [List.drop_drop] at h
  show b3p.take 17 ++ ((chop 37 (b3p.drop 17)).flatten ++ b3p.drop (17 + 17 * 37)) = b3p
  rw [h, List.take_append_drop]

section
variable {prog : Program} {w : World} {A : Around}

theorem keyI_some {k : Option Expr} {i : Int} (h : keyI k = some i) : ∃ a b, k = some (.Constant (.int i) a b) := by
  unfold keyI at h
  split at h
  · cases h; exact ⟨_, _, rfl⟩
  · cases h
theorem valS_some {v : Expr} {x : Str} (h : valS v = some x) : ∃ a b, v = .Constant (.str x) a b := by
  unfold valS at h
  split at h
  · cases h; exact ⟨_, _, rfl⟩
  · cases h
theorem pairs_of (env : Env) (pos : Pos) : ∀ (ks : List (Option Expr)) (vs : List Expr) (ps : List (Int × Str)), pairsOk ks vs = some ps →
    ∃ pairs : List (Sem Value × Sem Value), (evalEachOpt ks env).zip ((evalEach vs env).map fun v => do let x ← v; standAt pos; pure x) = pairs.map (fun p => ((some p.1, p.2) : Option (Sem Value) × Sem Value)) ∧ Two (PairIs prog w A) pairs ps
  | [], [], ps, h => by
    obtain rfl : [] = ps := Option.some.inj h
    exact ⟨[], rfl, .nil⟩
  | [], _ :: _, ps, h => by cases h
  | k :: ks, [], ps, h => by cases h
  | k :: ks, v :: vs, ps, h => by
    obtain ⟨i, hi, h⟩ := Option.bind_eq_some_iff.mp (show (keyI k).bind _ = some ps from h)
    obtain ⟨x, hx, h⟩ := Option.bind_eq_some_iff.mp h
    obtain ⟨r, q, hps⟩ := Option.map_eq_some_iff.mp h
    obtain ⟨a, b, rfl⟩ := keyI_some hi
    obtain ⟨c, d, rfl⟩ := valS_some hx
    subst hps
    obtain ⟨pairs, e, t⟩ := pairs_of env pos ks vs r q
    refine ⟨(mkInt i, do let y ← mkText x; standAt pos; pure y) :: pairs, ?_, .cons ⟨fun s Q E h => wpAny_mkInt h, fun s => ?_⟩ t⟩
    · show (some (mkInt i), (do let y ← mkText x; standAt pos; pure y)) :: (evalEachOpt ks env).zip ((evalEach vs env).map fun v => do let x ← v; standAt pos; pure x) = _
      rw [e]; rfl
    · exact Ex.bind (fun Q E h => wpAny_mkText h) (Ex.bind Ex.stand Ex.ret)

theorem ex_nsSet {s : Shared} {a : Addr} {name : Str} {v : Value} {o : Obj} {es : Array DictEntry} {ep : Nat} (ho : s.heap.get? a = some o) (hd : o.data = .dict es ep) (hk : aRefKeyMayBeTheName name es = false) :
    Ex prog w A (nsSet a name v) s () { s with heap := s.heap.update a (Obj.putName name (PyData.keyHash w.params name) (.str name s.toks) v), toks := s.toks + 1 } := by
  unfold nsSet
  refine Ex.bind (a := PyData.keyHash w.params name) (s₁ := s) (fun Q E h => wpAny_bind (wpAny_askSetting (wpAny_pure h))) ?_
  refine Ex.bind (fun Q E h => wpAny_mkText h) ?_
  refine Ex.bind (fun Q E h => wpAny_loadPart (s := { s with toks := s.toks + 1 }) ho h) ?_
  rw [hd]
  dsimp only
  rw [if_neg (by rw [hk]; exact Bool.false_ne_true)]
  exact fun Q E h => wpAny_updatePart (s := { s with toks := s.toks + 1 }) ho h
end

theorem st11 : stI 11 = .Assign [.Name (sO "b3_exceptions") b3pn] (.Dict b3keys b3vals b3pd) b3pos := by kernel_rfl!

theorem st11_rises : Rises 0 (b3c0 ++ (b3cs.flatten ++ b3last)) := by rw [b3split]; exact rises_of _ _ b3rise

theorem T10_3 (P : Params) : (T_10 P).get 3 = some (o3_10 P) := by kernel_rfl!
theorem store_b3 (v : Value) : storeName tenv (sO "b3_exceptions") v = nsSet 3 (sO "b3_exceptions") v := by kernel_rfl!

noncomputable def putL' (P : Params) : Obj := Obj.putName (sO "b3_exceptions") (PyData.keyHash P (sO "b3_exceptions")) (.str (sO "b3_exceptions") 2289) (.ref 86) (o3_10 P)
theorem putLa : putL' = putL' := rfl
theorem putRa : o3_11 = o3_11 := rfl
name_quick putLQ for WC.putL' by WC.putLa
name_quick putRQ for WC.o3_11 by WC.putRa
theorem putK (P : Params) : PySem.W.Fast.putLQ P = PySem.W.Fast.putRQ P := by kernel_rfl!
theorem putP (P : Params) : putL' P = o3_11 P := by rw [PySem.W.Fast.putLQ_eq, PySem.W.Fast.putRQ_eq]; exact putK P
noncomputable def esOf (o : Obj) : Array DictEntry := match o.data with | .dict es _ => es | _ => #[]
noncomputable def epOf (o : Obj) : Nat := match o.data with | .dict _ n => n | _ => 0
theorem o3_data (P : Params) : (o3_10 P).data = .dict (esOf (o3_10 P)) (epOf (o3_10 P)) := by kernel_rfl!
noncomputable def mayL (P : Params) : Bool := aRefKeyMayBeTheName (sO "b3_exceptions") (esOf (o3_10 P))
theorem mayLa : mayL = mayL := rfl
name_quick mayLQ for WC.mayL by WC.mayLa
theorem mayK (P : Params) : PySem.W.Fast.mayLQ P = false := by kernel_rfl!
theorem mayP (P : Params) : aRefKeyMayBeTheName (sO "b3_exceptions") (esOf (o3_10 P)) = false := by
  show mayL P = false
  rw [PySem.W.Fast.mayLQ_eq]; exact mayK P

theorem getD_map {γ : Type} (d : γ) : ∀ (l : List γ), l = (List.range l.length).map fun j => l.getD j d := fun l => by
  apply List.ext_getElem?
  intro i
  rw [List.getElem?_map]
  by_cases h : i < l.length
  · rw [List.getElem?_range h]; simp [h]
  · rw [List.getElem?_eq_none (by omega), List.getElem?_eq_none (by rw [List.length_range]; omega)]; rfl
theorem b3objs_map : b3objs = (List.range 39).map b3o := by
  have := getD_map default b3objs
  rw [b3objsLen] at this
  exact this
theorem T11_list (P : Params) : (T_11 P).list 125 = ((T_10 P).list 86).set 3 (o3_11 P) ++ (List.range 39).map b3o := by kernel_rfl!
theorem T10_len (P : Params) : ((T_10 P).list 86).length = 86 := by unfold BT.list; rw [List.length_map, List.length_range]

theorem heap11 (w : World) : (App (absHeap (T_10 w.params) 86 tlife) b3objs).update 3 (Obj.putName (sO "b3_exceptions") (PyData.keyHash w.params (sO "b3_exceptions")) (.str (sO "b3_exceptions") 2289) (.ref 86)) = absHeap (T_11 w.params) 125 tlife := by
  show Heap.mk ((((T_10 w.params).list 86).toArray ++ b3objs.toArray).modify 3 _) tlife = Heap.mk ((T_11 w.params).list 125).toArray tlife
  refine congrArg (Heap.mk · tlife) ?_
  rw [T11_list, ← b3objs_map]
  have h3 : ((T_10 w.params).list 86)[3]? = some (o3_10 w.params) := by
    unfold BT.list
    rw [List.getElem?_map, List.getElem?_range (by decide)]
    show some (((T_10 w.params).get 3).getD default) = _
    rw [T10_3]; rfl
  apply Array.ext_getElem?
  intro i
  rw [Array.getElem?_modify]
  simp only [List.append_toArray, List.getElem?_toArray]
  by_cases e : 3 = i
  · subst e
    rw [if_pos rfl, List.getElem?_append_left (by rw [T10_len]; decide), List.getElem?_append_left (by rw [List.length_set, T10_len]; decide), h3]
    simp only [Option.map_some]
    rw [show (((T_10 w.params).list 86).set 3 (o3_11 w.params))[3]? = some (o3_11 w.params) from set_get h3]
    exact congrArg some (putP w.params)
  · rw [if_neg e]
    by_cases l : i < 86
    · rw [List.getElem?_append_left (by rw [T10_len]; exact l), List.getElem?_append_left (by rw [List.length_set, T10_len]; exact l), List.getElem?_set_ne e]
    · rw [List.getElem?_append_right (by rw [T10_len]; omega), List.getElem?_append_right (by rw [List.length_set, T10_len]; omega), List.length_set]

theorem b3_runs (w : World) (os : OsState) (A : Around) : Ex pw w A (exec (stI 11) tenv) (ST T_10 86 339 w os).abs .next (ST T_11 125 2290 w os).abs := by
  intro Q E q
  rw [st11]
  refine wpAny_Assign_Name ?_
  rw [arm_eval_Dict]
  have hp : pairsOk b3keys b3vals = some b3p := by
    obtain ⟨r, e⟩ := Option.isSome_iff_exists.mp b3some
    unfold b3p
    rw [e]
  obtain ⟨pairs, e1, e2⟩ := pairs_of (prog := pw) (w := w) (A := A) tenv b3pd _ _ _ hp
  rw [e1]
  rw [← b3split] at e2
  have hsz : (absHeap (T_10 w.params) 86 tlife).objs.size = 86 := absHeap_size ..
  have hl : b3last.length ≤ 15 := by unfold b3last; rw [List.length_drop, b3len]; decide
  have hx := ex_display (prog := pw) (w := w) (A := A) (H := absHeap (T_10 w.params) 86 tlife) (ST T_10 86 339 w os).abs (by rw [hsz]; decide) e2 (by unfold b3c0; rw [List.length_take, b3len]; decide)
    (chop_len 37 _ (by rw [List.length_drop, b3len]; decide)) hl (by intro h; have := congrArg List.length h; unfold b3last at this; rw [List.length_drop, b3len] at this; cases this) st11_rises
    (by have := congrArg List.length b3split; rw [List.length_append, List.length_append, b3len] at this; omega) (tk := 339)
  refine wpAny_bind (wpAny_standAt ?_)
  have h0 : At (ST T_10 86 339 w os).abs (absHeap (T_10 w.params) 86 tlife) [] 339 = (ST T_10 86 339 w os).abs := by unfold At; rw [App_nil]; rfl
  rw [h0] at hx
  refine hx _ _ ?_
  rw [store_b3, hsz]
  have ht : (bigGo (entL 339 b3c0) [] (339 + 51) b3cs).2.2 + 3 * b3last.length = 2289 := b3toks
  have h3 : (App (absHeap (T_10 w.params) 86 tlife) b3objs).get? 3 = some (o3_10 w.params) := by
    have : (absHeap (T_10 w.params) 86 tlife).get? 3 = some (o3_10 w.params) := (abs_get (by decide) (T10_3 w.params)).trans rfl
    unfold Heap.get? at this ⊢
    unfold App
    rw [Array.getElem?_append_left (by rw [hsz]; decide)]
    exact this
  refine ex_nsSet (s := At (ST T_10 86 339 w os).abs (absHeap (T_10 w.params) 86 tlife) b3objs _) h3 (o3_data w.params) (mayP w.params) _ _ ?_
  show Q .next { (ST T_10 86 339 w os).abs with heap := (App (absHeap (T_10 w.params) 86 tlife) b3objs).update 3 (Obj.putName (sO "b3_exceptions") (PyData.keyHash w.params (sO "b3_exceptions")) (.str (sO "b3_exceptions") ((bigGo (entL 339 b3c0) [] (339 + 51) b3cs).2.2 + 3 * b3last.length)) (.ref 86)), toks := (bigGo (entL 339 b3c0) [] (339 + 51) b3cs).2.2 + 3 * b3last.length + 1 }
  rw [ht, heap11]
  exact q
end WC

set_option maxHeartbeats 0
namespace WC
open PySem PySem.W PySem.Calls PyProof.Rows
open Sem (wp)

theorem body11 : pw.main.body.drop 11 = stI 11 :: pw.main.body.drop 12 := by kernel_rfl!

noncomputable def topK : Flow → Sem Fin := fun f => Sem.pure (Fin.done f)
noncomputable def topH : Value → Sem Fin := fun e => ((leaving tenv e).bind fun _ => (.raise e : Sem Flow)).wrap topK .raise id id
theorem wrapTop (l : List Stmt) : ((execs l tenv).onRaise (leaving tenv)).bind (fun f => (Sem.pure (Fin.done f) : Sem Fin)) = (execs l tenv).wrap topK topH id id := by
  rw [Sem.bind_eq_wrap, Sem.onRaise_eq_wrap, Sem.wrap_wrap]
  rfl
noncomputable def topN : Flow → Sem Fin := fun f => match f with
  | .next => (execs (pw.main.body.drop 12) tenv).wrap topK topH id id
  | .brk => topK .brk
  | .cont => topK .cont
  | .ret v => topK (.ret v)
theorem TH11 (p : Pos) : TH 11 p = ⟨(exec (stI 11) tenv).wrap topN topH id id, tcode, p, tB⟩ := by
  unfold TH
  rw [body11, wrapTop, execs_cons_wrap]
  exact congrArg (fun x => (⟨x, tcode, p, tB⟩ : Thread)) (Sem.wrap_congr _ _ _ (fun f => by cases f <;> rfl) (fun _ => rfl))
theorem TH12eq (p : Pos) (kept : List Value) : TH12 p kept = ⟨(execs (pw.main.body.drop 12) tenv).wrap topK topH id id, tcode, p, [.ret topAfter none false [] (.builtin "claim.caller" {}) default kept]⟩ := by
  unfold TH12 TH
  rw [wrapTop]

theorem boot_asleep (w : World) (os : OsState) : (⟨boot_heap w.params, Array.mk [], boot_drawn, boot_toks, os⟩ : Shared).asleep := ⟨rfl, rfl⟩
theorem ST_asleep (T : Params → BT) (n tk : Nat) (w : World) (os : OsState) : (ST T n tk w os).abs.asleep := ⟨rfl, rfl⟩

theorem wp_sched {prog : Program} {w : World} {α : Type} {m : Sem α} {s s' : Shared} {a : α} {c : Code} {st : List Frame} {K : α → Sem Fin} {E : Value → Sem Fin} {p : Pos} (h : ∀ A : Around, Ex prog w A m s a s') (hs : s.asleep) (hg : s'.gens = #[]) :
    ∃ n p' st', schedN (denote table) prog w n (.single s ⟨m.wrap K E id id, c, p, st⟩) = .running (.single s' ⟨K a, c, p', st'⟩) ∧ forgetAll st' = forgetAll st := by
  have hin : (Ctx.of c st).In ⟨topHandled st, frameCount (st.map Frame.where_) + c.weight, none, none, c.cUnits + unitsOf (st.map Frame.where_)⟩ :=
    ⟨rfl, Nat.le_refl _, fun l h => (nomatch h), fun l h => (nomatch h), Nat.le_refl _⟩
  have hb := h _ (fun b s₂ => b = a ∧ s₂ = s') (fun _ _ => False) ⟨rfl, rfl⟩ _ p hin
  obtain ⟨b, p', s₂, ⟨n, e⟩, rfl, rfl⟩ := steps_of_wp (M := model prog w) (c := c) (B := st) K E m (Ctx.fits_of c st) rfl hb
  obtain ⟨sr, tr, f, g1, g2, _⟩ := real_of_steps n e hs rfl rfl
  obtain rfl : sr = s₂ := Shared.eq_of_forget_eq g1 hg
  obtain ⟨cur, code, pos, st'⟩ := tr
  simp only [Thread.forget, Thread.mk.injEq] at g2
  obtain ⟨rfl, rfl, rfl, g2⟩ := g2
  exact ⟨n, _, st', f, g2⟩

theorem forget_tB {st : List Frame} (h : forgetAll st = forgetAll tB) : ∃ kept, st = [.ret topAfter none false [] (.builtin "claim.caller" {}) default kept] := by
  cases st with
  | nil => cases h
  | cons f r =>
    cases r with
    | cons _ _ =>
      have := congrArg List.length h
      simp only [forgetAll, List.length_map, List.length_cons, tB, List.length_nil] at this
      omega
    | nil =>
      cases f with
      | gen =>
        have := congrArg List.head? h
        simp only [forgetAll, tB, topFrame, Frame.forget, List.map_cons, List.map_nil, List.head?_cons, Option.some.injEq, reduceCtorEq] at this
      | ret k hd g l c p kept =>
        simp only [forgetAll, tB, topFrame, List.map_cons, List.map_nil, Frame.forget, List.cons.injEq, Frame.ret.injEq, and_true] at h
        obtain ⟨rfl, rfl, rfl, rfl, rfl, rfl⟩ := h
        exact ⟨kept, rfl⟩

theorem top_runs (w : World) (os : OsState) : ∃ n, schedN (denote table) pw w n (.single ⟨boot_heap w.params, Array.mk [], boot_drawn, boot_toks, os⟩ (topStub pw)) = .running (.single (ST T_18 161 2337 w os).abs FT) := by
  have e0 : segGo table pw w 11 tann 0 12 ⟨boot_heap w.params, Array.mk [], boot_drawn, boot_toks, os⟩ (topStub pw) = some ((ST T_A 15 187 w os).abs, TH 0 ⟨0, 0, 0, 0⟩) := by
    rw [table_eq_tree]; exact p0P w os
  have e1 : segGo table pw w 11 tann 0 312 (ST T_A 15 187 w os).abs (TH 0 ⟨0, 0, 0, 0⟩) = some ((ST T_5 49 243 w os).abs, TH 6 ⟨45, 0, 46, 8⟩) := by
    rw [table_eq_tree]; exact segGo_of (p1P w os)
  have e2 : segGo table pw w 11 tann 0 255 (ST T_5 49 243 w os).abs (TH 6 ⟨45, 0, 46, 8⟩) = some ((ST T_8 68 272 w os).abs, TH 9 ⟨66, 0, 66, 8⟩) := by
    rw [table_eq_tree]; exact segGo_of (p2P w os)
  have e3 : segGo table pw w 11 tann 0 998 (ST T_8 68 272 w os).abs (TH 9 ⟨66, 0, 66, 8⟩) = some ((ST T_9 79 332 w os).abs, TH 10 ⟨67, 0, 67, 6⟩) := by
    rw [table_eq_tree]; exact segGo_of (p3P w os)
  have e4 : segGo table pw w 11 tann 0 29 (ST T_9 79 332 w os).abs (TH 10 ⟨67, 0, 67, 6⟩) = some ((ST T_10 86 339 w os).abs, TH 11 ⟨68, 0, 69, 30⟩) := by
    rw [table_eq_tree]; exact segGo_of (p4P w os)
  have f0 := sched_of_segGo _ (boot_asleep w os) e0
  have f1 := sched_of_segGo _ (ST_asleep ..) e1
  have f2 := sched_of_segGo _ (ST_asleep ..) e2
  have f3 := sched_of_segGo _ (ST_asleep ..) e3
  have f4 := sched_of_segGo _ (ST_asleep ..) e4
  -- the big dict
  obtain ⟨n5, p', st', f5, g5⟩ := wp_sched (K := topN) (E := topH) (c := tcode) (st := tB) (p := ⟨68, 0, 69, 30⟩) (b3_runs w os) (ST_asleep ..) rfl
  rw [← TH11] at f5
  obtain ⟨kept, rfl⟩ := forget_tB g5
  have f5' : schedN (denote table) pw w n5 (.single (ST T_10 86 339 w os).abs (TH 11 ⟨68, 0, 69, 30⟩)) = .running (.single (ST T_11 125 2290 w os).abs (TH12 p' kept)) := by
    rw [TH12eq]; exact f5
  have e6 : segGo table pw w 11 tann 0 181 (ST T_11 125 2290 w os).abs (TH12 p' kept) = some ((ST T_18 161 2337 w os).abs, FT) := by
    rw [table_eq_tree]; exact segGo_of (p6P p' kept w os)
  have f6 := sched_of_segGo _ (ST_asleep ..) e6
  exact ⟨_, sched_add _ _ _ _ _ f0 (sched_add _ _ _ _ _ f1 (sched_add _ _ _ _ _ f2 (sched_add _ _ _ _ _ f3 (sched_add _ _ _ _ _ f4 (sched_add _ _ _ _ _ f5' f6)))))⟩
end WC

set_option maxHeartbeats 0
namespace WC
open PySem PySem.W PySem.Calls PyProof.Rows
open Sem (wp)
noncomputable section
/-- the view: the statements that the walk looks up -/
noncomputable def vq : Program := { pw with main := { pw.main with body := [stI 1, stI 2, stI 3, stI 5, stI 6, stI 7, stI 9, stI 10, stI 12, stI 14, stI 15, stI 16, stI 17, stI 18] } }
noncomputable def vloose : List Str := [sO "b1_set", sO "b3_exceptions"]
noncomputable def topEnd (w : World) (os : OsState) : Shared := ⟨absHeap (T_18 w.params) 161 tlife, Array.mk [], boot_drawn, 2337, os⟩
noncomputable def vXt : Shared → Bool := fun _ => true

noncomputable def lk1L (w : World) (os : OsState) := (staticsOk (importedModules pw.main.body) (boot_heap w.params) (topEnd w os).heap && namesBound pw (topEnd w os).heap && gensDone (topEnd w os) && laidKept (boot_heap w.params) (topEnd w os).heap)
theorem lk1La : lk1L = lk1L := rfl
name_quick lk1LQ for WC.lk1L by WC.lk1La
theorem lk1K (w : World) (os : OsState) : PySem.W.Fast.lk1LQ w os = true := by kernel_rfl!
theorem lk1P (w : World) (os : OsState) : lk1L w os = true := by rw [PySem.W.Fast.lk1LQ_eq]; exact lk1K w os

noncomputable def lk2L (w : World) (os : OsState) := openSeen vq vloose (importedModules pw.main.body) vXt true (topEnd w os)
noncomputable def lk2R (w : World) (os : OsState) := openGood vq vloose
theorem lk2La : lk2L = lk2L := rfl
theorem lk2Ra : lk2R = lk2R := rfl
name_quick lk2LQ for WC.lk2L by WC.lk2La
name_quick lk2RQ for WC.lk2R by WC.lk2Ra
theorem lk2K (w : World) (os : OsState) : PySem.W.Fast.lk2LQ w os = PySem.W.Fast.lk2RQ w os := by kernel_rfl!
theorem lk2P (w : World) (os : OsState) : lk2L w os = lk2R w os := by rw [PySem.W.Fast.lk2LQ_eq, PySem.W.Fast.lk2RQ_eq]; exact lk2K w os
noncomputable def vchL : Bool := chainsOk vq
theorem vchLa : vchL = vchL := rfl
name_quick vchLQ for WC.vchL by WC.vchLa
theorem vchK : PySem.W.Fast.vchLQ = true := by kernel_rfl!
theorem vchP : chainsOk vq = true := by show vchL = true; rw [PySem.W.Fast.vchLQ_eq]; exact vchK
end
end WC

set_option maxHeartbeats 0
namespace WC
open PySem PySem.W PySem.Calls PyProof.Rows
open Sem (wp)
abbrev law : OpenLaw := PySem.Challenge.rw_wc0013_01

theorem open_plain : opening pw = plainProg pw.main.scope.names := by kernel_rfl!
theorem fence_id : ∀ s, fenceModules? pw s = some s := fun s => by kernel_rfl!
theorem opened (w : World) : (fencedOpening treeTable pw w 600).map (fun s => (s.heap, s.gens, s.drawn, s.toks)) = some (boot_heap w.params, Array.mk [], boot_drawn, boot_toks) :=
  boot_open open_plain (by decide) fence_id w

theorem boot_objs (P : Params) : (boot_heap P).objs.toList = [boot_o_0 P, boot_o_1 P, boot_o_2 P, boot_o_3 P, boot_o_4 P, boot_o_5 P, boot_o_6 P, boot_o_7 P, boot_o_8 P, boot_o_9 P, boot_o_10 P] := by kernel_rfl!
theorem end_objs (P : Params) : ((T_18 P).list 161).take 11 = [boot_o_0 P, boot_o_1 P, o2_5 P, o3_18 P, boot_o_4 P, boot_o_5 P, boot_o_6 P, boot_o_7 P, boot_o_8 P, boot_o_9 P, boot_o_10 P] := by kernel_rfl!

theorem get_list {h : Heap} {l : List Obj} (e : h.objs.toList = l) (b : Nat) : h.get? b = l[b]?.bind alive := by
  unfold Heap.get?
  rw [← e, Array.getElem?_toList]
  cases h.objs[b]? with
  | none => rfl
  | some o =>
    obtain ⟨c, d, dt, sl⟩ := o
    cases dt <;> rfl

theorem old_same (w : World) (os : OsState) (b : Nat) (o : Obj) (h : (boot_heap w.params).get? b = some o) (h2 : b ≠ 2) (h3 : b ≠ 3) : (topEnd w os).heap.get? b = some o := by
  have hlt : b < 11 := by
    have := Heap.lt_size h
    have e : (boot_heap w.params).objs.size = 11 := by rw [← Array.length_toList, boot_objs]; rfl
    rw [e] at this; exact this
  rw [get_list (boot_objs w.params)] at h
  have e : (topEnd w os).heap.objs.toList = (T_18 w.params).list 161 := rfl
  rw [get_list e]
  have : ((T_18 w.params).list 161)[b]? = (((T_18 w.params).list 161).take 11)[b]? := by rw [List.getElem?_take_of_lt hlt]
  rw [this, end_objs]
  have : b = 0 ∨ b = 1 ∨ b = 2 ∨ b = 3 ∨ b = 4 ∨ b = 5 ∨ b = 6 ∨ b = 7 ∨ b = 8 ∨ b = 9 ∨ b = 10 := (by decide : ∀ b, b < 11 → (b = 0 ∨ b = 1 ∨ b = 2 ∨ b = 3 ∨ b = 4 ∨ b = 5 ∨ b = 6 ∨ b = 7 ∨ b = 8 ∨ b = 9 ∨ b = 10)) b hlt
  rcases this with rfl | rfl | e | e | rfl | rfl | rfl | rfl | rfl | rfl | rfl
  case inr.inr.inl => exact absurd e h2
  case inr.inr.inr.inl => exact absurd e h3
  all_goals exact h

theorem ground (w : World) (os : OsState) : Ground vq vloose [] (fun _ _ => True) w (topEnd w os) ((topEnd w os).heap.nsMap mainGlobals) ((topEnd w os).heap.nsMap builtinsNs) (topEnd w os).heap ∧
    (topEnd w os).heap.isNs mainGlobals = true ∧ staticsAccountedI (topEnd w os).heap (importedModules pw.main.body) ∧ keysAreStrs (topEnd w os).heap mainNs ∧ builtinsAsBooted (topEnd w os).heap ∧ builtinsGlobalAsBooted (topEnd w os).heap := by
  obtain ⟨a, _, b, c, d, e, f⟩ := ground_of_open (w := w) (XP := fun _ _ => True) (fun _ _ => trivial) vchP (show openSeen vq vloose (importedModules pw.main.body) vXt true (topEnd w os) = openGood vq vloose from lk2P w os)
  exact ⟨a, b, c, d, e, f⟩

theorem topRan (w : World) (os : OsState) : TopRan pw w ⟨boot_heap w.params, Array.mk [], boot_drawn, boot_toks, os⟩ (topEnd w os) := by
  obtain ⟨n, hn⟩ := top_runs w os
  obtain ⟨_, _, g1, g2, g3, g4⟩ := ground w os
  have hl := lk1P w os
  unfold lk1L at hl
  obtain ⟨hl, hlk⟩ := Bool.and_eq_true_iff.mp hl
  obtain ⟨hl, hgd⟩ := Bool.and_eq_true_iff.mp hl
  obtain ⟨hst, hnb⟩ := Bool.and_eq_true_iff.mp hl
  refine ⟨⟨n, FT, hn, rfl⟩, rfl, rfl, fun b o h ht => old_same w os b o h (fun e => ht (.inr (.inl e))) (fun e => ht (.inl e)), g1, statics_of_ok hst, g2, g3, g4, gens_of_done hgd, names_of_bound hnb, laid_of_kept hlk⟩
end WC

set_option maxHeartbeats 0
namespace WC
open PySem PySem.W PySem.Calls PyProof.Rows
open Sem (wp)

noncomputable abbrev Gd (w : World) (os : OsState) (h : Heap) : Prop := Ground vq vloose [] (fun _ _ => True) w (topEnd w os) ((topEnd w os).heap.nsMap mainGlobals) ((topEnd w os).heap.nsMap builtinsNs) h

noncomputable def fpos : Stmt → Pos
  | .FunctionDef _ _ _ _ _ _ _ _ _ p => p
  | _ => default
noncomputable def lawRec : DefRec := ⟨sO "law", fparams (stI 18), fbody (stI 18), fscope (stI 18), fpos (stI 18)⟩
theorem lawDef : defOf vq law.row.name = some (lawRec, []) := by kernel_rfl!
theorem lawThe : pw.theDef law.row.name = some (lawRec.params, lawRec.body, lawRec.scope) := by kernel_rfl!
noncomputable def lawNm (P : Params) : Option Value := (absHeap (T_18 P) 161 tlife).nsMap mainGlobals law.row.name
theorem lawNma : lawNm = lawNm := rfl
name_quick lawNmQ for WC.lawNm by WC.lawNma
theorem lawNmK (P : Params) : PySem.W.Fast.lawNmQ P = some (.ref 160) := by kernel_rfl!
theorem lawName (w : World) (os : OsState) : (topEnd w os).heap.nsMap mainGlobals law.row.name = some (.ref 160) := by
  show lawNm w.params = _
  rw [PySem.W.Fast.lawNmQ_eq]; exact lawNmK w.params

theorem row_holds (said : law.row.wellSaid = true) (hw : law.row.toRowW.promised)
    (call : ∀ (w : World) (os : OsState) (s₁ : Shared), Gd w os s₁.heap → (∀ b o, (topEnd w os).heap.get? b = some o → s₁.heap.get? b = some o) → s₁.gens = #[] →
      ∀ (args : List WData) (vs : List Value) (as : List Addr), law.row.toRowW.claim.pre args = true → WData.layableAll args = true → Laid [] w (topEnd w os) s₁ args vs as →
        wpAny (model pw w) callerA (PySem.call (.ref 160) vs) (fun v s' => GoodWG law.row.toRowW.claim (classAt (topEnd w os).heap) (ExcName.means (topEnd w os).heap) args s₁ (.ok (.ret v)) s') (fun _ _ => False) s₁) : law.row.Holds := by
  refine ⟨said, hw, ⟨⟨rfl, rfl, rfl, rfl, rfl, by decide +kernel⟩, by decide +kernel, rfl⟩, hw.witness, fun w => ?_⟩
  obtain ⟨s₀, a, b⟩ := Option.map_eq_some_iff.mp (opened w)
  obtain ⟨s, h4, h5⟩ := Option.bind_eq_some_iff.mp a
  rw [← table_eq_tree] at h4
  have A := AfterImport.of_importEnds h4
  refine ⟨⟨s, A⟩, fun s' hs' => ?_⟩
  obtain rfl : s' = s := AfterImport.unique hs' A
  obtain ⟨hp, gn, dr, tk, os⟩ := s₀
  obtain ⟨rfl, rfl, rfl, rfl⟩ : hp = boot_heap w.params ∧ gn = Array.mk [] ∧ dr = boot_drawn ∧ tk = boot_toks := by simpa using b
  obtain ⟨G0, hg, _⟩ := ground w os
  have hT := topRan w os
  refine ⟨_, h5, rfl, topEnd w os, hT, fun n hn => ?_, fun x hx => (nomatch hx), fun x hx => (nomatch hx), ?_⟩
  · obtain rfl : n = law.row.name := by
      have : n ∈ [law.row.name] := hn
      simpa using this
    exact pinned_of_view hg G0 (d := lawRec) (kwd := []) lawDef lawThe rfl
  · have hz : (topEnd w os).asleep := ⟨rfl, rfl⟩
    have G : Ground vq vloose law.row.toRowW.records (fun _ _ => True) w (topEnd w os) ((topEnd w os).heap.nsMap mainGlobals) ((topEnd w os).heap.nsMap builtinsNs) (topEnd w os).heap := G0
    refine ClaimW.callFrom_of_specG (c := law.row.toRowW.claim) hz rfl fun args hpre hlay ord hord => ?_
    obtain ⟨⟨vs, s₁⟩, hlaid⟩ := Option.isSome_iff_exists.mp (layAllW_isSome (P := w.params) (ord := ord) G.has args law.row.toRowW.args (topEnd w os) (pre_splitW hpre).1)
    have keeps := layAllW_keeps _ _ _ hlaid
    have hal := layAllW_rest _ _ _ hlaid
    obtain ⟨as, hrd, hin, hold⟩ := reads_layAllW hord _ _ _ hlaid hlay s₁.heap (fun _ _ e => e)
    have L : Laid law.row.toRowW.records w (topEnd w os) s₁ args vs as := ⟨⟨ord, hord, hlaid⟩, hrd, hin, hold, keeps, hal.1.trans rfl, hal.2.2.1⟩
    have G₁ := G.keeps (fun _ _ _ x _ => x) keeps
    have hc := call w os s₁ G₁ keeps L.gens args vs as hpre hlay L
    have hsame : law.row.toRowW.claim.same = none := rfl
    have hwi : law.row.toRowW.claim.within = [] := rfl
    have hi : ∀ a b, law.row.toRowW.claim.ident a b = true := ident_freeW rfl rfl rfl
    refine ⟨vs, s₁, hlaid, wpAny_bind (wpAny_nsGet G₁.T.g ?_)⟩
    rw [lawName]
    refine wpAny_bind (wpAny_mono hc (fun v s' g => wpAny_pure ⟨_, rfl, ?_⟩) fun _ _ h => h.elim)
    have z := g.laid (c := law.row.toRowW.claim) hsame hwi hi L
    exact ⟨z.1, z.2.1, z.2.2, fun q => (nomatch q)⟩
end WC

set_option maxHeartbeats 0
namespace WC
open PySem PySem.W PySem.Calls PyProof.Rows

theorem args_open {w : World} {os : OsState} {s₁ : Shared} {args : List WData} {vs : List Value} {as : List Addr} (hpre : law.row.toRowW.claim.pre args = true) (hlay : WData.layableAll args = true) (L : Laid [] w (topEnd w os) s₁ args vs as) :
    ∃ (ns : List Int) (a : Addr) (items : List Value), args = [ofPy (PyData.list (ns.map PyData.int))] ∧ vs = [.ref a] ∧ ns.length ≤ 63 ∧ s₁.heap.IsList a items.toArray ∧ IntsAre items ns := by
  have hrd := L.reads
  have hwl := L.well
  have hlo := L.low (by show 1 < (absHeap (T_18 w.params) 161 tlife).objs.size; rw [absHeap_size]; decide)
  wrow_args hpre hlay hrd hwl hlo
  exact ⟨_, _, _, rfl, rfl, by omega, by assumption, by assumption⟩

theorem good_true {w : World} {os : OsState} {s₁ s' : Shared} {args : List WData} {ns : List Int} (ha : args = [ofPy (PyData.list (ns.map PyData.int))]) (hk : ∀ b o, s₁.heap.get? b = some o → s'.heap.get? b = some o) (ho : s'.os = s₁.os) (hg : AllBare s'.gens) :
    GoodWG law.row.toRowW.claim (classAt (topEnd w os).heap) (ExcName.means (topEnd w os).heap) args s₁ (.ok (.ret (.bool true))) s' := by
  refine ⟨.inl ⟨.bool true, .bool true, [], rfl, fun _ => rfl, ReadsW.bool true, ?_, fun _ => ⟨List.nodup_nil, fun a h => (nomatch h)⟩⟩, ?_, ho, hg⟩
  · subst ha
    exact postW_of (X := true) rfl (by wtm_val) rfl
  · exact OldK.of_keep hk

/-- what is left: the call itself -/
noncomputable def LawCall : Prop := ∀ (w : World) (os : OsState) (s₁ : Shared), Gd w os s₁.heap → (∀ b o, (topEnd w os).heap.get? b = some o → s₁.heap.get? b = some o) → s₁.gens = #[] →
  ∀ (ns : List Int) (a : Addr) (items : List Value), ns.length ≤ 63 → s₁.heap.IsList a items.toArray → IntsAre items ns →
    wpAny (model pw w) callerA (PySem.call (.ref 160) [.ref a]) (fun v s' => v = .bool true ∧ (∀ b o, s₁.heap.get? b = some o → s'.heap.get? b = some o) ∧ s'.os = s₁.os ∧ AllBare s'.gens) (fun _ _ => False) s₁

theorem law_holds (said : law.row.wellSaid = true) (hw : law.row.toRowW.promised) (call : LawCall) : law.row.Holds :=
  row_holds said hw fun w os s₁ G keeps hg args vs as hpre hlay L => by
    obtain ⟨ns, a, items, e1, rfl, e3, e4, e5⟩ := args_open hpre hlay L
    refine wpAny_mono (call w os s₁ G keeps hg ns a items e3 e4 e5) (fun v s' h => ?_) fun _ _ h => h
    obtain ⟨rfl, k, o, g⟩ := h
    exact good_true e1 k o g
theorem the_rest (call : LawCall) : PySem.Challenge.rw_wc0013_01.Holds := by
  w_on
  o_law
  exact law_holds (by assumption) (by w_witness2) call
end WC

namespace WC
open PySem PySem.W PySem.Calls PyProof.Rows

/-- what the walk knows of a heap: the top's names, and every object of the top -/
structure Cx (w : World) (os : OsState) (h : Heap) : Prop where
  G : Gd w os h
  K : ∀ b o, (topEnd w os).heap.get? b = some o → h.get? b = some o
theorem Cx.keeps {w : World} {os : OsState} {h h' : Heap} (C : Cx w os h) (k : ∀ b o, h.get? b = some o → h'.get? b = some o) : Cx w os h' :=
  ⟨C.G.keeps (fun _ _ _ x _ => x) k, fun b o e => k b o (C.K b o e)⟩
noncomputable abbrev Tp (w : World) (os : OsState) (h : Heap) : Prop := Top vq (looseW vq vloose) (ExcName.means (topEnd w os).heap) ((topEnd w os).heap.nsMap mainGlobals) ((topEnd w os).heap.nsMap builtinsNs) h
theorem Cx.T {w : World} {os : OsState} {h : Heap} (C : Cx w os h) : Tp w os h := C.G.T

/-- an object of the top -/
theorem top_at {w : World} {os : OsState} {a : Nat} {o : Obj} (hlt : a < 161) (h : (T_18 w.params).get a = some o) (hf : alive o = some o) : (topEnd w os).heap.get? a = some o :=
  (abs_get hlt h).trans hf

/-- room on the stacks -/
structure Room (A : Around) (n : Nat) : Prop where
  handled : A.handled = none
  depth : A.depth + n ≤ 900
  units : A.units + 40 * n ≤ 4000
theorem Room.deeper {A : Around} {n : Nat} {env : Env} (R : Room A (n + 1)) : Room (A.deeper env) n :=
  ⟨R.handled, by have := R.depth; show A.depth + 1 + n ≤ 900; omega, by have := R.units; show A.units + 3 + 40 * n ≤ 4000; omega⟩
theorem room_caller : Room callerA 10 := ⟨rfl, by decide, by decide⟩

noncomputable def retOf : Flow → Value
  | .ret v => v
  | _ => .none

/-- a call of a def of the top, its body to be walked -/
theorem enter {w : World} {os : OsState} {A : Around} {s : Shared} {E : Value → Shared → Prop} {a cA : Nat} {o oc : Obj} {name : Str} {params : Arguments} {body : List Stmt} {scope : Scope} {pm doc : Value} {vals : List Value} {binds : List (Str × Value)} {Q : Value → Shared → Prop} {n : Nat}
    (C : Cx w os s.heap) (R : Room A (n + 1)) (hlt : a < 161) (ho : (T_18 w.params).get a = some o) (hf : alive o = some o) (hd : o.data = .func (docDef name params body scope pm (.ref cA) doc))
    (hlt' : cA < 161) (hoc : (T_18 w.params).get cA = some oc) (hfc : alive oc = some oc) (hcd : ∃ vs t, oc.data = .fields vs ∧ vs[1]? = some (.str name t))
    (hbind : bindArgs (docDef name params body scope pm (.ref cA) doc) ⟨vals, []⟩ = pure binds) (hloc : ∀ x ∈ binds, scope.names.lookup x.1 = some .local)
    (h : ∀ h₁, Fr s.heap s.heap.objs.size h₁ (fun x => binds.reverse.lookup x) → Cx w os h₁ → Room (A.deeper (envOf name scope s.heap.objs.size a (.ref cA))) n →
      wpAny (model pw w) (A.deeper (envOf name scope s.heap.objs.size a (.ref cA))) (execs body (envOf name scope s.heap.objs.size a (.ref cA)))
        (fun f s' => Q (retOf f) s') (fun _ _ => False) { s with heap := h₁, toks := s.toks + binds.length })
    (hco : scope.isCoroutine = false) (hgen : scope.isGenerator = false) (hk : scope.kind = .function) (hcell : (scope.names.all fun x => x.2 != .cell) = true) :
    wpAny (model pw w) A (PySem.call (.ref a) vals) Q E s := by
  obtain ⟨vs, t, h1, h2⟩ := hcd
  have hcr : s.heap.CodeRec (.ref cA) name := ⟨cA, oc, vs, t, rfl, C.K _ _ (top_at hlt' hoc hfc), h1, h2⟩
  refine wpAny_call (call_plain_ret (by have := R.depth; show A.depth < 1000; omega) (C.K _ _ (top_at hlt ho hf)) hd C.T.nolimit hcr hbind hloc (fun h₁ F => ?_) hco hgen hk ?_)
  · refine wpAny_mono (h h₁ F (C.keeps F.keep) R.deeper) (fun f s' q => ?_) fun _ _ e => e
    cases f <;> exact q
  · intro x hx
    have := List.all_eq_true.mp hcell x hx
    simpa using this
end WC

namespace WC
open PySem PySem.W PySem.Calls PyProof.Rows
theorem enter_strip {w : World} {os : OsState} {A : Around} {s : Shared} {E : Value → Shared → Prop} {v0 : Value} {Q : Value → Shared → Prop} {n : Nat} (C : Cx w os s.heap) (R : Room A (n + 1))
    (h : ∀ h₁, Fr s.heap s.heap.objs.size h₁ (fun x => ([(sO "addr", v0)] : List (Str × Value)).reverse.lookup x) → Cx w os h₁ → Room (A.deeper (envOf (sO "_strip_quoted_realnames") (fscope (stI 2)) s.heap.objs.size 28 (.ref 27))) n →
      wpAny (model pw w) (A.deeper (envOf (sO "_strip_quoted_realnames") (fscope (stI 2)) s.heap.objs.size 28 (.ref 27))) (execs (fbody (stI 2)) (envOf (sO "_strip_quoted_realnames") (fscope (stI 2)) s.heap.objs.size 28 (.ref 27))) (fun f s' => Q (retOf f) s') (fun _ _ => False) { s with heap := h₁, toks := s.toks + 1 }) :
    wpAny (model pw w) A (PySem.call (.ref 28) [v0]) Q E s :=
  enter (name := sO "_strip_quoted_realnames") (params := fparams (stI 2)) (body := fbody (stI 2)) (scope := fscope (stI 2)) (pm := (.str (sO "cpy313.email.utils") 187)) (doc := .none) (cA := 27) (o := o28_5 w.params) (oc := o27_5 w.params) C R (by decide) (by kernel_rfl!) (by kernel_rfl!) (by kernel_rfl!) (by decide) (by kernel_rfl!) (by kernel_rfl!) ⟨_, _, rfl, rfl⟩ (binds := [(sO "addr", v0)]) (by kernel_rfl!) (locs (by kernel_rfl!)) h (by kernel_rfl!) (by kernel_rfl!) (by kernel_rfl!) (by kernel_rfl!)
theorem enter_check {w : World} {os : OsState} {A : Around} {s : Shared} {E : Value → Shared → Prop} {v0 : Value} {Q : Value → Shared → Prop} {n : Nat} (C : Cx w os s.heap) (R : Room A (n + 1))
    (h : ∀ h₁, Fr s.heap s.heap.objs.size h₁ (fun x => ([(sO "addr", v0)] : List (Str × Value)).reverse.lookup x) → Cx w os h₁ → Room (A.deeper (envOf (sO "_check_parenthesis") (fscope (stI 3)) s.heap.objs.size 35 (.ref 34))) n →
      wpAny (model pw w) (A.deeper (envOf (sO "_check_parenthesis") (fscope (stI 3)) s.heap.objs.size 35 (.ref 34))) (execs (fbody (stI 3)) (envOf (sO "_check_parenthesis") (fscope (stI 3)) s.heap.objs.size 35 (.ref 34))) (fun f s' => Q (retOf f) s') (fun _ _ => False) { s with heap := h₁, toks := s.toks + 1 }) :
    wpAny (model pw w) A (PySem.call (.ref 35) [v0]) Q E s :=
  enter (name := sO "_check_parenthesis") (params := fparams (stI 3)) (body := fbody (stI 3)) (scope := fscope (stI 3)) (pm := (.str (sO "cpy313.email.utils") 187)) (doc := .none) (cA := 34) (o := o35_5 w.params) (oc := o34_5 w.params) C R (by decide) (by kernel_rfl!) (by kernel_rfl!) (by kernel_rfl!) (by decide) (by kernel_rfl!) (by kernel_rfl!) ⟨_, _, rfl, rfl⟩ (binds := [(sO "addr", v0)]) (by kernel_rfl!) (locs (by kernel_rfl!)) h (by kernel_rfl!) (by kernel_rfl!) (by kernel_rfl!) (by kernel_rfl!)
theorem enter_parse {w : World} {os : OsState} {A : Around} {s : Shared} {E : Value → Shared → Prop} {v0 : Value} {Q : Value → Shared → Prop} {n : Nat} (C : Cx w os s.heap) (R : Room A (n + 1))
    (h : ∀ h₁, Fr s.heap s.heap.objs.size h₁ (fun x => ([(sO "resp", v0)] : List (Str × Value)).reverse.lookup x) → Cx w os h₁ → Room (A.deeper (envOf (sO "parse257") (fscope (stI 7)) s.heap.objs.size 67 (.ref 66))) n →
      wpAny (model pw w) (A.deeper (envOf (sO "parse257") (fscope (stI 7)) s.heap.objs.size 67 (.ref 66))) (execs (fbody (stI 7)) (envOf (sO "parse257") (fscope (stI 7)) s.heap.objs.size 67 (.ref 66))) (fun f s' => Q (retOf f) s') (fun _ _ => False) { s with heap := h₁, toks := s.toks + 1 }) :
    wpAny (model pw w) A (PySem.call (.ref 67) [v0]) Q E s :=
  enter (name := sO "parse257") (params := fparams (stI 7)) (body := fbody (stI 7)) (scope := fscope (stI 7)) (pm := (.str (sO "cpy313.ftplib") 221)) (doc := .none) (cA := 66) (o := o67_8 w.params) (oc := o66_8 w.params) C R (by decide) (by kernel_rfl!) (by kernel_rfl!) (by kernel_rfl!) (by decide) (by kernel_rfl!) (by kernel_rfl!) ⟨_, _, rfl, rfl⟩ (binds := [(sO "resp", v0)]) (by kernel_rfl!) (locs (by kernel_rfl!)) h (by kernel_rfl!) (by kernel_rfl!) (by kernel_rfl!) (by kernel_rfl!)
theorem enter_b1 {w : World} {os : OsState} {A : Around} {s : Shared} {E : Value → Shared → Prop} {v0 : Value} {Q : Value → Shared → Prop} {n : Nat} (C : Cx w os s.heap) (R : Room A (n + 1))
    (h : ∀ h₁, Fr s.heap s.heap.objs.size h₁ (fun x => ([(sO "code", v0)] : List (Str × Value)).reverse.lookup x) → Cx w os h₁ → Room (A.deeper (envOf (sO "in_table_b1") (fscope (stI 10)) s.heap.objs.size 85 (.ref 84))) n →
      wpAny (model pw w) (A.deeper (envOf (sO "in_table_b1") (fscope (stI 10)) s.heap.objs.size 85 (.ref 84))) (execs (fbody (stI 10)) (envOf (sO "in_table_b1") (fscope (stI 10)) s.heap.objs.size 85 (.ref 84))) (fun f s' => Q (retOf f) s') (fun _ _ => False) { s with heap := h₁, toks := s.toks + 1 }) :
    wpAny (model pw w) A (PySem.call (.ref 85) [v0]) Q E s :=
  enter (name := sO "in_table_b1") (params := fparams (stI 10)) (body := fbody (stI 10)) (scope := fscope (stI 10)) (pm := (.str (sO "cpy313.stringprep") 270)) (doc := .none) (cA := 84) (o := o85_10 w.params) (oc := o84_10 w.params) C R (by decide) (by kernel_rfl!) (by kernel_rfl!) (by kernel_rfl!) (by decide) (by kernel_rfl!) (by kernel_rfl!) ⟨_, _, rfl, rfl⟩ (binds := [(sO "code", v0)]) (by kernel_rfl!) (locs (by kernel_rfl!)) h (by kernel_rfl!) (by kernel_rfl!) (by kernel_rfl!) (by kernel_rfl!)
theorem enter_b3 {w : World} {os : OsState} {A : Around} {s : Shared} {E : Value → Shared → Prop} {v0 : Value} {Q : Value → Shared → Prop} {n : Nat} (C : Cx w os s.heap) (R : Room A (n + 1))
    (h : ∀ h₁, Fr s.heap s.heap.objs.size h₁ (fun x => ([(sO "code", v0)] : List (Str × Value)).reverse.lookup x) → Cx w os h₁ → Room (A.deeper (envOf (sO "map_table_b3") (fscope (stI 12)) s.heap.objs.size 131 (.ref 130))) n →
      wpAny (model pw w) (A.deeper (envOf (sO "map_table_b3") (fscope (stI 12)) s.heap.objs.size 131 (.ref 130))) (execs (fbody (stI 12)) (envOf (sO "map_table_b3") (fscope (stI 12)) s.heap.objs.size 131 (.ref 130))) (fun f s' => Q (retOf f) s') (fun _ _ => False) { s with heap := h₁, toks := s.toks + 1 }) :
    wpAny (model pw w) A (PySem.call (.ref 131) [v0]) Q E s :=
  enter (name := sO "map_table_b3") (params := fparams (stI 12)) (body := fbody (stI 12)) (scope := fscope (stI 12)) (pm := (.str (sO "cpy313.stringprep") 270)) (doc := .none) (cA := 130) (o := o131_18 w.params) (oc := o130_18 w.params) C R (by decide) (by kernel_rfl!) (by kernel_rfl!) (by kernel_rfl!) (by decide) (by kernel_rfl!) (by kernel_rfl!) ⟨_, _, rfl, rfl⟩ (binds := [(sO "code", v0)]) (by kernel_rfl!) (locs (by kernel_rfl!)) h (by kernel_rfl!) (by kernel_rfl!) (by kernel_rfl!) (by kernel_rfl!)
theorem enter_drawn {w : World} {os : OsState} {A : Around} {s : Shared} {E : Value → Shared → Prop} {v0 : Value} {Q : Value → Shared → Prop} {n : Nat} (C : Cx w os s.heap) (R : Room A (n + 1))
    (h : ∀ h₁, Fr s.heap s.heap.objs.size h₁ (fun x => ([(sO "numbers", v0)] : List (Str × Value)).reverse.lookup x) → Cx w os h₁ → Room (A.deeper (envOf (sO "_law_drawn") (fscope (stI 14)) s.heap.objs.size 136 (.ref 135))) n →
      wpAny (model pw w) (A.deeper (envOf (sO "_law_drawn") (fscope (stI 14)) s.heap.objs.size 136 (.ref 135))) (execs (fbody (stI 14)) (envOf (sO "_law_drawn") (fscope (stI 14)) s.heap.objs.size 136 (.ref 135))) (fun f s' => Q (retOf f) s') (fun _ _ => False) { s with heap := h₁, toks := s.toks + 1 }) :
    wpAny (model pw w) A (PySem.call (.ref 136) [v0]) Q E s :=
  enter (name := sO "_law_drawn") (params := fparams (stI 14)) (body := fbody (stI 14)) (scope := fscope (stI 14)) (pm := (.str (sO "law_wc0013_01") 2298)) (doc := .none) (cA := 135) (o := o136_18 w.params) (oc := o135_18 w.params) C R (by decide) (by kernel_rfl!) (by kernel_rfl!) (by kernel_rfl!) (by decide) (by kernel_rfl!) (by kernel_rfl!) ⟨_, _, rfl, rfl⟩ (binds := [(sO "numbers", v0)]) (by kernel_rfl!) (locs (by kernel_rfl!)) h (by kernel_rfl!) (by kernel_rfl!) (by kernel_rfl!) (by kernel_rfl!)
theorem enter_read {w : World} {os : OsState} {A : Around} {s : Shared} {E : Value → Shared → Prop} {v0 : Value} {Q : Value → Shared → Prop} {n : Nat} (C : Cx w os s.heap) (R : Room A (n + 1))
    (h : ∀ h₁, Fr s.heap s.heap.objs.size h₁ (fun x => ([(sO "reply", v0)] : List (Str × Value)).reverse.lookup x) → Cx w os h₁ → Room (A.deeper (envOf (sO "_law_read") (fscope (stI 15)) s.heap.objs.size 141 (.ref 140))) n →
      wpAny (model pw w) (A.deeper (envOf (sO "_law_read") (fscope (stI 15)) s.heap.objs.size 141 (.ref 140))) (execs (fbody (stI 15)) (envOf (sO "_law_read") (fscope (stI 15)) s.heap.objs.size 141 (.ref 140))) (fun f s' => Q (retOf f) s') (fun _ _ => False) { s with heap := h₁, toks := s.toks + 1 }) :
    wpAny (model pw w) A (PySem.call (.ref 141) [v0]) Q E s :=
  enter (name := sO "_law_read") (params := fparams (stI 15)) (body := fbody (stI 15)) (scope := fscope (stI 15)) (pm := (.str (sO "law_wc0013_01") 2298)) (doc := .none) (cA := 140) (o := o141_18 w.params) (oc := o140_18 w.params) C R (by decide) (by kernel_rfl!) (by kernel_rfl!) (by kernel_rfl!) (by decide) (by kernel_rfl!) (by kernel_rfl!) ⟨_, _, rfl, rfl⟩ (binds := [(sO "reply", v0)]) (by kernel_rfl!) (locs (by kernel_rfl!)) h (by kernel_rfl!) (by kernel_rfl!) (by kernel_rfl!) (by kernel_rfl!)
theorem enter_lend {w : World} {os : OsState} {A : Around} {s : Shared} {E : Value → Shared → Prop} {v0 v1 : Value} {Q : Value → Shared → Prop} {n : Nat} (C : Cx w os s.heap) (R : Room A (n + 1))
    (h : ∀ h₁, Fr s.heap s.heap.objs.size h₁ (fun x => ([(sO "written", v0), (sO "k", v1)] : List (Str × Value)).reverse.lookup x) → Cx w os h₁ → Room (A.deeper (envOf (sO "_law_end") (fscope (stI 16)) s.heap.objs.size 148 (.ref 147))) n →
      wpAny (model pw w) (A.deeper (envOf (sO "_law_end") (fscope (stI 16)) s.heap.objs.size 148 (.ref 147))) (execs (fbody (stI 16)) (envOf (sO "_law_end") (fscope (stI 16)) s.heap.objs.size 148 (.ref 147))) (fun f s' => Q (retOf f) s') (fun _ _ => False) { s with heap := h₁, toks := s.toks + 2 }) :
    wpAny (model pw w) A (PySem.call (.ref 148) [v0, v1]) Q E s :=
  enter (name := sO "_law_end") (params := fparams (stI 16)) (body := fbody (stI 16)) (scope := fscope (stI 16)) (pm := (.str (sO "law_wc0013_01") 2298)) (doc := .none) (cA := 147) (o := o148_18 w.params) (oc := o147_18 w.params) C R (by decide) (by kernel_rfl!) (by kernel_rfl!) (by kernel_rfl!) (by decide) (by kernel_rfl!) (by kernel_rfl!) ⟨_, _, rfl, rfl⟩ (binds := [(sO "written", v0), (sO "k", v1)]) (by kernel_rfl!) (locs (by kernel_rfl!)) h (by kernel_rfl!) (by kernel_rfl!) (by kernel_rfl!) (by kernel_rfl!)
theorem enter_told {w : World} {os : OsState} {A : Around} {s : Shared} {E : Value → Shared → Prop} {v0 : Value} {Q : Value → Shared → Prop} {n : Nat} (C : Cx w os s.heap) (R : Room A (n + 1))
    (h : ∀ h₁, Fr s.heap s.heap.objs.size h₁ (fun x => ([(sO "written", v0)] : List (Str × Value)).reverse.lookup x) → Cx w os h₁ → Room (A.deeper (envOf (sO "_law_told") (fscope (stI 17)) s.heap.objs.size 155 (.ref 154))) n →
      wpAny (model pw w) (A.deeper (envOf (sO "_law_told") (fscope (stI 17)) s.heap.objs.size 155 (.ref 154))) (execs (fbody (stI 17)) (envOf (sO "_law_told") (fscope (stI 17)) s.heap.objs.size 155 (.ref 154))) (fun f s' => Q (retOf f) s') (fun _ _ => False) { s with heap := h₁, toks := s.toks + 1 }) :
    wpAny (model pw w) A (PySem.call (.ref 155) [v0]) Q E s :=
  enter (name := sO "_law_told") (params := fparams (stI 17)) (body := fbody (stI 17)) (scope := fscope (stI 17)) (pm := (.str (sO "law_wc0013_01") 2298)) (doc := .none) (cA := 154) (o := o155_18 w.params) (oc := o154_18 w.params) C R (by decide) (by kernel_rfl!) (by kernel_rfl!) (by kernel_rfl!) (by decide) (by kernel_rfl!) (by kernel_rfl!) ⟨_, _, rfl, rfl⟩ (binds := [(sO "written", v0)]) (by kernel_rfl!) (locs (by kernel_rfl!)) h (by kernel_rfl!) (by kernel_rfl!) (by kernel_rfl!) (by kernel_rfl!)
end WC

namespace WC
open PySem PySem.W PySem.Calls PyProof.Rows
noncomputable section
/-- the names that the defs look up, at the top's end -/
noncomputable def glAll (P : Params) : List (Option Value) := ([sO "_iter_escaped_chars", sO "_strip_quoted_realnames", sO "_check_parenthesis", sO "error_reply", sO "parse257", sO "in_table_b1", sO "b1_set", sO "b3_exceptions", sO "map_table_b3", sO "_law_drawn", sO "_law_read", sO "_law_end", sO "_law_told", sO "len", sO "enumerate", sO "sorted", sO "range", sO "ord", sO "sum", sO "min"] : List Str).map ((absHeap (T_18 P) 161 tlife).nsMap mainGlobals)
theorem glAlla : glAll = glAll := rfl
name_quick glAllQ for WC.glAll by WC.glAlla
theorem glAllK (P : Params) : PySem.W.Fast.glAllQ P = [some (.ref 21), some (.ref 28), some (.ref 35), some (.ref 58), some (.ref 67), some (.ref 85), some (.ref 75), some (.ref 86), some (.ref 131), some (.ref 136), some (.ref 141), some (.ref 148), some (.ref 155), none, none, none, none, none, none, none] := by kernel_rfl!
theorem glAllP (P : Params) : glAll P = [some (.ref 21), some (.ref 28), some (.ref 35), some (.ref 58), some (.ref 67), some (.ref 85), some (.ref 75), some (.ref 86), some (.ref 131), some (.ref 136), some (.ref 141), some (.ref 148), some (.ref 155), none, none, none, none, none, none, none] := by rw [PySem.W.Fast.glAllQ_eq]; exact glAllK P
end
theorem map_at {γ δ : Type} {f : γ → δ} {l : List γ} {r : List δ} (e : l.map f = r) (i : Nat) {x : γ} {v : δ} (h1 : l[i]? = some x) (h2 : r[i]? = some v) : f x = v := by
  rw [← e, List.getElem?_map, h1] at h2
  exact Option.some.inj h2
noncomputable abbrev tmg (w : World) (os : OsState) : Str → Option Value := (topEnd w os).heap.nsMap mainGlobals
theorem gl_iter (w : World) (os : OsState) : tmg w os (Str.ofString "_iter_escaped_chars") = some (.ref 21) := map_at (f := tmg w os) (glAllP w.params) 0 rfl rfl
theorem gl_strip (w : World) (os : OsState) : tmg w os (Str.ofString "_strip_quoted_realnames") = some (.ref 28) := map_at (f := tmg w os) (glAllP w.params) 1 rfl rfl
theorem gl_check (w : World) (os : OsState) : tmg w os (Str.ofString "_check_parenthesis") = some (.ref 35) := map_at (f := tmg w os) (glAllP w.params) 2 rfl rfl
theorem gl_er (w : World) (os : OsState) : tmg w os (Str.ofString "error_reply") = some (.ref 58) := map_at (f := tmg w os) (glAllP w.params) 3 rfl rfl
theorem gl_parse (w : World) (os : OsState) : tmg w os (Str.ofString "parse257") = some (.ref 67) := map_at (f := tmg w os) (glAllP w.params) 4 rfl rfl
theorem gl_b1 (w : World) (os : OsState) : tmg w os (Str.ofString "in_table_b1") = some (.ref 85) := map_at (f := tmg w os) (glAllP w.params) 5 rfl rfl
theorem gl_b1s (w : World) (os : OsState) : tmg w os (Str.ofString "b1_set") = some (.ref 75) := map_at (f := tmg w os) (glAllP w.params) 6 rfl rfl
theorem gl_b3s (w : World) (os : OsState) : tmg w os (Str.ofString "b3_exceptions") = some (.ref 86) := map_at (f := tmg w os) (glAllP w.params) 7 rfl rfl
theorem gl_b3 (w : World) (os : OsState) : tmg w os (Str.ofString "map_table_b3") = some (.ref 131) := map_at (f := tmg w os) (glAllP w.params) 8 rfl rfl
theorem gl_drawn (w : World) (os : OsState) : tmg w os (Str.ofString "_law_drawn") = some (.ref 136) := map_at (f := tmg w os) (glAllP w.params) 9 rfl rfl
theorem gl_read (w : World) (os : OsState) : tmg w os (Str.ofString "_law_read") = some (.ref 141) := map_at (f := tmg w os) (glAllP w.params) 10 rfl rfl
theorem gl_lend (w : World) (os : OsState) : tmg w os (Str.ofString "_law_end") = some (.ref 148) := map_at (f := tmg w os) (glAllP w.params) 11 rfl rfl
theorem gl_told (w : World) (os : OsState) : tmg w os (Str.ofString "_law_told") = some (.ref 155) := map_at (f := tmg w os) (glAllP w.params) 12 rfl rfl
theorem gl_len (w : World) (os : OsState) : tmg w os (Str.ofString "len") = none := map_at (f := tmg w os) (glAllP w.params) 13 rfl rfl
theorem bb_len : bootBuiltins (Str.ofString "len") = some (.builtin "len") := by decide +kernel
theorem nn_len : (Str.ofString "len") ≠ "__name__" := by decide +kernel
theorem gl_enumerate (w : World) (os : OsState) : tmg w os (Str.ofString "enumerate") = none := map_at (f := tmg w os) (glAllP w.params) 14 rfl rfl
theorem bb_enumerate : bootBuiltins (Str.ofString "enumerate") = some (.type "enumerate") := by decide +kernel
theorem nn_enumerate : (Str.ofString "enumerate") ≠ "__name__" := by decide +kernel
theorem gl_sorted (w : World) (os : OsState) : tmg w os (Str.ofString "sorted") = none := map_at (f := tmg w os) (glAllP w.params) 15 rfl rfl
theorem bb_sorted : bootBuiltins (Str.ofString "sorted") = some (.builtin "sorted") := by decide +kernel
theorem nn_sorted : (Str.ofString "sorted") ≠ "__name__" := by decide +kernel
theorem gl_range (w : World) (os : OsState) : tmg w os (Str.ofString "range") = none := map_at (f := tmg w os) (glAllP w.params) 16 rfl rfl
theorem bb_range : bootBuiltins (Str.ofString "range") = some (.type "range") := by decide +kernel
theorem nn_range : (Str.ofString "range") ≠ "__name__" := by decide +kernel
theorem gl_ord (w : World) (os : OsState) : tmg w os (Str.ofString "ord") = none := map_at (f := tmg w os) (glAllP w.params) 17 rfl rfl
theorem bb_ord : bootBuiltins (Str.ofString "ord") = some (.builtin "ord") := by decide +kernel
theorem nn_ord : (Str.ofString "ord") ≠ "__name__" := by decide +kernel
theorem gl_sum (w : World) (os : OsState) : tmg w os (Str.ofString "sum") = none := map_at (f := tmg w os) (glAllP w.params) 18 rfl rfl
theorem bb_sum : bootBuiltins (Str.ofString "sum") = some (.builtin "sum") := by decide +kernel
theorem nn_sum : (Str.ofString "sum") ≠ "__name__" := by decide +kernel
theorem gl_min (w : World) (os : OsState) : tmg w os (Str.ofString "min") = none := map_at (f := tmg w os) (glAllP w.params) 19 rfl rfl
theorem bb_min : bootBuiltins (Str.ofString "min") = some (.builtin "min") := by decide +kernel
theorem nn_min : (Str.ofString "min") ≠ "__name__" := by decide +kernel
section
variable {w : World} {os : OsState} {A : Around} {E : Value → Shared → Prop} {s : Shared} {name : Str} {scope : Scope} {L a : Addr} {cd : Value} {h₀ : Heap} {m : Str → Option Value} {x : Str} {pos : Pos} {v : Value} {Q : Value → Shared → Prop}
theorem nm_top (F : Fr h₀ L s.heap m) (C : Cx w os h₀) (hv : tmg w os x = some v) (h : Q v s)
    (hk : scope.kind = .function := by kernel_rfl!) (hx : (envOf name scope L a cd).kindOf x = some .globalImplicit := by kernel_rfl!) (hd : (x == ("__debug__" : Str)) = false := by decide +kernel) :
    wpAny (model pw w) A (eval (.Name x pos) (envOf name scope L a cd)) Q E s := ld_global_at F C.T.g hv h hk hx hd
theorem nm_blt (F : Fr h₀ L s.heap m) (C : Cx w os h₀) (h1 : tmg w os x = none) (h2 : bootBuiltins x = some v) (h3 : x ≠ "__name__") (h : Q v s)
    (hk : scope.kind = .function := by kernel_rfl!) (hx : (envOf name scope L a cd).kindOf x = some .globalImplicit := by kernel_rfl!) (hd : (x == ("__debug__" : Str)) = false := by decide +kernel) :
    wpAny (model pw w) A (eval (.Name x pos) (envOf name scope L a cd)) Q E s := ld_builtin_at F C.T.g h1 C.T.b ((C.T.builtins x h3).trans h2) h hk hx hd
end
end WC

namespace WC
open PySem PySem.W PySem.Calls PyProof.Rows

/-! the state inside a def's body: its locals by a list, what it has made, the rest as at its entry -/
noncomputable def GenLe (g g' : Array GenState) : Prop := (∀ (i : Nat) (x : GenState), g[i]? = some x → g'[i]? = some x) ∧ (AllBare g → AllBare g')
theorem GenLe.refl (g : Array GenState) : GenLe g g := ⟨fun _ _ h => h, id⟩
theorem GenLe.trans {a b c : Array GenState} (x : GenLe a b) (y : GenLe b c) : GenLe a c := ⟨fun i v h => y.1 i v (x.1 i v h), fun h => y.2 (x.2 h)⟩

/-- what becomes of the generators: none is touched, or: none of those there -/
noncomputable def GenQ : Bool → Array GenState → Array GenState → Prop
  | true, g, g' => g' = g
  | false, g, g' => GenLe g g'
theorem GenQ.refl : ∀ (b : Bool) (g : Array GenState), GenQ b g g
  | true, _ => rfl
  | false, g => GenLe.refl g
theorem GenQ.trans : ∀ {b : Bool} {x y z : Array GenState}, GenQ b x y → GenQ b y z → GenQ b x z
  | true, _, _, _, h, k => Eq.trans (show _ = _ from k) (show _ = _ from h)
  | false, _, _, _, h, k => GenLe.trans h k
theorem GenQ.le : ∀ {b : Bool} {x y : Array GenState}, GenQ b x y → GenQ false x y
  | true, x, _, h => by cases h; exact GenLe.refl x
  | false, _, _, h => h
theorem GenQ.to : ∀ {b c : Bool} {x y : Array GenState}, (c = true → b = true) → GenQ b x y → GenQ c x y
  | true, true, _, _, _, h => h
  | false, true, _, _, e, _ => nomatch e rfl
  | _, false, _, _, _, h => h.le

noncomputable def Has (m : Str → Option Value) : List (Str × Value) → Prop
  | [] => True
  | p :: r => m p.1 = some p.2 ∧ Has m r
theorem Has.mem {m : Str → Option Value} : ∀ {l : List (Str × Value)}, Has m l → ∀ {p : Str × Value}, p ∈ l → m p.1 = some p.2
  | [], _, _, h => nomatch h
  | q :: r, H, p, h => by
    rcases List.mem_cons.mp h with rfl | h
    · exact H.1
    · exact H.2.mem h
theorem Has.of {m : Str → Option Value} : ∀ {l : List (Str × Value)}, (∀ p ∈ l, m p.1 = some p.2) → Has m l
  | [], _ => trivial
  | q :: r, h => ⟨h q (.head _), Has.of fun p hp => h p (.tail _ hp)⟩

inductive Upd1 (x : Str) (v : Value) : List (Str × Value) → List (Str × Value) → Prop
  | nil : Upd1 x v [] [(x, v)]
  | head {u r} : Upd1 x v ((x, u) :: r) ((x, v) :: r)
  | tail {y u r r'} : y ≠ x → Upd1 x v r r' → Upd1 x v ((y, u) :: r) ((y, u) :: r')
theorem Upd1.names {x : Str} {v : Value} {l l' : List (Str × Value)} (h : Upd1 x v l l') : ∀ y, y ∈ l'.map (·.1) → y = x ∨ y ∈ l.map (·.1) := by
  induction h with
  | nil => intro y hy; simp at hy; exact .inl hy
  | head => intro y hy; exact .inr (by simpa using hy)
  | tail _ _ ih =>
    intro y hy
    simp only [List.map_cons, List.mem_cons] at hy ⊢
    rcases hy with rfl | hy
    · exact .inr (.inl rfl)
    · rcases ih y hy with e | e
      · exact .inl e
      · exact .inr (.inr e)
theorem Upd1.nodup {x : Str} {v : Value} {l l' : List (Str × Value)} (h : Upd1 x v l l') (n : (l.map (·.1)).Nodup) : (l'.map (·.1)).Nodup := by
  induction h with
  | nil => simp
  | head => simpa using n
  | @tail y u r r' hy hu ih =>
    simp only [List.map_cons, List.nodup_cons] at n ⊢
    refine ⟨fun q => ?_, ih n.2⟩
    rcases hu.names y q with e | e
    · exact hy e
    · exact n.1 e
theorem Upd1.has {x : Str} {v : Value} {l l' : List (Str × Value)} (h : Upd1 x v l l') {m : Str → Option Value} (n : (l.map (·.1)).Nodup) (H : Has m l) : Has (fun y => if y = x then some v else m y) l' := by
  induction h with
  | nil => exact ⟨by simp, trivial⟩
  | @head u r =>
    refine ⟨by simp, Has.of fun p hp => ?_⟩
    simp only [List.map_cons, List.nodup_cons] at n
    have : p.1 ≠ x := fun e => n.1 (e ▸ List.mem_map.mpr ⟨p, hp, rfl⟩)
    simp only [this, if_false]
    exact H.2.mem hp
  | @tail y u r r' hy hu ih =>
    simp only [List.map_cons, List.nodup_cons] at n
    exact ⟨by simp [hy]; exact H.1, ih n.2 H.2⟩

structure In (b : Bool) (s₀ : Shared) (L : Addr) (l : List (Str × Value)) (N : List (Addr × Obj)) (s : Shared) : Prop where
  fr : ∃ m, Fr s₀.heap L s.heap m ∧ Has m l
  nd : (l.map (·.1)).Nodup
  nw : News s₀.heap L s.heap N
  os : s.os = s₀.os
  drawn : s.drawn = s₀.drawn
  gens : GenQ b s₀.gens s.gens
/-- the entry -/
theorem In.start {b : Bool} {s s' : Shared} {binds : List (Str × Value)} {h : Heap} (F : Fr s.heap s.heap.objs.size h (fun x => binds.reverse.lookup x)) (nd : (binds.map (·.1)).Nodup) (e : s' = { s with heap := h, toks := s'.toks }) : In b s s.heap.objs.size binds [] s' := by
  rw [e]
  refine ⟨⟨_, F, Has.of fun p hp => ?_⟩, nd, .nil, rfl, rfl, .refl _ _⟩
  obtain ⟨x, v⟩ := p
  have : ∀ (l : List (Str × Value)), (l.map (·.1)).Nodup → (x, v) ∈ l → l.lookup x = some v := by
    intro l
    induction l with
    | nil => intro _ h; cases h
    | cons q r ih =>
      obtain ⟨y, u⟩ := q
      intro n h
      simp only [List.map_cons, List.nodup_cons] at n
      rcases List.mem_cons.mp h with e | h
      · cases e; simp [List.lookup]
      · have : ¬ (x = y) := fun e => n.1 (e ▸ List.mem_map.mpr ⟨_, h, rfl⟩)
        have : (x == y) = false := by simpa using this
        rw [List.lookup_cons, this]
        exact ih n.2 h
  exact this binds.reverse (by rw [List.map_reverse]; exact (List.reverse_perm _).symm.nodup nd) (List.mem_reverse.mpr hp)
theorem In.keeps {b : Bool} {s₀ s s' : Shared} {L : Addr} {l : List (Str × Value)} {N : List (Addr × Obj)} (I : In b s₀ L l N s) (k : ∀ b o, s.heap.get? b = some o → s'.heap.get? b = some o) (ho : s'.os = s.os) (hd : s'.drawn = s.drawn) (hg : GenQ b s.gens s'.gens) : In b s₀ L l N s' := by
  obtain ⟨⟨m, F, H⟩, nd, nw, os, dr, g⟩ := I
  refine ⟨⟨m, ⟨F.ns.keeps k, fun b o e => k b o (F.keep b o e), F.above⟩, H⟩, nd, fun p hp => ⟨k _ _ (nw p hp).1, (nw p hp).2⟩, ho.trans os, hd.trans dr, g.trans hg⟩
theorem In.toks {b : Bool} {s₀ s : Shared} {L : Addr} {l : List (Str × Value)} {N : List (Addr × Obj)} (I : In b s₀ L l N s) (t : Nat) : In b s₀ L l N { s with toks := t } := I.keeps (fun _ _ h => h) rfl rfl (.refl _ _)
theorem In.names {b : Bool} {s₀ s : Shared} {L : Addr} {l l' : List (Str × Value)} {N : List (Addr × Obj)} (I : In b s₀ L l N s) (h : ∀ p ∈ l', p ∈ l) (nd : (l'.map (·.1)).Nodup) : In b s₀ L l' N s :=
  let ⟨m, F, H⟩ := I.fr; ⟨⟨m, F, Has.of fun p hp => H.mem (h p hp)⟩, nd, I.nw, I.os, I.drawn, I.gens⟩
theorem In.news {b : Bool} {s₀ s : Shared} {L : Addr} {l : List (Str × Value)} {N N' : List (Addr × Obj)} (I : In b s₀ L l N s) (h : ∀ p ∈ N', p ∈ N) : In b s₀ L l N' s := ⟨I.fr, I.nd, fun p hp => I.nw p (h p hp), I.os, I.drawn, I.gens⟩

/-- what a call leaves -/
structure KpG (b : Bool) (s s' : Shared) : Prop where
  keep : ∀ b o, s.heap.get? b = some o → s'.heap.get? b = some o
  os : s'.os = s.os
  drawn : s'.drawn = s.drawn
  gens : GenQ b s.gens s'.gens
theorem KpG.refl {b : Bool} {s : Shared} : KpG b s s := ⟨fun _ _ h => h, rfl, rfl, .refl _ _⟩
theorem KpG.trans {b : Bool} {s s' s'' : Shared} (x : KpG b s s') (y : KpG b s' s'') : KpG b s s'' := ⟨fun a o h => y.keep a o (x.keep a o h), y.os.trans x.os, y.drawn.trans x.drawn, x.gens.trans y.gens⟩
theorem KpG.to {b c : Bool} {s s' : Shared} (h : c = true → b = true) (x : KpG b s s') : KpG c s s' := ⟨x.keep, x.os, x.drawn, x.gens.to h⟩
theorem KpG.form {s s' : Shared} (x : KpG true s s') : Keeps s s' := ⟨s'.heap, s'.toks, by obtain ⟨_, o, d, g⟩ := x; cases s; cases s'; simp only at o d g; cases o; cases d; cases (show _ = _ from g); rfl, x.keep⟩
theorem In.kp {b : Bool} {s₀ s : Shared} {L : Addr} {l : List (Str × Value)} {N : List (Addr × Obj)} (I : In b s₀ L l N s) : KpG b s₀ s := let ⟨m, F, _⟩ := I.fr; ⟨F.keep, I.os, I.drawn, I.gens⟩
theorem bor {b c : Bool} (h : (!b || c) = true) (hb : b = true) : c = true := by
  subst hb; exact h
theorem In.after {b c : Bool} {s₀ s s' : Shared} {L : Addr} {l : List (Str × Value)} {N : List (Addr × Obj)} (I : In b s₀ L l N s) (k : KpG c s s') (hbc : (!b || c) = true := by rfl) : In b s₀ L l N s' := I.keeps k.keep k.os k.drawn (k.gens.to (bor hbc))

section
variable {b : Bool} {w : World} {os : OsState} {A : Around} {E : Value → Shared → Prop} {s s₀ : Shared} {nm : Str} {sc : Scope} {L a : Addr} {cd : Value} {l l' : List (Str × Value)} {N : List (Addr × Obj)} {x : Str} {pos : Pos} {v : Value}

theorem ev_local {Q : Value → Shared → Prop} (I : In b s₀ L l N s) (hv : (x, v) ∈ l) (h : Q v s)
    (hk : sc.kind = .function := by kernel_rfl!) (hl : (envOf nm sc L a cd).kindOf x = some .local := by kernel_rfl!) (hd : (x == ("__debug__" : Str)) = false := by decide +kernel) :
    wpAny (model pw w) A (eval (.Name x pos) (envOf nm sc L a cd)) Q E s := let ⟨m, F, H⟩ := I.fr; ld F (H.mem hv) h hk hl hd
theorem ld_local {Q : Value → Shared → Prop} (I : In b s₀ L l N s) (hv : (x, v) ∈ l) (h : Q v s)
    (hk : sc.kind = .function := by kernel_rfl!) (hl : (envOf nm sc L a cd).kindOf x = some .local := by kernel_rfl!) :
    wpAny (model pw w) A (loadName (envOf nm sc L a cd) x) Q E s := let ⟨m, F, H⟩ := I.fr; ldn F (H.mem hv) h hk hl
theorem ev_top {Q : Value → Shared → Prop} (C : Cx w os s₀.heap) (I : In b s₀ L l N s) (hv : tmg w os x = some v) (h : Q v s)
    (hk : sc.kind = .function := by kernel_rfl!) (hx : (envOf nm sc L a cd).kindOf x = some .globalImplicit := by kernel_rfl!) (hd : (x == ("__debug__" : Str)) = false := by decide +kernel) :
    wpAny (model pw w) A (eval (.Name x pos) (envOf nm sc L a cd)) Q E s := let ⟨m, F, H⟩ := I.fr; nm_top F C hv h hk hx hd
theorem ev_blt {Q : Value → Shared → Prop} (C : Cx w os s₀.heap) (I : In b s₀ L l N s) (h1 : tmg w os x = none) (h2 : bootBuiltins x = some v) (h3 : x ≠ "__name__") (h : Q v s)
    (hk : sc.kind = .function := by kernel_rfl!) (hx : (envOf nm sc L a cd).kindOf x = some .globalImplicit := by kernel_rfl!) (hd : (x == ("__debug__" : Str)) = false := by decide +kernel) :
    wpAny (model pw w) A (eval (.Name x pos) (envOf nm sc L a cd)) Q E s := let ⟨m, F, H⟩ := I.fr; nm_blt F C h1 h2 h3 h hk hx hd
theorem store_local {Q : Unit → Shared → Prop} (I : In b s₀ L l N s) (hu : Upd1 x v l l') (h : ∀ s', In b s₀ L l' N s' → Q () s')
    (hk : sc.kind = .function := by kernel_rfl!) (hl : (envOf nm sc L a cd).kindOf x = some .local := by kernel_rfl!) :
    wpAny (model pw w) A (storeName (envOf nm sc L a cd) x v) Q E s := by
  obtain ⟨⟨m, F, H⟩, nd, nw, os', dr, g⟩ := I
  exact stN F nw (fun h' F' N' => h _ ⟨⟨_, F', hu.has nd H⟩, hu.nodup nd, N', os', dr, g⟩) hk hl

/-- an int, a text written in the program -/
theorem ev_int {i : Int} {k : Nat} {env : Env} {Q : Value → Shared → Prop} (I : In b s₀ L l N s) (h : ∀ t s', In b s₀ L l N s' → Q (.int i t) s') : wpAny (model pw w) A (eval (.Constant (.int i) k pos) env) Q E s :=
  wpAny_Constant_int (h _ _ (I.toks _))
theorem ev_str {y : Str} {k : Nat} {env : Env} {Q : Value → Shared → Prop} (I : In b s₀ L l N s) (h : ∀ t s', In b s₀ L l N s' → Q (.str y t) s') : wpAny (model pw w) A (eval (.Constant (.str y) k pos) env) Q E s :=
  Calls.Constant_str (h _ _ (I.toks _))
end
end WC

namespace WC
open PySem PySem.W PySem.Calls PyProof.Rows

/-- what drawing an item may touch: objects in `wr`, one generator -/
noncomputable def GenB (gi : Option Nat) (g g' : Array GenState) : Prop :=
  match gi with
  | none => g' = g
  | some k => (∀ (i : Nat) (x : GenState), i ≠ k → g[i]? = some x → g'[i]? = some x) ∧ (AllBare g → AllBare g')
theorem GenB.refl (gi : Option Nat) (g : Array GenState) : GenB gi g g := by
  cases gi with
  | none => rfl
  | some k => exact ⟨fun _ _ _ h => h, id⟩
theorem GenB.trans {gi : Option Nat} {x y z : Array GenState} (h : GenB gi x y) (k : GenB gi y z) : GenB gi x z := by
  cases gi with
  | none => exact Eq.trans k h
  | some j => exact ⟨fun i v e q => k.1 i v e (h.1 i v e q), fun q => k.2 (h.2 q)⟩
structure Mv (wr : Addr → Prop) (gi : Option Nat) (s s' : Shared) : Prop where
  heap : ∀ b o, ¬ wr b → s.heap.get? b = some o → s'.heap.get? b = some o
  os : s'.os = s.os
  drawn : s'.drawn = s.drawn
  gens : GenB gi s.gens s'.gens
theorem Mv.refl {wr : Addr → Prop} {gi : Option Nat} {s : Shared} : Mv wr gi s s := ⟨fun _ _ _ h => h, rfl, rfl, .refl _ _⟩
theorem Mv.trans {wr : Addr → Prop} {gi : Option Nat} {s s' s'' : Shared} (x : Mv wr gi s s') (y : Mv wr gi s' s'') : Mv wr gi s s'' :=
  ⟨fun b o n h => y.heap b o n (x.heap b o n h), y.os.trans x.os, y.drawn.trans x.drawn, x.gens.trans y.gens⟩

/-- where a source may lie, so that drawing from it leaves the walk's state -/
structure Apart (b : Bool) (s₀ : Shared) (L : Addr) (ns : List Addr) (fp : Shared → List Addr) (wr : Addr → Prop) (gi : Option Nat) : Prop where
  Lf : ∀ s, L ∉ fp s
  Lw : ¬ wr L
  new : ∀ a, wr a → s₀.heap.get? a = none
  led : ∀ a, wr a → a ∉ ns
  gen : ∀ k, gi = some k → b = false ∧ s₀.gens.size ≤ k

theorem In.mv {b : Bool} {s₀ s s' : Shared} {L : Addr} {l : List (Str × Value)} {N : List (Addr × Obj)} {fp : Shared → List Addr} {wr : Addr → Prop} {gi : Option Nat} (I : In b s₀ L l N s) (A : Apart b s₀ L (N.map (·.1)) fp wr gi) (m : Mv wr gi s s') : In b s₀ L l N s' := by
  obtain ⟨⟨mm, F, H⟩, nd, nw, os, dr, g⟩ := I
  refine ⟨⟨mm, ⟨F.ns.at' fun o e => m.heap L o A.Lw e, fun a o e => m.heap a o (fun h => by rw [A.new a h] at e; cases e) (F.keep a o e), F.above⟩, H⟩, nd,
    fun p hp => ⟨m.heap _ _ (fun h => A.led _ h (List.mem_map.mpr ⟨p, hp, rfl⟩)) (nw p hp).1, (nw p hp).2⟩, m.os.trans os, m.drawn.trans dr, ?_⟩
  have mg := m.gens
  cases gi with
  | none => exact (show s'.gens = s.gens from mg) ▸ g
  | some k =>
    obtain ⟨rfl, hk⟩ := A.gen k rfl
    refine ⟨fun i x e => mg.1 i x (fun h => ?_) (g.1 i x e), fun h => mg.2 (g.2 h)⟩
    have : i < s₀.gens.size := by
      rcases Nat.lt_or_ge i s₀.gens.size with h | h
      · exact h
      · rw [Array.getElem?_eq_none h] at e; cases e
    omega

/-- the same state, seen from its own generators -/
noncomputable def base (s₀ : Shared) (g : Array GenState) : Shared := { s₀ with gens := g }
theorem In.rebase {b : Bool} {s₀ s : Shared} {L : Addr} {l : List (Str × Value)} {N : List (Addr × Obj)} (I : In b s₀ L l N s) : In b (base s₀ s.gens) L l N s :=
  ⟨I.fr, I.nd, I.nw, I.os, I.drawn, .refl _ _⟩
theorem In.unbase {b : Bool} {s₀ s s' : Shared} {L : Addr} {l' : List (Str × Value)} {N' : List (Addr × Obj)} (g : GenQ b s₀.gens s.gens) (I : In b (base s₀ s.gens) L l' N' s') : In b s₀ L l' N' s' :=
  ⟨I.fr, I.nd, I.nw, I.os, I.drawn, g.trans I.gens⟩
theorem In.own {b : Bool} {s₀ s : Shared} {L : Addr} {l : List (Str × Value)} {N : List (Addr × Obj)} {fp : List Addr} (hL : L ∉ fp) (I : In b s₀ L l N s) : In b s₀ L l (N ++ ownOf s₀.heap fp s.heap) s :=
  ⟨I.fr, I.nd, fun p hp => by
    rcases List.mem_append.mp hp with h | h
    · exact I.nw p h
    · exact news_ownOf hL p h, I.os, I.drawn, I.gens⟩
theorem In.left {b : Bool} {s₀ s : Shared} {L : Addr} {l : List (Str × Value)} {N O : List (Addr × Obj)} (I : In b s₀ L l (N ++ O) s) : In b s₀ L l N s := I.news fun p hp => List.mem_append_left _ hp
/-- the objects of the source stand as they stood -/
theorem In.held {b : Bool} {s₀ s₁ s₂ : Shared} {L : Addr} {l l' : List (Str × Value)} {N N' : List (Addr × Obj)} {fp : List Addr} (I₁ : In b s₀ L l N s₁) (I : In b s₀ L l' (N' ++ ownOf s₀.heap fp s₁.heap) s₂) :
    ∀ a ∈ fp, ∀ o, s₁.heap.get? a = some o → s₂.heap.get? a = some o := by
  intro a ha o e
  obtain ⟨_, F₁, _⟩ := I₁.fr
  obtain ⟨_, F, _⟩ := I.fr
  cases hn : s₀.heap.get? a with
  | some o' =>
    have : o' = o := by have q := F₁.keep a o' hn; rw [e] at q; exact (Option.some.inj q).symm
    exact this ▸ F.keep a o' hn
  | none => exact (I.nw _ (List.mem_append_right _ (mem_ownOf ha hn e))).1

/-- a source of pairs -/
structure Src2 (hb : Heap) (w : World) (A : Around) (I : Addr) (fp : Shared → List Addr) (wr : Addr → Prop) (gi : Option Nat) (n : Nat) (P : Nat → Value → Value → Prop) (S : Nat → Shared → Prop) (Mid : Nat → Addr → Shared → Prop) : Prop where
  frame : ∀ i (s s' : Shared), S i s → (∀ b o, hb.get? b = some o → s'.heap.get? b = some o) → (∀ a ∈ fp s, ∀ o, s.heap.get? a = some o → s'.heap.get? a = some o) → (∀ k, gi = some k → ∀ x, s.gens[k]? = some x → s'.gens[k]? = some x) → S i s'
  item : ∀ i (s : Shared) (Q : Option Value → Shared → Prop) (E : Value → Shared → Prop), i < n → S i s →
    (∀ T v0 v1 s', P i v0 v1 → s'.heap.IsTuple T #[v0, v1] → Mid i T s' → Mv wr gi s s' → Q (some (.ref T)) s') → wpAny (model pw w) A (pyNext (.ref I)) Q E s
  go : ∀ (elts : List Expr) (k : Nat) (pos : Pos) i T (s : Shared) (Q : Unit → Shared → Prop) (E : Value → Shared → Prop), Mid i T s → (∀ s', S (i + 1) s' → Mv wr gi s s' → (∀ o, s.heap.get? T = some o → s'.heap.get? T = some o) → Q () s') →
    wpAny (model pw w) A (letOwnedTupleGo (.Tuple elts k pos) (.ref I) (.ref T)) Q E s
  done : ∀ (s : Shared) (Q : Option Value → Shared → Prop) (E : Value → Shared → Prop), S n s → (∀ s', Mv wr gi s s' → Q none s') → wpAny (model pw w) A (pyNext (.ref I)) Q E s

theorem Upd1.new {x : Str} {v : Value} : ∀ {l : List (Str × Value)}, (∀ p ∈ l, p.1 ≠ x) → Upd1 x v l (l ++ [(x, v)])
  | [], _ => .nil
  | p :: r, h => .tail (h p (.head _)) (Upd1.new fun q hq => h q (.tail _ hq))

theorem for_pair {b : Bool} {w : World} {A : Around} {s s₀ : Shared} {nm : Str} {sc : Scope} {L a : Addr} {cd : Value} {l : List (Str × Value)} {N : List (Addr × Obj)} {xi xc : Str} {pk pv pt : Pos} {x1 : Nat} {body : List Stmt}
    {R : Result → Shared → Prop} {I : Addr} {fp : Shared → List Addr} {wr : Addr → Prop} {gi : Option Nat} {n : Nat} {P : Nat → Value → Value → Prop} {S : Nat → Shared → Prop} {Mid : Nat → Addr → Shared → Prop}
    (hh : A.handled = none) (W : Src2 s₀.heap w A I fp wr gi n P S Mid) (X : In b s₀ L l N s) (hst : S 0 s) (ap : Apart b s₀ L (N.map (·.1)) fp wr gi)
    (J : Nat → List (Str × Value) → List (Addr × Obj) → Prop) (h0 : J 0 l N) (hl0 : ∀ p ∈ l, p.1 ≠ xi ∧ p.1 ≠ xc)
    (step : ∀ i v0 v1 l₁ N₁ own g s₁ s, i < n → P i v0 v1 → J i l₁ N₁ → N₁.map (·.1) = N.map (·.1) → (∀ p ∈ l₁, p.1 ≠ xi ∧ p.1 ≠ xc) → (∀ p ∈ own, p.1 ∈ fp s₁) → S (i + 1) s₁ → In b (base s₀ g) L (l₁ ++ [(xi, v0)] ++ [(xc, v1)]) (N₁ ++ own) s →
      (∀ l' N' s', In b (base s₀ g) L l' N' s' → In b s₀ L l' N' s') →
      wpAny (model pw w) A (execs body (envOf nm sc L a cd)) (fun f s' => match f with
        | .next | .cont => ∃ l' N', In b (base s₀ g) L l' (N' ++ own) s' ∧ J (i + 1) l' N' ∧ (∀ p ∈ l', p.1 ≠ xi ∧ p.1 ≠ xc) ∧ N'.map (·.1) = N₁.map (·.1)
        | .brk => R (.ok .next) s'
        | .ret v => R (.ok (.ret v)) s') (fun _ _ => False) s)
    (hR : ∀ l' N' s', In b s₀ L l' N' s' → J n l' N' → N'.map (·.1) = N.map (·.1) → R (.ok .next) s')
    (hne : xi ≠ xc := by decide +kernel) (hk : sc.kind = .function := by kernel_rfl!) (hxi : (envOf nm sc L a cd).kindOf xi = some .local := by kernel_rfl!) (hxc : (envOf nm sc L a cd).kindOf xc = some .local := by kernel_rfl!) :
    codeAny (model pw w) A (.forLoop (.Tuple [.Name xi pk, .Name xc pv] x1 pt) (.ref I) body [] (envOf nm sc L a cd)) R s := by
  refine codeAny_forLoop_any (fun k s' => ∃ l' N' i, S i s' ∧ In b s₀ L l' N' s' ∧ N'.map (·.1) = N.map (·.1) ∧ J i l' N' ∧ (∀ p ∈ l', p.1 ≠ xi ∧ p.1 ≠ xc) ∧ i ≤ n ∧ k = n + 1 - i) ?_ (n + 1)
    ⟨l, N, 0, hst, X, rfl, h0, hl0, Nat.zero_le _, rfl⟩
  rintro k s' ⟨l', N', i, hS, X', hN, hJ, hl', hi, rfl⟩
  have ap' : Apart b s₀ L (N'.map (·.1)) fp wr gi := hN ▸ ap
  by_cases hlt : i < n
  · refine W.item i _ _ _ hlt hS fun T v0 v1 s₁ hP hT hM m₁ => ?_
    refine W.go _ x1 pt i T _ _ _ hM fun s₂ hS₂ m₂ kT => ?_
    have X₂ := (X'.mv ap' m₁).mv ap' m₂
    have hT₂ : s₂.heap.IsTuple T #[v0, v1] := hT.at fun o e => kT o e
    refine wpAny_assign_Tuple hh hT₂ rfl rfl fun h₃ hx₃ => ?_
    replace hx₃ : Heap.ExtBut s₂.heap.objs.size s₂.heap h₃ := hx₃
    have up₃ : ∀ b o, s₂.heap.get? b = some o → h₃.get? b = some o := fun b o x => hx₃ b o (Nat.ne_of_lt (Heap.lt_size x)) x
    have X₃ : In b s₀ L l' N' { s₂ with heap := h₃ } := X₂.keeps up₃ rfl rfl (.refl _ _)
    have hS₃ : S (i + 1) { s₂ with heap := h₃ } := W.frame _ _ _ hS₂ X₃.kp.keep (fun a _ o e => up₃ a o e) fun _ _ _ h => h
    have X₄ := X₃.rebase.own (fp := fp { s₂ with heap := h₃ }) (ap.Lf _)
    show wpAny _ A (do holding [v1] (assign (.Name xi pk) _ v0); do holding [] (assign (.Name xc pv) _ v1); pure ()) _ _ _
    refine wpAny_bind (wpAny_holding (wpAny_assign_Name (store_local X₄ (Upd1.new fun p hp => (hl' p hp).1) (fun s₅ X₅ => ?_) hk hxi)))
    refine wpAny_bind (wpAny_holding (wpAny_assign_Name (store_local X₅ (Upd1.new fun p hp => ?_) (fun s₆ X₆ => wpAny_pure ?_) hk hxc)))
    · rcases List.mem_append.mp hp with hp | hp
      · exact (hl' p hp).2
      · rw [List.mem_singleton.mp hp]; exact hne
    · refine wpAny_mono (step i v0 v1 l' N' _ _ { s₂ with heap := h₃ } s₆ hlt hP hJ hN hl' (fun p hp => ownOf_sub p hp) hS₃ X₆ fun _ _ _ I' => I'.unbase (s := { s₂ with heap := h₃ }) X₃.gens) (fun f s₇ h₇ => ?_) fun _ _ e => e.elim
      have fin : (∃ l'' N'', In b (base s₀ s₂.gens) L l'' (N'' ++ ownOf s₀.heap (fp { s₂ with heap := h₃ }) h₃) s₇ ∧ J (i + 1) l'' N'' ∧ (∀ p ∈ l'', p.1 ≠ xi ∧ p.1 ≠ xc) ∧ N''.map (·.1) = N'.map (·.1)) →
          ∃ m, m < n + 1 - i ∧ ∃ l' N' i, S i s₇ ∧ In b s₀ L l' N' s₇ ∧ N'.map (·.1) = N.map (·.1) ∧ J i l' N' ∧ (∀ p ∈ l', p.1 ≠ xi ∧ p.1 ≠ xc) ∧ i ≤ n ∧ m = n + 1 - i := by
        rintro ⟨l'', N'', X₇, hJ₇, hl₇, hN₇⟩
        refine ⟨n + 1 - (i + 1), by omega, l'', N'', i + 1, ?_, (X₇.unbase (s := { s₂ with heap := h₃ }) X₃.gens).left, hN₇.trans hN, hJ₇, hl₇, hlt, rfl⟩
        refine W.frame _ _ _ hS₃ X₇.kp.keep ?_ ?_
        · exact In.held (s₀ := base s₀ s₂.gens) (s₁ := { s₂ with heap := h₃ }) (N := N') X₃.rebase X₇
        · intro k hk x hx
          obtain ⟨rfl, _⟩ := ap.gen k hk
          exact X₇.gens.1 k x hx
      cases f with
      | next => exact fin h₇
      | cont => exact fin h₇
      | brk => exact h₇
      | ret v => exact h₇
  · have hin : i = n := by omega
    subst hin
    refine W.done _ _ _ hS fun s₁ m₁ => wpAny_execs_nil ?_
    exact hR l' N' s₁ (X'.mv ap' m₁) hJ hN

end WC

namespace WC
open PySem PySem.W PySem.Calls PyProof.Rows

/-- a source of single values -/
structure Src1 (w : World) (A : Around) (I : Addr) (fp wr : List Addr) (n : Nat) (P : Nat → Value → Prop) (S : Nat → Shared → Prop) : Prop where
  frame : ∀ i (s s' : Shared), S i s → (∀ a ∈ fp, ∀ o, s.heap.get? a = some o → s'.heap.get? a = some o) → S i s'
  item : ∀ i (s : Shared) (Q : Option Value → Shared → Prop) (E : Value → Shared → Prop), i < n → S i s →
    (∀ v s', P i v → S (i + 1) s' → Mv (· ∈ wr) none s s' → Q (some v) s') → wpAny (model pw w) A (pyNext (.ref I)) Q E s
  done : ∀ (s : Shared) (Q : Option Value → Shared → Prop) (E : Value → Shared → Prop), S n s → (∀ s', Mv (· ∈ wr) none s s' → Q none s') → wpAny (model pw w) A (pyNext (.ref I)) Q E s

theorem Apart.list {b : Bool} {s₀ : Shared} {L : Addr} {ns fp wr : List Addr} (hL : L ∉ fp) (sub : ∀ a ∈ wr, a ∈ fp) (new : ∀ a ∈ wr, s₀.heap.get? a = none) (led : ∀ a ∈ wr, a ∉ ns) : Apart b s₀ L ns (fun _ => fp) (· ∈ wr) none :=
  ⟨fun _ => hL, fun h => hL (sub _ h), new, led, fun _ h => nomatch h⟩
theorem Src1.of {w : World} {A : Around} {I : Addr} {fp wr : List Addr} {n : Nat} {P : Nat → Value → Prop} {St : Nat → Heap → Prop} (W : Walks pw w A I fp wr n P St) : Src1 w A I fp wr n P (fun i s => St i s.heap) where
  frame := fun i s s' h k => W.frame i _ _ h k
  item := fun i s Q E hi h hQ => W.item i s Q E hi h fun v h' tk p st k => hQ v _ p st ⟨k, rfl, rfl, rfl⟩
  done := fun s Q E h hQ => W.done s Q E h fun h' tk k => hQ _ ⟨k, rfl, rfl, rfl⟩
theorem Src2.of {hb : Heap} {w : World} {A : Around} {I : Addr} {fp wr : List Addr} {n : Nat} {Pt : Nat → Array Value → Prop} {St : Nat → Heap → Prop} {Mid : Nat → Addr → Heap → Prop} {P : Nat → Value → Value → Prop}
    (W : WalksT pw w A I fp wr n Pt St Mid) (h2 : ∀ i vals, Pt i vals → ∃ v0 v1, vals = #[v0, v1] ∧ P i v0 v1) : Src2 hb w A I (fun _ => fp) (· ∈ wr) none n P (fun i s => St i s.heap) (fun i T s => Mid i T s.heap) where
  frame := fun i s s' h _ k _ => W.frame i _ _ h k
  item := fun i s Q E hi h hQ => W.item i s Q E hi h fun T vals h' tk p hT ht hm k => by
    obtain ⟨v0, v1, rfl, hP⟩ := h2 i vals p
    exact hQ T v0 v1 _ hP ht hm ⟨k, rfl, rfl, rfl⟩
  go := fun elts k pos i T s Q E h hQ => W.go elts k pos i T s Q E h fun h' st kk => hQ _ st ⟨kk, rfl, rfl, rfl⟩ fun o e => kk T o (W.apart i T _ h) e
  done := fun s Q E h hQ => W.done s Q E h fun h' tk k => hQ _ ⟨k, rfl, rfl, rfl⟩
section
open PyProof
set_option maxHeartbeats 4000000
theorem storec {b : Bool} {w : World} {A : Around} {E : Value → Shared → Prop} {s s₀ : Shared} {L : Addr} {l l' : List (Str × Value)} {N : List (Addr × Obj)} {env : Env} {x : Str} {v : Value} {Q : Unit → Shared → Prop} (I : In b s₀ L l N s) (hu : Upd1 x v l l') (h : ∀ s', In b s₀ L l' N s' → Q () s')
    (hL : env.locals = L) (hp : (env.scope.kind == .class || (env.scope.kind == .module && env.locals != env.globals)) = false) (hl : env.kindOf x = some .local) : wpAny (model pw w) A (storeName env x v) Q E s := by
  subst hL
  obtain ⟨⟨m, F, H⟩, nd, nw, os', dr, g⟩ := I
  exact wpAny_storeName_local hl F.ns (fun h' hn hs => h _ ⟨⟨_, F.set hn hs, hu.has nd H⟩, hu.nodup nd, nw.set hs, os', dr, g⟩) hp

/-! loops in any env -/
theorem for_oneE {b : Bool} {w : World} {A : Around} {s s₀ : Shared} {env : Env} {L : Addr} {l : List (Str × Value)} {N : List (Addr × Obj)} {x : Str} {px : Pos} {body : List Stmt}
    {R : Result → Shared → Prop} {I : Addr} {fp wr : List Addr} {n : Nat} {P : Nat → Value → Prop} {S : Nat → Shared → Prop}
    (W : Src1 w A I fp wr n P S) (X : In b s₀ L l N s) (hst : S 0 s) (ap : Apart b s₀ L (N.map (·.1)) (fun _ => fp) (· ∈ wr) none)
    (J : Nat → List (Str × Value) → List (Addr × Obj) → Prop) (h0 : J 0 l N) (hl0 : ∀ p ∈ l, p.1 ≠ x)
    (step : ∀ i v l₁ N₁ own g s, i < n → P i v → J i l₁ N₁ → N₁.map (·.1) = N.map (·.1) → (∀ p ∈ l₁, p.1 ≠ x) → (∀ p ∈ own, p.1 ∈ fp) → In b (base s₀ g) L (l₁ ++ [(x, v)]) (N₁ ++ own) s →
      (∀ l' N' s', In b (base s₀ g) L l' N' s' → In b s₀ L l' N' s') →
      wpAny (model pw w) A (execs body env) (fun f s' => match f with
        | .next | .cont => ∃ l' N', In b (base s₀ g) L l' (N' ++ own) s' ∧ J (i + 1) l' N' ∧ (∀ p ∈ l', p.1 ≠ x) ∧ N'.map (·.1) = N₁.map (·.1)
        | .brk => R (.ok .next) s'
        | .ret v => R (.ok (.ret v)) s') (fun _ _ => False) s)
    (hR : ∀ l' N' s', In b s₀ L l' N' s' → J n l' N' → N'.map (·.1) = N.map (·.1) → R (.ok .next) s')
    (hLe : env.locals = L) (hp : (env.scope.kind == .class || (env.scope.kind == .module && env.locals != env.globals)) = false) (hxi : env.kindOf x = some .local) :
    codeAny (model pw w) A (.forLoop (.Name x px) (.ref I) body [] env) R s := by
  refine codeAny_forLoop_any (fun k s' => ∃ l' N' i, S i s' ∧ In b s₀ L l' N' s' ∧ N'.map (·.1) = N.map (·.1) ∧ J i l' N' ∧ (∀ p ∈ l', p.1 ≠ x) ∧ i ≤ n ∧ k = n + 1 - i) ?_ (n + 1)
    ⟨l, N, 0, hst, X, rfl, h0, hl0, Nat.zero_le _, rfl⟩
  rintro k s' ⟨l', N', i, hS, X', hN, hJ, hl', hi, rfl⟩
  have ap' : Apart b s₀ L (N'.map (·.1)) (fun _ => fp) (· ∈ wr) none := hN ▸ ap
  by_cases hlt : i < n
  · refine W.item i _ _ _ hlt hS fun v s₁ hP hS₁ m₁ => ?_
    refine wpAny_of_eq (a := ()) rfl ?_
    have X₁ := X'.mv ap' m₁
    have X₄ := X₁.rebase.own (fp := fp) (ap.Lf s₁)
    refine wpAny_assign_Name (storec X₄ (Upd1.new fun p hp => hl' p hp) (fun s₆ X₆ => ?_) hLe hp hxi)
    refine wpAny_mono (step i v l' N' _ _ s₆ hlt hP hJ hN hl' (fun p hp => ownOf_sub p hp) X₆ fun _ _ _ I' => I'.unbase (s := s₁) X₁.gens) (fun f s₇ h₇ => ?_) fun _ _ e => e.elim
    have fin : (∃ l'' N'', In b (base s₀ s₁.gens) L l'' (N'' ++ ownOf s₀.heap fp s₁.heap) s₇ ∧ J (i + 1) l'' N'' ∧ (∀ p ∈ l'', p.1 ≠ x) ∧ N''.map (·.1) = N'.map (·.1)) →
          ∃ m, m < n + 1 - i ∧ ∃ l' N' i, S i s₇ ∧ In b s₀ L l' N' s₇ ∧ N'.map (·.1) = N.map (·.1) ∧ J i l' N' ∧ (∀ p ∈ l', p.1 ≠ x) ∧ i ≤ n ∧ m = n + 1 - i := by
        rintro ⟨l'', N'', X₇, hJ₇, hl₇, hN₇⟩
        refine ⟨n + 1 - (i + 1), by omega, l'', N'', i + 1, ?_, (X₇.unbase (s := s₁) X₁.gens).left, hN₇.trans hN, hJ₇, hl₇, hlt, rfl⟩
        exact W.frame _ _ _ hS₁ (In.held (s₀ := base s₀ s₁.gens) (s₁ := s₁) (N := N') X₁.rebase X₇)
    cases f with
    | next => exact fin h₇
    | cont => exact fin h₇
    | brk => exact h₇
    | ret v => exact h₇
  · have hin : i = n := by omega
    subst hin
    refine W.done _ _ _ hS fun s₁ m₁ => wpAny_execs_nil ?_
    exact hR l' N' s₁ (X'.mv ap' m₁) hJ hN


theorem for_rangeE {b : Bool} {w : World} {A : Around} {s s₀ : Shared} {env : Env} {L : Addr} {l : List (Str × Value)} {N : List (Addr × Obj)} {x : Str} {px : Pos} {body : List Stmt}
    {Rr : Result → Shared → Prop} {E : Value → Shared → Prop} {r : Addr} {t₁ u₁ v₁ : Tok} (hh : A.handled = none) (X : In b s₀ L l N s) (lo hi : Nat) (hlo : lo ≤ 100000) (hhi : hi ≤ 100000) (hr : IsRange s.heap r (lo : Nat) (hi : Nat) 1 t₁ u₁ v₁)
    (J : Nat → List (Str × Value) → List (Addr × Obj) → Prop) (h0 : J 0 l N) (hl0 : ∀ p ∈ l, p.1 ≠ x)
    (step : ∀ i t' l₁ N₁ own g s, i < hi - lo → J i l₁ N₁ → N₁.map (·.1) = N.map (·.1) → (∀ p ∈ l₁, p.1 ≠ x) → (∀ q ∈ N, ∀ p ∈ own, p.1 ≠ q.1) → In b (base s₀ g) L (l₁ ++ [(x, .int ((lo + i : Nat) : Int) t')]) (N₁ ++ own) s →
      (∀ l' N' s', In b (base s₀ g) L l' N' s' → In b s₀ L l' N' s') →
      wpAny (model pw w) A (execs body env) (fun f s' => match f with
        | .next | .cont => ∃ l' N', In b (base s₀ g) L l' (N' ++ own) s' ∧ J (i + 1) l' N' ∧ (∀ p ∈ l', p.1 ≠ x) ∧ N'.map (·.1) = N₁.map (·.1)
        | .brk => Rr (.ok .next) s'
        | .ret v => Rr (.ok (.ret v)) s') (fun _ _ => False) s)
    (hR : ∀ l' N' s', In b s₀ L l' N' s' → J (hi - lo) l' N' → N'.map (·.1) = N.map (·.1) → Rr (.ok .next) s')
    (hLe : env.locals = L) (hp : (env.scope.kind == .class || (env.scope.kind == .module && env.locals != env.globals)) = false) (hxi : env.kindOf x = some .local) :
    wpAny (model pw w) A (pyIter (.ref r)) (fun it s₂ => codeAny (model pw w) A (.forLoop (.Name x px) it body [] env) Rr s₂) E s := by
  refine wpAny_pyIter_range hr (small_one (by omega) (by omega) (by omega) (by omega)) ?_
  obtain ⟨m, F, H⟩ := X.fr
  have hL : L < s.heap.objs.size := F.ns.lt
  have hLo : s₀.heap.objs.size ≤ L := F.above
  have X₁ := X.keeps (s' := { s with heap := s.heap.push { cls := .type "range_iterator", data := .fields #[rawInt (lo : Nat), rawInt (Builtin.Range.rangeSize (lo : Nat) (hi : Nat) 1), rawInt 1] } }) (fun b o e => Heap.get?_push_of_some _ e) rfl rfl (.refl _ _)
  have hsz : Builtin.Range.rangeSize ((lo : Nat) : Int) ((hi : Nat) : Int) 1 = ((hi - lo : Nat) : Int) := by rw [rangeSize_nat]; omega
  refine for_oneE (Src1.of (Walks.range hh s.heap.objs.size (lo : Nat) 1 (hi - lo))) X₁ ?_ ?_ J h0 hl0 ?_ hR hLe hp hxi
  · show IsRangeIter _ _ (((lo : Nat) : Int) + ((0 : Nat) : Int) * 1) (((hi - lo : Nat) : Int) - ((0 : Nat) : Int)) 1
    rw [show ((lo : Nat) : Int) + ((0 : Nat) : Int) * 1 = ((lo : Nat) : Int) by simp, show ((hi - lo : Nat) : Int) - ((0 : Nat) : Int) = Builtin.Range.rangeSize ((lo : Nat) : Int) ((hi : Nat) : Int) 1 by rw [hsz]; simp]
    exact Heap.get?_push_size _ rfl
  · refine Apart.list (fun h => ?_) (fun _ h => h) (fun a h => ?_) fun a h q => ?_
    · exact Nat.ne_of_lt hL (List.mem_singleton.mp h)
    · rw [List.mem_singleton.mp h]; exact Heap.get?_none_of_le (Nat.le_of_lt (Nat.lt_of_le_of_lt hLo hL))
    · obtain ⟨p, hp, rfl⟩ := List.mem_map.mp q
      exact Nat.ne_of_lt (Heap.lt_size (X.nw p hp).1) (List.mem_singleton.mp h)
  · rintro i v l' N' own g s₁ hi' ⟨t', rfl⟩ hJ hN hl' hown X₂ up
    have e : ((lo : Nat) : Int) + ((i : Nat) : Int) * 1 = ((lo + i : Nat) : Int) := by simp
    rw [e] at X₂
    refine step i t' l' N' own g s₁ hi' hJ hN hl' (fun q hq p hp e => ?_) X₂ up
    have := List.mem_singleton.mp (hown p hp)
    exact Nat.ne_of_lt (Heap.lt_size (X.nw q hq).1) (e ▸ this)


end
end WC

namespace WC
open PySem PySem.W PySem.Calls PyProof.Rows

noncomputable abbrev genv (C : Addr) : Env := envOf (sO "_iter_escaped_chars") (fscope (stI 1)) C 21 (.ref 20)

/-- the call of the generator's def: its locals, then the generator's object -/
theorem call_iter {w : World} {os : OsState} {A : Around} {s : Shared} {E : Value → Shared → Prop} {x : Value} {Q : Value → Shared → Prop} {n : Nat} (C : Cx w os s.heap) (R : Room A (n + 1))
    (h : ∀ h₂ tk go, (∀ b o, s.heap.get? b = some o → h₂.get? b = some o) → h₂.Ns s.heap.objs.size (fun y => ([(sO "addr", x)] : List (Str × Value)).reverse.lookup y) →
      h₂.get? (s.heap.objs.size + 1) = some go → h₂.IsGen (s.heap.objs.size + 1) s.gens.size → h₂.objs.size = s.heap.objs.size + 2 →
      Q (.ref (s.heap.objs.size + 1)) { s with heap := h₂, toks := tk, gens := s.gens.push (.fresh (.func (fbody (stI 1)) (genv s.heap.objs.size))) }) :
    wpAny (model pw w) A (PySem.call (.ref 21) [x]) Q E s := by
  have hcr : s.heap.CodeRec (.ref 20) (sO "_iter_escaped_chars") := ⟨20, o20_5 w.params, _, _, rfl, C.K _ _ (top_at (by decide) (by kernel_rfl!) (by kernel_rfl!)), rfl, rfl⟩
  refine wpAny_call (codeAny_call_generator (fd := docDef (sO "_iter_escaped_chars") (fparams (stI 1)) (fbody (stI 1)) (fscope (stI 1)) (.str (sO "cpy313.email.utils") 187) (.ref 20) .none) (body := fbody (stI 1)) (by have := R.depth; show A.depth < 1000; omega) (C.K _ _ (top_at (by decide) (by kernel_rfl! : (T_18 w.params).get 21 = some (o21_5 w.params)) (by kernel_rfl!))) (by kernel_rfl!) (by kernel_rfl!) (by kernel_rfl!) (by kernel_rfl!) hcr ?_)
  rw [show bindArgs (docDef (sO "_iter_escaped_chars") (fparams (stI 1)) (fbody (stI 1)) (fscope (stI 1)) (.str (sO "cpy313.email.utils") 187) (.ref 20) .none) ⟨[x], []⟩ = pure [(sO "addr", x)] by kernel_rfl!]
  refine wpAny_pure (wpAny_newFunctionEnv ?_ (locs (by kernel_rfl!)) (fun h₁ hns hsb => ?_) (by kernel_rfl!))
  · have : ((fscope (stI 1)).names.all fun x => x.2 != .cell) = true := by kernel_rfl!
    intro y hy
    simpa using List.all_eq_true.mp this y hy
  · have hz : h₁.objs.size = s.heap.objs.size + 1 := by rw [hsb.1, Heap.size_push]
    have keep : ∀ b o, s.heap.get? b = some o → h₁.get? b = some o := fun b o e => hsb.extBut b o (Nat.ne_of_lt (Heap.lt_size e)) (Heap.get?_push_of_some _ e)
    refine ⟨C.T.nolimit.keeps keep, ?_⟩
    show Q (.ref h₁.objs.size) _
    rw [hz]
    refine h _ _ _ (fun b o e => Heap.get?_push_of_some _ (keep b o e)) (hns.push _) (hz ▸ Heap.get?_push_size _ rfl) (hz ▸ ⟨_, _, _, Heap.get?_push_size _ rfl, rfl, rfl, rfl⟩) (by rw [Heap.size_push, hz])

/-- one item of a def's generator, left without a cleanup -/
theorem pyNext_genQ {w : World} {A : Around} {E : Value → Shared → Prop} {s : Shared} {a : Addr} {g n : Nat} {gs : GenState} {P : Nat → Shared → Shared → Prop} {Y : Protocol} {Q : Option Value → Shared → Prop} (hh : A.handled = none)
    (hl : s.heap.NoLimit) (hroom : A.depth < recursionLimit) (hg : s.heap.IsGen a g) (hgs : s.gens[g]? = some gs)
    (hgo : gs.Goes (model pw w) A.in1 (fun n s₀ r s₁ => r = .ok (.ret .none) ∧ P n s₀ s₁) Y n (.send .none) (s.setGen g .running))
    (hY : ∀ v s₁ gs', gs'.bare = true → Y (n - 1) (s.setGen g .running) v s₁ (fun r' s'' => match n with
        | 0 => False
        | m + 1 => gs'.Goes (model pw w) A.in1 (fun n s₀ r s₁ => r = .ok (.ret .none) ∧ P n s₀ s₁) Y m r' s'') → Q (some v) (s₁.setGen g gs'))
    (hP : ∀ s₁, P n (s.setGen g .running) s₁ → ∀ h', (∀ b o, s₁.heap.get? b = some o → h'.get? b = some o) → Q none { s₁.setGen g .finished with heap := h' }) :
    wpAny (model pw w) A (pyNext (.ref a)) Q E s := by
  unfold pyNext
  refine wpAny_bind (wpAny_attempt (wpAny_callSpecial?_slot (name := Str.ofString "__next__") hg.typeIs slot_gen_next (wpAny_call_entry slot_gen_next hg.typeIs entry_gen_next ?_ (args_gen_next _))))
  show wpAny _ A.in1 (Builtin.Generator.genWake (.ref a) (.send .none)) _ _ s
  unfold Builtin.Generator.genWake
  refine wpAny_bind (wpAny_holding (wpAny_genNumber hg (wpAny_bind (wpAny_genState hgs ?_))))
  cases gs with
  | running => exact hgo.elim
  | finished => exact hgo.elim
  | _ =>
    refine wpAny_bind (wpAny_roomToWake hl hroom ?_)
    show wpAny _ A.in1 (.resume g (.send .none) [] _) _ _ s
    refine wpAny_resumeQ hgs hgo (fun x s₁ hx => ?_) (fun v s₁ gs' hb hv => ?_)
    · obtain ⟨rfl, hp⟩ := hx
      show wpAny _ A.in1 (newExc (.type "StopIteration") [] >>= _) _ _ _
      refine wpAny_bind ?_
      simp only [newExc, newTuple]
      refine wpAny_bind (wpAny_newObj_type ?_ (by size_fits))
      refine wpAny_bind (m := firstArgMember _ _) (wpAny_of_eq (a := Value.none) (by first | rfl | (simp only [firstArgMember]; rfl)) ?_)
      refine wpAny_newObj_type ?_ (by size_fits)
      simp only [raiseNew]
      refine wpAny_bind (wpAny_bind (wpAny_handled ?_))
      rw [show A.in1.handled = none from hh]
      refine wpAny_throw ?_
      refine wpAny_bind (wpAny_isInstance (T := "StopIteration") (b := true) ⟨_, Heap.get?_push_size _ rfl, rfl⟩ isSubtype_stop ?_)
      exact wpAny_pure (hP s₁ hp _ fun b o hb => Heap.get?_push_of_some _ (Heap.get?_push_of_some _ hb))
    · exact wpAny_pure ⟨v, rfl, wpAny_pure (hY v s₁ gs' hb hv)⟩
end WC

namespace WC
open PySem PySem.W PySem.Calls PyProof.Rows

theorem src_enum_str {hb : Heap} {w : World} {A : Around} (hh : A.handled = none) (e it : Addr) (hei : e ≠ it) (x : Str) (t : Tok) :
    ∃ Mid, Src2 hb w A e (fun _ => [e, it]) (· ∈ [e, it]) none x.cps.size (fun i v0 v1 => ∃ t' c u, v0 = .int i t' ∧ x.cps[i]? = some c ∧ v1 = .str ⟨#[c]⟩ u)
      (fun i s => (∃ old, IsEnum s.heap e it i old) ∧ s.heap.IsStrIter it (strIterType x) x t i) Mid := by
  have h2 : ∀ (i : Nat) (vals : Array Value), (∃ t' x', (∃ c u, x.cps[i]? = some c ∧ x' = Value.str ⟨#[c]⟩ u) ∧ vals = #[.int i t', x']) → ∃ v0 v1, vals = #[v0, v1] ∧ ∃ t' c u, v0 = .int i t' ∧ x.cps[i]? = some c ∧ v1 = .str ⟨#[c]⟩ u := by
    rintro i vals ⟨t', x', ⟨c, u, hc, rfl⟩, rfl⟩
    exact ⟨_, _, rfl, t', c, u, rfl, hc, rfl⟩
  cases ha : x.cps.all (· < 128)
  · rw [show strIterType x = "str_iterator" by simp [strIterType, ha]]
    exact ⟨_, Src2.of (WalksT.enumerateD (Draws.strWide (A := A.in1) hh it x t) e hei (by simpa using hei) (by simp)) h2⟩
  · rw [show strIterType x = "str_ascii_iterator" by simp [strIterType, ha]]
    exact ⟨_, Src2.of (WalksT.enumerateD (Draws.strAscii (A := A.in1) hh it x t) e hei (by simpa using hei) (by simp)) h2⟩

/-- the heap below an address -/
noncomputable def cutH (C : Nat) (h : Heap) : Heap := ⟨h.objs.extract 0 C, h.life⟩
theorem cutH_lt {C a : Nat} {h : Heap} (ha : a < C) : (cutH C h).get? a = h.get? a := by
  unfold Heap.get? cutH
  rw [show (h.objs.extract 0 C)[a]? = h.objs[a]? by
    rw [Array.getElem?_extract]
    by_cases q : a < min C h.objs.size - 0
    · rw [if_pos q]; simp
    · rw [if_neg q, Array.getElem?_eq_none (by simp only [Nat.sub_zero] at q; omega)]]
theorem cutH_ge {C a : Nat} {h : Heap} (ha : C ≤ a) : (cutH C h).get? a = none := by
  have : (cutH C h).objs.size ≤ C := by show (h.objs.extract 0 C).size ≤ C; rw [Array.size_extract]; omega
  cases e : (cutH C h).get? a with
  | none => rfl
  | some o => exact (Nat.not_lt.mpr (Nat.le_trans this ha) (Heap.lt_size e)).elim
theorem cutH_size {C : Nat} {h : Heap} : (cutH C h).objs.size ≤ C := by show (h.objs.extract 0 C).size ≤ C; rw [Array.size_extract]; omega
noncomputable def segB (C : Addr) (σ : Shared) : Shared := { σ with heap := cutH C σ.heap }

/-- what a segment of the generator leaves -/
structure SegMv (C : Addr) (s s' : Shared) : Prop where
  heap : ∀ b o, (b < C ∨ b = C + 1) → s.heap.get? b = some o → s'.heap.get? b = some o
  os : s'.os = s.os
  drawn : s'.drawn = s.drawn
  gens : s'.gens = s.gens
noncomputable def genEnds (C : Addr) : GenEnd := fun n s₀ r s₁ => r = .ok (.ret .none) ∧ (n = 0 ∧ SegMv C s₀ s₁)
noncomputable def genGives (x : Str) (hb : Heap) (C : Addr) : Protocol := fun k s₀ v s₁ kap =>
  (∃ T i t c u, v = .ref T ∧ i + k + 1 = x.cps.size ∧ x.cps[i]? = some c ∧ s₁.heap.IsTuple T #[.int (i : Nat) t, .str ⟨#[c]⟩ u]) ∧ SegMv C s₀ s₁ ∧
    ∀ s'' : Shared, (∀ b o, hb.get? b = some o → s''.heap.get? b = some o) → (∀ a, C ≤ a → ∀ o, s₁.heap.get? a = some o → s''.heap.get? a = some o) → kap (.send .none) s''

theorem In.segMv {C : Addr} {σ s : Shared} {go : Obj} {l : List (Str × Value)} {N : List (Addr × Obj)} (hgo : σ.heap.get? (C + 1) = some go) (X : In true (segB C σ) C l N s) (hN : (C + 1, go) ∈ N) : SegMv C σ s := by
  obtain ⟨_, F, _⟩ := X.fr
  refine ⟨fun b o hb e => ?_, X.os, X.drawn, X.gens⟩
  rcases hb with hb | rfl
  · exact F.keep b o ((cutH_lt hb).trans e)
  · rw [hgo] at e; cases e; exact (X.nw _ hN).1
/-- a new segment -/
theorem In.segStart {C : Addr} {s : Shared} {go : Obj} {l : List (Str × Value)} (hgo : s.heap.get? (C + 1) = some go) {m : Str → Option Value} (hn : s.heap.Ns C m) (H : Has m l) (nd : (l.map (·.1)).Nodup) : In true (segB C s) C l [(C + 1, go)] s := by
  refine ⟨⟨m, ⟨hn, fun b o e => ?_, cutH_size⟩, H⟩, nd, fun p hp => ?_, rfl, rfl, rfl⟩
  · rcases Nat.lt_or_ge b C with h | h
    · exact (cutH_lt h).symm.trans e
    · rw [show (segB C s).heap = cutH C s.heap from rfl, cutH_ge h] at e; cases e
  · rw [List.mem_singleton.mp hp]
    exact ⟨hgo, Nat.succ_ne_self _, cutH_ge (Nat.le_succ _)⟩
end WC

namespace WC
open PySem PySem.W PySem.Calls PyProof.Rows

noncomputable def iterFor : Stmt := ((fbody (stI 1)).drop 2).headD default
noncomputable def forBody : Stmt → List Stmt
  | .For _ _ b _ _ => b
  | _ => []
noncomputable abbrev iterTgt : Expr := .Tuple [.Name (Str.ofString "pos") ⟨5, 8, 5, 11⟩, .Name (Str.ofString "ch") ⟨5, 13, 5, 15⟩] 0 ⟨5, 8, 5, 15⟩

section
variable {b : Bool} {w : World} {os : OsState} {A : Around} {E : Value → Shared → Prop} {s s₀ : Shared} {L a : Addr} {l : List (Str × Value)} {N : List (Addr × Obj)}
theorem new_tuple {vs : List Value} {Q : Value → Shared → Prop} (I : In b s₀ L l N s)
    (h : ∀ T s', T = s.heap.objs.size → In b s₀ L l ((T, { cls := .type "tuple", data := .seq vs.toArray }) :: N) s' → Q (.ref T) s') (hsz : Nat.ble vs.length sizeLine = true := by rfl) : wpAny (model pw w) A (newTuple vs) Q E s := by
  obtain ⟨⟨m, F, H⟩, nd, nw, os', dr, g⟩ := I
  exact newTuple_N F nw (fun h' F' N' => h _ _ rfl ⟨⟨m, F', H⟩, nd, N', os', dr, g⟩) (Nat.le_of_ble_eq_true hsz)
theorem new_list {vs : List Value} {Q : Value → Shared → Prop} (I : In b s₀ L l N s)
    (h : ∀ T s', T = s.heap.objs.size → In b s₀ L l ((T, { cls := .type "list", data := .seq vs.toArray }) :: N) s' → Q (.ref T) s') (hsz : Nat.ble vs.length sizeLine = true := by rfl) : wpAny (model pw w) A (newList vs) Q E s := by
  obtain ⟨⟨m, F, H⟩, nd, nw, os', dr, g⟩ := I
  exact newList_N F nw (fun h' F' N' => h _ _ rfl ⟨⟨m, F', H⟩, nd, N', os', dr, g⟩) (Nat.le_of_ble_eq_true hsz)
/-- an address that is new to the ledger -/
theorem In.below {N : List (Addr × Obj)} (I : In b s₀ L l N s) : ∀ p ∈ N, p.1 < s.heap.objs.size := fun p hp => Heap.lt_size (I.nw p hp).1
end
/-- one sign against one sign -/
theorem str1_beq (c : Nat) (y : Str) {d : Nat} (h : y = ⟨#[d]⟩ := by decide +kernel) : ((⟨#[c]⟩ : Str) == y) = (c == d) := by
  subst h
  rw [← toList_beq]
  by_cases e : c = d
  · subst e; simp
  · simp [e]
theorem nob {h : Heap} : ∀ b o, (Heap.mk #[] {}).get? b = some o → h.get? b = some o := fun b o e => nomatch (show (none : Option Obj) = some o from by rw [← e]; rfl)
theorem not_pair {a e it : Nat} (h1 : a ≠ e) (h2 : a ≠ it) : a ∉ [e, it] := by
  intro h
  rcases List.mem_cons.mp h with h | h
  · exact h1 h
  · exact h2 (List.mem_singleton.mp h)
theorem pair_gt {C a e it : Nat} (h1 : C < e) (h2 : C < it) (h : a ∈ [e, it]) : C < a := by
  rcases List.mem_cons.mp h with h | h
  · exact h ▸ h1
  · exact (List.mem_singleton.mp h) ▸ h2
theorem pos_ne_ch : (Str.ofString "pos") ≠ Str.ofString "ch" := by decide +kernel
/-- the generator's loop, from a turn on -/
theorem seg_iter_loop {w : World} {A : Around} (hh : A.handled = none) (C : Nat) (hb : Heap) (x : Str) (t : Tok) (go : Obj) (e it : Nat) (hei : e ≠ it) (he : C + 1 < e) (hi : C + 1 < it)
    (hx : ∀ c, c ∈ x.cps → c ≠ 92) (kk : Result → Sem Fin) (lv : List Value) (c₁ : Code) (p₁ : Pos) (kp : List Value)
    (hend : ∀ σ s, SegMv C σ s → (∃ l, (∀ p, p ∈ ([(Str.ofString "escape", Value.bool false)] : List (Str × Value)) → p ∈ l) ∧ In true (segB C σ) C l [(C + 1, go)] s) → Seg (model pw w) A (genEnds C) (genGives x hb C) 0 σ c₁ (kk (.ok .next)) [] s) :
    ∀ (k i : Nat) (σ s : Shared) (l : List (Str × Value)), x.cps.size - i = k → i ≤ x.cps.size → σ.heap.get? (C + 1) = some go →
      In true (segB C σ) C l [(C + 1, go)] s → (Str.ofString "escape", Value.bool false) ∈ l → (∀ p ∈ l, p.1 ≠ Str.ofString "pos" ∧ p.1 ≠ Str.ofString "ch") →
      ((∃ old, IsEnum s.heap e it i old) ∧ s.heap.IsStrIter it (strIterType x) x t i) →
      Seg (model pw w) A (genEnds C) (genGives x hb C) k σ (.forLoop iterTgt (.ref e) (forBody iterFor) [] (genv C)) ((model pw w).den (.forLoop iterTgt (.ref e) (forBody iterFor) [] (genv C))) [.ret kk none false lv c₁ p₁ kp] s := by
  intro k
  induction k with
  | zero =>
    intro i σ s l hk hi' hgo X hesc hl hS
    have hin : i = x.cps.size := by omega
    subst hin
    obtain ⟨Mid, W⟩ := src_enum_str (hb := .mk #[] {}) (w := w) (A := A.over (.forLoop iterTgt (.ref e) (forBody iterFor) [] (genv C)) [.ret kk none false lv c₁ p₁ kp]) hh e it hei x t
    show Seg _ A _ _ _ σ _ ((forTurn iterTgt (.ref e) (forBody iterFor) [] (genv C)).onRaise (fun x => do noteFrame x (genv C); theTreesLotGoes x)) _ s
    rw [Sem.onRaise_eq_wrap]
    simp only [forTurn]
    refine seg_bind_wrap (wpAny_standAt ?_)
    refine seg_bind_wrap (wpAny_onRaise (W.done s _ _ hS fun s₁ m₁ => ?_))
    have hCn : C ∉ [e, it] := not_pair (by omega) (by omega)
    have ap : Apart true (segB C σ) C ([(C + 1, go)].map (·.1)) (fun _ => [e, it]) (· ∈ [e, it]) none :=
      Apart.list hCn (fun _ h => h) (fun a h => cutH_ge (Nat.le_of_lt (Nat.lt_of_succ_lt (pair_gt he hi h)))) (fun a h q => Nat.ne_of_gt (pair_gt he hi h) (List.mem_singleton.mp q))
    have X₁ := X.mv ap m₁
    refine seg_again rfl ?_
    show Seg _ A _ _ _ σ _ (leafOf (.ok .next)) _ s₁
    exact seg_leaf (.ok .next) (hend σ s₁ (X₁.segMv hgo (by simp)) ⟨l, by simpa using hesc, X₁⟩)
  | succ k ih =>
    intro i σ s l hk hi' hgo X hesc hl hS
    have hlt : i < x.cps.size := by omega
    obtain ⟨Mid, W⟩ := src_enum_str (hb := .mk #[] {}) (w := w) (A := A.over (.forLoop iterTgt (.ref e) (forBody iterFor) [] (genv C)) [.ret kk none false lv c₁ p₁ kp]) hh e it hei x t
    show Seg _ A _ _ _ σ _ ((forTurn iterTgt (.ref e) (forBody iterFor) [] (genv C)).onRaise (fun x => do noteFrame x (genv C); theTreesLotGoes x)) _ s
    rw [Sem.onRaise_eq_wrap]
    simp only [forTurn]
    refine seg_bind_wrap (wpAny_standAt ?_)
    refine seg_bind_wrap (wpAny_onRaise (W.item i s _ _ hlt hS fun T v0 v1 s₁ hP hT hM m₁ => ?_))
    refine seg_bind_wrap (W.go _ 0 _ i T _ _ _ hM fun s₂ hS₂ m₂ kT => ?_)
    have hCn : C ∉ [e, it] := not_pair (by omega) (by omega)
    have ap : Apart true (segB C σ) C ([(C + 1, go)].map (·.1)) (fun _ => [e, it]) (· ∈ [e, it]) none :=
      Apart.list hCn (fun _ h => h) (fun a h => cutH_ge (Nat.le_of_lt (Nat.lt_of_succ_lt (pair_gt he hi h)))) (fun a h q => Nat.ne_of_gt (pair_gt he hi h) (List.mem_singleton.mp q))
    have X₂ := (X.mv ap m₁).mv ap m₂
    have hT₂ : s₂.heap.IsTuple T #[v0, v1] := hT.at fun o e => kT o e
    refine seg_bind_wrap (wpAny_assign_Tuple hh hT₂ rfl rfl fun h₃ hx₃ => ?_)
    replace hx₃ : Heap.ExtBut s₂.heap.objs.size s₂.heap h₃ := hx₃
    have up₃ : ∀ b o, s₂.heap.get? b = some o → h₃.get? b = some o := fun b o x => hx₃ b o (Nat.ne_of_lt (Heap.lt_size x)) x
    have X₃ : In true (segB C σ) C l [(C + 1, go)] { s₂ with heap := h₃ } := X₂.keeps up₃ rfl rfl (.refl _ _)
    have hS₃ := W.frame (i + 1) _ { s₂ with heap := h₃ } hS₂ nob (fun a _ o e => up₃ a o e) fun _ _ _ h => h
    have X₄ := X₃.own (fp := [e, it]) hCn
    obtain ⟨t', c, u, rfl, hc, rfl⟩ := hP
    show wpAny _ _ (do holding [_] (assign (.Name (Str.ofString "pos") _) _ _); do holding [] (assign (.Name (Str.ofString "ch") _) _ _); pure ()) _ _ _
    refine wpAny_bind (wpAny_holding (wpAny_assign_Name (store_local X₄ (Upd1.new fun p hp => (hl p hp).1) (fun s₅ X₅ => ?_))))
    refine wpAny_bind (wpAny_holding (wpAny_assign_Name (store_local X₅ (Upd1.new fun p hp => ?_) (fun s₆ X₆ => wpAny_pure ?_))))
    · rcases List.mem_append.mp hp with hp | hp
      · exact (hl p hp).2
      · rw [List.mem_singleton.mp hp]; exact pos_ne_ch
    have hS₆ := W.frame (i + 1) _ s₆ hS₃ nob (In.held (s₀ := segB C σ) (s₁ := { s₂ with heap := h₃ }) (N := [(C + 1, go)]) X₃ X₆) fun _ h => nomatch h
    have hgo₆ : (C + 1, go) ∈ [(C + 1, go)] ++ ownOf (segB C σ).heap [e, it] h₃ := by simp
    have hc92 : c ≠ 92 := hx c (Array.mem_of_getElem? hc)
    rw [Sem.bind_eq_wrap', Sem.wrap_wrap]
    refine seg_execs_cons ?_
    rw [exec_If]
    refine seg_bind_wrap (wpAny_standAt ?_)
    refine seg_bind_wrap (isTrue_plain (ev_local X₆ (List.mem_append_left _ (List.mem_append_left _ hesc)) (wpAny_truthy_bool ?_)))
    simp only [Bool.false_eq_true, if_false]
    refine seg_execs_cons ?_
    rw [exec_If]
    refine seg_bind_wrap (wpAny_standAt ?_)
    refine seg_bind_wrap (wpAny_isTrue_Compare1 (ev_local X₆ (List.mem_append_right _ (List.mem_singleton.mpr rfl)) (ev_str X₆ fun t₁ s₇ X₇ => eq_str (wpAny_truthy_bool ?_))))
    rw [str1_beq c (Str.ofString "\\") (d := 92), show (c == 92) = false by simpa using hc92]
    simp only [Bool.false_eq_true, if_false]
    refine seg_execs_cons ?_
    refine seg_Expr_Yield rfl rfl rfl (Tuple_ (spliced_more (ev_local X₇ (List.mem_append_left _ (List.mem_append_right _ (List.mem_singleton.mpr rfl))) (spliced_more (ev_local X₇ (List.mem_append_right _ (List.mem_singleton.mpr rfl)) (spliced_none (new_tuple X₇ fun T' s₈ hT' X₈ => ?_))))))) (by kernel_rfl!) (by kernel_rfl!)
    intro kap hkap
    refine ⟨⟨T', i, t', c, u, rfl, by omega, hc, ⟨_, (X₈.nw _ (.head _)).1, rfl, _, rfl⟩⟩, X₈.segMv hgo (by simp), fun s'' _ hs'' => hkap .none s'' ?_⟩
    refine seg_again rfl ?_
    have X₈' : In true (segB C σ) C (l ++ [(Str.ofString "pos", Value.int (↑i) t')] ++ [(Str.ofString "ch", Value.str { cps := #[c] } u)]) (((T', { cls := .type "tuple", data := .seq [Value.int (↑i) t', Value.str { cps := #[c] } u].toArray }) :: [(C + 1, go)]) ++ ownOf (segB C σ).heap [e, it] h₃) s₈ := X₈
    have hS₈ := W.frame (i + 1) _ s₈ hS₃ nob (In.held (s₀ := segB C σ) (s₁ := { s₂ with heap := h₃ }) (N := [(C + 1, go)]) X₃ X₈') fun _ h => nomatch h
    have hS₉ := W.frame (i + 1) _ s'' hS₈ nob (fun a ha o e => hs'' a (Nat.le_of_lt (Nat.lt_of_succ_lt (pair_gt he hi ha))) o e) fun _ h => nomatch h
    have hgo₉ : s''.heap.get? (C + 1) = some go := hs'' _ (Nat.le_succ _) _ (X₈.nw (C + 1, go) (by simp)).1
    obtain ⟨m₈, F₈, H₈⟩ := X₈.fr
    refine ih (i + 1) s'' s'' l (by omega) hlt hgo₉ (In.segStart hgo₉ (F₈.ns.at' fun o e => hs'' _ (Nat.le_refl _) o e) (Has.of fun p hp => H₈.mem (List.mem_append_left _ (List.mem_append_left _ hp))) X.nd) hesc hl hS₉
end WC

namespace WC
open PySem PySem.W PySem.Calls PyProof.Rows

theorem seg_exec {w : World} {A : Around} {R : GenEnd} {Y : Protocol} {n : Nat} {s₀ : Shared} {c : Code} {fs : List Frame} {s : Shared} {env : Env} {K : Flow → Sem Fin} {H : Value → Sem Fin} {gd : Bool → Bool} {lv : List Value → List Value} {st : Stmt} {rest : List Stmt}
    (h : wpAny (model pw w) (A.over c fs) (exec st env) (fun f s' => f = .next ∧ Seg (model pw w) A R Y n s₀ c ((execs rest env).wrap K H gd lv) fs s') (fun _ _ => False) s) :
    Seg (model pw w) A R Y n s₀ c ((execs (st :: rest) env).wrap K H gd lv) fs s := by
  refine seg_execs_cons (seg_wrap (wpAny_mono h (fun f s' q => ?_) fun _ _ q => q.elim))
  obtain ⟨rfl, q⟩ := q
  exact q

/-- the generator, from its start on -/
theorem seg_iter_start {w : World} {os : OsState} {A : Around} (hh : A.handled = none) (C : Nat) (hb : Heap) (x : Str) (t : Tok) (go : Obj) (hx : ∀ c, c ∈ x.cps → c ≠ 92) (σ : Shared)
    (Cx₀ : Cx w os (cutH C σ.heap)) (hgo : σ.heap.get? (C + 1) = some go) (hn : σ.heap.Ns C (fun y => ([(sO "addr", .str x t)] : List (Str × Value)).reverse.lookup y)) :
    Seg (model pw w) A (genEnds C) (genGives x hb C) x.cps.size σ (.func (fbody (stI 1)) (genv C)) ((model pw w).den (.func (fbody (stI 1)) (genv C))) [] σ := by
  have X : In true (segB C σ) C [(Str.ofString "addr", .str x t)] [(C + 1, go)] σ := In.segStart hgo hn ⟨by kernel_rfl!, trivial⟩ (by simp)
  refine seg_func ?_
  refine seg_exec (wpAny_Assign_Name (ev_int X fun t₁ s₁ X₁ => store_local X₁ (.tail (by decide +kernel) .nil) fun s₂ X₂ => ⟨rfl, ?_⟩))
  refine seg_exec (wpAny_Assign_Name (Constant_bool (store_local X₂ (.tail (by decide +kernel) (.tail (by decide +kernel) .nil)) fun s₃ X₃ => ⟨rfl, ?_⟩)))
  refine seg_execs_cons ?_
  rw [exec_For]
  refine seg_bind_wrap (wpAny_standAt ?_)
  refine seg_bind_wrap (Call_ (ev_blt (w := w) (os := os) Cx₀ X₃ (gl_enumerate w os) bb_enumerate nn_enumerate (callWith_type1 (spliced_more (ev_local X₃ (.head _) (spliced_none (call_enumerate_str fun h' he' hit hsz hk => ?_)))))))
  refine seg_bind_wrap (wpAny_of_eq (show foldedSetIterable _ _ _ = pure _ from rfl) ?_)
  refine seg_bind_wrap (wpAny_standAt ?_)
  refine seg_bind_wrap (wpAny_holding (wpAny_pyIter_enum he' ?_))
  have X₄ := X₃.keeps (s' := { s₃ with heap := h' }) hk rfl rfl (.refl _ _)
  have hC : C + 1 < s₃.heap.objs.size := Heap.lt_size (X₃.nw (C + 1, go) (by simp)).1
  refine seg_call fun p => ?_
  refine seg_iter_loop hh C hb x t go (s₃.heap.objs.size + 1) s₃.heap.objs.size (Nat.succ_ne_self _) (Nat.lt_succ_of_lt hC) hC hx _ _ _ _ _ ?_ x.cps.size 0 σ _ [(Str.ofString "addr", .str x t), (Str.ofString "escape", .bool false)] rfl (Nat.zero_le _) hgo (X₄.names (by simp) (by simp; decide +kernel)) (by simp) ?_ ⟨⟨_, by simpa using he'⟩, hit⟩
  · rintro σ' s' mv ⟨l, hl, X'⟩
    refine seg_exec (wpAny_If (isTrue_plain (ev_local (v := .bool false) X' (hl _ (by simp)) (wpAny_truthy_bool ?_))))
    simp only [Bool.false_eq_true, if_false]
    refine wpAny_execs_nil ⟨rfl, ?_⟩
    exact seg_end (.ok (.ret .none)) ⟨rfl, rfl, mv⟩
  · intro p hp
    simp only [List.mem_cons, List.not_mem_nil, or_false] at hp
    rcases hp with rfl | rfl
    · exact ⟨show Str.ofString "addr" ≠ Str.ofString "pos" by decide +kernel, show Str.ofString "addr" ≠ Str.ofString "ch" by decide +kernel⟩
    · exact ⟨show Str.ofString "escape" ≠ Str.ofString "pos" by decide +kernel, show Str.ofString "escape" ≠ Str.ofString "ch" by decide +kernel⟩
end WC

namespace WC
open PySem PySem.W PySem.Calls PyProof.Rows

/-- the generator before its item i -/
structure IterAt (w : World) (A : Around) (hb : Heap) (x : Str) (C g : Nat) (i : Nat) (s : Shared) : Prop where
  gen : s.heap.IsGen (C + 1) g
  bas : ∀ b o, hb.get? b = some o → s.heap.get? b = some o
  st : ∃ gs, s.gens[g]? = some gs ∧ ∀ s'' : Shared, (∀ b o, hb.get? b = some o → s''.heap.get? b = some o) → (∀ a, C ≤ a → ∀ o, s.heap.get? a = some o → s''.heap.get? a = some o) →
    gs.Goes (model pw w) A.in1 (genEnds C) (genGives x hb C) (x.cps.size - i) (.send .none) s''

theorem not_wr {C b : Nat} (h : ¬ (C ≤ b ∧ b ≠ C + 1)) : b < C ∨ b = C + 1 := by omega
theorem in_range {C a n : Nat} (h1 : C ≤ a) (h2 : a < n) : a ∈ List.range' C (n - C) := List.mem_range'.mpr ⟨a - C, by omega, by omega⟩
theorem go_gen {w : World} {A : Around} {E : Value → Shared → Prop} {s : Shared} {elts : List Expr} {x1} {pos : Pos} {I T g : Nat} {Q : Unit → Shared → Prop} (hg : s.heap.IsGen I g) (hQ : Q () s) :
    wpAny (model pw w) A (letOwnedTupleGo (.Tuple elts x1 pos) (.ref I) (.ref T)) Q E s := by
  obtain ⟨⟨c, dct, dt, sl⟩, nm, qn, ho, hc, hd, _⟩ := hg
  replace hc : c = .type "generator" := hc
  replace hd : dt = _ := hd
  subst hc hd
  unfold letOwnedTupleGo
  refine wpAny_bind (wpAny_load ho ?_)
  exact wpAny_pure hQ
theorem setGen_get {s : Shared} {g : Nat} {gs gs' : GenState} (h : s.gens[g]? = some gs) : (s.setGen g gs').gens[g]? = some gs' := by
  have hlt : g < s.gens.size := by
    rcases Nat.lt_or_ge g s.gens.size with h' | h'
    · exact h'
    · rw [Array.getElem?_eq_none h'] at h; cases h
  show (s.gens.setIfInBounds g gs')[g]? = _
  rw [Array.getElem?_setIfInBounds_self_of_lt hlt]
theorem setGen_genB {s : Shared} {g : Nat} {gs' : GenState} (hb : gs'.bare = true) : GenB (some g) s.gens (s.setGen g gs').gens := by
  refine ⟨fun i x hi e => ?_, fun h y hy => ?_⟩
  · show (s.gens.setIfInBounds g gs')[i]? = _
    rw [Array.getElem?_setIfInBounds_ne (Ne.symm hi)]; exact e
  · obtain ⟨i, hi, rfl⟩ := Array.mem_iff_getElem.mp hy
    have e : (s.gens.setIfInBounds g gs')[i]? = some _ := Array.getElem?_eq_getElem hi
    by_cases q : i = g
    · subst q
      have hlt : i < s.gens.size := by simpa [Shared.setGen] using hi
      rw [Array.getElem?_setIfInBounds_self_of_lt hlt] at e
      exact (Option.some.inj e) ▸ hb
    · rw [Array.getElem?_setIfInBounds_ne (Ne.symm q)] at e
      exact h _ (Array.mem_of_getElem? e)

theorem src_iter {w : World} {os : OsState} {A : Around} {hb : Heap} (hh : A.handled = none) (hroom : A.depth < recursionLimit) (Cb : Cx w os hb) (x : Str) (C g : Nat) (hbC : hb.objs.size ≤ C) :
    Src2 hb w A (C + 1) (fun s => List.range' C (s.heap.objs.size - C)) (fun a => C ≤ a ∧ a ≠ C + 1) (some g) x.cps.size
      (fun i v0 v1 => ∃ t' c u, v0 = .int i t' ∧ x.cps[i]? = some c ∧ v1 = .str ⟨#[c]⟩ u) (IterAt w A hb x C g) (fun i _ s => IterAt w A hb x C g (i + 1) s) where
  frame := fun i s s' S kb k kg => by
    have k' : ∀ a, C ≤ a → ∀ o, s.heap.get? a = some o → s'.heap.get? a = some o := fun a ha o e => k a (in_range ha (Heap.lt_size e)) o e
    obtain ⟨gs, hgs, hgo⟩ := S.st
    refine ⟨?_, kb, gs, kg g rfl gs hgs, fun s'' hb' h => hgo s'' hb' fun a ha o e => h a ha o (k' a ha o e)⟩
    obtain ⟨o, nm, qn, ho, r⟩ := S.gen
    exact ⟨o, nm, qn, k' _ (Nat.le_succ _) _ ho, r⟩
  item := fun i s Q E hi S hQ => by
    obtain ⟨gs, hgs, hgo⟩ := S.st
    obtain ⟨k, hk⟩ : ∃ k, x.cps.size - i = k + 1 := ⟨x.cps.size - i - 1, by omega⟩
    rw [hk] at hgo
    refine pyNext_genQ (n := k + 1) (P := fun n s₀ s₁ => n = 0 ∧ SegMv C s₀ s₁) hh (Cb.keeps S.bas).T.nolimit hroom S.gen hgs (hgo (s.setGen g .running) S.bas fun _ _ _ e => e) (fun v s₁ gs' hbare hy => ?_) (fun s₁ hP => ?_)
    · obtain ⟨⟨T, j, t, c, u, rfl, hj, hc, hT⟩, mv, hkap⟩ := hy
      have hji : j = i := by simp only [Nat.add_sub_cancel] at hj; omega
      subst hji
      have kp : ∀ b o, ¬ (C ≤ b ∧ b ≠ C + 1) → s.heap.get? b = some o → s₁.heap.get? b = some o := fun b o hw e => mv.heap b o (not_wr hw) e
      have m : Mv (fun a => C ≤ a ∧ a ≠ C + 1) (some g) s (s₁.setGen g gs') := by
        refine ⟨kp, mv.os, mv.drawn, ?_⟩
        refine GenB.trans (setGen_genB (s := s) (gs' := .running) rfl) ?_
        have : s₁.gens = (s.setGen g .running).gens := mv.gens
        rw [← this]
        exact setGen_genB hbare
      have hg₁ : s₁.gens[g]? = some .running := by rw [mv.gens]; exact setGen_get hgs
      refine hQ T _ _ _ ⟨t, c, u, rfl, hc, rfl⟩ hT ⟨?_, fun b o e => ?_, gs', setGen_get hg₁, fun s'' hb' h => ?_⟩ m
      · obtain ⟨o, nm, qn, ho, r⟩ := S.gen
        exact ⟨o, nm, qn, mv.heap _ _ (.inr rfl) ho, r⟩
      · exact mv.heap b o (.inl (Nat.lt_of_lt_of_le (Heap.lt_size e) hbC)) (S.bas b o e)
      · have := hkap s'' hb' h
        rw [show x.cps.size - (j + 1) = k by omega]
        exact this
    · exact absurd hP.1 (by omega)
  go := fun elts k pos i T s Q E h hQ => go_gen h.gen (hQ s h .refl fun _ e => e)
  done := fun s Q E S hQ => by
    obtain ⟨gs, hgs, hgo⟩ := S.st
    rw [Nat.sub_self] at hgo
    refine pyNext_genQ (n := 0) (P := fun n s₀ s₁ => n = 0 ∧ SegMv C s₀ s₁) hh (Cb.keeps S.bas).T.nolimit hroom S.gen hgs (hgo (s.setGen g .running) S.bas fun _ _ _ e => e) (fun v s₁ gs' hbare hy => ?_) (fun s₁ hP => ?_)
    · obtain ⟨_, mv, hkap⟩ := hy
      exact (hkap s₁ (fun b o e => mv.heap b o (.inl (Nat.lt_of_lt_of_le (Heap.lt_size e) hbC)) (S.bas b o e)) fun _ _ _ e => e).elim
    · obtain ⟨_, mv⟩ := hP
      intro h' hk
      refine hQ _ ⟨fun b o hw e => hk b o (mv.heap b o (not_wr hw) e), mv.os, mv.drawn, ?_⟩
      refine GenB.trans (setGen_genB (s := s) (gs' := .running) rfl) ?_
      have : s₁.gens = (s.setGen g .running).gens := mv.gens
      show GenB (some g) (s.setGen g .running).gens (s₁.setGen g .finished).gens
      rw [← this]
      exact setGen_genB rfl
end WC

namespace WC
open PySem PySem.W PySem.Calls PyProof.Rows

theorem GenLe.push (g : Array GenState) (c : Code) : GenLe g (g.push (.fresh c)) := by
  refine ⟨fun i x e => ?_, fun h y hy => ?_⟩
  · have hlt : i < g.size := by
      rcases Nat.lt_or_ge i g.size with h' | h'
      · exact h'
      · rw [Array.getElem?_eq_none h'] at e; cases e
    rw [Array.getElem?_push_lt hlt]
    rw [Array.getElem?_eq_getElem hlt] at e; exact e
  · rcases Array.mem_push.mp hy with hy | rfl
    · exact h y hy
    · rfl
theorem GenLe.size {g g' : Array GenState} (h : GenLe g g') : g.size ≤ g'.size := by
  rcases Nat.lt_or_ge g'.size g.size with q | q
  · have e := h.1 g'.size g[g'.size] (Array.getElem?_eq_getElem q)
    rw [Array.getElem?_eq_none (Nat.le_refl _)] at e; cases e
  · exact q

theorem for_iter {w : World} {os : OsState} {A : Around} {s s₀ : Shared} {nm : Str} {sc : Scope} {L a : Addr} {cd : Value} {l : List (Str × Value)} {N : List (Addr × Obj)} {pk pv pt p1 p2 p3 pos : Pos} {x1 n : Nat} {body : List Stmt}
    {Q : Flow → Shared → Prop} (Cb : Cx w os s₀.heap) (R : Room A (n + 1)) (X : In false s₀ L l N s) (x : Str) (t : Tok) (hv : (Str.ofString "addr", .str x t) ∈ l) (hx : ∀ c, c ∈ x.cps → c ≠ 92)
    (J : Nat → List (Str × Value) → List (Addr × Obj) → Prop) (h0 : J 0 l N) (hl0 : ∀ p ∈ l, p.1 ≠ Str.ofString "pos" ∧ p.1 ≠ Str.ofString "ch")
    (step : ∀ i t' c u l₁ N₁ own g s, x.cps[i]? = some c → J i l₁ N₁ → N₁.map (·.1) = N.map (·.1) → (∀ p ∈ l₁, p.1 ≠ Str.ofString "pos" ∧ p.1 ≠ Str.ofString "ch") → In false (base s₀ g) L (l₁ ++ [(Str.ofString "pos", .int i t')] ++ [(Str.ofString "ch", .str ⟨#[c]⟩ u)]) (N₁ ++ own) s →
      (∀ q ∈ N, ∀ p ∈ own, p.1 ≠ q.1) → (∀ l' N' s', In false (base s₀ g) L l' N' s' → In false s₀ L l' N' s') →
      wpAny (model pw w) A (execs body (envOf nm sc L a cd)) (fun f s' => match f with
        | .next | .cont => ∃ l' N', In false (base s₀ g) L l' (N' ++ own) s' ∧ J (i + 1) l' N' ∧ (∀ p ∈ l', p.1 ≠ Str.ofString "pos" ∧ p.1 ≠ Str.ofString "ch") ∧ N'.map (·.1) = N₁.map (·.1)
        | .brk => Q .next s'
        | .ret v => Q (.ret v) s') (fun _ _ => False) s)
    (hR : ∀ l' N' s', In false s₀ L l' N' s' → J x.cps.size l' N' → N'.map (·.1) = N.map (·.1) → Q .next s')
    (hk : sc.kind = .function := by kernel_rfl!) (hxi : (envOf nm sc L a cd).kindOf (Str.ofString "pos") = some .local := by kernel_rfl!) (hxc : (envOf nm sc L a cd).kindOf (Str.ofString "ch") = some .local := by kernel_rfl!)
    (hxa : (envOf nm sc L a cd).kindOf (Str.ofString "addr") = some .local := by kernel_rfl!) (hxg : (envOf nm sc L a cd).kindOf (Str.ofString "_iter_escaped_chars") = some .globalImplicit := by kernel_rfl!) :
    wpAny (model pw w) A (exec (.For (.Tuple [.Name (Str.ofString "pos") pk, .Name (Str.ofString "ch") pv] x1 pt) (.Call (.Name (Str.ofString "_iter_escaped_chars") p1) [.Name (Str.ofString "addr") p2] [] p3) body [] pos) (envOf nm sc L a cd)) Q (fun _ _ => False) s := by
  refine wpAny_For ?_
  refine Call_ (ev_top Cb X (gl_iter w os) ?_ hk hxg)
  have Cs : Cx w os s.heap := Cb.keeps fun b o e => let ⟨_, F, _⟩ := X.fr; F.keep b o e
  refine callWith_def (o := o21_5 w.params) rfl ?_
  refine spliced_more (ev_local X hv (spliced_none ⟨Cs.K _ _ (top_at (by decide) (by kernel_rfl!) (by kernel_rfl!)), call_iter Cs R fun h₂ tk go keep hn hgo hgen hsz => ?_⟩) hk hxa)
  refine wpAny_pyIter_gen hgen ?_
  obtain ⟨m, F, H⟩ := X.fr
  have hL : L < s.heap.objs.size := F.ns.lt
  have hLo : s₀.heap.objs.size ≤ L := F.above
  have hbC : s₀.heap.objs.size ≤ s.heap.objs.size := Nat.le_of_lt (Nat.lt_of_le_of_lt hLo hL)
  have X' := X.keeps (s' := { s with heap := h₂, toks := tk, gens := s.gens.push (.fresh (.func (fbody (stI 1)) (genv s.heap.objs.size))) }) keep rfl rfl (GenLe.push _ _)
  refine for_pair (b := false) (gi := some s.gens.size) R.handled (src_iter (hb := s₀.heap) (C := s.heap.objs.size) R.handled (by have := R.depth; show A.depth < 1000; omega) Cb x _ hbC) X' ?_ ?_ J h0 hl0 ?_ hR pos_ne_ch hk hxi hxc
  · refine ⟨hgen, fun b o e => keep b o (F.keep b o e), _, Array.getElem?_push_size .., fun s'' hb' hs'' => ⟨rfl, ?_⟩⟩
    refine seg_iter_start (w := w) (os := os) (A := A.in1) R.handled s.heap.objs.size s₀.heap x t go hx s'' ?_ (hs'' _ (Nat.le_succ _) _ hgo) (hn.at' fun o e => hs'' _ (Nat.le_refl _) o e)
    refine Cb.keeps fun b o e => ?_
    rw [cutH_lt (Nat.lt_of_lt_of_le (Heap.lt_size e) hbC)]
    exact hb' b o e
  · refine ⟨fun s' h => ?_, fun h => Nat.not_le.mpr hL h.1, fun a h => ?_, fun a h q => ?_, fun k e => ?_⟩
    · obtain ⟨j, hj, e⟩ := List.mem_range'.mp h
      exact Nat.not_le.mpr hL (e ▸ Nat.le_add_right _ _)
    · exact Heap.get?_none_of_le (Nat.le_trans hbC h.1)
    · obtain ⟨p, hp, rfl⟩ := List.mem_map.mp q
      exact Nat.not_le.mpr (Heap.lt_size (X.nw p hp).1) h.1
    · cases e
      exact ⟨rfl, GenLe.size X.gens⟩
  · rintro i v0 v1 l' N' own g s₁ s₂ hi ⟨t', c, u, rfl, hc, rfl⟩ hJ hN hl' hown hS X₂ up
    refine step i t' c u l' N' own g s₂ hc hJ hN hl' X₂ (fun q hq p hp e => ?_) up
    obtain ⟨j, hj, e'⟩ := List.mem_range'.mp (hown p hp)
    have hlt := Heap.lt_size (X.nw q hq).1
    rw [← e, e'] at hlt
    exact Nat.not_lt.mpr (Nat.le_add_right _ _) hlt
end WC

namespace WC
open PySem PySem.W PySem.Calls PyProof.Rows
open PyProof

theorem str34 : Str.ofString "\"" = ⟨#[34]⟩ := by decide +kernel
/-- a text by its signs -/
noncomputable abbrev tx (cs : List Nat) : Str := ⟨cs.toArray⟩
theorem tx_length (cs : List Nat) : (tx cs).length = cs.length := by simp [Str.length]
theorem tx_list (x : Str) : x = tx x.cps.toList := by simp
theorem tx_len_lt {cs : List Nat} (h : cs.length ≤ 100000) : ((tx cs).length : Int) < 9223372036854775808 := by rw [tx_length]; omega
theorem tx_size {cs : List Nat} (h : cs.length ≤ 100000) : (tx cs).length ≤ sizeLine := by rw [tx_length]; exact Nat.le_trans h (by decide)

theorem fold_cat : ∀ (ps : List Str) (acc : Array Nat), (ps.foldl (fun acc p => acc ++ (⟨#[]⟩ : Str).cps ++ p.cps) acc).toList = acc.toList ++ (ps.map (fun p => p.cps.toList)).flatten
  | [], acc => by simp
  | p :: r, acc => by
    rw [List.foldl_cons, fold_cat r]
    simp
theorem join_cat (ps : List Str) : Txt.join ⟨#[]⟩ ps = tx (ps.map (fun p => p.cps.toList)).flatten := by
  show Builtin.Str.glued _ _ = _
  unfold Builtin.Str.glued
  cases ps with
  | nil => rfl
  | cons p r =>
    have e := fold_cat r p.cps
    show (⟨(r.foldl (fun acc p => acc ++ (⟨#[]⟩ : Str).cps ++ p.cps) p.cps)⟩ : Str) = _
    rw [List.map_cons, List.flatten_cons, ← e]
theorem fold_len (ps : List Str) : ∀ (a : Nat), ps.toArray.foldl (· + ·.length + (⟨#[]⟩ : Str).length) a = a + (ps.map (·.length)).sum := by
  intro a
  rw [List.foldl_toArray]
  induction ps generalizing a with
  | nil => simp
  | cons p r ih =>
    rw [List.foldl_cons, ih]
    show a + p.length + 0 + _ = _
    simp; omega
theorem joinok {rs : List Str} (h : (rs.map (·.length)).sum ≤ 100000) : JoinOk ⟨#[]⟩ rs = true := by
  unfold JoinOk
  rw [fold_len]
  unfold Builtin.Str.tooLong sizeLine
  simp; omega
theorem cnt_count (c : Nat) : ∀ l : List Nat, PyProof.Rows.cnt c l = (l.count c : Nat)
  | [] => rfl
  | n :: r => by
    rw [cnt_cons, cnt_count c r, List.count_cons]
    by_cases e : n = c
    · simp [e]; omega
    · simp [e]
theorem fitsSsize_nat {i : Nat} (h : i < 9223372036854775808) : fitsSsize (i : Nat) = true := fitsSsize_of (N := 9223372036854775808) (by omega) (by omega) (by omega)
section
variable {b : Bool} {w : World} {os : OsState} {A : Around} {E : Value → Shared → Prop} {s s₀ : Shared} {L a : Addr} {l : List (Str × Value)} {N : List (Addr × Obj)} {value slice : Expr} {cs : List Nat} {t ui uj : Tok} {i j : Nat}

theorem In.at {h' : Heap} {k : Nat} (X : In b s₀ L l N s) {m : Str → Option Value} (H : Has m l) (F : Fr s₀.heap L h' m) (N' : News s₀.heap L h' N) : In b s₀ L l N { s with heap := h', toks := k } :=
  ⟨⟨m, F, H⟩, X.nd, N', X.os, X.drawn, X.gens⟩

theorem sl_ss {Q : Value → Shared → Prop} (X : In b s₀ L l N s) (hij : i ≤ j) (hj : j ≤ cs.length) (hsz : cs.length ≤ 100000)
    (h : ∀ t' s', In b s₀ L l N s' → Q (.str (tx ((cs.drop i).take (j - i))) t') s')
    (hs : subscripted slice false (.str (tx cs) t) (.ref s.heap.objs.size) = operate [.ref s.heap.objs.size, .str (tx cs) t] (getItem (.str (tx cs) t) (.ref s.heap.objs.size)) := by with_unfolding_all rfl)
    (ht : ∀ r, letTemporaryGo value (.str (tx cs) t) r = pure () := by intro _; with_unfolding_all rfl) :
    wpAny (model pw w) A (subscriptTail value slice (.str (tx cs) t) (.ref s.heap.objs.size)) Q E { s with heap := s.heap.push { cls := .type "slice", data := .fields #[.int (i : Nat) ui, .int (j : Nat) uj, .none] } } := by
  obtain ⟨m, F, H⟩ := X.fr
  refine slice_strN_ss F X.nw (fun h' t' k F' N' => ?_) hs ht (tx_size hsz)
  have e := eq_of_beq (slice_closesL (x := tx cs) (i := (i : Nat)) (j := (j : Nat)) (by omega) (by omega) (by rw [tx_length]; omega))
  rw [e]
  have e2 : ((j : Int) - (i : Int)).toNat = j - i := by omega
  simp only [Int.toNat_natCast, e2, List.toList_toArray]
  exact h t' _ (X.at H F' N')
theorem sl_sn {Q : Value → Shared → Prop} (X : In b s₀ L l N s) (hj : i ≤ cs.length) (hsz : cs.length ≤ 100000)
    (h : ∀ t' s', In b s₀ L l N s' → Q (.str (tx (cs.drop i)) t') s')
    (hs : subscripted slice false (.str (tx cs) t) (.ref s.heap.objs.size) = operate [.ref s.heap.objs.size, .str (tx cs) t] (getItem (.str (tx cs) t) (.ref s.heap.objs.size)) := by with_unfolding_all rfl)
    (ht : ∀ r, letTemporaryGo value (.str (tx cs) t) r = pure () := by intro _; with_unfolding_all rfl) :
    wpAny (model pw w) A (subscriptTail value slice (.str (tx cs) t) (.ref s.heap.objs.size)) Q E { s with heap := s.heap.push { cls := .type "slice", data := .fields #[.int (i : Nat) ui, .none, .none] } } := by
  obtain ⟨m, F, H⟩ := X.fr
  refine slice_strN_sn F X.nw (fun h' t' k F' N' => ?_) hs ht (tx_size hsz)
  have e := slice_from_eq (x := tx cs) (i := (i : Nat)) (b := (cs.length : Nat)) (by omega) (by rw [tx_length]; omega) (by rw [tx_length])
  rw [e]
  have e2 : ((cs.length : Int) - (i : Int)).toNat = cs.length - i := by omega
  simp only [Int.toNat_natCast, e2, List.toList_toArray]
  rw [List.take_of_length_le (by simp)]
  exact h t' _ (X.at H F' N')
theorem sl_ns {Q : Value → Shared → Prop} (X : In b s₀ L l N s) (hj : j ≤ cs.length) (hsz : cs.length ≤ 100000)
    (h : ∀ t' s', In b s₀ L l N s' → Q (.str (tx (cs.take j)) t') s')
    (hs : subscripted slice false (.str (tx cs) t) (.ref s.heap.objs.size) = operate [.ref s.heap.objs.size, .str (tx cs) t] (getItem (.str (tx cs) t) (.ref s.heap.objs.size)) := by with_unfolding_all rfl)
    (ht : ∀ r, letTemporaryGo value (.str (tx cs) t) r = pure () := by intro _; with_unfolding_all rfl) :
    wpAny (model pw w) A (subscriptTail value slice (.str (tx cs) t) (.ref s.heap.objs.size)) Q E { s with heap := s.heap.push { cls := .type "slice", data := .fields #[.none, .int (j : Nat) uj, .none] } } := by
  obtain ⟨m, F, H⟩ := X.fr
  refine slice_strN_ns F X.nw (fun h' t' k F' N' => ?_) hs ht (tx_size hsz)
  have e := eq_of_beq (slice_closes_toL (x := tx cs) (j := (j : Nat)) (by omega) (by rw [tx_length]; omega))
  rw [e]
  have e2 : ((j : Int) - 0).toNat = j := by omega
  simp only [e2, List.toList_toArray, show (0 : Int).toNat = 0 from rfl, List.drop_zero]
  exact h t' _ (X.at H F' N')

theorem len_tx {Q : Value → Shared → Prop} (X : In b s₀ L l N s) (hsz : cs.length ≤ 100000) (h : ∀ t' s', In b s₀ L l N s' → Q (.int (cs.length : Nat) t') s') : wpAny (model pw w) A (call (.builtin "len") [.str (tx cs) t]) Q E s :=
  SBL.len (tx_len_lt hsz) (by
    have := h (s.toks + 1) _ (X.toks (s.toks + 1 + 1))
    rw [tx_length]
    exact this)
theorem item_tx {Q : Value → Shared → Prop} (X : In b s₀ L l N s) (hi : i < cs.length) (hsz : cs.length ≤ 100000) (h : ∀ t' s', In b s₀ L l N s' → Q (.str ⟨#[cs[i]]⟩ t') s')
    (hs : subscripted slice false (.str (tx cs) t) (.int (i : Nat) ui) = operate [.str (tx cs) t, .int (i : Nat) ui] (getItem (.str (tx cs) t) (.int (i : Nat) ui)) := by with_unfolding_all rfl)
    (ht : ∀ r, letTemporaryGo value (.str (tx cs) t) r = pure () := by intro _; with_unfolding_all rfl) :
    wpAny (model pw w) A (subscriptTail value slice (.str (tx cs) t) (.int (i : Nat) ui)) Q E s := by
  refine item_str ?_ (by omega) (by rw [tx_length]; omega) (fun _ => ?_) hs ht
  · exact fitsSsize_nat (by omega)
  · rw [item_meets (x := tx cs) (i := (i : Nat)) (n := cs[i]) (by omega) (by simp [hi])]
    exact h _ _ (X.toks _)
theorem cnt_tx {c : Nat} {y : Str} {Q : Value → Shared → Prop} (hy : y = ⟨#[c]⟩) (X : In b s₀ L l N s) (h : ∀ t' s', In b s₀ L l N s' → Q (.int (cs.count c : Nat) t') s') : wpAny (model pw w) A (call (.builtin "str.count") [.str (tx cs) t, .str y ui]) Q E s := by
  subst hy
  exact SC.count (by
    have := h s.toks _ (X.toks (s.toks + 1))
    rw [count_cnt, List.toList_toArray, cnt_count]
    exact this)

theorem mem_tx {c : Nat} {y : Str} {Q : Value → Shared → Prop} (hy : y = ⟨#[c]⟩) (h : Q (.bool (!decide (c ∈ cs))) s) : wpAny (model pw w) A (compareOp .NotIn (.str y ui) (.str (tx cs) t)) Q E s := by
  subst hy
  exact notIn_str (by rw [StrLaws.found_one, List.toList_toArray]; exact h)
/-- a list in the ledger gets an item -/
theorem app_led {D : Addr} {ys : List Value} {n : Nat} {x : Value} {P R : List (Addr × Obj)} {Q : Value → Shared → Prop} (X : In b s₀ L l (P ++ (D, { cls := .type "list", data := .seq ys.toArray n }) :: R) s) (hP : ∀ p ∈ P, p.1 ≠ D) (hR : ∀ p ∈ R, p.1 ≠ D) (hsz : ys.length ≤ 100000)
    (h : ∀ s', In b s₀ L l (P ++ (D, { cls := .type "list", data := .seq (ys ++ [x]).toArray (n + 1) }) :: R) s' → Q .none s') : wpAny (model pw w) A (call (.builtin "list.append") [.ref D, x]) Q E s := by
  obtain ⟨m, F, H⟩ := X.fr
  exact append_in F X.nw hP hR (fun h' F' N' => h _ ⟨⟨m, F', H⟩, X.nd, N', X.os, X.drawn, X.gens⟩) (Nat.le_trans hsz (by decide))
theorem join_tx {D : Addr} {y : Str} {rs : List (Str × Tok)} {n : Nat} {Q : Value → Shared → Prop} (X : In b s₀ L l N s) (hD : (D, { cls := .type "list", data := .seq (strValues rs).toArray n }) ∈ N) (hy : y = ⟨#[]⟩) (hsz : (rs.map (fun r => r.1.length)).sum ≤ 100000)
    (h : ∀ t' s', In b s₀ L l N s' → Q (.str (tx (rs.map (fun r => r.1.cps.toList)).flatten) t') s') : wpAny (model pw w) A (call (.builtin "str.join") [.str y ui, .ref D]) Q E s := by
  subst hy
  refine SC.join (l := rs) (texts := rs.map (·.1)) ⟨_, (X.nw _ hD).1, rfl, _, rfl⟩ rfl ?_ fun t' k => ?_
  · refine joinok ?_
    rw [List.map_map]
    exact hsz
  · have := h t' _ (X.toks k)
    rw [join_cat, List.map_map]
    exact this
end
end WC

set_option maxHeartbeats 4000000
namespace WC
open PySem PySem.W PySem.Calls PyProof.Rows
open PyProof

/-- the text without its quoted parts: from a sign on -/
noncomputable def stripGo (cs : List Nat) : List Nat → Nat → Nat → Option Nat → List (List Nat) → List Nat
  | [], _, st, _, res => (res ++ (if st < cs.length then [cs.drop st] else [])).flatten
  | c :: r, i, st, op, res =>
    if c = 34 then
      match op with
      | none => stripGo cs r (i + 1) st (some i) res
      | some o => stripGo cs r (i + 1) (i + 1) none (if st = o then res else res ++ [(cs.drop st).take (o - st)])
    else stripGo cs r (i + 1) st op res
theorem stripGo_other {cs r : List Nat} {c i st : Nat} {op : Option Nat} {res : List (List Nat)} (h : c ≠ 34) : stripGo cs (c :: r) i st op res = stripGo cs r (i + 1) st op res := by
  rw [stripGo.eq_def]; simp [h]
theorem stripGo_open {cs r : List Nat} {i st : Nat} {res : List (List Nat)} : stripGo cs (34 :: r) i st none res = stripGo cs r (i + 1) st (some i) res := by
  rw [stripGo.eq_def]; simp
theorem stripGo_close {cs r : List Nat} {i st o : Nat} {res : List (List Nat)} : stripGo cs (34 :: r) i st (some o) res = stripGo cs r (i + 1) (i + 1) none (if st = o then res else res ++ [(cs.drop st).take (o - st)]) := by
  rw [stripGo.eq_def]; simp
theorem stripGo_nil {cs : List Nat} {i st : Nat} {op : Option Nat} {res : List (List Nat)} : stripGo cs [] i st op res = (res ++ (if st < cs.length then [cs.drop st] else [])).flatten := by
  rw [stripGo.eq_def]
noncomputable def stripP (cs : List Nat) : List Nat := if 34 ∈ cs then stripGo cs cs 0 0 none [] else cs

noncomputable def opVal : Option Nat → Tok → Value
  | none, _ => .none
  | some o, t => .int (o : Nat) t

noncomputable abbrev stripL (cs : List Nat) (t t1 t2 : Tok) (st : Nat) (op : Option Nat) (D : Addr) : List (Str × Value) :=
  [(Str.ofString "addr", .str (tx cs) t), (Str.ofString "start", .int (st : Nat) t1), (Str.ofString "open_pos", opVal op t2), (Str.ofString "result", .ref D)]
noncomputable def stripJ (cs : List Nat) (t : Tok) (D : Addr) (i : Nat) (l : List (Str × Value)) (N : List (Addr × Obj)) : Prop :=
  ∃ st op res t1 t2 n, ∃ rs : List (Str × Tok), l = stripL cs t t1 t2 st op D ∧ N = [(D, { cls := .type "list", data := .seq (strValues rs).toArray n })] ∧ rs.map (fun r => r.1.cps.toList) = res ∧ (rs.map (fun r => r.1.length)).sum ≤ st ∧ rs.length ≤ st ∧
    st ≤ i ∧ (∀ o, op = some o → st ≤ o ∧ o < i) ∧ stripGo cs cs 0 0 none [] = stripGo cs (cs.drop i) i st op res

theorem inc_In {b : Bool} {w : World} {A : Around} {E : Value → Shared → Prop} {s s₀ : Shared} {L : Addr} {l : List (Str × Value)} {N : List (Addr × Obj)} {i : Nat} {t u : Tok} {Q : Value → Shared → Prop} (X : In b s₀ L l N s)
    (h : ∀ t' s', In b s₀ L l N s' → Q (.int ((i + 1 : Nat) : Int) t') s') : wpAny (model pw w) A (binaryOp .Add (.int (i : Nat) t) (.int 1 u)) Q E s :=
  add_int (by
    have := h s.toks _ (X.toks (s.toks + 1))
    rw [Int.natCast_add] at this
    exact this)
theorem stripL_nd (cs : List Nat) (t t1 t2 : Tok) (st : Nat) (op : Option Nat) (D : Addr) : ((stripL cs t t1 t2 st op D).map (·.1)).Nodup := by
  show ([Str.ofString "addr", Str.ofString "start", Str.ofString "open_pos", Str.ofString "result"] : List Str).Nodup
  decide +kernel
theorem stripL_off (cs : List Nat) (t t1 t2 : Tok) (st : Nat) (op : Option Nat) (D : Addr) : ∀ p ∈ stripL cs t t1 t2 st op D, p.1 ≠ Str.ofString "pos" ∧ p.1 ≠ Str.ofString "ch" := by
  have : ∀ x ∈ ((stripL cs t t1 t2 st op D).map (·.1)), x ≠ Str.ofString "pos" ∧ x ≠ Str.ofString "ch" := by
    show ∀ x ∈ ([Str.ofString "addr", Str.ofString "start", Str.ofString "open_pos", Str.ofString "result"] : List Str), x ≠ Str.ofString "pos" ∧ x ≠ Str.ofString "ch"
    decide +kernel
  exact fun p hp => this _ (List.mem_map.mpr ⟨p, hp, rfl⟩)
theorem drop_at {cs : List Nat} {i c : Nat} (h : (tx cs).cps[i]? = some c) : cs.drop i = c :: cs.drop (i + 1) ∧ i < cs.length := by
  have h' : cs[i]? = some c := by simpa using h
  obtain ⟨hi, e⟩ := List.getElem?_eq_some_iff.mp h'
  exact ⟨by rw [List.drop_eq_getElem_cons hi, e], hi⟩

theorem c_strip {w : World} {os : OsState} {A : Around} {s : Shared} {E : Value → Shared → Prop} {t : Tok} {n : Nat} (C : Cx w os s.heap) (R : Room A (n + 2)) (cs : List Nat) (h92 : 92 ∉ cs) (hsz : cs.length ≤ 1000) :
    wpAny (model pw w) A (PySem.call (.ref 28) [.str (tx cs) t]) (fun v s' => (∃ t', v = .str (tx (stripP cs)) t') ∧ KpG false s s') E s := by
  refine enter_strip C R fun h₁ F C₁ R₁ => ?_
  have C₁' : Cx w os s.heap := C
  have X : In false s s.heap.objs.size [(Str.ofString "addr", .str (tx cs) t)] [] { s with heap := h₁, toks := s.toks + 1 } := In.start F (by simp) rfl
  refine wpAny_execs_cons (wpAny_If (wpAny_isTrue_Compare1 (ev_str X fun t₁ s₁ X₁ => ev_local X₁ (.head _) (mem_tx str34 (wpAny_truthy_bool ?_)))))
  by_cases hq : 34 ∈ cs
  case neg =>
    simp only [hq, decide_false, Bool.not_false, if_true]
    refine wpAny_execs_cons (wpAny_Return_some (ev_local X₁ (.head _) ⟨⟨t, by rw [stripP, if_neg hq]; rfl⟩, X₁.kp⟩))
  simp only [hq, decide_true, Bool.not_true, Bool.false_eq_true, if_false]
  refine wpAny_execs_nil ?_
  refine wpAny_execs_cons (wpAny_Assign_Name (ev_int X₁ fun t₂ s₂ X₂ => store_local X₂ (.tail (by decide +kernel) .nil) fun s₃ X₃ => ?_))
  refine wpAny_execs_cons (wpAny_Assign_Name (Constant_none (store_local X₃ (.tail (by decide +kernel) (.tail (by decide +kernel) .nil)) fun s₄ X₄ => ?_)))
  refine wpAny_execs_cons (wpAny_Assign_Name (List_ (spliced_none (new_list X₄ fun D s₅ hD X₅ => store_local X₅ (.tail (by decide +kernel) (.tail (by decide +kernel) (.tail (by decide +kernel) .nil))) fun s₆ X₆ => ?_))))
  refine wpAny_execs_cons (for_iter C₁' R₁ X₆ (tx cs) t (.head _) (fun c hc e => h92 (by subst e; simpa using hc)) (stripJ cs t D) ⟨0, none, [], t₂, 0, _, [], rfl, rfl, rfl, Nat.le_refl _, Nat.le_refl _, Nat.le_refl _, (fun _ e => nomatch e), rfl⟩ ?_ ?_ ?_)
  · exact stripL_off cs t t₂ 0 0 none D
  · rintro i t' c u l₁ N₁ own g s₇ hc ⟨st, op, res, t1, t2, n, rs, rfl, rfl, hres, hsum, hlen, hst, hop, hgo⟩ hN hl X₇ hown up
    obtain ⟨hd, hi⟩ := drop_at hc
    have ownD : ∀ p ∈ own, p.1 ≠ D := fun p hp => hown (D, _) (.head _) p hp
    replace X₇ : In false (base s g) s.heap.objs.size [(Str.ofString "addr", .str (tx cs) t), (Str.ofString "start", .int (st : Nat) t1), (Str.ofString "open_pos", opVal op t2), (Str.ofString "result", .ref D), (Str.ofString "pos", .int (i : Nat) t'), (Str.ofString "ch", .str ⟨#[c]⟩ u)] ((D, { cls := .type "list", data := .seq (strValues rs).toArray n }) :: own) s₇ := X₇
    refine wpAny_execs_cons (wpAny_If (wpAny_isTrue_Compare1 (ev_local X₇ (.tail _ (.tail _ (.tail _ (.tail _ (.tail _ (.head _)))))) (ev_str X₇ fun t₈ s₈ X₈ => eq_str (wpAny_truthy_bool ?_)))))
    rw [str1_beq c (Str.ofString "\"") (d := 34)]
    rw [hd] at hgo
    by_cases h34 : c = 34
    case neg =>
      rw [show (c == 34) = false by simpa using h34]
      simp only [Bool.false_eq_true, if_false]
      refine wpAny_execs_nil (wpAny_execs_nil ⟨_, _, X₈.names (l' := stripL cs t t1 t2 st op D) (fun p hp => List.mem_append_left [_, _] hp) (stripL_nd ..), ⟨st, op, res, t1, t2, n, rs, rfl, rfl, hres, hsum, hlen, by omega, fun o e => ⟨(hop o e).1, by have := (hop o e).2; omega⟩, ?_⟩, stripL_off cs t t1 t2 st op D, rfl⟩)
      rw [hgo, stripGo_other h34]
    subst h34
    simp only [beq_self_eq_true, if_true]
    refine wpAny_execs_cons (wpAny_If (wpAny_isTrue_Compare1 (ev_local X₈ (.tail _ (.tail _ (.head _))) (Constant_none (is_none (wpAny_truthy_bool ?_))))))
    cases op with
    | none =>
      rw [show (opVal none t2 == Value.none) = true from rfl]
      simp only [if_true]
      refine wpAny_execs_cons (wpAny_Assign_Name (ev_local X₈ (.tail _ (.tail _ (.tail _ (.tail _ (.head _))))) (store_local X₈ (.tail (by decide +kernel) (.tail (by decide +kernel) .head)) fun s₉ X₉ => ?_)))
      refine wpAny_execs_nil (wpAny_execs_nil (wpAny_execs_nil ⟨_, _, X₉.names (l' := stripL cs t t1 t' st (some i) D) (fun p hp => List.mem_append_left [_, _] hp) (stripL_nd ..), ⟨st, some i, res, t1, t', n, rs, rfl, rfl, hres, hsum, hlen, by omega, fun o e => ?_, ?_⟩, stripL_off cs t t1 t' st (some i) D, rfl⟩))
      · cases e; exact ⟨hst, Nat.lt_succ_self _⟩
      · rw [hgo, stripGo_open]
    | some o =>
      rw [show (opVal (some o) t2 == Value.none) = false from rfl]
      simp only [Bool.false_eq_true, if_false]
      obtain ⟨ho1, ho2⟩ := hop o rfl
      have fin : ∀ (rs' : List (Str × Tok)) (n' : Nat) s₉, rs'.map (fun r => r.1.cps.toList) = (if st = o then res else res ++ [(cs.drop st).take (o - st)]) → (rs'.map (fun r => r.1.length)).sum ≤ i + 1 → rs'.length ≤ i + 1 →
          In false (base s g) s.heap.objs.size [(Str.ofString "addr", .str (tx cs) t), (Str.ofString "start", .int (st : Nat) t1), (Str.ofString "open_pos", opVal (some o) t2), (Str.ofString "result", .ref D), (Str.ofString "pos", .int (i : Nat) t'), (Str.ofString "ch", .str ⟨#[34]⟩ u)] ((D, { cls := .type "list", data := .seq (strValues rs').toArray n' }) :: own) s₉ →
          wpAny (model pw w) (A.deeper (envOf (sO "_strip_quoted_realnames") (fscope (stI 2)) s.heap.objs.size 28 (.ref 27))) (execs [Stmt.Assign [Expr.Name (Str.ofString "start") ⟨28,16,28,21⟩] (Expr.BinOp (Expr.Name (Str.ofString "pos") ⟨28,24,28,27⟩) .Add (Expr.Constant (Const.int 1) 0 ⟨28,30,28,31⟩) ⟨28,24,28,31⟩) ⟨28,16,28,31⟩,
            Stmt.Assign [Expr.Name (Str.ofString "open_pos") ⟨29,16,29,24⟩] (Expr.Constant Const.none 0 ⟨29,27,29,31⟩) ⟨29,16,29,31⟩] (envOf (sO "_strip_quoted_realnames") (fscope (stI 2)) s.heap.objs.size 28 (.ref 27)))
            (fun f s' => f = .next ∧ ∃ l' N', In false (base s g) s.heap.objs.size l' (N' ++ own) s' ∧ stripJ cs t D (i + 1) l' N' ∧ (∀ p ∈ l', p.1 ≠ Str.ofString "pos" ∧ p.1 ≠ Str.ofString "ch") ∧ N'.map (·.1) = [D]) (fun _ _ => False) s₉ := by
        intro rs' n' s₉ h1 h2 h3 X₉
        refine wpAny_execs_cons (wpAny_Assign_Name (wpAny_BinOp (ev_local X₉ (.tail _ (.tail _ (.tail _ (.tail _ (.head _))))) (ev_int X₉ fun ta sa Xa => inc_In Xa fun tb sb Xb => store_local Xb (.tail (by decide +kernel) .head) fun sc Xc => ?_))))
        refine wpAny_execs_cons (wpAny_Assign_Name (Constant_none (store_local Xc (.tail (by decide +kernel) (.tail (by decide +kernel) .head)) fun sd Xd => ?_)))
        refine wpAny_execs_nil ⟨rfl, _, [(D, { cls := .type "list", data := .seq (strValues rs').toArray n' })], Xd.names (l' := stripL cs t tb 0 (i + 1) none D) (fun p hp => List.mem_append_left [_, _] hp) (stripL_nd ..), ⟨i + 1, none, _, tb, 0, n', rs', rfl, rfl, h1, h2, h3, Nat.le_refl _, (fun _ e => nomatch e), ?_⟩, stripL_off cs t tb 0 (i + 1) none D, rfl⟩
        rw [hgo, stripGo_close]
      refine wpAny_execs_cons (wpAny_If (wpAny_isTrue_Compare1 (ev_local X₈ (.tail _ (.head _)) (ev_local X₈ (.tail _ (.tail _ (.head _))) (ne_int (wpAny_truthy_bool ?_))))))
      by_cases hso : st = o
      · subst hso
        rw [show (((st : Nat) : Int) != ((st : Nat) : Int)) = false by simp]
        simp only [Bool.false_eq_true, if_false]
        refine wpAny_execs_nil ?_
        refine wpAny_mono (fin rs n s₈ (by rw [if_pos rfl]; exact hres) (by omega) (by omega) X₈) (fun f s₉ h => ?_) fun _ _ e => e
        obtain ⟨rfl, h⟩ := h
        exact wpAny_execs_nil (wpAny_execs_nil h)
      · rw [show (((st : Nat) : Int) != ((o : Nat) : Int)) = true by simp; omega]
        simp only [if_true]
        refine wpAny_execs_cons (wpAny_Expr (MethodCall_ (ev_local X₈ (.tail _ (.tail _ (.tail _ (.head _)))) (Calls.getMethod_list_append (X₈.nw (D, _) (.head _)).1 rfl rfl ?_))))
        refine callWith_method1 (spliced_more (Subscript_ (ev_local X₈ (.head _) (wpAny_Slice ?_))))
        refine evalPart_some_step (ev_local X₈ (.tail _ (.head _)) (evalPart_some_step (ev_local X₈ (.tail _ (.tail _ (.head _))) (evalPart_none_step (sl_ss X₈ ho1 (Nat.le_of_lt (Nat.lt_trans ho2 hi)) (by omega) fun t₉ s₉ X₉ => ?_)))))
        refine spliced_none ?_
        refine app_led (P := []) X₉ (fun _ h => nomatch h) ownD (by simp [strValues]; omega) fun sa Xa => ?_
        have e : strValues rs ++ [Value.str (tx ((cs.drop st).take (o - st))) t₉] = strValues (rs ++ [(tx ((cs.drop st).take (o - st)), t₉)]) := by simp [strValues]
        rw [e] at Xa
        have hl : (tx ((cs.drop st).take (o - st))).length = o - st := by rw [tx_length, List.length_take, List.length_drop]; omega
        refine wpAny_execs_nil (wpAny_mono (fin _ (n + 1) sa ?_ ?_ ?_ Xa) (fun f s₉ h => ?_) fun _ _ e => e)
        · rw [if_neg hso, List.map_append, hres]; simp
        · simp [hl]; omega
        · simp; omega
        · obtain ⟨rfl, h⟩ := h
          exact wpAny_execs_nil (wpAny_execs_nil h)
  · rintro l' N' s₇ X₇ ⟨st, op, res, t1, t2, n, rs, rfl, rfl, hres, hsum, hlen, hst, hop, hgo⟩ hN
    have hst' : st ≤ cs.length := by simpa using hst
    rw [show (tx cs).cps.size = cs.length by simp, List.drop_length, stripGo_nil] at hgo
    refine wpAny_execs_cons (wpAny_If (wpAny_isTrue_Compare1 (ev_local X₇ (.tail _ (.head _)) (Call_ (ev_blt (w := w) (os := os) C₁' X₇ (gl_len w os) bb_len nn_len (callWith_builtin1 (spliced_more (ev_local X₇ (.head _) (spliced_none (len_tx X₇ (by omega) fun t₈ s₈ X₈ => lt_int (wpAny_truthy_bool ?_)))))))))))
    have fin : ∀ (rs' : List (Str × Tok)) (n' : Nat) s₉, rs'.map (fun r => r.1.cps.toList) = (res ++ (if st < cs.length then [cs.drop st] else [])) → (rs'.map (fun r => r.1.length)).sum ≤ cs.length →
        In false s s.heap.objs.size (stripL cs t t1 t2 st op D) [(D, { cls := .type "list", data := .seq (strValues rs').toArray n' })] s₉ →
        wpAny (model pw w) (A.deeper (envOf (sO "_strip_quoted_realnames") (fscope (stI 2)) s.heap.objs.size 28 (.ref 27))) (execs [Stmt.Return (some (Expr.Call (Expr.Attribute (Expr.Constant (Const.str (Str.ofString "")) 0 ⟨32,11,32,13⟩) (Str.ofString "join") ⟨32,11,32,18⟩) [Expr.Name (Str.ofString "result") ⟨32,19,32,25⟩] [] ⟨32,11,32,26⟩)) ⟨32,4,32,26⟩] (envOf (sO "_strip_quoted_realnames") (fscope (stI 2)) s.heap.objs.size 28 (.ref 27)))
          (fun f s' => (∃ t', retOf f = .str (tx (stripP cs)) t') ∧ KpG false s s') (fun _ _ => False) s₉ := by
      intro rs' n' s₉ h1 h2 X₉
      refine wpAny_execs_cons (wpAny_Return_some (MethodCall_ (ev_str X₉ fun ta sa Xa => GM.join (callWith_method1 (spliced_more (ev_local Xa (.tail _ (.tail _ (.tail _ (.head _)))) (spliced_none (join_tx Xa (.head _) (by decide +kernel) (by omega) fun tb sb Xb => ⟨⟨tb, ?_⟩, Xb.kp⟩))))))))
      show Value.str _ _ = _
      rw [h1, ← hgo, stripP, if_pos hq]
    by_cases hl : st < cs.length
    · rw [show decide (((st : Nat) : Int) < ((cs.length : Nat) : Int)) = true by simp; omega]
      simp only [if_true]
      refine wpAny_execs_cons (wpAny_Expr (MethodCall_ (ev_local X₈ (.tail _ (.tail _ (.tail _ (.head _)))) (Calls.getMethod_list_append (X₈.nw (D, _) (.head _)).1 rfl rfl ?_))))
      refine callWith_method1 (spliced_more (Subscript_ (ev_local X₈ (.head _) (wpAny_Slice ?_))))
      refine evalPart_some_step (ev_local X₈ (.tail _ (.head _)) (evalPart_none_step (evalPart_none_step (sl_sn X₈ hst' (by omega) fun t₉ s₉ X₉ => ?_))))
      refine spliced_none ?_
      refine app_led (P := []) (R := []) X₉ (fun _ h => nomatch h) (fun _ h => nomatch h) (by simp [strValues]; omega) fun sa Xa => ?_
      have e : strValues rs ++ [Value.str (tx (cs.drop st)) t₉] = strValues (rs ++ [(tx (cs.drop st), t₉)]) := by simp [strValues]
      rw [e] at Xa
      have hl' : (tx (cs.drop st)).length = cs.length - st := by rw [tx_length, List.length_drop]
      refine wpAny_execs_nil (fin _ (n + 1) sa ?_ ?_ Xa)
      · rw [if_pos hl, List.map_append, hres]; simp
      · simp [hl']; omega
    · rw [show decide (((st : Nat) : Int) < ((cs.length : Nat) : Int)) = false by simp; omega]
      simp only [Bool.false_eq_true, if_false]
      refine wpAny_execs_nil (fin rs n s₈ ?_ (by omega) X₈)
      rw [if_neg hl, List.append_nil]; exact hres
end WC

set_option maxHeartbeats 4000000
namespace WC
open PySem PySem.W PySem.Calls PyProof.Rows
open PyProof

theorem stripGo_mem (cs : List Nat) : ∀ (r : List Nat) (i st : Nat) (op : Option Nat) (res : List (List Nat)), (∀ p ∈ res, ∀ c ∈ p, c ∈ cs) → ∀ c ∈ stripGo cs r i st op res, c ∈ cs := by
  intro r
  induction r with
  | nil =>
    intro i st op res h c hc
    rw [stripGo_nil] at hc
    obtain ⟨p, hp, hc⟩ := List.mem_flatten.mp hc
    rcases List.mem_append.mp hp with hp | hp
    · exact h p hp c hc
    · split at hp
      · rw [List.mem_singleton.mp hp] at hc; exact List.mem_of_mem_drop hc
      · cases hp
  | cons d r ih =>
    intro i st op res h c hc
    by_cases hd : d = 34
    · subst hd
      cases op with
      | none => rw [stripGo_open] at hc; exact ih _ _ _ _ h c hc
      | some o =>
        rw [stripGo_close] at hc
        refine ih _ _ _ _ (fun p hp => ?_) c hc
        split at hp
        · exact h p hp
        · rcases List.mem_append.mp hp with hp | hp
          · exact h p hp
          · intro c hc
            rw [List.mem_singleton.mp hp] at hc; exact List.mem_of_mem_drop (List.mem_of_mem_take hc)
    · rw [stripGo_other hd] at hc; exact ih _ _ _ _ h c hc
theorem stripP_mem {cs : List Nat} {c : Nat} (h : c ∈ stripP cs) : c ∈ cs := by
  unfold stripP at h
  split at h
  · exact stripGo_mem cs cs 0 0 none [] (fun _ h => nomatch h) c h
  · exact h

/-- do the brackets go together -/
noncomputable def checkGo : List Nat → Int → Bool
  | [], o => o == 0
  | c :: r, o => if c = 40 then checkGo r (o + 1) else if c = 41 then (if o - 1 < 0 then false else checkGo r (o - 1)) else checkGo r o
noncomputable def checkP (cs : List Nat) : Bool := checkGo (stripP cs) 0

noncomputable abbrev checkL (ds : List Nat) (t t1 : Tok) (o : Int) : List (Str × Value) := [(Str.ofString "addr", .str (tx ds) t), (Str.ofString "opens", .int o t1)]
noncomputable def checkJ (ds : List Nat) (t : Tok) (i : Nat) (l : List (Str × Value)) (N : List (Addr × Obj)) : Prop :=
  N = [] ∧ ∃ o t1, l = checkL ds t t1 o ∧ checkGo ds 0 = checkGo (ds.drop i) o
theorem checkL_nd (ds : List Nat) (t t1 : Tok) (o : Int) : ((checkL ds t t1 o).map (·.1)).Nodup := by
  show ([Str.ofString "addr", Str.ofString "opens"] : List Str).Nodup
  decide +kernel
theorem checkL_off (ds : List Nat) (t t1 : Tok) (o : Int) : ∀ p ∈ checkL ds t t1 o, p.1 ≠ Str.ofString "pos" ∧ p.1 ≠ Str.ofString "ch" := by
  have : ∀ x ∈ ((checkL ds t t1 o).map (·.1)), x ≠ Str.ofString "pos" ∧ x ≠ Str.ofString "ch" := by
    show ∀ x ∈ ([Str.ofString "addr", Str.ofString "opens"] : List Str), x ≠ Str.ofString "pos" ∧ x ≠ Str.ofString "ch"
    decide +kernel
  exact fun p hp => this _ (List.mem_map.mpr ⟨p, hp, rfl⟩)

theorem Cx.at28 {w : World} {os : OsState} {h : Heap} (C : Cx w os h) : h.get? 28 = some (o28_5 w.params) := C.K _ _ (top_at (by decide) (by kernel_rfl!) (by kernel_rfl!))
theorem Cx.at35 {w : World} {os : OsState} {h : Heap} (C : Cx w os h) : h.get? 35 = some (o35_5 w.params) := C.K _ _ (top_at (by decide) (by kernel_rfl!) (by kernel_rfl!))

theorem In.cx {b : Bool} {w : World} {os : OsState} {s s₀ : Shared} {L : Addr} {l : List (Str × Value)} {N : List (Addr × Obj)} (X : In b s₀ L l N s) (C : Cx w os s₀.heap) : Cx w os s.heap := C.keeps X.kp.keep

theorem c_check {w : World} {os : OsState} {A : Around} {s : Shared} {E : Value → Shared → Prop} {t : Tok} {n : Nat} (C : Cx w os s.heap) (R : Room A (n + 3)) (cs : List Nat) (h92 : 92 ∉ cs) (hsz : cs.length ≤ 1000) :
    wpAny (model pw w) A (PySem.call (.ref 35) [.str (tx cs) t]) (fun v s' => v = .bool (checkP cs) ∧ KpG false s s') E s := by
  refine enter_check C R fun h₁ F C₁ R₁ => ?_
  have X : In false s s.heap.objs.size [(Str.ofString "addr", .str (tx cs) t)] [] { s with heap := h₁, toks := s.toks + 1 } := In.start F (by simp) rfl
  have D := C
  refine wpAny_execs_cons (wpAny_Assign_Name (Call_ (ev_top D X (gl_strip w os) (callWith_def (o := o28_5 w.params) rfl (spliced_more (ev_local X (.head _) (spliced_none ⟨(X.cx D).at28, ?_⟩)))))))
  refine wpAny_mono (c_strip (n := n) (E := fun _ _ => False) (X.cx D) R₁ cs h92 hsz) (fun v s₁ h => ?_) fun _ _ e => e
  obtain ⟨⟨t₁, rfl⟩, k₁⟩ := h
  have X₁ := X.after k₁
  refine store_local X₁ .head fun s₂ X₂ => ?_
  refine wpAny_execs_cons (wpAny_Assign_Name (ev_int X₂ fun t₂ s₃ X₃ => store_local X₃ (.tail (by decide +kernel) .nil) fun s₄ X₄ => ?_))
  have h92' : 92 ∉ stripP cs := fun h => h92 (stripP_mem h)
  unfold checkP
  generalize stripP cs = ds at *
  refine wpAny_execs_cons (for_iter (n := n + 1) D R₁ X₄ (tx ds) t₁ (.head _) (fun c hc e => h92' (by subst e; simpa using hc)) (checkJ ds t₁) ⟨rfl, 0, t₂, rfl, rfl⟩ (checkL_off ds t₁ t₂ 0) ?_ ?_)
  · rintro i t' c u l₁ N₁ own g s₇ hc ⟨rfl, o, t1, rfl, hgo⟩ hN hl X₇ hown up
    obtain ⟨hd, hi⟩ := drop_at hc
    rw [hd] at hgo
    replace X₇ : In false (base s g) s.heap.objs.size [(Str.ofString "addr", .str (tx ds) t₁), (Str.ofString "opens", .int o t1), (Str.ofString "pos", .int (i : Nat) t'), (Str.ofString "ch", .str ⟨#[c]⟩ u)] own s₇ := X₇
    have fin : ∀ (o' : Int) (tb : Tok) s₉, In false (base s g) s.heap.objs.size [(Str.ofString "addr", .str (tx ds) t₁), (Str.ofString "opens", .int o' tb), (Str.ofString "pos", .int (i : Nat) t'), (Str.ofString "ch", .str ⟨#[c]⟩ u)] own s₉ →
        checkGo ds 0 = checkGo (ds.drop (i + 1)) o' → ∃ l' N', In false (base s g) s.heap.objs.size l' (N' ++ own) s₉ ∧ checkJ ds t₁ (i + 1) l' N' ∧ (∀ p ∈ l', p.1 ≠ Str.ofString "pos" ∧ p.1 ≠ Str.ofString "ch") ∧ N'.map (·.1) = ([] : List (Addr × Obj)).map (·.1) := fun o' tb s₉ X₉ h =>
      ⟨_, [], X₉.names (l' := checkL ds t₁ tb o') (fun p hp => List.mem_append_left [_, _] hp) (checkL_nd ..), ⟨rfl, o', tb, rfl, h⟩, checkL_off ds t₁ tb o', rfl⟩
    refine wpAny_execs_cons (wpAny_If (wpAny_isTrue_Compare1 (ev_local X₇ (.tail _ (.tail _ (.tail _ (.head _)))) (ev_str X₇ fun t₈ s₈ X₈ => eq_str (wpAny_truthy_bool ?_)))))
    rw [str1_beq c (Str.ofString "(") (d := 40)]
    by_cases h40 : c = 40
    · subst h40
      simp only [beq_self_eq_true, if_true]
      refine wpAny_execs_cons (wpAny_AugAssign_Name (ld_local X₈ (.tail _ (.head _)) (ev_int X₈ fun ta sa Xa => iadd_int (store_local (Xa.toks _) (.tail (by decide +kernel) .head) fun sc Xc => ?_))))
      refine wpAny_execs_nil (wpAny_execs_nil (fin _ _ sc Xc ?_))
      rw [hgo]; simp [checkGo]
    rw [show (c == 40) = false by simpa using h40]
    simp only [Bool.false_eq_true, if_false]
    refine wpAny_execs_cons (wpAny_If (wpAny_isTrue_Compare1 (ev_local X₈ (.tail _ (.tail _ (.tail _ (.head _)))) (ev_str X₈ fun t₉ s₉ X₉ => eq_str (wpAny_truthy_bool ?_)))))
    rw [str1_beq c (Str.ofString ")") (d := 41)]
    by_cases h41 : c = 41
    · subst h41
      simp only [beq_self_eq_true, if_true]
      refine wpAny_execs_cons (wpAny_AugAssign_Name (ld_local X₉ (.tail _ (.head _)) (ev_int X₉ fun ta sa Xa => isub_int (store_local (Xa.toks _) (.tail (by decide +kernel) .head) fun sc Xc => ?_))))
      refine wpAny_execs_cons (wpAny_If (wpAny_isTrue_Compare1 (ev_local Xc (.tail _ (.head _)) (ev_int Xc fun td sd Xd => lt_int (wpAny_truthy_bool ?_)))))
      by_cases hneg : o - 1 < 0
      · rw [show decide (o - 1 < 0) = true by simpa using hneg]
        simp only [if_true]
        refine wpAny_execs_cons (wpAny_Return_some (Constant_bool ⟨?_, (up _ _ _ Xd).kp⟩))
        show Value.bool false = _
        rw [hgo]; simp [checkGo, hneg]
      · rw [show decide (o - 1 < 0) = false by simpa using hneg]
        simp only [Bool.false_eq_true, if_false]
        refine wpAny_execs_nil (wpAny_execs_nil (wpAny_execs_nil (wpAny_execs_nil (fin _ _ sd Xd ?_))))
        rw [hgo]; simp [checkGo, hneg]
    · rw [show (c == 41) = false by simpa using h41]
      simp only [Bool.false_eq_true, if_false]
      refine wpAny_execs_nil (wpAny_execs_nil (wpAny_execs_nil (fin _ _ s₉ X₉ ?_)))
      rw [hgo]; simp [checkGo, h40, h41]
  · rintro l' N' s₇ X₇ ⟨rfl, o, t1, rfl, hgo⟩ hN
    refine wpAny_execs_cons (wpAny_Return_some (wpAny_Compare1 (ev_local X₇ (.tail _ (.head _)) (ev_int X₇ fun ta sa Xa => eq_int ⟨?_, Xa.kp⟩))))
    show Value.bool _ = _
    rw [hgo, show (tx ds).cps.size = ds.length by simp, List.drop_length]
    rfl
end WC

set_option maxHeartbeats 4000000
namespace WC
open PySem PySem.W PySem.Calls PyProof.Rows
open PyProof

/-- the range's object -/
theorem range_In {b : Bool} {w : World} {A : Around} {E : Value → Shared → Prop} {s s₀ : Shared} {L : Addr} {l : List (Str × Value)} {N : List (Addr × Obj)} {lo hi : Int} {t u : Tok} {Q : Value → Shared → Prop} (X : In b s₀ L l N s)
    (h : ∀ r s' t₁ u₁ v₁, In b s₀ L l N s' → IsRange s'.heap r lo hi 1 t₁ u₁ v₁ → Q (.ref r) s') : wpAny (model pw w) A (call (.type "range") [.int lo t, .int hi u]) Q E s := by
  obtain ⟨m, F, H⟩ := X.fr
  exact range2_rows F X.nw fun h' tk t₁ u₁ v₁ hr F' N' k => h _ _ t₁ u₁ v₁ (X.at H F' N') hr
theorem range1_In {b : Bool} {w : World} {A : Around} {E : Value → Shared → Prop} {s s₀ : Shared} {L : Addr} {l : List (Str × Value)} {N : List (Addr × Obj)} {hi : Int} {t : Tok} {Q : Value → Shared → Prop} (X : In b s₀ L l N s)
    (h : ∀ r s' t₁ u₁ v₁, In b s₀ L l N s' → IsRange s'.heap r 0 hi 1 t₁ u₁ v₁ → Q (.ref r) s') : wpAny (model pw w) A (call (.type "range") [.int hi t]) Q E s := by
  obtain ⟨m, F, H⟩ := X.fr
  exact range1_rows F X.nw fun h' tk t₁ u₁ v₁ hr F' N' k => h _ _ t₁ u₁ v₁ (X.at H F' N') hr

section
variable {b : Bool} {w : World} {A : Around} {E : Value → Shared → Prop} {s s₀ : Shared} {L : Addr} {l : List (Str × Value)} {N : List (Addr × Obj)} {i j : Nat} {t u : Tok} {Q : Value → Shared → Prop}
theorem mod2_In (X : In b s₀ L l N s) (h : ∀ t' s', In b s₀ L l N s' → Q (.int ((i % 2 : Nat) : Int) t') s') : wpAny (model pw w) A (binaryOp .Mod (.int (i : Nat) t) (.int 2 u)) Q E s :=
  mod_int' (by decide) (by
    have := h s.toks _ (X.toks (s.toks + 1))
    rw [show ((i : Nat) : Int).fmod 2 = ((i % 2 : Nat) : Int) by rw [Int.fmod_eq_emod_of_nonneg _ (by decide)]; omega]
    exact this)
theorem div2_In (X : In b s₀ L l N s) (hi : i ≤ 100000) (h : ∀ t' s', In b s₀ L l N s' → Q (.int ((i / 2 : Nat) : Int) t') s') : wpAny (model pw w) A (binaryOp .FloorDiv (.int (i : Nat) t) (.int 2 u)) Q E s :=
  floordiv_int (by decide) (by
    have := h s.toks _ (X.toks (s.toks + 1))
    rw [show ((i : Nat) : Int).fdiv 2 = ((i / 2 : Nat) : Int) by rw [Int.fdiv_eq_ediv_of_nonneg _ (by decide)]; omega]
    exact this) (Or.inl (PyProof.noPylong_small (by omega)))
theorem add_tx {cs ds : List Nat} (X : In b s₀ L l N s) (h1 : cs.length ≤ 10000) (h2 : ds.length ≤ 10000) (h : ∀ t' s', In b s₀ L l N s' → Q (.str (tx (cs ++ ds)) t') s') : wpAny (model pw w) A (binaryOp .Add (.str (tx cs) t) (.str (tx ds) u)) Q E s :=
  add_str (fun t' tk => by
    have := h t' _ (X.toks tk)
    have e : (tx cs ++ tx ds : Str) = tx (cs ++ ds) := by show Str.mk (cs.toArray ++ ds.toArray) = _; simp
    rw [e]; exact this) (by rw [tx_length, tx_length]; exact Nat.le_trans (Nat.add_le_add h1 h2) (by decide))
end
end WC

set_option maxHeartbeats 4000000
namespace WC
open PySem PySem.W PySem.Calls PyProof.Rows
open PyProof

noncomputable def lendHit (ws : List Nat) (k j : Nat) : Bool := ws.getD j 0 == 41 && ((ws.take j).count 34 % 2 == 0 && checkP ((ws.drop k).take (j + 1 - k)))
noncomputable def lendOut (ws : List Nat) (k j : Nat) : Nat := if checkP ((ws.drop (k + 1)).take (j + 1 - (k + 1)) ++ [40]) then k else j + 1
noncomputable def lendGo (ws : List Nat) (k : Nat) : Nat → Nat → Nat
  | 0, _ => k
  | m + 1, j => if lendHit ws k j then lendOut ws k j else lendGo ws k m (j + 1)
noncomputable def lendP (ws : List Nat) (k : Nat) : Nat := lendGo ws k (ws.length - (k + 1)) (k + 1)

noncomputable abbrev lendL (ws : List Nat) (k : Nat) (t t1 : Tok) : List (Str × Value) := [(Str.ofString "written", .str (tx ws) t), (Str.ofString "k", .int (k : Nat) t1)]
theorem lendL_nd (ws : List Nat) (k : Nat) (t t1 : Tok) : ((lendL ws k t t1).map (·.1)).Nodup := by
  show ([Str.ofString "written", Str.ofString "k"] : List Str).Nodup
  decide +kernel
theorem lendL_off (ws : List Nat) (k : Nat) (t t1 : Tok) : ∀ p ∈ lendL ws k t t1, p.1 ≠ Str.ofString "j" := by
  have : ∀ x ∈ ((lendL ws k t t1).map (·.1)), x ≠ Str.ofString "j" := by
    show ∀ x ∈ ([Str.ofString "written", Str.ofString "k"] : List Str), x ≠ Str.ofString "j"
    decide +kernel
  exact fun p hp => this _ (List.mem_map.mpr ⟨p, hp, rfl⟩)
noncomputable def lendJ (ws : List Nat) (k : Nat) (t t1 : Tok) (i : Nat) (l : List (Str × Value)) (N : List (Addr × Obj)) : Prop :=
  N = [] ∧ l = lendL ws k t t1 ∧ lendP ws k = lendGo ws k (ws.length - (k + 1) - i) (k + 1 + i)

theorem c_lend {w : World} {os : OsState} {A : Around} {s : Shared} {E : Value → Shared → Prop} {t t1 : Tok} {n : Nat} (C : Cx w os s.heap) (R : Room A (n + 4)) (ws : List Nat) (k : Nat) (h92 : 92 ∉ ws) (hsz : ws.length ≤ 500) (hk : k < ws.length) :
    wpAny (model pw w) A (PySem.call (.ref 148) [.str (tx ws) t, .int (k : Nat) t1]) (fun v s' => (∃ t', v = .int (lendP ws k : Nat) t') ∧ KpG false s s') E s := by
  refine enter_lend C R fun h₁ F C₁ R₁ => ?_
  have X : In false s s.heap.objs.size (lendL ws k t t1) [] { s with heap := h₁, toks := s.toks + 2 } := In.start F (by show ([Str.ofString "written", Str.ofString "k"] : List Str).Nodup; decide +kernel) rfl
  have D := C
  refine wpAny_execs_cons (wpAny_For (Call_ (ev_blt (w := w) (os := os) D X (gl_range w os) bb_range nn_range (callWith_type1 ?_ rfl (by kernel_rfl!)))))
  refine spliced_more (wpAny_BinOp (ev_local X (.tail _ (.head _)) (ev_int X fun ta sa Xa => inc_In Xa fun tb sb Xb => ?_)))
  refine spliced_more (Call_ (ev_blt (w := w) (os := os) D Xb (gl_len w os) bb_len nn_len (callWith_builtin1 (spliced_more (ev_local Xb (.head _) (spliced_none (len_tx Xb (by omega) fun tc sc Xc => ?_)))))))
  refine spliced_none (range_In Xc fun r sd t₁ u₁ v₁ Xd hr => ?_)
  refine for_rangeE R₁.handled Xd (k + 1) ws.length (by omega) (by omega) hr (lendJ ws k t t1) ⟨rfl, rfl, rfl⟩ (lendL_off ws k t t1) ?_ ?_ rfl (by kernel_rfl!) (by kernel_rfl!)
  · rintro i t' l₁ N₁ own g s₇ hi ⟨rfl, rfl, hgo⟩ hN hl hown X₇ up
    have hj : k + 1 + i < ws.length := by omega
    have Dg : Cx w os (base s g).heap := D
    rw [show ws.length - (k + 1) - i = (ws.length - (k + 1) - (i + 1)) + 1 by omega, lendGo] at hgo
    generalize hjj : k + 1 + i = j at *
    replace X₇ : In false (base s g) s.heap.objs.size [(Str.ofString "written", .str (tx ws) t), (Str.ofString "k", .int (k : Nat) t1), (Str.ofString "j", .int (j : Nat) t')] own s₇ := X₇
    have miss : lendHit ws k j = false → ∀ s₉, In false (base s g) s.heap.objs.size [(Str.ofString "written", .str (tx ws) t), (Str.ofString "k", .int (k : Nat) t1), (Str.ofString "j", .int (j : Nat) t')] own s₉ →
        ∃ l' N', In false (base s g) s.heap.objs.size l' (N' ++ own) s₉ ∧ lendJ ws k t t1 (i + 1) l' N' ∧ (∀ p ∈ l', p.1 ≠ Str.ofString "j") ∧ N'.map (·.1) = ([] : List (Addr × Obj)).map (·.1) := fun hm s₉ X₉ =>
      ⟨_, [], X₉.names (l' := lendL ws k t t1) (fun p hp => List.mem_append_left [_] hp) (lendL_nd ..), ⟨rfl, rfl, by rw [hgo, hm, if_neg Bool.false_ne_true, ← hjj]; rfl⟩, lendL_off ws k t t1, rfl⟩
    refine wpAny_execs_cons (wpAny_If (isTrue_and (wpAny_isTrue_Compare1 (Subscript_ (ev_local X₇ (.head _) (ev_local X₇ (.tail _ (.tail _ (.head _))) (item_tx X₇ hj (by omega) fun ta sa Xa => ev_str Xa fun tb sb Xb => eq_str (wpAny_truthy_bool ?_))))))))
    rw [str1_beq ws[j] (Str.ofString ")") (d := 41)]
    have hgetD : ws.getD j 0 = ws[j] := by simp [hj]
    by_cases h1 : ws[j] = 41
    case neg =>
      rw [show (ws[j] == 41) = false by simpa using h1]
      simp only [Bool.false_eq_true, if_false]
      exact wpAny_execs_nil (wpAny_execs_nil (miss (by rw [lendHit, hgetD, show (ws[j] == 41) = false by simpa using h1]; rfl) sb Xb))
    rw [show (ws[j] == 41) = true by simpa using h1]
    simp only [if_true]
    refine isTrue_and (wpAny_isTrue_Compare1 (wpAny_BinOp (MethodCall_ (Subscript_ (ev_local Xb (.head _) (wpAny_Slice (evalPart_none_step (evalPart_some_step (ev_local Xb (.tail _ (.tail _ (.head _))) (evalPart_none_step (sl_ns Xb (Nat.le_of_lt hj) (by omega) fun tc sc Xc => GM.count ?_)))))))))))
    refine callWith_method1 (spliced_more (ev_str Xc fun td se Xe => spliced_none (cnt_tx str34 Xe fun tf sf Xf => ev_int Xf fun tg sg Xg => mod2_In Xg fun th sh Xh => ev_int Xh fun ti si Xi => eq_int (wpAny_truthy_bool ?_))))
    by_cases h2 : (ws.take j).count 34 % 2 = 0
    case neg =>
      rw [show ((((ws.take j).count 34 % 2 : Nat) : Int) == 0) = false by simp; omega]
      simp only [Bool.false_eq_true, if_false]
      exact wpAny_execs_nil (wpAny_execs_nil (miss (by simp [lendHit, h2]) si Xi))
    rw [show ((((ws.take j).count 34 % 2 : Nat) : Int) == 0) = true by simp; omega]
    simp only [if_true]
    refine isTrue_and (isTrue_plain (Call_ (ev_top Dg Xi (gl_check w os) (callWith_def (o := o35_5 w.params) rfl (spliced_more (Subscript_ (ev_local Xi (.head _) (wpAny_Slice ?_))))))))
    refine evalPart_some_step (ev_local Xi (.tail _ (.head _)) (evalPart_some_step (wpAny_BinOp (ev_local Xi (.tail _ (.tail _ (.head _))) (ev_int Xi fun tj sj Xj => inc_In Xj fun tk sk Xk => evalPart_none_step (sl_ss Xk (by omega) (by omega) (by omega) fun tl sl Xl => ?_))))))
    refine spliced_none ⟨(Xl.cx Dg).at35, ?_⟩
    refine wpAny_mono (c_check (n := n) (E := fun _ _ => False) (Xl.cx Dg) R₁ _ (fun h => h92 (List.mem_of_mem_drop (List.mem_of_mem_take h))) (by simp; omega)) (fun v sm h => ?_) fun _ _ e => e
    obtain ⟨rfl, km⟩ := h
    have Xm := Xl.after km
    refine wpAny_truthy_bool ?_
    cases h3 : checkP ((ws.drop k).take (j + 1 - k)) with
    | false =>
      simp only [Bool.false_eq_true, if_false]
      exact wpAny_execs_nil (wpAny_execs_nil (miss (by rw [lendHit, h3, Bool.and_false, Bool.and_false]) sm Xm))
    | true =>
      simp only [if_true]
      refine isTrue_and_nil ?_
      simp only [if_true]
      have hit : lendP ws k = lendOut ws k j := by
        rw [hgo, if_pos]
        rw [lendHit, hgetD, h1, h2, h3]; rfl
      refine wpAny_execs_cons (wpAny_Return_some (IfExp_ (isTrue_plain (Call_ (ev_top Dg Xm (gl_check w os) (callWith_def (o := o35_5 w.params) rfl (spliced_more (wpAny_BinOp (Subscript_ (ev_local Xm (.head _) (wpAny_Slice ?_)))))))))))
      refine evalPart_some_step (wpAny_BinOp (ev_local Xm (.tail _ (.head _)) (ev_int Xm fun tn sn Xn => inc_In Xn fun to so Xo => evalPart_some_step (wpAny_BinOp (ev_local Xo (.tail _ (.tail _ (.head _))) (ev_int Xo fun tp sp Xp => inc_In Xp fun tq sq Xq => evalPart_none_step (sl_ss Xq (by omega) (by omega) (by omega) fun tr sr Xr => ?_)))))))
      have e40 : Str.ofString "(" = tx [40] := by decide +kernel
      refine ev_str Xr fun tu su Xu => ?_
      rw [e40]
      refine add_tx Xu (by simp; omega) (by simp) fun tv sv Xv => ?_
      refine spliced_none ⟨(Xv.cx Dg).at35, ?_⟩
      refine wpAny_mono (c_check (n := n) (E := fun _ _ => False) (Xv.cx Dg) R₁ _ (fun h => ?_) (by simp; omega)) (fun v sw h => ?_) fun _ _ e => e
      · rcases List.mem_append.mp h with h | h
        · exact h92 (List.mem_of_mem_drop (List.mem_of_mem_take h))
        · exact absurd (List.mem_singleton.mp h) (by decide)
      obtain ⟨rfl, kw⟩ := h
      have Xw := Xv.after kw
      refine wpAny_truthy_bool ?_
      rw [hit, lendOut]
      cases h4 : checkP ((ws.drop (k + 1)).take (j + 1 - (k + 1)) ++ [40]) with
      | true =>
        simp only [if_true]
        exact ev_local Xw (.tail _ (.head _)) ⟨⟨t1, rfl⟩, (up _ _ _ Xw).kp⟩
      | false =>
        simp only [Bool.false_eq_true, if_false]
        exact wpAny_BinOp (ev_local Xw (.tail _ (.tail _ (.head _))) (ev_int Xw fun tx' sx Xx => inc_In Xx fun ty sy Xy => ⟨⟨ty, rfl⟩, (up _ _ _ Xy).kp⟩))
  · rintro l' N' s₇ X₇ ⟨rfl, rfl, hgo⟩ hN
    refine wpAny_execs_cons (wpAny_Return_some (ev_local X₇ (.tail _ (.head _)) ⟨⟨t1, ?_⟩, X₇.kp⟩))
    rw [hgo, Nat.sub_self]; rfl
end WC

set_option maxHeartbeats 4000000
namespace WC
open PySem PySem.W PySem.Calls PyProof.Rows
open PyProof

theorem for_pairG {b : Bool} {w : World} {A : Around} {s s₀ : Shared} {nm : Str} {sc : Scope} {L a : Addr} {cd : Value} {l : List (Str × Value)} {N : List (Addr × Obj)} {xi xc : Str} {pk pv pt : Pos} {x1 : Nat} {body : List Stmt}
    {R : Result → Shared → Prop} {I : Addr} {fp : Shared → List Addr} {wr : Addr → Prop} {gi : Option Nat} {n : Nat} {P : Nat → Value → Value → Prop} {S : Nat → Shared → Prop} {Mid : Nat → Addr → Shared → Prop}
    (hh : A.handled = none) (W : Src2 s₀.heap w A I fp wr gi n P S Mid) (X : In b s₀ L l N s) (hst : S 0 s) (ap : Apart b s₀ L [] fp wr gi) (led : ∀ q ∈ N, ¬ wr q.1)
    (J : Nat → List (Str × Value) → List (Addr × Obj) → Prop) (h0 : J 0 l N) (hl0 : ∀ p ∈ l, p.1 ≠ xi ∧ p.1 ≠ xc)
    (step : ∀ i v0 v1 l₁ N₁ own g s₁ s, i < n → P i v0 v1 → J i l₁ N₁ → (∀ q ∈ N₁, ¬ wr q.1) → (∀ p ∈ l₁, p.1 ≠ xi ∧ p.1 ≠ xc) → (∀ p ∈ own, p.1 ∈ fp s₁) → S (i + 1) s₁ → In b (base s₀ g) L (l₁ ++ [(xi, v0)] ++ [(xc, v1)]) (N₁ ++ own) s →
      (∀ l' N' s', In b (base s₀ g) L l' N' s' → In b s₀ L l' N' s') → (∀ a ∈ fp s₁, ∀ o, s₁.heap.get? a = some o → ∀ l' N' s', In b (base s₀ g) L l' (N' ++ own) s' → s'.heap.get? a = some o) →
      wpAny (model pw w) A (execs body (envOf nm sc L a cd)) (fun f s' => match f with
        | .next | .cont => ∃ l' N', In b (base s₀ g) L l' (N' ++ own) s' ∧ J (i + 1) l' N' ∧ (∀ p ∈ l', p.1 ≠ xi ∧ p.1 ≠ xc) ∧ (∀ q ∈ N', ¬ wr q.1)
        | .brk => R (.ok .next) s'
        | .ret v => R (.ok (.ret v)) s') (fun _ _ => False) s)
    (hR : ∀ l' N' s', In b s₀ L l' N' s' → J n l' N' → R (.ok .next) s')
    (hne : xi ≠ xc := by decide +kernel) (hk : sc.kind = .function := by kernel_rfl!) (hxi : (envOf nm sc L a cd).kindOf xi = some .local := by kernel_rfl!) (hxc : (envOf nm sc L a cd).kindOf xc = some .local := by kernel_rfl!) :
    codeAny (model pw w) A (.forLoop (.Tuple [.Name xi pk, .Name xc pv] x1 pt) (.ref I) body [] (envOf nm sc L a cd)) R s := by
  refine codeAny_forLoop_any (fun k s' => ∃ l' N' i, S i s' ∧ In b s₀ L l' N' s' ∧ (∀ q ∈ N', ¬ wr q.1) ∧ J i l' N' ∧ (∀ p ∈ l', p.1 ≠ xi ∧ p.1 ≠ xc) ∧ i ≤ n ∧ k = n + 1 - i) ?_ (n + 1)
    ⟨l, N, 0, hst, X, led, h0, hl0, Nat.zero_le _, rfl⟩
  rintro k s' ⟨l', N', i, hS, X', hN, hJ, hl', hi, rfl⟩
  have ap' : Apart b s₀ L (N'.map (·.1)) fp wr gi := ⟨ap.Lf, ap.Lw, ap.new, fun a h q => by obtain ⟨p, hp, rfl⟩ := List.mem_map.mp q; exact hN p hp h, ap.gen⟩
  by_cases hlt : i < n
  · refine W.item i _ _ _ hlt hS fun T v0 v1 s₁ hP hT hM m₁ => ?_
    refine W.go _ x1 pt i T _ _ _ hM fun s₂ hS₂ m₂ kT => ?_
    have X₂ := (X'.mv ap' m₁).mv ap' m₂
    have hT₂ : s₂.heap.IsTuple T #[v0, v1] := hT.at fun o e => kT o e
    refine wpAny_assign_Tuple hh hT₂ rfl rfl fun h₃ hx₃ => ?_
    replace hx₃ : Heap.ExtBut s₂.heap.objs.size s₂.heap h₃ := hx₃
    have up₃ : ∀ b o, s₂.heap.get? b = some o → h₃.get? b = some o := fun b o x => hx₃ b o (Nat.ne_of_lt (Heap.lt_size x)) x
    have X₃ : In b s₀ L l' N' { s₂ with heap := h₃ } := X₂.keeps up₃ rfl rfl (.refl _ _)
    have hS₃ : S (i + 1) { s₂ with heap := h₃ } := W.frame _ _ _ hS₂ X₃.kp.keep (fun a _ o e => up₃ a o e) fun _ _ _ h => h
    have X₄ := X₃.rebase.own (fp := fp { s₂ with heap := h₃ }) (ap.Lf _)
    show wpAny _ A (do holding [v1] (assign (.Name xi pk) _ v0); do holding [] (assign (.Name xc pv) _ v1); pure ()) _ _ _
    refine wpAny_bind (wpAny_holding (wpAny_assign_Name (store_local X₄ (Upd1.new fun p hp => (hl' p hp).1) (fun s₅ X₅ => ?_) hk hxi)))
    refine wpAny_bind (wpAny_holding (wpAny_assign_Name (store_local X₅ (Upd1.new fun p hp => ?_) (fun s₆ X₆ => wpAny_pure ?_) hk hxc)))
    · rcases List.mem_append.mp hp with hp | hp
      · exact (hl' p hp).2
      · rw [List.mem_singleton.mp hp]; exact hne
    · refine wpAny_mono (step i v0 v1 l' N' _ _ { s₂ with heap := h₃ } s₆ hlt hP hJ hN hl' (fun p hp => ownOf_sub p hp) hS₃ X₆ (fun _ _ _ I' => I'.unbase (s := { s₂ with heap := h₃ }) X₃.gens) fun a ha o e l'' N'' s'' I'' => In.held (s₀ := base s₀ s₂.gens) (s₁ := { s₂ with heap := h₃ }) (N := N') X₃.rebase I'' a ha o e) (fun f s₇ h₇ => ?_) fun _ _ e => e.elim
      have fin : (∃ l'' N'', In b (base s₀ s₂.gens) L l'' (N'' ++ ownOf s₀.heap (fp { s₂ with heap := h₃ }) h₃) s₇ ∧ J (i + 1) l'' N'' ∧ (∀ p ∈ l'', p.1 ≠ xi ∧ p.1 ≠ xc) ∧ (∀ q ∈ N'', ¬ wr q.1)) →
          ∃ m, m < n + 1 - i ∧ ∃ l' N' i, S i s₇ ∧ In b s₀ L l' N' s₇ ∧ (∀ q ∈ N', ¬ wr q.1) ∧ J i l' N' ∧ (∀ p ∈ l', p.1 ≠ xi ∧ p.1 ≠ xc) ∧ i ≤ n ∧ m = n + 1 - i := by
        rintro ⟨l'', N'', X₇, hJ₇, hl₇, hN₇⟩
        refine ⟨n + 1 - (i + 1), by omega, l'', N'', i + 1, ?_, (X₇.unbase (s := { s₂ with heap := h₃ }) X₃.gens).left, hN₇, hJ₇, hl₇, hlt, rfl⟩
        refine W.frame _ _ _ hS₃ X₇.kp.keep ?_ ?_
        · exact In.held (s₀ := base s₀ s₂.gens) (s₁ := { s₂ with heap := h₃ }) (N := N') X₃.rebase X₇
        · intro k hk x hx
          obtain ⟨rfl, _⟩ := ap.gen k hk
          exact X₇.gens.1 k x hx
      cases f with
      | next => exact fin h₇
      | cont => exact fin h₇
      | brk => exact h₇
      | ret v => exact h₇
  · have hin : i = n := by omega
    subst hin
    refine W.done _ _ _ hS fun s₁ m₁ => wpAny_execs_nil ?_
    exact hR l' N' s₁ (X'.mv ap' m₁) hJ


/-- a loop over enumerate of a text -/
theorem for_enum {b : Bool} {w : World} {A : Around} {E : Value → Shared → Prop} {s s₀ : Shared} {nm : Str} {sc : Scope} {L a : Addr} {cd : Value} {l : List (Str × Value)} {N : List (Addr × Obj)} {xi xc : Str} {pk pv pt : Pos} {x1 : Nat} {body : List Stmt}
    {R : Result → Shared → Prop} (hh : A.handled = none) (X : In b s₀ L l N s) (x : Str) (t : Tok)
    (J : Nat → List (Str × Value) → List (Addr × Obj) → Prop) (h0 : J 0 l N) (hl0 : ∀ p ∈ l, p.1 ≠ xi ∧ p.1 ≠ xc)
    (step : ∀ (ok : Addr → Prop) i t' c u l₁ N₁ own g s, x.cps[i]? = some c → J i l₁ N₁ → (∀ q ∈ N₁, ok q.1) → (∀ p ∈ l₁, p.1 ≠ xi ∧ p.1 ≠ xc) → (∀ D, ok D → ∀ p ∈ own, p.1 ≠ D) → In b (base s₀ g) L (l₁ ++ [(xi, .int (i : Nat) t')] ++ [(xc, .str ⟨#[c]⟩ u)]) (N₁ ++ own) s →
      (∀ l' N' s', In b (base s₀ g) L l' N' s' → In b s₀ L l' N' s') → (∀ l' N' s', In b (base s₀ g) L l' (N' ++ own) s' → ok s'.heap.objs.size) →
      wpAny (model pw w) A (execs body (envOf nm sc L a cd)) (fun f s' => match f with
        | .next | .cont => ∃ l' N', In b (base s₀ g) L l' (N' ++ own) s' ∧ J (i + 1) l' N' ∧ (∀ p ∈ l', p.1 ≠ xi ∧ p.1 ≠ xc) ∧ (∀ q ∈ N', ok q.1)
        | .brk => R (.ok .next) s'
        | .ret v => R (.ok (.ret v)) s') (fun _ _ => False) s)
    (hR : ∀ l' N' s', In b s₀ L l' N' s' → J x.cps.size l' N' → R (.ok .next) s')
    (hne : xi ≠ xc := by decide +kernel) (hk : sc.kind = .function := by kernel_rfl!) (hxi : (envOf nm sc L a cd).kindOf xi = some .local := by kernel_rfl!) (hxc : (envOf nm sc L a cd).kindOf xc = some .local := by kernel_rfl!) :
    wpAny (model pw w) A (call (.type "enumerate") [.str x t]) (fun xv s₁ => wpAny (model pw w) A (pyIter xv) (fun itv s₂ => codeAny (model pw w) A (.forLoop (.Tuple [.Name xi pk, .Name xc pv] x1 pt) itv body [] (envOf nm sc L a cd)) R s₂) E s₁) E s := by
  refine call_enumerate_str fun h' he' hit hsz hk' => ?_
  refine wpAny_pyIter_enum he' ?_
  obtain ⟨m, F, H⟩ := X.fr
  have hL : L < s.heap.objs.size := F.ns.lt
  have hLo : s₀.heap.objs.size ≤ L := F.above
  have X₁ := X.keeps (s' := { s with heap := h' }) hk' rfl rfl (.refl _ _)
  obtain ⟨Mid, W⟩ := src_enum_str (hb := s₀.heap) (w := w) (A := A) hh (s.heap.objs.size + 1) s.heap.objs.size (Nat.succ_ne_self _) x t
  refine for_pairG hh W X₁ ⟨⟨_, by simpa using he'⟩, hit⟩ ?_ ?_ J h0 hl0 ?_ hR hne hk hxi hxc
  · refine Apart.list (not_pair (Nat.ne_of_lt (Nat.lt_succ_of_lt hL)) (Nat.ne_of_lt hL)) (fun _ h => h) (fun a h => ?_) fun a h q => nomatch q
    exact Heap.get?_none_of_le (Nat.le_trans (Nat.le_of_lt (Nat.lt_of_le_of_lt hLo (Nat.lt_succ_self L))) (pair_gt (Nat.lt_succ_of_lt hL) hL h))
  · intro q hq h
    have lt := Heap.lt_size (X.nw q hq).1
    rcases List.mem_cons.mp h with e | e
    · exact Nat.ne_of_lt (Nat.lt_succ_of_lt lt) e
    · exact Nat.ne_of_lt lt (List.mem_singleton.mp e)
  · rintro i v0 v1 l' N' own g s₁ s₂ hi ⟨t', c, u, rfl, hc, rfl⟩ hJ hN hl' hown hS X₂ up held
    obtain ⟨⟨old, hE⟩, hI⟩ := hS
    obtain ⟨oI, hI, _⟩ := hI
    refine step (fun D => D ∉ [s.heap.objs.size + 1, s.heap.objs.size]) i t' c u l' N' own g s₂ hc hJ hN hl' (fun D hD p hp e => hD (e ▸ hown p hp)) X₂ up fun l'' N'' s'' I'' h => ?_
    have h1 := Heap.lt_size (held _ (List.mem_cons_self ..) _ hE l'' N'' s'' I'')
    have h2 := Heap.lt_size (held _ (List.mem_cons_of_mem _ (List.mem_cons_self ..)) _ hI l'' N'' s'' I'')
    rcases List.mem_cons.mp h with e | e
    · exact Nat.ne_of_gt h1 e
    · exact Nat.ne_of_gt h2 (List.mem_singleton.mp e)
end WC

set_option maxHeartbeats 4000000
namespace WC
open PySem PySem.W PySem.Calls PyProof.Rows
open PyProof

noncomputable abbrev tupO (p : Nat × Nat) (t u : Tok) (n : Nat) : Obj := { cls := .type "tuple", data := .seq #[.int (p.1 : Nat) t, .int (p.2 : Nat) u] n }
/-- a tuple of two numbers, in the ledger -/
noncomputable def PairN (N : List (Addr × Obj)) (v : Value) (p : Nat × Nat) : Prop := ∃ T t u n, v = .ref T ∧ (T, tupO p t u n) ∈ N
noncomputable def PairsN (N : List (Addr × Obj)) : List Value → List (Nat × Nat) → Prop
  | [], [] => True
  | v :: vs, p :: ps => PairN N v p ∧ PairsN N vs ps
  | _, _ => False
theorem PairN.mono {N N' : List (Addr × Obj)} {v : Value} {p : Nat × Nat} (h : PairN N v p) (k : ∀ q ∈ N, q ∈ N') : PairN N' v p := let ⟨T, t, u, n, e, m⟩ := h; ⟨T, t, u, n, e, k _ m⟩
theorem PairsN.mono {N N' : List (Addr × Obj)} (k : ∀ q ∈ N, q ∈ N') : ∀ {vs : List Value} {ps : List (Nat × Nat)}, PairsN N vs ps → PairsN N' vs ps
  | [], [], _ => trivial
  | [], _ :: _, h => h.elim
  | _ :: _, [], h => h.elim
  | _ :: _, _ :: _, h => ⟨h.1.mono k, h.2.mono k⟩
theorem PairsN.length {N : List (Addr × Obj)} : ∀ {vs : List Value} {ps : List (Nat × Nat)}, PairsN N vs ps → vs.length = ps.length
  | [], [], _ => rfl
  | [], _ :: _, h => h.elim
  | _ :: _, [], h => h.elim
  | _ :: _, _ :: _, h => by simp [h.2.length]
theorem PairsN.snoc {N : List (Addr × Obj)} {v : Value} {p : Nat × Nat} (h : PairN N v p) : ∀ {vs : List Value} {ps : List (Nat × Nat)}, PairsN N vs ps → PairsN N (vs ++ [v]) (ps ++ [p])
  | [], [], _ => ⟨h, trivial⟩
  | [], _ :: _, h => h.elim
  | _ :: _, [], h => h.elim
  | _ :: _, _ :: _, k => ⟨k.1, k.2.snoc h⟩
theorem PairsN.at {N : List (Addr × Obj)} : ∀ {vs : List Value} {ps : List (Nat × Nat)} (i : Nat), PairsN N vs ps → i < ps.length → PairN N (vs.getD i .none) (ps.getD i (0, 0))
  | [], [], _, _, h => by simp at h
  | [], _ :: _, _, h, _ => h.elim
  | _ :: _, [], _, h, _ => h.elim
  | _ :: _, _ :: _, 0, h, _ => h.1
  | _ :: _, _ :: _, i + 1, h, hi => by
    have := h.2.at i (by simpa using hi)
    simpa using this
theorem PairsN.pick {N : List (Addr × Obj)} {vs : List Value} {ps : List (Nat × Nat)} (h : PairsN N vs ps) : ∀ (is : List Nat), (∀ i ∈ is, i < ps.length) → PairsN N (is.map fun i => vs.getD i .none) (is.map fun i => ps.getD i (0, 0))
  | [], _ => trivial
  | i :: is, hi => ⟨h.at i (hi i (.head _)), h.pick is fun j hj => hi j (.tail _ hj)⟩

/-- a run of the sort, its answers known -/
noncomputable def kasQ {α : Type} (n : Nat) (lt : Nat → Nat → Bool) : KasT α → Option α
  | .ret a => some a
  | .ask i j k => if i < n ∧ j < n then kasQ n lt (k (lt i j)) else none
theorem kasQ_wp {α : Type} {n : Nat} {lt : Nat → Nat → Bool} {cmp : Nat → Nat → (Bool → Shared → Prop) → Shared → Prop} {I : Shared → Prop}
    (hc : ∀ i j (C : Bool → Shared → Prop) s, i < n → j < n → I s → (∀ s', I s' → C (lt i j) s') → cmp i j C s) {Q : α → Shared → Prop} : ∀ (t : KasT α) (r : α) (s : Shared), kasQ n lt t = some r → I s → (∀ s', I s' → Q r s') → t.kasWp cmp Q s
  | .ret a, r, s, e, hI, h => by cases e; exact h s hI
  | .ask i j k, r, s, e, hI, h => by
    have e' : (if i < n ∧ j < n then kasQ n lt (k (lt i j)) else none) = some r := e
    by_cases hij : i < n ∧ j < n
    · rw [if_pos hij] at e'
      exact hc i j _ s hij.1 hij.2 hI fun s' hI' => kasQ_wp hc (k (lt i j)) r s' e' hI' h
    · rw [if_neg hij] at e'; cases e'

noncomputable def pairLt (a b : Nat × Nat) : Bool := if a.1 = b.1 then (if a.2 = b.2 then false else decide (a.2 < b.2)) else decide (a.1 < b.1)
noncomputable def sortIx (ps : List (Nat × Nat)) : Option (Array Nat) := kasQ ps.length (fun i j => pairLt (ps.getD i (0, 0)) (ps.getD j (0, 0))) (kas_sort ps.length)
noncomputable def sortP (ps : List (Nat × Nat)) : Option (List (Nat × Nat)) :=
  match sortIx ps with
  | some p => if p.toList.all (· < ps.length) then some (p.toList.map fun i => ps.getD i (0, 0)) else none
  | none => none
theorem sortP_ix {ps qs : List (Nat × Nat)} (h : sortP ps = some qs) : ∃ p, sortIx ps = some p ∧ (∀ i ∈ p.toList, i < ps.length) ∧ qs = p.toList.map fun i => ps.getD i (0, 0) := by
  unfold sortP at h
  cases e : sortIx ps with
  | none => rw [e] at h; cases h
  | some p =>
    rw [e] at h
    simp only at h
    split at h
    · rename_i hall
      exact ⟨p, rfl, fun i hi => by simpa using List.all_eq_true.mp hall i hi, (Option.some.inj h).symm⟩
    · cases h

theorem pair_lt {w : World} {A : Around} {s : Shared} {h₀ : Heap} {L : Addr} {N : List (Addr × Obj)} {v1 v2 : Value} {p q : Nat × Nat} {C : Bool → Shared → Prop} (nw : News h₀ L s.heap N) (h1 : PairN N v1 p) (h2 : PairN N v2 q) (h : C (pairLt p q) s) :
    wpAny (model pw w) A (keyLt' (tuples' true) v1 v2) C (fun _ _ => False) s := by
  obtain ⟨T1, t1, u1, n1, rfl, m1⟩ := h1
  obtain ⟨T2, t2, u2, n2, rfl, m2⟩ := h2
  refine kat_lt (nw _ m1).1 rfl (nw _ m2).1 rfl ?_
  refine kat_cons (wpAny_eqBool_int ?_)
  by_cases e1 : p.1 = q.1
  · rw [show (((p.1 : Nat) : Int) == ((q.1 : Nat) : Int)) = true by simp [e1]]
    refine kat_yes (kat_cons (wpAny_eqBool_int ?_))
    by_cases e2 : p.2 = q.2
    · rw [show (((p.2 : Nat) : Int) == ((q.2 : Nat) : Int)) = true by simp [e2]]
      refine kat_yes (kat_nil ?_)
      rw [pairLt, if_pos e1, if_pos e2] at h
      exact h
    · rw [show (((p.2 : Nat) : Int) == ((q.2 : Nat) : Int)) = false by simp; omega]
      refine kat_no ?_
      refine kat_one _ _ (lt_int ?_)
      rw [pairLt, if_pos e1, if_neg e2] at h
      rw [show decide (((p.2 : Nat) : Int) < ((q.2 : Nat) : Int)) = decide (p.2 < q.2) by simp]
      exact h
  · rw [show (((p.1 : Nat) : Int) == ((q.1 : Nat) : Int)) = false by simp; omega]
    refine kat_no (oneLt_int ?_)
    rw [pairLt, if_neg e1] at h
    rw [show decide (((p.1 : Nat) : Int) < ((q.1 : Nat) : Int)) = decide (p.1 < q.1) by simp]
    exact h

theorem PairsN.tups {h₀ : Heap} {L : Addr} {h : Heap} {N : List (Addr × Obj)} (nw : News h₀ L h N) : ∀ {vs : List Value} {ps : List (Nat × Nat)}, PairsN N vs ps → ∃ fs : List Value, KatTups h vs fs ∧ fs.length = ps.length ∧ ∀ v ∈ fs, ∃ (a : Int) (t : Tok), v = .int a t
  | [], [], _ => ⟨[], .nil, rfl, fun _ h => nomatch h⟩
  | [], _ :: _, h => h.elim
  | _ :: _, [], h => h.elim
  | v :: vs, p :: ps, k => by
    obtain ⟨fs, h1, h2, h3⟩ := k.2.tups nw
    obtain ⟨T, t, u, n, rfl, m⟩ := k.1
    refine ⟨.int (p.1 : Nat) t :: fs, .cons (nw _ m).1 rfl rfl rfl h1, by simp [h2], fun v hv => ?_⟩
    rcases List.mem_cons.mp hv with rfl | hv
    · exact ⟨_, _, rfl⟩
    · exact h3 v hv

theorem sorted_pairs {b : Bool} {w : World} {A : Around} {E : Value → Shared → Prop} {s s₀ : Shared} {L : Addr} {l : List (Str × Value)} {N : List (Addr × Obj)} {D : Addr} {vs : List Value} {ps qs : List (Nat × Nat)} {Q : Value → Shared → Prop}
    (X : In b s₀ L l N s) (hD : s.heap.IsList D vs.toArray) (hp : PairsN N vs ps) (h2 : 2 ≤ ps.length) (h64 : ps.length < 64) (hs : sortP ps = some qs)
    (h : ∀ D' vs' e s', In b s₀ L l ((D', listOf (List.toArray vs') e) :: N) s' → PairsN N vs' qs → (∀ q ∈ N, q.1 ≠ D') → Q (.ref D') s') : wpAny (model pw w) A (call (.builtin "sorted") [.ref D]) Q E s := by
  obtain ⟨m, F, H⟩ := X.fr
  have hl := hp.length
  obtain ⟨p, hix, hlt, rfl⟩ := sortP_ix hs
  refine kat_sorted F X.nw hD (by omega) (by omega) fun D' e1 h' F' N' hnew => ?_
  have X' : In b s₀ L l ((D', seqObj "list" #[] e1) :: N) { s with heap := h' } := ⟨⟨m, F', H⟩, X.nd, N', X.os, X.drawn, X.gens⟩
  obtain ⟨fs, t1, t2, t3⟩ := hp.tups (fun q hq => N' q (.tail _ hq))
  refine kat_kind t1 (by omega) (T := .type "int") (fun v hv => ?_) (by decide) ?_
  · obtain ⟨a, t, rfl⟩ := t3 v hv
    exact Looks.of_pure rfl
  · rw [show ((Value.type "int") != (Value.type "tuple")) = true by decide]
    refine kasQ_wp (n := ps.length) (lt := fun i j => pairLt (ps.getD i (0, 0)) (ps.getD j (0, 0))) (I := fun s' => Fr s₀.heap L s'.heap m ∧ In b s₀ L l ((D', seqObj "list" #[] e1) :: N) s') (fun i j C s' hi hj hI hC => ?_) _ p _ (by rw [hl]; exact hix) ⟨F', X'⟩ fun s' ⟨F'', X''⟩ => ?_
    · exact pair_lt hI.2.nw ((hp.mono fun q hq => .tail _ hq).at i hi) ((hp.mono fun q hq => .tail _ hq).at j hj) (hC s' hI)
    · refine KasFin.intro F'' X''.nw (UpdF.head fun q hq => Nat.ne_of_lt (hnew q hq)) fun h3 c F3 N3 => ?_
      exact h D' _ c _ ⟨⟨m, F3, H⟩, X''.nd, N3, X''.os, X''.drawn, X''.gens⟩ (hp.pick p.toList hlt) fun q hq => Nat.ne_of_lt (hnew q hq)
end WC

set_option maxHeartbeats 4000000
namespace WC
open PySem PySem.W PySem.Calls PyProof.Rows
open PyProof

theorem lendGo_le (ws : List Nat) (k : Nat) (hk : k < ws.length) : ∀ (m j : Nat), j + m ≤ ws.length → lendGo ws k m j ≤ ws.length
  | 0, _, _ => Nat.le_of_lt hk
  | m + 1, j, h => by
    rw [lendGo]
    split
    · unfold lendOut; split <;> omega
    · exact lendGo_le ws k hk m (j + 1) (by omega)
theorem lendP_le {ws : List Nat} {k : Nat} (hk : k < ws.length) : lendP ws k ≤ ws.length := lendGo_le ws k hk _ _ (by omega)

noncomputable def toldOne (ws : List Nat) (i : Nat) : Nat × Nat := ((ws.take i).count 34 / 2, (ws.take (lendP ws i)).count 34 / 2)
noncomputable def toldGo (ws : List Nat) : List Nat → Nat → List (Nat × Nat)
  | [], _ => []
  | c :: r, i => if c == 40 && (ws.take i).count 34 % 2 == 0 then toldOne ws i :: toldGo ws r (i + 1) else toldGo ws r (i + 1)
noncomputable def toldList (ws : List Nat) : List (Nat × Nat) := toldGo ws ws 0

theorem Cx.at148 {w : World} {os : OsState} {h : Heap} (C : Cx w os h) : h.get? 148 = some (o148_18 w.params) := C.K _ _ (top_at (by decide) (by kernel_rfl!) (by kernel_rfl!))

noncomputable abbrev toldL (ws : List Nat) (t : Tok) (D : Addr) : List (Str × Value) := [(Str.ofString "written", .str (tx ws) t), (Str.ofString "folders", .ref D)]
theorem toldL_nd (ws : List Nat) (t : Tok) (D : Addr) : ((toldL ws t D).map (·.1)).Nodup := by
  show ([Str.ofString "written", Str.ofString "folders"] : List Str).Nodup
  decide +kernel
theorem toldL_off (ws : List Nat) (t : Tok) (D : Addr) : ∀ p ∈ toldL ws t D, p.1 ≠ Str.ofString "k" ∧ p.1 ≠ Str.ofString "sign" := by
  have : ∀ x ∈ ((toldL ws t D).map (·.1)), x ≠ Str.ofString "k" ∧ x ≠ Str.ofString "sign" := by
    show ∀ x ∈ ([Str.ofString "written", Str.ofString "folders"] : List Str), x ≠ Str.ofString "k" ∧ x ≠ Str.ofString "sign"
    decide +kernel
  exact fun p hp => this _ (List.mem_map.mpr ⟨p, hp, rfl⟩)
noncomputable def toldJ (ws : List Nat) (t : Tok) (D : Addr) (i : Nat) (l : List (Str × Value)) (N : List (Addr × Obj)) : Prop :=
  ∃ vs acc n M, l = toldL ws t D ∧ N = (D, { cls := .type "list", data := .seq (List.toArray vs) n }) :: M ∧ PairsN M vs acc ∧ (∀ q ∈ M, q.1 ≠ D) ∧ acc.length ≤ i ∧ toldList ws = acc ++ toldGo ws (ws.drop i) i

/-- what a call has made -/
noncomputable def Made (s s' : Shared) (M : List (Addr × Obj)) : Prop := ∀ q ∈ M, s'.heap.get? q.1 = some q.2 ∧ s.heap.get? q.1 = none
theorem In.made {b c : Bool} {s₀ s s' : Shared} {L : Addr} {l : List (Str × Value)} {N M : List (Addr × Obj)} (X : In b s₀ L l N s) (k : KpG c s s') (m : Made s s' M) (hbc : (!b || c) = true := by rfl) : In b s₀ L l (M ++ N) s' := by
  have X' := X.after k hbc
  obtain ⟨mm, F, H⟩ := X.fr
  refine ⟨X'.fr, X'.nd, fun p hp => ?_, X'.os, X'.drawn, X'.gens⟩
  rcases List.mem_append.mp hp with hp | hp
  · obtain ⟨h1, h2⟩ := m p hp
    refine ⟨h1, fun e => ?_, ?_⟩
    · obtain ⟨o, _, _, ho, _⟩ := F.ns
      rw [e, ho] at h2; cases h2
    · cases e : s₀.heap.get? p.1 with
      | none => rfl
      | some o => rw [F.keep _ _ e] at h2; cases h2
  · exact X'.nw p hp

theorem c_told {w : World} {os : OsState} {A : Around} {s : Shared} {E : Value → Shared → Prop} {t : Tok} {n : Nat} (C : Cx w os s.heap) (R : Room A (n + 5)) (ws : List Nat) (h92 : 92 ∉ ws) (hsz : ws.length ≤ 500) {qs : List (Nat × Nat)} (h2 : 2 ≤ (toldList ws).length) (h64 : (toldList ws).length < 64) (hs : sortP (toldList ws) = some qs) :
    wpAny (model pw w) A (PySem.call (.ref 155) [.str (tx ws) t]) (fun v s' => ∃ D vs e M, v = .ref D ∧ PairsN M vs qs ∧ Made s s' ((D, listOf (List.toArray vs) e) :: M) ∧ (∀ q ∈ M, q.1 ≠ D) ∧ KpG false s s') E s := by
  refine enter_told C R fun h₁ F C₁ R₁ => ?_
  have X : In false s s.heap.objs.size [(Str.ofString "written", .str (tx ws) t)] [] { s with heap := h₁, toks := s.toks + 1 } := In.start F (by simp) rfl
  have D := C
  refine wpAny_execs_cons (wpAny_Assign_Name (List_ (spliced_none (new_list X fun Da s₁ hDa X₁ => store_local X₁ (.tail (by decide +kernel) .nil) fun s₂ X₂ => ?_))))
  refine wpAny_execs_cons (wpAny_For (Call_ (ev_blt (w := w) (os := os) D X₂ (gl_enumerate w os) bb_enumerate nn_enumerate (callWith_type1 ?_ rfl (by kernel_rfl!)))))
  refine spliced_more (ev_local X₂ (.head _) (spliced_none ?_))
  refine for_enum R₁.handled X₂ (tx ws) t (toldJ ws t Da) ⟨[], [], 0, [], rfl, rfl, trivial, (fun _ h => nomatch h), Nat.le_refl _, rfl⟩ (toldL_off ws t Da) ?_ ?_
  · rintro ok i t' c u l₁ N₁ own g s₇ hc ⟨vs, acc, n', M, rfl, rfl, hp, hM, hai, hgo⟩ hok hl hown X₇ up fresh
    obtain ⟨hd, hi⟩ := drop_at hc
    rw [hd] at hgo
    have Dg : Cx w os (base s g).heap := D
    have okD := hok (Da, _) (.head _)
    replace X₇ : In false (base s g) s.heap.objs.size [(Str.ofString "written", .str (tx ws) t), (Str.ofString "folders", .ref Da), (Str.ofString "k", .int (i : Nat) t'), (Str.ofString "sign", .str ⟨#[c]⟩ u)] ((Da, { cls := .type "list", data := .seq (List.toArray vs) n' }) :: (M ++ own)) s₇ := X₇
    have miss : (c == 40 && (ws.take i).count 34 % 2 == 0) = false → ∀ s₉, In false (base s g) s.heap.objs.size [(Str.ofString "written", .str (tx ws) t), (Str.ofString "folders", .ref Da), (Str.ofString "k", .int (i : Nat) t'), (Str.ofString "sign", .str ⟨#[c]⟩ u)] ((Da, { cls := .type "list", data := .seq (List.toArray vs) n' }) :: (M ++ own)) s₉ →
        ∃ l' N', In false (base s g) s.heap.objs.size l' (N' ++ own) s₉ ∧ toldJ ws t Da (i + 1) l' N' ∧ (∀ p ∈ l', p.1 ≠ Str.ofString "k" ∧ p.1 ≠ Str.ofString "sign") ∧ (∀ q ∈ N', ok q.1) := fun hm s₉ X₉ =>
      ⟨_, (Da, { cls := .type "list", data := .seq (List.toArray vs) n' }) :: M, X₉.names (l' := toldL ws t Da) (fun p hp => List.mem_append_left [_, _] hp) (toldL_nd ..), ⟨vs, acc, n', M, rfl, rfl, hp, hM, by omega, by rw [hgo, toldGo, hm, if_neg Bool.false_ne_true]⟩, toldL_off ws t Da, hok⟩
    refine wpAny_execs_cons (wpAny_If (isTrue_and (wpAny_isTrue_Compare1 (ev_local X₇ (.tail _ (.tail _ (.tail _ (.head _)))) (ev_str X₇ fun ta sa Xa => eq_str (wpAny_truthy_bool ?_))))))
    rw [str1_beq c (Str.ofString "(") (d := 40)]
    by_cases h1 : c = 40
    case neg =>
      rw [show (c == 40) = false by simpa using h1]
      simp only [Bool.false_eq_true, if_false]
      exact wpAny_execs_nil (wpAny_execs_nil (miss (by simp [h1]) sa Xa))
    subst h1
    simp only [beq_self_eq_true, if_true]
    refine isTrue_and (wpAny_isTrue_Compare1 (wpAny_BinOp (MethodCall_ (Subscript_ (ev_local Xa (.head _) (wpAny_Slice (evalPart_none_step (evalPart_some_step (ev_local Xa (.tail _ (.tail _ (.head _))) (evalPart_none_step (sl_ns Xa (Nat.le_of_lt hi) (by omega) fun tc sc Xc => GM.count ?_)))))))))))
    refine callWith_method1 (spliced_more (ev_str Xc fun td se Xe => spliced_none (cnt_tx str34 Xe fun tf sf Xf => ev_int Xf fun tg sg Xg => mod2_In Xg fun th sh Xh => ev_int Xh fun ti si Xi => eq_int (wpAny_truthy_bool ?_))))
    by_cases h2' : (ws.take i).count 34 % 2 = 0
    case neg =>
      rw [show ((((ws.take i).count 34 % 2 : Nat) : Int) == 0) = false by simp; omega]
      simp only [Bool.false_eq_true, if_false]
      exact wpAny_execs_nil (wpAny_execs_nil (miss (by simp [h2']) si Xi))
    rw [show ((((ws.take i).count 34 % 2 : Nat) : Int) == 0) = true by simp; omega]
    simp only [if_true]
    refine isTrue_and_nil ?_
    simp only [if_true]
    refine wpAny_execs_cons (wpAny_Expr (MethodCall_ (ev_local Xi (.tail _ (.head _)) (Calls.getMethod_list_append (Xi.nw (Da, _) (.head _)).1 rfl rfl ?_))))
    refine callWith_method1 (spliced_more (Tuple_ (spliced_more (wpAny_BinOp (MethodCall_ (Subscript_ (ev_local Xi (.head _) (wpAny_Slice (evalPart_none_step (evalPart_some_step (ev_local Xi (.tail _ (.tail _ (.head _))) (evalPart_none_step (sl_ns Xi (Nat.le_of_lt hi) (by omega) fun tj sj Xj => GM.count ?_)))))))))))))
    refine callWith_method1 (spliced_more (ev_str Xj fun tk sk Xk => spliced_none (cnt_tx str34 Xk fun tl sl Xl => ev_int Xl fun tm sm Xm => div2_In Xm (Nat.le_trans List.count_le_length (by simp; omega)) fun tn sn Xn => ?_)))
    refine spliced_more (wpAny_BinOp (MethodCall_ (Subscript_ (ev_local Xn (.head _) (wpAny_Slice (evalPart_none_step (evalPart_some_step (Call_ (ev_top Dg Xn (gl_lend w os) (callWith_def (o := o148_18 w.params) rfl ?_))))))))))
    refine spliced_more (ev_local Xn (.head _) (spliced_more (ev_local Xn (.tail _ (.tail _ (.head _))) (spliced_none ⟨(Xn.cx Dg).at148, ?_⟩))))
    refine wpAny_mono (c_lend (n := n) (E := fun _ _ => False) (Xn.cx Dg) R₁ ws i h92 hsz hi) (fun v so h => ?_) fun _ _ e => e
    obtain ⟨⟨to, rfl⟩, ko⟩ := h
    have Xo := Xn.after ko
    have hle := lendP_le hi
    refine evalPart_none_step (sl_ns Xo hle (by omega) fun tp sp Xp => GM.count ?_)
    refine callWith_method1 (spliced_more (ev_str Xp fun tq sq Xq => spliced_none (cnt_tx str34 Xq fun tr sr Xr => ev_int Xr fun ts ss Xs => div2_In Xs (Nat.le_trans List.count_le_length (by simp; omega)) fun tt st Xt => ?_)))
    refine spliced_none (new_tuple Xt fun T su hT Xu => spliced_none ?_)
    have okT : ok T := hT ▸ fresh _ ((Da, _) :: M) st Xt
    have hTD : T ≠ Da := hT ▸ Nat.ne_of_gt (Xt.below _ (.head _))
    have hTM : ∀ q ∈ M, q.1 ≠ T := fun q hq => hT ▸ Nat.ne_of_lt (Xt.below q (.tail _ (List.mem_append_left _ hq)))
    refine app_led (P := [(T, _)]) Xu (fun q hq => by rw [List.mem_singleton.mp hq]; exact hTD) (fun q hq => ?_) (by have := hp.length; omega) fun sv Xv => ?_
    · rcases List.mem_append.mp hq with hq | hq
      · exact hM q hq
      · exact hown Da okD q hq
    have hit : (((40 : Nat) == 40) && (ws.take i).count 34 % 2 == 0) = true := by simp [h2']
    refine wpAny_execs_nil (wpAny_execs_nil ⟨_, (Da, { cls := .type "list", data := .seq (List.toArray (vs ++ [Value.ref T])) (n' + 1) }) :: (T, tupO (toldOne ws i) tn tt 0) :: M,
      (Xv.names (l' := toldL ws t Da) (fun p hp => List.mem_append_left [_, _] hp) (toldL_nd ..)).news fun q hq => ?_, ⟨vs ++ [.ref T], acc ++ [toldOne ws i], n' + 1, _, rfl, rfl, ?_, fun q hq => ?_, by simp; omega, ?_⟩, toldL_off ws t Da, fun q hq => ?_⟩)
    · rcases List.mem_append.mp hq with hq | hq
      · rcases List.mem_cons.mp hq with rfl | hq
        · exact .tail _ (.head _)
        · rcases List.mem_cons.mp hq with rfl | hq
          · exact .head _
          · exact .tail _ (.tail _ (List.mem_append_left _ hq))
      · exact .tail _ (.tail _ (List.mem_append_right _ hq))
    · exact (hp.mono fun q hq => .tail _ hq).snoc ⟨T, tn, tt, 0, rfl, .head _⟩
    · rcases List.mem_cons.mp hq with rfl | hq
      · exact hTD
      · exact hM q hq
    · rw [hgo, toldGo, if_pos hit, List.append_assoc]; rfl
    · rcases List.mem_cons.mp hq with rfl | hq
      · exact okD
      · rcases List.mem_cons.mp hq with rfl | hq
        · exact okT
        · exact hok q (.tail _ hq)
  · rintro l' N' s₇ X₇ ⟨vs, acc, n', M, rfl, rfl, hp, hM, hai, hgo⟩
    rw [show (tx ws).cps.size = ws.length by simp, List.drop_length, toldGo, List.append_nil] at hgo
    subst hgo
    refine wpAny_execs_cons (wpAny_Return_some (Call_ (ev_blt (w := w) (os := os) D X₇ (gl_sorted w os) bb_sorted nn_sorted (callWith_builtin1 (spliced_more (ev_local X₇ (.tail _ (.head _)) (spliced_none (sorted_pairs X₇ ⟨_, (X₇.nw _ (.head _)).1, rfl, _, rfl⟩ (hp.mono fun q hq => .tail _ hq) h2 h64 hs fun D' vs' e s' X' hp' hne => ?_))))))))
    refine ⟨D', vs', e, _, rfl, hp', fun q hq => ⟨(X'.nw q hq).1, (X'.nw q hq).2.2⟩, hne, X'.kp⟩
end WC

set_option maxHeartbeats 4000000
namespace WC
open PySem PySem.W PySem.Calls PyProof.Rows
open PyProof

/-! the set and the dict of the tables -/
noncomputable def setEs : Obj → Array (Int × Value)
  | ⟨_, _, .set es _ _, _⟩ => es
  | _ => #[]
noncomputable def b1A (P : Params) : Array (Int × Value) := setEs (o75_9 P)
noncomputable def b1S (P : Params) (k : Int) : Bool := (b1A P).toList.any fun e => Value.isInt k e.2
noncomputable def intEl (e : Int × Value) : Bool := match e.2 with
  | .int n _ => e.1 == hashInt n
  | _ => false
theorem intEl_of {e : Int × Value} (h : intEl e = true) : ∃ n t, e.2 = .int n t ∧ e.1 = hashInt n := by
  obtain ⟨a, v⟩ := e
  cases v <;> simp_all [intEl]
theorem b1A_els (P : Params) : ((b1A P).toList.all intEl) = true := by kernel_rfl!
theorem Cx.at75 {w : World} {os : OsState} {h : Heap} (C : Cx w os h) : h.get? 75 = some (o75_9 w.params) := C.K _ _ (top_at (by decide) (by kernel_rfl!) (by kernel_rfl!))
theorem Cx.set75 {w : World} {os : OsState} {h : Heap} (C : Cx w os h) : h.SetOf (intKind pw w) 75 (b1S w.params) (b1A w.params).size := by
  refine ⟨o75_9 w.params, b1A w.params, 29, _, C.at75, ⟨rfl, rfl, rfl⟩, rfl, fun e he => ?_, fun k => ?_, ?_, ?_, rfl⟩
  · obtain ⟨n, t, h1, h2⟩ := intEl_of (List.all_eq_true.mp (b1A_els w.params) e he)
    rw [h1]
    exact ⟨⟨n, by simp [intKind, Value.isInt], h2⟩, rfl⟩
  · exact List.any_eq_true
  · exact of_decide_eq_true (by kernel_rfl! : decide ((b1A w.params).size < scanBound) = true)
  · kernel_rfl!
theorem b1_at (P : Params) : [34, 40, 41, 119813, 383, 223, 64257, 173].map (b1S P) = [false, false, false, false, false, false, false, true] := by kernel_rfl!

noncomputable def signsOk : List Nat := [34, 40, 41, 119813, 383, 223, 64257, 173]
theorem b1S_at (P : Params) {c : Nat} (h : c ∈ signsOk) : b1S P (c : Nat) = (c == 173) := by
  have e := b1_at P
  simp only [List.map_cons, List.map_nil, List.cons.injEq, and_true] at e
  obtain ⟨e1, e2, e3, e4, e5, e6, e7, e8⟩ := e
  simp only [signsOk, List.mem_cons, List.not_mem_nil, or_false] at h
  rcases h with rfl | rfl | rfl | rfl | rfl | rfl | rfl | rfl
  · exact e1
  · exact e2
  · exact e3
  · exact e4
  · exact e5
  · exact e6
  · exact e7
  · exact e8

theorem c_b1 {w : World} {os : OsState} {A : Around} {s : Shared} {E : Value → Shared → Prop} {t : Tok} {n : Nat} (C : Cx w os s.heap) (R : Room A (n + 1)) {c : Nat} (hc : c ∈ signsOk) :
    wpAny (model pw w) A (PySem.call (.ref 85) [.str ⟨#[c]⟩ t]) (fun v s' => v = .bool (c == 173) ∧ KpG true s s') E s := by
  refine enter_b1 C R fun h₁ F C₁ R₁ => ?_
  have X : In true s s.heap.objs.size [(Str.ofString "code", .str ⟨#[c]⟩ t)] [] { s with heap := h₁, toks := s.toks + 1 } := In.start F (by simp) rfl
  have D := C
  refine wpAny_execs_cons (wpAny_Return_some (wpAny_Compare1 (Call_ (ev_blt (w := w) (os := os) D X (gl_ord w os) bb_ord nn_ord (callWith_builtin1 (spliced_more (ev_local X (.head _) (spliced_none (P.ord_of_char ?_)))))))))
  have X₁ := X.toks (X.toks 0 |> fun _ => s.toks + 1 + 1)
  refine ev_top D X₁ (gl_b1s w os) ?_
  refine wpAny_inSet_of (knd := intKind pw w) (k := ((c : Nat) : Int)) (by simp [intKind, Value.isInt]) rfl (X₁.cx D).set75 ?_
  rw [b1S_at w.params hc]
  exact ⟨rfl, (X₁.toks _).kp⟩
end WC

set_option maxHeartbeats 4000000
namespace WC
open PySem PySem.W PySem.Calls PyProof.Rows
open PyProof

noncomputable def dictEs : Obj → Array DictEntry
  | ⟨_, _, .dict es _, _⟩ => es
  | _ => #[]
noncomputable def b3A : Array DictEntry := dictEs (b3o 0)
noncomputable def intEn (e : DictEntry) : Bool := match e.key with
  | .int n _ => e.hash == hashInt n
  | _ => false
theorem intEn_of {e : DictEntry} (h : intEn e = true) : ∃ n t, e.key = .int n t ∧ e.hash = hashInt n := by
  unfold intEn at h
  cases hk : e.key <;> rw [hk] at h <;> simp_all
theorem b3A_ens : (b3A.toList.all intEn) = true := by kernel_rfl!
noncomputable def b3F (k : Int) : Option Value := findBy Value.isInt b3A k
theorem Cx.at86 {w : World} {os : OsState} {h : Heap} (C : Cx w os h) : h.get? 86 = some (b3o 0) := C.K _ _ (top_at (by decide) (by kernel_rfl!) (by kernel_rfl!))
theorem Cx.map86 {w : World} {os : OsState} {h : Heap} (C : Cx w os h) : h.MapOf (intKind pw w) 86 b3F := by
  refine ⟨b3o 0, b3A, _, C.at86, ⟨by kernel_rfl!, by kernel_rfl!, by kernel_rfl!⟩, (by kernel_rfl! : (b3o 0).data = .dict b3A ((b3big.1.length + b3last.length))), fun e he => ?_, fun k => rfl⟩
  obtain ⟨n, t, h1, h2⟩ := intEn_of (List.all_eq_true.mp b3A_ens e (Array.mem_toList_iff.mpr he))
  rw [h1]
  exact ⟨n, by simp [intKind, Value.isInt], h2⟩
noncomputable def strOfV : Option Value → Option (Option Str)
  | none => none
  | some (.str x _) => some (some x)
  | some _ => some none
noncomputable def b3G (k : Int) : Option Value := (b3A.toList.find? fun e => Value.isInt k e.key).map (·.val)
theorem b3F_G (k : Int) : b3F k = b3G k := by
  unfold b3F b3G findBy
  rw [← Array.find?_toList]
theorem b3_at : ([34, 40, 41, 119813, 383, 223, 64257] : List Int).map (fun k => strOfV (b3G k)) = [none, none, none, some (some (tx [102])), some (some (tx [115])), some (some (tx [115, 115])), some (some (tx [102, 105]))] := by kernel_rfl!
noncomputable def b3map (c : Nat) : List Nat := if c = 119813 then [102] else if c = 383 then [115] else if c = 223 then [115, 115] else if c = 64257 then [102, 105] else [c]
theorem strOfV_none {v : Option Value} (h : strOfV v = none) : v = none := by
  cases v with
  | none => rfl
  | some v => cases v <;> cases h
theorem strOfV_some {v : Option Value} {x : Str} (h : strOfV v = some (some x)) : ∃ t, v = some (.str x t) := by
  cases v with
  | none => cases h
  | some v => cases v <;> first | cases h | skip
              exact ⟨_, rfl⟩
noncomputable def signsB3 : List Nat := [34, 40, 41, 119813, 383, 223, 64257]
theorem b3F_at {c : Nat} (h : c ∈ signsB3) : (b3F (c : Nat) = none ∧ b3map c = [c] ∧ Txt.lower ⟨#[c]⟩ = ⟨#[c]⟩) ∨ ∃ t, b3F (c : Nat) = some (.str (tx (b3map c)) t) := by
  have e := b3_at
  simp only [← b3F_G] at e
  simp only [List.map_cons, List.map_nil, List.cons.injEq, and_true] at e
  obtain ⟨e1, e2, e3, e4, e5, e6, e7⟩ := e
  simp only [signsB3, List.mem_cons, List.not_mem_nil, or_false] at h
  rcases h with rfl | rfl | rfl | rfl | rfl | rfl | rfl
  · exact .inl ⟨strOfV_none e1, rfl, by decide +kernel⟩
  · exact .inl ⟨strOfV_none e2, rfl, by decide +kernel⟩
  · exact .inl ⟨strOfV_none e3, rfl, by decide +kernel⟩
  · exact .inr (strOfV_some e4)
  · exact .inr (strOfV_some e5)
  · exact .inr (strOfV_some e6)
  · exact .inr (strOfV_some e7)

theorem c_b3 {w : World} {os : OsState} {A : Around} {s : Shared} {E : Value → Shared → Prop} {t : Tok} {n : Nat} (C : Cx w os s.heap) (R : Room A (n + 1)) {c : Nat} (hc : c ∈ signsB3) :
    wpAny (model pw w) A (PySem.call (.ref 131) [.str ⟨#[c]⟩ t]) (fun v s' => (∃ t', v = .str (tx (b3map c)) t') ∧ KpG true s s') E s := by
  refine enter_b3 C R fun h₁ F C₁ R₁ => ?_
  have X : In true s s.heap.objs.size [(Str.ofString "code", .str ⟨#[c]⟩ t)] [] { s with heap := h₁, toks := s.toks + 1 } := In.start F (by simp) rfl
  have D := C
  refine wpAny_execs_cons (wpAny_Assign_Name (MethodCall_ (ev_top D X (gl_b3s w os) (getMethod_builtin (X.cx D).map86.typeIs PySem.F.plainAttrs_dict PySem.F.slot_dict_get PySem.F.type_dict_get (X.cx D).map86.noDict ?_))))
  refine wpAny_dict_get1 (knd := intKind pw w) rfl ?_
  refine Call_ (ev_blt (w := w) (os := os) D X (gl_ord w os) bb_ord nn_ord (callWith_builtin1 (spliced_more (ev_local X (.head _) (spliced_none (P.ord_of_char ?_))))))
  have X₁ := X.toks (s.toks + 1 + 1)
  refine ⟨((c : Nat) : Int), b3F, by simp [intKind, Value.isInt], (X₁.cx D).map86, ?_⟩
  refine store_local (X₁.toks _) (.tail (by decide +kernel) .nil) fun s₂ X₂ => ?_
  refine wpAny_execs_cons (wpAny_If (wpAny_isTrue_Compare1 (ev_local X₂ (.tail _ (.head _)) (Constant_none ?_))))
  rcases b3F_at hc with ⟨h1, h2, h3⟩ | ⟨tk, h1⟩
  · rw [h1] at X₂ ⊢
    refine isnot_none_none (wpAny_truthy_bool ?_)
    simp only [Bool.false_eq_true, if_false]
    refine wpAny_execs_nil (wpAny_execs_cons (wpAny_Return_some (MethodCall_ (ev_local X₂ (.head _) (GM.lower (callWith_method0 (SC.lower ?_ ⟨⟨s₂.toks, ?_⟩, (X₂.toks _).kp⟩)))))))
    · rw [h3]; rfl
    · show Value.str _ _ = _
      rw [h3, h2]
  · rw [h1] at X₂ ⊢
    refine isnot_str_none (wpAny_truthy_bool ?_)
    simp only [if_true]
    exact wpAny_execs_cons (wpAny_Return_some (ev_local X₂ (.tail _ (.head _)) ⟨⟨tk, rfl⟩, X₂.kp⟩))
end WC

set_option maxHeartbeats 4000000
namespace WC
open PySem PySem.W PySem.Calls PyProof.Rows
open PyProof

theorem while_In {w : World} {A : Around} {s : Shared} {Q : Flow → Shared → Prop} {env : Env} {test : Expr} {body orelse : List Stmt} {pos : Pos} (I : Nat → Shared → Prop)
    (turn : ∀ n s, I n s → wpAny (model pw w) A (isTrue test env (eval test env)) (fun b s₂ =>
        if b then wpAny (model pw w) A (execs body env) (fun f s₃ => match f with
            | .next | .cont => ∃ m, m < n ∧ I m s₃
            | .brk => Q .next s₃
            | .ret v => Q (.ret v) s₃) (fun _ _ => False) s₂
        else wpAny (model pw w) A (execs orelse env) Q (fun _ _ => False) s₂) (fun _ _ => False) s)
    (n : Nat) (h : I n s) : wpAny (model pw w) A (exec (.While test body orelse pos) env) Q (fun _ _ => False) s := by
  refine wpAny_While (codeAny_whileLoop I (fun n s hI => wpAny_mono (turn n s hI) (fun b s₂ h₂ => ?_) fun _ _ e => e.elim) n h)
  cases b with
  | true =>
    simp only [if_true] at h₂ ⊢
    exact wpAny_mono h₂ (fun f s₃ h₃ => by cases f <;> exact h₃) fun _ _ e => e.elim
  | false =>
    simp only [Bool.false_eq_true, if_false] at h₂ ⊢
    exact wpAny_mono h₂ (fun f s₃ h₃ => h₃) fun _ _ e => e.elim

noncomputable def parseGo : List Nat → List Nat
  | [] => []
  | [c] => if c = 34 then [] else [c]
  | c :: d :: r => if c = 34 then (if d = 34 then 34 :: parseGo r else []) else c :: parseGo (d :: r)
theorem parseGo_nil : parseGo [] = [] := rfl
theorem parseGo_char {c : Nat} {r : List Nat} (h : c ≠ 34) : parseGo (c :: r) = c :: parseGo r := by
  cases r <;> simp [parseGo, h]
theorem parseGo_two {r : List Nat} : parseGo (34 :: 34 :: r) = 34 :: parseGo r := by simp [parseGo]
theorem parseGo_end {r : List Nat} (h : r.head? ≠ some 34) : parseGo (34 :: r) = [] := by
  cases r with
  | nil => simp [parseGo]
  | cons d r =>
    have : d ≠ 34 := fun e => h (by rw [e]; rfl)
    simp [parseGo, this]
theorem parseGo_len : ∀ (n : Nat) (l : List Nat), l.length ≤ n → (parseGo l).length ≤ l.length
  | 0, l, h => by
    have : l = [] := List.eq_nil_of_length_eq_zero (by omega)
    rw [this]; simp [parseGo]
  | n + 1, [], _ => Nat.le_refl _
  | n + 1, [c], _ => by by_cases h : c = 34 <;> simp [parseGo, h]
  | n + 1, c :: d :: r, h => by
    simp only [List.length_cons] at h
    by_cases h1 : c = 34
    · by_cases h2 : d = 34
      · have := parseGo_len n r (by omega)
        simp [parseGo, h1, h2]; omega
      · simp [parseGo, h1, h2]
    · have := parseGo_len n (d :: r) (by simp; omega)
      simp only [List.length_cons] at this
      simp [parseGo, h1]; omega

theorem e257 : Str.ofString "257" = tx [50, 53, 55] := by decide +kernel
theorem espq : Str.ofString " \"" = tx [32, 34] := by decide +kernel
theorem enil : Str.ofString "" = tx [] := by decide +kernel

noncomputable abbrev parseL (cs acc : List Nat) (i : Nat) (t1 t2 t3 t4 : Tok) : List (Str × Value) :=
  [(Str.ofString "resp", .str (tx cs) t1), (Str.ofString "dirname", .str (tx acc) t2), (Str.ofString "i", .int (i : Nat) t3), (Str.ofString "n", .int (cs.length : Nat) t4)]
theorem parseL_nd (cs acc : List Nat) (i : Nat) (t1 t2 t3 t4 : Tok) : ((parseL cs acc i t1 t2 t3 t4).map (·.1)).Nodup := by
  show ([Str.ofString "resp", Str.ofString "dirname", Str.ofString "i", Str.ofString "n"] : List Str).Nodup
  decide +kernel

theorem c_parse {w : World} {os : OsState} {A : Around} {s : Shared} {E : Value → Shared → Prop} {t : Tok} {n : Nat} (C : Cx w os s.heap) (R : Room A (n + 1)) (cs : List Nat) (h1 : cs.take 3 = [50, 53, 55]) (h2 : (cs.drop 3).take (5 - 3) = [32, 34]) (h5 : 5 ≤ cs.length) (hsz : cs.length ≤ 1000) :
    wpAny (model pw w) A (PySem.call (.ref 67) [.str (tx cs) t]) (fun v s' => (∃ t', v = .str (tx (parseGo (cs.drop 5))) t') ∧ KpG true s s') E s := by
  refine enter_parse C R fun h₁ F C₁ R₁ => ?_
  have X : In true s s.heap.objs.size [(Str.ofString "resp", .str (tx cs) t)] [] { s with heap := h₁, toks := s.toks + 1 } := In.start F (by simp) rfl
  have D := C
  refine wpAny_execs_cons (wpAny_If (wpAny_isTrue_Compare1 (Subscript_ (ev_local X (.head _) (wpAny_Slice (evalPart_none_step (evalPart_some_step (ev_int X fun ta sa Xa => evalPart_none_step (sl_ns (j := 3) Xa (by omega) (by omega) fun tb sb Xb => ev_str Xb fun tc sc Xc => ne_str (wpAny_truthy_bool ?_))))))))))
  rw [h1, e257, bne_self_eq_false]
  simp only [Bool.false_eq_true, if_false]
  refine wpAny_execs_nil (wpAny_execs_cons (wpAny_If (wpAny_isTrue_Compare1 (Subscript_ (ev_local Xc (.head _) (wpAny_Slice (evalPart_some_step (ev_int Xc fun td sd Xd => evalPart_some_step (ev_int Xd fun te se Xe => evalPart_none_step (sl_ss (i := 3) (j := 5) Xe (by omega) (by omega) (by omega) fun tf sf Xf => ev_str Xf fun tg sg Xg => ne_str (wpAny_truthy_bool ?_)))))))))))
  rw [h2, espq, bne_self_eq_false]
  simp only [Bool.false_eq_true, if_false]
  refine wpAny_execs_nil (wpAny_execs_cons (wpAny_Assign_Name (ev_str Xg fun th sh Xh => ?_)))
  rw [enil]
  refine store_local Xh (.tail (by decide +kernel) .nil) fun si Xi => ?_
  refine wpAny_execs_cons (wpAny_Assign_Name (ev_int Xi fun tj sj Xj => store_local Xj (.tail (by decide +kernel) (.tail (by decide +kernel) .nil)) fun sk Xk => ?_))
  refine wpAny_execs_cons (wpAny_Assign_Name (Call_ (ev_blt (w := w) (os := os) D Xk (gl_len w os) bb_len nn_len (callWith_builtin1 (spliced_more (ev_local Xk (.head _) (spliced_none (len_tx Xk (by omega) fun tl sl Xl => store_local Xl (.tail (by decide +kernel) (.tail (by decide +kernel) (.tail (by decide +kernel) .nil))) fun sm Xm => ?_))))))))
  refine wpAny_execs_cons (while_In (fun k s' => ∃ i acc t2 t3, In true s s.heap.objs.size (parseL cs acc i t t2 t3 tl) [] s' ∧ i ≤ cs.length ∧ k = cs.length - i ∧ acc.length ≤ i ∧ parseGo (cs.drop 5) = acc ++ parseGo (cs.drop i)) ?_ (cs.length - 5) ⟨5, [], th, tj, Xm, h5, rfl, Nat.zero_le _, rfl⟩)
  rintro k s₁ ⟨i, acc, t2, t3, Y, hi, rfl, hacc, hgo⟩
  refine wpAny_isTrue_Compare1 (ev_local Y (.tail _ (.tail _ (.head _))) (ev_local Y (.tail _ (.tail _ (.tail _ (.head _)))) (lt_int (wpAny_truthy_bool ?_))))
  by_cases hlt : i < cs.length
  case neg =>
    rw [show decide (((i : Nat) : Int) < ((cs.length : Nat) : Int)) = false by simp; omega]
    simp only [Bool.false_eq_true, if_false]
    refine wpAny_execs_nil (wpAny_execs_cons (wpAny_Return_some (ev_local Y (.tail _ (.head _)) ⟨⟨t2, ?_⟩, Y.kp⟩)))
    show Value.str _ _ = _
    rw [hgo, List.drop_of_length_le (by omega), parseGo_nil, List.append_nil]
  rw [show decide (((i : Nat) : Int) < ((cs.length : Nat) : Int)) = true by simp; omega]
  simp only [if_true]
  have hd : cs.drop i = cs[i] :: cs.drop (i + 1) := List.drop_eq_getElem_cons hlt
  rw [hd] at hgo
  refine wpAny_execs_cons (wpAny_Assign_Name (Subscript_ (ev_local Y (.head _) (ev_local Y (.tail _ (.tail _ (.head _))) (item_tx Y hlt (by omega) fun ta sa Ya => store_local Ya (.tail (by decide +kernel) (.tail (by decide +kernel) (.tail (by decide +kernel) (.tail (by decide +kernel) .nil)))) fun sb Yb => ?_)))))
  generalize hcc : cs[i] = c at *
  refine wpAny_execs_cons (wpAny_Assign_Name (wpAny_BinOp (ev_local Yb (.tail _ (.tail _ (.head _))) (ev_int Yb fun tc sc Yc => inc_In Yc fun td sd Yd => store_local Yd (.tail (by decide +kernel) (.tail (by decide +kernel) .head)) fun se Ye => ?_))))
  have fin : ∀ (j : Nat) (tj : Tok) s₂, i < j → j ≤ cs.length → parseGo (c :: cs.drop (i + 1)) = c :: parseGo (cs.drop j) →
      In true s s.heap.objs.size [(Str.ofString "resp", .str (tx cs) t), (Str.ofString "dirname", .str (tx acc) t2), (Str.ofString "i", .int (j : Nat) tj), (Str.ofString "n", .int (cs.length : Nat) tl), (Str.ofString "c", .str ⟨#[c]⟩ ta)] [] s₂ →
      wpAny (model pw w) (A.deeper (envOf (sO "parse257") (fscope (stI 7)) s.heap.objs.size 67 (.ref 66))) (binaryOp .Add (.str (tx acc) t2) (.str ⟨#[c]⟩ ta))
        (fun v s₃ => wpAny (model pw w) (A.deeper (envOf (sO "parse257") (fscope (stI 7)) s.heap.objs.size 67 (.ref 66))) (storeName (envOf (sO "parse257") (fscope (stI 7)) s.heap.objs.size 67 (.ref 66)) (Str.ofString "dirname") v)
          (fun _ s₄ => ∃ m, m < cs.length - i ∧ ∃ i acc t2 t3, In true s s.heap.objs.size (parseL cs acc i t t2 t3 tl) [] s₄ ∧ i ≤ cs.length ∧ m = cs.length - i ∧ acc.length ≤ i ∧ parseGo (cs.drop 5) = acc ++ parseGo (cs.drop i)) (fun _ _ => False) s₃) (fun _ _ => False) s₂ := by
    intro j tj s₂ hij hj hp Z
    refine add_tx (ds := [c]) Z (by omega) (by simp) fun t' s₃ Z₃ => store_local Z₃ (.tail (by decide +kernel) .head) fun s₄ Z₄ => ?_
    refine ⟨cs.length - j, by omega, j, acc ++ [c], t', tj, Z₄.names (l' := parseL cs (acc ++ [c]) j t t' tj tl) (fun p hp => List.mem_append_left [_] hp) (parseL_nd ..), hj, rfl, by simp; omega, ?_⟩
    rw [hgo, hp, List.append_assoc]; rfl
  refine wpAny_execs_cons (wpAny_If (wpAny_isTrue_Compare1 (ev_local Ye (.tail _ (.tail _ (.tail _ (.tail _ (.head _))))) (ev_str Ye fun tf sf Yf => eq_str (wpAny_truthy_bool ?_)))))
  rw [str1_beq c (Str.ofString "\"") (d := 34)]
  by_cases h34 : c = 34
  case neg =>
    rw [show (c == 34) = false by simpa using h34]
    simp only [Bool.false_eq_true, if_false]
    refine wpAny_execs_nil (wpAny_execs_cons (wpAny_Assign_Name (wpAny_BinOp (ev_local Yf (.tail _ (.head _)) (ev_local Yf (.tail _ (.tail _ (.tail _ (.tail _ (.head _))))) ?_)))))
    refine wpAny_mono (fin (i + 1) td sf (by omega) (by omega) (parseGo_char h34) Yf) (fun v s₃ h => wpAny_mono h (fun _ s₄ h => wpAny_execs_nil h) fun _ _ e => e) fun _ _ e => e
  subst h34
  simp only [beq_self_eq_true, if_true]
  refine wpAny_execs_cons (wpAny_If (isTrue_or (wpAny_isTrue_Compare1 (ev_local Yf (.tail _ (.tail _ (.head _))) (ev_local Yf (.tail _ (.tail _ (.tail _ (.head _)))) (ge_int (wpAny_truthy_bool ?_)))))))
  by_cases hge : cs.length ≤ i + 1
  · rw [show decide (((i + 1 : Nat) : Int) ≥ ((cs.length : Nat) : Int)) = true by simp; omega]
    simp only [if_true]
    refine wpAny_execs_cons (wpAny_Break (wpAny_execs_cons (wpAny_Return_some (ev_local Yf (.tail _ (.head _)) ⟨⟨t2, ?_⟩, Yf.kp⟩))))
    show Value.str _ _ = _
    rw [hgo, List.drop_of_length_le (by omega : cs.length ≤ i + 1), parseGo_end (by simp), List.append_nil]
  rw [show decide (((i + 1 : Nat) : Int) ≥ ((cs.length : Nat) : Int)) = false by simp; omega]
  simp only [Bool.false_eq_true, if_false]
  have hlt2 : i + 1 < cs.length := by omega
  refine isTrue_or (wpAny_isTrue_Compare1 (Subscript_ (ev_local Yf (.head _) (ev_local Yf (.tail _ (.tail _ (.head _))) (item_tx Yf hlt2 (by omega) fun tg sg Yg => ev_str Yg fun th sh Yh => ne_str (wpAny_truthy_bool ?_))))))
  have hd2 : cs.drop (i + 1) = cs[i + 1] :: cs.drop (i + 2) := List.drop_eq_getElem_cons hlt2
  rw [bne, str1_beq cs[i + 1] (Str.ofString "\"") (d := 34)]
  by_cases h2 : cs[i + 1] = 34
  case neg =>
    rw [show (!(cs[i + 1] == 34)) = true by simpa using h2]
    simp only [if_true]
    refine wpAny_execs_cons (wpAny_Break (wpAny_execs_cons (wpAny_Return_some (ev_local Yh (.tail _ (.head _)) ⟨⟨t2, ?_⟩, Yh.kp⟩))))
    show Value.str _ _ = _
    rw [hgo, parseGo_end (by rw [hd2]; exact fun e => h2 (Option.some.inj e)), List.append_nil]
  rw [show (!(cs[i + 1] == 34)) = false by simpa using h2]
  simp only [Bool.false_eq_true, if_false]
  refine isTrue_or_nil ?_
  simp only [Bool.false_eq_true, if_false]
  refine wpAny_execs_nil (wpAny_execs_cons (wpAny_Assign_Name (wpAny_BinOp (ev_local Yh (.tail _ (.tail _ (.head _))) (ev_int Yh fun ti si Yi => inc_In Yi fun tj sj Yj => store_local Yj (.tail (by decide +kernel) (.tail (by decide +kernel) .head)) fun sk Yk => ?_)))))
  refine wpAny_execs_nil (wpAny_execs_cons (wpAny_Assign_Name (wpAny_BinOp (ev_local Yk (.tail _ (.head _)) (ev_local Yk (.tail _ (.tail _ (.tail _ (.tail _ (.head _))))) ?_)))))
  refine wpAny_mono (fin (i + 2) tj sk (by omega) (by omega) (by rw [hd2, h2, parseGo_two]) Yk) (fun v s₃ h => wpAny_mono h (fun _ s₄ h => wpAny_execs_nil h) fun _ _ e => e) fun _ _ e => e
end WC

set_option maxHeartbeats 4000000
namespace WC
open PySem PySem.W PySem.Calls PyProof.Rows
open PyProof

theorem Cx.at67 {w : World} {os : OsState} {h : Heap} (C : Cx w os h) : h.get? 67 = some (o67_8 w.params) := C.K _ _ (top_at (by decide) (by kernel_rfl!) (by kernel_rfl!))
theorem Cx.at85 {w : World} {os : OsState} {h : Heap} (C : Cx w os h) : h.get? 85 = some (o85_10 w.params) := C.K _ _ (top_at (by decide) (by kernel_rfl!) (by kernel_rfl!))
theorem Cx.at131 {w : World} {os : OsState} {h : Heap} (C : Cx w os h) : h.get? 131 = some (o131_18 w.params) := C.K _ _ (top_at (by decide) (by kernel_rfl!) (by kernel_rfl!))

theorem ev_glob {w : World} {os : OsState} {A : Around} {E : Value → Shared → Prop} {s : Shared} {env : Env} {x : Str} {pos : Pos} {v : Value} {Q : Value → Shared → Prop} (C : Cx w os s.heap) (hv : tmg w os x = some v) (h : Q v s)
    (hk : env.scope.kind = .function := by kernel_rfl!) (hx : env.kindOf x = some .globalImplicit := by kernel_rfl!) (hg : env.globals = mainGlobals := by rfl) (hd : (x == ("__debug__" : Str)) = false := by decide +kernel) :
    wpAny (model pw w) A (eval (.Name x pos) env) Q E s := Calls.Name_function_global hk hx (Calls.loadGlobal_global (hg ▸ C.T.g) hv h) hd

theorem iter_str {w : World} {A : Around} {E : Value → Shared → Prop} {s : Shared} (hh : A.handled = none) (x : Str) (t : Tok) {Q : Value → Shared → Prop}
    (h : ∀ St h', Walks pw w A s.heap.objs.size [s.heap.objs.size] [s.heap.objs.size] x.cps.size (SignAt x) St → St 0 h' → h'.objs.size = s.heap.objs.size + 1 → (∀ b o, s.heap.get? b = some o → h'.get? b = some o) → Q (.ref s.heap.objs.size) { s with heap := h' }) :
    wpAny (model pw w) A (pyIter (.str x t)) Q E s := by
  cases ha : x.cps.all (· < 128)
  · refine wpAny_pyIter_wide ha ?_
    exact h _ _ (Walks.strWide hh _ x t) ⟨_, Heap.get?_push_size _ rfl, rfl, rfl⟩ (Heap.size_push ..) fun b o e => Heap.get?_push_of_some _ e
  · refine wpAny_pyIter_ascii ha ?_
    exact h _ _ (Walks.strAscii hh _ x t) ⟨_, Heap.get?_push_size _ rfl, rfl, rfl⟩ (Heap.size_push ..) fun b o e => Heap.get?_push_of_some _ e
/-- the texts that a comprehension made -/
theorem paired_texts {ps : List Nat} {p : Value → Bool} (hp : ∀ (c : Nat) (u : Tok), p (Value.str ⟨#[c]⟩ u) = (c != 173)) : ∀ {vs ys : List Value}, vs.length = ps.length → (∀ (j : Nat) (v : Value), vs[j]? = some v → ∃ (c : Nat) (u : Tok), ps[j]? = some c ∧ v = Value.str ⟨#[c]⟩ u) →
    Paired (fun v y => ∃ c u t', v = Value.str ⟨#[c]⟩ u ∧ y = Value.str (tx (b3map c)) t') (vs.filter p) ys → ∃ rs : List (Str × Tok), ys = strValues rs ∧ rs.map (fun r => r.1.cps.toList) = (ps.filter (· != 173)).map b3map := by
  induction ps with
  | nil =>
    intro vs ys hl _ h
    have : vs = [] := List.eq_nil_of_length_eq_zero (by simpa using hl)
    subst this
    cases h
    exact ⟨[], rfl, rfl⟩
  | cons c ps ih =>
    intro vs ys hl hv h
    cases vs with
    | nil => simp at hl
    | cons v vs =>
      obtain ⟨c', u, hc', rfl⟩ := hv 0 v (by simp)
      simp at hc'; subst hc'
      have hv' : ∀ (j : Nat) (v : Value), vs[j]? = some v → ∃ (c : Nat) (u : Tok), ps[j]? = some c ∧ v = Value.str ⟨#[c]⟩ u := fun j v e => by
        obtain ⟨c, u, h1, h2⟩ := hv (j + 1) v (by simpa using e)
        exact ⟨c, u, by simpa using h1, h2⟩
      by_cases e : c = 173
      · have hpf : p (.str ⟨#[c]⟩ u) = false := by rw [hp, e]; rfl
        rw [List.filter_cons_of_neg (by simp [hpf])] at h
        obtain ⟨rs, h1, h2⟩ := ih (by simpa using hl) hv' h
        exact ⟨rs, h1, by rw [h2, List.filter_cons_of_neg (by simp [e])]⟩
      · have hpt : p (.str ⟨#[c]⟩ u) = true := by rw [hp]; simp [e]
        rw [List.filter_cons_of_pos hpt] at h
        cases h with
        | cons h1 h2 =>
          obtain ⟨c2, u2, t2, e2, rfl⟩ := h1
          cases e2
          obtain ⟨rs, h3, h4⟩ := ih (by simpa using hl) hv' h2
          refine ⟨(tx (b3map c), t2) :: rs, by rw [h3]; rfl, ?_⟩
          rw [List.filter_cons_of_pos (by simp [e]), List.map_cons, List.map_cons, h4]
theorem b3map_len (c : Nat) : (b3map c).length ≤ 2 := by
  unfold b3map
  repeat' split
  all_goals simp
theorem read_sum : ∀ (ps : List Nat), ((ps.map b3map).map List.length).sum ≤ 2 * ps.length
  | [] => Nat.le_refl _
  | c :: r => by
    have h1 := b3map_len c
    have h2 := read_sum r
    simp only [List.map_cons, List.sum_cons, List.length_cons]
    omega

noncomputable def readP (cs : List Nat) : List Nat := (((parseGo (cs.drop 5)).filter (· != 173)).map b3map).flatten

theorem c_read {w : World} {os : OsState} {A : Around} {s : Shared} {E : Value → Shared → Prop} {t : Tok} {n : Nat} (C : Cx w os s.heap) (R : Room A (n + 2)) (cs : List Nat) (h1 : cs.take 3 = [50, 53, 55]) (h2 : (cs.drop 3).take (5 - 3) = [32, 34]) (h5 : 5 ≤ cs.length) (hsz : cs.length ≤ 1000)
    (hok : ∀ c ∈ parseGo (cs.drop 5), c ∈ signsOk) :
    wpAny (model pw w) A (PySem.call (.ref 141) [.str (tx cs) t]) (fun v s' => (∃ t', v = .str (tx (readP cs)) t') ∧ KpG true s s') E s := by
  refine enter_read C R fun h₁ F C₁ R₁ => ?_
  have X : In true s s.heap.objs.size [(Str.ofString "reply", .str (tx cs) t)] [] { s with heap := h₁, toks := s.toks + 1 } := In.start F (by simp) rfl
  have D := C
  have hps : (parseGo (cs.drop 5)).length ≤ 1000 := Nat.le_trans (parseGo_len _ _ (Nat.le_refl _)) (by simp; omega)
  generalize hpp : parseGo (cs.drop 5) = ps at *
  refine wpAny_execs_cons (wpAny_Return_some (MethodCall_ (ev_str X fun ta sa Xa => GM.join (callWith_method1 (spliced_more ?_)))))
  refine wpAny_ListComp_walk (fun v => match v with | .str x _ => x != ⟨#[173]⟩ | _ => true) (fun v y => ∃ c u t', v = Value.str ⟨#[c]⟩ u ∧ y = Value.str (tx (b3map c)) t') (by decide +kernel) (by decide +kernel) rfl (by decide +kernel) (by decide +kernel) ?_
  refine Call_ (ev_top D Xa (gl_parse w os) (callWith_def (o := o67_8 w.params) rfl (spliced_more (ev_local Xa (.head _) (spliced_none ⟨(Xa.cx D).at67, ?_⟩)))))
  refine wpAny_mono (c_parse (n := n) (E := fun _ _ => False) (Xa.cx D) R₁ cs h1 h2 h5 hsz) (fun v s₁ h => ?_) fun _ _ e => e
  obtain ⟨⟨t₁, rfl⟩, k₁⟩ := h
  rw [hpp]
  have X₁ := Xa.after k₁
  have pv : ∀ (c : Nat) (u : Tok), (match Value.str ⟨#[c]⟩ u with | .str x _ => x != (⟨#[173]⟩ : Str) | _ => true) = (c != 173) := fun c u => by
    show ((⟨#[c]⟩ : Str) != ⟨#[173]⟩) = _
    rw [bne, str1_beq c ⟨#[173]⟩ (d := 173)]; rfl
  refine iter_str R₁.handled (tx ps) t₁ fun St h' W hst hz keep => ?_
  have kc : ∀ s₃ : Shared, (∀ b o, b ∉ [s₁.heap.objs.size] → h'.get? b = some o → s₃.heap.get? b = some o) → Cx w os s₃.heap := fun s₃ hk =>
    (X₁.cx D).keeps fun b o e => hk b o (fun hm => Nat.ne_of_lt (Heap.lt_size e) (List.mem_singleton.mp hm)) (keep b o e)
  refine ⟨_, _, _, _, _, St, rfl, W, by rw [show (tx ps).cps.size = ps.length by simp]; exact Nat.le_trans hps (by decide), hst, fun b hb => ?_, ⟨?_, ?_⟩, ?_⟩
  · rw [List.mem_singleton.mp hb]; show _ < h'.objs.size; rw [hz]; exact Nat.lt_succ_self _
  · rintro Cc i v s₃ m₃ E' ⟨c, u, hc, rfl⟩ hn hm hk htk
    have Cs := kc s₃ hk
    have hc' : c ∈ signsOk := hok c (List.mem_of_getElem? (by simpa using hc))
    rw [List.forIn_cons]
    refine wpAny_bind ?_
    simp only [if_true]
    refine wpAny_bind (wpAny_isTrue_Not (isTrue_plain (Call_ (ev_glob Cs (gl_b1 w os) (callWith_def (o := o85_10 w.params) rfl (spliced_more (wpAny_Name (wpAny_loadName_local (by kernel_rfl!) (by kernel_rfl!) hn hm (spliced_none ⟨Cs.at85, ?_⟩)) (by decide +kernel))))))))
    refine wpAny_mono (c_b1 (n := n) (E := fun _ _ => False) Cs R₁ hc') (fun v s₄ h => ?_) fun _ _ e => e.elim
    obtain ⟨rfl, k₄⟩ := h
    refine wpAny_truthy_bool (wpAny_pure (wpAny_pure ?_))
    refine ⟨?_, k₄.form⟩
    exact (pv c u).symm
  · rintro Cc i v s₃ m₃ E' ⟨c, u, hc, rfl⟩ hpv hn hm hk htk
    have Cs := kc s₃ hk
    have hc' : c ∈ signsOk := hok c (List.mem_of_getElem? (by simpa using hc))
    have hpv' : (c != 173) = true := (pv c u).symm.trans hpv
    have hne : c ≠ 173 := by simpa using hpv'
    have hc3 : c ∈ signsB3 := (by decide : ∀ c ∈ signsOk, c ≠ 173 → c ∈ signsB3) c hc' hne
    refine Call_ (ev_glob Cs (gl_b3 w os) (callWith_def (o := o131_18 w.params) rfl (spliced_more (wpAny_Name (wpAny_loadName_local (by kernel_rfl!) (by kernel_rfl!) hn hm (spliced_none ⟨Cs.at131, ?_⟩)) (by decide +kernel)))))
    refine wpAny_mono (c_b3 (n := n) (E := fun _ _ => False) Cs R₁ hc3) (fun v s₄ h => ?_) fun _ _ e => e.elim
    obtain ⟨⟨t', rfl⟩, k₄⟩ := h
    exact ⟨⟨c, u, t', rfl, rfl⟩, k₄.form⟩
  · intro Dl h'' tk ys vs hD hl hpl hlen hP hF hk
    have X₂ := X₁.keeps (s' := { s₁ with heap := h'', toks := tk }) (fun b o e => hk b o (fun hm => Nat.ne_of_lt (Heap.lt_size e) (List.mem_singleton.mp hm)) (keep b o e)) rfl rfl (.refl _ _)
    obtain ⟨rs, e1, e2⟩ := paired_texts (ps := ps) pv (by rw [hlen]; simp) (fun j v hj => by
      obtain ⟨c, u, hc, hv⟩ := hP j v hj
      exact ⟨c, u, by simpa using hc, hv⟩) hF
    refine spliced_none ?_
    have hl' : h''.IsList Dl (strValues rs).toArray := by rw [← e1]; simpa using hl
    rw [enil]
    have hsum : ((rs.map (·.1)).map (·.length)).sum ≤ 100000 := by
      have e3 : (rs.map (·.1)).map (·.length) = (rs.map (fun r => r.1.cps.toList)).map List.length := by
        rw [List.map_map, List.map_map]
        exact List.map_congr_left fun r _ => by simp [Str.length]
      rw [e3, e2]
      have h3 := read_sum (ps.filter (· != 173))
      have h4 : (ps.filter (· != 173)).length ≤ ps.length := List.length_filter_le ..
      omega
    refine SC.join (l := rs) (texts := rs.map (·.1)) hl' rfl (joinok hsum) fun t' k => ⟨⟨t', ?_⟩, (X₂.toks k).kp⟩
    show Value.str _ _ = _
    rw [show (tx [] : Str) = ⟨#[]⟩ from rfl, join_cat, List.map_map, readP, hpp, ← e2]
    rfl
end WC

set_option maxHeartbeats 4000000
namespace WC
open PySem PySem.W PySem.Calls PyProof.Rows
open PyProof

/-- names in any function-like env (a comprehension's too) -/
theorem evc_local {b : Bool} {w : World} {A : Around} {E : Value → Shared → Prop} {s s₀ : Shared} {L : Addr} {l : List (Str × Value)} {N : List (Addr × Obj)} {env : Env} {x : Str} {pos : Pos} {v : Value} {Q : Value → Shared → Prop} (I : In b s₀ L l N s) (hv : (x, v) ∈ l) (h : Q v s)
    (hL : env.locals = L := by rfl) (hk : env.scope.kind = .function := by kernel_rfl!) (hl : env.kindOf x = some .local := by kernel_rfl!) (hd : (x == ("__debug__" : Str)) = false := by decide +kernel) :
    wpAny (model pw w) A (eval (.Name x pos) env) Q E s := by
  obtain ⟨m, F, H⟩ := I.fr
  exact wpAny_Name (wpAny_loadName_local hk hl (hL ▸ F.ns) (H.mem hv) h) hd
theorem comp_go {w : World} {A : Around} {R : Result → Shared → Prop} {s : Shared} {elt target iter : Expr} {ifs : List Expr} {scope : Scope} {pos : Pos} {it acc : Value} {env : Env} (I : Nat → Shared → Prop)
    (turn : ∀ n s, I n s → wpAny (model pw w) A (pyNext it) (fun r s₁ => match r with
      | none => R (.ok .next) s₁
      | some v => wpAny (model pw w) A (letOwnedTupleGo target it v) (fun _ s₁' => wpAny (model pw w) A (assign target env v) (fun _ s₂ =>
          wpAny (model pw w) A (forIn ifs true fun c r => if r = true then do let ok ← isTrue c env (eval c env); pure (ForInStep.yield ok) else pure (ForInStep.yield r)) (fun ok s₃ =>
            if ok = true then wpAny (model pw w) A (eval elt env) (fun x s₄ =>
              wpAny (model pw w) A (call (.builtin "list.append") [acc, x]) (fun _ s₅ => ∃ m, m < n ∧ I m s₅) (fun _ _ => False) s₄) (fun _ _ => False) s₃
            else ∃ m, m < n ∧ I m s₃) (fun _ _ => False) s₂) (fun _ _ => False) s₁') (fun _ _ => False) s₁) (fun _ _ => False) s)
    (n : Nat) (h : I n s) : codeAny (model pw w) A (.compLoop (.ListComp elt [⟨target, iter, ifs, 0⟩] scope pos) 0 it acc env) R s := by
  refine codeAny_loop rfl I (fun n s hI => ?_) n h
  show wpAny _ A ((compTurn (.ListComp elt [⟨target, iter, ifs, 0⟩] scope pos) 0 it acc env).onRaise (fun x => do noteFrame x env; theTreesLotGoes x)) _ _ s
  refine wpAny_noted ?_
  rw [compTurn_list]
  refine wpAny_bind (wpAny_standAt (wpAny_bind (wpAny_mono (turn n s hI) (fun r s₁ h₁ => ?_) fun _ _ h' => h'.elim)))
  cases r with
  | none => exact wpAny_pure h₁
  | some v =>
    refine wpAny_bind (wpAny_mono h₁ (fun _ s₁' h₁' => ?_) fun _ _ h' => h'.elim)
    refine wpAny_bind (wpAny_mono h₁' (fun _ s₂ h₂ => wpAny_bind (wpAny_mono h₂ (fun ok s₃ h₃ => ?_) fun _ _ h' => h'.elim)) fun _ _ h' => h'.elim)
    cases ok with
    | false =>
      simp only [Bool.false_eq_true, if_false] at h₃
      exact wpAny_pure ⟨rfl, h₃⟩
    | true =>
      simp only [if_true] at h₃
      exact wpAny_bind (wpAny_bind (wpAny_mono h₃ (fun x s₄ h₄ => wpAny_bind (wpAny_mono h₄ (fun _ s₅ h₅ => wpAny_pure (wpAny_pure ⟨rfl, h₅⟩)) fun _ _ h' => h'.elim)) fun _ _ h' => h'.elim))
end WC

set_option maxHeartbeats 4000000
namespace WC
open PySem PySem.W PySem.Calls PyProof.Rows
open PyProof

noncomputable abbrev compTests (ifs : List Expr) (env : Env) : Sem Bool := forIn ifs true fun c r => if r = true then do let ok ← isTrue c env (eval c env); pure (ForInStep.yield ok) else pure (ForInStep.yield r)

theorem comp_pair {b : Bool} {w : World} {A : Around} {R : Result → Shared → Prop} {s s₀ : Shared} {C D : Addr} {cenv : Env} {xi xc : Str} {pk pv pt pos : Pos} {x1 : Nat} {elt iter : Expr} {ifs : List Expr} {scope : Scope}
    {I : Addr} {fp : Shared → List Addr} {wr : Addr → Prop} {n : Nat} {P : Nat → Value → Value → Prop} {S : Nat → Shared → Prop} {Mid : Nat → Addr → Shared → Prop} {e₀ : Nat}
    (hh : A.handled = none) (W : Src2 s₀.heap w A I fp wr none n P S Mid) (X : In b s₀ C [] [(D, listOf (List.toArray []) e₀)] s) (hst : S 0 s) (ap : Apart b s₀ C [] fp wr none) (hDw : ¬ wr D) (hn : n ≤ 100000)
    (hfw : ∀ s a, a ∈ fp s → s₀.heap.get? a = none → wr a) (hlive : ∀ i s, S i s → ∀ a, wr a → a ∈ fp s ∧ ∃ o, s.heap.get? a = some o)
    (hC : cenv.locals = C) (hp : (cenv.scope.kind == .class || (cenv.scope.kind == .module && cenv.locals != cenv.globals)) = false) (hne : xi ≠ xc) (hxi : cenv.kindOf xi = some .local) (hxc : cenv.kindOf xc = some .local)
    (J : Nat → List Value → List (Addr × Obj) → Prop) (h0 : J 0 [] [])
    (step : ∀ (ok : Addr → Prop) i v0 v1 ys M own g e s, i < n → P i v0 v1 → J i ys M → (∀ q ∈ M, ok q.1 ∧ q.1 ≠ D) → ok D → (∀ a, ok a → ∀ p ∈ own, p.1 ≠ a) → In b (base s₀ g) C [(xi, v0), (xc, v1)] ((D, listOf (List.toArray ys) e) :: (M ++ own)) s →
      (∀ l' N' s', In b (base s₀ g) C l' (N' ++ own) s' → ok s'.heap.objs.size) →
      wpAny (model pw w) A (compTests ifs cenv) (fun t s₃ => if t = true
        then wpAny (model pw w) A (eval elt cenv) (fun y s₄ => ∃ M', In b (base s₀ g) C [(xi, v0), (xc, v1)] ((D, listOf (List.toArray ys) e) :: (M' ++ own)) s₄ ∧ J (i + 1) (ys ++ [y]) M' ∧ (∀ q ∈ M', ok q.1 ∧ q.1 ≠ D)) (fun _ _ => False) s₃
        else ∃ M', In b (base s₀ g) C [(xi, v0), (xc, v1)] ((D, listOf (List.toArray ys) e) :: (M' ++ own)) s₃ ∧ J (i + 1) ys M' ∧ (∀ q ∈ M', ok q.1 ∧ q.1 ≠ D)) (fun _ _ => False) s)
    (hR : ∀ ys e M s', In b s₀ C [] ((D, listOf (List.toArray ys) e) :: M) s' → J n ys M → (∀ q ∈ M, q.1 ≠ D) → R (.ok .next) s') :
    codeAny (model pw w) A (.compLoop (.ListComp elt [⟨.Tuple [.Name xi pk, .Name xc pv] x1 pt, iter, ifs, 0⟩] scope pos) 0 (.ref I) (.ref D) cenv) R s := by
  refine comp_go (fun k s' => ∃ i ys e M, S i s' ∧ In b s₀ C [] ((D, listOf (List.toArray ys) e) :: M) s' ∧ (∀ q ∈ M, ¬ wr q.1 ∧ q.1 ≠ D) ∧ J i ys M ∧ ys.length ≤ i ∧ i ≤ n ∧ k = n + 1 - i) ?_ (n + 1)
    ⟨0, [], e₀, [], hst, X, (fun _ h => nomatch h), h0, Nat.le_refl _, Nat.zero_le _, rfl⟩
  rintro k s' ⟨i, ys, e, M, hS, X', hM, hJ, hys, hi, rfl⟩
  have ap' : Apart b s₀ C (((D, listOf (List.toArray ys) e) :: M).map (·.1)) fp wr none := ⟨ap.Lf, ap.Lw, ap.new, fun a h q => by
    obtain ⟨p, hp, rfl⟩ := List.mem_map.mp q
    rcases List.mem_cons.mp hp with rfl | hp
    · exact hDw h
    · exact (hM p hp).1 h, ap.gen⟩
  by_cases hlt : i < n
  case neg =>
    have hin : i = n := by omega
    subst hin
    exact W.done _ _ _ hS fun s₁ m₁ => hR ys e M s₁ (X'.mv ap' m₁) hJ fun q hq => (hM q hq).2
  refine W.item i _ _ _ hlt hS fun T v0 v1 s₁ hP hT hMid m₁ => ?_
  refine W.go _ x1 pt i T _ _ _ hMid fun s₂ hS₂ m₂ kT => ?_
  have X₂ := (X'.mv ap' m₁).mv ap' m₂
  have hT₂ : s₂.heap.IsTuple T #[v0, v1] := hT.at fun o e => kT o e
  refine wpAny_assign_Tuple hh hT₂ rfl rfl fun h₃ hx₃ => ?_
  replace hx₃ : Heap.ExtBut s₂.heap.objs.size s₂.heap h₃ := hx₃
  have up₃ : ∀ b o, s₂.heap.get? b = some o → h₃.get? b = some o := fun b o x => hx₃ b o (Nat.ne_of_lt (Heap.lt_size x)) x
  have X₃ : In b s₀ C [] ((D, listOf (List.toArray ys) e) :: M) { s₂ with heap := h₃ } := X₂.keeps up₃ rfl rfl (.refl _ _)
  have hS₃ : S (i + 1) { s₂ with heap := h₃ } := W.frame _ _ _ hS₂ X₃.kp.keep (fun a _ o e => up₃ a o e) fun _ h => nomatch h
  have X₄ := X₃.rebase.own (fp := fp { s₂ with heap := h₃ }) (ap.Lf _)
  show wpAny _ A (do holding [v1] (assign (.Name xi pk) _ v0); do holding [] (assign (.Name xc pv) _ v1); pure ()) _ _ _
  refine wpAny_bind (wpAny_holding (wpAny_assign_Name (storec X₄ .nil (fun s₅ X₅ => ?_) hC hp hxi)))
  refine wpAny_bind (wpAny_holding (wpAny_assign_Name (storec X₅ (.tail hne .nil) (fun s₆ X₆ => wpAny_pure ?_) hC hp hxc)))
  have fin : ∀ M' s₇, In b (base s₀ s₂.gens) C [(xi, v0), (xc, v1)] (M' ++ ownOf s₀.heap (fp { s₂ with heap := h₃ }) h₃) s₇ → S (i + 1) s₇ := fun M' s₇ X₇ => by
    refine W.frame _ _ _ hS₃ X₇.kp.keep ?_ fun _ h => nomatch h
    exact In.held (s₀ := base s₀ s₂.gens) (s₁ := { s₂ with heap := h₃ }) (N := (D, listOf (List.toArray ys) e) :: M) X₃.rebase X₇
  have ownW : ∀ p ∈ ownOf s₀.heap (fp { s₂ with heap := h₃ }) h₃, wr p.1 := fun p hp => hfw _ _ (ownOf_sub p hp) (X₆.nw p (List.mem_append_right _ hp)).2.2
  have ownOk : ∀ a, ¬ wr a → ∀ p ∈ ownOf s₀.heap (fp { s₂ with heap := h₃ }) h₃, p.1 ≠ a := fun a ha p hp e => ha (e ▸ ownW p hp)
  have fresh : ∀ l' N' s', In b (base s₀ s₂.gens) C l' (N' ++ ownOf s₀.heap (fp { s₂ with heap := h₃ }) h₃) s' → ¬ wr s'.heap.objs.size := fun l' N' s' X₇ hw => by
    obtain ⟨hf, o, ho⟩ := hlive _ _ hS₃ _ hw
    have := In.held (s₀ := base s₀ s₂.gens) (s₁ := { s₂ with heap := h₃ }) (N := (D, listOf (List.toArray ys) e) :: M) X₃.rebase X₇ _ hf o ho
    exact Nat.lt_irrefl _ (Heap.lt_size this)
  refine wpAny_mono (step (fun a => ¬ wr a) i v0 v1 ys M _ _ e s₆ hlt hP hJ hM hDw ownOk X₆ fresh) (fun t s₇ h₇ => ?_) fun _ _ e => e
  cases t with
  | false =>
    simp only [Bool.false_eq_true, if_false] at h₇ ⊢
    obtain ⟨M', X₇, hJ₇, hM₇⟩ := h₇
    exact ⟨n + 1 - (i + 1), by omega, i + 1, ys, e, M', fin ((D, _) :: M') s₇ X₇, ((X₇.unbase (s := { s₂ with heap := h₃ }) X₃.gens).left (N := (D, listOf (List.toArray ys) e) :: M')).names (fun _ h => nomatch h) .nil, hM₇, hJ₇, by omega, hlt, rfl⟩
  | true =>
    simp only [if_true] at h₇ ⊢
    refine wpAny_mono h₇ (fun y s₈ h₈ => ?_) fun _ _ e => e
    obtain ⟨M', X₈, hJ₈, hM₈⟩ := h₈
    refine app_led (P := []) X₈ (fun _ h => nomatch h) (fun q hq => ?_) (by omega) fun s₉ X₉ => ?_
    · rcases List.mem_append.mp hq with hq | hq
      · exact (hM₈ q hq).2
      · exact ownOk D hDw q hq
    · exact ⟨n + 1 - (i + 1), by omega, i + 1, ys ++ [y], e + 1, M', fin ((D, _) :: M') s₉ X₉, ((X₉.unbase (s := { s₂ with heap := h₃ }) X₃.gens).left (N := (D, listOf (List.toArray (ys ++ [y])) (e + 1)) :: M')).names (fun _ h => nomatch h) .nil, hM₈, hJ₈, by simp; omega, hlt, rfl⟩
end WC

set_option maxHeartbeats 4000000
namespace WC
open PySem PySem.W PySem.Calls PyProof.Rows
open PyProof

/-- what a comprehension's loop leaves -/
noncomputable def CompOut (b : Bool) (s₂ : Shared) (C D : Addr) (G : List Value → List (Addr × Obj) → Prop) (r : Result) (s' : Shared) : Prop :=
  r = .ok .next ∧ ∃ ys e M, In b s₂ C [] ((D, listOf (List.toArray ys) e) :: M) s' ∧ G ys M ∧ (∀ q ∈ M, q.1 ≠ D)

theorem CompOut.made {b : Bool} {s₂ s' : Shared} {C D : Addr} {N : List (Addr × Obj)} (X : In b s₂ C [] N s') {h' : Heap} (hs : Heap.SameBut C s'.heap h') : KpG b s₂ { s' with heap := h' } ∧ Made s₂ { s' with heap := h' } N := by
  obtain ⟨m, F, H⟩ := X.fr
  refine ⟨⟨fun a o e => hs.extBut a o (Nat.ne_of_lt (Nat.lt_of_lt_of_le (Heap.lt_size e) F.above)) (F.keep a o e), X.os, X.drawn, X.gens⟩, fun q hq => ?_⟩
  obtain ⟨h1, h2, h3⟩ := X.nw q hq
  exact ⟨hs.extBut _ _ h2 h1, h3⟩

theorem comp_block {b : Bool} {w : World} {A : Around} {E : Value → Shared → Prop} {sB s₂ : Shared} {env : Env} {target elt iter : Expr} {ifs : List Expr} {scope : Scope} {pos : Pos} {I : Addr} {RR : Value → Env → Result → Shared → Prop} {G : List Value → List (Addr × Obj) → Prop}
    (kB : KpG b sB s₂) (hB : sB.heap.objs.size ≤ s₂.heap.objs.size) (hcell : ∀ y ∈ scope.names, y.2 ≠ .cell) (hkind : scope.kind = .function)
    (hself : ∀ (Q E : Value → Shared → Prop) (s' : Shared), (∀ b o, s₂.heap.get? b = some o → s'.heap.get? b = some o) → Q (.ref I) s' → wpAny (model pw w) A (pyIter (.ref I)) Q E s')
    (hloop : ∀ C D s₄, In b sB C [] [(D, listOf (List.toArray []) 0)] s₄ → (∀ b o, s₂.heap.get? b = some o → s₄.heap.get? b = some o) → D = s₂.heap.objs.size → C = s₂.heap.objs.size + 1 →
      codeAny (model pw w) A (.compLoop (.ListComp elt [⟨target, iter, ifs, 0⟩] scope pos) 0 (.ref I) (.ref D) (compEnv scope C env)) (CompOut b sB C D G) s₄)
    (hRR : ∀ C D r s', CompOut b sB C D G r s' → RR (.ref D) (compEnv scope C env) r s') :
    wpAny (model pw w) A (newList []) (fun acc s₃ => wpAny (model pw w) A (newFunctionEnv scope env.globals [] [] env.qual none .none (some env)) (fun cenv s₄ =>
      codeAny (model pw w) A (.compStart (.ListComp elt [⟨target, iter, ifs, 0⟩] scope pos) 0 (.ref I) acc { cenv with scope := scope }) (RR acc { cenv with scope := scope }) s₄) E s₃) E s₂ := by
  refine wpAny_newObj_type (wpAny_newFunctionEnv hcell (by intro y hy; simp at hy) (fun h₁ hns₁ hsb₁ => ?_) hkind)
  dsimp only at hns₁ hsb₁ ⊢
  generalize hH2 : s₂.heap.push { cls := .type "list", dict := none, data := .seq ([] : List Value).toArray } = H2 at hns₁ hsb₁ ⊢
  have hC : H2.objs.size = s₂.heap.objs.size + 1 := by rw [← hH2, Heap.size_push]
  have old : ∀ b o, s₂.heap.get? b = some o → h₁.get? b = some o := fun b o e => hsb₁.extBut b o (by rw [hC]; exact Nat.ne_of_lt (Nat.lt_succ_of_lt (Heap.lt_size e))) (Heap.get?_push_of_some _ (hH2 ▸ Heap.get?_push_of_some _ e))
  have hacc : h₁.get? s₂.heap.objs.size = some (listOf (List.toArray []) 0) := hsb₁.extBut _ _ (by rw [hC]; exact Nat.ne_of_lt (Nat.lt_succ_self _)) (Heap.get?_push_of_some _ (hH2 ▸ Heap.get?_push_size _ rfl))
  have X : ∀ tk, In b sB H2.objs.size [] [(s₂.heap.objs.size, listOf (List.toArray []) 0)] { s₂ with heap := h₁, toks := tk } := fun tk => by
    refine ⟨⟨_, ⟨hns₁, fun a o e => old a o (kB.keep a o e), by rw [hC]; exact Nat.le_succ_of_le hB⟩, trivial⟩, .nil, fun p hp => ?_, kB.os, kB.drawn, kB.gens⟩
    rw [List.mem_singleton.mp hp]
    exact ⟨hacc, by rw [hC]; exact Nat.ne_of_lt (Nat.lt_succ_self _), Heap.get?_none_of_le hB⟩
  have loop := fun tk => codeAny_mono (hloop _ _ _ (X tk) old rfl hC) fun r s' hr => hRR _ _ r s' hr
  exact codeAny_compStart_list (loop _) (hself _ _ _ old (loop _))

theorem In.sameBut {b : Bool} {s₀ s : Shared} {L C : Addr} {l : List (Str × Value)} {N : List (Addr × Obj)} (X : In b s₀ L l N s) {h' : Heap} {tk : Nat} (hs : Heap.SameBut C s.heap h') (hL : L ≠ C) (hN : ∀ q ∈ N, q.1 ≠ C) (h0 : s₀.heap.get? C = none) : In b s₀ L l N { s with heap := h', toks := tk } := by
  obtain ⟨⟨m, F, H⟩, nd, nw, os, dr, g⟩ := X
  refine ⟨⟨m, ⟨F.ns.sameBut hs hL, fun a o e => hs.extBut a o (fun q => by rw [q, h0] at e; cases e) (F.keep a o e), F.above⟩, H⟩, nd, fun p hp => ?_, os, dr, g⟩
  obtain ⟨h1, h2, h3⟩ := nw p hp
  exact ⟨hs.extBut _ _ (hN p hp) h1, h2, h3⟩

/-- a comprehension that is stored in a local -/
theorem st_comp {b : Bool} {w : World} {A : Around} {s s₀ : Shared} {nm : Str} {sc : Scope} {L a : Addr} {cd : Value} {l : List (Str × Value)} {l' : Value → List (Str × Value)} {N : List (Addr × Obj)} {y : Str} {py spos : Pos} {target elt iter : Expr} {ifs : List Expr} {scope : Scope} {pos : Pos} {Q : Flow → Shared → Prop} (G : List Value → List (Addr × Obj) → Prop)
    (hu : ∀ v, Upd1 y v l (l' v))
    (hsw : swapsWith (.ListComp elt [⟨target, iter, ifs, 0⟩] scope pos) (some (.Name y py)) spos.line (envOf nm sc L a cd) = pure true)
    (hfree : ∀ y ∈ scope.names, y.2 ≠ .free) (hcell : ∀ y ∈ scope.names, y.2 ≠ .cell) (hkind : scope.kind = .function) (hnames : ∀ y ∈ scope.names, y.2 = .local → scope.names.lookup y.1 = some .local)
    (h : wpAny (model pw w) A (eval iter (envOf nm sc L a cd)) (fun xv s₁ => wpAny (model pw w) A (pyIter xv) (fun it s₂ => ∃ I sB, it = .ref I ∧ In b s₀ L l N sB ∧ KpG b sB s₂ ∧ sB.heap.objs.size ≤ s₂.heap.objs.size ∧
      (∀ (Q E : Value → Shared → Prop) (s' : Shared), (∀ b o, s₂.heap.get? b = some o → s'.heap.get? b = some o) → Q (.ref I) s' → wpAny (model pw w) A (pyIter (.ref I)) Q E s') ∧
      (∀ C D s₄, In b sB C [] [(D, listOf (List.toArray []) 0)] s₄ → (∀ b o, s₂.heap.get? b = some o → s₄.heap.get? b = some o) → D = s₂.heap.objs.size → C = s₂.heap.objs.size + 1 →
        codeAny (model pw w) A (.compLoop (.ListComp elt [⟨target, iter, ifs, 0⟩] scope pos) 0 (.ref I) (.ref D) (compEnv scope C (envOf nm sc L a cd))) (CompOut b sB C D G) s₄) ∧
      (∀ D ys e M s', (∀ q ∈ (D, listOf (List.toArray ys) e) :: M, ∀ p ∈ N, q.1 ≠ p.1) → G ys M → (∀ q ∈ M, q.1 ≠ D) → In b s₀ L (l' (.ref D)) (((D, listOf (List.toArray ys) e) :: M) ++ N) s' → Q .next s')) (fun _ _ => False) s₁) (fun _ _ => False) s)
    (hs : ∀ x, foldedSetIterable iter (envOf nm sc L a cd) x = pure x := by intro _; rfl)
    (hk : sc.kind = .function := by kernel_rfl!) (hl : (envOf nm sc L a cd).kindOf y = some .local := by kernel_rfl!) :
    wpAny (model pw w) A (exec (.Assign [.Name y py] (.ListComp elt [⟨target, iter, ifs, 0⟩] scope pos) spos) (envOf nm sc L a cd)) Q (fun _ _ => False) s := by
  rw [exec_Assign_Name_used _ _ _ _ hsw]
  refine wpAny_bind (wpAny_standAt (wpAny_bind ?_))
  show wpAny _ A (do let _ ← comprehension (.ListComp elt [⟨target, iter, ifs, 0⟩] scope pos) scope (envOf nm sc L a cd) _ (newList []) false (eval iter (envOf nm sc L a cd)) (some (assign (.Name y py) (envOf nm sc L a cd)))) _ _ s
  refine wpAny_bind (wpAny_mono (wpAny_comprehension_use (Q := fun _ s' => Q .next s') rfl hs hfree hkind hnames (wpAny_mono h (fun xv s₁ h₁ => wpAny_mono h₁ (fun it s₂ h₂ => ?_) fun _ _ e => e) fun _ _ e => e))
    (fun _ s' hq => wpAny_pure (wpAny_pure hq)) fun _ _ e => e)
  obtain ⟨I, sB, rfl, X₂, kB, hB, hself, hloop, hQ⟩ := h₂
  refine comp_block (RR := fun acc cenv r s' => match r with
      | .ok _ => wpAny (model pw w) A (assign (.Name y py) (envOf nm sc L a cd) acc) (fun _ s'' => ∃ m, s''.heap.Ns cenv.locals m ∧ ∀ h', Heap.SameBut cenv.locals s''.heap h' → Q .next { s'' with heap := h' }) (fun _ _ => False) s'
      | .error x => ∃ m, s'.heap.Ns cenv.locals m ∧ ∀ h', Heap.SameBut cenv.locals s'.heap h' → wpAny (model pw w) A (passOn "comprehension.variables-let-go" x cenv) (fun _ s' => Q .next s') (fun _ _ => False) { s' with heap := h' }) kB hB hcell hkind hself hloop ?_
  rintro C D r s' ⟨rfl, ys, e, M, X, hG, hM⟩
  obtain ⟨m, F, H⟩ := X.fr
  have hmade : Made sB s' ((D, listOf (List.toArray ys) e) :: M) := fun q hq => ⟨(X.nw q hq).1, (X.nw q hq).2.2⟩
  have Y := X₂.made X.kp hmade (by cases b <;> rfl)
  obtain ⟨m₂, F₂, H₂⟩ := X₂.fr
  have hLs : L < sB.heap.objs.size := F₂.ns.lt
  have hLC : L ≠ C := Nat.ne_of_lt (Nat.lt_of_lt_of_le hLs F.above)
  have hCn : sB.heap.get? C = none := Heap.get?_none_of_le F.above
  have h0C : s₀.heap.get? C = none := by
    cases q : s₀.heap.get? C with
    | none => rfl
    | some o => rw [F₂.keep _ _ q] at hCn; cases hCn
  have hNC : ∀ q ∈ ((D, listOf (List.toArray ys) e) :: M) ++ N, q.1 ≠ C := fun q hq => by
    rcases List.mem_append.mp hq with hq | hq
    · exact (X.nw q hq).2.1
    · exact Nat.ne_of_lt (Nat.lt_of_lt_of_le (Heap.lt_size (X₂.nw q hq).1) F.above)
  obtain ⟨⟨mY, FY, HY⟩, ndY, nwY, osY, drY, gY⟩ := Y
  refine wpAny_assign_Name (wpAny_storeName_local hl FY.ns (fun h₂ hn₂ hs₂ => ?_) (by show (sc.kind == .class || (sc.kind == .module && L != mainGlobals)) = false; rw [hk]; rfl))
  have Y₂ : In b s₀ L (l' (.ref D)) (((D, listOf (List.toArray ys) e) :: M) ++ N) { s' with heap := h₂, toks := s'.toks + 1 } :=
    ⟨⟨_, FY.set hn₂ hs₂, (hu _).has ndY HY⟩, (hu _).nodup ndY, nwY.set hs₂, osY, drY, gY⟩
  refine ⟨m, F.ns.sameBut hs₂ (Ne.symm hLC), fun h₃ hs₃ => ?_⟩
  refine hQ D ys e M _ (fun q hq p hp e' => ?_) hG hM (Y₂.sameBut (tk := s'.toks + 1) hs₃ hLC hNC h0C)
  have h1 := (X.nw q hq).2.2
  rw [e', (X₂.nw p hp).1] at h1; cases h1
end WC

set_option maxHeartbeats 4000000
namespace WC
open PySem PySem.W PySem.Calls PyProof.Rows
open PyProof

/-- `xs[lo:hi] = new`, the bounds within the list -/
theorem setSlice {w : World} {A : Around} {E : Value → Shared → Prop} {s : Shared} {D B sl : Addr} {items new : Array Value} {n : Nat} {lo hi : Nat} {tl th : Tok} {Q : Unit → Shared → Prop}
    (hD : s.heap.get? D = some (listOf items n)) (hB : s.heap.IsList B new) (hDB : D ≠ B) (hs : s.heap.IsSliceOf sl (.int (lo : Nat) tl) (.int (hi : Nat) th) .none) (h1 : lo ≤ hi) (h2 : hi ≤ items.size) (hsz : items.size + new.size ≤ 100000)
    (h : ∀ h' n', Heap.SameBut D s.heap h' → h'.get? D = some (listOf (items.extract 0 lo ++ new ++ items.extract hi items.size) n') → Q () { s with heap := h' }) :
    wpAny (model pw w) A (setItem (.ref D) (.ref sl) (.ref B)) Q E s := by
  have hl : s.heap.IsList D items := ⟨_, hD, rfl, _, rfl⟩
  obtain ⟨os, hos, hcs, hds⟩ := id hs
  have hTs : s.TypeIs (.ref sl) "slice" := ⟨os, hos, hcs⟩
  unfold setItem
  try with_reducible refine wpAny_holding ?_
  first | refine wpAny_bind (wpAny_pure ?_) | skip
  refine wpAny_bind (wpAny_sequenceKey hl.typeIs (by decide) ?_)
  refine wpAny_bind (wpAny_callSpecial?_slot (name := Str.ofString "__setitem__") hl.typeIs slot_list_setitem
    (wpAny_call_entry slot_list_setitem hl.typeIs entry_list_setitem ?_ (args_list_setitem _ _ _)))
  show wpAny _ _ (Builtin.List.listSubscript? (.ref sl) >>= _) _ _ s
  refine wpAny_bind ?_
  unfold Builtin.List.listSubscript?
  refine wpAny_bind (wpAny_specialOf hTs slice_no_index ?_)
  simp only [Option.isNone_none, if_true]
  refine wpAny_pure ?_
  show wpAny _ _ (typeOf (.ref sl) >>= _) _ _ s
  refine wpAny_bind (wpAny_typeOf hTs ?_)
  rw [if_neg (by decide)]
  rw [listSliceParts_eq]
  refine wpAny_bind (wpAny_bind (wpAny_field hos hds (x := .none) rfl (wpAny_bind (wpAny_listPart IsPart.none ?_))))
  rw [if_neg (show ¬ ((rawPart none == rawInt 0) = true) from Bool.false_ne_true)]
  refine wpAny_bind (wpAny_field hos hds (x := .int (lo : Nat) tl) rfl (wpAny_bind (wpAny_listPart (IsPart.int _ _) ?_)))
  refine wpAny_bind (wpAny_field hos hds (x := .int (hi : Nat) th) rfl (wpAny_bind (wpAny_listPart (IsPart.int _ _) (wpAny_pure ?_))))
  rw [show Builtin.List.listSameRef (.ref D) (.ref B) = false by
    simp [Builtin.List.listSameRef]; exact hDB]
  simp only [Bool.false_eq_true, if_false]
  refine wpAny_bind (m := Builtin.List.listAllItems (.ref B) _) ?_
  unfold Builtin.List.listAllItems
  refine wpAny_bind (wpAny_typeOf hB.typeIs ?_)
  rw [if_pos (by decide)]
  obtain ⟨oB, hoB, hcB, nB, hdB⟩ := id hB
  refine wpAny_bind (wpAny_seqItems hoB hdB (wpAny_pure ?_))
  refine wpAny_bind (listItems_at hD rfl ?_)
  refine wpAny_bind (wpAny_of_eq (sliceIndices_raw (some (lo : Nat)) (some (hi : Nat)) none items.size (by simp)) ?_)
  have hb : sliceBounds (some ((lo : Nat) : Int)) (some ((hi : Nat) : Int)) none items.size = (((lo : Nat) : Int), ((hi : Nat) : Int), (1 : Int)) := by
    simp only [sliceBounds, Option.getD_none, show (1 : Int) > 0 by decide, if_true]
    rw [if_neg (by omega), if_neg (by omega)]
    congr 1
    · omega
    · congr 1; omega
  rw [hb]
  dsimp only
  rw [if_pos (by decide)]
  refine wpAny_bind (wpAny_rule ?_)
  rw [if_neg (by unfold Builtin.List.listTooLong; simp only [decide_eq_true_eq]; rw [sizeLine_eq]; omega)]
  have e1 : ((lo : Nat) : Int).toNat = lo := by omega
  have e2 : (max ((lo : Nat) : Int) ((hi : Nat) : Int)).toNat = hi := by omega
  rw [e1, e2]
  refine wpAny_bind (listUpdate_at (xs := items) hD rfl ?_ (by rw [sizeLine_eq]; omega) (by simp only [Array.size_append, Array.size_extract]; rw [sizeLine_eq]; omega))
  refine wpAny_bind (wpAny_letGo ?_)
  have hfin : (s.heap.update D (Obj.mapSeq fun xs => xs.extract 0 lo ++ new ++ xs.extract hi)).get? D = some (Obj.mapSeq (fun xs => xs.extract 0 lo ++ new ++ xs.extract hi) (listOf items n)) := Heap.get?_update_self _ hD rfl
  exact wpAny_pure ⟨.none, rfl, wpAny_pure (h _ _ (Heap.SameBut.update ..) hfin)⟩
end WC

set_option maxHeartbeats 4000000
namespace WC
open PySem PySem.W PySem.Calls PyProof.Rows
open PyProof

theorem for_oneG {b : Bool} {w : World} {A : Around} {s s₀ : Shared} {nm : Str} {sc : Scope} {L a : Addr} {cd : Value} {l : List (Str × Value)} {N : List (Addr × Obj)} {x : Str} {px : Pos} {body : List Stmt}
    {R : Result → Shared → Prop} {I : Addr} {fp wr : List Addr} {n : Nat} {P : Nat → Value → Prop} {S : Nat → Shared → Prop}
    (W : Src1 w A I fp wr n P S) (X : In b s₀ L l N s) (hst : S 0 s) (ap : Apart b s₀ L [] (fun _ => fp) (· ∈ wr) none) (led : ∀ q ∈ N, q.1 ∉ wr)
    (hfw : ∀ a ∈ fp, s₀.heap.get? a = none → a ∈ wr) (hlive : ∀ i s, S i s → ∀ a ∈ wr, a ∈ fp ∧ ∃ o, s.heap.get? a = some o)
    (J : Nat → List (Str × Value) → List (Addr × Obj) → Prop) (h0 : J 0 l N) (hl0 : ∀ p ∈ l, p.1 ≠ x)
    (step : ∀ i v l₁ N₁ own g s, i < n → P i v → J i l₁ N₁ → (∀ q ∈ N₁, q.1 ∉ wr) → (∀ p ∈ l₁, p.1 ≠ x) → (∀ a, a ∉ wr → ∀ p ∈ own, p.1 ≠ a) → In b (base s₀ g) L (l₁ ++ [(x, v)]) (N₁ ++ own) s →
      (∀ l' N' s', In b (base s₀ g) L l' N' s' → In b s₀ L l' N' s') → (∀ l' N' s', In b (base s₀ g) L l' (N' ++ own) s' → s'.heap.objs.size ∉ wr) →
      wpAny (model pw w) A (execs body (envOf nm sc L a cd)) (fun f s' => match f with
        | .next | .cont => ∃ l' N', In b (base s₀ g) L l' (N' ++ own) s' ∧ J (i + 1) l' N' ∧ (∀ p ∈ l', p.1 ≠ x) ∧ (∀ q ∈ N', q.1 ∉ wr)
        | .brk => R (.ok .next) s'
        | .ret v => R (.ok (.ret v)) s') (fun _ _ => False) s)
    (hR : ∀ l' N' s', In b s₀ L l' N' s' → J n l' N' → R (.ok .next) s')
    (hk : sc.kind = .function := by kernel_rfl!) (hxi : (envOf nm sc L a cd).kindOf x = some .local := by kernel_rfl!) :
    codeAny (model pw w) A (.forLoop (.Name x px) (.ref I) body [] (envOf nm sc L a cd)) R s := by
  refine codeAny_forLoop_any (fun k s' => ∃ l' N' i, S i s' ∧ In b s₀ L l' N' s' ∧ (∀ q ∈ N', q.1 ∉ wr) ∧ J i l' N' ∧ (∀ p ∈ l', p.1 ≠ x) ∧ i ≤ n ∧ k = n + 1 - i) ?_ (n + 1)
    ⟨l, N, 0, hst, X, led, h0, hl0, Nat.zero_le _, rfl⟩
  rintro k s' ⟨l', N', i, hS, X', hN, hJ, hl', hi, rfl⟩
  have ap' : Apart b s₀ L (N'.map (·.1)) (fun _ => fp) (· ∈ wr) none := ⟨ap.Lf, ap.Lw, ap.new, fun a h q => by obtain ⟨p, hp, rfl⟩ := List.mem_map.mp q; exact hN p hp h, ap.gen⟩
  by_cases hlt : i < n
  · refine W.item i _ _ _ hlt hS fun v s₁ hP hS₁ m₁ => ?_
    refine wpAny_of_eq (a := ()) rfl ?_
    have X₁ := X'.mv ap' m₁
    have X₄ := X₁.rebase.own (fp := fp) (ap.Lf s₁)
    refine wpAny_assign_Name (store_local X₄ (Upd1.new fun p hp => hl' p hp) (fun s₆ X₆ => ?_) hk hxi)
    have ownW : ∀ p ∈ ownOf s₀.heap fp s₁.heap, p.1 ∈ wr := fun p hp => hfw _ (ownOf_sub p hp) (X₆.nw p (List.mem_append_right _ hp)).2.2
    have held := fun l'' N'' s'' (I'' : In b (base s₀ s₁.gens) L l'' (N'' ++ ownOf s₀.heap fp s₁.heap) s'') => In.held (s₀ := base s₀ s₁.gens) (s₁ := s₁) (N := N') X₁.rebase I''
    refine wpAny_mono (step i v l' N' _ _ s₆ hlt hP hJ hN hl' (fun a ha p hp e => ha (e ▸ ownW p hp)) X₆ (fun _ _ _ I' => I'.unbase (s := s₁) X₁.gens) fun l'' N'' s'' I'' hw => by
      obtain ⟨hf, o, ho⟩ := hlive _ _ hS₁ _ hw
      exact Nat.lt_irrefl _ (Heap.lt_size (held l'' N'' s'' I'' _ hf o ho))) (fun f s₇ h₇ => ?_) fun _ _ e => e.elim
    have fin : (∃ l'' N'', In b (base s₀ s₁.gens) L l'' (N'' ++ ownOf s₀.heap fp s₁.heap) s₇ ∧ J (i + 1) l'' N'' ∧ (∀ p ∈ l'', p.1 ≠ x) ∧ (∀ q ∈ N'', q.1 ∉ wr)) →
          ∃ m, m < n + 1 - i ∧ ∃ l' N' i, S i s₇ ∧ In b s₀ L l' N' s₇ ∧ (∀ q ∈ N', q.1 ∉ wr) ∧ J i l' N' ∧ (∀ p ∈ l', p.1 ≠ x) ∧ i ≤ n ∧ m = n + 1 - i := by
        rintro ⟨l'', N'', X₇, hJ₇, hl₇, hN₇⟩
        refine ⟨n + 1 - (i + 1), by omega, l'', N'', i + 1, ?_, (X₇.unbase (s := s₁) X₁.gens).left, hN₇, hJ₇, hl₇, hlt, rfl⟩
        exact W.frame _ _ _ hS₁ (In.held (s₀ := base s₀ s₁.gens) (s₁ := s₁) (N := N') X₁.rebase X₇)
    cases f with
    | next => exact fin h₇
    | cont => exact fin h₇
    | brk => exact h₇
    | ret v => exact h₇
  · have hin : i = n := by omega
    subst hin
    refine W.done _ _ _ hS fun s₁ m₁ => wpAny_execs_nil ?_
    exact hR l' N' s₁ (X'.mv ap' m₁) hJ


/-- a list as a source; all that it stands on counts as its own -/
theorem src_list {w : World} {A : Around} (hh : A.handled = none) (I B : Addr) (hne : B ≠ I) (items : Array Value) :
    Src1 w A I [I, B] [I, B] items.size (fun i v => items[i]? = some v) (fun i s => s.heap.IsListIter I B i ∧ s.heap.IsList B items) := by
  have W := Src1.of (w := w) (Walks.list (prog := pw) (w := w) (A := A) hh I B hne items)
  refine ⟨W.frame, fun i s Q E hi hS hQ => W.item i s Q E hi hS fun v s' hv hS' m => hQ v s' hv hS' ?_, fun s Q E hS hQ => W.done s Q E hS fun s' m => hQ s' ?_⟩ <;>
  exact ⟨fun b o hb e => m.heap b o (fun h => hb (by rw [List.mem_singleton.mp h]; exact .head _)) e, m.os, m.drawn, m.gens⟩

/-- a loop over a list of one's own -/
theorem for_list {b : Bool} {w : World} {A : Around} {E : Value → Shared → Prop} {s s₀ : Shared} {nm : Str} {sc : Scope} {L a : Addr} {cd : Value} {l : List (Str × Value)} {N : List (Addr × Obj)} {x : Str} {px : Pos} {body : List Stmt}
    {R : Result → Shared → Prop} {B : Addr} {items : Array Value} (hh : A.handled = none) (X : In b s₀ L l N s) (hB : s.heap.IsList B items) (hB0 : s₀.heap.get? B = none) (hBL : B ≠ L) (hBN : ∀ q ∈ N, q.1 ≠ B)
    (J : Nat → List (Str × Value) → List (Addr × Obj) → Prop) (h0 : J 0 l N) (hl0 : ∀ p ∈ l, p.1 ≠ x)
    (step : ∀ (wr : List Addr) i v l₁ N₁ own g s, items[i]? = some v → J i l₁ N₁ → (∀ q ∈ N₁, q.1 ∉ wr) → (∀ p ∈ l₁, p.1 ≠ x) → (∀ a, a ∉ wr → ∀ p ∈ own, p.1 ≠ a) → In b (base s₀ g) L (l₁ ++ [(x, v)]) (N₁ ++ own) s →
      (∀ l' N' s', In b (base s₀ g) L l' N' s' → In b s₀ L l' N' s') → (∀ l' N' s', In b (base s₀ g) L l' (N' ++ own) s' → s'.heap.objs.size ∉ wr) →
      wpAny (model pw w) A (execs body (envOf nm sc L a cd)) (fun f s' => match f with
        | .next | .cont => ∃ l' N', In b (base s₀ g) L l' (N' ++ own) s' ∧ J (i + 1) l' N' ∧ (∀ p ∈ l', p.1 ≠ x) ∧ (∀ q ∈ N', q.1 ∉ wr)
        | .brk => R (.ok .next) s'
        | .ret v => R (.ok (.ret v)) s') (fun _ _ => False) s)
    (hR : ∀ l' N' s', In b s₀ L l' N' s' → J items.size l' N' → R (.ok .next) s')
    (hk : sc.kind = .function := by kernel_rfl!) (hxi : (envOf nm sc L a cd).kindOf x = some .local := by kernel_rfl!) :
    wpAny (model pw w) A (pyIter (.ref B)) (fun it s₂ => codeAny (model pw w) A (.forLoop (.Name x px) it body [] (envOf nm sc L a cd)) R s₂) E s := by
  refine wpAny_pyIter_list hB ?_
  obtain ⟨m, F, H⟩ := X.fr
  have hL : L < s.heap.objs.size := F.ns.lt
  have hLo : s₀.heap.objs.size ≤ L := F.above
  have hBs : B < s.heap.objs.size := by obtain ⟨o, ho, _⟩ := hB; exact Heap.lt_size ho
  have hnew : s₀.heap.get? s.heap.objs.size = none := Heap.get?_none_of_le (Nat.le_of_lt (Nat.lt_of_le_of_lt hLo hL))
  have keep : ∀ (o' : Obj) b o, s.heap.get? b = some o → (s.heap.push o').get? b = some o := fun o' b o e => Heap.get?_push_of_some _ e
  have X₁ := X.keeps (s' := { s with heap := s.heap.push { cls := .type "list_iterator", data := .fields #[.ref B, .int 0 0] } }) (keep _) rfl rfl (.refl _ _)
  have hnm : ∀ {a}, a ∈ [s.heap.objs.size, B] → a = s.heap.objs.size ∨ a = B := fun h => by
    rcases List.mem_cons.mp h with h | h
    · exact .inl h
    · exact .inr (List.mem_singleton.mp h)
  refine for_oneG (src_list hh s.heap.objs.size B (Nat.ne_of_lt hBs) items) X₁ ⟨⟨_, Heap.get?_push_size _ rfl, rfl, rfl⟩, hB.push _⟩ ?_ ?_ ?_ ?_ J h0 hl0 (fun i v l₁ N₁ own g s hi hv => step _ i v l₁ N₁ own g s hv) hR hk hxi
  · refine Apart.list (fun h => ?_) (fun _ h => h) (fun a h => ?_) fun a h q => nomatch q
    · rcases hnm h with e | e
      · exact Nat.ne_of_lt hL e
      · exact hBL e.symm
    · rcases hnm h with rfl | rfl
      · exact hnew
      · exact hB0
  · intro q hq h
    rcases hnm h with e | e
    · exact Nat.ne_of_lt (Heap.lt_size (X.nw q hq).1) e
    · exact hBN q hq e
  · exact fun a h _ => h
  · rintro i s' ⟨hI, hBl⟩ a h
    refine ⟨h, ?_⟩
    rcases hnm h with rfl | rfl
    · obtain ⟨o, ho, _⟩ := hI; exact ⟨o, ho⟩
    · obtain ⟨o, ho, _⟩ := hBl; exact ⟨o, ho⟩
end WC

set_option maxHeartbeats 4000000
namespace WC
open PySem PySem.W PySem.Calls PyProof.Rows
open PyProof

noncomputable def AllV {α : Type} (R : Value → α → Prop) : List Value → List α → Prop
  | [], [] => True
  | v :: vs, p :: ps => R v p ∧ AllV R vs ps
  | _, _ => False
section
variable {α : Type} {R R' : Value → α → Prop}
theorem AllV.mono (k : ∀ v p, R v p → R' v p) : ∀ {vs : List Value} {ps : List α}, AllV R vs ps → AllV R' vs ps
  | [], [], _ => trivial
  | [], _ :: _, h => h.elim
  | _ :: _, [], h => h.elim
  | _ :: _, _ :: _, h => ⟨k _ _ h.1, h.2.mono k⟩
theorem AllV.length : ∀ {vs : List Value} {ps : List α}, AllV R vs ps → vs.length = ps.length
  | [], [], _ => rfl
  | [], _ :: _, h => h.elim
  | _ :: _, [], h => h.elim
  | _ :: _, _ :: _, h => by simp [h.2.length]
theorem AllV.append : ∀ {vs ws : List Value} {ps qs : List α}, AllV R vs ps → AllV R ws qs → AllV R (vs ++ ws) (ps ++ qs)
  | [], _, [], _, _, k => k
  | [], _, _ :: _, _, h, _ => h.elim
  | _ :: _, _, [], _, h, _ => h.elim
  | _ :: _, _, _ :: _, _, h, k => ⟨h.1, h.2.append k⟩
theorem AllV.take : ∀ {vs : List Value} {ps : List α} (n : Nat), AllV R vs ps → AllV R (vs.take n) (ps.take n)
  | _, _, 0, _ => trivial
  | [], [], _ + 1, _ => trivial
  | [], _ :: _, _ + 1, h => h.elim
  | _ :: _, [], _ + 1, h => h.elim
  | _ :: _, _ :: _, n + 1, h => ⟨h.1, h.2.take n⟩
theorem AllV.drop : ∀ {vs : List Value} {ps : List α} (n : Nat), AllV R vs ps → AllV R (vs.drop n) (ps.drop n)
  | _, _, 0, h => h
  | [], [], _ + 1, _ => trivial
  | [], _ :: _, _ + 1, h => h.elim
  | _ :: _, [], _ + 1, h => h.elim
  | _ :: _, _ :: _, n + 1, h => h.2.drop n
theorem AllV.get : ∀ {vs : List Value} {ps : List α} (i : Nat) (d : α), AllV R vs ps → i < ps.length → ∃ v, vs[i]? = some v ∧ R v (ps.getD i d)
  | [], [], _, _, _, h => by simp at h
  | [], _ :: _, _, _, h, _ => h.elim
  | _ :: _, [], _, _, h, _ => h.elim
  | v :: _, _ :: _, 0, _, h, _ => ⟨v, rfl, h.1⟩
  | _ :: _, _ :: _, i + 1, d, h, hi => by
    obtain ⟨v, h1, h2⟩ := h.2.get i d (by simpa using hi)
    exact ⟨v, by simpa using h1, by simpa using h2⟩
end
noncomputable def NatV (v : Value) (n : Nat) : Prop := ∃ t, v = .int (n : Nat) t

noncomputable abbrev Row := List Nat × Nat × Nat
noncomputable abbrev rowO (r : Row) (t1 t2 t3 : Tok) (n : Nat) : Obj := { cls := .type "tuple", data := .seq #[.str (tx r.1) t1, .int (r.2.1 : Nat) t2, .int (r.2.2 : Nat) t3] n }
noncomputable def RowN (N : List (Addr × Obj)) (v : Value) (r : Row) : Prop := ∃ T t1 t2 t3 n, v = .ref T ∧ (T, rowO r t1 t2 t3 n) ∈ N
theorem RowN.mono {N N' : List (Addr × Obj)} (k : ∀ q ∈ N, q ∈ N') (v : Value) (r : Row) (h : RowN N v r) : RowN N' v r := let ⟨T, t1, t2, t3, n, e, m⟩ := h; ⟨T, t1, t2, t3, n, e, k _ m⟩

noncomputable def signsN : List Nat := [119813, 40, 41, 383, 223, 64257]
noncomputable def rowTx (n : Nat) : List Nat := ([34] ++ [signsN.getD (n % 6) 0]) ++ [173, 34]
noncomputable def rowsAt (ns : List Nat) (i : Nat) : List Row := (List.range i).map fun j => (rowTx (ns.getD j 0), j, j + 1)
theorem rowsAt_succ (ns : List Nat) (i : Nat) : rowsAt ns (i + 1) = rowsAt ns i ++ [(rowTx (ns.getD i 0), i, i + 1)] := by
  unfold rowsAt; rw [List.range_succ, List.map_append]; rfl
theorem signN_get {m : Nat} (h : m < signsN.length) : signsN.getD m 0 = signsN[m] := by rw [List.getD_eq_getElem?_getD, List.getElem?_eq_getElem h, Option.getD_some]
theorem signN_mod (m : Nat) : m % 6 < signsN.length := Nat.lt_of_lt_of_le (Nat.mod_lt _ (by decide)) (by decide)
theorem rowTx_eq (m : Nat) : rowTx m = ([34] ++ [signsN[m % 6]'(signN_mod m)]) ++ [173, 34] := by unfold rowTx; rw [signN_get (signN_mod m)]
theorem eNames : Str.ofString "𝐅()ſßﬁ" = tx signsN := by decide +kernel
theorem eQ : Str.ofString "\"" = tx [34] := by decide +kernel
theorem eSQ : Str.ofString "\u00ad\"" = tx [173, 34] := by decide +kernel
theorem modn_In {b : Bool} {w : World} {A : Around} {E : Value → Shared → Prop} {s s₀ : Shared} {L : Addr} {l : List (Str × Value)} {N : List (Addr × Obj)} {i k : Nat} {c : Int} {t u : Tok} {Q : Value → Shared → Prop} (hc : c = (k : Nat)) (hk : 0 < k) (X : In b s₀ L l N s) (h : ∀ t' s', In b s₀ L l N s' → Q (.int ((i % k : Nat) : Int) t') s') : wpAny (model pw w) A (binaryOp .Mod (.int (i : Nat) t) (.int c u)) Q E s := by
  subst hc
  refine mod_int' (by omega) ?_
  have := h s.toks _ (X.toks (s.toks + 1))
  rw [show ((i : Nat) : Int).fmod ((k : Nat) : Int) = ((i % k : Nat) : Int) by rw [Int.fmod_eq_emod_of_nonneg _ (by omega)]; omega]
  exact this
theorem divn_In {b : Bool} {w : World} {A : Around} {E : Value → Shared → Prop} {s s₀ : Shared} {L : Addr} {l : List (Str × Value)} {N : List (Addr × Obj)} {i k : Nat} {c : Int} {t u : Tok} {Q : Value → Shared → Prop} (hc : c = (k : Nat)) (hk : 0 < k) (hk2 : k ≤ 1000) (X : In b s₀ L l N s) (h : ∀ t' s', In b s₀ L l N s' → Q (.int ((i / k : Nat) : Int) t') s') : wpAny (model pw w) A (binaryOp .FloorDiv (.int (i : Nat) t) (.int c u)) Q E s := by
  subst hc
  refine floordiv_int (by omega) ?_ (Or.inl (PyProof.noPylong_small (by omega)))
  have := h s.toks _ (X.toks (s.toks + 1))
  rw [show ((i : Nat) : Int).fdiv ((k : Nat) : Int) = ((i / k : Nat) : Int) by rw [Int.fdiv_eq_ediv_of_nonneg _ (by omega)]; omega]
  exact this

/-- the row's comprehension -/
theorem c_row {w : World} {os : OsState} {A : Around} {s s₀ : Shared} {a : Addr} {items : List Value} {ns : List Nat} {l : List (Str × Value)} {N : List (Addr × Obj)} {L : Addr} {Q : Flow → Shared → Prop} {l' : Value → List (Str × Value)}
    (C : Cx w os s₀.heap) {n : Nat} (R : Room A n) (X : In true s₀ L l N s) (hv : (Str.ofString "numbers", .ref a) ∈ l) (hl : s₀.heap.IsList a items.toArray) (hns : AllV NatV items ns) (hz : ns.length ≤ 1000) (hu : ∀ v, Upd1 (Str.ofString "row") v l (l' v))
    (h : ∀ D ys e M s', (∀ q ∈ (D, listOf (List.toArray ys) e) :: M, ∀ p ∈ N, q.1 ≠ p.1) → AllV (RowN M) ys (rowsAt ns ns.length) → (∀ q ∈ M, q.1 ≠ D) → In true s₀ L (l' (.ref D)) (((D, listOf (List.toArray ys) e) :: M) ++ N) s' → wpAny (model pw w) A (execs ((fbody (stI 14)).drop 1) (envOf (sO "_law_drawn") (fscope (stI 14)) L 136 (.ref 135))) Q (fun _ _ => False) s') :
    wpAny (model pw w) A (execs (fbody (stI 14)) (envOf (sO "_law_drawn") (fscope (stI 14)) L 136 (.ref 135))) Q (fun _ _ => False) s := by
  refine wpAny_execs_cons (st_comp (b := true) (s₀ := s₀) (N := N) (fun ys M => AllV (RowN M) ys (rowsAt ns ns.length)) hu (by kernel_rfl!) (by decide +kernel) (by decide +kernel) rfl (by decide +kernel) ?_)
  refine Call_ (ev_blt (w := w) (os := os) C X (gl_enumerate w os) bb_enumerate nn_enumerate (callWith_type1 (spliced_more (ev_local X hv (spliced_none ?_)))))
  have hls : s.heap.IsList a items.toArray := hl.at fun o e => X.kp.keep a o e
  refine call_enumerate_list hls fun h' he hit hsz keep => ?_
  refine wpAny_pyIter_enum he ?_
  have has : a < s.heap.objs.size := by obtain ⟨o, ho, _⟩ := hls; exact Heap.lt_size ho
  have hlen := hns.length
  refine ⟨_, s, rfl, X, ⟨keep, rfl, rfl, .refl _ _⟩, by show _ ≤ h'.objs.size; rw [hsz]; omega, fun Q E s' k hq => wpAny_pyIter_enum (k _ _ he) hq, fun Cc D s₄ X₄ k₄ hD hC => ?_, fun D ys e M s' h1 h2 h3 h4 => h D ys e M s' h1 h2 h3 h4⟩
  have hA : A.handled = none := R.handled
  have hei : s.heap.objs.size + 1 ≠ s.heap.objs.size := Nat.succ_ne_self _
  have hnm : ∀ {b}, b ∈ [s.heap.objs.size + 1, s.heap.objs.size] → b = s.heap.objs.size + 1 ∨ b = s.heap.objs.size := fun h => by
    rcases List.mem_cons.mp h with h | h
    · exact .inl h
    · exact .inr (List.mem_singleton.mp h)
  have hDv : D = s.heap.objs.size + 2 := by rw [hD]; exact hsz
  have hCv : Cc = s.heap.objs.size + 3 := by rw [hC]; show h'.objs.size + 1 = _; rw [hsz]
  refine comp_pair (b := true) (s₀ := s) (n := items.toArray.size) (e₀ := 0) hA (Src2.of (P := fun i v0 v1 => ∃ t x, items[i]? = some x ∧ v0 = .int (i : Nat) t ∧ v1 = x) (WalksT.enumerate hA (s.heap.objs.size + 1) s.heap.objs.size a hei (Nat.ne_of_lt (Nat.lt_succ_of_lt has)) (Nat.ne_of_lt has) items.toArray) ?_) X₄ ?_ ?_ ?_ (by simp; omega) ?_ ?_ rfl (by kernel_rfl!) (by decide +kernel) (by kernel_rfl!) (by kernel_rfl!) (fun i ys M => AllV (RowN M) ys (rowsAt ns i)) trivial ?_ ?_
  · rintro i vals ⟨t', x, hx, rfl⟩
    exact ⟨_, _, rfl, t', x, by simpa using hx, rfl, rfl⟩
  · exact ⟨⟨_, by simpa using k₄ _ _ he⟩, hit.at fun o e => k₄ _ _ e, hls.at fun o e => k₄ _ _ (keep _ _ e)⟩
  · refine Apart.list (fun h => ?_) (fun b hb => ?_) (fun b hb => ?_) fun b h q => nomatch q
    · rw [hCv] at h
      rcases List.mem_cons.mp h with e | h
      · have e' : (s.heap.objs.size + 3 : Nat) = s.heap.objs.size + 1 := e
        omega
      · rcases List.mem_cons.mp h with e | h
        · have e' : (s.heap.objs.size + 3 : Nat) = s.heap.objs.size := e
          omega
        · have e' : (s.heap.objs.size + 3 : Nat) = a := List.mem_singleton.mp h
          exact Nat.not_lt.mpr (e' ▸ Nat.le_add_right s.heap.objs.size 3) has
    · rcases hnm hb with rfl | rfl
      · exact .head _
      · exact .tail _ (.head _)
    · rcases hnm hb with rfl | rfl
      · exact Heap.get?_none_of_le (Nat.le_succ _)
      · exact Heap.get?_none_of_le (Nat.le_refl _)
  · intro hb
    rcases hnm hb with e | e
    · have e' : (s.heap.objs.size + 2 : Nat) = s.heap.objs.size + 1 := hDv.symm.trans e
      omega
    · have e' : (s.heap.objs.size + 2 : Nat) = s.heap.objs.size := hDv.symm.trans e
      omega
  · intro s' b hb h0
    rcases List.mem_cons.mp hb with rfl | hb
    · exact .head _
    · rcases List.mem_cons.mp hb with rfl | hb
      · exact .tail _ (.head _)
      · rw [List.mem_singleton.mp hb] at h0
        obtain ⟨o, ho, _⟩ := hls
        rw [ho] at h0; cases h0
  · rintro i s' ⟨⟨old, hE⟩, hI, hLs⟩ b hb
    rcases hnm hb with rfl | rfl
    · exact ⟨.head _, _, hE⟩
    · obtain ⟨o, ho, _⟩ := hI
      exact ⟨.tail _ (.head _), o, ho⟩
  · rintro ok i v0 v1 ys M own g e s₅ hi ⟨t', x, hx, rfl, rfl⟩ hJ hM hokD hown X₅ fresh
    have hi' : i < ns.length := by simpa [hlen] using hi
    obtain ⟨x', hx', tx', rfl⟩ := hns.get i 0 hi'
    rw [hx] at hx'; cases hx'
    refine wpAny_tests_nil ?_
    simp only [if_true]
    refine Tuple_ (spliced_more (wpAny_BinOp (wpAny_BinOp (ev_str X₅ fun ta sa Xa => ?_))))
    rw [eQ]
    refine Subscript_ (ev_str Xa fun tb sb Xb => ?_)
    rw [eNames]
    refine wpAny_BinOp (evc_local Xb (.tail _ (.head _)) (ev_int Xb fun tc sc Xc => modn_In (k := 6) rfl (by decide) Xc fun td sd Xd => item_tx Xd (signN_mod _) (by decide) fun te se Xe => ?_))
    refine add_tx (ds := [signsN[(ns.getD i 0) % 6]'(signN_mod _)]) Xe (by decide) (by simp) fun tf sf Xf => ev_str Xf fun tg sg Xg => ?_
    rw [eSQ]
    refine add_tx Xg (by simp) (by decide) fun th sh Xh => ?_
    refine spliced_more (evc_local Xh (.head _) (spliced_more (wpAny_BinOp (evc_local Xh (.head _) (ev_int Xh fun ti si Xi => inc_In Xi fun tj sj Xj => ?_)))))
    refine spliced_none (new_tuple Xj fun T sk hT Xk => ?_)
    have okT : ok T := hT ▸ fresh _ ((D, listOf (List.toArray ys) e) :: M) sj Xj
    have hTD : T ≠ D := hT ▸ Nat.ne_of_gt (Xj.below _ (.head _))
    have erow := rowTx_eq (ns.getD i 0)
    refine ⟨(T, rowO (rowTx (ns.getD i 0), i, i + 1) th t' tj 0) :: M, Xk.news fun q hq => ?_, ?_, fun q hq => ?_⟩
    · rw [erow] at hq
      rcases List.mem_cons.mp hq with rfl | hq
      · exact .tail _ (.head _)
      · rcases List.mem_cons.mp hq with rfl | hq
        · exact .head _
        · exact .tail _ (.tail _ hq)
    · rw [rowsAt_succ]
      exact (hJ.mono (RowN.mono fun q hq => .tail _ hq)).append ⟨⟨T, th, t', tj, 0, rfl, .head _⟩, trivial⟩
    · rcases List.mem_cons.mp hq with rfl | hq
      · exact ⟨okT, hTD⟩
      · exact hM q hq
  · intro ys e M s' X' hJ hM
    exact ⟨rfl, ys, e, M, X', by simpa [hlen] using hJ, hM⟩
end WC

set_option maxHeartbeats 4000000
namespace WC
open PySem PySem.W PySem.Calls PyProof.Rows
open PyProof

section
variable {b : Bool} {w : World} {A : Around} {E : Value → Shared → Prop} {s s₀ : Shared} {L D T : Addr} {l : List (Str × Value)} {N : List (Addr × Obj)} {value slice : Expr} {ys : List Value} {e k : Nat} {u : Tok} {v : Value} {Q : Value → Shared → Prop}
theorem item_led (X : In b s₀ L l N s) (hD : (D, listOf (List.toArray ys) e) ∈ N) (hx : ys[k]? = some v) (hk : k ≤ 100000) (h : Q v s)
    (hs : subscripted slice false (.ref D) (.int (k : Nat) u) = operate [.ref D, .int (k : Nat) u] (getItem (.ref D) (.int (k : Nat) u)) := by with_unfolding_all rfl) :
    wpAny (model pw w) A (subscriptTail value slice (.ref D) (.int (k : Nat) u)) Q E s :=
  item_listR (items := ys.toArray) ⟨_, (X.nw _ hD).1, rfl, _, rfl⟩ (by omega) (by omega) (by simpa using hx) h hs
theorem titem_led {items : Array Value} {c : Int} (X : In b s₀ L l N s) (hT : (T, ({ cls := .type "tuple", data := .seq items e } : Obj)) ∈ N) (hc : c = (k : Nat)) (hx : items[k]? = some v) (hk : k ≤ 100000) (h : Q v s)
    (hs : subscripted slice false (.ref T) (.int c u) = operate [.ref T, .int c u] (getItem (.ref T) (.int c u)) := by with_unfolding_all rfl) :
    wpAny (model pw w) A (subscriptTail value slice (.ref T) (.int c u)) Q E s := by
  subst hc
  have hlt : k < items.size := by
    rcases Nat.lt_or_ge k items.size with q | q
    · exact q
    · rw [Array.getElem?_eq_none q] at hx; cases hx
  have ht : IsTup s.heap T items := ⟨_, (X.nw _ hT).1, rfl, _, rfl⟩
  exact subscriptTail_builtinR ht.typeIs slot_tuple_getitem.lookup (getItem_tuple (Q := fun r s' => r = v ∧ Q r s') (j := k) ht (by omega) (by omega) (seqIndex_of (by omega) (by omega)) hx ⟨rfl, h⟩) hs
theorem len_led (X : In b s₀ L l N s) (hD : (D, listOf (List.toArray ys) e) ∈ N) (hz : ys.length ≤ 100000) (h : ∀ t' s', In b s₀ L l N s' → Q (.int (ys.length : Nat) t') s') : wpAny (model pw w) A (call (.builtin "len") [.ref D]) Q E s :=
  len_list (items := ys.toArray) ⟨_, (X.nw _ hD).1, rfl, _, rfl⟩ (by simp; omega) (by
    have := h (s.toks + 1) _ (X.toks (s.toks + 1 + 1))
    simpa using this)
theorem slice_from_In {items : List Value} {i : Nat} {ui : Tok} (X : In b s₀ L l N s) (hl : s.heap.IsList D items.toArray) (hz : items.length ≤ 100000)
    (h : ∀ B s', In b s₀ L l ((B, listOf (List.toArray (items.drop i)) 0) :: N) s' → B = s.heap.objs.size + 1 → Q (.ref B) s')
    (hs : subscripted slice false (.ref D) (.ref s.heap.objs.size) = operate [.ref s.heap.objs.size, .ref D] (getItem (.ref D) (.ref s.heap.objs.size)) := by with_unfolding_all rfl) (ht : ∀ r, letTemporaryGo value (.ref D) r = pure () := by intro _; with_unfolding_all rfl) :
    wpAny (model pw w) A (subscriptTail value slice (.ref D) (.ref s.heap.objs.size)) Q E { s with heap := s.heap.push { cls := .type "slice", data := .fields #[.int (i : Nat) ui, .none, .none] } } := by
  obtain ⟨m, F, H⟩ := X.fr
  refine slice_list F X.nw hl (IsPart.int _ _) IsPart.none (fun h' F' N' => ?_) hs ht (by simp; exact Nat.le_trans hz (by decide))
  rw [slicePick_from'] at N'
  refine h _ _ ⟨⟨m, F', H⟩, X.nd, ?_, X.os, X.drawn, X.gens⟩ rfl
  simpa using N'
theorem subn_In {i k : Nat} {c : Int} {t u : Tok} (X : In b s₀ L l N s) (hc : c = (k : Nat)) (hk : k ≤ i) (h : ∀ t' s', In b s₀ L l N s' → Q (.int ((i - k : Nat) : Int) t') s') : wpAny (model pw w) A (binaryOp .Sub (.int (i : Nat) t) (.int c u)) Q E s := by
  subst hc
  refine sub_int ?_
  have := h s.toks _ (X.toks (s.toks + 1))
  rw [show ((i : Nat) : Int) - ((k : Nat) : Int) = ((i - k : Nat) : Int) by omega]
  exact this
theorem addn_In {i k : Nat} {c : Int} {t u : Tok} (X : In b s₀ L l N s) (hc : c = (k : Nat)) (h : ∀ t' s', In b s₀ L l N s' → Q (.int ((i + k : Nat) : Int) t') s') : wpAny (model pw w) A (binaryOp .Add (.int (i : Nat) t) (.int c u)) Q E s := by
  subst hc
  refine add_int ?_
  have := h s.toks _ (X.toks (s.toks + 1))
  rw [show ((i : Nat) : Int) + ((k : Nat) : Int) = ((i + k : Nat) : Int) by omega]
  exact this
end
end WC

set_option maxHeartbeats 4000000
namespace WC
open PySem PySem.W PySem.Calls PyProof.Rows
open PyProof

theorem setSlice_In {b : Bool} {w : World} {A : Around} {E : Value → Shared → Prop} {s s₀ : Shared} {L D B : Addr} {l : List (Str × Value)} {P R : List (Addr × Obj)} {ys new : List Value} {e e' lo hi : Nat} {tl th : Tok} {Q : Unit → Shared → Prop}
    (X : In b s₀ L l (P ++ (D, listOf (List.toArray ys) e) :: R) s) (hP : ∀ p ∈ P, p.1 ≠ D) (hR : ∀ p ∈ R, p.1 ≠ D) (hB : (B, listOf (List.toArray new) e') ∈ P ++ (D, listOf (List.toArray ys) e) :: R) (hDB : D ≠ B) (h1 : lo ≤ hi) (h2 : hi ≤ ys.length) (hsz : ys.length + new.length ≤ 100000)
    (h : ∀ s' n', In b s₀ L l (P ++ (D, listOf (List.toArray (ys.take lo ++ new ++ ys.drop hi)) n') :: R) s' → Q () s') :
    wpAny (model pw w) A (setItem (.ref D) (.ref s.heap.objs.size) (.ref B)) Q E { s with heap := s.heap.push { cls := .type "slice", data := .fields #[.int (lo : Nat) tl, .int (hi : Nat) th, .none] } } := by
  have keep : ∀ b o, s.heap.get? b = some o → (s.heap.push { cls := .type "slice", data := .fields #[.int (lo : Nat) tl, .int (hi : Nat) th, .none] }).get? b = some o := fun b o e => Heap.get?_push_of_some _ e
  have X₁ := X.keeps (s' := { s with heap := s.heap.push { cls := .type "slice", data := .fields #[.int (lo : Nat) tl, .int (hi : Nat) th, .none] } }) keep rfl rfl (.refl _ _)
  have hD := X₁.nw _ (List.mem_append_right P (.head R))
  refine setSlice (items := ys.toArray) (new := new.toArray) hD.1 ⟨_, (X₁.nw _ hB).1, rfl, _, rfl⟩ hDB (Heap.IsSliceOf.new ..) h1 (by simpa using h2) (by simpa using hsz) fun h' n' hs ho => ?_
  obtain ⟨⟨m, F, H⟩, nd, nw, os', dr, g⟩ := X₁
  have e1 : ys.toArray.extract 0 lo ++ new.toArray ++ ys.toArray.extract hi ys.toArray.size = (ys.take lo ++ new ++ ys.drop hi).toArray := by
    apply Array.ext'
    simp
    rw [List.take_of_length_le (by simp)]
  rw [e1] at ho
  exact h _ n' ⟨⟨m, F.change hs hD.2.1 hD.2.2, H⟩, nd, nw.setIn hP hR hs ho, os', dr, g⟩
end WC

set_option maxHeartbeats 4000000
namespace WC
open PySem PySem.W PySem.Calls PyProof.Rows
open PyProof

noncomputable def row0 : Row := ([], 0, 0)
noncomputable def joinRow (r q : Row) : Row := ((([40] ++ r.1) ++ q.1) ++ [41], r.2.1, q.2.2)
noncomputable def drawK (rows : List Row) (v : Nat) : Nat := v / 6 % (rows.length - 1)
noncomputable def drawStep (rows : List Row) (v : Nat) : List Row := rows.take (drawK rows v) ++ [joinRow (rows.getD (drawK rows v) row0) (rows.getD (drawK rows v + 1) row0)] ++ rows.drop (drawK rows v + 2)
noncomputable def drawFold (rows : List Row) (v : Nat) : Nat × Nat := ((rows.getD (drawK rows v) row0).2.1, (rows.getD (drawK rows v + 1) row0).2.2)
noncomputable def drawGo : List Nat → List Row → List (Nat × Nat) → List Row × List (Nat × Nat)
  | [], rows, fs => (rows, fs)
  | v :: vs, rows, fs => drawGo vs (drawStep rows v) (fs ++ [drawFold rows v])

theorem RowN.get {N : List (Addr × Obj)} {vs : List Value} {rows : List Row} (h : AllV (RowN N) vs rows) {k : Nat} (hk : k < rows.length) : ∃ T t1 t2 t3 n, vs[k]? = some (.ref T) ∧ (T, rowO (rows.getD k row0) t1 t2 t3 n) ∈ N := by
  obtain ⟨v, h1, T, t1, t2, t3, n, rfl, h2⟩ := h.get k row0 hk
  exact ⟨T, t1, t2, t3, n, h1, h2⟩

theorem getD_all {α : Type} {Pp : α → Prop} {d : α} (hd : Pp d) : ∀ {l : List α}, (∀ r ∈ l, Pp r) → ∀ j, Pp (l.getD j d)
  | [], _, _ => by simpa using hd
  | x :: r, h, 0 => h x (.head _)
  | x :: r, h, j + 1 => by
    have := getD_all hd (fun y hy => h y (.tail _ hy)) j
    simpa using this
theorem all_getD {α : Type} {Pp : α → Prop} {d : α} : ∀ {l : List α}, (∀ j, Pp (l.getD j d)) → ∀ r ∈ l, Pp r
  | x :: r, h, y, hy => by
    rcases List.mem_cons.mp hy with rfl | hy
    · exact h 0
    · exact all_getD (d := d) (fun j => by simpa using h (j + 1)) y hy
noncomputable abbrev drL (a D Fd : Addr) : List (Str × Value) := [(Str.ofString "numbers", .ref a), (Str.ofString "row", .ref D), (Str.ofString "folders", .ref Fd)]
theorem drL_nd (a D Fd : Addr) : ((drL a D Fd).map (·.1)).Nodup := by
  show ([Str.ofString "numbers", Str.ofString "row", Str.ofString "folders"] : List Str).Nodup
  decide +kernel
theorem drL_off (a D Fd : Addr) : ∀ p ∈ drL a D Fd, p.1 ≠ Str.ofString "v" := by
  have : ∀ x ∈ ((drL a D Fd).map (·.1)), x ≠ Str.ofString "v" := by
    show ∀ x ∈ ([Str.ofString "numbers", Str.ofString "row", Str.ofString "folders"] : List Str), x ≠ Str.ofString "v"
    decide +kernel
  exact fun p hp => this _ (List.mem_map.mpr ⟨p, hp, rfl⟩)
noncomputable def drJ (ns : List Nat) (a D Fd : Addr) (i : Nat) (l : List (Str × Value)) (N : List (Addr × Obj)) : Prop :=
  ∃ rows fs vsR e vsF e' M, l = drL a D Fd ∧ N = (D, listOf (List.toArray vsR) e) :: (Fd, listOf (List.toArray vsF) e') :: M ∧ AllV (RowN M) vsR rows ∧ PairsN M vsF fs ∧ D ≠ Fd ∧ (∀ q ∈ M, q.1 ≠ D ∧ q.1 ≠ Fd) ∧ rows.length + i = 5 ∧ fs.length = i ∧
    (∀ k, (rows.getD k row0).1.length + 2 ≤ 6 * 2 ^ i) ∧ drawGo (ns.drop 1) (rowsAt ns 5) [] = drawGo (ns.drop (1 + i)) rows fs

theorem dr_nat0 {i n m : Nat} (hi : i < 4) (h : n + i = 5) (hm : m = n) : m ≤ 100000 ∧ 1 ≤ m ∧ 0 < m - 1 ∧ 0 < n - 1 := by omega
theorem dr_nat {i n m k : Nat} (hi : i < 4) (h : n + i = 5) (hm : m = n) (hk : k < n - 1) : k < n ∧ k + 1 < n ∧ k ≤ 100000 ∧ k + 1 ≤ 100000 ∧ k + 2 ≤ m ∧ m + 1 ≤ 100000 := by omega
theorem dr_nat2 {x y p : Nat} (hx : x + 2 ≤ 6 * p) (hy : y + 2 ≤ 6 * p) (hp : p ≤ 16) : x ≤ 94 ∧ y ≤ 94 := by omega
/-- the loop's body -/
theorem dr_step {w : World} {os : OsState} {A : Around} {s s₀ : Shared} {n : Nat} {L a D Fd : Addr} {ns : List Nat} {i v : Nat} {tv : Tok} {own : List (Addr × Obj)} {g : Array GenState} {ok : Addr → Prop} {N : List (Addr × Obj)} {R : Result → Shared → Prop}
    (C : Cx w os s₀.heap) (hv : ns[1 + i]? = some v) (hi : i < 4) (l : List (Str × Value)) (hJ : drJ ns a D Fd i l N) (hok : ∀ q ∈ N, ok q.1) (hown : ∀ x, ok x → ∀ p ∈ own, p.1 ≠ x)
    (X : In true (base s₀ g) L (l ++ [(Str.ofString "v", .int (v : Nat) tv)]) (N ++ own) s) (fresh : ∀ l' N' s', In true (base s₀ g) L l' (N' ++ own) s' → ok s'.heap.objs.size) :
    wpAny (model pw w) A (execs (forBody (((fbody (stI 14)).drop 2).headD default)) (envOf (sO "_law_drawn") (fscope (stI 14)) L 136 (.ref 135))) (fun f s' => match f with
        | .next | .cont => ∃ l' N', In true (base s₀ g) L l' (N' ++ own) s' ∧ drJ ns a D Fd (i + 1) l' N' ∧ (∀ p ∈ l', p.1 ≠ Str.ofString "v") ∧ (∀ q ∈ N', ok q.1)
        | .brk => R (.ok .next) s'
        | .ret v => R (.ok (.ret v)) s') (fun _ _ => False) s := by
  obtain ⟨rows, fs, vsR, e, vsF, e', M, rfl, rfl, hR, hF, hDF, hM, hlen, hfl, htx, hgo⟩ := hJ
  have Cg : Cx w os (base s₀ g).heap := C
  have okD := hok (D, _) (.head _)
  have okF := hok (Fd, _) (.tail _ (.head _))
  have hvl := hR.length
  obtain ⟨hc1, hc2, hc3, hc4⟩ := dr_nat0 hi hlen hvl
  replace X : In true (base s₀ g) L [(Str.ofString "numbers", .ref a), (Str.ofString "row", .ref D), (Str.ofString "folders", .ref Fd), (Str.ofString "v", .int (v : Nat) tv)] ((D, listOf (List.toArray vsR) e) :: (Fd, listOf (List.toArray vsF) e') :: (M ++ own)) s := X
  refine wpAny_execs_cons (wpAny_Assign_Name (wpAny_BinOp (wpAny_BinOp (ev_local X (.tail _ (.tail _ (.tail _ (.head _)))) (ev_int X fun ta sa Xa => divn_In (k := 6) rfl (by decide) (by decide) Xa fun tb sb Xb => ?_)))))
  refine wpAny_BinOp (Call_ (ev_blt (w := w) (os := os) Cg Xb (gl_len w os) bb_len nn_len (callWith_builtin1 (spliced_more (ev_local Xb (.tail _ (.head _)) (spliced_none (len_led Xb (.head _) hc1 fun tc sc Xc => ev_int Xc fun td sd Xd => subn_In (k := 1) Xd rfl hc2 fun te se Xe => ?_)))))))
  refine modn_In (k := vsR.length - 1) rfl hc3 Xe fun tf sf Xf => store_local Xf (.tail (by decide +kernel) (.tail (by decide +kernel) (.tail (by decide +kernel) (.tail (by decide +kernel) .nil)))) fun sg Xg => ?_
  have hk : v / 6 % (vsR.length - 1) = drawK rows v := by rw [drawK, hvl]
  rw [hk] at Xg
  have hk1 : drawK rows v < rows.length - 1 := Nat.mod_lt _ hc4
  generalize hkk : drawK rows v = k at *
  obtain ⟨hd1, hd2, hd3, hd4, hd5, hd6⟩ := dr_nat hi hlen hvl hk1
  obtain ⟨T1, a1, a2, a3, n1, hx1, hm1⟩ := RowN.get hR (k := k) hd1
  obtain ⟨T2, b1, b2, b3, n2, hx2, hm2⟩ := RowN.get hR (k := k + 1) hd2
  have mR : ∀ {q : Addr × Obj}, q ∈ M → q ∈ (D, listOf (List.toArray vsR) e) :: (Fd, listOf (List.toArray vsF) e') :: (M ++ own) := fun h => .tail _ (.tail _ (List.mem_append_left _ h))
  refine wpAny_execs_cons (wpAny_Expr (MethodCall_ (ev_local Xg (.tail _ (.tail _ (.head _))) (Calls.getMethod_list_append (Xg.nw (Fd, _) (.tail _ (.head _))).1 rfl rfl ?_))))
  refine callWith_method1 (spliced_more (Tuple_ (spliced_more (Subscript_ (Subscript_ (ev_local Xg (.tail _ (.head _)) (ev_local Xg (.tail _ (.tail _ (.tail _ (.tail _ (.head _))))) (item_led Xg (.head _) hx1 hd3 (ev_int Xg fun th sh Xh => titem_led (k := 1) Xh (mR hm1) rfl rfl (by decide) ?_)))))))))
  refine spliced_more (Subscript_ (Subscript_ (ev_local Xh (.tail _ (.head _)) (wpAny_BinOp (ev_local Xh (.tail _ (.tail _ (.tail _ (.tail _ (.head _))))) (ev_int Xh fun ti si Xi => inc_In Xi fun tj sj Xj => item_led Xj (.head _) hx2 hd4 (ev_int Xj fun tk sk Xk => titem_led (k := 2) Xk (mR hm2) rfl rfl (by decide) ?_)))))))
  refine spliced_none (new_tuple Xk fun T sl hT Xl => spliced_none ?_)
  have okT : ok T := hT ▸ fresh _ ((D, _) :: (Fd, _) :: M) sk Xk
  have hTD : T ≠ D := hT ▸ Nat.ne_of_gt (Xk.below _ (.head _))
  have hTF : T ≠ Fd := hT ▸ Nat.ne_of_gt (Xk.below _ (.tail _ (.head _)))
  have hRF : ∀ p ∈ M ++ own, p.1 ≠ Fd := fun p hp => by
    rcases List.mem_append.mp hp with hp | hp
    · exact (hM p hp).2
    · exact hown Fd okF p hp
  have hRD : ∀ p ∈ M ++ own, p.1 ≠ D := fun p hp => by
    rcases List.mem_append.mp hp with hp | hp
    · exact (hM p hp).1
    · exact hown D okD p hp
  refine app_led (P := [(T, _), (D, _)]) Xl (fun q hq => ?_) hRF (by have := hF.length; omega) fun sm Xm => ?_
  · rcases List.mem_cons.mp hq with rfl | hq
    · exact hTF
    · rw [List.mem_singleton.mp hq]; exact hDF
  have mM : ∀ {q : Addr × Obj} {o1 o2 o3}, q ∈ M → q ∈ (T, o1) :: (D, o2) :: (Fd, o3) :: (M ++ own) := fun h => .tail _ (.tail _ (.tail _ (List.mem_append_left _ h)))
  have hl1 := htx k
  have hl2 := htx (k + 1)
  have h16 : 2 ^ i ≤ 16 := Nat.pow_le_pow_right (n := 2) (by decide) (Nat.le_of_lt hi)
  obtain ⟨hq1, hq2⟩ := dr_nat2 hl1 hl2 h16
  have e40 : Str.ofString "(" = tx [40] := by decide +kernel
  have e41 : Str.ofString ")" = tx [41] := by decide +kernel
  refine wpAny_execs_cons (wpAny_Assign_Subscript (List_ (spliced_more (Tuple_ (spliced_more (wpAny_BinOp (wpAny_BinOp (wpAny_BinOp (ev_str Xm fun tn sn Xn => ?_)))))))))
  rw [e40]
  refine Subscript_ (Subscript_ (ev_local Xn (.tail _ (.head _)) (ev_local Xn (.tail _ (.tail _ (.tail _ (.tail _ (.head _))))) (item_led Xn (.tail _ (.head _)) hx1 hd3 (ev_int Xn fun to so Xo => titem_led (k := 0) Xo (mM hm1) rfl rfl (by decide) ?_)))))
  refine add_tx Xo (by simp) (by omega) fun tp sp Xp => ?_
  refine Subscript_ (Subscript_ (ev_local Xp (.tail _ (.head _)) (wpAny_BinOp (ev_local Xp (.tail _ (.tail _ (.tail _ (.tail _ (.head _))))) (ev_int Xp fun tq sq Xq => inc_In Xq fun tr sr Xr => item_led Xr (.tail _ (.head _)) hx2 hd4 (ev_int Xr fun ts ss Xs => titem_led (k := 0) Xs (mM hm2) rfl rfl (by decide) ?_))))))
  refine add_tx Xs (by simp only [List.length_append, List.length_cons, List.length_nil]; omega) (by omega) fun tt st Xt => ev_str Xt fun tu su Xu => ?_
  rw [e41]
  refine add_tx Xu (by simp only [List.length_append, List.length_cons, List.length_nil]; omega) (by simp) fun tw sw Xw => ?_
  refine spliced_more (Subscript_ (Subscript_ (ev_local Xw (.tail _ (.head _)) (ev_local Xw (.tail _ (.tail _ (.tail _ (.tail _ (.head _))))) (item_led Xw (.tail _ (.head _)) hx1 hd3 (ev_int Xw fun ux sx Xx => titem_led (k := 1) Xx (mM hm1) rfl rfl (by decide) ?_))))))
  refine spliced_more (Subscript_ (Subscript_ (ev_local Xx (.tail _ (.head _)) (wpAny_BinOp (ev_local Xx (.tail _ (.tail _ (.tail _ (.tail _ (.head _))))) (ev_int Xx fun uy sy Xy => inc_In Xy fun uz sz Xz => item_led Xz (.tail _ (.head _)) hx2 hd4 (ev_int Xz fun ua sA XA => titem_led (k := 2) XA (mM hm2) rfl rfl (by decide) ?_)))))))
  refine spliced_none (new_tuple XA fun T' sB hT' XB => spliced_none (new_list XB fun B sC hB XC => ?_))
  have okT' : ok T' := hT' ▸ fresh _ ((T, _) :: (D, _) :: (Fd, _) :: M) sA XA
  have hTD' : T' ≠ D := hT' ▸ Nat.ne_of_gt (XA.below _ (.tail _ (.head _)))
  have hTF' : T' ≠ Fd := hT' ▸ Nat.ne_of_gt (XA.below _ (.tail _ (.tail _ (.head _))))
  have hBD : D ≠ B := hB ▸ Nat.ne_of_lt (XB.below _ (.tail _ (.tail _ (.head _))))
  refine ev_local XC (.tail _ (.head _)) (wpAny_Slice (evalPart_some_step (ev_local XC (.tail _ (.tail _ (.tail _ (.tail _ (.head _))))) (evalPart_some_step (wpAny_BinOp (ev_local XC (.tail _ (.tail _ (.tail _ (.tail _ (.head _))))) (ev_int XC fun ub sD XD => addn_In (k := 2) XD rfl fun uc sE XE => evalPart_none_step ?_)))))))
  refine setSlice_In (P := [(B, _), (T', _), (T, _)]) (new := [.ref T']) XE (fun q hq => ?_) (fun q hq => ?_) (.head _) hBD (Nat.le_add_right _ _) hd5 hd6 fun sF n' XF => ?_
  · rcases List.mem_cons.mp hq with rfl | hq
    · exact hBD.symm
    · rcases List.mem_cons.mp hq with rfl | hq
      · exact hTD'
      · rw [List.mem_singleton.mp hq]; exact hTD
  · rcases List.mem_cons.mp hq with rfl | hq
    · exact hDF.symm
    · exact hRD q hq
  have hend : ∀ {q : Addr × Obj}, q ∈ M → q ∈ (T', rowO (joinRow (rows.getD k row0) (rows.getD (k + 1) row0)) tw a2 b3 0) :: (T, tupO ((rows.getD k row0).2.1, (rows.getD (k + 1) row0).2.2) a2 b3 0) :: M := fun h => .tail _ (.tail _ h)
  refine wpAny_execs_nil ⟨drL a D Fd, (D, listOf (List.toArray (vsR.take k ++ [.ref T'] ++ vsR.drop (k + 2))) n') :: (Fd, listOf (List.toArray (vsF ++ [.ref T])) (e' + 1)) :: (T', rowO (joinRow (rows.getD k row0) (rows.getD (k + 1) row0)) tw a2 b3 0) :: (T, tupO ((rows.getD k row0).2.1, (rows.getD (k + 1) row0).2.2) a2 b3 0) :: M, ?_, ?_, drL_off a D Fd, ?_⟩
  · refine (XF.names (l' := drL a D Fd) (fun p hp => List.mem_append_left [_, _] hp) (drL_nd ..)).news fun q hq => ?_
    rcases List.mem_append.mp hq with hq | hq
    · rcases List.mem_cons.mp hq with rfl | hq
      · exact .tail _ (.tail _ (.tail _ (.head _)))
      · rcases List.mem_cons.mp hq with rfl | hq
        · exact .tail _ (.tail _ (.tail _ (.tail _ (.head _))))
        · rcases List.mem_cons.mp hq with rfl | hq
          · exact .tail _ (.head _)
          · rcases List.mem_cons.mp hq with rfl | hq
            · exact .tail _ (.tail _ (.head _))
            · exact .tail _ (.tail _ (.tail _ (.tail _ (.tail _ (List.mem_append_left _ hq)))))
    · exact .tail _ (.tail _ (.tail _ (.tail _ (.tail _ (List.mem_append_right _ hq)))))
  · have hstep : drawStep rows v = rows.take k ++ [joinRow (rows.getD k row0) (rows.getD (k + 1) row0)] ++ rows.drop (k + 2) := by rw [drawStep, hkk]
    have hfold : drawFold rows v = ((rows.getD k row0).2.1, (rows.getD (k + 1) row0).2.2) := by rw [drawFold, hkk]
    have hR' := hR.mono (RowN.mono fun q (hq : q ∈ M) => (.tail _ (.tail _ hq) : q ∈ (T', rowO (joinRow (rows.getD k row0) (rows.getD (k + 1) row0)) tw a2 b3 0) :: (T, tupO ((rows.getD k row0).2.1, (rows.getD (k + 1) row0).2.2) a2 b3 0) :: M))
    refine ⟨drawStep rows v, fs ++ [drawFold rows v], _, n', _, e' + 1, _, rfl, rfl, ?_, ?_, hDF, fun q hq => ?_, ?_, by simp; omega, ?_, ?_⟩
    · rw [hstep]
      refine AllV.append (AllV.append (hR'.take k) ?_) (hR'.drop (k + 2))
      exact And.intro (⟨T', tw, a2, b3, 0, rfl, .head _⟩ : RowN _ _ _) trivial
    · rw [hfold]
      exact (hF.mono fun q hq => .tail _ (.tail _ hq)).snoc ⟨T, a2, b3, 0, rfl, .tail _ (.head _)⟩
    · rcases List.mem_cons.mp hq with rfl | hq
      · exact ⟨hTD', hTF'⟩
      · rcases List.mem_cons.mp hq with rfl | hq
        · exact ⟨hTD, hTF⟩
        · exact hM q hq
    · rw [hstep]; simp; omega
    · rw [hstep]
      have hp2 : 2 ^ (i + 1) = 2 * 2 ^ i := by rw [Nat.pow_succ]; omega
      have hpos : 0 < 2 ^ i := Nat.pow_pos (by decide)
      refine getD_all (Pp := fun r : Row => r.1.length + 2 ≤ 6 * 2 ^ (i + 1)) (by show 0 + 2 ≤ _; omega) fun r hr => ?_
      have hall := all_getD (Pp := fun r : Row => r.1.length + 2 ≤ 6 * 2 ^ i) (d := row0) (l := rows) htx
      rcases List.mem_append.mp hr with hr | hr
      · rcases List.mem_append.mp hr with hr | hr
        · have := hall r (List.mem_of_mem_take hr); omega
        · rw [List.mem_singleton.mp hr]
          show ((([40] ++ (rows.getD k row0).1) ++ (rows.getD (k + 1) row0).1) ++ [41]).length + 2 ≤ _
          simp only [List.length_append, List.length_cons, List.length_nil]; omega
      · have := hall r (List.mem_of_mem_drop hr); omega
    · obtain ⟨hlt, hvv⟩ := List.getElem?_eq_some_iff.mp hv
      rw [hgo, List.drop_eq_getElem_cons hlt, hvv]
      rfl
  · intro q hq
    rcases List.mem_cons.mp hq with rfl | hq
    · exact okD
    · rcases List.mem_cons.mp hq with rfl | hq
      · exact okF
      · rcases List.mem_cons.mp hq with rfl | hq
        · exact okT'
        · rcases List.mem_cons.mp hq with rfl | hq
          · exact okT
          · exact hok q (.tail _ (.tail _ hq))
end WC

set_option maxHeartbeats 4000000
namespace WC
open PySem PySem.W PySem.Calls PyProof.Rows
open PyProof

theorem rowTx_len (n : Nat) : (rowTx n).length = 4 := rfl
theorem rowsAt_get (ns : List Nat) (k : Nat) : ((rowsAt ns 5).getD k row0).1.length + 2 ≤ 6 * 2 ^ 0 := by
  refine getD_all (d := row0) (Pp := fun r : Row => r.1.length + 2 ≤ 6 * 2 ^ 0) (show 0 + 2 ≤ 6 * 2 ^ 0 by decide) (fun r hr => ?_) k
  obtain ⟨j, _, rfl⟩ := List.mem_map.mp hr
  show (rowTx _).length + 2 ≤ _
  rw [rowTx_len]; decide
noncomputable def drawn (ns : List Nat) : List Row × List (Nat × Nat) := drawGo (ns.drop 1) (rowsAt ns 5) []

theorem c_drawn {w : World} {os : OsState} {A : Around} {s : Shared} {E : Value → Shared → Prop} {a : Addr} {items : List Value} {ns : List Nat} {n : Nat} (C : Cx w os s.heap) (R : Room A (n + 1)) (hl : s.heap.IsList a items.toArray) (hns : AllV NatV items ns) (h5 : ns.length = 5)
    {qs : List (Nat × Nat)} (hs : sortP (drawn ns).2 = some qs) :
    wpAny (model pw w) A (PySem.call (.ref 136) [.ref a]) (fun v s' => ∃ T D vs e e2 M tx', v = .ref T ∧ PairsN M vs qs ∧ Made s s' ((T, { cls := .type "tuple", data := .seq #[.str (tx ((drawn ns).1.getD 0 row0).1) tx', .ref D] e2 }) :: (D, listOf (List.toArray vs) e) :: M) ∧ KpG true s s') E s := by
  refine enter_drawn C R fun h₁ F C₁ R₁ => ?_
  have X : In true s s.heap.objs.size [(Str.ofString "numbers", .ref a)] [] { s with heap := h₁, toks := s.toks + 1 } := In.start F (by simp) rfl
  have D := C
  refine c_row (l' := fun v => [(Str.ofString "numbers", .ref a), (Str.ofString "row", v)]) D R₁ X (.head _) hl hns (by omega) (fun v => .tail (by decide +kernel) .nil) fun Dr ys e M s₁ h1 h2 h3 X₁ => ?_
  rw [h5] at h2
  refine wpAny_execs_cons (wpAny_Assign_Name (List_ (spliced_none (new_list X₁ fun Fd s₂ hF X₂ => store_local X₂ (.tail (by decide +kernel) (.tail (by decide +kernel) .nil)) fun s₃ X₃ => ?_))))
  have hl₃ : s₃.heap.IsList a items.toArray := hl.at fun o e => X₃.kp.keep a o e
  have hlen := hns.length
  refine wpAny_execs_cons (wpAny_For (Subscript_ (ev_local X₃ (.head _) (wpAny_Slice (evalPart_some_step (ev_int X₃ fun ta sa Xa => evalPart_none_step (evalPart_none_step (slice_from_In (i := 1) Xa (hl.at fun o e => Xa.kp.keep a o e) (by omega) fun B s₄ X₄ hB => ?_))))))))
  have X₅ := X₄.news (N' := (Dr, listOf (List.toArray ys) e) :: (Fd, { cls := .type "list", data := .seq (List.toArray []) }) :: M) fun q hq => by
    rcases List.mem_cons.mp hq with rfl | hq
    · exact .tail _ (.tail _ (.head _))
    · rcases List.mem_cons.mp hq with rfl | hq
      · exact .tail _ (.head _)
      · exact .tail _ (.tail _ (.tail _ (List.mem_append_left _ hq)))
  have hBl := X₄.nw _ (.head _)
  have hDF : Dr ≠ Fd := hF ▸ Nat.ne_of_lt (X₁.below _ (.head _))
  have hMF : ∀ q ∈ M, q.1 ≠ Fd := fun q hq => hF ▸ Nat.ne_of_lt (X₁.below q (.tail _ (List.mem_append_left _ hq)))
  have hBn : ∀ q ∈ (Dr, listOf (List.toArray ys) e) :: (Fd, ({ cls := .type "list", data := .seq (List.toArray []) } : Obj)) :: M, q.1 ≠ B := fun q hq => by
    have hq' : q.1 < sa.heap.objs.size := by
      rcases List.mem_cons.mp hq with rfl | hq
      · exact Xa.below _ (.tail _ (.head _))
      · rcases List.mem_cons.mp hq with rfl | hq
        · exact Xa.below _ (.head _)
        · exact Xa.below q (.tail _ (.tail _ (List.mem_append_left _ hq)))
    rw [hB]
    exact Nat.ne_of_lt (Nat.lt_succ_of_lt hq')
  refine for_list R₁.handled X₅ ⟨_, hBl.1, rfl, _, rfl⟩ hBl.2.2 hBl.2.1 hBn (drJ ns a Dr Fd) ⟨rowsAt ns 5, [], ys, e, [], 0, M, rfl, rfl, h2, trivial, hDF, fun q hq => ⟨h3 q hq, hMF q hq⟩, by simp [rowsAt], rfl, rowsAt_get ns, rfl⟩ (drL_off a Dr Fd) ?_ ?_
  · intro wr i v l₁ N₁ own g s₅ hv hJ hok hl' hown X₆ up fresh
    have hv' : items[1 + i]? = some v := by simpa [Nat.add_comm] using hv
    have hi : 1 + i < items.length := by
      obtain ⟨h, _⟩ := List.getElem?_eq_some_iff.mp hv'
      exact h
    obtain ⟨v', hv2, tv, rfl⟩ := hns.get (1 + i) 0 (by omega)
    rw [hv'] at hv2
    cases hv2
    have hn : ns[1 + i]? = some (ns.getD (1 + i) 0) := by rw [List.getD_eq_getElem?_getD, List.getElem?_eq_getElem (by omega)]; rfl
    refine wpAny_mono (dr_step (n := 0) (R := fun _ _ => False) D hn (by omega) l₁ hJ hok hown X₆ fresh) (fun f s' h => ?_) fun _ _ e => e
    cases f <;> first | exact h | exact h.elim
  · rintro l' N' s₆ X₆ ⟨rows, fs, vsR, e1, vsF, e2, M', rfl, rfl, hR, hF', hDF', hM', hlen', hfl, htx, hgo⟩
    have h4 : (List.toArray (items.drop 1)).size = 4 := by simp; omega
    rw [h4] at hlen' hfl hgo
    have hdr : drawn ns = (rows, fs) := by
      rw [drawn, hgo, List.drop_of_length_le (by omega)]; rfl
    rw [hdr] at hs ⊢
    have hr1 : rows.length = 1 := by omega
    obtain ⟨T1, a1, a2, a3, n1, hx1, hm1⟩ := RowN.get hR (k := 0) (by omega)
    refine wpAny_execs_cons (wpAny_Return_some (Tuple_ (spliced_more (Subscript_ (Subscript_ (ev_local X₆ (.tail _ (.head _)) (ev_int X₆ fun tb sb Xb => item_led (k := 0) Xb (.head _) hx1 (by decide) (ev_int Xb fun tc sc Xc => titem_led (k := 0) Xc (.tail _ (.tail _ hm1)) rfl rfl (by decide) ?_))))))))
    refine spliced_more (Call_ (ev_blt (w := w) (os := os) D Xc (gl_sorted w os) bb_sorted nn_sorted (callWith_builtin1 (spliced_more (ev_local Xc (.tail _ (.tail _ (.head _))) (spliced_none (sorted_pairs Xc ⟨_, (Xc.nw _ (.tail _ (.head _))).1, rfl, _, rfl⟩ (hF'.mono fun q hq => .tail _ (.tail _ hq)) (by omega) (by omega) hs fun D' vs' e' sd Xd hp hne => ?_)))))))
    refine spliced_none (new_tuple Xd fun T se hT Xe => ?_)
    exact ⟨T, D', vs', e', 0, _, a1, rfl, hp, fun q hq => ⟨(Xe.nw q hq).1, (Xe.nw q hq).2.2⟩, Xe.kp⟩
end WC

set_option maxHeartbeats 4000000
namespace WC
open PySem PySem.W PySem.Calls PyProof.Rows
open PyProof

end WC

set_option maxHeartbeats 4000000
namespace WC
open PySem PySem.W PySem.Calls PyProof.Rows
open PyProof

noncomputable abbrev lawFd : FuncData := docDef (sO "law") (fparams (stI 18)) (fbody (stI 18)) (fscope (stI 18)) (.str (sO "law_wc0013_01") 2298) (.ref 159) .none
noncomputable abbrev lenv (L : Addr) : Env := callEnvC lawFd L 160

theorem enter_law {w : World} {os : OsState} {A : Around} {s : Shared} {E : Value → Shared → Prop} {v0 : Value} {Q : Value → Shared → Prop} {n : Nat} (C : Cx w os s.heap) (R : Room A (n + 1))
    (h : ∀ s₁ o, o.data = .cell none → In false s s.heap.objs.size [(Str.ofString "script", v0)] [(s.heap.objs.size + 1, o)] s₁ → Room (A.deeper (lenv s.heap.objs.size)) n →
      wpAny (model pw w) (A.deeper (lenv s.heap.objs.size)) (execs (fbody (stI 18)) (lenv s.heap.objs.size)) (fun f s' => Q (retOf f) s') (fun _ _ => False) s₁) :
    wpAny (model pw w) A (PySem.call (.ref 160) [v0]) Q E s := by
  have hcr : s.heap.CodeRec (.ref 159) (sO "law") := ⟨159, o159_18 w.params, _, _, rfl, C.K _ _ (top_at (by decide) (by kernel_rfl!) (by kernel_rfl!)), rfl, rfl⟩
  refine wpAny_call (codeAny_call_cells (fd := lawFd) (binds := [(sO "script", v0)]) (by have := R.depth; show A.depth < 1000; omega) (C.K _ _ (top_at (by decide) (by kernel_rfl! : (T_18 w.params).get 160 = some (o160_18 w.params)) (by kernel_rfl!))) (by kernel_rfl!) C.T.nolimit hcr rfl (by kernel_rfl!) rfl ?_ (fun s₁ x => ?_) (by kernel_rfl!) (by kernel_rfl!) (by kernel_rfl!))
  · intro y hy
    rw [List.mem_singleton.mp hy]
    exact .inl (by kernel_rfl!)
  · have hcl : (lenv s.heap.objs.size).cells = [(Str.ofString "k", s.heap.objs.size + 1)] := by kernel_rfl!
    obtain ⟨o, ho, hd⟩ := x.cell (Str.ofString "k") (s.heap.objs.size + 1) (by rw [hcl]; rfl)
    rw [show bindC (lenv s.heap.objs.size).kindOf [(sO "script", v0)] (fun _ => none) (Str.ofString "k") = none by kernel_rfl!] at hd
    obtain ⟨hh, tk, he⟩ := x.toInCall.same
    have X : In false s s.heap.objs.size [(Str.ofString "script", v0)] [(s.heap.objs.size + 1, o)] s₁ := by
      refine ⟨⟨_, ⟨x.toInCall.ns, x.toInCall.keep, x.toInCall.fresh⟩, ⟨by kernel_rfl!, trivial⟩⟩, by simp, fun p hp => ?_, by rw [he], by rw [he], by rw [he]; exact .refl _ _⟩
      rw [List.mem_singleton.mp hp]
      exact ⟨ho, Nat.succ_ne_self _, Heap.get?_none_of_le (Nat.le_succ _)⟩
    refine wpAny_mono (h s₁ o hd X R.deeper) (fun f s' q => ?_) fun _ _ e => e.elim
    cases f <;> exact q
end WC

set_option maxHeartbeats 4000000
namespace WC
open PySem PySem.W PySem.Calls PyProof.Rows
open PyProof

theorem ev_bltE {w : World} {os : OsState} {A : Around} {E : Value → Shared → Prop} {s : Shared} {env : Env} {x : Str} {pos : Pos} {v : Value} {Q : Value → Shared → Prop} (C : Cx w os s.heap) (h1 : tmg w os x = none) (h2 : bootBuiltins x = some v) (h3 : x ≠ "__name__") (h : Q v s)
    (hk : env.scope.kind = .function := by kernel_rfl!) (hx : env.kindOf x = some .globalImplicit := by kernel_rfl!) (hg : env.globals = mainGlobals := by rfl) (hb : env.builtins = builtinsNs := by rfl) (hd : (x == ("__debug__" : Str)) = false := by decide +kernel) :
    wpAny (model pw w) A (eval (.Name x pos) env) Q E s := Calls.Name_function_global hk hx (Calls.loadGlobal_builtin (hg ▸ C.T.g) h1 (hb ▸ C.T.b) ((C.T.builtins x h3).trans h2) h) hd
/-- a store to a local of law -/
theorem stL {b : Bool} {w : World} {A : Around} {E : Value → Shared → Prop} {s s₀ : Shared} {L : Addr} {l l' : List (Str × Value)} {N : List (Addr × Obj)} {x : Str} {v : Value} {Q : Unit → Shared → Prop} (I : In b s₀ L l N s) (hu : Upd1 x v l l') (h : ∀ s', In b s₀ L l' N s' → Q () s') (hl : (lenv L).kindOf x = some .local := by kernel_rfl!) :
    wpAny (model pw w) A (storeName (lenv L) x v) Q E s := storec I hu h rfl (by kernel_rfl!) hl
end WC

set_option maxHeartbeats 4000000
namespace WC
open PySem PySem.W PySem.Calls PyProof.Rows
open PyProof

noncomputable def numsOf (ns : List Int) : List Nat := (ns.take 5).map (fun n => (n.fmod 72).toNat) ++ [1, 15, 2, 4, 8].drop ns.length
theorem numsOf_len (ns : List Int) : (numsOf ns).length = 5 := by
  unfold numsOf; simp; omega

section
variable {b : Bool} {w : World} {A : Around} {E : Value → Shared → Prop} {s s₀ : Shared} {L D : Addr} {l : List (Str × Value)} {N : List (Addr × Obj)} {value slice : Expr} {Q : Value → Shared → Prop}
theorem slice_upto_In {items : List Value} {i : Nat} {c : Int} {ui : Tok} (hc : c = (i : Nat)) (X : In b s₀ L l N s) (hl : s.heap.IsList D items.toArray) (hz : items.length ≤ 100000)
    (h : ∀ B s', In b s₀ L l ((B, listOf (List.toArray (items.take i)) 0) :: N) s' → B = s.heap.objs.size + 1 → Q (.ref B) s')
    (hs : subscripted slice false (.ref D) (.ref s.heap.objs.size) = operate [.ref s.heap.objs.size, .ref D] (getItem (.ref D) (.ref s.heap.objs.size)) := by with_unfolding_all rfl) (ht : ∀ r, letTemporaryGo value (.ref D) r = pure () := by intro _; with_unfolding_all rfl) :
    wpAny (model pw w) A (subscriptTail value slice (.ref D) (.ref s.heap.objs.size)) Q E { s with heap := s.heap.push { cls := .type "slice", data := .fields #[.none, .int c ui, .none] } } := by
  subst hc
  obtain ⟨m, F, H⟩ := X.fr
  refine slice_list F X.nw hl IsPart.none (IsPart.int _ _) (fun h' F' N' => ?_) hs ht (by simp; exact Nat.le_trans hz (by decide))
  rw [slicePick_upto'] at N'
  refine h _ _ ⟨⟨m, F', H⟩, X.nd, ?_, X.os, X.drawn, X.gens⟩ rfl
  simpa using N'
theorem add_lists_In {D1 D2 : Addr} {vs ws : List Value} (X : In b s₀ L l N s) (h1 : s.heap.IsList D1 vs.toArray) (h2 : s.heap.IsList D2 ws.toArray) (hz : vs.length + ws.length ≤ 100000)
    (h : ∀ B s', In b s₀ L l ((B, listOf (List.toArray (vs ++ ws)) 0) :: N) s' → B = s.heap.objs.size → Q (.ref B) s') : wpAny (model pw w) A (binaryOp .Add (.ref D1) (.ref D2)) Q E s := by
  obtain ⟨m, F, H⟩ := X.fr
  exact add_lists F X.nw h1 h2 (fun h' F' N' => h _ _ ⟨⟨m, F', H⟩, X.nd, N', X.os, X.drawn, X.gens⟩ rfl) (Nat.le_trans hz (by decide))
end
end WC

set_option maxHeartbeats 4000000
namespace WC
open PySem PySem.W PySem.Calls PyProof.Rows
open PyProof

theorem intsAre_val : ∀ {vs : List Value} {ns : List Int}, IntsAre vs ns → ∀ {i : Nat} {v : Value}, vs[i]? = some v → ∃ k t, v = Value.int k t
  | _, _, .nil, _, _, h => by simp at h
  | _, _, .cons n t h, 0, v, e => by simp at e; exact ⟨n, t, e.symm⟩
  | _, _, .cons n t h, i + 1, v, e => intsAre_val h (i := i) (by simpa using e)
theorem In.add {b : Bool} {s₀ s : Shared} {L D : Addr} {l : List (Str × Value)} {N : List (Addr × Obj)} {o : Obj} (X : In b s₀ L l N s) (h1 : s.heap.get? D = some o) (h2 : D ≠ L) (h3 : s₀.heap.get? D = none) : In b s₀ L l ((D, o) :: N) s :=
  ⟨X.fr, X.nd, fun p hp => by
    rcases List.mem_cons.mp hp with rfl | hp
    · exact ⟨h1, h2, h3⟩
    · exact X.nw p hp, X.os, X.drawn, X.gens⟩
theorem nums_go : ∀ {items : List Value} {ns : List Int} (hi : IntsAre items ns) {ys : List Value}, Paired (fun v y => ∃ k t u, v = Value.int k t ∧ y = .int ((k.fmod 72).toNat : Nat) u) items ys → AllV NatV ys (ns.map fun n => (n.fmod 72).toNat)
  | _, _, .nil, _, .nil => trivial
  | _, _, .cons n t h, _, .cons ⟨k, t', u, e, e2⟩ r => by
    cases e
    exact ⟨⟨u, e2⟩, nums_go h r⟩
theorem nums_of {items : List Value} {ns : List Int} (hi : IntsAre items ns) {vs ys : List Value} (hF : Paired (fun v y => ∃ k t u, v = Value.int k t ∧ y = .int ((k.fmod 72).toNat : Nat) u) vs ys) (hP : ∀ (j : Nat) (v : Value), vs[j]? = some v → (items.take 5)[j]? = some v) (hl : vs.length = (items.take 5).length) : AllV NatV ys ((ns.take 5).map fun n => (n.fmod 72).toNat) := by
  have e : vs = items.take 5 := by
    apply List.ext_getElem? ; intro j
    cases h : vs[j]? with
    | some v => exact (hP j v h).symm
    | none =>
      have := List.getElem?_eq_none_iff.mp h
      rw [List.getElem?_eq_none (by omega)]
  subst e
  exact nums_go (hi.take 5) hF
/-- numbers -/
theorem law_1 {w : World} {os : OsState} {A : Around} {s s₀ : Shared} {a : Addr} {items : List Value} {ns : List Int} {N : List (Addr × Obj)} {L : Addr} {Q : Flow → Shared → Prop} {n : Nat}
    (C : Cx w os s₀.heap) (R : Room A n) (X : In false s₀ L [(Str.ofString "script", .ref a)] N s) (hl : s₀.heap.IsList a items.toArray) (hi : IntsAre items ns) (hz : ns.length ≤ 63)
    (h : ∀ D vs e s', AllV NatV vs (numsOf ns) → In false s₀ L [(Str.ofString "script", .ref a), (Str.ofString "numbers", .ref D)] ((D, listOf (List.toArray vs) e) :: N) s' →
      wpAny (model pw w) A (execs ((fbody (stI 18)).drop 1) (lenv L)) Q (fun _ _ => False) s') :
    wpAny (model pw w) A (execs (fbody (stI 18)) (lenv L)) Q (fun _ _ => False) s := by
  have hlen := hi.length
  refine wpAny_execs_cons (wpAny_Assign_Name (wpAny_BinOp ?_))
  refine wpAny_ListComp_walk (fun _ => true) (fun v y => ∃ k t u, v = Value.int k t ∧ y = .int ((k.fmod 72).toNat : Nat) u) (by decide +kernel) (by decide +kernel) rfl (by decide +kernel) (by decide +kernel) ?_
  refine Subscript_ (evc_local X (.head _) (wpAny_Slice (evalPart_none_step (evalPart_some_step (ev_int X fun ta sa Xa => evalPart_none_step (slice_upto_In (i := 5) rfl Xa (hl.at fun o e => Xa.kp.keep a o e) (by omega) fun B sb Xb hB => ?_))))))
  have hBl : sb.heap.IsList B (items.take 5).toArray := ⟨_, (Xb.nw _ (.head _)).1, rfl, _, rfl⟩
  have hBs : B < sb.heap.objs.size := Xb.below _ (.head _)
  refine wpAny_pyIter_list hBl ?_
  refine ⟨_, _, _, _, _, _, rfl, Walks.list R.handled sb.heap.objs.size B (Nat.ne_of_lt hBs) (items.take 5).toArray, by rw [sizeLine_eq]; simp; omega, ⟨⟨_, Heap.get?_push_size _ rfl, rfl, rfl⟩, hBl.push _⟩, fun q hq => ?_, ⟨?_, ?_⟩, ?_⟩
  · show q < (sb.heap.push _).objs.size
    rw [Heap.size_push]
    rcases List.mem_cons.mp hq with rfl | hq
    · exact Nat.lt_succ_self _
    · rw [List.mem_singleton.mp hq]; exact Nat.lt_succ_of_lt hBs
  · intro Cc i v s₃ m₃ E' hP hn hm hk htk
    exact wpAny_tests_nil ⟨rfl, s₃.heap, s₃.toks, rfl, fun _ _ e => e⟩
  · intro Cc i v s₃ m₃ E' hP _ hn hm hk htk
    have hP' : items[i]? = some v := by
      have h5 : (items.take 5)[i]? = some v := by simpa using hP
      rw [List.getElem?_take] at h5
      split at h5
      · exact h5
      · cases h5
    obtain ⟨k, t, rfl⟩ : ∃ k t, v = Value.int k t := intsAre_val hi hP'
    refine wpAny_BinOp (wpAny_Name (wpAny_loadName_local (by kernel_rfl!) (by kernel_rfl!) hn hm (wpAny_Constant_int (mod_int' (by decide) ⟨⟨k, t, s₃.toks + 1, rfl, ?_⟩, s₃.heap, _, rfl, fun _ _ e => e⟩))) (by decide +kernel))
    rw [show (((k.fmod 72).toNat : Nat) : Int) = k.fmod 72 by
      have := Int.fmod_nonneg_of_pos k (show (0 : Int) < 72 by decide)
      omega]
  · intro D h' tk ys vs hD hlD hpl hvl hP hF hk
    obtain ⟨nD, hD'⟩ := hpl
    rw [List.filter_eq_self.mpr fun _ _ => rfl] at hF
    have keep : ∀ q o, sb.heap.get? q = some o → h'.get? q = some o := fun q o e => hk q o (fun hm => Nat.ne_of_lt (Heap.lt_size e) (List.mem_singleton.mp hm)) (Heap.get?_push_of_some _ e)
    have hDs : sb.heap.get? D = none := by
      cases q : sb.heap.get? D with
      | none => rfl
      | some o => rw [Heap.get?_push_of_some _ q] at hD; cases hD
    have Xc := Xb.keeps (s' := { sb with heap := h', toks := tk }) keep rfl rfl (.refl _ _)
    obtain ⟨mb, Fb, Hb⟩ := Xb.fr
    have hDL : D ≠ L := fun e => by
      obtain ⟨o, _, _, ho, _⟩ := Fb.ns
      rw [← e, hDs] at ho; cases ho
    have hD0 : s₀.heap.get? D = none := by
      cases q : s₀.heap.get? D with
      | none => rfl
      | some o => rw [Fb.keep _ _ q] at hDs; cases hDs
    have Xd := Xc.add hD' hDL hD0
    refine Subscript_ (List_ (spliced_more (ev_int Xd fun t1 s1 X1 => spliced_more (ev_int X1 fun t2 s2 X2 => spliced_more (ev_int X2 fun t3 s3 X3 => spliced_more (ev_int X3 fun t4 s4 X4 => spliced_more (ev_int X4 fun t5 s5 X5 => spliced_none (new_list X5 fun B2 s6 hB2 X6 => ?_))))))))
    have hl6 : s6.heap.IsList a items.toArray := hl.at fun o e => X6.kp.keep a o e
    refine wpAny_Slice (evalPart_some_step (Call_ (ev_bltE (X6.cx C) (gl_len w os) bb_len nn_len (callWith_builtin1 (spliced_more (evc_local X6 (.head _) (spliced_none (len_list hl6 (by simp; omega) ?_))))))))
    have X7 := X6.toks (s6.toks + 1 + 1)
    refine evalPart_none_step (evalPart_none_step (kba_turn (value' := .Name (Str.ofString "_") ⟨0, 0, 0, 0⟩) (fun _ => rfl) ?_))
    rw [show (items.toArray.size : Int) = ((items.length : Nat) : Int) by simp]
    refine slice_from_In (items := [.int 1 t1, .int 15 t2, .int 2 t3, .int 4 t4, .int 8 t5]) (i := items.length) X7 ⟨_, (X7.nw _ (.head _)).1, rfl, _, rfl⟩ (by simp) fun B3 s8 X8 hB3 => ?_
    have hD8 := (X8.nw (D, { cls := .type "list", data := .seq ys nD }) (.tail _ (.tail _ (.head _)))).1
    refine add_lists_In (vs := ys.toList) X8 ⟨_, hD8, rfl, nD, by simp⟩ ⟨_, (X8.nw _ (.head _)).1, rfl, _, rfl⟩ ?_ fun B4 s9 X9 hB4 => stL X9 (.tail (by decide +kernel) .nil) fun s10 X10 => ?_
    · have h1 := hF.length
      have h2 : vs.length = (items.take 5).length := by rw [hvl]; simp
      simp only [List.length_take, List.length_drop, List.length_cons, List.length_nil] at h2 ⊢
      omega
    · refine h B4 (ys.toList ++ [Value.int 1 t1, .int 15 t2, .int 2 t3, .int 4 t4, .int 8 t5].drop items.length) 0 s10 ?_ (X10.news fun q hq => ?_)
      · rw [numsOf, ← hlen]
        refine AllV.append ?_ (AllV.drop _ ?_)
        · exact nums_of (hi := hi) hF (fun j v hj => by simpa using hP j v hj) (by rw [hvl]; simp)
        · exact ⟨⟨t1, rfl⟩, ⟨t2, rfl⟩, ⟨t3, rfl⟩, ⟨t4, rfl⟩, ⟨t5, rfl⟩, trivial⟩
      · rcases List.mem_cons.mp hq with rfl | hq
        · exact .head _
        · exact .tail _ (.tail _ (.tail _ (.tail _ (.tail _ hq))))
end WC

set_option maxHeartbeats 4000000
namespace WC
open PySem PySem.W PySem.Calls PyProof.Rows
open PyProof

theorem Cx.at136 {w : World} {os : OsState} {h : Heap} (C : Cx w os h) : h.get? 136 = some (o136_18 w.params) := C.K _ _ (top_at (by decide) (by kernel_rfl!) (by kernel_rfl!))
theorem Cx.at141 {w : World} {os : OsState} {h : Heap} (C : Cx w os h) : h.get? 141 = some (o141_18 w.params) := C.K _ _ (top_at (by decide) (by kernel_rfl!) (by kernel_rfl!))
theorem Cx.at155 {w : World} {os : OsState} {h : Heap} (C : Cx w os h) : h.get? 155 = some (o155_18 w.params) := C.K _ _ (top_at (by decide) (by kernel_rfl!) (by kernel_rfl!))

noncomputable def writ (nums : List Nat) : List Nat := ((drawn nums).1.getD 0 row0).1

/-- written, due -/
theorem law_2 {w : World} {os : OsState} {A : Around} {s s₀ : Shared} {a D : Addr} {vs : List Value} {e : Nat} {nums : List Nat} {due : List (Nat × Nat)} {N : List (Addr × Obj)} {L : Addr} {Q : Flow → Shared → Prop} {n : Nat}
    (C : Cx w os s₀.heap) (R : Room A (n + 1)) (X : In false s₀ L [(Str.ofString "script", .ref a), (Str.ofString "numbers", .ref D)] ((D, listOf (List.toArray vs) e) :: N) s) (hns : AllV NatV vs nums) (h5 : nums.length = 5) (hs : sortP (drawn nums).2 = some due)
    (h : ∀ tw Dd ds ed M s', PairsN M ds due → In false s₀ L [(Str.ofString "script", .ref a), (Str.ofString "numbers", .ref D), (Str.ofString "written", .str (tx (writ nums)) tw), (Str.ofString "due", .ref Dd)] ((Dd, listOf (List.toArray ds) ed) :: (M ++ (D, listOf (List.toArray vs) e) :: N)) s' →
      wpAny (model pw w) A (execs ((fbody (stI 18)).drop 2) (lenv L)) Q (fun _ _ => False) s') :
    wpAny (model pw w) A (execs ((fbody (stI 18)).drop 1) (lenv L)) Q (fun _ _ => False) s := by
  refine wpAny_execs_cons (Assign_Tuple (Call_ (ev_glob (X.cx C) (gl_drawn w os) (callWith_def (o := o136_18 w.params) rfl (spliced_more (evc_local X (.tail _ (.head _)) (spliced_none ⟨(X.cx C).at136, ?_⟩)))))))
  refine wpAny_mono (c_drawn (n := n) (E := fun _ _ => False) (X.cx C) R ⟨_, (X.nw _ (.head _)).1, rfl, _, rfl⟩ hns h5 hs) (fun v s₁ hv => ?_) fun _ _ e => e
  obtain ⟨T, Dd, ds, ed, e2, M, tx', rfl, hp, hm, k⟩ := hv
  have X₁ := X.made k hm
  have hT := X₁.nw _ (.head _)
  refine wpAny_assign_Tuple R.handled ⟨_, hT.1, rfl, _, rfl⟩ rfl rfl fun h₃ hx₃ => ?_
  replace hx₃ : Heap.ExtBut s₁.heap.objs.size s₁.heap h₃ := hx₃
  have X₂ := X₁.keeps (s' := { s₁ with heap := h₃ }) (fun b o x => hx₃ b o (Nat.ne_of_lt (Heap.lt_size x)) x) rfl rfl (.refl _ _)
  show wpAny _ A (do holding [_] (assign (.Name (Str.ofString "written") _) _ _); do holding [] (assign (.Name (Str.ofString "due") _) _ _); pure ()) _ _ _
  refine wpAny_bind (wpAny_holding (wpAny_assign_Name (stL X₂ (.tail (by decide +kernel) (.tail (by decide +kernel) .nil)) fun s₃ X₃ => ?_)))
  refine wpAny_bind (wpAny_holding (wpAny_assign_Name (stL X₃ (.tail (by decide +kernel) (.tail (by decide +kernel) (.tail (by decide +kernel) .nil))) fun s₄ X₄ => wpAny_pure ?_)))
  exact h tx' Dd ds ed M s₄ hp (X₄.news fun q hq => .tail _ hq)
end WC

set_option maxHeartbeats 4000000
namespace WC
open PySem PySem.W PySem.Calls PyProof.Rows
open PyProof

theorem e257q : Str.ofString "257 \"" = tx [50, 53, 55, 32, 34] := by decide +kernel
theorem eqq : Str.ofString "\"\"" = tx [34, 34] := by decide +kernel
theorem emade : Str.ofString "\" made" = tx [34, 32, 109, 97, 100, 101] := by decide +kernel
theorem parse_dbl : ∀ (W r : List Nat), r.head? ≠ some 34 → parseGo (StrLaws.dbl 34 W ++ 34 :: r) = W
  | [], r, h => parseGo_end h
  | c :: W, r, h => by
    by_cases e : c = 34
    · subst e
      have h1 : StrLaws.dbl 34 (34 :: W) ++ 34 :: r = 34 :: 34 :: (StrLaws.dbl 34 W ++ 34 :: r) := by simp [StrLaws.dbl]
      rw [h1, parseGo_two, parse_dbl W r h]
    · have h1 : StrLaws.dbl 34 (c :: W) ++ 34 :: r = c :: (StrLaws.dbl 34 W ++ 34 :: r) := by simp [StrLaws.dbl, e]
      rw [h1, parseGo_char e, parse_dbl W r h]
noncomputable def bareOf (W : List Nat) : List Nat := ((W.filter (· != 173)).map b3map).flatten

/-- bare -/
theorem law_3 {w : World} {os : OsState} {A : Around} {s s₀ : Shared} {a D Dd : Addr} {tw : Tok} {W : List Nat} {N : List (Addr × Obj)} {L : Addr} {Q : Flow → Shared → Prop} {n : Nat}
    (C : Cx w os s₀.heap) (R : Room A (n + 2)) (X : In false s₀ L [(Str.ofString "script", .ref a), (Str.ofString "numbers", .ref D), (Str.ofString "written", .str (tx W) tw), (Str.ofString "due", .ref Dd)] N s) (hW : ∀ c ∈ W, c ∈ signsOk) (hz : W.length ≤ 200)
    (h : ∀ tb s', In false s₀ L [(Str.ofString "script", .ref a), (Str.ofString "numbers", .ref D), (Str.ofString "written", .str (tx W) tw), (Str.ofString "due", .ref Dd), (Str.ofString "bare", .str (tx (bareOf W)) tb)] N s' →
      wpAny (model pw w) A (execs ((fbody (stI 18)).drop 3) (lenv L)) Q (fun _ _ => False) s') :
    wpAny (model pw w) A (execs ((fbody (stI 18)).drop 2) (lenv L)) Q (fun _ _ => False) s := by
  have hdl : (StrLaws.dbl 34 W).length ≤ 2 * W.length := by
    clear h X hW hz
    induction W with
    | nil => exact Nat.le_refl _
    | cons c r ih => simp only [StrLaws.dbl]; split <;> simp <;> omega
  refine wpAny_execs_cons (wpAny_Assign_Name (Call_ (ev_glob (X.cx C) (gl_read w os) (callWith_def (o := o141_18 w.params) rfl (spliced_more (wpAny_BinOp (wpAny_BinOp (Calls.Constant_str ?_))))))))
  have X₁ := X.toks (s.toks + 1)
  rw [e257q]
  refine MethodCall_ (evc_local X₁ (.tail _ (.tail _ (.head _))) (GM.replace (callWith_method1 ?_ rfl (by kernel_rfl!))))
  refine spliced_more (Calls.Constant_str (spliced_more (Calls.Constant_str (spliced_none ?_))))
  have X₂ := X.toks (s.toks + 1 + 1 + 1)
  refine SC.replaceW (by show s.toks + 1 ≠ 0; omega) (by show s.toks + 1 + 1 ≠ 0; omega) (by show s.toks + 1 ≠ s.toks + 1 + 1; omega) (by decide +kernel) (by rw [tx_length]; omega) (by rw [eqq]; decide) fun t' k => ?_
  have X₃ := X.toks k
  rw [replace_dbl (tx W) _ _ 34 str34 eqq, List.toList_toArray]
  refine add_tx X₃ (by simp) (by omega) fun t4 s4 X4 => ev_str X4 fun t5 s5 X5 => ?_
  rw [emade]
  refine add_tx X5 (by simp; omega) (by simp) fun t6 s6 X6 => spliced_none ⟨(X6.cx C).at141, ?_⟩
  have hp : parseGo ((([50, 53, 55, 32, 34] ++ StrLaws.dbl 34 W) ++ [34, 32, 109, 97, 100, 101]).drop 5) = W := by
    show parseGo (StrLaws.dbl 34 W ++ 34 :: [32, 109, 97, 100, 101]) = W
    exact parse_dbl W _ (by decide)
  refine wpAny_mono (c_read (n := n) (E := fun _ _ => False) (X6.cx C) R _ rfl rfl (by simp <;> omega) (by simp <;> omega) (by rw [hp]; exact hW)) (fun v s7 hv => ?_) fun _ _ e => e
  obtain ⟨⟨t7, rfl⟩, k7⟩ := hv
  have X7 := X6.after k7
  rw [readP, hp]
  exact stL X7 (.tail (by decide +kernel) (.tail (by decide +kernel) (.tail (by decide +kernel) (.tail (by decide +kernel) .nil)))) fun s8 X8 => h t7 s8 X8
end WC

set_option maxHeartbeats 4000000
namespace WC
open PySem PySem.W PySem.Calls PyProof.Rows
open PyProof

/-- law's names up to folders -/
noncomputable abbrev lawN (a D : Addr) (W : List Nat) (tw : Tok) (Dd : Addr) (B : List Nat) (tb : Tok) : List (Str × Value) :=
  [(Str.ofString "script", .ref a), (Str.ofString "numbers", .ref D), (Str.ofString "written", .str (tx W) tw), (Str.ofString "due", .ref Dd), (Str.ofString "bare", .str (tx B) tb)]
/-- folders -/
theorem law_4 {w : World} {os : OsState} {A : Around} {s s₀ : Shared} {a D Dd : Addr} {tw tb : Tok} {W B : List Nat} {N : List (Addr × Obj)} {L : Addr} {Q : Flow → Shared → Prop} {n : Nat} {qs : List (Nat × Nat)}
    (C : Cx w os s₀.heap) (R : Room A (n + 5)) (X : In false s₀ L (lawN a D W tw Dd B tb) N s) (h92 : 92 ∉ B) (hz : B.length ≤ 500) (h2 : 2 ≤ (toldList B).length) (h64 : (toldList B).length < 64) (hs : sortP (toldList B) = some qs)
    (h : ∀ Df fs ef M s', PairsN M fs qs → In false s₀ L (lawN a D W tw Dd B tb ++ [(Str.ofString "folders", .ref Df)]) ((Df, listOf (List.toArray fs) ef) :: (M ++ N)) s' →
      wpAny (model pw w) A (execs ((fbody (stI 18)).drop 4) (lenv L)) Q (fun _ _ => False) s') :
    wpAny (model pw w) A (execs ((fbody (stI 18)).drop 3) (lenv L)) Q (fun _ _ => False) s := by
  refine wpAny_execs_cons (wpAny_Assign_Name (Call_ (ev_glob (X.cx C) (gl_told w os) (callWith_def (o := o155_18 w.params) rfl (spliced_more (evc_local X (.tail _ (.tail _ (.tail _ (.tail _ (.head _))))) (spliced_none ⟨(X.cx C).at155, ?_⟩)))))))
  refine wpAny_mono (c_told (n := n) (E := fun _ _ => False) (X.cx C) R B h92 hz h2 h64 hs) (fun v s₁ hv => ?_) fun _ _ e => e
  obtain ⟨Df, fs, ef, M, rfl, hp, hm, hne, k⟩ := hv
  have X₁ := X.made k hm
  exact stL X₁ (.tail (by decide +kernel) (.tail (by decide +kernel) (.tail (by decide +kernel) (.tail (by decide +kernel) (.tail (by decide +kernel) .nil))))) fun s₂ X₂ => h Df fs ef M s₂ hp X₂
end WC

set_option maxHeartbeats 4000000
namespace WC
open PySem PySem.W PySem.Calls PyProof.Rows PySem.SeqAt
open PyProof

/-! lists of pairs and of texts as data -/
noncomputable abbrev pairD (p : Nat × Nat) : PyData := .tuple [.int (p.1 : Nat), .int (p.2 : Nat)]
theorem same_pair (p q : Nat × Nat) : PySem.Spec.same (pairD p) (pairD q) = decide (p = q) := by
  obtain ⟨a, b⟩ := p
  obtain ⟨c, d⟩ := q
  simp only [PySem.Spec.same, PySem.Spec.sameAll, Bool.and_true]
  by_cases h1 : a = c <;> by_cases h2 : b = d <;> simp [h1, h2] <;> omega
theorem same_pairs : ∀ ps qs : List (Nat × Nat), PySem.Spec.sameAll (ps.map pairD) (qs.map pairD) = decide (ps = qs)
  | [], [] => by simp [PySem.Spec.sameAll]
  | [], _ :: _ => by simp [PySem.Spec.sameAll]
  | _ :: _, [] => by simp [PySem.Spec.sameAll]
  | p :: r, q :: u => by
    rw [List.map_cons, List.map_cons, PySem.Spec.sameAll, same_pair, same_pairs r u]
    by_cases h : p = q <;> by_cases h' : r = u <;> simp [h, h']
theorem canLay_pairs : ∀ ps : List (Nat × Nat), PyData.canLayAll0 (ps.map pairD) = true
  | [] => by simp [PyData.canLayAll0]
  | p :: r => by simp [PyData.canLayAll0, PyData.canLay0, canLay_pairs r]
theorem depth_pairs : ∀ ps : List (Nat × Nat), PyData.depthAll (ps.map pairD) ≤ 3
  | [] => by simp [PyData.depthAll]
  | p :: r => by
    have := depth_pairs r
    simp only [List.map_cons, PyData.depthAll, PyData.depth]
    omega
theorem shaped_pair (p : Nat × Nat) : shaped (pairD p) = true := by
  have h2 : PyData.depth (pairD p) ≤ 64 := by simp [PyData.depth, PyData.depthAll]
  show (PyData.canLay0 (pairD p) && decide (PyData.depth (pairD p) ≤ 64)) = true
  rw [Bool.and_eq_true]
  exact ⟨by simp [PyData.canLay0, PyData.canLayAll0], decide_eq_true h2⟩
theorem shaped_pairs (ps : List (Nat × Nat)) : shaped (.list (ps.map pairD)) = true := by
  have h1 := depth_pairs ps
  have h2 : PyData.depth (.list (ps.map pairD)) ≤ 64 := by simp only [PyData.depth]; omega
  show (PyData.canLay0 (.list (ps.map pairD)) && decide (PyData.depth (.list (ps.map pairD)) ≤ 64)) = true
  rw [Bool.and_eq_true]
  exact ⟨by simp only [PyData.canLay0]; exact canLay_pairs ps, decide_eq_true h2⟩
theorem noMix_pair (p q : Nat × Nat) : noMix (pairD p) (pairD q) = true := by simp [noMix, noMixAll]
theorem noMix_pairs : ∀ ps qs : List (Nat × Nat), noMixAll (ps.map pairD) (qs.map pairD) = true
  | [], [] => by simp [noMixAll]
  | [], _ :: _ => by simp [noMixAll]
  | _ :: _, [] => by simp [noMixAll]
  | p :: r, q :: u => by rw [List.map_cons, List.map_cons, noMixAll, noMix_pair, noMix_pairs r u]; rfl
theorem count_pairs (p : Nat × Nat) : ∀ qs : List (Nat × Nat), decide (PySem.Spec.countIn (pairD p) (qs.map pairD) ≠ 0) = decide (p ∈ qs)
  | [] => by simp [PySem.Spec.countIn]
  | q :: r => by
    have ih := count_pairs p r
    have h0 := countIn_ge0 (pairD p) (r.map pairD)
    rw [List.map_cons, PySem.Spec.countIn, same_pair]
    by_cases h : q = p
    · subst h
      simp; omega
    · have h' : ¬ p = q := fun e => h e.symm
      simp only [h, decide_false, Bool.false_eq_true, if_false, Int.zero_add, List.mem_cons, h', false_or]
      exact ih
theorem shaped_strs (ys : List Str) (ok : ∀ y ∈ ys, PyData.strOk y = true) : shaped (.list (ys.map PyData.str)) = true := by
  have c : ∀ ys : List Str, (∀ y ∈ ys, PyData.strOk y = true) → PyData.canLayAll0 (ys.map PyData.str) = true := fun ys => by
    induction ys with
    | nil => intro _; simp [PyData.canLayAll0]
    | cons y r ih => intro ok; simp [PyData.canLayAll0, PyData.canLay0, ih fun z hz => ok z (.tail _ hz), ok y (.head _)]
  have d : ∀ ys : List Str, PyData.depthAll (ys.map PyData.str) ≤ 1 := fun ys => by
    induction ys with
    | nil => simp [PyData.depthAll]
    | cons y r ih => simp only [List.map_cons, PyData.depthAll, PyData.depth]; omega
  have h1 := d ys
  have h2 : PyData.depth (.list (ys.map PyData.str)) ≤ 64 := by simp only [PyData.depth]; omega
  show (PyData.canLay0 (.list (ys.map PyData.str)) && decide (PyData.depth (.list (ys.map PyData.str)) ≤ 64)) = true
  rw [Bool.and_eq_true]
  exact ⟨by simp only [PyData.canLay0]; exact c ys ok, decide_eq_true h2⟩
theorem noMix_strs : ∀ ys zs : List Str, noMixAll (ys.map PyData.str) (zs.map PyData.str) = true
  | [], [] => by simp [noMixAll]
  | [], _ :: _ => by simp [noMixAll]
  | _ :: _, [] => by simp [noMixAll]
  | p :: r, q :: u => by rw [List.map_cons, List.map_cons, noMixAll, noMix_strs r u]; simp [noMix]
theorem same_strs : ∀ ys zs : List Str, PySem.Spec.sameAll (ys.map PyData.str) (zs.map PyData.str) = decide (ys = zs)
  | [], [] => by simp [PySem.Spec.sameAll]
  | [], _ :: _ => by simp [PySem.Spec.sameAll]
  | _ :: _, [] => by simp [PySem.Spec.sameAll]
  | p :: r, q :: u => by
    rw [List.map_cons, List.map_cons, PySem.Spec.sameAll, same_strs r u, PySem.Spec.same]
    by_cases h : p = q <;> by_cases h' : r = u <;> simp [h, h']

theorem PairsN.reads {h₀ h : Heap} {L : Addr} {N : List (Addr × Obj)} (nw : News h₀ L h N) : ∀ {vs : List Value} {ps : List (Nat × Nat)}, PairsN N vs ps → ReadsAll h vs (ps.map pairD) []
  | [], [], _ => .nil
  | [], _ :: _, k => k.elim
  | _ :: _, [], k => k.elim
  | v :: vs, p :: ps, k => by
    obtain ⟨T, t, u, n, rfl, m⟩ := k.1
    have h1 : Reads h (.ref T) (pairD p) [] := .tuple (nw _ m).1 rfl rfl (.cons (as := []) (.int _ t) (.cons (as := []) (.int _ u) .nil))
    exact .cons (as := []) h1 (k.2.reads nw)
section
variable {b : Bool} {w : World} {A : Around} {E : Value → Shared → Prop} {s s₀ : Shared} {L D1 D2 T : Addr} {l : List (Str × Value)} {N : List (Addr × Obj)} {vs us : List Value} {ps qs : List (Nat × Nat)} {e1 e2 n : Nat} {Q : Value → Shared → Prop}
theorem readsP (X : In b s₀ L l N s) (h1 : (D1, listOf (List.toArray vs) e1) ∈ N) (hp : PairsN N vs ps) : Reads s.heap (.ref D1) (.list (ps.map pairD)) [D1] :=
  .list (X.nw _ h1).1 rfl rfl (hp.reads X.nw)
theorem eq_pairs (X : In b s₀ L l N s) (hu : A.units + 65 < cLine) (h1 : (D1, listOf (List.toArray vs) e1) ∈ N) (hp : PairsN N vs ps) (h2 : (D2, listOf (List.toArray us) e2) ∈ N) (hq : PairsN N us qs)
    (h : Q (.bool (decide (ps = qs))) s) : wpAny (model pw w) A (compareOp .Eq (.ref D1) (.ref D2)) Q E s :=
  eq_dataH_same (readsP X h1 hp) (readsP X h2 hq) (shaped_pairs ps) (shaped_pairs qs) (by omega) (by simp only [noMix]; exact noMix_pairs ps qs) (by simp only [PySem.Spec.same]; rw [same_pairs]; exact h)
theorem in_pairs {p : Nat × Nat} {t u : Tok} (X : In b s₀ L l N s) (hu : A.units + 65 < cLine) (hT : (T, tupO p t u n) ∈ N) (h1 : (D1, listOf (List.toArray vs) e1) ∈ N) (hp : PairsN N vs ps)
    (h : Q (.bool (decide (p ∈ ps))) s) : wpAny (model pw w) A (compareOp .In (.ref T) (.ref D1)) Q E s :=
  in_list_dataH (readsP X h1 hp) (d := pairD p) (bs := []) (.tuple (X.nw _ hT).1 rfl rfl (.cons (as := []) (.int _ t) (.cons (as := []) (.int _ u) .nil))) (shaped_pairs ps) (shaped_pair p) hu (fun y hy => by
    obtain ⟨q, _, rfl⟩ := List.mem_map.mp hy
    exact noMix_pair q p) (by rw [count_pairs]; exact h)
theorem ne_strs {ys zs : List Str} (oy : ∀ y ∈ ys, PyData.strOk y = true) (oz : ∀ y ∈ zs, PyData.strOk y = true) (hu : A.units + 65 < cLine) (h1 : s.heap.IsList D1 vs.toArray) (hp : StrsAre vs ys) (h2 : s.heap.IsList D2 us.toArray) (hq : StrsAre us zs)
    (h : Q (.bool (!decide (ys = zs))) s) : wpAny (model pw w) A (compareOp .NotEq (.ref D1) (.ref D2)) Q E s := by
  have rd : ∀ {vs : List Value} {ys : List Str}, StrsAre vs ys → ReadsAll s.heap vs (ys.map PyData.str) [] := fun hh => by
    induction hh with
    | nil => exact .nil
    | cons y t _ ih => exact .cons (as := []) (.str y t) ih
  obtain ⟨o, ho, hc, n, hd⟩ := h1
  obtain ⟨o', ho', hc', n', hd'⟩ := h2
  exact ne_dataH_same (.list ho hc hd (rd hp)) (.list ho' hc' hd' (rd hq)) (shaped_strs ys oy) (shaped_strs zs oz) (by omega) (by simp only [noMix]; exact noMix_strs ys zs) (by simp only [PySem.Spec.same]; rw [same_strs]; exact h)
end
end WC

set_option maxHeartbeats 4000000
namespace WC
open PySem PySem.W PySem.Calls PyProof.Rows
open PyProof

/-! tokens: 0 an opening bracket, 1 a closing one, n + 2 the name n in quotes -/
noncomputable def rtok (nm : Nat → List Nat) : Nat → List Nat
  | 0 => [40]
  | 1 => [41]
  | n + 2 => 34 :: (nm n ++ [34])
noncomputable def rend (nm : Nat → List Nat) (ts : List Nat) : List Nat := (ts.map (rtok nm)).flatten
noncomputable def brT (ts : List Nat) : List Nat := ts.filterMap fun t => match t with | 0 => some 40 | 1 => some 41 | _ => none
noncomputable def nmsT (ts : List Nat) : List Nat := ts.filterMap fun t => match t with | n + 2 => some n | _ => none
theorem rend_nil (nm : Nat → List Nat) : rend nm [] = [] := rfl
theorem rend_cons (nm : Nat → List Nat) (t : Nat) (r : List Nat) : rend nm (t :: r) = rtok nm t ++ rend nm r := rfl
theorem rend_append (nm : Nat → List Nat) (a b : List Nat) : rend nm (a ++ b) = rend nm a ++ rend nm b := by simp [rend]
theorem rend_count {nm : Nat → List Nat} (hn : ∀ n, 34 ∉ nm n) (ts : List Nat) : (rend nm ts).count 34 = 2 * (nmsT ts).length := by
  induction ts with
  | nil => rfl
  | cons t r ih =>
    rw [rend_cons, List.count_append, ih]
    match t with
    | 0 => simp [rtok, nmsT]
    | 1 => simp [rtok, nmsT]
    | n + 2 =>
      simp [rtok, nmsT, List.count_append, List.count_eq_zero_of_not_mem (hn n)]
      omega

theorem stripGo_skip {cs : List Nat} : ∀ (xs r : List Nat) (i st : Nat) (op : Option Nat) (res : List (List Nat)), 34 ∉ xs → stripGo cs (xs ++ r) i st op res = stripGo cs r (i + xs.length) st op res
  | [], _, _, _, _, _, _ => rfl
  | c :: xs, r, i, st, op, res, h => by
    have h1 : c ≠ 34 := fun e => h (e ▸ .head _)
    rw [List.cons_append, stripGo_other h1, stripGo_skip xs r (i + 1) st op res fun q => h (.tail _ q), List.length_cons, Nat.add_assoc, Nat.add_comm 1]
theorem strip_rend {nm : Nat → List Nat} (hn : ∀ n, 34 ∉ nm n) {cs : List Nat} : ∀ (ts P : List Nat) (st : Nat) (res : List (List Nat)), cs = P ++ rend nm ts → st ≤ P.length →
    stripGo cs (rend nm ts) P.length st none res = res.flatten ++ P.drop st ++ brT ts
  | [], P, st, res, hc, hs => by
    rw [rend_nil, stripGo_nil]
    rw [rend_nil, List.append_nil] at hc
    subst hc
    by_cases h : st < cs.length
    · simp [h, brT]
    · simp [h, brT, List.drop_eq_nil_of_le (Nat.le_of_not_lt h)]
  | 0 :: r, P, st, res, hc, hs => by
    have := strip_rend (cs := cs) hn r (P ++ [40]) st res (by rw [hc, rend_cons]; simp [rtok]) (by simp; omega)
    rw [rend_cons, show rtok nm 0 ++ rend nm r = 40 :: rend nm r from rfl, stripGo_other (by decide)]
    rw [List.length_append, List.length_singleton] at this
    rw [this, List.drop_append_of_le_length hs]
    simp [brT]
  | 1 :: r, P, st, res, hc, hs => by
    have := strip_rend (cs := cs) hn r (P ++ [41]) st res (by rw [hc, rend_cons]; simp [rtok]) (by simp; omega)
    rw [rend_cons, show rtok nm 1 ++ rend nm r = 41 :: rend nm r from rfl, stripGo_other (by decide)]
    rw [List.length_append, List.length_singleton] at this
    rw [this, List.drop_append_of_le_length hs]
    simp [brT]
  | (n + 2) :: r, P, st, res, hc, hs => by
    have hcs : cs = P ++ (34 :: (nm n ++ [34]) ++ rend nm r) := by rw [hc, rend_cons]; rfl
    have := strip_rend (cs := cs) hn r (P ++ 34 :: (nm n ++ [34])) (P.length + (nm n).length + 2) (if st = P.length then res else res ++ [(cs.drop st).take (P.length - st)]) (by rw [hcs]; simp) (by simp; omega)
    rw [rend_cons, show rtok nm (n + 2) ++ rend nm r = 34 :: (nm n ++ 34 :: rend nm r) by simp [rtok], stripGo_open, stripGo_skip _ _ _ _ _ _ (hn n), stripGo_close]
    rw [show (P ++ 34 :: (nm n ++ [34]) : List Nat).length = P.length + 1 + (nm n).length + 1 by simp; omega, show P.length + (nm n).length + 2 = P.length + 1 + (nm n).length + 1 by omega] at this
    rw [this]
    have e1 : (P ++ 34 :: (nm n ++ [34])).drop (P.length + 1 + (nm n).length + 1) = [] := List.drop_eq_nil_of_le (by simp; omega)
    rw [e1, List.append_nil]
    have e2 : brT ((n + 2) :: r) = brT r := rfl
    rw [e2]
    congr 1
    by_cases h : st = P.length
    · rw [if_pos h, h]; simp
    · rw [if_neg h]
      have e3 : (cs.drop st).take (P.length - st) = P.drop st := by
        rw [hcs, List.drop_append_of_le_length hs, List.take_append_of_le_length (by simp), List.take_of_length_le (by simp)]
      rw [e3]; simp
theorem stripP_go (cs : List Nat) : stripP cs = stripGo cs cs 0 0 none [] := by
  unfold stripP
  split
  · rfl
  · rename_i h
    have := stripGo_skip (cs := cs) cs [] 0 0 none [] h
    rw [List.append_nil] at this
    rw [this, stripGo_nil]
    by_cases h0 : 0 < cs.length
    · simp [h0]
    · simp [h0]
      exact (List.eq_nil_of_length_eq_zero (by omega))
theorem stripP_rend {nm : Nat → List Nat} (hn : ∀ n, 34 ∉ nm n) (ts : List Nat) : stripP (rend nm ts) = brT ts := by
  rw [stripP_go]
  have := strip_rend (cs := rend nm ts) hn ts [] 0 [] rfl (Nat.le_refl _)
  simpa using this
noncomputable def checkT (ts : List Nat) : Bool := checkGo (brT ts) 0
theorem checkP_rend {nm : Nat → List Nat} (hn : ∀ n, 34 ∉ nm n) (ts : List Nat) : checkP (rend nm ts) = checkT ts := by
  rw [checkP, stripP_rend hn]; rfl

/-! where the opening bracket ends -/
noncomputable def lendT : List Nat → List Nat → Option (List Nat)
  | _, [] => none
  | c, 1 :: r => if checkT (0 :: c ++ [1]) then (if checkT (c ++ [1] ++ [0]) then none else some (c ++ [1])) else lendT (c ++ [1]) r
  | c, t :: r => lendT (c ++ [t]) r

/-- signs at which no end is looked for -/
theorem lendGo_skip {ws : List Nat} {k : Nat} : ∀ (xs : List Nat) (m j : Nat), (∀ i, i < xs.length → ws.getD (j + i) 0 = 41 → (ws.take (j + i)).count 34 % 2 = 1) → lendGo ws k (xs.length + m) j = lendGo ws k m (j + xs.length)
  | [], m, j, _ => by simp
  | x :: xs, m, j, h => by
    have h0 : lendHit ws k j = false := by
      unfold lendHit
      by_cases e : ws.getD j 0 = 41
      · have := h 0 (by simp) (by simpa using e)
        simp only [Nat.add_zero] at this
        rw [this]; simp
      · rw [show (ws.getD j 0 == 41) = false by simpa using e]; rfl
    rw [show (x :: xs).length + m = (xs.length + m) + 1 by simp; omega, lendGo, h0]
    simp only [Bool.false_eq_true, if_false]
    rw [lendGo_skip xs m (j + 1) fun i hi he => by
      have := h (i + 1) (by simpa using hi) (by rw [← he]; congr 1; omega)
      rw [← this]; congr 3; omega]
    congr 1
    simp; omega
theorem getD_mid (P xs R : List Nat) (i : Nat) (h : i < xs.length) : (P ++ (xs ++ R)).getD (P.length + i) 0 = xs.getD i 0 := by
  rw [List.getD_eq_getElem?_getD, List.getElem?_append_right (by omega), Nat.add_sub_cancel_left, List.getElem?_append_left h, ← List.getD_eq_getElem?_getD]
theorem take_mid (P xs R : List Nat) (i : Nat) (h : i ≤ xs.length) : (P ++ (xs ++ R)).take (P.length + i) = P ++ xs.take i := by
  rw [List.take_append, List.take_of_length_le (by omega), Nat.add_sub_cancel_left, List.take_append_of_le_length h]
/-- the signs of a name in quotes -/
theorem name_quiet {nm : Nat → List Nat} (hn : ∀ n, 34 ∉ nm n) {n : Nat} {P R ws : List Nat} (hw : ws = P ++ (rtok nm (n + 2) ++ R)) (hP : P.count 34 % 2 = 0) (c : Nat) (hc : c ≠ 34) (i : Nat) (hi : i < (rtok nm (n + 2)).length) (he : ws.getD (P.length + i) 0 = c) : (ws.take (P.length + i)).count 34 % 2 = 1 := by
  subst hw
  rw [getD_mid _ _ _ _ hi] at he
  rw [take_mid _ _ _ _ (Nat.le_of_lt hi), List.count_append]
  have h1 : rtok nm (n + 2) = 34 :: (nm n ++ [34]) := rfl
  rw [h1] at hi he ⊢
  match i with
  | 0 => exact absurd he.symm hc
  | j + 1 =>
    rw [List.getD_cons_succ] at he
    simp only [List.length_cons, List.length_append, List.length_nil] at hi
    have hj : j < (nm n).length := by
      by_cases q : j < (nm n).length
      · exact q
      · have : j = (nm n).length := by omega
        subst this
        rw [List.getD_eq_getElem?_getD, List.getElem?_append_right (Nat.le_refl _)] at he
        simp at he
        exact absurd he.symm hc
    have h2 : ((34 :: (nm n ++ [34])).take (j + 1)).count 34 = 1 := by
      rw [List.take_succ_cons, List.take_append_of_le_length (by omega), List.count_cons_self, List.count_eq_zero_of_not_mem fun q => hn n (List.mem_of_mem_take q)]
    rw [h2]; omega
theorem lendGo_rend {nm : Nat → List Nat} (hn : ∀ n, 34 ∉ nm n) {ws A : List Nat} (hA : A.count 34 % 2 = 0) : ∀ (r c : List Nat), ws = A ++ (rend nm (0 :: c) ++ rend nm r) →
    lendGo ws A.length (rend nm r).length (A.length + 1 + (rend nm c).length) = match lendT c r with
      | none => A.length
      | some c' => A.length + 1 + (rend nm c').length
  | [], c, hw => rfl
  | 0 :: r, c, hw => by
    have ih := lendGo_rend (ws := ws) hn hA r (c ++ [0]) (by rw [hw, ← List.cons_append, rend_append, rend_cons nm 0 r]; simp [rend_cons, rend_nil])
    have e : lendT c (0 :: r) = lendT (c ++ [0]) r := rfl
    rw [e, ← ih, rend_cons, List.length_append, lendGo_skip, rend_append]
    · congr 1
      simp [rend_cons, rend_nil]; omega
    · intro i hi he
      have h0 : i = 0 := by simp [rtok] at hi; omega
      subst h0
      rw [hw, rend_cons nm 0 r, ← List.append_assoc, show A.length + 1 + (rend nm c).length + 0 = (A ++ rend nm (0 :: c)).length + 0 by simp [rend_cons, rtok]; omega, getD_mid _ _ _ _ (by simp [rtok])] at he
      simp [rtok] at he
  | (n + 2) :: r, c, hw => by
    have ih := lendGo_rend (ws := ws) hn hA r (c ++ [n + 2]) (by rw [hw, ← List.cons_append, rend_append, rend_cons nm (n + 2) r]; simp [rend_cons, rend_nil])
    have e : lendT c ((n + 2) :: r) = lendT (c ++ [n + 2]) r := by rw [lendT.eq_3]; intro h; omega
    rw [e, ← ih, rend_cons, List.length_append, lendGo_skip, rend_append]
    · congr 1
      simp [rend_cons, rend_nil]; omega
    · intro i hi he
      rw [show A.length + 1 + (rend nm c).length = (A ++ rend nm (0 :: c)).length by simp [rend_cons, rtok]; omega] at he ⊢
      refine name_quiet hn (R := rend nm r) (by rw [hw, rend_cons nm (n + 2) r, List.append_assoc]) ?_ 41 (by decide) i hi he
      rw [List.count_append, rend_count hn]; omega
  | 1 :: r, c, hw => by
    have hp : (A ++ rend nm (0 :: c)).length = A.length + 1 + (rend nm c).length := by simp [rend_cons, rtok]; omega
    have hw2 : ws = (A ++ rend nm (0 :: c)) ++ ([41] ++ rend nm r) := by rw [hw, rend_cons nm 1 r, List.append_assoc]; rfl
    have hit : lendHit ws A.length (A.length + 1 + (rend nm c).length) = checkT (0 :: c ++ [1]) := by
      unfold lendHit
      have h1 : ws.getD (A.length + 1 + (rend nm c).length) 0 = 41 := by
        have := getD_mid (A ++ rend nm (0 :: c)) [41] (rend nm r) 0 (by simp)
        rw [← hw2, hp] at this; exact this
      have h2 : (ws.take (A.length + 1 + (rend nm c).length)).count 34 % 2 = 0 := by
        have := take_mid (A ++ rend nm (0 :: c)) [41] (rend nm r) 0 (by simp)
        rw [← hw2, hp] at this
        rw [Nat.add_zero] at this
        rw [this, List.take_zero, List.append_nil, List.count_append, rend_count hn]; omega
      have h3 : (ws.drop A.length).take (A.length + 1 + (rend nm c).length + 1 - A.length) = rend nm (0 :: c ++ [1]) := by
        rw [hw2, List.append_assoc, List.drop_left, ← List.append_assoc, rend_append]
        rw [List.take_append_of_le_length (by simp [rend_cons, rtok]; omega)]
        rw [show rend nm [1] = [41] from rfl, List.take_of_length_le (by simp [rend_cons, rtok]; omega)]
      rw [h1, h2, h3, checkP_rend hn]; rfl
    have out : lendOut ws A.length (A.length + 1 + (rend nm c).length) = if checkT (c ++ [1] ++ [0]) then A.length else A.length + 1 + (rend nm (c ++ [1])).length := by
      unfold lendOut
      have h3 : (ws.drop (A.length + 1)).take (A.length + 1 + (rend nm c).length + 1 - (A.length + 1)) ++ [40] = rend nm (c ++ [1] ++ [0]) := by
        have hw3 : ws = (A ++ [40]) ++ ((rend nm c ++ [41]) ++ rend nm r) := by rw [hw2, rend_cons]; simp [rtok]
        rw [hw3, show A.length + 1 = (A ++ [40]).length by simp, List.drop_left, List.take_append_of_le_length (by simp; omega), List.take_of_length_le (by simp; omega), rend_append, rend_append]
        rfl
      rw [h3, checkP_rend hn, rend_append]
      rw [show (rend nm c ++ rend nm [1]).length = (rend nm c).length + 1 by rw [List.length_append]; rfl]
      rfl
    rw [rend_cons, show (rtok nm 1 ++ rend nm r).length = (rend nm r).length + 1 by rw [List.length_append]; show 1 + _ = _; omega, lendGo, hit, out]
    have e : lendT c (1 :: r) = if checkT (0 :: c ++ [1]) then (if checkT (c ++ [1] ++ [0]) then none else some (c ++ [1])) else lendT (c ++ [1]) r := rfl
    rw [e]
    by_cases q1 : checkT (0 :: c ++ [1]) = true
    · rw [if_pos q1, if_pos q1]
      by_cases q2 : checkT (c ++ [1] ++ [0]) = true
      · rw [if_pos q2, if_pos q2]
      · rw [if_neg q2, if_neg q2]
    · rw [if_neg q1, if_neg q1]
      have ih := lendGo_rend (ws := ws) hn hA r (c ++ [1]) (by rw [hw, ← List.cons_append, rend_append, rend_cons nm 1 r]; simp [rend_cons, rend_nil])
      rw [← ih, rend_append, List.length_append]
      rfl
theorem lendT_pre : ∀ (r c c' : List Nat), lendT c r = some c' → ∃ q, c ++ r = c' ++ q
  | [], _, _, h => nomatch h
  | 0 :: r, c, c', h => by
    obtain ⟨q, e⟩ := lendT_pre r (c ++ [0]) c' h
    exact ⟨q, by rw [← e]; simp⟩
  | 1 :: r, c, c', h => by
    have e : lendT c (1 :: r) = if checkT (0 :: c ++ [1]) then (if checkT (c ++ [1] ++ [0]) then none else some (c ++ [1])) else lendT (c ++ [1]) r := rfl
    rw [e] at h
    split at h
    · split at h
      · cases h
      · cases h; exact ⟨r, by simp⟩
    · obtain ⟨q, e⟩ := lendT_pre r (c ++ [1]) c' h
      exact ⟨q, by rw [← e]; simp⟩
  | (n + 2) :: r, c, c', h => by
    have e : lendT c ((n + 2) :: r) = lendT (c ++ [n + 2]) r := by rw [lendT.eq_3]; intro h; omega
    rw [e] at h
    obtain ⟨q, e⟩ := lendT_pre r (c ++ [n + 2]) c' h
    exact ⟨q, by rw [← e]; simp⟩

/-! what is told -/
noncomputable def toldT (a : Nat) : List Nat → List (Nat × Nat)
  | [] => []
  | 0 :: r => (a, a + match lendT [] r with | none => 0 | some c' => (nmsT c').length) :: toldT a r
  | 1 :: r => toldT a r
  | (_ + 2) :: r => toldT (a + 1) r
theorem toldGo_skip {ws : List Nat} : ∀ (xs r : List Nat) (j : Nat), (∀ i, i < xs.length → xs.getD i 0 = 40 → (ws.take (j + i)).count 34 % 2 = 1) → toldGo ws (xs ++ r) j = toldGo ws r (j + xs.length)
  | [], r, j, _ => by simp
  | x :: xs, r, j, h => by
    have h0 : (x == 40 && (ws.take j).count 34 % 2 == 0) = false := by
      by_cases e : x = 40
      · have := h 0 (by simp) (by simpa using e)
        simp only [Nat.add_zero] at this
        rw [this]; simp
      · rw [show (x == 40) = false by simpa using e]; rfl
    rw [List.cons_append, toldGo, h0]
    simp only [Bool.false_eq_true, if_false]
    rw [toldGo_skip xs r (j + 1) fun i hi he => by
      have := h (i + 1) (by simpa using hi) (by simpa using he)
      rw [← this]; congr 3; omega]
    congr 1
    simp; omega
theorem toldGo_rend {nm : Nat → List Nat} (hn : ∀ n, 34 ∉ nm n) {ws : List Nat} : ∀ (post pre : List Nat), ws = rend nm pre ++ rend nm post → toldGo ws (rend nm post) (rend nm pre).length = toldT (nmsT pre).length post
  | [], pre, hw => rfl
  | 1 :: r, pre, hw => by
    have ih := toldGo_rend (ws := ws) hn r (pre ++ [1]) (by rw [hw, rend_append, rend_cons]; simp [rend_cons, rend_nil])
    rw [rend_cons, toldGo_skip _ _ _ fun i hi he => ?_]
    · rw [rend_append] at ih
      rw [show (rend nm pre ++ rend nm [1]).length = (rend nm pre).length + (rtok nm 1).length by rw [List.length_append]; rfl] at ih
      rw [ih]
      simp [nmsT, toldT]
    · have h0 : i = 0 := by simp [rtok] at hi; omega
      subst h0
      simp [rtok] at he
  | (n + 2) :: r, pre, hw => by
    have ih := toldGo_rend (ws := ws) hn r (pre ++ [n + 2]) (by rw [hw, rend_append, rend_cons]; simp [rend_cons, rend_nil])
    rw [rend_cons, toldGo_skip _ _ _ fun i hi he => ?_]
    · rw [rend_append] at ih
      rw [show (rend nm pre ++ rend nm [n + 2]).length = (rend nm pre).length + (rtok nm (n + 2)).length by rw [List.length_append]; simp [rend_cons, rend_nil]] at ih
      rw [ih]
      simp [nmsT, toldT]
    · have hw2 : ws = rend nm pre ++ (rtok nm (n + 2) ++ rend nm r) := by rw [hw, rend_cons]
      refine name_quiet hn (R := rend nm r) hw2 ?_ 40 (by decide) i hi ?_
      · rw [rend_count hn]; omega
      · rw [hw2, getD_mid _ _ _ _ hi, he]
  | 0 :: r, pre, hw => by
    have ih := toldGo_rend (ws := ws) hn r (pre ++ [0]) (by rw [hw, rend_append, rend_cons]; simp [rend_cons, rend_nil])
    rw [rend_append] at ih
    rw [show (rend nm pre ++ rend nm [0]).length = (rend nm pre).length + 1 by rw [List.length_append]; rfl] at ih
    have hk : (ws.take (rend nm pre).length) = rend nm pre := by rw [hw, List.take_left]
    have hev : (rend nm pre).count 34 = 2 * (nmsT pre).length := rend_count hn pre
    rw [rend_cons, show rtok nm 0 ++ rend nm r = 40 :: rend nm r from rfl, toldGo]
    rw [if_pos (by rw [hk, hev]; simp), ih]
    have hl := lendGo_rend hn (ws := ws) (A := rend nm pre) (by rw [hev]; omega) r [] (by rw [hw, rend_cons]; simp [rend_cons, rend_nil])
    have hlen : ws.length - ((rend nm pre).length + 1) = (rend nm r).length := by rw [hw, rend_cons]; simp [rtok]; omega
    have hp : lendP ws (rend nm pre).length = match lendT [] r with | none => (rend nm pre).length | some c' => (rend nm pre).length + 1 + (rend nm c').length := by
      rw [lendP, hlen]; exact hl
    have h1 : toldOne ws (rend nm pre).length = ((nmsT pre).length, (nmsT pre).length + match lendT [] r with | none => 0 | some c' => (nmsT c').length) := by
      unfold toldOne
      rw [hk, hev, hp, Nat.mul_div_cancel_left _ (by decide)]
      cases e : lendT [] r with
      | none => simp only [hk, hev, Nat.mul_div_cancel_left _ (show 0 < 2 by decide), Nat.add_zero]
      | some c' =>
        simp only
        obtain ⟨q, hq⟩ := lendT_pre r [] c' e
        rw [List.nil_append] at hq
        have h2 : ws = (rend nm pre ++ ([40] ++ rend nm c')) ++ rend nm q := by rw [hw, rend_cons, hq, rend_append]; simp [rtok]
        have h3 : ws.take ((rend nm pre).length + 1 + (rend nm c').length) = rend nm pre ++ ([40] ++ rend nm c') := by
          rw [h2, List.take_append_of_le_length (by simp; omega), List.take_of_length_le (by simp; omega)]
        rw [h3, List.count_append, List.count_append, hev, rend_count hn]
        have h4 : List.count 34 [40] = 0 := by decide
        rw [h4]
        congr 1
        omega
    rw [h1]
    simp [nmsT, toldT]
theorem toldList_rend {nm : Nat → List Nat} (hn : ∀ n, 34 ∉ nm n) (ts : List Nat) : toldList (rend nm ts) = toldT 0 ts := by
  have := toldGo_rend hn (ws := rend nm ts) ts [] rfl
  exact this
end WC

set_option maxHeartbeats 4000000
namespace WC
open PySem PySem.W PySem.Calls PyProof.Rows
open PyProof

/-! the drawing, over tokens -/
noncomputable def joinT (r q : Row) : Row := ((([0] ++ r.1) ++ q.1) ++ [1], r.2.1, q.2.2)
noncomputable def stepT (rows : List Row) (k : Nat) : List Row := rows.take k ++ [joinT (rows.getD k row0) (rows.getD (k + 1) row0)] ++ rows.drop (k + 2)
noncomputable def foldT (rows : List Row) (k : Nat) : Nat × Nat := ((rows.getD k row0).2.1, (rows.getD (k + 1) row0).2.2)
noncomputable def goT : List Nat → List Row → List (Nat × Nat) → List Row × List (Nat × Nat)
  | [], rows, fs => (rows, fs)
  | k :: ks, rows, fs => goT ks (stepT rows k) (fs ++ [foldT rows k])
noncomputable def rendR (nm : Nat → List Nat) (r : Row) : Row := (rend nm r.1, r.2)
theorem rendR0 (nm : Nat → List Nat) : rendR nm row0 = row0 := rfl
theorem rendR_at (nm : Nat → List Nat) (rows : List Row) (k : Nat) : (rows.map (rendR nm)).getD k row0 = rendR nm (rows.getD k row0) := by
  rw [List.getD_eq_getElem?_getD, List.getD_eq_getElem?_getD, List.getElem?_map]
  cases rows[k]? <;> rfl
theorem rendR_join (nm : Nat → List Nat) (r q : Row) : joinRow (rendR nm r) (rendR nm q) = rendR nm (joinT r q) := by
  simp [joinRow, joinT, rendR, rend_append, rend_cons, rend_nil, rtok]
theorem draw_stepT (nm : Nat → List Nat) (rows : List Row) (v k : Nat) (h : v / 6 % (rows.length - 1) = k) : drawStep (rows.map (rendR nm)) v = (stepT rows k).map (rendR nm) ∧ drawFold (rows.map (rendR nm)) v = foldT rows k := by
  have hk : drawK (rows.map (rendR nm)) v = k := by rw [drawK, List.length_map, h]
  constructor
  · rw [drawStep, hk, stepT, rendR_at, rendR_at, rendR_join]
    simp [List.map_take, List.map_drop]
  · rw [drawFold, hk, foldT, rendR_at, rendR_at]; rfl
theorem stepT_length {rows : List Row} {n k : Nat} (h : rows.length = n + 2) (hk : k < n + 1) : (stepT rows k).length = n + 1 := by
  simp [stepT, h]; omega
noncomputable def rows5 : List Row := (List.range 5).map fun j => ([j + 2], j, j + 1)
noncomputable def nmW (ns : List Nat) (j : Nat) : List Nat := [signsN.getD (ns.getD j 0 % 6) 0, 173]
noncomputable def nmB (ns : List Nat) (j : Nat) : List Nat := b3map (signsN.getD (ns.getD j 0 % 6) 0)
theorem rows5_at (ns : List Nat) : rowsAt ns 5 = rows5.map (rendR (nmW ns)) := by
  simp [rowsAt, rows5, rendR, rend_cons, rend_nil, rtok, nmW, rowTx, List.range, List.range.loop]
/-- the places of the folders drawn -/
noncomputable def ksOf (ns : List Nat) : List Nat := [ns.getD 1 0 / 6 % 4, ns.getD 2 0 / 6 % 3, ns.getD 3 0 / 6 % 2, ns.getD 4 0 / 6 % 1]
theorem drawn_goT (ns : List Nat) (h5 : ns.length = 5) : drawn ns = ((goT (ksOf ns) rows5 []).1.map (rendR (nmW ns)), (goT (ksOf ns) rows5 []).2) := by
  obtain ⟨n0, n1, n2, n3, n4, rfl⟩ : ∃ n0 n1 n2 n3 n4, ns = [n0, n1, n2, n3, n4] := by
    match ns, h5 with
    | [a, b, c, d, e], _ => exact ⟨a, b, c, d, e, rfl⟩
  rw [drawn, rows5_at]
  show drawGo [n1, n2, n3, n4] _ _ = ((goT [n1 / 6 % 4, n2 / 6 % 3, n3 / 6 % 2, n4 / 6 % 1] rows5 []).1.map _, (goT [n1 / 6 % 4, n2 / 6 % 3, n3 / 6 % 2, n4 / 6 % 1] rows5 []).2)
  generalize nmW [n0, n1, n2, n3, n4] = nm
  have l0 : rows5.length = 5 := rfl
  have l1 := stepT_length (k := n1 / 6 % 4) l0 (Nat.mod_lt _ (by decide))
  have l2 := stepT_length (k := n2 / 6 % 3) l1 (Nat.mod_lt _ (by decide))
  have l3 := stepT_length (k := n3 / 6 % 2) l2 (Nat.mod_lt _ (by decide))
  have s0 := draw_stepT nm rows5 n1 (n1 / 6 % 4) (by rw [l0])
  have s1 := draw_stepT nm (stepT rows5 (n1 / 6 % 4)) n2 (n2 / 6 % 3) (by rw [l1])
  have s2 := draw_stepT nm _ n3 (n3 / 6 % 2) (by rw [l2])
  have s3 := draw_stepT nm _ n4 (n4 / 6 % 1) (by rw [l3])
  simp only [drawGo, goT]
  rw [s0.1, s0.2, s1.1, s1.2, s2.1, s2.2, s3.1, s3.2]

/-! what is written, and its prepared form -/
theorem rend_mem {nm : Nat → List Nat} {S : List Nat} (h40 : 40 ∈ S) (h41 : 41 ∈ S) (h34 : 34 ∈ S) (hn : ∀ n, ∀ c ∈ nm n, c ∈ S) : ∀ (ts : List Nat), ∀ c ∈ rend nm ts, c ∈ S
  | [], c, h => nomatch h
  | t :: r, c, h => by
    rw [rend_cons] at h
    rcases List.mem_append.mp h with h | h
    · match t, h with
      | 0, h => rw [List.mem_singleton.mp h]; exact h40
      | 1, h => rw [List.mem_singleton.mp h]; exact h41
      | n + 2, h =>
        rcases List.mem_cons.mp h with rfl | h
        · exact h34
        · rcases List.mem_append.mp h with h | h
          · exact hn n c h
          · rw [List.mem_singleton.mp h]; exact h34
    · exact rend_mem h40 h41 h34 hn r c h
theorem rend_length {nm : Nat → List Nat} {B : Nat} (hn : ∀ n, (nm n).length ≤ B) : ∀ (ts : List Nat), (rend nm ts).length ≤ ts.length * (B + 2)
  | [] => Nat.zero_le _
  | t :: r => by
    have ih := rend_length hn r
    rw [rend_cons, List.length_append, List.length_cons, Nat.succ_mul]
    have : (rtok nm t).length ≤ B + 2 := by
      match t with
      | 0 => show 1 ≤ _; omega
      | 1 => show 1 ≤ _; omega
      | n + 2 =>
        have := hn n
        simp [rtok]; omega
    omega
theorem bareOf_append (a b : List Nat) : bareOf (a ++ b) = bareOf a ++ bareOf b := by simp [bareOf]
theorem sg_at (i : Nat) (hi : i < 6) : (bareOf [signsN.getD i 0, 173] = b3map (signsN.getD i 0)) ∧ 34 ∉ b3map (signsN.getD i 0) ∧ 92 ∉ b3map (signsN.getD i 0) ∧ (b3map (signsN.getD i 0)).length ≤ 2 ∧ (∀ c ∈ [signsN.getD i 0, 173], c ∈ [34, 40, 41, 119813, 383, 223, 64257, 173]) := by
  have : ∀ i, i < 6 → ((bareOf [signsN.getD i 0, 173] = b3map (signsN.getD i 0)) ∧ 34 ∉ b3map (signsN.getD i 0) ∧ 92 ∉ b3map (signsN.getD i 0) ∧ (b3map (signsN.getD i 0)).length ≤ 2 ∧ (∀ c ∈ [signsN.getD i 0, 173], c ∈ [34, 40, 41, 119813, 383, 223, 64257, 173])) := by decide +kernel
  exact this i hi
theorem bareOf_rend (ns : List Nat) : ∀ (ts : List Nat), bareOf (rend (nmW ns) ts) = rend (nmB ns) ts
  | [] => rfl
  | t :: r => by
    rw [rend_cons, rend_cons, bareOf_append, bareOf_rend ns r]
    congr 1
    match t with
    | 0 => exact (by decide : bareOf [40] = [40])
    | 1 => exact (by decide : bareOf [41] = [41])
    | n + 2 =>
      show bareOf ([34] ++ (nmW ns n ++ [34])) = _
      rw [bareOf_append, bareOf_append]
      have := (sg_at (ns.getD n 0 % 6) (Nat.mod_lt _ (by decide))).1
      rw [show nmW ns n = [signsN.getD (ns.getD n 0 % 6) 0, 173] from rfl, this]
      rfl
theorem nmB_34 (ns : List Nat) (n : Nat) : 34 ∉ nmB ns n := (sg_at (ns.getD n 0 % 6) (Nat.mod_lt _ (by decide))).2.1

/-! the parts between the quotes -/
noncomputable def spl : List Nat → List Nat → List (List Nat)
  | [], acc => [acc]
  | c :: r, acc => if c = 34 then acc :: spl r [] else spl r (acc ++ [c])
noncomputable def oddP {α : Type} : List α → List α
  | _ :: b :: r => b :: oddP r
  | _ => []
theorem spl_name : ∀ (x r acc : List Nat), 34 ∉ x → spl (x ++ 34 :: r) acc = (acc ++ x) :: spl r []
  | [], r, acc, _ => by rw [List.nil_append, List.append_nil, spl, if_pos rfl]
  | c :: x, r, acc, h => by
    have h1 : c ≠ 34 := fun e => h (e ▸ .head _)
    rw [List.cons_append, spl, if_neg h1, spl_name x r _ fun q => h (.tail _ q), List.append_assoc]
    rfl
theorem spl_rend {nm : Nat → List Nat} (hn : ∀ n, 34 ∉ nm n) : ∀ (ts acc : List Nat), oddP (spl (rend nm ts) acc) = (nmsT ts).map nm ∧ (spl (rend nm ts) acc).length = 2 * (nmsT ts).length + 1
  | [], acc => ⟨rfl, rfl⟩
  | 0 :: r, acc => by
    have := spl_rend hn r (acc ++ [40])
    rw [rend_cons, show rtok nm 0 ++ rend nm r = 40 :: rend nm r from rfl, spl, if_neg (by decide)]
    exact this
  | 1 :: r, acc => by
    have := spl_rend hn r (acc ++ [41])
    rw [rend_cons, show rtok nm 1 ++ rend nm r = 41 :: rend nm r from rfl, spl, if_neg (by decide)]
    exact this
  | (n + 2) :: r, acc => by
    have := spl_rend hn r []
    rw [rend_cons, show rtok nm (n + 2) ++ rend nm r = 34 :: (nm n ++ 34 :: rend nm r) by simp [rtok], spl, if_pos rfl, spl_name _ _ _ (hn n), List.nil_append]
    have e : nmsT ((n + 2) :: r) = n :: nmsT r := rfl
    rw [e, oddP, this.1]
    exact ⟨rfl, by simp [this.2]; omega⟩

/-! worth -/
noncomputable def intsOf (due : List (Nat × Nat)) : List (Int × Int) := (due.map fun p => (((p.1 : Nat) : Int), ((p.2 : Nat) : Int))) ++ [((-1 : Int), (6 : Int))]
noncomputable def cands (due : List (Nat × Nat)) (k : Nat) : List (Int × Int × Int) := (intsOf due).filterMap fun (p : Int × Int) => if p.1 < (k : Int) ∧ (k : Int) < p.2 then some (p.2 - p.1, p.1, p.2) else none
noncomputable def tripLt (a b : Int × Int × Int) : Bool := if a.1 = b.1 then (if a.2.1 = b.2.1 then decide (a.2.2 < b.2.2) else decide (a.2.1 < b.2.1)) else decide (a.1 < b.1)
noncomputable def minFrom (c : Int × Int × Int) : List (Int × Int × Int) → Int × Int × Int
  | [] => c
  | x :: r => minFrom (if tripLt x c then x else c) r
noncomputable def worthP (due : List (Nat × Nat)) (k : Nat) : Int := match cands due k with
  | [] => 0
  | c :: r => ((k : Int) - (minFrom c r).2.1) * ((minFrom c r).2.2 - (k : Int))
noncomputable def worths (due : List (Nat × Nat)) : List Int := [worthP due 1, worthP due 2, worthP due 3, worthP due 4]
noncomputable def stretch (due : List (Nat × Nat)) (i j : Nat) : Bool :=
  let sm := (((worths due).drop i).take (j - i)).sum
  let least : Int := (((j - i) * (j - i + 1) / 2 : Nat) : Int)
  !decide (sm < least) && (decide (sm = least) == decide ((i, j + 1) ∈ due))
noncomputable def stretches (due : List (Nat × Nat)) : Bool := (List.range 4).all fun i => ((List.range 5).filter fun j => decide (i < j)).all fun j => stretch due i j

noncomputable def goodT (ks : List Nat) : Bool :=
  let g := goT ks rows5 []
  let ts := (g.1.getD 0 row0).1
  match sortP g.2 with
  | none => false
  | some due => sortP (toldT 0 ts) == some due && (toldT 0 ts).length == 4 && nmsT ts == [0, 1, 2, 3, 4] && ts.length == 13 && due.length == 4 && stretches due && ((List.range 5).all fun k => k == 0 || due.all fun p => decide (p.1 < 6) && decide (p.2 < 7))
theorem good_all : (List.range 4).all (fun a => (List.range 3).all fun b => (List.range 2).all fun c => goodT [a, b, c, 0]) = true := by decide +kernel

structure Plain (ns : List Nat) (due : List (Nat × Nat)) : Prop where
  hdue : sortP (drawn ns).2 = some due
  len : due.length = 4
  small : ∀ p ∈ due, p.1 < 6 ∧ p.2 < 7
  writ_ok : ∀ c ∈ ((drawn ns).1.getD 0 row0).1, c ∈ [34, 40, 41, 119813, 383, 223, 64257, 173]
  writ_len : ((drawn ns).1.getD 0 row0).1.length ≤ 200
  bare_92 : 92 ∉ bareOf ((drawn ns).1.getD 0 row0).1
  bare_len : (bareOf ((drawn ns).1.getD 0 row0).1).length ≤ 500
  told : sortP (toldList (bareOf ((drawn ns).1.getD 0 row0).1)) = some due
  told_len : (toldList (bareOf ((drawn ns).1.getD 0 row0).1)).length = 4
  names : oddP (spl (bareOf ((drawn ns).1.getD 0 row0).1) []) = ns.map fun v => b3map (signsN.getD (v % 6) 0)
  parts : (spl (bareOf ((drawn ns).1.getD 0 row0).1) []).length = 11
  worth : ∀ i j, i < 4 → i < j → j < 5 → stretch due i j = true
theorem plain (ns : List Nat) (h5 : ns.length = 5) : ∃ due, Plain ns due := by
  have hg : goodT (ksOf ns) = true := by
    have := good_all
    simp only [List.all_eq_true, List.mem_range] at this
    have := this (ns.getD 1 0 / 6 % 4) (Nat.mod_lt _ (by decide)) (ns.getD 2 0 / 6 % 3) (Nat.mod_lt _ (by decide)) (ns.getD 3 0 / 6 % 2) (Nat.mod_lt _ (by decide))
    rw [ksOf, Nat.mod_one]
    exact this
  have hd := drawn_goT ns h5
  unfold goodT at hg
  generalize hG : goT (ksOf ns) rows5 [] = G at hg hd
  obtain ⟨rows, fs⟩ := G
  simp only at hg hd
  have hw : ((drawn ns).1.getD 0 row0).1 = rend (nmW ns) (rows.getD 0 row0).1 := by rw [hd, rendR_at]; rfl
  generalize (rows.getD 0 row0).1 = ts at hg hw
  cases hs : sortP fs with
  | none => rw [hs] at hg; cases hg
  | some due =>
    rw [hs] at hg
    simp only [Bool.and_eq_true, beq_iff_eq, List.all_eq_true, List.mem_range, Bool.or_eq_true, decide_eq_true_eq] at hg
    obtain ⟨⟨⟨⟨⟨⟨g1, g2⟩, g3⟩, g4⟩, g5⟩, g6⟩, g7⟩ := hg
    have hb : bareOf ((drawn ns).1.getD 0 row0).1 = rend (nmB ns) ts := by rw [hw, bareOf_rend]
    have h34 := nmB_34 ns
    refine ⟨due, ?_, g5, fun p hp => ?_, ?_, ?_, ?_, ?_, ?_, ?_, ?_, ?_, ?_⟩
    · rw [hd]; exact hs
    · rcases g7 1 (by decide) with h | h
      · cases h
      · exact h p hp
    · rw [hw]
      exact rend_mem (by decide) (by decide) (by decide) (fun n c hc => (sg_at (ns.getD n 0 % 6) (Nat.mod_lt _ (by decide))).2.2.2.2 c hc) ts
    · rw [hw]
      have := rend_length (nm := nmW ns) (B := 2) (fun n => Nat.le_refl _) ts
      omega
    · rw [hb]
      intro h
      have : ∀ c ∈ rend (nmB ns) ts, c ∈ [40, 41, 34, 102, 115, 105] := rend_mem (by decide) (by decide) (by decide) (fun n => by
        have : ∀ i, i < 6 → ∀ c ∈ b3map (signsN.getD i 0), c ∈ [40, 41, 34, 102, 115, 105] := by decide +kernel
        exact this (ns.getD n 0 % 6) (Nat.mod_lt _ (by decide))) ts
      exact absurd (this 92 h) (by decide)
    · rw [hb]
      have := rend_length (nm := nmB ns) (B := 2) (fun n => (sg_at (ns.getD n 0 % 6) (Nat.mod_lt _ (by decide))).2.2.2.1) ts
      omega
    · rw [hb, toldList_rend h34]; exact g1
    · rw [hb, toldList_rend h34]; exact g2
    · rw [hb, (spl_rend h34 ts []).1, g3]
      obtain ⟨n0, n1, n2, n3, n4, rfl⟩ : ∃ n0 n1 n2 n3 n4, ns = [n0, n1, n2, n3, n4] := by
        match ns, h5 with
        | [a, b, c, d, e], _ => exact ⟨a, b, c, d, e, rfl⟩
      rfl
    · rw [hb, (spl_rend h34 ts []).2, g3]; rfl
    · intro i j hi hij hj
      have := g6
      unfold stretches at this
      simp only [List.all_eq_true, List.mem_range, List.mem_filter, decide_eq_true_eq] at this
      exact this i hi j ⟨hj, hij⟩
end WC

set_option maxHeartbeats 4000000
namespace WC
open PySem PySem.W PySem.Calls PyProof.Rows
open PyProof

/-! str.split -/
theorem spl_last : ∀ (x acc : List Nat), 34 ∉ x → spl x acc = [acc ++ x]
  | [], acc, _ => by rw [List.append_nil, spl]
  | c :: x, acc, h => by
    have h1 : c ≠ 34 := fun e => h (e ▸ .head _)
    rw [spl, if_neg h1, spl_last x _ fun q => h (.tail _ q), List.append_assoc]
    rfl
theorem spl_join : ∀ (ps : List Str), ps ≠ [] → (∀ p ∈ ps, 34 ∉ p.cps.toList) → spl (Str.join ⟨#[34]⟩ ps).cps.toList [] = ps.map fun p => p.cps.toList
  | [], h, _ => absurd rfl h
  | [x], _, h => by
    show spl x.cps.toList [] = _
    rw [spl_last _ _ (h x (.head _))]; rfl
  | x :: y :: r, _, h => by
    have ih := spl_join (y :: r) (by simp) fun p hp => h p (.tail _ hp)
    have e : (Str.join ⟨#[34]⟩ (x :: y :: r)).cps.toList = x.cps.toList ++ 34 :: (Str.join ⟨#[34]⟩ (y :: r)).cps.toList := by
      show ((x.cps ++ (#[34] : Array Nat)) ++ (Str.join ⟨#[34]⟩ (y :: r)).cps).toList = _
      simp
    rw [e, spl_name _ _ _ (h x (.head _)), ih]; rfl
theorem split_ne (x y : Str) : Txt.split x y ≠ [] := by
  unfold Txt.split
  split
  · simp
  · split
    · simp
    · rw [StrLaws.partsBetween_eq]
      obtain ⟨p, r, e⟩ := StrLaws.partsFrom_ne x y.length 0 (PySem.Builtin.Str.occurrences x y 0 x.length (x.length + 1))
      rw [e]; simp
theorem split_spl (cs : List Nat) : Txt.split (tx cs) ⟨#[34]⟩ = (spl cs []).map tx := by
  have h1 := StrLaws.join_split (tx cs) ⟨#[34]⟩
  have h2 := spl_join (Txt.split (tx cs) ⟨#[34]⟩) (split_ne _ _) (StrLaws.split_free (tx cs) 34)
  rw [h1] at h2
  rw [show (tx cs).cps.toList = cs by simp] at h2
  rw [h2, List.map_map]
  symm
  conv => rhs; rw [← List.map_id (Txt.split (tx cs) ⟨#[34]⟩)]
  exact List.map_congr_left fun p _ => by simp
theorem oddP_get {α : Type} : ∀ (n : Nat) (l : List α), l.length ≤ n → oddP l = (List.range (l.length / 2)).filterMap fun i => l[2 * i + 1]?
  | _, [], _ => by simp [oddP]
  | _, [_], _ => by simp [oddP]
  | 0, _ :: _ :: _, h => absurd h (by simp)
  | n + 1, a :: b :: r, h => by
    have ih := oddP_get n r (by simp only [List.length_cons] at h; omega)
    rw [oddP, ih, show (a :: b :: r).length / 2 = r.length / 2 + 1 by simp only [List.length_cons]; omega, List.range_succ_eq_map, List.filterMap_cons]
    simp only [List.filterMap_map]
    rfl
theorem odd11 {vs : List Value} (h : vs.length = 11) : (slicePick vs.toArray (some 1) none (some 2)).toList = oddP vs := by
  have e : (sliceRange (sliceBounds (some 1) none (some 2) 11).1 (sliceBounds (some 1) none (some 2) 11).2.1 (sliceBounds (some 1) none (some 2) 11).2.2) = [1, 3, 5, 7, 9] := by decide +kernel
  rw [oddP_get _ vs (Nat.le_refl _), slicePick, List.size_toArray, h, e]
  simp only [List.getElem?_toArray, List.toList_toArray]
  rw [show ([1, 3, 5, 7, 9] : List Nat) = (List.range (11 / 2)).map (fun i => 2 * i + 1) by decide, List.filterMap_map]
  rfl
theorem oddP_strs {vs : List Value} {ys : List Str} (h : StrsAre vs ys) : StrsAre (oddP vs) (oddP ys) := by
  have : ∀ (n : Nat) (vs : List Value) (ys : List Str), vs.length ≤ n → StrsAre vs ys → StrsAre (oddP vs) (oddP ys) := by
    intro n
    induction n with
    | zero =>
      intro vs ys hn h
      cases h with
      | nil => exact .nil
      | cons y t r => exact absurd hn (by simp)
    | succ n ih =>
      intro vs ys hn h
      cases h with
      | nil => exact .nil
      | cons y t r =>
        cases r with
        | nil => exact .nil
        | cons y2 t2 r => exact .cons y2 t2 (ih _ _ (by simp only [List.length_cons] at hn; omega) r)
  exact this _ _ _ (Nat.le_refl _) h
theorem oddP_map {α β : Type} (f : α → β) : ∀ (l : List α), oddP (l.map f) = (oddP l).map f
  | [] => rfl
  | [_] => rfl
  | _ :: b :: r => by simp [oddP, oddP_map f r]

noncomputable def nmV (n : Nat) : List Nat := b3map (signsN.getD (n % 6) 0)
section
variable {b : Bool} {w : World} {A : Around} {E : Value → Shared → Prop} {s s₀ : Shared} {L D : Addr} {l : List (Str × Value)} {N : List (Addr × Obj)} {value slice : Expr} {Q : Value → Shared → Prop}
theorem split_tx {cs : List Nat} {t u : Tok} {y : Str} (X : In b s₀ L l N s) (hy : y = ⟨#[34]⟩) (hz : cs.length ≤ 100000)
    (h : ∀ D vs s', StrsAre vs ((spl cs []).map tx) → In b s₀ L l ((D, listOf (List.toArray vs) 0) :: N) s' → Q (.ref D) s') : wpAny (model pw w) A (call (.builtin "str.split") [.str (tx cs) t, .str y u]) Q E s := by
  subst hy
  obtain ⟨m, F, H⟩ := X.fr
  refine splitN1 F X.nw rfl (fun l' h' k e F' N' => ?_) (by rw [tx_length]; exact Nat.le_trans (show cs.length + 2 ≤ 100002 by omega) (by decide))
  have := strsAre_of_values l'
  rw [e, split_spl] at this
  exact h _ _ _ this ⟨⟨m, F', H⟩, X.nd, N', X.os, X.drawn, X.gens⟩
theorem odd_In {vs ops : List Value} {u1 u2 : Tok} (X : In b s₀ L l N s) (hl : s.heap.IsList D vs.toArray) (h11 : vs.length = 11)
    (h : ∀ B s', In b s₀ L l ((B, listOf (List.toArray (oddP vs)) 0) :: N) s' → Q (.ref B) s')
    (hs : subscripted slice false (.ref D) (.ref s.heap.objs.size) = operate ops (getItem (.ref D) (.ref s.heap.objs.size)) := by with_unfolding_all rfl) (ht : ∀ r, letTemporaryGo value (.ref D) r = pure () := by intro _; with_unfolding_all rfl) :
    wpAny (model pw w) A (subscriptTail value slice (.ref D) (.ref s.heap.objs.size)) Q E { s with heap := s.heap.push { cls := .type "slice", data := .fields #[.int 1 u1, .none, .int 2 u2] } } := by
  obtain ⟨m, F, H⟩ := X.fr
  refine slice_list3 F X.nw hl (IsPart.int _ _) IsPart.none (IsPart.int _ _) (by decide) (fun h' F' N' => ?_) hs ht (by simp [h11]; decide)
  have e : slicePick vs.toArray (some 1) none (some 2) = (oddP vs).toArray := by rw [← odd11 h11]
  rw [e] at N'
  exact h _ _ ⟨⟨m, F', H⟩, X.nd, N', X.os, X.drawn, X.gens⟩
end
end WC

set_option maxHeartbeats 4000000
namespace WC
open PySem PySem.W PySem.Calls PyProof.Rows
open PyProof

noncomputable def nameC : List Str := [Str.ofString "f", Str.ofString "(", Str.ofString ")", Str.ofString "s", Str.ofString "ss", Str.ofString "fi"]
theorem nameC_at (n : Nat) : nameC[n % 6]? = some (tx (nmV n)) := by
  have : ∀ i, i < 6 → nameC[i]? = some (tx (b3map (signsN.getD i 0))) := by decide +kernel
  exact this (n % 6) (Nat.mod_lt _ (by decide))
theorem nmV_ok (n : Nat) : PyData.strOk (tx (nmV n)) = true := by
  have : ∀ i, i < 6 → PyData.strOk (tx (b3map (signsN.getD i 0))) = true := by decide +kernel
  exact this (n % 6) (Nat.mod_lt _ (by decide))
theorem names_go : ∀ {vs : List Value} {nums : List Nat} {ys : List Value}, AllV NatV vs nums → Paired (fun v y => ∃ n t u, v = Value.int ((n : Nat) : Int) t ∧ y = .str (tx (nmV n)) u) vs ys → StrsAre ys (nums.map fun n => tx (nmV n))
  | [], [], _, _, .nil => .nil
  | [], _ :: _, _, h, _ => h.elim
  | _ :: _, [], _, h, _ => h.elim
  | v :: vs, n :: nums, _, ⟨⟨t, e⟩, h⟩, .cons ⟨k, t', u, e1, e2⟩ r => by
    subst e
    have : n = k := by
      injection e1 with e1 _
      omega
    subst this
    subst e2
    exact .cons _ u (names_go h r)

theorem law_5 {w : World} {os : OsState} {A : Around} {s s₀ : Shared} {a D Dd Df : Addr} {tw tb : Tok} {W B : List Nat} {N : List (Addr × Obj)} {L : Addr} {Q : Flow → Shared → Prop} {n : Nat} {vs : List Value} {e : Nat} {nums : List Nat}
    (C : Cx w os s₀.heap) (R : Room A n) (X : In false s₀ L (lawN a D W tw Dd B tb ++ [(Str.ofString "folders", .ref Df)]) N s) (hD : (D, listOf (List.toArray vs) e) ∈ N) (hns : AllV NatV vs nums) (h5 : nums.length = 5)
    (hz : B.length ≤ 500) (h11 : (spl B []).length = 11) (ho : oddP (spl B []) = nums.map nmV)
    (h : ∀ s', In false s₀ L (lawN a D W tw Dd B tb ++ [(Str.ofString "folders", .ref Df)]) N s' → wpAny (model pw w) A (execs ((fbody (stI 18)).drop 5) (lenv L)) Q (fun _ _ => False) s') :
    wpAny (model pw w) A (execs ((fbody (stI 18)).drop 4) (lenv L)) Q (fun _ _ => False) s := by
  have hlen := hns.length
  refine wpAny_execs_cons (wpAny_If (wpAny_isTrue_Compare1 (Subscript_ (MethodCall_ (evc_local X (.tail _ (.tail _ (.tail _ (.tail _ (.head _))))) (GM.split (callWith_method1 (spliced_more (ev_str X fun t1 s1 X1 => spliced_none (split_tx X1 str34 (by omega) fun D1 ws s2 hw X2 => ?_))))))))))
  have h11' : ws.length = 11 := by
    have := hw.length
    simpa [h11] using this
  refine wpAny_Slice (evalPart_some_step (ev_int X2 fun t3 s3 X3 => evalPart_none_step (evalPart_some_step (ev_int X3 fun t4 s4 X4 => ?_))))
  refine kba_turn (value' := .Name (Str.ofString "_") ⟨0, 0, 0, 0⟩) (fun _ => rfl) ?_
  refine odd_In X4 ⟨_, (X4.nw _ (.head _)).1, rfl, _, rfl⟩ h11' fun D2 s5 X5 => ?_
  have hD5 := (X5.nw _ (.tail _ (.tail _ hD))).1
  have hDl : s5.heap.IsList D vs.toArray := ⟨_, hD5, rfl, _, rfl⟩
  have hDs : D < s5.heap.objs.size := Heap.lt_size hD5
  refine wpAny_ListComp_walk (fun _ => true) (fun v y => ∃ n t u, v = Value.int ((n : Nat) : Int) t ∧ y = .str (tx (nmV n)) u) (by decide +kernel) (by decide +kernel) rfl (by decide +kernel) (by decide +kernel) ?_
  refine evc_local X5 (.tail _ (.head _)) (wpAny_pyIter_list hDl ?_)
  refine ⟨_, _, _, _, _, _, rfl, Walks.list R.handled s5.heap.objs.size D (Nat.ne_of_lt hDs) vs.toArray, by rw [sizeLine_eq]; simp; omega, ⟨⟨_, Heap.get?_push_size _ rfl, rfl, rfl⟩, hDl.push _⟩, fun q hq => ?_, ⟨?_, ?_⟩, ?_⟩
  · show q < (s5.heap.push _).objs.size
    rw [Heap.size_push]
    rcases List.mem_cons.mp hq with rfl | hq
    · exact Nat.lt_succ_self _
    · rw [List.mem_singleton.mp hq]; exact Nat.lt_succ_of_lt hDs
  · intro Cc i v s₃ m₃ E' hP hn hm hk htk
    exact wpAny_tests_nil ⟨rfl, s₃.heap, s₃.toks, rfl, fun _ _ e => e⟩
  · intro Cc i v s₃ m₃ E' hP _ hn hm hk htk
    have hP' : vs[i]? = some v := by simpa using hP
    have hi : i < nums.length := by
      have := List.getElem?_eq_some_iff.mp hP'
      obtain ⟨q, _⟩ := this
      omega
    obtain ⟨v', hv', t, e⟩ := hns.get i 0 hi
    rw [hP'] at hv'
    cases hv'
    subst e
    generalize nums.getD i 0 = nn at hP hm hP'
    refine Subscript_ (List_ (spliced_more (Calls.Constant_str (spliced_more (Calls.Constant_str (spliced_more (Calls.Constant_str (spliced_more (Calls.Constant_str (spliced_more (Calls.Constant_str (spliced_more (Calls.Constant_str (spliced_none (wpAny_newList ?_ (by show 6 ≤ sizeLine; decide))))))))))))))))
    refine wpAny_BinOp (wpAny_Name (wpAny_loadName_local (by kernel_rfl!) (by kernel_rfl!) (hn.keeps fun b o q => Heap.get?_push_of_some _ q) hm (wpAny_Constant_int (mod_int' (by decide) ?_))) (by decide +kernel))
    refine kba_turn (value' := .Name (Str.ofString "_") ⟨0, 0, 0, 0⟩) (fun _ => rfl) ?_
    rw [show ((nn : Nat) : Int).fmod 6 = ((nn % 6 : Nat) : Int) by rw [Int.fmod_eq_emod_of_nonneg _ (by omega)]; omega]
    have hat := nameC_at nn
    have hsix : nn % 6 < 6 := Nat.mod_lt _ (by decide)
    refine item_list (x := .str (tx (nmV nn)) (s₃.toks + nn % 6)) (Q := fun y s₄ => _) ⟨_, Heap.get?_push_size _ rfl, rfl, _, rfl⟩ (by omega) (by omega) ?_ ⟨⟨nn, t, _, rfl, rfl⟩, _, _, rfl, fun _ _ q => Heap.get?_push_of_some _ q⟩
    rw [show ((nn % 6 : Nat) : Int).toNat = nn % 6 by omega]
    generalize nn % 6 = r at hat hsix
    match r, hsix with
    | 0, _ => exact congrArg (fun z => some (Value.str z (s₃.toks + 0))) (Option.some.inj hat)
    | 1, _ => exact congrArg (fun z => some (Value.str z (s₃.toks + 1))) (Option.some.inj hat)
    | 2, _ => exact congrArg (fun z => some (Value.str z (s₃.toks + 2))) (Option.some.inj hat)
    | 3, _ => exact congrArg (fun z => some (Value.str z (s₃.toks + 3))) (Option.some.inj hat)
    | 4, _ => exact congrArg (fun z => some (Value.str z (s₃.toks + 4))) (Option.some.inj hat)
    | 5, _ => exact congrArg (fun z => some (Value.str z (s₃.toks + 5))) (Option.some.inj hat)
  · intro D3 h' tk ys us hD3 hlD hpl hul hP hF hk
    rw [List.filter_eq_self.mpr fun _ _ => rfl] at hF
    have eq : us = vs := by
      apply List.ext_getElem? ; intro j
      cases q : us[j]? with
      | some v => exact (by simpa using hP j v q : vs[j]? = some v).symm
      | none =>
        have := List.getElem?_eq_none_iff.mp q
        rw [List.getElem?_eq_none (by simp at hul; omega)]
    subst eq
    have keep : ∀ q o, s5.heap.get? q = some o → h'.get? q = some o := fun q o e => hk q o (fun hm => Nat.ne_of_lt (Heap.lt_size e) (List.mem_singleton.mp hm)) (Heap.get?_push_of_some _ e)
    have X6 := X5.keeps (s' := { s5 with heap := h', toks := tk }) keep rfl rfl (.refl _ _)
    have hys := names_go hns hF
    have hzs := oddP_strs hw
    rw [oddP_map, ho, List.map_map] at hzs
    refine ne_strs (fun y hy => ?_) (fun y hy => ?_) (by have := R.units; have : cLine = 9900 := rfl; omega) ⟨_, (X6.nw _ (.head _)).1, rfl, _, rfl⟩ hzs (us := ys.toList) (by simpa using hlD) hys ?_
    · obtain ⟨n, _, rfl⟩ := List.mem_map.mp hy
      exact nmV_ok n
    · obtain ⟨n, _, rfl⟩ := List.mem_map.mp hy
      exact nmV_ok n
    · rw [show (!decide (List.map (tx ∘ nmV) nums = List.map (fun n => tx (nmV n)) nums)) = false by simp]
      refine wpAny_truthy_bool ?_
      simp only [Bool.false_eq_true, if_false]
      exact wpAny_execs_nil (h _ (X6.news fun q hq => .tail _ (.tail _ hq)))
end WC

set_option maxHeartbeats 4000000
namespace WC
open PySem PySem.W PySem.Calls PyProof.Rows
open PyProof

/-! tuples of ints by their order -/
noncomputable def lexLt : List (Int × Int) → Bool
  | [] => false
  | p :: r => if p.1 = p.2 then lexLt r else decide (p.1 < p.2)
noncomputable def intPair (v : Value × Value) (p : Int × Int) : Prop := (∃ t, v.1 = .int p.1 t) ∧ ∃ u, v.2 = .int p.2 u
noncomputable def intPairs : List (Value × Value) → List (Int × Int) → Prop
  | [], [] => True
  | v :: vs, p :: ps => intPair v p ∧ intPairs vs ps
  | _, _ => False
theorem lt_tree {w : World} {A : Around} {E : Value → Shared → Prop} {s : Shared} {a b : Addr} {oa ob : Obj} {xs ys : Array Value} {na nb : Nat} {ps : List (Int × Int)} {P : Fin → Shared → Prop} (hoa : s.heap.get? a = some oa) (hda : oa.data = .seq xs na) (hob : s.heap.get? b = some ob) (hdb : ob.data = .seq ys nb) (hcb : ob.cls = .type "tuple")
    (hs : xs.size = ys.size) (hp : intPairs (xs.toList.zip ys.toList) ps) (h : P (.done (.ret (.bool (lexLt ps)))) s) : wpAny (model pw w) A (Builtin.«tuple.__lt__» ⟨[.ref a, .ref b], []⟩) P E s := by
  have hTb : s.TypeIs (.ref b) "tuple" := (show IsTup s.heap b ys from ⟨_, hob, hcb, _, hdb⟩).typeIs
  show wpAny _ _ (isInstance (.ref b) (.type "tuple") >>= _) _ _ s
  refine wpAny_bind (wpAny_isInstance hTb isSubtype_tuple_tuple ?_)
  simp only [Bool.not_true, Bool.false_eq_true, if_false]
  refine wpAny_bind (wpAny_tupleItemsOf hoa hda ?_)
  refine wpAny_bind (wpAny_tupleItemsOf hob hdb ?_)
  refine wpAny_bind ?_
  refine wpAny_forIn_list _ (fun rest r s' => r.1 = none ∧ s' = s ∧ ∃ ps', intPairs rest ps' ∧ lexLt ps' = lexLt ps) _ ?_ ?_ _ _ ⟨rfl, rfl, ps, hp, rfl⟩
  · rintro ⟨u, v⟩ rest r s' ⟨hr, rfl, ps', hps, hl⟩
    match ps', hps with
    | p :: ps2, ⟨⟨⟨t, e1⟩, t', e2⟩, hps2⟩ =>
      simp only at e1 e2
      subst e1 e2
      refine wpAny_bind (wpAny_eqBool_int ?_)
      by_cases hk : p.1 = p.2
      · rw [show (p.1 == p.2) = true by simpa using hk]
        simp only [Bool.not_true, Bool.false_eq_true, if_false]
        refine wpAny_pure ⟨rfl, rfl, ps2, hps2, ?_⟩
        rw [← hl, lexLt, if_pos hk]
      · rw [show (p.1 == p.2) = false by simpa using hk]
        simp only [Bool.not_false, if_true]
        rw [← hl, lexLt, if_neg hk] at h
        refine wpAny_bind (wpAny_rule (wpAny_bind ?_))
        refine lt_int ?_
        exact wpAny_bind (wpAny_pure (wpAny_pure (wpAny_pure h)))
  · rintro ⟨r1, r2⟩ s' ⟨hr, rfl, ps', hps, hl⟩
    simp only at hr
    subst hr
    match ps', hps with
    | [], _ =>
      refine wpAny_pure ?_
      rw [← hl] at h
      show P (.done (.ret (.bool (decide (xs.size < ys.size))))) s'
      rw [show decide (xs.size < ys.size) = false by simp [hs]]
      exact h

noncomputable abbrev tripO (p : Int × Int × Int) (t u v : Tok) (n : Nat) : Obj := { cls := .type "tuple", data := .seq #[.int p.1 t, .int p.2.1 u, .int p.2.2 v] n }
noncomputable def TripN (N : List (Addr × Obj)) (v : Value) (p : Int × Int × Int) : Prop := ∃ T t u x n, v = .ref T ∧ (T, tripO p t u x n) ∈ N
theorem TripN.mono {N N' : List (Addr × Obj)} (k : ∀ q ∈ N, q ∈ N') (v : Value) (p : Int × Int × Int) (h : TripN N v p) : TripN N' v p := let ⟨T, t, u, x, n, e, m⟩ := h; ⟨T, t, u, x, n, e, k _ m⟩
theorem trip_lt {w : World} {A : Around} {E : Value → Shared → Prop} {s : Shared} {h₀ : Heap} {L : Addr} {N : List (Addr × Obj)} {v1 v2 : Value} {p q : Int × Int × Int} {Q : Value → Shared → Prop} (nw : News h₀ L s.heap N) (hu : A.units < cLine) (h1 : TripN N v1 p) (h2 : TripN N v2 q) (h : Q (.bool (tripLt p q)) s) :
    wpAny (model pw w) A (richCompare .Lt v1 v2) Q E s := by
  obtain ⟨T1, t1, u1, x1, n1, rfl, m1⟩ := h1
  obtain ⟨T2, t2, u2, x2, n2, rfl, m2⟩ := h2
  have T1t : s.TypeIs (.ref T1) "tuple" := (show IsTup s.heap T1 #[.int p.1 t1, .int p.2.1 u1, .int p.2.2 x1] from ⟨_, (nw _ m1).1, rfl, _, rfl⟩).typeIs
  have T2t : s.TypeIs (.ref T2) "tuple" := (show IsTup s.heap T2 #[.int q.1 t2, .int q.2.1 u2, .int q.2.2 x2] from ⟨_, (nw _ m2).1, rfl, _, rfl⟩).typeIs
  refine wpAny_richCompare_same_room (op := .Lt) T1t T2t F.slot_tuple_lt (wpAny_call_entry F.slot_tuple_lt T1t F.entry_tuple_lt (lt_tree (ps := [(p.1, q.1), (p.2.1, q.2.1), (p.2.2, q.2.2)]) (nw _ m1).1 rfl (nw _ m2).1 rfl rfl rfl ⟨⟨⟨_, rfl⟩, _, rfl⟩, ⟨⟨_, rfl⟩, _, rfl⟩, ⟨⟨_, rfl⟩, _, rfl⟩, trivial⟩ ⟨_, rfl, (fun e => nomatch e), ?_⟩) (F.args_tuple_lt_2 _ _)) hu
  have e : lexLt [(p.1, q.1), (p.2.1, q.2.1), (p.2.2, q.2.2)] = tripLt p q := by
    simp only [lexLt, tripLt]
    by_cases h1 : p.1 = q.1
    · rw [if_pos h1, if_pos h1]
      by_cases h2 : p.2.1 = q.2.1
      · rw [if_pos h2, if_pos h2]
        by_cases h3 : p.2.2 = q.2.2
        · rw [if_pos h3]; simp [h3]
        · rw [if_neg h3]
      · rw [if_neg h2, if_neg h2]
    · rw [if_neg h1, if_neg h1]
  rw [e]; exact h
end WC

set_option maxHeartbeats 4000000
namespace WC
open PySem PySem.W PySem.Calls PyProof.Rows
open PyProof

/-! min of a list of tuples -/
theorem In.updS {b : Bool} {s₀ s : Shared} {L S : Addr} {l : List (Str × Value)} {N : List (Addr × Obj)} {o o' : Obj} {h' : Heap} {tk : Nat} (X : In b s₀ L l ((S, o) :: N) s) (hs : Heap.SameBut S s.heap h') (ho : h'.get? S = some o') (hn : ∀ p ∈ N, p.1 ≠ S) : In b s₀ L l ((S, o') :: N) { s with heap := h', toks := tk } := by
  obtain ⟨m, F, H⟩ := X.fr
  obtain ⟨_, h2, h3⟩ := X.nw _ (.head _)
  refine ⟨⟨m, ksk_fr F hs h2 h3, H⟩, X.nd, fun p hp => ?_, X.os, X.drawn, X.gens⟩
  rcases List.mem_cons.mp hp with rfl | hp
  · exact ⟨ho, h2, h3⟩
  · exact ksk_news (fun q hq => X.nw q (.tail _ hq)) hs hn p hp

noncomputable abbrev Trip := Int × Int × Int
noncomputable def curL : Option (Value × Trip) → List Value
  | none => []
  | some c => [c.1, c.1]
noncomputable def curOk (N : List (Addr × Obj)) : Option (Value × Trip) → Prop
  | none => True
  | some c => TripN N c.1 c.2
noncomputable def minO : Option (Value × Trip) → List Trip → Trip
  | some c, r => minFrom c.2 r
  | none, c :: r => minFrom c r
  | none, [] => (0, 0, 0)

theorem min_loop {b : Bool} {w : World} {A : Around} {s₀ : Shared} {L I S D : Addr} {l : List (Str × Value)} {N : List (Addr × Obj)} {vs : List Value} {ts : List Trip} {R : Result → Shared → Prop}
    (hh : A.handled = none) (hu : A.in1.units < cLine) (hv : AllV (TripN N) vs ts) (hDI : D ≠ I) (hSI : S ≠ I) (hDS : D ≠ S) (hNS : ∀ p ∈ N, p.1 ≠ S) (hNI : ∀ p ∈ N, p.1 ≠ I) (hIL : I ≠ L) (hI0 : s₀.heap.get? I = none) (hDL : D ≠ L)
    (hR : ∀ v s', TripN N v (minO none ts) → In b s₀ L l N s' → R (.ok (.ret v)) s') :
    ∀ (r i : Nat) (cur : Option (Value × Trip)) (s : Shared) (c : Nat), ts.length - i = r → i ≤ ts.length → (cur = none → i < ts.length) → curOk N cur → minO cur (ts.drop i) = minO none ts →
      In b s₀ L l ((S, listOf (List.toArray (curL cur)) c) :: N) s → s.heap.IsListIter I D i → s.heap.IsList D vs.toArray →
      codeAny (model pw w) A (.builtin "min.loop" ⟨[.ref I, .none, .ref S], []⟩) R s := by
  have hname : (toString "min" ++ toString ".loop" : String) = "min.loop" := by decide
  have hlen := hv.length
  have W := Src1.of (w := w) (Walks.list (prog := pw) (w := w) (A := A.in1) hh I D hDI vs.toArray)
  have hsz : vs.toArray.size = vs.length := List.size_toArray ..
  intro r
  induction r with
  | zero =>
    intro i cur s c hr hi hne hc hm X hI hD
    have hin : i = vs.toArray.size := by omega
    subst hin
    obtain ⟨cv, ct⟩ : Value × Trip := by
      cases cur with
      | none => exact absurd (hne rfl) (by omega)
      | some c => exact c
    match cur, hne, hc, hm, X with
    | none, hne, _, _, _ => exact absurd (hne rfl) (by omega)
    | some (vb, tb), _, hc, hm, X =>
      have ap : Apart b s₀ L (((S, listOf (List.toArray [vb, vb]) c) :: N).map (·.1)) (fun _ => [I, D]) (· ∈ [I]) none := by
        refine Apart.list (fun h => ?_) (fun a h => by rw [List.mem_singleton.mp h]; exact .head _) (fun a h => by rw [List.mem_singleton.mp h]; exact hI0) fun a h q => ?_
        · rcases List.mem_cons.mp h with h | h
          · exact hIL h.symm
          · exact hDL (List.mem_singleton.mp h).symm
        · rw [List.mem_singleton.mp h] at q
          obtain ⟨p, hp, e⟩ := List.mem_map.mp q
          rcases List.mem_cons.mp hp with rfl | hp
          · exact hSI e
          · exact hNI p hp e
      have nS := X.nw _ (.head _)
      refine codeAny_builtin F.entry_min_loop ?_
      rw [Around.under_plainId F.plain_min_loop _]
      show wpAny _ A.in1 (seqItems? (.ref S) >>= _) _ _ s
      refine wpAny_bind (wpAny_seqItems nS.1 rfl ?_)
      show wpAny _ A.in1 (tryCatch (pyNext (.ref I)) _ >>= _) _ _ s
      refine wpAny_bind (wpAny_tryCatch (W.done s _ _ ⟨hI, hD⟩ fun s' m => ?_))
      have X' := X.mv ap m
      have nS' := X'.nw _ (.head _)
      show wpAny _ A.in1 (updateSeq S (fun _ => #[]) >>= _) _ _ _
      refine wpAny_bind (wpAny_updateSeq nS'.1 rfl (wpAny_bind (wpAny_letGo (wpAny_pure ?_))) (by show 2 ≤ sizeLine; decide))
      have X2 := X'.updS (tk := s'.toks) (Heap.SameBut.update _ S (Obj.mapSeq fun _ => #[])) (get?_update_seq nS'.1 fun _ => #[]) hNS
      rw [List.drop_eq_nil_of_le (by omega)] at hm
      refine hR vb _ ?_ (X2.news fun q hq => .tail _ hq)
      rw [← hm]
      exact hc
  | succ r ih =>
    intro i cur s c hr hi hne hc hm X hI hD
    have hlt : i < vs.toArray.size := by omega
    have ap : Apart b s₀ L (((S, listOf (List.toArray (curL cur)) c) :: N).map (·.1)) (fun _ => [I, D]) (· ∈ [I]) none := by
      refine Apart.list (fun h => ?_) (fun a h => by rw [List.mem_singleton.mp h]; exact .head _) (fun a h => by rw [List.mem_singleton.mp h]; exact hI0) fun a h q => ?_
      · rcases List.mem_cons.mp h with h | h
        · exact hIL h.symm
        · exact hDL (List.mem_singleton.mp h).symm
      · rw [List.mem_singleton.mp h] at q
        obtain ⟨p, hp, e⟩ := List.mem_map.mp q
        rcases List.mem_cons.mp hp with rfl | hp
        · exact hSI e
        · exact hNI p hp e
    have nS := X.nw _ (.head _)
    refine codeAny_builtin F.entry_min_loop ?_
    rw [Around.under_plainId F.plain_min_loop _]
    show wpAny _ A.in1 (seqItems? (.ref S) >>= _) _ _ s
    refine wpAny_bind (wpAny_seqItems nS.1 rfl ?_)
    show wpAny _ A.in1 (tryCatch (pyNext (.ref I)) _ >>= _) _ _ s
    refine wpAny_bind (wpAny_tryCatch (W.item i s _ _ hlt ⟨hI, hD⟩ fun v s' hP hst m => ?_))
    have X' := X.mv ap m
    have nS' := X'.nw _ (.head _)
    obtain ⟨v', hv', hT⟩ := hv.get i (0, 0, 0) (by omega)
    have hP' : vs[i]? = some v := by simpa using hP
    rw [hP'] at hv'
    cases hv'
    have hdrop : ts.drop i = ts.getD i (0, 0, 0) :: ts.drop (i + 1) := by
      rw [List.drop_eq_getElem_cons (by omega), List.getD_eq_getElem?_getD, List.getElem?_eq_getElem (by omega)]; rfl
    rw [hdrop] at hm
    have upd : ∀ (cur : Option (Value × Trip)) (s' : Shared) (c : Nat), In b s₀ L l ((S, listOf (List.toArray (curL cur)) c) :: N) s' → s'.heap.IsListIter I D (i + 1) ∧ s'.heap.IsList D vs.toArray → minO (some (v, ts.getD i (0, 0, 0))) (ts.drop (i + 1)) = minO none ts →
        codeAny (model pw w) A (.builtin "min.loop" ⟨[.ref I, .none, .ref S], []⟩) R { s' with heap := s'.heap.update S (Obj.mapSeq fun _ => #[v, v]) } := fun cur s' c X' hst hm' => by
      have nS' := X'.nw _ (.head _)
      have sb := Heap.SameBut.update s'.heap S (Obj.mapSeq fun _ => #[v, v])
      have X2 := X'.updS (tk := s'.toks) sb (get?_update_seq nS'.1 fun _ => #[v, v]) hNS
      refine ih (i + 1) (some (v, ts.getD i (0, 0, 0))) _ _ (by omega) (by omega) (fun e => nomatch e) hT hm' X2 ?_ ?_
      · obtain ⟨o, ho, h1, h2⟩ := hst.1
        exact ⟨o, (sb.2 _ hSI.symm).trans ho, h1, h2⟩
      · obtain ⟨o, ho, h1, h2⟩ := hst.2
        exact ⟨o, (sb.2 _ hDS).trans ho, h1, h2⟩
    match cur, hc, hm, X', nS', X with
    | none, hc, hm, X', nS', _ =>
      show wpAny _ A.in1 (updateSeq S (fun _ => #[v, v]) >>= _) _ _ _
      refine wpAny_bind (wpAny_updateSeq nS'.1 rfl ?_ (by show 0 ≤ sizeLine; decide))
      rw [hname]
      exact wpAny_pure ⟨plainId_quiet F.plain_min_loop _, upd none s' c X' hst hm⟩
    | some (vb, tb), hc, hm, X', nS', _ =>
      show wpAny _ A.in1 (tryCatch (holding [v, v] (richCompare .Lt v vb >>= _)) _ >>= _) _ _ _
      refine wpAny_bind (wpAny_tryCatch (wpAny_holding (wpAny_bind (trip_lt X'.nw hu (hT.mono (fun q hq => .tail _ hq)) (TripN.mono (fun q hq => .tail _ hq) _ _ hc) ?_))))
      refine wpAny_bind (wpAny_holding (wpAny_truthy_bool ?_))
      refine wpAny_bind (wpAny_letGo (wpAny_pure ?_))
      have hm2 : minFrom (if tripLt (ts.getD i (0, 0, 0)) tb then ts.getD i (0, 0, 0) else tb) (ts.drop (i + 1)) = minO none ts := hm
      cases hb : tripLt (ts.getD i (0, 0, 0)) tb with
      | true =>
        rw [hb] at hm2
        simp only [if_true] at hm2 ⊢
        refine wpAny_bind (wpAny_updateSeq nS'.1 rfl (wpAny_bind (wpAny_letGo ?_)) (by show 2 ≤ sizeLine; decide))
        rw [hname]
        exact wpAny_pure ⟨plainId_quiet F.plain_min_loop _, upd (some (vb, tb)) s' c X' hst hm2⟩
      | false =>
        rw [hb] at hm2
        simp only [Bool.false_eq_true, if_false] at hm2 ⊢
        refine wpAny_bind (wpAny_letGo ?_)
        rw [hname]
        exact wpAny_pure ⟨plainId_quiet F.plain_min_loop _, ih (i + 1) (some (vb, tb)) s' c (by omega) (by omega) (fun e => nomatch e) hc hm2 X' hst.1 hst.2⟩

theorem min_In {b : Bool} {w : World} {A : Around} {E : Value → Shared → Prop} {s s₀ : Shared} {L D : Addr} {l : List (Str × Value)} {N : List (Addr × Obj)} {vs : List Value} {e : Nat} {ts : List Trip} {Q : Value → Shared → Prop}
    (hh : A.handled = none) (hu : A.in1.units < cLine) (X : In b s₀ L l N s) (hD : (D, listOf (List.toArray vs) e) ∈ N) (hv : AllV (TripN N) vs ts) (hne : ts ≠ [])
    (h : ∀ v s', TripN N v (minO none ts) → In b s₀ L l N s' → Q v s') : wpAny (model pw w) A (call (.builtin "min") [.ref D]) Q E s := by
  have hname : (toString "min" ++ toString ".loop" : String) = "min.loop" := by decide
  have nD := X.nw _ hD
  have hDl : s.heap.IsList D vs.toArray := ⟨_, nD.1, rfl, _, rfl⟩
  have hDs : D < s.heap.objs.size := Heap.lt_size nD.1
  obtain ⟨m, F, H⟩ := X.fr
  have hL : L < s.heap.objs.size := F.ns.lt
  have hLo : s₀.heap.objs.size ≤ L := F.above
  refine call_function_tree PySem.F.kind_min PySem.F.plain_min PySem.F.entry_min (PySem.F.args_min1 _) ?_
  show wpAny _ A.in1 (Builtin.Builtins.bindParams "min" ["key", "default"] 0 ⟨[], []⟩ >>= _) _ _ s
  refine wpAny_bind (wpAny_of_eq (show Builtin.Builtins.bindParams "min" ["key", "default"] 0 ⟨[], []⟩ = pure [none, none] from rfl) ?_)
  refine wpAny_bind (wpAny_pure ?_)
  refine wpAny_bind (wpAny_pyIter_list hDl ?_)
  have X1 := X.keeps (s' := { s with heap := s.heap.push { cls := .type "list_iterator", data := .fields #[.ref D, .int 0 0] } }) (fun b o e => Heap.get?_push_of_some _ e) rfl rfl (.refl _ _)
  have X1' := X1.add (Heap.get?_push_size _ rfl) (Nat.ne_of_gt hL) (Heap.get?_none_of_le (Nat.le_of_lt (Nat.lt_of_le_of_lt hLo hL)))
  refine wpAny_bind (new_list X1' (fun S s2 hS X2 => ?_))
  rw [hname]
  have hS' : S = s.heap.objs.size + 1 := hS.trans (Heap.size_push ..)
  have hI2 := (X2.nw _ (.tail _ (.head _))).1
  have X3 := X2.news (N' := (S, listOf (List.toArray (curL none)) 0) :: N) fun q hq => by
    rcases List.mem_cons.mp hq with rfl | hq
    · exact .head _
    · exact .tail _ (.tail _ hq)
  refine wpAny_pure ⟨plainId_quiet PySem.F.plain_min_loop _, min_loop hh hu hv (Nat.ne_of_lt hDs) (fun e => Nat.succ_ne_self _ (hS'.symm.trans e)) (Nat.ne_of_lt (by rw [hS']; exact Nat.lt_succ_of_lt hDs)) (fun p hp => ?_) (fun p hp => Nat.ne_of_lt (Heap.lt_size (X.nw p hp).1)) (Nat.ne_of_gt hL) (Heap.get?_none_of_le (Nat.le_of_lt (Nat.lt_of_le_of_lt hLo hL))) nD.2.1 h ts.length 0 none s2 0 rfl (Nat.zero_le _) (fun _ => List.length_pos_iff.mpr hne) trivial rfl X3 ⟨_, hI2, rfl, rfl⟩ ⟨_, (X3.nw _ (.tail _ hD)).1, rfl, _, rfl⟩⟩
  exact Nat.ne_of_lt (by rw [hS']; exact Nat.lt_succ_of_lt (Heap.lt_size (X.nw p hp).1))
end WC

set_option maxHeartbeats 4000000
namespace WC
open PySem PySem.W PySem.Calls PyProof.Rows
open PyProof

/-! a list of pairs of ints as a source -/
noncomputable def IPairN (N : List (Addr × Obj)) (v : Value) (p : Int × Int) : Prop := ∃ T t u n, v = .ref T ∧ (T, ({ cls := .type "tuple", data := .seq #[.int p.1 t, .int p.2 u] n } : Obj)) ∈ N
theorem IPairN.mono {N N' : List (Addr × Obj)} (k : ∀ q ∈ N, q ∈ N') (v : Value) (p : Int × Int) (h : IPairN N v p) : IPairN N' v p := let ⟨T, t, u, n, e, m⟩ := h; ⟨T, t, u, n, e, k _ m⟩
theorem PairsN.ints {N : List (Addr × Obj)} : ∀ {vs : List Value} {ps : List (Nat × Nat)}, PairsN N vs ps → AllV (IPairN N) vs (ps.map fun p => (((p.1 : Nat) : Int), ((p.2 : Nat) : Int)))
  | [], [], _ => trivial
  | [], _ :: _, h => h.elim
  | _ :: _, [], h => h.elim
  | _ :: _, _ :: _, ⟨⟨T, t, u, n, e, m⟩, r⟩ => ⟨⟨T, t, u, n, e, m⟩, PairsN.ints r⟩

theorem src_pairs {w : World} {A : Around} {hb : Heap} {I B : Addr} {N : List (Addr × Obj)} {vs : List Value} {ips : List (Int × Int)} (hh : A.handled = none) (hB : hb.IsList B vs.toArray) (hI : hb.get? I = none) (hN : ∀ q ∈ N, hb.get? q.1 = some q.2) (hv : AllV (IPairN N) vs ips) :
    Src2 hb w A I (fun _ => [I]) (· = I) none ips.length (fun i v0 v1 => (∃ t, v0 = .int (ips.getD i (0, 0)).1 t) ∧ ∃ u, v1 = .int (ips.getD i (0, 0)).2 u)
      (fun i s => s.heap.IsListIter I B i ∧ ∀ b o, hb.get? b = some o → s.heap.get? b = some o)
      (fun i T s => s.heap.IsListIter I B (i + 1) ∧ ∀ b o, hb.get? b = some o → s.heap.get? b = some o) where
  frame := fun i s s' st kb kf _ => ⟨st.1.at fun o e => kf I (.head _) o e, fun b o e => kb b o e⟩
  item := fun i s Q E hi st hQ => by
    obtain ⟨v, e, T, t, u, n, rfl, m⟩ := hv.get i (0, 0) hi
    refine wpAny_pyNext_list_item st.1 (hB.at fun o e => st.2 _ _ e) (x := .ref T) (by simpa using e) fun h' hit' hs' => ?_
    have keep : ∀ b o, hb.get? b = some o → h'.get? b = some o := fun b o e => hs'.extBut b o (fun q => by rw [q, hI] at e; cases e) (st.2 b o e)
    exact hQ T _ _ _ ⟨⟨t, rfl⟩, u, rfl⟩ ⟨_, keep _ _ (hN _ m), rfl, _, rfl⟩ ⟨hit', keep⟩ ⟨fun b o hb e => hs'.extBut b o hb e, rfl, rfl, rfl⟩
  go := fun _ _ _ i T s Q E hm hQ => wpAny_letOwnedTupleGo_listiter hm.1 (hQ s hm .refl fun _ e => e)
  done := fun s Q E st hQ => by
    have := hv.length
    exact wpAny_pyNext_list_end hh st.1 (hB.at fun o e => st.2 _ _ e) (by simp; omega) fun h' he' => hQ _ ⟨fun b o hb e => he' b o hb e, rfl, rfl, rfl⟩

/-! a comprehension with a free name -/
theorem comp_blockC {b : Bool} {w : World} {A : Around} {E : Value → Shared → Prop} {sB s₂ : Shared} {env : Env} {target elt iter : Expr} {ifs : List Expr} {scope : Scope} {cl : List (Str × Addr)} {pos : Pos} {I : Addr} {RR : Value → Addr → Result → Shared → Prop} {G : List Value → List (Addr × Obj) → Prop}
    (kB : KpG b sB s₂) (hB : sB.heap.objs.size ≤ s₂.heap.objs.size) (hcell : ∀ y ∈ scope.names, y.2 ≠ .cell) (hkind : scope.kind = .function)
    (hself : ∀ (Q E : Value → Shared → Prop) (s' : Shared), (∀ b o, s₂.heap.get? b = some o → s'.heap.get? b = some o) → Q (.ref I) s' → wpAny (model pw w) A (pyIter (.ref I)) Q E s')
    (hloop : ∀ C D s₄, In b sB C [] [(D, listOf (List.toArray []) 0)] s₄ → (∀ b o, s₂.heap.get? b = some o → s₄.heap.get? b = some o) → D = s₂.heap.objs.size → C = s₂.heap.objs.size + 1 →
      codeAny (model pw w) A (.compLoop (.ListComp elt [⟨target, iter, ifs, 0⟩] scope pos) 0 (.ref I) (.ref D) (compEnvC scope cl C env)) (CompOut b sB C D G) s₄)
    (hRR : ∀ C D r s', CompOut b sB C D G r s' → RR (.ref D) C r s') :
    wpAny (model pw w) A (newList []) (fun acc s₃ => wpAny (model pw w) A (newFunctionEnv scope env.globals cl [] env.qual none .none (some env)) (fun cenv s₄ =>
      codeAny (model pw w) A (.compStart (.ListComp elt [⟨target, iter, ifs, 0⟩] scope pos) 0 (.ref I) acc { cenv with scope := relabel scope env }) (RR acc cenv.locals) s₄) E s₃) E s₂ := by
  refine wpAny_newObj_type (wpAny_newFunctionEnv hcell (by intro y hy; simp at hy) (fun h₁ hns₁ hsb₁ => ?_) hkind)
  dsimp only at hns₁ hsb₁ ⊢
  generalize hH2 : s₂.heap.push { cls := .type "list", dict := none, data := .seq ([] : List Value).toArray } = H2 at hns₁ hsb₁ ⊢
  have hC : H2.objs.size = s₂.heap.objs.size + 1 := by rw [← hH2, Heap.size_push]
  have old : ∀ b o, s₂.heap.get? b = some o → h₁.get? b = some o := fun b o e => hsb₁.extBut b o (by rw [hC]; exact Nat.ne_of_lt (Nat.lt_succ_of_lt (Heap.lt_size e))) (Heap.get?_push_of_some _ (hH2 ▸ Heap.get?_push_of_some _ e))
  have hacc : h₁.get? s₂.heap.objs.size = some (listOf (List.toArray []) 0) := hsb₁.extBut _ _ (by rw [hC]; exact Nat.ne_of_lt (Nat.lt_succ_self _)) (Heap.get?_push_of_some _ (hH2 ▸ Heap.get?_push_size _ rfl))
  have X : ∀ tk, In b sB H2.objs.size [] [(s₂.heap.objs.size, listOf (List.toArray []) 0)] { s₂ with heap := h₁, toks := tk } := fun tk => by
    refine ⟨⟨_, ⟨hns₁, fun a o e => old a o (kB.keep a o e), by rw [hC]; exact Nat.le_succ_of_le hB⟩, trivial⟩, .nil, fun p hp => ?_, kB.os, kB.drawn, kB.gens⟩
    rw [List.mem_singleton.mp hp]
    exact ⟨hacc, by rw [hC]; exact Nat.ne_of_lt (Nat.lt_succ_self _), Heap.get?_none_of_le hB⟩
  have loop := fun tk => codeAny_mono (hloop _ _ _ (X tk) old rfl hC) fun r s' hr => hRR _ _ r s' hr
  exact codeAny_compStart_list (loop _) (hself _ _ _ old (loop _))
theorem ev_compC {b : Bool} {w : World} {A : Around} {E : Value → Shared → Prop} {s : Shared} {env : Env} {target elt iter : Expr} {ifs : List Expr} {scope : Scope} {cl : List (Str × Addr)} {pos : Pos} {Q : Value → Shared → Prop} (G : List Value → List (Addr × Obj) → Prop)
    (hclos : closureFor scope env = pure cl) (hcell : ∀ y ∈ scope.names, y.2 ≠ .cell) (hkind : scope.kind = .function) (hnames : ∀ y ∈ scope.names, y.2 = .local → scope.names.lookup y.1 = some .local)
    (h : wpAny (model pw w) A (eval iter env) (fun xv s₁ => wpAny (model pw w) A (pyIter xv) (fun it s₂ => ∃ I sB, it = .ref I ∧ KpG b sB s₂ ∧ sB.heap.objs.size ≤ s₂.heap.objs.size ∧
      (∀ (Q E : Value → Shared → Prop) (s' : Shared), (∀ b o, s₂.heap.get? b = some o → s'.heap.get? b = some o) → Q (.ref I) s' → wpAny (model pw w) A (pyIter (.ref I)) Q E s') ∧
      (∀ C D s₄, In b sB C [] [(D, listOf (List.toArray []) 0)] s₄ → (∀ b o, s₂.heap.get? b = some o → s₄.heap.get? b = some o) → D = s₂.heap.objs.size → C = s₂.heap.objs.size + 1 →
        codeAny (model pw w) A (.compLoop (.ListComp elt [⟨target, iter, ifs, 0⟩] scope pos) 0 (.ref I) (.ref D) (compEnvC scope cl C env)) (CompOut b sB C D G) s₄) ∧
      (∀ D ys e M s', KpG b sB s' → Made sB s' ((D, listOf (List.toArray ys) e) :: M) → G ys M → (∀ q ∈ M, q.1 ≠ D) → Q (.ref D) s')) E s₁) E s)
    (hs : ∀ x, foldedSetIterable iter env x = pure x := by intro _; rfl) :
    wpAny (model pw w) A (eval (.ListComp elt [⟨target, iter, ifs, 0⟩] scope pos) env) Q E s := by
  rw [eval_ListComp]
  refine wpAny_comprehension_free (use := none) rfl hs hclos hkind hnames (wpAny_mono h (fun xv s₁ h₁ => wpAny_mono h₁ (fun it s₂ h₂ => ?_) fun _ _ e => e) fun _ _ e => e)
  obtain ⟨I, sB, rfl, kB, hB, hself, hloop, hQ⟩ := h₂
  refine comp_blockC (RR := fun acc C => compPost (model pw w) A E none Q acc C) kB hB hcell hkind hself hloop ?_
  rintro C D r s' ⟨rfl, ys, e, M, X, hG, hM⟩
  obtain ⟨m, F, H⟩ := X.fr
  refine ⟨m, F.ns, fun h' hs' => ?_⟩
  obtain ⟨k, hm⟩ := CompOut.made (D := D) X hs'
  exact hQ D ys e M _ k hm hG hM
end WC

set_option maxHeartbeats 4000000
namespace WC
open PySem PySem.W PySem.Calls PyProof.Rows
open PyProof

noncomputable def candF (k : Int) (p : Int × Int) : Option Trip := if p.1 < k ∧ k < p.2 then some (p.2 - p.1, p.1, p.2) else none
theorem cands_F (due : List (Nat × Nat)) (k : Nat) : cands due k = (intsOf due).filterMap (candF (k : Int)) := rfl
noncomputable def arg0 : Stmt → Expr
  | .Assign _ (.Call _ [c] _ _) _ => c
  | _ => default
noncomputable def kBody : List Stmt := forBody (((fbody (stI 18)).drop 6).headD default)
noncomputable def compK : Expr := arg0 (kBody.headD default)

theorem ev_comp_k {w : World} {os : OsState} {A : Around} {s s₀ : Shared} {L Df : Addr} {l : List (Str × Value)} {N : List (Addr × Obj)} {fs : List Value} {ef : Nat} {due : List (Nat × Nat)} {oc : Obj} {k : Nat} {tk : Tok} {Q : Value → Shared → Prop}
    (hh : A.handled = none) (X : In false s₀ L l N s) (hl : (Str.ofString "folders", .ref Df) ∈ l) (hD : (Df, listOf (List.toArray fs) ef) ∈ N) (hp : PairsN N fs due) (hlen : due.length ≤ 100) (hcell : (L + 1, oc) ∈ N) (hoc : oc.data = .cell (some (.int (k : Nat) tk)))
    (h : ∀ D ys e M s', In false s₀ L l ((D, listOf (List.toArray ys) e) :: (M ++ N)) s' → AllV (TripN M) ys (cands due k) → Q (.ref D) s') :
    wpAny (model pw w) A (eval compK (lenv L)) Q (fun _ _ => False) s := by
  have hfl := hp.length
  refine ev_compC (b := false) (fun ys M => AllV (TripN M) ys (cands due k)) (cl := [(Str.ofString "k", L + 1)]) (by rfl) (by decide +kernel) rfl (by decide +kernel) ?_
  refine wpAny_BinOp (evc_local X hl (List_ (spliced_more (Tuple_ (spliced_more (UnaryOp_ (ev_int X fun t1 s1 X1 => neg_int ?_)))))))
  have X2 := X1.toks (s1.toks + 1)
  refine spliced_more (ev_int X2 fun t3 s3 X3 => spliced_none (new_tuple X3 fun T s4 hT X4 => spliced_none (new_list X4 fun B0 s5 hB0 X5 => ?_)))
  refine add_lists_In (vs := fs) (ws := [.ref T]) X5 ⟨_, (X5.nw _ (.tail _ (.tail _ hD))).1, rfl, _, rfl⟩ ⟨_, (X5.nw _ (.head _)).1, rfl, _, rfl⟩ (by simp; omega) fun B sB XB hB => ?_
  have hv : AllV (IPairN ((B, listOf (List.toArray (fs ++ [Value.ref T])) 0) :: (B0, listOf (List.toArray [Value.ref T]) 0) :: (T, { cls := .type "tuple", data := .seq (List.toArray [Value.int (-1) s1.toks, .int 6 t3]) }) :: N)) (fs ++ [Value.ref T]) (intsOf due) := by
    refine AllV.append ?_ ⟨⟨T, _, _, _, rfl, .tail _ (.tail _ (.head _))⟩, trivial⟩
    exact (PairsN.ints (hp.mono fun q hq => .tail _ (.tail _ (.tail _ hq))))
  generalize hips : intsOf due = ips at hv
  have hipl : ips.length = due.length + 1 := by rw [← hips]; simp [intsOf]
  have hBl : sB.heap.IsList B (fs ++ [Value.ref T]).toArray := ⟨_, (XB.nw _ (.head _)).1, rfl, _, rfl⟩
  refine wpAny_pyIter_list hBl ?_
  have kI : ∀ b o, sB.heap.get? b = some o → (sB.heap.push { cls := .type "list_iterator", data := .fields #[.ref B, .int 0 0] }).get? b = some o := fun b o e => Heap.get?_push_of_some _ e
  refine ⟨sB.heap.objs.size, sB, rfl, ⟨kI, rfl, rfl, .refl _ _⟩, by rw [Heap.size_push]; exact Nat.le_succ _, ?_, ?_, ?_⟩
  · intro Q E s' k hQ
    exact wpAny_pyIter_listiter ⟨_, k _ _ (Heap.get?_push_size _ rfl), rfl, rfl⟩ hQ
  · intro Cc D s₄ X₄ k₄ hDv hCv
    have hDn : (D : Nat) = sB.heap.objs.size + 1 := by rw [hDv, Heap.size_push]
    have hCn : (Cc : Nat) = sB.heap.objs.size + 2 := by rw [hCv, Heap.size_push]
    have hI : sB.heap.get? sB.heap.objs.size = none := Heap.get?_none_of_le (Nat.le_refl _)
    have hIs : s₄.heap.IsListIter sB.heap.objs.size B 0 := ⟨_, k₄ _ _ (Heap.get?_push_size _ rfl), rfl, rfl⟩
    have hcB := (XB.nw _ (.tail _ (.tail _ (.tail _ hcell)))).1
    refine comp_pair (b := false) (s₀ := sB) (n := ips.length) (e₀ := 0) hh (src_pairs hh hBl hI (fun q hq => (XB.nw q hq).1) hv) X₄ ⟨hIs, fun b o e => k₄ _ _ (kI _ _ e)⟩ ?_ ?_ (by omega) ?_ ?_ rfl (by kernel_rfl!) (by decide +kernel) (by kernel_rfl!) (by kernel_rfl!)
      (fun i ys M => AllV (TripN M) ys ((ips.take i).filterMap (candF (k : Int)))) trivial ?_ ?_
    · refine ⟨fun s h => ?_, fun h => ?_, fun a h => h ▸ hI, fun a h q => (nomatch q), fun _ h => (nomatch h)⟩
      · have e' : (sB.heap.objs.size + 2 : Nat) = sB.heap.objs.size := hCn.symm.trans (List.mem_singleton.mp h)
        omega
      · have e' : (sB.heap.objs.size + 2 : Nat) = sB.heap.objs.size := hCn.symm.trans h
        omega
    · intro h
      have e' : (sB.heap.objs.size + 1 : Nat) = sB.heap.objs.size := hDn.symm.trans h
      omega
    · intro s a h _
      exact List.mem_singleton.mp h
    · intro i s hS a h
      obtain ⟨o, ho, _⟩ := hS.1
      exact ⟨h ▸ .head _, o, h ▸ ho⟩
    · rintro ok i v0 v1 ys M own g e s₅ hi ⟨⟨t, rfl⟩, u, rfl⟩ hJ hM hokD hown X₅ fresh
      have hk0 : (base sB g).heap.get? (L + 1) = some oc := hcB
      have htake : ips.take (i + 1) = ips.take i ++ [ips.getD i (0, 0)] := by
        rw [List.take_succ_eq_append_getElem hi, List.getD_eq_getElem?_getD, List.getElem?_eq_getElem hi]; rfl
      have hfm : (ips.take (i + 1)).filterMap (candF (k : Int)) = (ips.take i).filterMap (candF (k : Int)) ++ (candF (k : Int) (ips.getD i (0, 0))).toList := by
        rw [htake, List.filterMap_append]
        congr 1
      generalize ips.getD i (0, 0) = p at X₅ fresh hfm
      have miss : candF (k : Int) p = none → AllV (TripN M) ys ((ips.take (i + 1)).filterMap (candF (k : Int))) := fun hc => by
        rw [hfm, hc]; simpa using hJ
      refine wpAny_tests_one (isTrue_chain (evc_local X₅ (.head _) (test_link ?_)))
      refine wpAny_Name (wpAny_loadName_cell (by kernel_rfl!) (by kernel_rfl!) (by rfl) ⟨oc, X₅.kp.keep _ _ hk0, hoc⟩ (lt_int (wpAny_truthy_bool ?_))) (by decide +kernel)
      by_cases h1 : p.1 < (k : Int)
      case neg =>
        rw [decide_eq_false h1]
        simp only [Bool.false_eq_true, if_false]
        exact ⟨M, X₅, miss (by simp [candF, h1]), hM⟩
      rw [decide_eq_true h1]
      simp only [if_true]
      refine test_last (evc_local X₅ (.tail _ (.head _)) (lt_int (wpAny_truthy_bool ?_)))
      by_cases h2 : (k : Int) < p.2
      case neg =>
        rw [decide_eq_false h2]
        simp only [Bool.false_eq_true, if_false]
        exact ⟨M, X₅, miss (by simp [candF, h2]), hM⟩
      rw [decide_eq_true h2]
      simp only [if_true]
      refine Tuple_ (spliced_more (wpAny_BinOp (evc_local X₅ (.tail _ (.head _)) (evc_local X₅ (.head _) (sub_int ?_)))))
      have X₆ := X₅.toks (s₅.toks + 1)
      refine spliced_more (evc_local X₆ (.head _) (spliced_more (evc_local X₆ (.tail _ (.head _)) (spliced_none (new_tuple X₆ fun T2 s₇ hT2 X₇ => ?_)))))
      have okT : ok T2 := hT2 ▸ fresh _ ((D, listOf (List.toArray ys) e) :: M) _ X₆
      have hTD : T2 ≠ D := hT2 ▸ Nat.ne_of_gt (X₆.below _ (.head _))
      refine ⟨(T2, tripO (p.2 - p.1, p.1, p.2) s₅.toks t u 0) :: M, X₇.news fun q hq => ?_, ?_, fun q hq => ?_⟩
      · rcases List.mem_cons.mp hq with rfl | hq
        · exact .tail _ (.head _)
        · rcases List.mem_cons.mp hq with rfl | hq
          · exact .head _
          · exact .tail _ (.tail _ hq)
      · rw [hfm, show candF (k : Int) p = some (p.2 - p.1, p.1, p.2) by simp [candF, h1, h2]]
        exact (hJ.mono (TripN.mono fun q hq => .tail _ hq)).append ⟨⟨T2, s₅.toks, t, u, 0, rfl, .head _⟩, trivial⟩
      · rcases List.mem_cons.mp hq with rfl | hq
        · exact ⟨okT, hTD⟩
        · exact hM q hq
    · intro ys e M s' X' hJ hM
      rw [List.take_length, ← hips, ← cands_F] at hJ
      exact ⟨rfl, ys, e, M, X', hJ, hM⟩
  · intro D ys e M s' kp hm hG hne
    have X6 := XB.made kp hm
    refine h D ys e M s' (X6.news fun q hq => ?_) hG
    rcases List.mem_cons.mp hq with rfl | hq
    · exact .head _
    · rcases List.mem_append.mp hq with hq | hq
      · exact .tail _ (List.mem_append_left _ hq)
      · exact .tail _ (List.mem_append_right _ (.tail _ (.tail _ (.tail _ hq))))
end WC

set_option maxHeartbeats 4000000
namespace WC
open PySem PySem.W PySem.Calls PyProof.Rows
open PyProof

/-! a loop whose target is a cell -/
theorem store_cell {b : Bool} {w : World} {A : Around} {E : Value → Shared → Prop} {s s₀ : Shared} {env : Env} {L Cc : Addr} {l : List (Str × Value)} {N : List (Addr × Obj)} {x : Str} {oc : Obj} {v0 : Option Value} {v : Value} {Q : Unit → Shared → Prop} (X : In b s₀ L l ((Cc, oc) :: N) s) (hoc : oc.data = .cell v0) (hN : ∀ p ∈ N, p.1 ≠ Cc)
    (hk : env.scope.kind = .function) (hl : env.kindOf x = some .cell) (hc : env.cells.lookup x = some Cc)
    (h : ∀ oc' s', oc'.data = .cell (some v) → In b s₀ L l ((Cc, oc') :: N) s' → Q () s') : wpAny (model pw w) A (storeName env x v) Q E s := by
  refine wpAny_storeName_cell hk hl hc ⟨oc, (X.nw _ (.head _)).1, hoc⟩ fun h' ⟨o', ho', hd'⟩ hs => ?_
  exact h o' _ hd' (X.updS (tk := s.toks) hs ho' hN)

theorem for_oneC {b : Bool} {w : World} {A : Around} {s s₀ : Shared} {env : Env} {L Cc : Addr} {l : List (Str × Value)} {N : List (Addr × Obj)} {oc : Obj} {v0 : Option Value} {x : Str} {px : Pos} {body : List Stmt}
    {R : Result → Shared → Prop} {I : Addr} {fp wr : List Addr} {n : Nat} {P : Nat → Value → Prop} {S : Nat → Shared → Prop}
    (W : Src1 w A I fp wr n P S) (X : In b s₀ L l ((Cc, oc) :: N) s) (hoc : oc.data = .cell v0) (hst : S 0 s) (ap : Apart b s₀ L (((Cc, oc) :: N).map (·.1)) (fun _ => fp) (· ∈ wr) none) (hCN : Cc ∉ N.map (·.1)) (hCf : Cc ∉ fp)
    (J : Nat → List (Addr × Obj) → Prop) (h0 : J 0 N)
    (step : ∀ i v oc N₁ own g s, i < n → P i v → oc.data = .cell (some v) → J i N₁ → N₁.map (·.1) = N.map (·.1) → (∀ p ∈ own, p.1 ∈ fp) → In b (base s₀ g) L l ((Cc, oc) :: (N₁ ++ own)) s →
      (∀ l' N' s', In b (base s₀ g) L l' N' s' → In b s₀ L l' N' s') →
      wpAny (model pw w) A (execs body env) (fun f s' => match f with
        | .next | .cont => ∃ oc' v' N', In b (base s₀ g) L l ((Cc, oc') :: (N' ++ own)) s' ∧ oc'.data = .cell v' ∧ J (i + 1) N' ∧ N'.map (·.1) = N₁.map (·.1)
        | .brk => R (.ok .next) s'
        | .ret v => R (.ok (.ret v)) s') (fun _ _ => False) s)
    (hR : ∀ N' s', In b s₀ L l N' s' → J n N' → N'.map (·.1) = N.map (·.1) → R (.ok .next) s')
    (hk : env.scope.kind = .function) (hl : env.kindOf x = some .cell) (hc : env.cells.lookup x = some Cc) :
    codeAny (model pw w) A (.forLoop (.Name x px) (.ref I) body [] env) R s := by
  refine codeAny_forLoop_any (fun k s' => ∃ oc v0 N' i, S i s' ∧ In b s₀ L l ((Cc, oc) :: N') s' ∧ oc.data = .cell v0 ∧ N'.map (·.1) = N.map (·.1) ∧ J i N' ∧ i ≤ n ∧ k = n + 1 - i) ?_ (n + 1)
    ⟨oc, v0, N, 0, hst, X, hoc, rfl, h0, Nat.zero_le _, rfl⟩
  rintro k s' ⟨oc, v0, N', i, hS, X', hoc, hN, hJ, hi, rfl⟩
  have ap' : Apart b s₀ L (((Cc, oc) :: N').map (·.1)) (fun _ => fp) (· ∈ wr) none := by
    have : ((Cc, oc) :: N').map (·.1) = Cc :: N.map (·.1) := by rw [← hN]; rfl
    rw [this]; exact ap
  by_cases hlt : i < n
  · refine W.item i _ _ _ hlt hS fun v s₁ hP hS₁ m₁ => ?_
    refine wpAny_of_eq (a := ()) rfl ?_
    have X₁ := X'.mv ap' m₁
    have X₄ := X₁.rebase.own (fp := fp) (ap.Lf s₁)
    refine wpAny_assign_Name (store_cell (Cc := Cc) (oc := oc) (N := N' ++ ownOf s₀.heap fp s₁.heap) X₄ hoc (fun p hp e => ?_) hk hl hc fun oc₂ s₆ hoc₂ X₆ => ?_)
    · rcases List.mem_append.mp hp with hp | hp
      · exact hCN (hN ▸ List.mem_map.mpr ⟨p, hp, e⟩)
      · exact hCf (e ▸ ownOf_sub p hp)
    refine wpAny_mono (step i v oc₂ N' _ _ s₆ hlt hP hoc₂ hJ hN (fun p hp => ownOf_sub p hp) X₆ fun _ _ _ I' => I'.unbase (s := s₁) X₁.gens) (fun f s₇ h₇ => ?_) fun _ _ e => e.elim
    have fin : (∃ oc' v' N'', In b (base s₀ s₁.gens) L l ((Cc, oc') :: (N'' ++ ownOf s₀.heap fp s₁.heap)) s₇ ∧ oc'.data = .cell v' ∧ J (i + 1) N'' ∧ N''.map (·.1) = N'.map (·.1)) →
          ∃ m, m < n + 1 - i ∧ ∃ oc v0 N' i, S i s₇ ∧ In b s₀ L l ((Cc, oc) :: N') s₇ ∧ oc.data = .cell v0 ∧ N'.map (·.1) = N.map (·.1) ∧ J i N' ∧ i ≤ n ∧ m = n + 1 - i := by
        rintro ⟨oc', v', N'', X₇, hoc', hJ₇, hN₇⟩
        have X₇' : In b (base s₀ s₁.gens) L l (((Cc, oc') :: N'') ++ ownOf s₀.heap fp s₁.heap) s₇ := X₇
        refine ⟨n + 1 - (i + 1), by omega, oc', v', N'', i + 1, ?_, (X₇'.unbase (s := s₁) X₁.gens).left, hoc', hN₇.trans hN, hJ₇, hlt, rfl⟩
        exact W.frame _ _ _ hS₁ (In.held (s₀ := base s₀ s₁.gens) (s₁ := s₁) (N := (Cc, oc) :: N') X₁.rebase X₇')
    cases f with
    | next => exact fin h₇
    | cont => exact fin h₇
    | brk => exact h₇
    | ret v => exact h₇
  · have hin : i = n := by omega
    subst hin
    refine W.done _ _ _ hS fun s₁ m₁ => wpAny_execs_nil ?_
    exact hR N' s₁ ((X'.mv ap' m₁).news fun q hq => .tail _ hq) hJ hN

theorem for_rangeC {b : Bool} {w : World} {A : Around} {s s₀ : Shared} {env : Env} {L Cc : Addr} {l : List (Str × Value)} {N : List (Addr × Obj)} {oc : Obj} {v0 : Option Value} {x : Str} {px : Pos} {body : List Stmt}
    {Rr : Result → Shared → Prop} {E : Value → Shared → Prop} {r : Addr} {t₁ u₁ v₁ : Tok} (hh : A.handled = none) (X : In b s₀ L l ((Cc, oc) :: N) s) (hoc : oc.data = .cell v0) (hCN : Cc ∉ N.map (·.1)) (lo hi : Nat) (hlo : lo ≤ 100000) (hhi : hi ≤ 100000) (hr : IsRange s.heap r (lo : Nat) (hi : Nat) 1 t₁ u₁ v₁)
    (J : Nat → List (Addr × Obj) → Prop) (h0 : J 0 N)
    (step : ∀ i t' oc N₁ own g s, i < hi - lo → oc.data = .cell (some (.int ((lo + i : Nat) : Int) t')) → J i N₁ → N₁.map (·.1) = N.map (·.1) → (∀ q ∈ N, ∀ p ∈ own, p.1 ≠ q.1) → In b (base s₀ g) L l ((Cc, oc) :: (N₁ ++ own)) s →
      (∀ l' N' s', In b (base s₀ g) L l' N' s' → In b s₀ L l' N' s') →
      wpAny (model pw w) A (execs body env) (fun f s' => match f with
        | .next | .cont => ∃ oc' v' N', In b (base s₀ g) L l ((Cc, oc') :: (N' ++ own)) s' ∧ oc'.data = .cell v' ∧ J (i + 1) N' ∧ N'.map (·.1) = N₁.map (·.1)
        | .brk => Rr (.ok .next) s'
        | .ret v => Rr (.ok (.ret v)) s') (fun _ _ => False) s)
    (hR : ∀ N' s', In b s₀ L l N' s' → J (hi - lo) N' → N'.map (·.1) = N.map (·.1) → Rr (.ok .next) s')
    (hk : env.scope.kind = .function) (hl : env.kindOf x = some .cell) (hc : env.cells.lookup x = some Cc) :
    wpAny (model pw w) A (pyIter (.ref r)) (fun it s₂ => codeAny (model pw w) A (.forLoop (.Name x px) it body [] env) Rr s₂) E s := by
  refine wpAny_pyIter_range hr (small_one (by omega) (by omega) (by omega) (by omega)) ?_
  obtain ⟨m, F, H⟩ := X.fr
  have hL : L < s.heap.objs.size := F.ns.lt
  have hLo : s₀.heap.objs.size ≤ L := F.above
  have X₁ := X.keeps (s' := { s with heap := s.heap.push { cls := .type "range_iterator", data := .fields #[rawInt (lo : Nat), rawInt (Builtin.Range.rangeSize (lo : Nat) (hi : Nat) 1), rawInt 1] } }) (fun b o e => Heap.get?_push_of_some _ e) rfl rfl (.refl _ _)
  have hsz : Builtin.Range.rangeSize ((lo : Nat) : Int) ((hi : Nat) : Int) 1 = ((hi - lo : Nat) : Int) := by rw [rangeSize_nat]; omega
  refine for_oneC (Src1.of (Walks.range hh s.heap.objs.size (lo : Nat) 1 (hi - lo))) X₁ hoc ?_ ?_ hCN (fun h => Nat.ne_of_lt (Heap.lt_size (X.nw _ (.head _)).1) (List.mem_singleton.mp h)) J h0 ?_ hR hk hl hc
  · show IsRangeIter _ _ (((lo : Nat) : Int) + ((0 : Nat) : Int) * 1) (((hi - lo : Nat) : Int) - ((0 : Nat) : Int)) 1
    rw [show ((lo : Nat) : Int) + ((0 : Nat) : Int) * 1 = ((lo : Nat) : Int) by simp, show ((hi - lo : Nat) : Int) - ((0 : Nat) : Int) = Builtin.Range.rangeSize ((lo : Nat) : Int) ((hi : Nat) : Int) 1 by rw [hsz]; simp]
    exact Heap.get?_push_size _ rfl
  · refine Apart.list (fun h => ?_) (fun _ h => h) (fun a h => ?_) fun a h q => ?_
    · exact Nat.ne_of_lt hL (List.mem_singleton.mp h)
    · rw [List.mem_singleton.mp h]; exact Heap.get?_none_of_le (Nat.le_of_lt (Nat.lt_of_le_of_lt hLo hL))
    · obtain ⟨p, hp, rfl⟩ := List.mem_map.mp q
      exact Nat.ne_of_lt (Heap.lt_size (X.nw p hp).1) (List.mem_singleton.mp h)
  · rintro i v oc N' own g s₁ hi' ⟨t', rfl⟩ hoc' hJ hN hown X₂ up
    have e : ((lo : Nat) : Int) + ((i : Nat) : Int) * 1 = ((lo + i : Nat) : Int) := by simp
    rw [e] at hoc'
    refine step i t' oc N' own g s₁ hi' hoc' hJ hN (fun q hq p hp e => ?_) X₂ up
    have := List.mem_singleton.mp (hown p hp)
    exact Nat.ne_of_lt (Heap.lt_size (X.nw q (.tail _ hq)).1) (e ▸ this)
end WC

set_option maxHeartbeats 4000000
namespace WC
open PySem PySem.W PySem.Calls PyProof.Rows
open PyProof

/-! the worth of a gap -/
theorem minFrom_mem : ∀ (r : List Trip) (c : Trip), minFrom c r = c ∨ minFrom c r ∈ r
  | [], c => .inl rfl
  | x :: r, c => by
    rw [minFrom]
    rcases minFrom_mem r (if tripLt x c then x else c) with h | h
    · rw [h]
      split
      · exact .inr (.head _)
      · exact .inl rfl
    · exact .inr (.tail _ h)
theorem minO_mem {ts : List Trip} (h : ts ≠ []) : minO none ts ∈ ts := by
  cases ts with
  | nil => exact absurd rfl h
  | cons c r =>
    rcases minFrom_mem r c with e | e
    · show minFrom c r ∈ _
      rw [e]; exact .head _
    · exact .tail _ e
theorem cands_ne (due : List (Nat × Nat)) {k : Nat} (hk : k < 6) : cands due k ≠ [] := by
  rw [cands_F, intsOf, List.filterMap_append]
  have : candF (k : Int) (-1, 6) = some (7, -1, 6) := by
    unfold candF
    rw [if_pos ⟨by show (-1 : Int) < (k : Int); omega, by show (k : Int) < 6; omega⟩]
    rfl
  simp [this]
theorem cands_mem {due : List (Nat × Nat)} {k : Nat} {t : Trip} (hs : ∀ p ∈ due, p.1 < 6 ∧ p.2 < 7) (h : t ∈ cands due k) : -1 ≤ t.2.1 ∧ t.2.1 < (k : Int) ∧ (k : Int) < t.2.2 ∧ t.2.2 ≤ 7 := by
  rw [cands_F] at h
  obtain ⟨p, hp, e⟩ := List.mem_filterMap.mp h
  unfold candF at e
  split at e
  · rename_i hc
    cases e
    refine ⟨?_, hc.1, hc.2, ?_⟩
    · rcases List.mem_append.mp hp with hp | hp
      · obtain ⟨q, hq, rfl⟩ := List.mem_map.mp hp
        show (-1 : Int) ≤ ((q.1 : Nat) : Int); omega
      · rw [List.mem_singleton.mp hp]; exact Int.le_refl _
    · rcases List.mem_append.mp hp with hp | hp
      · obtain ⟨q, hq, rfl⟩ := List.mem_map.mp hp
        have := (hs q hq).2
        show ((q.2 : Nat) : Int) ≤ 7; omega
      · rw [List.mem_singleton.mp hp]; show (6 : Int) ≤ 7; decide
  · cases e
theorem worthP_min (due : List (Nat × Nat)) {k : Nat} (hk : k < 6) : worthP due k = ((k : Int) - (minO none (cands due k)).2.1) * ((minO none (cands due k)).2.2 - (k : Int)) := by
  have := cands_ne due hk
  unfold worthP
  cases h : cands due k with
  | nil => exact absurd h this
  | cons c r => rfl
theorem mulOk {a b : Int} (h0 : 0 ≤ a) (h1 : a ≤ 10) : IntMulOk a b := by
  refine IntMulOk.of_left ?_
  obtain ⟨n, rfl⟩ : ∃ n : Nat, a = (n : Int) := ⟨a.toNat, by omega⟩
  have : ∀ n, n < 11 → Builtin.Int.intBits ((n : Nat) : Int) ≤ 64 := by decide +kernel
  exact this n (by omega)
theorem PairsN.off {h₀ h : Heap} {L Cc : Addr} {N : List (Addr × Obj)} {oc : Obj} {v0 : Option Value} (nw : News h₀ L h N) (hc : (Cc, oc) ∈ N) (hoc : oc.data = .cell v0) : ∀ {vs : List Value} {ps : List (Nat × Nat)}, PairsN N vs ps → PairsN (N.filter fun q => decide (q.1 ≠ Cc)) vs ps
  | [], [], _ => trivial
  | [], _ :: _, k => k.elim
  | _ :: _, [], k => k.elim
  | _ :: _, _ :: _, ⟨⟨T, t, u, n, e, m⟩, r⟩ => ⟨⟨T, t, u, n, e, List.mem_filter.mpr ⟨m, decide_eq_true fun q => by
      have h1 := (nw _ m).1
      have h2 := (nw _ hc).1
      simp only at h1 h2 q
      rw [q, h2] at h1
      cases h1
      cases hoc⟩⟩, r.off nw hc hoc⟩
theorem In.off {b : Bool} {s₀ s : Shared} {L Cc D : Addr} {l : List (Str × Value)} {N : List (Addr × Obj)} {oc : Obj} {v0 : Option Value} {vs : List Value} {e : Nat} (X : In b s₀ L l N s) (hc : (Cc, oc) ∈ N) (hoc : oc.data = .cell v0) (hD : (D, listOf (List.toArray vs) e) ∈ N) : (D, listOf (List.toArray vs) e) ∈ N.filter fun q => decide (q.1 ≠ Cc) :=
  List.mem_filter.mpr ⟨hD, decide_eq_true fun q => by
    have h1 := (X.nw _ hD).1
    have h2 := (X.nw _ hc).1
    simp only at h1 h2 q
    rw [q, h2] at h1
    cases h1
    cases hoc⟩
noncomputable def IntV (v : Value) (i : Int) : Prop := ∃ t, v = .int i t

noncomputable abbrev lawW (a D : Addr) (W : List Nat) (tw : Tok) (Dd : Addr) (B : List Nat) (tb : Tok) (Df Dw : Addr) : List (Str × Value) :=
  [(Str.ofString "script", .ref a), (Str.ofString "numbers", .ref D), (Str.ofString "written", .str (tx W) tw), (Str.ofString "due", .ref Dd), (Str.ofString "bare", .str (tx B) tb), (Str.ofString "folders", .ref Df), (Str.ofString "worth", .ref Dw)]

/-- the turn of the loop over k -/
theorem k_step {w : World} {os : OsState} {A : Around} {s s₀ : Shared} {a D Dd Df Dw : Addr} {tw tb tk : Tok} {W B : List Nat} {N : List (Addr × Obj)} {L : Addr} {R : Result → Shared → Prop} {fs ws : List Value} {ef ew k : Nat} {due : List (Nat × Nat)} {wl : List Int} {oc : Obj}
    (C : Cx w os s₀.heap) (hh : A.handled = none) (hu : A.in1.units < cLine) (hk : k < 6) (hs : ∀ p ∈ due, p.1 < 6 ∧ p.2 < 7) (hlen : due.length ≤ 100) (hoc : oc.data = .cell (some (.int (k : Nat) tk)))
    (X : In false s₀ L (lawW a D W tw Dd B tb Df Dw) ((L + 1, oc) :: (Dw, listOf (List.toArray ws) ew) :: N) s) (hD : (Df, listOf (List.toArray fs) ef) ∈ N) (hp : PairsN N fs due) (hw : AllV IntV ws wl) (hwl : wl.length ≤ 100) (hDw : L + 1 ≠ Dw) (hN : ∀ p ∈ N, p.1 ≠ Dw)
    (h : ∀ ws' s', AllV IntV ws' (wl ++ [worthP due k]) → In false s₀ L (lawW a D W tw Dd B tb Df Dw) ((L + 1, oc) :: (Dw, listOf (List.toArray ws') (ew + 1)) :: N) s' → R (.ok .next) s') :
    wpAny (model pw w) A (execs kBody (lenv L)) (fun f s' => f = .next ∧ R (.ok .next) s') (fun _ _ => False) s := by
  have hwlen := hw.length
  refine wpAny_execs_cons (Assign_Tuple (Call_ (ev_bltE (X.cx C) (gl_min w os) bb_min nn_min (callWith_builtin1 ?_ rfl (by kernel_rfl!)))))
  refine spliced_more ?_
  show wpAny _ _ (eval compK (lenv L)) _ _ _
  refine ev_comp_k (os := os) (fs := fs) (ef := ef) (due := due) (k := k) (oc := oc) (tk := tk) hh X (.tail _ (.tail _ (.tail _ (.tail _ (.tail _ (.head _)))))) (.tail _ (.tail _ hD)) (hp.mono fun q hq => .tail _ (.tail _ hq)) hlen (.head _) hoc fun Dc ys e M s1 X1 hv => spliced_none ?_
  refine min_In hh hu X1 (.head _) (hv.mono (TripN.mono fun q hq => .tail _ (List.mem_append_left _ hq))) (cands_ne due hk) fun v s2 hT X2 => ?_
  have hm := cands_mem hs (minO_mem (cands_ne due hk))
  have hwk := worthP_min due hk
  generalize minO none (cands due k) = mt at hT hm hwk
  obtain ⟨T, t1, t2, t3, n, rfl, hTm⟩ := hT
  have hTn := X2.nw _ hTm
  refine wpAny_assign_Tuple hh ⟨_, hTn.1, rfl, _, rfl⟩ rfl rfl fun h₃ hx₃ => ?_
  replace hx₃ : Heap.ExtBut s2.heap.objs.size s2.heap h₃ := hx₃
  have X3 := X2.keeps (s' := { s2 with heap := h₃ }) (fun b o x => hx₃ b o (Nat.ne_of_lt (Heap.lt_size x)) x) rfl rfl (.refl _ _)
  show wpAny _ A (do holding [_, _] (assign (.Name (Str.ofString "size") _) _ _); do holding [_] (assign (.Name (Str.ofString "low") _) _ _); do holding [] (assign (.Name (Str.ofString "high") _) _ _); pure ()) _ _ _
  refine wpAny_bind (wpAny_holding (wpAny_assign_Name (stL X3 (.tail (by decide +kernel) (.tail (by decide +kernel) (.tail (by decide +kernel) (.tail (by decide +kernel) (.tail (by decide +kernel) (.tail (by decide +kernel) (.tail (by decide +kernel) .nil))))))) fun s4 X4 => ?_)))
  refine wpAny_bind (wpAny_holding (wpAny_assign_Name (stL X4 (.tail (by decide +kernel) (.tail (by decide +kernel) (.tail (by decide +kernel) (.tail (by decide +kernel) (.tail (by decide +kernel) (.tail (by decide +kernel) (.tail (by decide +kernel) (.tail (by decide +kernel) .nil)))))))) fun s5 X5 => ?_)))
  refine wpAny_bind (wpAny_holding (wpAny_assign_Name (stL X5 (.tail (by decide +kernel) (.tail (by decide +kernel) (.tail (by decide +kernel) (.tail (by decide +kernel) (.tail (by decide +kernel) (.tail (by decide +kernel) (.tail (by decide +kernel) (.tail (by decide +kernel) (.tail (by decide +kernel) .nil))))))))) fun s6 X6 => wpAny_pure ?_)))
  have X7 := X6.news (N' := (L + 1, oc) :: (Dw, listOf (List.toArray ws) ew) :: N) fun q hq => .tail _ (List.mem_append_right _ hq)
  have hcg : ∀ {s' : Shared} {l' : List (Str × Value)} {N' : List (Addr × Obj)} {env : Env} {pos : Pos} {Q : Value → Shared → Prop}, In false s₀ L l' ((L + 1, oc) :: N') s' → Q (.int (k : Nat) tk) s' → wpAny (model pw w) A (eval (.Name (Str.ofString "k") pos) (lenv L)) Q (fun _ _ => False) s' := fun Y hQ =>
    wpAny_Name (wpAny_loadName_cell (by kernel_rfl!) (by kernel_rfl!) (c := L + 1) (by kernel_rfl!) ⟨oc, (Y.nw _ (.head _)).1, hoc⟩ hQ) (by decide +kernel)
  refine wpAny_execs_cons (wpAny_Expr (MethodCall_ (evc_local X7 (.tail _ (.tail _ (.tail _ (.tail _ (.tail _ (.tail _ (.head _))))))) (Calls.getMethod_list_append (X7.nw (Dw, _) (.tail _ (.head _))).1 rfl rfl ?_))))
  refine callWith_method1 ?_
  refine spliced_more (wpAny_BinOp (wpAny_BinOp (hcg (env := lenv L) X7 (evc_local X7 (.tail _ (.tail _ (.tail _ (.tail _ (.tail _ (.tail _ (.tail _ (.tail _ (.head _))))))))) (sub_int ?_)))))
  have X8 := X7.toks (s6.toks + 1)
  refine wpAny_BinOp (evc_local X8 (.tail _ (.tail _ (.tail _ (.tail _ (.tail _ (.tail _ (.tail _ (.tail _ (.tail _ (.head _)))))))))) (hcg (env := lenv L) X8 (sub_int ?_)))
  have X9 := X7.toks (s6.toks + 1 + 1)
  refine mul_int ?_ (mulOk (by omega) (by omega))
  have X10 := X7.toks (s6.toks + 1 + 1 + 1)
  refine spliced_none ?_
  refine app_led (P := [(L + 1, oc)]) X10 (fun q hq => by rw [List.mem_singleton.mp hq]; exact hDw) hN (by omega) fun s11 X11 => ?_
  refine wpAny_execs_nil ⟨rfl, h _ s11 ?_ (X11.names (l' := lawW a D W tw Dd B tb Df Dw) (fun p hp => List.mem_append_left [_, _, _] hp) X.nd)⟩
  rw [hwk]
  exact hw.append ⟨⟨_, rfl⟩, trivial⟩
end WC

set_option maxHeartbeats 4000000
namespace WC
open PySem PySem.W PySem.Calls PyProof.Rows
open PyProof

theorem worths_take (due : List (Nat × Nat)) : ∀ {i : Nat}, i < 4 → (worths due).take (i + 1) = (worths due).take i ++ [worthP due (1 + i)]
  | 0, _ => rfl
  | 1, _ => rfl
  | 2, _ => rfl
  | 3, _ => rfl
  | i + 4, h => by omega
/-- worth -/
theorem law_6 {w : World} {os : OsState} {A : Around} {s s₀ : Shared} {a D Dd Df : Addr} {tw tb : Tok} {W B : List Nat} {N : List (Addr × Obj)} {L : Addr} {Q : Flow → Shared → Prop} {fs ds : List Value} {ef ed : Nat} {due : List (Nat × Nat)} {oc : Obj} {v0 : Option Value}
    (C : Cx w os s₀.heap) (hh : A.handled = none) (hu : A.in1.units < cLine) (hs : ∀ p ∈ due, p.1 < 6 ∧ p.2 < 7) (hlen : due.length ≤ 100)
    (X : In false s₀ L (lawN a D W tw Dd B tb ++ [(Str.ofString "folders", .ref Df)]) N s) (hc : (L + 1, oc) ∈ N) (hoc : oc.data = .cell v0) (hDf : (Df, listOf (List.toArray fs) ef) ∈ N) (hp : PairsN N fs due) (hDd : (Dd, listOf (List.toArray ds) ed) ∈ N) (hpd : PairsN N ds due)
    (h : ∀ Dw ws ew N0 s', AllV IntV ws (worths due) → PairsN N0 fs due → PairsN N0 ds due → (Df, listOf (List.toArray fs) ef) ∈ N0 → (Dd, listOf (List.toArray ds) ed) ∈ N0 → In false s₀ L (lawW a D W tw Dd B tb Df Dw) ((Dw, listOf (List.toArray ws) ew) :: N0) s' →
      wpAny (model pw w) A (execs ((fbody (stI 18)).drop 7) (lenv L)) Q (fun _ _ => False) s') :
    wpAny (model pw w) A (execs ((fbody (stI 18)).drop 5) (lenv L)) Q (fun _ _ => False) s := by
  have hcx := C
  refine wpAny_execs_cons (wpAny_Assign_Name (List_ (spliced_none (new_list X fun Dw s1 hDw X1 => stL X1 (.tail (by decide +kernel) (.tail (by decide +kernel) (.tail (by decide +kernel) (.tail (by decide +kernel) (.tail (by decide +kernel) (.tail (by decide +kernel) .nil)))))) fun s2 X2 => ?_))))
  have hne : ∀ p ∈ N, p.1 ≠ Dw := fun p hp => hDw ▸ Nat.ne_of_lt (X.below p hp)
  have hp0 := hp.off X.nw hc hoc
  have hpd0 := hpd.off X.nw hc hoc
  have hDf0 := X.off hc hoc hDf
  have hDd0 := X.off hc hoc hDd
  have hN0 : ∀ p ∈ N.filter (fun q => decide (q.1 ≠ L + 1)), p.1 ≠ L + 1 := fun p hp => of_decide_eq_true (List.mem_filter.mp hp).2
  have hN0' : ∀ p ∈ N.filter (fun q => decide (q.1 ≠ L + 1)), p ∈ N := fun p hp => (List.mem_filter.mp hp).1
  generalize N.filter (fun q => decide (q.1 ≠ L + 1)) = N0 at hp0 hpd0 hDf0 hDd0 hN0 hN0'
  have X3 := X2.news (N' := (L + 1, oc) :: (Dw, listOf (List.toArray []) 0) :: N0) fun q hq => by
    rcases List.mem_cons.mp hq with rfl | hq
    · exact .tail _ hc
    · rcases List.mem_cons.mp hq with rfl | hq
      · exact .head _
      · exact .tail _ (hN0' q hq)
  refine wpAny_execs_cons (wpAny_For (Call_ (ev_bltE (X3.cx C) (gl_range w os) bb_range nn_range (callWith_type1 ?_ rfl (by kernel_rfl!)))))
  refine spliced_more (ev_int X3 fun tq sa Xa => spliced_more (ev_int Xa fun tr sb Xb => spliced_none (range_In Xb fun r sc t₁ u₁ v₁ Xc hr => ?_)))
  refine for_rangeC (b := false) (Cc := L + 1) (oc := oc) (v0 := v0) (N := (Dw, listOf (List.toArray []) 0) :: N0) hh Xc hoc ?_ 1 5 (by decide) (by decide) hr (fun i N' => ∃ ws, AllV IntV ws ((worths due).take i) ∧ N' = (Dw, listOf (List.toArray ws) i) :: N0) ⟨[], trivial, rfl⟩ ?_ ?_ (by kernel_rfl!) (by kernel_rfl!) (by kernel_rfl!)
  · intro q
    obtain ⟨p, hp, e⟩ := List.mem_map.mp q
    rcases List.mem_cons.mp hp with rfl | hp
    · exact hne _ hc e.symm
    · exact hN0 p hp e
  · rintro i t' oc' N₁ own g s4 hi hoc' ⟨ws, hws, rfl⟩ hmap hown X4 up
    have hwt := worths_take due hi
    refine wpAny_mono (k_step (os := os) (N := N0 ++ own) (fs := fs) (ef := ef) (ws := ws) (ew := i) (due := due) (k := 1 + i) (tk := t') (oc := oc') (wl := (worths due).take i) (s₀ := base s₀ g)
      (R := fun _ s' => ∃ oc' v' N', In false (base s₀ g) L (lawW a D W tw Dd B tb Df Dw) ((L + 1, oc') :: (N' ++ own)) s' ∧ oc'.data = .cell v' ∧ (∃ ws, AllV IntV ws ((worths due).take (i + 1)) ∧ N' = (Dw, listOf (List.toArray ws) (i + 1)) :: N0) ∧ N'.map (·.1) = ((Dw, listOf (List.toArray ws) i) :: N0).map (·.1))
      C hh hu (by omega) hs hlen hoc' X4 (List.mem_append_left _ hDf0) (hp0.mono fun q hq => List.mem_append_left _ hq) hws (by simp; omega) (hne _ hc) ?_ ?_) (fun f s' hf => ?_) fun _ _ e => e
    · intro p hp
      rcases List.mem_append.mp hp with hp | hp
      · exact hne p (hN0' p hp)
      · exact hown (Dw, listOf (List.toArray []) 0) (.head _) p hp
    · intro ws' s' hws' X'
      rw [← hwt] at hws'
      exact ⟨oc', _, (Dw, listOf (List.toArray ws') (i + 1)) :: N0, X', hoc', ⟨ws', hws', rfl⟩, rfl⟩
    · obtain ⟨rfl, hf⟩ := hf
      exact hf
  · rintro N' s' X' ⟨ws, hws, rfl⟩ _
    exact h Dw ws _ N0 s' hws hp0 hpd0 hDf0 hDd0 X'
end WC

set_option maxHeartbeats 4000000
namespace WC
open PySem PySem.W PySem.Calls PyProof.Rows
open PyProof

theorem intV_are : ∀ {vs : List Value} {wl : List Int}, AllV IntV vs wl → IntsAre vs wl
  | [], [], _ => .nil
  | [], _ :: _, h => h.elim
  | _ :: _, [], h => h.elim
  | _ :: _, _ :: _, ⟨⟨t, e⟩, h⟩ => by subst e; exact .cons _ t (intV_are h)
section
variable {b : Bool} {w : World} {A : Around} {E : Value → Shared → Prop} {s s₀ : Shared} {L D : Addr} {l : List (Str × Value)} {N : List (Addr × Obj)} {value slice : Expr} {Q : Value → Shared → Prop}
theorem slice_mid_In {items : List Value} {i j : Nat} {ui uj : Tok} (X : In b s₀ L l N s) (hl : s.heap.IsList D items.toArray) (hz : items.length ≤ 100000) (hij : i ≤ j) (hj : j ≤ items.length)
    (h : ∀ B s', In b s₀ L l ((B, listOf (List.toArray ((items.drop i).take (j - i))) 0) :: N) s' → Q (.ref B) s')
    (hs : subscripted slice false (.ref D) (.ref s.heap.objs.size) = operate [.ref s.heap.objs.size, .ref D] (getItem (.ref D) (.ref s.heap.objs.size)) := by with_unfolding_all rfl) (ht : ∀ r, letTemporaryGo value (.ref D) r = pure () := by intro _; with_unfolding_all rfl) :
    wpAny (model pw w) A (subscriptTail value slice (.ref D) (.ref s.heap.objs.size)) Q E { s with heap := s.heap.push { cls := .type "slice", data := .fields #[.int (i : Nat) ui, .int (j : Nat) uj, .none] } } := by
  obtain ⟨m, F, H⟩ := X.fr
  refine slice_list F X.nw hl (IsPart.int _ _) (IsPart.int _ _) (fun h' F' N' => ?_) hs ht (by simp; exact Nat.le_trans hz (by decide))
  rw [slicePick_run _ _ _ (by simpa using hj) hij] at N'
  refine h _ _ ⟨⟨m, F', H⟩, X.nd, ?_, X.os, X.drawn, X.gens⟩
  simpa using N'
theorem sum_In {vs : List Value} {wl : List Int} {e : Nat} (hh : A.handled = none) (X : In b s₀ L l N s) (hD : (D, listOf (List.toArray vs) e) ∈ N) (hw : AllV IntV vs wl)
    (h : ∀ t s', In b s₀ L l N s' → Q (.int wl.sum t) s') : wpAny (model pw w) A (call (.builtin "sum") [.ref D]) Q E s := by
  have hi := intV_are hw
  obtain ⟨xs, hxs⟩ := hi.allInts.items
  have hn := hi.numsOf
  refine sum_intListG hh (xs := xs) (hxs ▸ ⟨_, (X.nw _ hD).1, rfl, _, rfl⟩) fun h' tk t' hk => ?_
  have e1 : PySem.preSum (numAt xs) xs.size = wl.sum := by
    rw [preSum_eq, List.take_of_length_le (by simp), ← hn]
    rw [show vs = (intItems xs).toList from by rw [← hxs]]
    rw [nums_intItems]
  rw [e1]
  exact h t' _ (X.keeps hk rfl rfl (.refl _ _))
theorem muln_In {i k : Nat} {t u : Tok} (X : In b s₀ L l N s) (hi : i ≤ 10) (h : ∀ t' s', In b s₀ L l N s' → Q (.int ((i * k : Nat) : Int) t') s') : wpAny (model pw w) A (binaryOp .Mult (.int (i : Nat) t) (.int (k : Nat) u)) Q E s := by
  refine mul_int ?_ (mulOk (by omega) (by omega))
  have := h s.toks _ (X.toks (s.toks + 1))
  rw [show ((i : Nat) : Int) * ((k : Nat) : Int) = ((i * k : Nat) : Int) by simp]
  exact this
end
end WC

set_option maxHeartbeats 4000000
namespace WC
open PySem PySem.W PySem.Calls PyProof.Rows
open PyProof

noncomputable def iBody : List Stmt := forBody (((fbody (stI 18)).drop 7).headD default)
noncomputable def jBody : List Stmt := forBody (iBody.headD default)
noncomputable abbrev lawIJ (a D : Addr) (W : List Nat) (tw : Tok) (Dd : Addr) (B : List Nat) (tb : Tok) (Df Dw : Addr) (i j : Nat) (ti tj : Tok) : List (Str × Value) :=
  lawW a D W tw Dd B tb Df Dw ++ [(Str.ofString "i", .int (i : Nat) ti)] ++ [(Str.ofString "j", .int (j : Nat) tj)]

theorem j_step {w : World} {os : OsState} {A : Around} {s s₀ : Shared} {a D Dd Df Dw : Addr} {tw tb ti tj : Tok} {W B : List Nat} {N : List (Addr × Obj)} {L : Addr} {R : Shared → Prop} {ds ws : List Value} {ed ew i j : Nat} {due : List (Nat × Nat)}
    (C : Cx w os s₀.heap) (hh : A.handled = none) (hu : A.units + 65 < cLine) (hij : i < j) (hj : j < 5) (hst : stretch due i j = true)
    (X : In false s₀ L (lawIJ a D W tw Dd B tb Df Dw i j ti tj) N s) (hw : (Dw, listOf (List.toArray ws) ew) ∈ N) (hws : AllV IntV ws (worths due)) (hD : (Dd, listOf (List.toArray ds) ed) ∈ N) (hp : PairsN N ds due)
    (h : ∀ s', In false s₀ L (lawIJ a D W tw Dd B tb Df Dw i j ti tj) N s' → R s') :
    wpAny (model pw w) A (execs jBody (lenv L)) (fun f s' => f = .next ∧ R s') (fun _ _ => False) s := by
  have hwl : ws.length = 4 := hws.length
  have nd := X.nd
  have hsl : AllV IntV ((ws.drop i).take (j - i)) (((worths due).drop i).take (j - i)) := (hws.drop i).take (j - i)
  have hst' : (!decide ((((worths due).drop i).take (j - i)).sum < (((j - i) * (j - i + 1) / 2 : Nat) : Int)) && (decide ((((worths due).drop i).take (j - i)).sum = (((j - i) * (j - i + 1) / 2 : Nat) : Int)) == decide ((i, j + 1) ∈ due))) = true := hst
  generalize hsm : (((worths due).drop i).take (j - i)).sum = sm at hst'
  rw [Bool.and_eq_true] at hst'
  obtain ⟨hs1, hs2⟩ := hst'
  have hs1' : decide (sm < (((j - i) * (j - i + 1) / 2 : Nat) : Int)) = false := by simpa using hs1
  have hs2' : decide (sm = (((j - i) * (j - i + 1) / 2 : Nat) : Int)) = decide ((i, j + 1) ∈ due) := by simpa using hs2
  have hd4 : j - i ≤ 4 := by omega
  have hmul : (j - i) * (j - i + 1) ≤ 100000 := Nat.le_trans (Nat.mul_le_mul hd4 (Nat.succ_le_succ hd4)) (by decide)
  refine wpAny_execs_cons (wpAny_Assign_Name (wpAny_BinOp (wpAny_BinOp (wpAny_BinOp (evc_local X (.tail _ (.tail _ (.tail _ (.tail _ (.tail _ (.tail _ (.tail _ (.tail _ (.head _))))))))) (evc_local X (.tail _ (.tail _ (.tail _ (.tail _ (.tail _ (.tail _ (.tail _ (.head _)))))))) (subn_In (k := i) X rfl (by omega) fun t1 s1 X1 => ?_)))))))
  refine wpAny_BinOp (wpAny_BinOp (evc_local X1 (.tail _ (.tail _ (.tail _ (.tail _ (.tail _ (.tail _ (.tail _ (.tail _ (.head _))))))))) (evc_local X1 (.tail _ (.tail _ (.tail _ (.tail _ (.tail _ (.tail _ (.tail _ (.head _)))))))) (subn_In (k := i) X1 rfl (by omega) fun t2 s2 X2 => ev_int X2 fun t3 s3 X3 => addn_In (k := 1) X3 rfl fun t4 s4 X4 => muln_In X4 (by omega) fun t5 s5 X5 => ev_int X5 fun t6 s6 X6 => div2_In X6 hmul fun t7 s7 X7 => ?_))))
  refine stL X7 (.tail (by decide +kernel) (.tail (by decide +kernel) (.tail (by decide +kernel) (.tail (by decide +kernel) (.tail (by decide +kernel) (.tail (by decide +kernel) (.tail (by decide +kernel) (.tail (by decide +kernel) (.tail (by decide +kernel) .nil))))))))) fun s8 X8 => ?_
  refine wpAny_execs_cons (wpAny_If (isTrue_or (wpAny_isTrue_Compare1 (Call_ (ev_bltE (X8.cx C) (gl_sum w os) bb_sum nn_sum (callWith_builtin1 ?_ rfl (by kernel_rfl!)))))))
  refine spliced_more (Subscript_ (evc_local X8 (.tail _ (.tail _ (.tail _ (.tail _ (.tail _ (.tail _ (.head _))))))) (wpAny_Slice (evalPart_some_step (evc_local X8 (.tail _ (.tail _ (.tail _ (.tail _ (.tail _ (.tail _ (.tail _ (.head _)))))))) (evalPart_some_step (evc_local X8 (.tail _ (.tail _ (.tail _ (.tail _ (.tail _ (.tail _ (.tail _ (.tail _ (.head _))))))))) (evalPart_none_step ?_))))))))
  refine slice_mid_In X8 ⟨_, (X8.nw _ hw).1, rfl, _, rfl⟩ (by omega) (by omega) (by omega) fun B1 s9 X9 => spliced_none (sum_In hh X9 (.head _) hsl fun t9 s10 X10 => ?_)
  rw [hsm]
  refine evc_local X10 (.tail _ (.tail _ (.tail _ (.tail _ (.tail _ (.tail _ (.tail _ (.tail _ (.tail _ (.head _)))))))))) (lt_int (wpAny_truthy_bool ?_))
  rw [hs1']
  simp only [Bool.false_eq_true, if_false]
  refine isTrue_or (wpAny_isTrue_Compare1 (wpAny_Compare1 (Call_ (ev_bltE (X10.cx C) (gl_sum w os) bb_sum nn_sum (callWith_builtin1 ?_ rfl (by kernel_rfl!))))))
  refine spliced_more (Subscript_ (evc_local X10 (.tail _ (.tail _ (.tail _ (.tail _ (.tail _ (.tail _ (.head _))))))) (wpAny_Slice (evalPart_some_step (evc_local X10 (.tail _ (.tail _ (.tail _ (.tail _ (.tail _ (.tail _ (.tail _ (.head _)))))))) (evalPart_some_step (evc_local X10 (.tail _ (.tail _ (.tail _ (.tail _ (.tail _ (.tail _ (.tail _ (.tail _ (.head _))))))))) (evalPart_none_step ?_))))))))
  refine slice_mid_In X10 ⟨_, (X10.nw _ (.tail _ hw)).1, rfl, _, rfl⟩ (by omega) (by omega) (by omega) fun B2 s11 X11 => spliced_none (sum_In hh X11 (.head _) hsl fun t12 s12 X12 => ?_)
  rw [hsm]
  refine evc_local X12 (.tail _ (.tail _ (.tail _ (.tail _ (.tail _ (.tail _ (.tail _ (.tail _ (.tail _ (.head _)))))))))) (eq_int ?_)
  refine wpAny_Compare1 (Tuple_ (spliced_more (evc_local X12 (.tail _ (.tail _ (.tail _ (.tail _ (.tail _ (.tail _ (.tail _ (.head _)))))))) (spliced_more (wpAny_BinOp (evc_local X12 (.tail _ (.tail _ (.tail _ (.tail _ (.tail _ (.tail _ (.tail _ (.tail _ (.head _))))))))) (ev_int X12 fun t13 s13 X13 => addn_In (k := 1) X13 rfl fun t14 s14 X14 => spliced_none (new_tuple X14 fun T s15 hT X15 => ?_))))))))
  refine evc_local X15 (.tail _ (.tail _ (.tail _ (.head _)))) (in_pairs (p := (i, j + 1)) X15 hu (.head _) (.tail _ (.tail _ (.tail _ hD))) (hp.mono fun q hq => .tail _ (.tail _ (.tail _ hq))) (ne_bool (wpAny_truthy_bool ?_)))
  rw [show (sm == (((j - i) * (j - i + 1) / 2 : Nat) : Int)) = decide ((i, j + 1) ∈ due) by rw [← hs2']; rfl]
  simp only [bne_self_eq_false, Bool.false_eq_true, if_false]
  refine isTrue_or_nil ?_
  simp only [Bool.false_eq_true, if_false]
  refine wpAny_execs_nil (wpAny_execs_nil ⟨rfl, h _ ((X15.names (l' := lawIJ a D W tw Dd B tb Df Dw i j ti tj) (fun p hp => List.mem_append_left [_] hp) nd).news fun q hq => .tail _ (.tail _ (.tail _ hq)))⟩)
end WC

set_option maxHeartbeats 4000000
namespace WC
open PySem PySem.W PySem.Calls PyProof.Rows
open PyProof

theorem lawW_off {a D : Addr} {W : List Nat} {tw : Tok} {Dd : Addr} {B : List Nat} {tb : Tok} {Df Dw : Addr} {x : Str} (hx : x = Str.ofString "i" ∨ x = Str.ofString "j") : ∀ p ∈ lawW a D W tw Dd B tb Df Dw, p.1 ≠ x := by
  have h : ∀ y ∈ [Str.ofString "script", Str.ofString "numbers", Str.ofString "written", Str.ofString "due", Str.ofString "bare", Str.ofString "folders", Str.ofString "worth"], y ≠ Str.ofString "i" ∧ y ≠ Str.ofString "j" := by decide +kernel
  intro p hp e
  have : p.1 ∈ (lawW a D W tw Dd B tb Df Dw).map (·.1) := List.mem_map.mpr ⟨p, hp, rfl⟩
  have h2 := h p.1 this
  rcases hx with rfl | rfl
  · exact h2.1 e
  · exact h2.2 e

/-- the stretches, and the last word -/
theorem law_7 {w : World} {os : OsState} {A : Around} {s s₀ : Shared} {a D Dd Df Dw : Addr} {tw tb : Tok} {W B : List Nat} {N : List (Addr × Obj)} {L : Addr} {Q : Flow → Shared → Prop} {fs ds ws : List Value} {ef ed ew : Nat} {due : List (Nat × Nat)}
    (C : Cx w os s₀.heap) (hh : A.handled = none) (hu : A.units + 65 < cLine) (hst : ∀ i j, i < 4 → i < j → j < 5 → stretch due i j = true)
    (X : In false s₀ L (lawW a D W tw Dd B tb Df Dw) ((Dw, listOf (List.toArray ws) ew) :: N) s) (hws : AllV IntV ws (worths due)) (hDf : (Df, listOf (List.toArray fs) ef) ∈ N) (hp : PairsN N fs due) (hDd : (Dd, listOf (List.toArray ds) ed) ∈ N) (hpd : PairsN N ds due)
    (h : ∀ s', KpG false s₀ s' → Q (.ret (.bool true)) s') :
    wpAny (model pw w) A (execs ((fbody (stI 18)).drop 7) (lenv L)) Q (fun _ _ => False) s := by
  generalize hN1 : (Dw, listOf (List.toArray ws) ew) :: N = N1 at X
  have hw1 : (Dw, listOf (List.toArray ws) ew) ∈ N1 := hN1 ▸ .head _
  have hDf1 : (Df, listOf (List.toArray fs) ef) ∈ N1 := hN1 ▸ .tail _ hDf
  have hDd1 : (Dd, listOf (List.toArray ds) ed) ∈ N1 := hN1 ▸ .tail _ hDd
  have hp1 : PairsN N1 fs due := hp.mono fun q hq => hN1 ▸ .tail _ hq
  have hpd1 : PairsN N1 ds due := hpd.mono fun q hq => hN1 ▸ .tail _ hq
  clear hN1
  refine wpAny_execs_cons (wpAny_For (Call_ (ev_bltE (X.cx C) (gl_range w os) bb_range nn_range (callWith_type1 ?_ rfl (by kernel_rfl!)))))
  refine spliced_more (ev_int X fun tq sa Xa => spliced_none (range1_In Xa fun r sc t₁ u₁ v₁ Xc hr => ?_))
  refine for_rangeE (b := false) hh Xc 0 4 (by decide) (by decide) hr (fun _ l' N' => l' = lawW a D W tw Dd B tb Df Dw ∧ N' = N1) ⟨rfl, rfl⟩ (lawW_off (.inl rfl)) ?_ ?_ rfl (by kernel_rfl!) (by kernel_rfl!)
  · rintro i ti l₁ N₁ own g s4 hi ⟨rfl, rfl⟩ _ _ hown X4 up4
    refine wpAny_execs_cons (wpAny_For (Call_ (ev_bltE (X4.cx (s₀ := base s₀ g) C) (gl_range w os) bb_range nn_range (callWith_type1 ?_ rfl (by kernel_rfl!)))))
    refine spliced_more (wpAny_BinOp (evc_local X4 (.tail _ (.tail _ (.tail _ (.tail _ (.tail _ (.tail _ (.tail _ (.head _)))))))) (ev_int X4 fun tr s5 X5 => addn_In (k := 1) X5 rfl fun tt s6 X6 => ?_)))
    refine spliced_more (ev_int X6 fun tu s7 X7 => spliced_none (range_In X7 fun r2 s8 t₂ u₂ v₂ X8 hr2 => ?_))
    refine for_rangeE (b := false) (s₀ := base s₀ g) hh X8 (0 + i + 1) 5 (by omega) (by decide) hr2 (fun _ l' N' => l' = lawW a D W tw Dd B tb Df Dw ++ [(Str.ofString "i", .int ((0 + i : Nat) : Int) ti)] ∧ N' = N₁ ++ own) ⟨rfl, rfl⟩ ?_ ?_ ?_ rfl (by kernel_rfl!) (by kernel_rfl!)
    · intro p hp e
      rcases List.mem_append.mp hp with hp | hp
      · exact lawW_off (.inr rfl) p hp e
      · rw [List.mem_singleton.mp hp] at e
        exact (by decide +kernel : Str.ofString "i" ≠ Str.ofString "j") e
    · rintro j tj l₂ N₂ own2 g2 s9 hj ⟨rfl, rfl⟩ _ hl2 _ X9 up9
      refine wpAny_mono (j_step (os := os) (s₀ := base (base s₀ g) g2) (i := 0 + i) (j := 0 + i + 1 + j) (ti := ti) (tj := tj) (ds := ds) (ws := ws) (ed := ed) (ew := ew) (due := due) (N := N₁ ++ own ++ own2)
        (R := fun s' => In false (base (base s₀ g) g2) L (lawIJ a D W tw Dd B tb Df Dw (0 + i) (0 + i + 1 + j) ti tj) (N₁ ++ own ++ own2) s')
        C hh hu (by omega) (by omega) (hst _ _ (by omega) (by omega) (by omega)) X9 (List.mem_append_left _ (List.mem_append_left _ hw1)) hws (List.mem_append_left _ (List.mem_append_left _ hDd1)) (hpd1.mono fun q hq => List.mem_append_left _ (List.mem_append_left _ hq)) fun _ Y => Y) (fun f s' hf => ?_) fun _ _ e => e
      obtain ⟨rfl, Y⟩ := hf
      refine ⟨_, N₁ ++ own, Y.names (l' := lawW a D W tw Dd B tb Df Dw ++ [(Str.ofString "i", .int ((0 + i : Nat) : Int) ti)]) (fun p hp => List.mem_append_left _ hp) X8.nd, ⟨rfl, rfl⟩, hl2, rfl⟩
    · rintro l' N' s9 X9 ⟨rfl, rfl⟩ _
      refine wpAny_execs_nil ?_
      exact ⟨_, N₁, X9.names (l' := lawW a D W tw Dd B tb Df Dw) (fun p hp => List.mem_append_left _ hp) X.nd, ⟨rfl, rfl⟩, lawW_off (.inl rfl), rfl⟩
  · rintro l' N' s4 X4 ⟨rfl, rfl⟩ _
    refine wpAny_execs_cons (wpAny_Return_some (wpAny_Compare1 (evc_local X4 (.tail _ (.tail _ (.tail _ (.tail _ (.tail _ (.head _)))))) (evc_local X4 (.tail _ (.tail _ (.tail _ (.head _)))) (eq_pairs X4 hu hDf1 hp1 hDd1 hpd1 ?_)))))
    rw [decide_eq_true rfl]
    exact h s4 X4.kp
end WC

set_option maxHeartbeats 4000000
namespace WC
open PySem PySem.W PySem.Calls PyProof.Rows
open PyProof

theorem law_call : LawCall := by
  intro w os s₁ G hk hg ns a items hz hl hi
  have C : Cx w os s₁.heap := ⟨G, hk⟩
  refine enter_law (n := 9) C room_caller fun s₂ o ho X R => ?_
  obtain ⟨due, P⟩ := plain (numsOf ns) (numsOf_len ns)
  have hh := R.handled
  have hT : (toldList (bareOf (writ (numsOf ns)))).length = 4 := P.told_len
  have hun := R.units
  refine law_1 C R X hl hi hz fun D vs e s₃ hv X₃ => ?_
  refine law_2 (n := 8) C R X₃ hv (numsOf_len ns) P.hdue fun tw Dd ds ed M s₄ hp X₄ => ?_
  refine law_3 (n := 7) C R X₄ P.writ_ok P.writ_len fun tb s₅ X₅ => ?_
  refine law_4 (n := 4) C R X₅ P.bare_92 P.bare_len (by rw [hT]; decide) (by rw [hT]; decide) P.told fun Df fs ef M' s₆ hp' X₆ => ?_
  refine law_5 (n := 9) (vs := vs) (e := e) (nums := numsOf ns) C R X₆ (.tail _ (List.mem_append_right _ (.tail _ (List.mem_append_right _ (.head _))))) hv (numsOf_len ns) P.bare_len P.parts P.names fun s₇ X₇ => ?_
  refine law_6 (os := os) (fs := fs) (ef := ef) (ds := ds) (ed := ed) (due := due) (oc := o) (v0 := none) C hh ?_ P.small (by rw [P.len]; decide) X₇ (.tail _ (List.mem_append_right _ (.tail _ (List.mem_append_right _ (.tail _ (.head _)))))) ho (.head _) (hp'.mono fun q hq => .tail _ (List.mem_append_left _ hq)) (.tail _ (List.mem_append_right _ (.head _))) (hp.mono fun q hq => .tail _ (List.mem_append_right _ (.tail _ (List.mem_append_left _ hq)))) fun Dw ws ew N0 s₈ hws hq1 hq2 hm1 hm2 X₈ => ?_
  · show _ + 1 < 9900
    omega
  refine law_7 (os := os) C hh (by show _ < 9900; omega) P.worth X₈ hws hm1 hq1 hm2 hq2 fun s₉ k => ?_
  refine ⟨rfl, fun b o e => k.keep b o e, k.os, ?_⟩
  have hk2 : GenLe s₁.gens s₉.gens := k.gens
  exact hk2.2 (by rw [hg]; intro i hi; simp at hi)
end WC


theorem PySem.Challenge.cw_wc0013_01_holds : PySem.Challenge.rw_wc0013_01.Holds := by
  exact WC.the_rest WC.law_call
