import PyProof.Rows.All
import Wide.All
import OpenK.AllK
import Wide.FinOn
import Lean
import PySem.Challenge.RW_qb0001_01
set_option Elab.async false
set_option linter.unusedVariables false
set_option linter.unusedSectionVars false
set_option linter.unusedSimpArgs false

section
open PySem PySem.W PyProof.Rows
set_option Elab.async false
namespace Mine
theorem ite_t {c : Bool} {a b : Prop} (h : c = true) (x : a) : if c = true then a else b := by rw [if_pos h]; exact x
theorem ite_f {c : Bool} {a b : Prop} (h : c = false) (x : b) : if c = true then a else b := by rw [if_neg (by rw [h]; exact Bool.false_ne_true)]; exact x
theorem wpAny_gen {M : Model} {α : Type} {A : Around} {E : Value → Shared → Prop} {s : Shared} {c : Sem α} {R : α → Shared → Prop} (h : ∀ Q, (∀ f s, R f s → Q f s) → wpAny M A c Q E s) : wpAny M A c R E s := h R fun _ _ x => x
/-! keys: ints, strs, tuples of these -/
abbrev Atom := Int ⊕ Str
def atomIs : Atom → Value → Bool
  | .inl i, v => Value.isInt i v
  | .inr x, v => Value.isStrOf x v
theorem atomIs_shape {k : Atom} {v : Value} (h : atomIs k v = true) : (∃ i t, k = .inl i ∧ v = .int i t) ∨ (∃ x t, k = .inr x ∧ v = .str x t) := by
  cases k with
  | inl i => obtain ⟨t, rfl⟩ := Value.isInt_shape h; exact .inl ⟨i, t, rfl, rfl⟩
  | inr x => obtain ⟨t, rfl⟩ := Value.isStrOf_shape h; exact .inr ⟨x, t, rfl, rfl⟩
def atomKind (prog : Program) (w : World) : KeyKind prog w Atom where
  is := atomIs
  hash := fun k => match k with | .inl i => hashInt i | .inr x => hashStr w x
  inj := fun v a b ha hb => by
    rcases atomIs_shape ha with ⟨i, t, rfl, rfl⟩ | ⟨x, t, rfl, rfl⟩
    · rcases atomIs_shape hb with ⟨j, u, rfl, e⟩ | ⟨y, u, rfl, e⟩
      · injection e with e1 e2; rw [e1]
      · injection e
    · rcases atomIs_shape hb with ⟨j, u, rfl, e⟩ | ⟨y, u, rfl, e⟩
      · injection e
      · injection e with e1 e2; rw [e1]
  byValue := fun k v h => by
    rcases atomIs_shape h with ⟨i, t, rfl, rfl⟩ | ⟨x, t, rfl, rfl⟩ <;> rfl
  pyHash := fun hv h => by
    rcases atomIs_shape hv with ⟨i, t, rfl, rfl⟩ | ⟨x, t, rfl, rfl⟩
    · exact wpAny_pyHash_int h
    · exact wpAny_pyHash_str h
  eqBool := fun {A E s a b u v Q} hu hv h => by
    rcases atomIs_shape hu with ⟨i, t, rfl, rfl⟩ | ⟨x, t, rfl, rfl⟩ <;> rcases atomIs_shape hv with ⟨j, t', rfl, rfl⟩ | ⟨y, t', rfl, rfl⟩
    · exact (intKind prog w).eqBool (a := i) (b := j) hu hv (by simpa using h)
    · exact PySem.SeqAt.EqAt.int_str i t y t' prog w E Q (by simpa using h)
    · exact PySem.SeqAt.EqAt.str_int x t j t' prog w E Q (by simpa using h)
    · exact wpAny_eqBool_str (by simpa using h)
  «strs» := fun k x t v h => by
    rcases atomIs_shape h with ⟨i, u, rfl, e⟩ | ⟨y, u, rfl, e⟩
    · injection e
    · injection e with e1 e2; subst e1; cases v <;> rfl
inductive Key where
  | at (k : Atom)
  | tp (ks : List Atom)
  deriving DecidableEq
def KeyH (prog : Program) (w : World) (h : Heap) : Key → Value → Prop
  | .at k, v => atomIs k v = true
  | .tp ks, v => ∃ a, v = .ref a ∧ IsTupleKey (atomKind prog w) h ks a
def keyHash (prog : Program) (w : World) : Key → Int
  | .at k => (atomKind prog w).hash k
  | .tp ks => tupleKeyHash (atomKind prog w) ks
def keyDraws : Key → Nat
  | .at _ => 1
  | .tp ks => ks.length + 1
section
variable {prog : Program} {w : World} {A : Around} {E : Value → Shared → Prop} {s : Shared}
theorem keyH_hash {k : Key} {v : Value} {Q : Int → Shared → Prop} (hu : A.units < cLine) (hk : KeyH prog w s.heap k v)
    (h : Q (keyHash prog w k) { s with toks := s.toks + keyDraws k }) : wpAny (model prog w) A (pyHash v) Q E s := by
  cases k with
  | «at» k => exact (atomKind prog w).pyHash (k := k) hk h
  | tp ks => obtain ⟨a, rfl, ht⟩ := hk; exact wpAny_pyHash_tuple hu ht h
theorem isTuple_of {h : Heap} {ks : List Atom} {a : Addr} (x : IsTupleKey (atomKind prog w) h ks a) : ∃ items, h.IsTuple a items :=
  let ⟨o, items, n, ho, hc, hd, _⟩ := x; ⟨items, o, ho, hc, n, hd⟩
theorem keyH_eq {x y : Key} {u v : Value} {Q : Bool → Shared → Prop} (hu : A.units < cLine) (hx : KeyH prog w s.heap x u) (hy : KeyH prog w s.heap y v)
    (h : Q (decide (x = y)) s) : wpAny (model prog w) A (eqBool u v) Q E s := by
  cases x with
  | «at» k =>
    cases y with
    | «at» k' => exact (atomKind prog w).eqBool (a := k) (b := k') hx hy (by simpa using h)
    | tp ks =>
      obtain ⟨a, rfl, ht⟩ := hy
      obtain ⟨items, hi⟩ := isTuple_of ht
      rcases atomIs_shape hx with ⟨i, t, rfl, rfl⟩ | ⟨x, t, rfl, rfl⟩
      · exact PySem.SeqAt.EqAt.int_tuple i t hi hu prog w E Q (by simpa using h)
      · exact PySem.SeqAt.EqAt.str_tuple x t hi hu prog w E Q (by simpa using h)
  | tp ks =>
    obtain ⟨a, rfl, ht⟩ := hx
    obtain ⟨items, hi⟩ := isTuple_of ht
    cases y with
    | «at» k' =>
      rcases atomIs_shape hy with ⟨i, t, rfl, rfl⟩ | ⟨x, t, rfl, rfl⟩
      · exact PySem.SeqAt.EqAt.tuple_int i t hi hu prog w E Q (by simpa using h)
      · exact PySem.SeqAt.EqAt.tuple_str x t hi hu prog w E Q (by simpa using h)
    | tp ks' =>
      obtain ⟨b, rfl, ht'⟩ := hy
      exact wpAny_eqBool_tuple hu ht ht' (by simpa using h)
theorem keyH_quiet {k : Key} {v : Value} {Q : Bool → Shared → Prop} (hk : KeyH prog w s.heap k v) (h : Q true s) : wpAny (model prog w) A (eqIsQuiet 8 v) Q E s := by
  cases k with
  | «at» k => rw [eqIsQuiet_byValue 8 ((atomKind prog w).byValue k v hk)]; exact wpAny_pure h
  | tp ks => obtain ⟨a, rfl, ht⟩ := hk; exact wpAny_eqIsQuiet_tuple ht h
theorem keyH_inj {h : Heap} {x y : Key} {v : Value} (hx : KeyH prog w h x v) (hy : KeyH prog w h y v) : x = y := by
  cases x with
  | «at» k =>
    cases y with
    | «at» k' => rw [(atomKind prog w).inj v k k' hx hy]
    | tp ks => obtain ⟨a, rfl, ht⟩ := hy; rcases atomIs_shape hx with ⟨i, t, rfl, e⟩ | ⟨x, t, rfl, e⟩ <;> injection e
  | tp ks =>
    obtain ⟨a, rfl, ht⟩ := hx
    cases y with
    | «at» k' => rcases atomIs_shape hy with ⟨i, t, rfl, e⟩ | ⟨x, t, rfl, e⟩ <;> injection e
    | tp ks' => obtain ⟨b, e, ht'⟩ := hy; injection e with e; subst e; rw [ht.inj ht']
theorem keyH_mono {h h' : Heap} {k : Key} {v : Value} (hk : KeyH prog w h k v) (hs : ∀ a o, v = .ref a → h.get? a = some o → h'.get? a = some o) : KeyH prog w h' k v := by
  cases k with
  | «at» k => exact hk
  | tp ks => obtain ⟨a, rfl, o, items, n, ho, r⟩ := hk; exact ⟨a, rfl, o, items, n, hs a o rfl ho, r⟩
theorem keyH_str {h : Heap} {k : Key} {x : Str} {t : Tok} (hk : KeyH prog w h k (.str x t)) : k = .at (.inr x) := by
  cases k with
  | «at» k =>
    rcases atomIs_shape hk with ⟨i, u, rfl, e⟩ | ⟨y, u, rfl, e⟩
    · injection e
    · injection e with e1; rw [e1]
  | tp ks => obtain ⟨a, e, _⟩ := hk; injection e
theorem keyH_isStr {h : Heap} {k : Key} {v : Value} {x : Str} (hk : KeyH prog w h k v) (he : isExactStrKey v = true) : v.isStr x = decide (k = .at (.inr x)) := by
  cases v with
  | str y t => rw [keyH_str hk]; simp [Value.isStr, BEq.beq]
  | _ => simp [isExactStrKey] at he
end
end Mine
end

section
open PySem PySem.W PyProof.Rows
set_option Elab.async false
namespace Mine
abbrev KVs := List (Key × Value × Value)
def ent (prog : Program) (w : World) (x : Key × Value × Value) : DictEntry := ⟨keyHash prog w x.1, x.2.1, x.2.2⟩
theorem nodup_idx {α : Type} {l : List α} (hn : l.Nodup) : ∀ {i j : Nat} (hi : i < l.length) (hj : j < l.length), l[i] = l[j] → i = j := by
  intro i j hi hj e
  rcases Nat.lt_trichotomy i j with h | h | h
  · exact absurd e (List.pairwise_iff_getElem.mp hn i j hi hj h)
  · exact h
  · exact absurd e.symm (List.pairwise_iff_getElem.mp hn j i hj hi h)
theorem kv_unique {xs : KVs} (hn : (xs.map (·.1)).Nodup) : ∀ {i j : Nat} {k : Key} {p q : Value × Value}, xs[i]? = some (k, p) → xs[j]? = some (k, q) → i = j := by
  intro i j k p q hi hj
  have hi' : (xs.map (·.1))[i]? = some k := by rw [List.getElem?_map, hi]; rfl
  have hj' : (xs.map (·.1))[j]? = some k := by rw [List.getElem?_map, hj]; rfl
  obtain ⟨h1, e1⟩ := List.getElem?_eq_some_iff.mp hi'
  obtain ⟨h2, e2⟩ := List.getElem?_eq_some_iff.mp hj'
  exact nodup_idx hn h1 h2 (e1.trans e2.symm)
section
variable {prog : Program} {w : World} {A : Around} {E : Value → Shared → Prop} {s : Shared}
theorem ent_at {es : Array DictEntry} {xs : KVs} (he : es.toList = xs.map (ent prog w)) (j : Nat) : es[j]? = (xs[j]?).map (ent prog w) := by
  rw [← Array.getElem?_toList, he, List.getElem?_map]
theorem ent_size {es : Array DictEntry} {xs : KVs} (he : es.toList = xs.map (ent prog w)) : es.size = xs.length := by
  rw [← Array.length_toList, he, List.length_map]
theorem mayTell_quiet {v : Value} {k : Key} {stored : List Value} {Q : Bool → Shared → Prop} (hkey : KeyH prog w s.heap k v)
    (hst : ∀ u ∈ stored, ∃ k', KeyH prog w s.heap k' u) (h : Q false s) : wpAny (model prog w) A (tableMayTell v stored) Q E s := by
  unfold tableMayTell
  split
  · exact wpAny_pure h
  · refine wpAny_bind (keyH_quiet hkey ?_)
    simp only [Bool.not_true, Bool.false_eq_true, if_false]
    refine wpAny_bind ?_
    refine wpAny_forIn_list _ (fun rest r s' => s' = s ∧ r = (none, ()) ∧ ∀ v ∈ rest, ∃ k', KeyH prog w s.heap k' v) _ ?_ ?_ _ _ ⟨rfl, rfl, hst⟩
    · rintro x rest r s' ⟨rfl, rfl, hr⟩
      obtain ⟨k', hb⟩ := hr x List.mem_cons_self
      refine wpAny_bind (keyH_quiet hb ?_)
      simp only [Bool.not_true, Bool.false_eq_true, if_false]
      exact wpAny_pure ⟨rfl, rfl, fun v hv => hr v (List.mem_cons_of_mem _ hv)⟩
    · rintro r s' ⟨rfl, rfl, _⟩
      exact wpAny_pure h
theorem has_key {es : Array DictEntry} {xs : KVs} {k : Key} (he : es.toList = xs.map (ent prog w)) (j : Nat) (p : Value × Value) (hj : xs[j]? = some (k, p)) : ((es[j]?.map (·.hash)) == some (keyHash prog w k)) = true := by
  rw [ent_at he j, hj]
  simp [ent]
theorem ent_mem {es : Array DictEntry} {xs : KVs} (he : es.toList = xs.map (ent prog w)) : ∀ e ∈ es, ∃ x ∈ xs, e = ent prog w x := by
  intro e hin
  have : e ∈ xs.map (ent prog w) := he ▸ Array.mem_toList_iff.mpr hin
  obtain ⟨x, hx, rfl⟩ := List.mem_map.mp this
  exact ⟨x, hx, rfl⟩
theorem below {es : Array DictEntry} {xs : KVs} {j : Nat} {y : Key × Value × Value} (he : es.toList = xs.map (ent prog w)) (hj : xs[j]? = some y) : j < es.size := by
  rw [ent_size he]
  rcases Nat.lt_or_ge j xs.length with h' | h'
  · exact h'
  · rw [List.getElem?_eq_none h'] at hj; exact nomatch hj
/-- the places with k's hash, from i on -/
abbrev placesK (prog : Program) (w : World) (es : Array DictEntry) (k : Key) (i : Nat) : List Nat := (List.range' i (es.size - i)).filter (fun i => (es[i]?.map (·.hash)) == some (keyHash prog w k))
theorem places_cons {es : Array DictEntry} {xs : KVs} {k : Key} {i x : Nat} {rest : List Nat} (he : es.toList = xs.map (ent prog w)) (hr : x :: rest = placesK prog w es k i) :
    i ≤ x ∧ x < es.size ∧ rest = placesK prog w es k (x + 1) ∧ (∃ k' p, xs[x]? = some (k', p)) ∧ ∀ (j : Nat) (p : Value × Value), i ≤ j → j < x → xs[j]? ≠ some (k, p) := by
  obtain ⟨hix, hxn, hpx, hskip, hrest⟩ := filter_range'_cons _ _ _ _ _ hr.symm
  have hlt : x < es.size := by omega
  refine ⟨hix, hlt, by rw [hrest]; congr 2; omega, ?_, fun j p h hjx hj => ?_⟩
  · have hl : x < xs.length := by rw [← ent_size he]; exact hlt
    exact ⟨xs[x].1, xs[x].2, List.getElem?_eq_getElem hl⟩
  · have := hskip j h hjx
    rw [has_key he j p hj] at this
    exact absurd this (by decide)
theorem places_nil {es : Array DictEntry} {xs : KVs} {k : Key} {i j : Nat} {p : Value × Value} (he : es.toList = xs.map (ent prog w)) (hr : [] = placesK prog w es k i) (h : i ≤ j) : xs[j]? ≠ some (k, p) := fun hj => by
  have hjl := below he hj
  have := List.filter_eq_nil_iff.mp hr.symm j (List.mem_range'_1.mpr ⟨h, by omega⟩)
  rw [has_key he j p hj] at this
  exact absurd this (by decide)
theorem ent_here {es : Array DictEntry} {xs : KVs} {k' : Key} {x : Nat} {p : Value × Value} (he : es.toList = xs.map (ent prog w)) (hkv : xs[x]? = some (k', p)) : es[x]? = some ⟨keyHash prog w k', p.1, p.2⟩ := by rw [ent_at he x, hkv]; rfl
/-- the turns of a search for k among these places -/
theorem find_loop {M : Model} {es : Array DictEntry} {xs : KVs} {k : Key} {f : Nat → (Option (Option Nat) × Option Nat) → Sem (ForInStep (Option (Option Nat) × Option Nat))} {Q : (Option (Option Nat) × Option Nat) → Shared → Prop} (he : es.toList = xs.map (ent prog w)) (hn : (xs.map (·.1)).Nodup)
    (other : ∀ (x : Nat) k' p hit (R : ForInStep (Option (Option Nat) × Option Nat) → Shared → Prop), xs[x]? = some (k', p) → k' ≠ k → R (.yield (none, hit)) s → wpAny M A (f x (none, hit)) R E s)
    (same : ∀ (x : Nat) p (R : ForInStep (Option (Option Nat) × Option Nat) → Shared → Prop), xs[x]? = some (k, p) → R (.done (some (some x), none)) s → R (.yield (none, some x)) s → wpAny M A (f x (none, none)) R E s)
    (hd : ∀ (x : Nat) p, xs[x]? = some (k, p) → Q (some (some x), none) s) (hy : ∀ (x : Nat) p, xs[x]? = some (k, p) → Q (none, some x) s) (h0 : (∀ (j : Nat) (p : Value × Value), xs[j]? ≠ some (k, p)) → Q (none, none) s) :
    wpAny M A (forIn (placesWithHash es.size (fun i => es[i]?.map (·.hash)) (keyHash prog w k)) (none, none) f) Q E s := by
  refine wpAny_forIn_list _
    (fun rest b s' => s' = s ∧ ∃ i hit, b = (none, hit) ∧ rest = placesK prog w es k i ∧
      ((hit = none ∧ ∀ (j : Nat) (p : Value × Value), j < i → xs[j]? ≠ some (k, p)) ∨ ∃ (j : Nat) (p : Value × Value), hit = some j ∧ j < i ∧ xs[j]? = some (k, p))) _ ?_ ?_ _ _
    ⟨rfl, 0, none, rfl, by rw [placesK, placesWithHash, List.range_eq_range', Nat.sub_zero], .inl ⟨rfl, fun _ _ h => absurd h (Nat.not_lt_zero _)⟩⟩
  · rintro x rest b s' ⟨rfl, i, hit, rfl, hr, hH⟩
    obtain ⟨hix, hlt, hrest, ⟨k', p, hkv⟩, hskip⟩ := places_cons he hr
    by_cases hkk : k' = k
    · subst hkk
      rcases hH with ⟨rfl, hno⟩ | ⟨j, q, _, hji, hj⟩
      · exact same x p _ hkv (hd x p hkv) ⟨rfl, x + 1, some x, rfl, hrest, .inr ⟨x, p, rfl, Nat.lt_succ_self x, hkv⟩⟩
      · have := kv_unique hn hj hkv
        omega
    · refine other x k' p hit _ hkv hkk ⟨rfl, x + 1, hit, rfl, hrest, ?_⟩
      rcases hH with ⟨h0, hno⟩ | ⟨j, q, h1, hji, hj⟩
      · refine .inl ⟨h0, fun j q hjx hj => ?_⟩
        rcases Nat.lt_or_ge j i with h | h
        · exact hno j q h hj
        · rcases Nat.lt_or_ge j x with h2 | h2
          · exact hskip j q h h2 hj
          · have hjx' : j = x := by omega
            rw [hjx', hkv] at hj
            injection hj with hj
            injection hj with hj
            exact hkk hj
      · exact .inr ⟨j, q, h1, by omega, hj⟩
  · rintro b s' ⟨rfl, i, hit, rfl, hr, hH⟩
    rcases hH with ⟨rfl, hno⟩ | ⟨j, p, rfl, _, hj⟩
    · refine h0 fun j p => ?_
      rcases Nat.lt_or_ge j i with h | h
      · exact hno j p h
      · exact places_nil he hr h
    · exact hy j p hj
section
variable {d : Addr} {o : Obj} {es : Array DictEntry} {ep : Nat} {xs : KVs} {k : Key} {v : Value} {Q : Option Nat → Shared → Prop}
theorem find_plain (hu : A.units < cLine) (hkey : KeyH prog w s.heap k v)
    (ho : s.heap.get? d = some o) (hd : o.data = .dict es ep) (he : es.toList = xs.map (ent prog w)) (his : ∀ x ∈ xs, KeyH prog w s.heap x.1 x.2.1)
    (hnone : (∀ (j : Nat) (p : Value × Value), xs[j]? ≠ some (k, p)) → Q none s) (hsome : ∀ (j : Nat) (p : Value × Value), xs[j]? = some (k, p) → Q (some j) s) :
    wpAny (model prog w) A (dictWalkPlain d v (keyHash prog w k) es (placesWithHash es.size (fun i => es[i]?.map (·.hash)) (keyHash prog w k))) Q E s := by
  unfold dictWalkPlain
  refine wpAny_bind ?_
  refine wpAny_forIn_list _
    (fun rest b s' => s' = s ∧ b = (none, ()) ∧ ∃ i, rest = placesK prog w es k i ∧ ∀ (j : Nat) (p : Value × Value), j < i → xs[j]? ≠ some (k, p)) _ ?_ ?_ _ _
    ⟨rfl, rfl, 0, by rw [placesK, placesWithHash, List.range_eq_range', Nat.sub_zero], fun _ _ h => absurd h (Nat.not_lt_zero _)⟩
  · rintro x rest b s' ⟨rfl, rfl, i, hr, hH⟩
    obtain ⟨hix, hlt, hrest, ⟨k', ⟨b, v'⟩, hkv⟩, hskip⟩ := places_cons he hr
    have hib : KeyH prog w s'.heap k' b := his _ (List.mem_of_getElem? hkv)
    have hstay : ¬ k' = k → ∀ (j : Nat) (p : Value × Value), j < x + 1 → xs[j]? ≠ some (k, p) := by
      intro hne j p hjx hj
      rcases Nat.lt_or_ge j i with h | h
      · exact hH j p h hj
      · rcases Nat.lt_or_ge j x with h2 | h2
        · exact hskip j p h h2 hj
        · have hjx' : j = x := by omega
          rw [hjx', hkv] at hj
          injection hj with hj
          injection hj with hj
          exact hne hj
    rw [ent_here he hkv]
    dsimp only
    by_cases hh : (keyHash prog w k' == keyHash prog w k) = true
    · rw [if_pos hh]
      refine wpAny_bind (wpAny_dictEpoch ho hd (wpAny_bind (keyH_eq (x := k') (y := k) hu hib hkey (wpAny_bind (wpAny_dictEpoch ho hd ?_)))))
      show wpAny _ _ (if (ep != ep) = true then _ else _) _ E _
      rw [if_neg (by simp)]
      by_cases hkk : k' = k
      · rw [decide_eq_true hkk]
        subst hkk
        rw [if_pos rfl]
        exact wpAny_bind (wpAny_rule (wpAny_pure (wpAny_pure (hsome x _ hkv))))
      · rw [decide_eq_false hkk]
        simp only [Bool.false_eq_true, if_false]
        refine wpAny_bind (wpAny_rule ?_)
        exact wpAny_pure ⟨rfl, rfl, x + 1, hrest, hstay hkk⟩
    · rw [if_neg hh]
      refine wpAny_pure ⟨rfl, rfl, x + 1, hrest, hstay ?_⟩
      intro hkk
      rw [hkk] at hh; simp at hh
  · rintro b s' ⟨rfl, rfl, i, hr, hno⟩
    refine wpAny_pure (hnone fun j p => ?_)
    rcases Nat.lt_or_ge j i with h | h
    · exact hno j p h
    · exact places_nil he hr h
theorem find_byval {x : Str} {t : Tok} (hu : A.units < cLine) (hkey : KeyH prog w s.heap k (.str x t))
    (ho : s.heap.get? d = some o) (hd : o.data = .dict es ep) (he : es.toList = xs.map (ent prog w)) (his : ∀ x ∈ xs, KeyH prog w s.heap x.1 x.2.1)
    (hnone : (∀ (j : Nat) (p : Value × Value), xs[j]? ≠ some (k, p)) → Q none s) (hsome : ∀ (j : Nat) (p : Value × Value), xs[j]? = some (k, p) → Q (some j) s) (hall : (es.all fun e => isExactStrKey e.key) = true) :
    wpAny (model prog w) A (foundByValue d (.str x t) es x) Q E s := by
  have hk := keyH_str hkey
  subst hk
  have hex : ∀ (i : Nat) (e : DictEntry), es[i]? = some e → ∃ k' b v', xs[i]? = some (k', b, v') ∧ e = ent prog w (k', b, v') ∧ e.key.isStr x = decide (k' = .at (.inr x)) := by
    intro i e hi
    have h2 := hi
    rw [ent_at he i] at h2
    cases hx : xs[i]? with
    | none => rw [hx] at h2; cases h2
    | some y =>
      obtain ⟨k', b, v'⟩ := y
      rw [hx] at h2
      injection h2 with h2
      refine ⟨k', b, v', rfl, h2.symm, ?_⟩
      subst h2
      exact keyH_isStr (his _ (List.mem_of_getElem? hx)) (Array.all_eq_true_iff_forall_mem.mp hall _ (Array.mem_of_getElem? hi))
  unfold foundByValue
  cases hf : es.findIdx? (·.key.isStr x) with
  | none =>
    refine wpAny_pure (hnone fun j p hj => ?_)
    have hjl := below he hj
    have hget : es[j]? = some es[j] := Array.getElem?_eq_getElem hjl
    obtain ⟨k', b, v', h1, h2, h3⟩ := hex j es[j] hget
    rw [hj] at h1
    injection h1 with h1
    injection h1 with h1 h1'
    subst h1
    have := (Array.findIdx?_eq_none_iff.mp hf) es[j] (Array.getElem_mem hjl)
    rw [h3] at this
    simp at this
  | some i =>
    obtain ⟨hil, hit, hbefore⟩ := Array.findIdx?_eq_some_iff_getElem.mp hf
    have hget : es[i]? = some es[i] := Array.getElem?_eq_getElem hil
    obtain ⟨k', b, v', h1, h2, h3⟩ := hex i es[i] hget
    rw [h3] at hit
    have hk' : k' = .at (.inr x) := of_decide_eq_true hit
    subst hk'
    dsimp only
    rw [hget, h2]
    dsimp only [ent]
    have hib := his _ (List.mem_of_getElem? h1)
    refine wpAny_bind (wpAny_dictEpoch ho hd (wpAny_bind (keyH_eq hu hib hkey (wpAny_bind (wpAny_dictEpoch ho hd ?_)))))
    show wpAny _ _ (if (ep != ep) = true then _ else _) _ E _
    rw [if_neg (by simp), decide_eq_true rfl, if_pos rfl]
    exact wpAny_bind (wpAny_rule (wpAny_pure (hsome i _ h1)))
end
theorem find_key {d : Addr} {o : Obj} {es ep} {xs : KVs} {k : Key} {v : Value} {Q : Option Nat → Shared → Prop} (hu : A.units < cLine) (hkey : KeyH prog w s.heap k v)
    (ho : s.heap.get? d = some o) (hd : o.data = .dict es ep) (he : es.toList = xs.map (ent prog w)) (his : ∀ x ∈ xs, KeyH prog w s.heap x.1 x.2.1) (hn : (xs.map (·.1)).Nodup)
    (hnone : (∀ (j : Nat) (p : Value × Value), xs[j]? ≠ some (k, p)) → Q none s) (hsome : ∀ (j : Nat) (p : Value × Value), xs[j]? = some (k, p) → Q (some j) s) :
    wpAny (model prog w) A (dictFind d v (keyHash prog w k)) Q E s := by
  have hmem := ent_mem he
  have hany : ¬ (es.any fun e => e.key == v && e.hash != keyHash prog w k) = true := by
    rw [← Array.any_toList, List.any_eq_true]
    rintro ⟨e, hin, hc⟩
    obtain ⟨x, hx, rfl⟩ := hmem e (Array.mem_toList_iff.mp hin)
    simp only [ent, Bool.and_eq_true, beq_iff_eq, bne_iff_ne, ne_eq] at hc
    obtain ⟨hxa, hne⟩ := hc
    have := his x hx
    rw [hxa] at this
    exact hne (by rw [keyH_inj this hkey])
  have hst : ∀ v ∈ (placesWithHash es.size (fun i => es[i]?.map (·.hash)) (keyHash prog w k)).filterMap (fun i => es[i]?.map (·.key)), ∃ k', KeyH prog w s.heap k' v := by
    intro v hv
    obtain ⟨i, _, hi⟩ := List.mem_filterMap.mp hv
    cases hei : es[i]? with
    | none => rw [hei] at hi; cases hi
    | some e =>
      rw [hei] at hi
      obtain rfl : e.key = v := by simpa using hi
      obtain ⟨x, hx, rfl⟩ := hmem e (Array.mem_of_getElem? hei)
      exact ⟨x.1, his x hx⟩
  clear hmem
  unfold dictFind
  try with_reducible refine wpAny_holding ?_
  refine wpAny_bind (wpAny_dictEntries ho hd ?_)
  cases v
  case str x t =>
    dsimp only
    by_cases hall : (es.all fun e => isExactStrKey e.key) = true
    · rw [if_pos hall]; exact find_byval hu hkey ho hd he his hnone hsome hall
    rw [if_neg hall]
    by_cases hcv : ((Value.str x t :: (placesWithHash es.size (fun i => es[i]?.map (·.hash)) (keyHash prog w k)).filterMap (fun i => es[i]?.map (·.key))).all carriedByValue) = true
    · rw [if_pos hcv]; exact find_plain hu hkey ho hd he his hnone hsome
    · rw [if_neg hcv]
      by_cases hone : (((placesWithHash es.size (fun i => es[i]?.map (·.hash)) (keyHash prog w k)).filterMap (fun i => es[i]?.map (·.key))) == [Value.str x t]) = true <;>
          (first | rw [if_pos hone] | rw [if_neg hone]) <;> (first | refine wpAny_bind (wpAny_pure ?_) | refine wpAny_bind (mayTell_quiet hkey hst ?_)) <;> (
        rw [if_neg (by simp)]
        refine wpAny_bind (find_loop he hn (fun x k' p hit R hkv hne hR => ?_) (fun x p R hkv hR1 hR2 => ?_) (fun x p hkv => wpAny_pure (hsome x p hkv)) (fun x p hkv => wpAny_pure (hsome x p hkv)) (fun h => wpAny_pure (hnone h)))
        · rw [ent_here he hkv]
          dsimp only
          by_cases hh : (keyHash prog w k' == keyHash prog w k) = true
          · rw [if_pos hh]
            refine wpAny_bind (wpAny_dictEpoch ho hd (wpAny_bind (keyH_eq (x := k') (y := k) hu (his _ (List.mem_of_getElem? hkv)) hkey (wpAny_bind (wpAny_dictEpoch ho hd ?_)))))
            show wpAny _ _ (if (ep != ep) = true then _ else _) _ E _
            rw [if_neg (by simp), decide_eq_false hne]
            simp only [Bool.false_eq_true, if_false]
            refine wpAny_bind (wpAny_rule ?_)
            first | rw [if_neg (by simp)] | skip
            first
              | exact wpAny_pure hR
              | exact wpAny_bind (wpAny_pure (wpAny_pure hR))
          · rw [if_neg hh]
            exact wpAny_pure hR
        · rw [ent_here he hkv]
          dsimp only
          rw [if_pos (by simp)]
          refine wpAny_bind (wpAny_dictEpoch ho hd (wpAny_bind (keyH_eq (x := k) (y := k) hu (his _ (List.mem_of_getElem? hkv)) hkey (wpAny_bind (wpAny_dictEpoch ho hd ?_)))))
          show wpAny _ _ (if (ep != ep) = true then _ else _) _ E _
          rw [if_neg (by simp), decide_eq_true rfl]
          first | rw [if_pos rfl] | skip
          simp only [Option.isSome_none, Bool.false_eq_true, if_false]
          first | refine wpAny_bind (wpAny_pure ?_) | skip
          refine wpAny_bind (wpAny_rule ?_)
          split
          · exact wpAny_pure hR1
          · exact wpAny_pure hR2)
  case int x t =>
    dsimp only
    by_cases hcv : ((Value.int x t :: (placesWithHash es.size (fun i => es[i]?.map (·.hash)) (keyHash prog w k)).filterMap (fun i => es[i]?.map (·.key))).all carriedByValue) = true
    · rw [if_pos hcv]; exact find_plain hu hkey ho hd he his hnone hsome
    · rw [if_neg hcv]
      by_cases hone : (((placesWithHash es.size (fun i => es[i]?.map (·.hash)) (keyHash prog w k)).filterMap (fun i => es[i]?.map (·.key))) == [Value.int x t]) = true <;>
          (first | rw [if_pos hone] | rw [if_neg hone]) <;> (first | refine wpAny_bind (wpAny_pure ?_) | refine wpAny_bind (mayTell_quiet hkey hst ?_)) <;> (
        rw [if_neg (by simp)]
        refine wpAny_bind (find_loop he hn (fun x k' p hit R hkv hne hR => ?_) (fun x p R hkv hR1 hR2 => ?_) (fun x p hkv => wpAny_pure (hsome x p hkv)) (fun x p hkv => wpAny_pure (hsome x p hkv)) (fun h => wpAny_pure (hnone h)))
        · rw [ent_here he hkv]
          dsimp only
          by_cases hh : (keyHash prog w k' == keyHash prog w k) = true
          · rw [if_pos hh]
            refine wpAny_bind (wpAny_dictEpoch ho hd (wpAny_bind (keyH_eq (x := k') (y := k) hu (his _ (List.mem_of_getElem? hkv)) hkey (wpAny_bind (wpAny_dictEpoch ho hd ?_)))))
            show wpAny _ _ (if (ep != ep) = true then _ else _) _ E _
            rw [if_neg (by simp), decide_eq_false hne]
            simp only [Bool.false_eq_true, if_false]
            refine wpAny_bind (wpAny_rule ?_)
            first | rw [if_neg (by simp)] | skip
            first
              | exact wpAny_pure hR
              | exact wpAny_bind (wpAny_pure (wpAny_pure hR))
          · rw [if_neg hh]
            exact wpAny_pure hR
        · rw [ent_here he hkv]
          dsimp only
          rw [if_pos (by simp)]
          refine wpAny_bind (wpAny_dictEpoch ho hd (wpAny_bind (keyH_eq (x := k) (y := k) hu (his _ (List.mem_of_getElem? hkv)) hkey (wpAny_bind (wpAny_dictEpoch ho hd ?_)))))
          show wpAny _ _ (if (ep != ep) = true then _ else _) _ E _
          rw [if_neg (by simp), decide_eq_true rfl]
          first | rw [if_pos rfl] | skip
          simp only [Option.isSome_none, Bool.false_eq_true, if_false]
          first | refine wpAny_bind (wpAny_pure ?_) | skip
          refine wpAny_bind (wpAny_rule ?_)
          split
          · exact wpAny_pure hR1
          · exact wpAny_pure hR2)
  case ref a =>
    dsimp only
    rw [if_neg (show ¬ ((Value.ref a :: (placesWithHash es.size (fun i => es[i]?.map (·.hash)) (keyHash prog w k)).filterMap (fun i => es[i]?.map (·.key))).all carriedByValue) = true by simp [carriedByValue])]
    rw [if_neg hany]
    by_cases hone : (((placesWithHash es.size (fun i => es[i]?.map (·.hash)) (keyHash prog w k)).filterMap (fun i => es[i]?.map (·.key))) == [Value.ref a]) = true <;>
        (first | rw [if_pos hone] | rw [if_neg hone]) <;> (first | refine wpAny_bind (wpAny_pure ?_) | refine wpAny_bind (mayTell_quiet hkey hst ?_)) <;> (
        rw [if_neg (by simp)]
        refine wpAny_bind (find_loop he hn (fun x k' p hit R hkv hne hR => ?_) (fun x p R hkv hR1 hR2 => ?_) (fun x p hkv => wpAny_pure (hsome x p hkv)) (fun x p hkv => wpAny_pure (hsome x p hkv)) (fun h => wpAny_pure (hnone h)))
        · rw [ent_here he hkv]
          dsimp only
          by_cases hh : (keyHash prog w k' == keyHash prog w k) = true
          · rw [if_pos hh]
            refine wpAny_bind (wpAny_dictEpoch ho hd (wpAny_bind (keyH_eq (x := k') (y := k) hu (his _ (List.mem_of_getElem? hkv)) hkey (wpAny_bind (wpAny_dictEpoch ho hd ?_)))))
            show wpAny _ _ (if (ep != ep) = true then _ else _) _ E _
            rw [if_neg (by simp), decide_eq_false hne]
            simp only [Bool.false_eq_true, if_false]
            refine wpAny_bind (wpAny_rule ?_)
            first | rw [if_neg (by simp)] | skip
            first
              | exact wpAny_pure hR
              | exact wpAny_bind (wpAny_pure (wpAny_pure hR))
          · rw [if_neg hh]
            exact wpAny_pure hR
        · rw [ent_here he hkv]
          dsimp only
          rw [if_pos (by simp)]
          refine wpAny_bind (wpAny_dictEpoch ho hd (wpAny_bind (keyH_eq (x := k) (y := k) hu (his _ (List.mem_of_getElem? hkv)) hkey (wpAny_bind (wpAny_dictEpoch ho hd ?_)))))
          show wpAny _ _ (if (ep != ep) = true then _ else _) _ E _
          rw [if_neg (by simp), decide_eq_true rfl]
          first | rw [if_pos rfl] | skip
          simp only [Option.isSome_none, Bool.false_eq_true, if_false]
          first | refine wpAny_bind (wpAny_pure ?_) | skip
          refine wpAny_bind (wpAny_rule ?_)
          split
          · exact wpAny_pure hR1
          · exact wpAny_pure hR2)
  all_goals (exfalso; cases k; (rcases atomIs_shape hkey with ⟨i, u, rfl, e⟩ | ⟨y, u, rfl, e⟩ <;> injection e); (obtain ⟨a, e, _⟩ := hkey; injection e))
end
end Mine
end

section
open PySem PySem.W PyProof.Rows
set_option Elab.async false
namespace Mine
/-! the ledger: what is known of the heap -/
abbrev Led := Addr → Option Obj
def Led.put (D : Led) (a : Addr) (o : Obj) : Led := fun b => if b = a then some o else D b
theorem Led.put_same {D : Led} {a : Addr} {o : Obj} : D.put a o a = some o := if_pos rfl
theorem Led.put_other {D : Led} {a b : Addr} {o : Obj} (h : b ≠ a) : D.put a o b = D b := if_neg h
theorem Led.put_some {D : Led} {a b : Addr} {o o' : Obj} (h : D.put a o b = some o') : (b = a ∧ o' = o) ∨ (b ≠ a ∧ D b = some o') := by
  unfold Led.put at h
  by_cases e : b = a
  · rw [if_pos e] at h; injection h with h; exact .inl ⟨e, h.symm⟩
  · rw [if_neg e] at h; exact .inr ⟨e, h⟩
theorem Led.put_put {D : Led} {a : Addr} {o o' : Obj} : (D.put a o).put a o' = D.put a o' := by
  funext b; unfold Led.put; by_cases h : b = a <;> simp [h]
def lstO (vs : Array Value) (n : Nat) : Obj := { cls := .type "list", data := .seq vs n }
def tupO (vs : Array Value) (n : Nat) : Obj := { cls := .type "tuple", data := .seq vs n }
def dctO (es : Array DictEntry) (n : Nat) : Obj := { cls := .type "dict", data := .dict es n }
def Fits (D : Led) (s : Shared) : Prop := ∀ a o, D a = some o → s.heap.get? a = some o
theorem get?_ge {h : Heap} {a : Addr} (x : h.objs.size ≤ a) : h.get? a = none := by
  cases e : h.get? a with
  | none => rfl
  | some o => exact absurd (Heap.lt_size e) (Nat.not_lt.mpr x)
theorem Fits.fresh {D : Led} {s : Shared} (F : Fits D s) {a : Addr} (h : s.heap.objs.size ≤ a) : D a = none := by
  cases e : D a with
  | none => rfl
  | some o => have := F a o e; rw [get?_ge h] at this; cases this
/-- from (D, s) to (D', s'): all but W is kept -/
structure Tr (W : List Addr) (D : Led) (s : Shared) (D' : Led) (s' : Shared) : Prop where
  os : s'.os = s.os
  gens : s'.gens = s.gens
  alive : ∀ b o, s.heap.get? b = some o → ∃ o', s'.heap.get? b = some o'
  keep : ∀ b o, b ∉ W → s.heap.get? b = some o → s'.heap.get? b = some o
  fits0 : Fits D s
  fits : Fits D' s'
  ext : ∀ a o, a ∉ W → D a = some o → D' a = some o
  dom : ∀ a o, a ∉ W → s.heap.get? a = some o → D a = none → D' a = none
theorem Tr.refl {W : List Addr} {D : Led} {s : Shared} (F : Fits D s) : Tr W D s D s := ⟨rfl, rfl, fun _ o e => ⟨o, e⟩, fun _ _ _ e => e, F, F, fun _ _ _ e => e, fun _ _ _ _ e => e⟩
theorem Tr.toks {W : List Addr} {D D' : Led} {s s' : Shared} (x : Tr W D s D' s') (t : Nat) : Tr W D s D' { s' with toks := t } := ⟨x.os, x.gens, x.alive, x.keep, x.fits0, x.fits, x.ext, x.dom⟩
theorem Tr.trans {W W' : List Addr} {D D' D'' : Led} {s s' s'' : Shared} (x : Tr W D s D' s') (y : Tr W' D' s' D'' s'') (hW : ∀ b ∈ W', b ∈ W ∨ s.heap.get? b = none) : Tr W D s D'' s'' := by
  have nw : ∀ {b o}, b ∉ W → s.heap.get? b = some o → b ∉ W' := fun {b o} hb e hb' => (hW b hb').elim hb fun e' => by rw [e'] at e; cases e
  refine ⟨y.os.trans x.os, y.gens.trans x.gens, fun b o e => let ⟨o', e'⟩ := x.alive b o e; y.alive b o' e', fun b o hb e => y.keep b o (nw hb e) (x.keep b o hb e), x.fits0, y.fits, fun a o ha e => ?_, fun a o ha e e' => ?_⟩
  · exact y.ext a o (nw ha (x.fits0 a o e)) (x.ext a o ha e)
  · exact y.dom a o (nw ha e) (x.keep a o ha e) (x.dom a o ha e e')
theorem Tr.weaken {W W' : List Addr} {D D' : Led} {s s' : Shared} (x : Tr W' D s D' s') (hW : ∀ b ∈ W', b ∈ W ∨ s.heap.get? b = none) : Tr W D s D' s' :=
  (Tr.refl x.fits0).trans x hW
/-- a new object -/
theorem Tr.push {W : List Addr} {D : Led} {s : Shared} (F : Fits D s) (o : Obj) (hf : o.isFreed = false) (t : Nat) :
    Tr W D s (D.put s.heap.objs.size o) { s with heap := s.heap.push o, toks := t } := by
  have hn : D s.heap.objs.size = none := F.fresh (Nat.le_refl _)
  refine ⟨rfl, rfl, fun b o' e => ⟨o', Heap.get?_push_of_some o e⟩, fun b o' _ e => Heap.get?_push_of_some o e, F, fun a o' e => ?_, fun a o' _ e => ?_, fun a o' _ e e' => ?_⟩
  · rcases Led.put_some e with ⟨rfl, rfl⟩ | ⟨_, e⟩
    · exact Heap.get?_push_size _ hf
    · exact Heap.get?_push_of_some o (F a o' e)
  · rw [Led.put_other (fun h => by rw [h, hn] at e; cases e)]; exact e
  · rw [Led.put_other (fun h => by rw [h, get?_ge (Nat.le_refl _)] at e; cases e)]; exact e'
/-- a new object that is not kept in the ledger -/
theorem Tr.pushNo {W : List Addr} {D : Led} {s : Shared} (F : Fits D s) (o : Obj) (t : Nat) :
    Tr W D s D { s with heap := s.heap.push o, toks := t } :=
  ⟨rfl, rfl, fun b o' e => ⟨o', Heap.get?_push_of_some o e⟩, fun _ _ _ e => Heap.get?_push_of_some o e, F, fun a o' e => Heap.get?_push_of_some o (F a o' e), fun _ _ _ e => e, fun _ _ _ _ e => e⟩
/-- an object of the ledger is changed -/
theorem Tr.upd {W : List Addr} {D : Led} {s : Shared} {h' : Heap} {a : Addr} {o o' : Obj} (F : Fits D s) (ha : a ∈ W) (_he : D a = some o) (hs : Heap.SameBut a s.heap h') (hn : h'.get? a = some o') (t : Nat) :
    Tr W D s (D.put a o') { s with heap := h', toks := t } := by
  refine ⟨rfl, rfl, fun b o₁ e => ?_, fun b o₁ hb e => (hs.2 b (fun h => hb (h ▸ ha))).trans e, F, fun b o₁ e => ?_, fun b o₁ hb e => ?_, fun b o₁ hb e e' => ?_⟩
  · by_cases hb : b = a
    · subst hb; exact ⟨o', hn⟩
    · exact ⟨o₁, (hs.2 b hb).trans e⟩
  · rcases Led.put_some e with ⟨rfl, rfl⟩ | ⟨hne, e⟩
    · exact hn
    · exact (hs.2 b hne).trans (F b o₁ e)
  · have hne : b ≠ a := fun h => hb (h ▸ ha)
    rw [Led.put_other hne]; exact e
  · have hne : b ≠ a := fun h => hb (h ▸ ha)
    rw [Led.put_other hne]; exact e'
/-- objects outside the ledger come or change -/
theorem Tr.same {W : List Addr} {D : Led} {s : Shared} {h' : Heap} (F : Fits D s) (hk : ∀ b o, b ∉ W → s.heap.get? b = some o → h'.get? b = some o) (hz : ∀ b ∈ W, ∀ o, s.heap.get? b = some o → ∃ o', h'.get? b = some o')
    (hW : ∀ b ∈ W, D b = none) (t : Nat) : Tr W D s D { s with heap := h', toks := t } :=
  ⟨rfl, rfl, fun b o e => if hb : b ∈ W then hz b hb o e else ⟨o, hk b o hb e⟩, hk, F, fun b o e => hk b o (fun h => by rw [hW b h] at e; cases e) (F b o e), fun _ _ _ e => e, fun _ _ _ _ e => e⟩

abbrev Vars := List (Str × Value)
def Vars.put (vs : Vars) (x : Str) (v : Value) : Vars := (x, v) :: vs.filter fun p => p.1 != x
/-- a frame: base B (never written), writable W, start (D0, s0), the locals' object L -/
structure At (B : Led) (W : List Addr) (D0 : Led) (s0 : Shared) (L : Addr) (vars : Vars) (D : Led) (s : Shared) : Prop where
  tr : Tr W D0 s0 D s
  ns : ∃ m, s.heap.Ns L m ∧ ∀ p ∈ vars, m p.1 = some p.2
  newL : s0.heap.get? L = none
  notD : D L = none
  base : ∀ a o, B a = some o → D a = some o
  base0 : ∀ a o, B a = some o → D0 a = some o
  wB : ∀ b ∈ W, B b = none
section
variable {B : Led} {W : List Addr} {D0 : Led} {s0 : Shared} {L : Addr} {vars : Vars} {D : Led} {s : Shared}
theorem At.fits (F : At B W D0 s0 L vars D s) : Fits D s := F.tr.fits
theorem At.get (F : At B W D0 s0 L vars D s) {a : Addr} {o : Obj} (h : D a = some o) : s.heap.get? a = some o := F.tr.fits a o h
theorem At.baseGet (F : At B W D0 s0 L vars D s) {a : Addr} {o : Obj} (h : B a = some o) : s.heap.get? a = some o := F.get (F.base a o h)
theorem At.neL (F : At B W D0 s0 L vars D s) {a : Addr} {o : Obj} (h : D a = some o) : a ≠ L := fun e => by rw [e, F.notD] at h; cases h
theorem At.bOf (F : At B W D0 s0 L vars D s) {a : Addr} (h : a ∈ W ∨ s0.heap.get? a = none) : B a = none := by
  rcases h with h | h
  · exact F.wB a h
  · cases e : B a with
    | none => rfl
    | some o => have := F.tr.fits0 a o (F.base0 a o e); rw [h] at this; cases this
theorem At.less {vars' : Vars} (F : At B W D0 s0 L vars D s) (h : ∀ p ∈ vars', p ∈ vars) : At B W D0 s0 L vars' D s :=
  ⟨F.tr, let ⟨m, hm, hv⟩ := F.ns; ⟨m, hm, fun p hp => hv p (h p hp)⟩, F.newL, F.notD, F.base, F.base0, F.wB⟩
theorem At.toks (F : At B W D0 s0 L vars D s) (t : Nat) : At B W D0 s0 L vars D { s with toks := t } := ⟨F.tr.toks t, F.ns, F.newL, F.notD, F.base, F.base0, F.wB⟩
theorem At.step {W' : List Addr} {D' : Led} {s' : Shared} (F : At B W D0 s0 L vars D s) (t : Tr W' D s D' s') (hW : ∀ b ∈ W', (∃ o, D b = some o) ∧ (b ∈ W ∨ s0.heap.get? b = none)) : At B W D0 s0 L vars D' s' := by
  have hL : L ∉ W' := fun h => by obtain ⟨o, e⟩ := (hW L h).1; rw [F.notD] at e; cases e
  obtain ⟨m, hm, hv⟩ := F.ns
  obtain ⟨oL, es, ep, hoL, r⟩ := hm
  refine ⟨F.tr.trans t fun b hb => (hW b hb).2, ⟨m, ⟨oL, es, ep, t.keep L oL hL hoL, r⟩, hv⟩, F.newL, t.dom L oL hL hoL F.notD, fun a o e => ?_, F.base0, F.wB⟩
  exact t.ext a o (fun h => by rw [F.bOf (hW a h).2] at e; cases e) (F.base a o e)
theorem At.push (F : At B W D0 s0 L vars D s) (o : Obj) (hf : o.isFreed = false) (t : Nat) : At B W D0 s0 L vars (D.put s.heap.objs.size o) { s with heap := s.heap.push o, toks := t } :=
  F.step (Tr.push (W := []) F.fits o hf t) fun _ h => nomatch h
theorem At.pushNo (F : At B W D0 s0 L vars D s) (o : Obj) (t : Nat) : At B W D0 s0 L vars D { s with heap := s.heap.push o, toks := t } :=
  F.step (Tr.pushNo (W := []) F.fits o t) fun _ h => nomatch h
theorem At.keeps {h' : Heap} (F : At B W D0 s0 L vars D s) (hk : ∀ b o, s.heap.get? b = some o → h'.get? b = some o) (t : Nat) : At B W D0 s0 L vars D { s with heap := h', toks := t } :=
  F.step (Tr.same (W := []) F.fits (fun b o _ e => hk b o e) (fun _ h => nomatch h) (fun _ h => nomatch h) t) fun _ h => nomatch h
theorem At.upd {h' : Heap} {a : Addr} {o o' : Obj} (F : At B W D0 s0 L vars D s) (he : D a = some o) (hw : a ∈ W ∨ s0.heap.get? a = none) (hs : Heap.SameBut a s.heap h') (hn : h'.get? a = some o') (t : Nat) :
    At B W D0 s0 L vars (D.put a o') { s with heap := h', toks := t } :=
  F.step (Tr.upd (W := [a]) F.fits (List.mem_singleton.mpr rfl) he hs hn t) fun b hb => by
    rw [List.mem_singleton] at hb; subst hb; exact ⟨⟨o, he⟩, hw⟩
/-- an object of this frame's own is forgotten (it may have changed) -/
theorem At.forget {h' : Heap} {a : Addr} (F : At B W D0 s0 L vars D s) (ha : s0.heap.get? a = none) (hL : a ≠ L) (hx : Heap.ExtBut a s.heap h') (t : Nat) :
    At B W D0 s0 L vars (fun b => if b = a then none else D b) { s with heap := h', toks := t } := by
  have ne0 : ∀ {b o}, s0.heap.get? b = some o → b ≠ a := fun {b o} e q => by rw [q, ha] at e; cases e
  have neD : ∀ {b o}, D0 b = some o → b ≠ a := fun {b o} e => ne0 (F.tr.fits0 b o e)
  obtain ⟨m, ⟨oL, es, ep, hoL, r⟩, hv⟩ := F.ns
  refine ⟨⟨F.tr.os, F.tr.gens, fun b o e => ?_, fun b o hb e => hx b o (ne0 e) (F.tr.keep b o hb e), F.tr.fits0, fun b o e => ?_, fun b o hb e => ?_, fun b o hb e e' => ?_⟩, ⟨m, ⟨oL, es, ep, hx L oL (Ne.symm hL) hoL, r⟩, hv⟩, F.newL, ?_, fun b o e => ?_, F.base0, F.wB⟩
  · obtain ⟨o', e'⟩ := F.tr.alive b o e; exact ⟨o', hx b o' (ne0 e) e'⟩
  · by_cases hb : b = a
    · simp [hb] at e
    · simp only [hb, if_false] at e; exact hx b o hb (F.get e)
  · simp only [neD e, if_false]; exact F.tr.ext b o hb e
  · simp only [ne0 e, if_false]; exact F.tr.dom b o hb e e'
  · simp [F.notD]
  · simp only [neD (F.base0 b o e), if_false]; exact F.base b o e
theorem At.fresh (F : At B W D0 s0 L vars D s) {a : Addr} (h : s.heap.objs.size ≤ a) : D a = none ∧ s0.heap.get? a = none := ⟨F.fits.fresh h, by
  cases e : s0.heap.get? a with
  | none => rfl
  | some o => obtain ⟨o', e'⟩ := F.tr.alive a o e; rw [get?_ge h] at e'; cases e'⟩
theorem At.store {x : Str} {v : Value} {h' : Heap} {m : Str → Option Value} (F : At B W D0 s0 L vars D s) (hm : ∀ p ∈ vars, m p.1 = some p.2) (hn : h'.Ns L (fun y => if y = x then some v else m y)) (hs : Heap.SameBut L s.heap h') (t : Nat) :
    At B W D0 s0 L (vars.put x v) D { s with heap := h', toks := t } := by
  refine ⟨F.tr.trans (Tr.same (W := [L]) F.fits (fun b o hb e => (hs.2 b fun h => hb (h ▸ List.mem_singleton.mpr rfl)).trans e) (fun b hb o _ => ?_) (fun b hb => ?_) t) fun b hb => ?_, ⟨_, hn, fun p hp => ?_⟩, F.newL, F.notD, F.base, F.base0, F.wB⟩
  · rw [List.mem_singleton] at hb; subst hb; obtain ⟨oL, _, _, hoL, _⟩ := hn; exact ⟨oL, hoL⟩
  · rw [List.mem_singleton] at hb; subst hb; exact F.notD
  · rw [List.mem_singleton] at hb; subst hb; exact .inr F.newL
  · unfold Vars.put at hp
    rcases List.mem_cons.mp hp with rfl | hp
    · simp
    · rw [List.mem_filter] at hp
      have hne : p.1 ≠ x := by simpa using hp.2
      simp [hne, hm p hp.1]
end
theorem mem_of_lookup {vars : Vars} {x : Str} {v : Value} (h : vars.lookup x = some v) : (x, v) ∈ vars := by
  induction vars with
  | nil => cases h
  | cons p r ih =>
    obtain ⟨y, u⟩ := p
    rw [List.lookup_cons] at h
    by_cases e : (x == y) = true
    · rw [e] at h; injection h with h; rw [eq_of_beq e, h]; exact List.mem_cons_self
    · have : (x == y) = false := by simpa using e
      rw [this] at h; exact List.mem_cons_of_mem _ (ih h)
section
variable {M : Model} {A : Around} {E : Value → Shared → Prop} {B : Led} {W : List Addr} {D0 : Led} {s0 : Shared} {L : Addr} {vars : Vars} {D : Led} {s : Shared} {env : Env}
theorem r_ldn {x : Str} {v : Value} {Q : Value → Shared → Prop} (F : At B W D0 s0 L vars D s) (hv : vars.lookup x = some v) (h : Q v s)
    (hL : env.locals = L := by rfl) (hk : env.scope.kind = .function := by rfl) (hl : env.kindOf x = some .local := by rfl) :
    wpAny M A (loadName env x) Q E s := by
  obtain ⟨m, hm, hvs⟩ := F.ns
  subst hL
  exact wpAny_loadName_local hk hl hm (hvs _ (mem_of_lookup hv)) h
theorem r_nm {x : Str} {pos : Pos} {v : Value} {Q : Value → Shared → Prop} (F : At B W D0 s0 L vars D s) (hv : vars.lookup x = some v) (h : Q v s)
    (hL : env.locals = L := by rfl) (hk : env.scope.kind = .function := by rfl) (hl : env.kindOf x = some .local := by rfl) (hd : (x == ("__debug__" : Str)) = false := by rfl) :
    wpAny M A (eval (.Name x pos) env) Q E s := wpAny_Name (r_ldn F hv h hL hk hl) hd
theorem r_st {x : Str} {v : Value} {Q : Unit → Shared → Prop} (F : At B W D0 s0 L vars D s)
    (h : ∀ s', At B W D0 s0 L (vars.put x v) D s' → Q () s')
    (hL : env.locals = L := by rfl) (hk : env.scope.kind = .function := by rfl) (hl : env.kindOf x = some .local := by rfl) :
    wpAny M A (storeName env x v) Q E s := by
  obtain ⟨m, hm, hvs⟩ := F.ns
  subst hL
  exact wpAny_storeName_local hl hm (fun h' hn hs => h _ (F.store hvs hn hs _)) (by rw [hk]; rfl)
end
end Mine
end

section
open PySem PySem.W PyProof.Rows
set_option Elab.async false
set_option maxRecDepth 100000
namespace Mine
/-! keys, lists, dicts in the ledger -/
section
variable (prog : Program) (w : World)
def KeyL (D : Led) : Key → Value → Prop
  | .at k, v => atomIs k v = true
  | .tp ks, v => ∃ a o items n, v = .ref a ∧ D a = some o ∧ o.cls = .type "tuple" ∧ o.data = .seq items n ∧ ItemsAre (atomKind prog w) ks items.toList
end
section
variable {prog : Program} {w : World}
theorem KeyL.h {D : Led} {s : Shared} {k : Key} {v : Value} (F : Fits D s) (x : KeyL prog w D k v) : KeyH prog w s.heap k v := by
  cases k with
  | «at» k => exact x
  | tp ks => obtain ⟨a, o, items, n, rfl, ho, hc, hd, hi⟩ := x; exact ⟨a, rfl, o, items, n, F a o ho, hc, hd, hi⟩
/-- tuples stay -/
def IsTup (o : Obj) : Prop := o.cls = .type "tuple" ∧ ∃ items n, o.data = .seq items n
def TSub (D D' : Led) : Prop := ∀ a o, IsTup o → D a = some o → D' a = some o
theorem TSub.refl (D : Led) : TSub D D := fun _ _ _ e => e
theorem TSub.trans {D D' D'' : Led} (x : TSub D D') (y : TSub D' D'') : TSub D D'' := fun a o c e => y a o c (x a o c e)
theorem TSub.put {D : Led} {a : Addr} {o' : Obj} (h : ∀ o, D a = some o → ¬ IsTup o) : TSub D (D.put a o') := fun b o c e => by
  rw [Led.put_other (fun q => by subst q; exact h o e c)]; exact e
theorem TSub.new {D : Led} {a : Addr} {o' : Obj} (h : D a = none) : TSub D (D.put a o') := .put fun o e => by rw [h] at e; cases e
theorem KeyL.mono {D D' : Led} {k : Key} {v : Value} (x : KeyL prog w D k v) (h : TSub D D') : KeyL prog w D' k v := by
  cases k with
  | «at» k => exact x
  | tp ks => obtain ⟨a, o, items, n, rfl, ho, hc, hd, hi⟩ := x; exact ⟨a, o, items, n, rfl, h a o ⟨hc, items, n, hd⟩ ho, hc, hd, hi⟩
end
def LV (D : Led) (l : Addr) (vs : List Value) : Prop := ∃ n, D l = some (lstO vs.toArray n)
theorem LV.some {D : Led} {l : Addr} {vs : List Value} (x : LV D l vs) : ∃ o, D l = some o := let ⟨_, h⟩ := x; ⟨_, h⟩
theorem LV.uniq {D : Led} {l : Addr} {vs ws : List Value} (x : LV D l vs) (y : LV D l ws) : vs = ws := by
  obtain ⟨n, h⟩ := x; obtain ⟨m, h'⟩ := y
  rw [h] at h'
  simp only [lstO, Option.some.injEq, Obj.mk.injEq, Data.seq.injEq] at h'
  simpa using h'.2.2.1.1
theorem LV.mono {D D' : Led} {l : Addr} {vs : List Value} (x : LV D l vs) (h : ∀ o, D l = Option.some o → D' l = Option.some o) : LV D' l vs := let ⟨n, e⟩ := x; ⟨n, h _ e⟩
theorem LV.put_other {D : Led} {l a : Addr} {vs : List Value} {o : Obj} (x : LV D l vs) (h : l ≠ a) : LV (D.put a o) l vs := x.mono fun _ e => by rw [Led.put_other h]; exact e
theorem LV.put_same {D : Led} {l : Addr} {vs : List Value} {n : Nat} : LV (D.put l (lstO vs.toArray n)) l vs := ⟨n, Led.put_same⟩
theorem LV.noTup {D : Led} {l : Addr} {vs : List Value} (x : LV D l vs) : ∀ o, D l = Option.some o → ¬ IsTup o := fun o e => by
  obtain ⟨n, h⟩ := x; rw [h] at e; injection e with e; subst e; simp [lstO, IsTup]
def look (xs : KVs) (k : Key) : Option Value := (xs.find? fun x => decide (x.1 = k)).map (·.2.2)
def putK (xs : KVs) (k : Key) (kv v : Value) : KVs := if (look xs k).isSome then xs.map (fun x => if x.1 = k then (x.1, x.2.1, v) else x) else xs ++ [(k, kv, v)]
theorem look_isSome {xs : KVs} {k : Key} : (look xs k).isSome = true ↔ k ∈ xs.map (·.1) := by
  unfold look
  rw [Option.isSome_map, List.find?_isSome]
  simp only [decide_eq_true_eq, List.mem_map]
theorem look_none {xs : KVs} {k : Key} : look xs k = none ↔ k ∉ xs.map (·.1) := by
  rw [← look_isSome]; cases look xs k <;> simp
theorem look_putK (xs : KVs) (k k' : Key) (kv v : Value) : look (putK xs k kv v) k' = if k' = k then some v else look xs k' := by
  unfold putK
  by_cases h : (look xs k).isSome = true
  · rw [if_pos h]
    have hm := look_isSome.mp h
    clear h
    unfold look
    induction xs with
    | nil => simp at hm
    | cons x xs ih =>
      rw [List.map_cons, List.find?_cons, List.find?_cons]
      by_cases hx : x.1 = k
      · rw [if_pos hx]
        by_cases hk : k' = k
        · subst hk; simp [hx]
        · have : ¬ x.1 = k' := fun e => hk (e.symm.trans hx)
          simp only [this, decide_false, if_neg hk]
          by_cases hmem : k ∈ xs.map (·.1)
          · rw [ih hmem, if_neg hk]
          · have : xs.map (fun x => if x.1 = k then (x.1, x.2.1, v) else x) = xs := by
              refine (List.map_congr_left fun y hy => ?_).trans (List.map_id xs)
              rw [if_neg (fun e => hmem (List.mem_map.mpr ⟨y, hy, e⟩))]; rfl
            rw [this]
      · rw [if_neg hx]
        have hm' : k ∈ xs.map (·.1) := by
          rw [List.map_cons] at hm
          rcases List.mem_cons.mp hm with e | e
          · exact absurd e.symm hx
          · exact e
        by_cases hk : x.1 = k'
        · have : ¬ k' = k := fun e => hx (hk.trans e)
          simp [hk, this]
        · simp only [hk, decide_false]
          exact ih hm'
  · rw [if_neg h]
    have hn : look xs k = none := by cases e : look xs k <;> simp_all
    unfold look at hn ⊢
    rw [List.find?_append]
    by_cases hk : k' = k
    · subst hk
      rw [Option.map_eq_none_iff] at hn
      simp [hn]
    · have : ¬ k = k' := fun e => hk e.symm
      simp [this, hk]
theorem keys_putK (xs : KVs) (k : Key) (kv v : Value) : (putK xs k kv v).map (·.1) = if k ∈ xs.map (·.1) then xs.map (·.1) else xs.map (·.1) ++ [k] := by
  unfold putK
  by_cases h : (look xs k).isSome = true
  · rw [if_pos h, if_pos (look_isSome.mp h), List.map_map]
    refine List.map_congr_left fun y _ => ?_
    show (if y.1 = k then (y.1, y.2.1, v) else y).1 = y.1
    split <;> rfl
  · rw [if_neg h, if_neg (fun e => h (look_isSome.mpr e))]; simp
theorem length_putK (xs : KVs) (k : Key) (kv v : Value) : (putK xs k kv v).length ≤ xs.length + 1 := by
  unfold putK; split <;> simp
section
variable (prog : Program) (w : World)
structure DK (D : Led) (d : Addr) (xs : KVs) : Prop where
  obj : ∃ n, D d = some (dctO (xs.map (ent prog w)).toArray n)
  keys : ∀ x ∈ xs, KeyL prog w D x.1 x.2.1
  nodup : (xs.map (·.1)).Nodup
end
section
variable {prog : Program} {w : World}
theorem DK.some {D : Led} {d : Addr} {xs : KVs} (x : DK prog w D d xs) : ∃ o, D d = some o := let ⟨_, h⟩ := x.obj; ⟨_, h⟩
theorem DK.noTup {D : Led} {d : Addr} {xs : KVs} (x : DK prog w D d xs) : ∀ o, D d = Option.some o → ¬ IsTup o := fun o e => by
  obtain ⟨n, h⟩ := x.obj; rw [h] at e; injection e with e; subst e; simp [dctO, IsTup]
theorem DK.mono {D D' : Led} {d : Addr} {xs : KVs} (x : DK prog w D d xs) (h : ∀ o, D d = Option.some o → D' d = Option.some o) (ht : TSub D D') : DK prog w D' d xs :=
  ⟨let ⟨n, e⟩ := x.obj; ⟨n, h _ e⟩, fun y hy => (x.keys y hy).mono ht, x.nodup⟩
theorem DK.put_other {D : Led} {d a : Addr} {xs : KVs} {o' : Obj} (x : DK prog w D d xs) (h : d ≠ a) (ht : TSub D (D.put a o')) : DK prog w (D.put a o') d xs :=
  x.mono (fun _ e => by rw [Led.put_other h]; exact e) ht
variable {A : Around} {E : Value → Shared → Prop} {s : Shared}
/-! the heap's own: get, set -/
theorem look_at {xs : KVs} (hn : (xs.map (·.1)).Nodup) {j : Nat} {k : Key} {p : Value × Value} (h : xs[j]? = some (k, p)) : look xs k = some p.2 := by
  unfold look
  cases hf : xs.find? (fun x => decide (x.1 = k)) with
  | none =>
    have := List.find?_eq_none.mp hf (k, p) (List.mem_of_getElem? h)
    simp at this
  | some y =>
    have h1 := List.find?_some hf
    have h2 := List.mem_of_find?_eq_some hf
    obtain ⟨i, hi⟩ := List.getElem?_of_mem h2
    simp only [decide_eq_true_eq] at h1
    obtain ⟨y1, y2⟩ := y
    simp only at h1
    subst h1
    have := kv_unique hn hi h
    subst this
    rw [hi] at h
    injection h with h
    injection h with _ h
    subst h; rfl
theorem look_no {xs : KVs} {k : Key} (h : ∀ (j : Nat) (p : Value × Value), xs[j]? ≠ some (k, p)) : look xs k = none := by
  rw [look_none]
  intro hm
  obtain ⟨y, hy, e⟩ := List.mem_map.mp hm
  obtain ⟨i, hi⟩ := List.getElem?_of_mem hy
  obtain ⟨y1, y2⟩ := y
  simp only at e
  subst e
  exact h i y2 hi
theorem dget {D : Led} {d : Addr} {xs : KVs} {k : Key} {kv : Value} {Q : Option Value → Shared → Prop} (F : Fits D s) (hu : A.units < cLine) (hk : KeyL prog w D k kv) (hd : DK prog w D d xs)
    (h : Q (look xs k) { s with toks := s.toks + keyDraws k }) : wpAny (model prog w) A (dictGet d kv) Q E s := by
  obtain ⟨n, ho⟩ := hd.obj
  have hos := F d _ ho
  unfold dictGet
  try with_reducible refine wpAny_holding ?_
  refine wpAny_bind (keyH_hash hu (hk.h F) (wpAny_bind (find_key (s := { s with toks := s.toks + keyDraws k }) (es := (xs.map (ent prog w)).toArray) hu (hk.h F) hos rfl (by simp) (fun x hx => (hd.keys x hx).h F) hd.nodup ?_ ?_)))
  · intro hno
    rw [look_no hno] at h
    exact wpAny_pure h
  · intro j p hj
    rw [look_at hd.nodup hj] at h
    refine wpAny_bind (wpAny_dictEntries (s := { s with toks := s.toks + keyDraws k }) hos rfl ?_)
    rw [ent_at (prog := prog) (w := w) (xs := xs) (by simp) j, hj]
    exact wpAny_pure h
theorem modify_putK {xs : KVs} {k : Key} {v : Value} (hn : (xs.map (·.1)).Nodup) : ∀ {j : Nat} {p : Value × Value}, xs[j]? = some (k, p) →
    (xs.map (ent prog w)).modify j (fun e => { e with val := v }) = (xs.map (fun x => if x.1 = k then (x.1, x.2.1, v) else x)).map (ent prog w) := by
  induction xs with
  | nil => intro j p h; cases h
  | cons x xs ih =>
    intro j p h
    rw [List.map_cons, List.nodup_cons] at hn
    cases j with
    | zero =>
      rw [List.getElem?_cons_zero] at h
      injection h with h
      subst h
      have : xs.map (fun x => if x.1 = k then (x.1, x.2.1, v) else x) = xs := by
        refine (List.map_congr_left fun y hy => ?_).trans (List.map_id xs)
        rw [if_neg (fun e => hn.1 (List.mem_map.mpr ⟨y, hy, e⟩))]; rfl
      rw [List.map_cons, List.map_cons, List.map_cons, this, List.modify_zero_cons, if_pos rfl]; rfl
    | succ j =>
      rw [List.getElem?_cons_succ] at h
      have hne : ¬ x.1 = k := fun e => hn.1 (by rw [e]; exact List.mem_map.mpr ⟨(k, p), List.mem_of_getElem? h, rfl⟩)
      rw [List.map_cons, List.map_cons, List.map_cons, List.modify_succ_cons, if_neg hne, ih hn.2 h]
theorem putK_old {xs : KVs} {k : Key} {kv v u : Value} (h : look xs k = some u) : putK xs k kv v = xs.map (fun x => if x.1 = k then (x.1, x.2.1, v) else x) := by
  unfold putK; rw [h]; rfl
theorem putK_new {xs : KVs} {k : Key} {kv v : Value} (h : look xs k = none) : putK xs k kv v = xs ++ [(k, kv, v)] := by
  unfold putK; rw [h]; rfl
theorem DK.set {D : Led} {d : Addr} {xs : KVs} {k : Key} {kv v : Value} {n : Nat} (hk : KeyL prog w D k kv) (hd : DK prog w D d xs) :
    DK prog w (D.put d (dctO ((putK xs k kv v).map (ent prog w)).toArray n)) d (putK xs k kv v) := by
  have ht : TSub D (D.put d (dctO ((putK xs k kv v).map (ent prog w)).toArray n)) := .put hd.noTup
  refine ⟨⟨n, Led.put_same⟩, fun x hx => ?_, ?_⟩
  · unfold putK at hx
    split at hx
    · obtain ⟨y, hy, rfl⟩ := List.mem_map.mp hx
      have := (hd.keys y hy).mono ht
      split <;> exact this
    · rcases List.mem_append.mp hx with hx | hx
      · exact (hd.keys x hx).mono ht
      · rw [List.mem_singleton] at hx; subst hx; exact hk.mono ht
  · rw [keys_putK]
    split
    · exact hd.nodup
    · rename_i hm
      rw [List.nodup_append]
      refine ⟨hd.nodup, by simp, fun a ha b hb => ?_⟩
      rw [List.mem_singleton] at hb; subst hb
      exact fun e => hm (e ▸ ha)
theorem dset {D : Led} {d : Addr} {xs : KVs} {k : Key} {kv v : Value} {Q : Unit → Shared → Prop} (F : Fits D s) (hu : A.units < cLine) (hk : KeyL prog w D k kv) (hd : DK prog w D d xs) (hz : xs.length ≤ 1000)
    (h : ∀ n h', Heap.SameBut d s.heap h' → h'.get? d = some (dctO ((putK xs k kv v).map (ent prog w)).toArray n) → Q () { s with heap := h', toks := s.toks + keyDraws k }) :
    wpAny (model prog w) A (dictSet d kv v) Q E s := by
  obtain ⟨n, ho⟩ := hd.obj
  have hos := F d _ ho
  unfold dictSet
  try with_reducible refine wpAny_holding ?_
  refine wpAny_bind (keyH_hash hu (hk.h F) ?_)
  unfold dictSetHashed
  try with_reducible refine wpAny_holding ?_
  refine wpAny_bind (find_key (s := { s with toks := s.toks + keyDraws k }) (es := (xs.map (ent prog w)).toArray) hu (hk.h F) hos rfl (by simp) (fun x hx => (hd.keys x hx).h F) hd.nodup ?_ ?_)
  · intro hno
    rw [putK_new (look_no hno)] at h
    refine wpAny_bind (wpAny_rule (wpAny_updateDictKeys (s := { s with toks := s.toks + keyDraws k }) hos rfl (h (n + 1) _ (Heap.SameBut.update ..) ?_) (hz := by rw [List.size_toArray, List.length_map, sizeLine]; omega)))
    rw [Heap.get?_update_self _ hos rfl]
    simp [dctO, Obj.mapDictKeys, ent]
  · intro j p hj
    rw [putK_old (look_at hd.nodup hj)] at h
    refine wpAny_bind (wpAny_rule (wpAny_bind (wpAny_updateDict (s := { s with toks := s.toks + keyDraws k }) hos rfl (wpAny_point (h n _ (Heap.SameBut.update ..) ?_)))))
    rw [Heap.get?_update_self _ hos rfl]
    simp only [dctO, Obj.mapDict, List.modify_toArray, modify_putK hd.nodup hj]
end
end Mine
end

section
open PySem PySem.W PyProof.Rows
set_option Elab.async false
set_option maxRecDepth 100000
namespace Mine
/-! keys as plain data -/
def atomD : Atom → PyData
  | .inl i => .int i
  | .inr x => .str x
def keyD : Key → PyData
  | .at k => atomD k
  | .tp ks => .tuple (ks.map atomD)
def Key.ok (k : Key) : Prop := (keyD k).canLay0 = true
theorem eqv_atom (a b : Atom) : PyData.eqv (atomD a) (atomD b) = decide (a = b) := by
  cases a <;> cases b <;> simp [atomD, PyData.eqv, BEq.beq]
theorem eqvAll_atom : ∀ (a b : List Atom), PyData.eqvAll (a.map atomD) (b.map atomD) = decide (a = b)
  | [], [] => by simp [PyData.eqvAll]
  | x :: xs, y :: ys => by
    simp only [List.map_cons, PyData.eqvAll, eqv_atom, eqvAll_atom xs ys, List.cons.injEq, Bool.decide_and]
  | [], _ :: _ => by simp [PyData.eqvAll]
  | _ :: _, [] => by simp [PyData.eqvAll]
theorem eqv_key (a b : Key) : PyData.eqv (keyD a) (keyD b) = decide (a = b) := by
  cases a with
  | «at» a =>
    cases b with
    | «at» b => simp only [keyD, eqv_atom, Key.at.injEq]
    | tp b => cases a <;> simp [keyD, atomD, PyData.eqv]
  | tp a =>
    cases b with
    | «at» b => cases b <;> simp [keyD, atomD, PyData.eqv]
    | tp b => simp only [keyD, PyData.eqv, eqvAll_atom, Key.tp.injEq]
theorem depth_atom (a : Atom) : (atomD a).depth ≤ 1 := by cases a <;> simp [atomD, PyData.depth]
theorem depthAll_atom : ∀ l : List Atom, PyData.depthAll (l.map atomD) ≤ 1
  | [] => by simp [PyData.depthAll]
  | x :: xs => by
    simp only [List.map_cons, PyData.depthAll]
    have := depth_atom x
    have := depthAll_atom xs
    omega
theorem depth_key (k : Key) : (keyD k).depth ≤ 2 := by
  cases k with
  | «at» a => have := depth_atom a; simp only [keyD]; omega
  | tp l => simp only [keyD, PyData.depth]; have := depthAll_atom l; omega
section
variable {prog : Program} {w : World}
theorem atomIs_reads {h : Heap} {a : Atom} {v : Value} (x : atomIs a v = true) : Reads h v (atomD a) [] := by
  rcases atomIs_shape x with ⟨i, t, rfl, rfl⟩ | ⟨y, t, rfl, rfl⟩
  · exact .int i t
  · exact .str y t
theorem itemsAre_reads {h : Heap} {ks : List Atom} {vs : List Value} (x : ItemsAre (atomKind prog w) ks vs) : ReadsAll h vs (ks.map atomD) [] := by
  induction x with
  | nil => exact .nil
  | cons h1 _ ih => exact .cons (as := []) (bs := []) (atomIs_reads h1) ih
theorem KeyL.reads {D : Led} {s : Shared} {k : Key} {v : Value} (F : Fits D s) (x : KeyL prog w D k v) : ∃ as, Reads s.heap v (keyD k) as := by
  cases k with
  | «at» k => exact ⟨[], atomIs_reads x⟩
  | tp ks => obtain ⟨a, o, items, n, rfl, ho, hc, hd, hi⟩ := x; exact ⟨[], .tuple (F a o ho) hc hd (itemsAre_reads hi)⟩
theorem KeyL.eqAt {A : Around} {D : Led} {s : Shared} {k k' : Key} {v v' : Value} (F : Fits D s) (x : KeyL prog w D k v) (y : KeyL prog w D k' v') (ok : k.ok) (ok' : k'.ok) (hu : A.units + 2 < cLine) : PySem.SeqAt.EqAt A s v v' (decide (k = k')) := by
  obtain ⟨as, r⟩ := x.reads F
  obtain ⟨bs, r'⟩ := y.reads F
  rw [← eqv_key]
  refine PySem.SeqAt.eqAt_reads _ _ A s v v' as bs r r' ok ok' ?_
  have h1 := depth_key k
  have h2 : min (keyD k).depth (keyD k').depth ≤ (keyD k).depth := Nat.min_le_left _ _
  omega
end
/-- a list of keys -/
def KeysL (prog : Program) (w : World) (D : Led) : List Key → List Value → Prop
  | [], [] => True
  | k :: ks, v :: vs => KeyL prog w D k v ∧ KeysL prog w D ks vs
  | _, _ => False
def IntsL : List Int → List Value → Prop
  | [], [] => True
  | i :: is, v :: vs => (∃ t, v = .int i t) ∧ IntsL is vs
  | _, _ => False
section
variable {prog : Program} {w : World}
theorem KeysL.mono {D D' : Led} (h : TSub D D') : ∀ {ks : List Key} {vs : List Value}, KeysL prog w D ks vs → KeysL prog w D' ks vs
  | [], [], _ => trivial
  | _ :: _, _ :: _, x => ⟨x.1.mono h, KeysL.mono h x.2⟩
  | [], _ :: _, x => x.elim
  | _ :: _, [], x => x.elim
theorem KeysL.length {D : Led} : ∀ {ks : List Key} {vs : List Value}, KeysL prog w D ks vs → ks.length = vs.length
  | [], [], _ => rfl
  | _ :: _, _ :: _, x => by simp [KeysL.length x.2]
  | [], _ :: _, x => x.elim
  | _ :: _, [], x => x.elim
theorem KeysL.append {D : Led} : ∀ {ks ks' : List Key} {vs vs' : List Value}, KeysL prog w D ks vs → KeysL prog w D ks' vs' → KeysL prog w D (ks ++ ks') (vs ++ vs')
  | [], _, [], _, _, y => y
  | _ :: _, _, _ :: _, _, x, y => ⟨x.1, KeysL.append x.2 y⟩
  | [], _, _ :: _, _, x, _ => x.elim
  | _ :: _, _, [], _, x, _ => x.elim
theorem KeysL.get {D : Led} : ∀ {ks : List Key} {vs : List Value} {i : Nat} {k : Key}, KeysL prog w D ks vs → ks[i]? = some k → ∃ v, vs[i]? = some v ∧ KeyL prog w D k v
  | [], [], _, _, _, h => by cases h
  | _ :: _, v :: _, 0, _, x, h => by
    rw [List.getElem?_cons_zero] at h; injection h with h; subst h; exact ⟨v, rfl, x.1⟩
  | _ :: _, _ :: _, i + 1, _, x, h => by
    rw [List.getElem?_cons_succ] at h; obtain ⟨u, hu, hk⟩ := KeysL.get x.2 h; exact ⟨u, by rw [List.getElem?_cons_succ]; exact hu, hk⟩
  | [], _ :: _, _, _, x, _ => x.elim
  | _ :: _, [], _, _, x, _ => x.elim
theorem KeysL.getV {D : Led} : ∀ {ks : List Key} {vs : List Value} {i : Nat} {v : Value}, KeysL prog w D ks vs → vs[i]? = some v → ∃ k, ks[i]? = some k ∧ KeyL prog w D k v
  | [], [], _, _, _, h => by cases h
  | k :: _, _ :: _, 0, _, x, h => by
    rw [List.getElem?_cons_zero] at h; injection h with h; subst h; exact ⟨k, rfl, x.1⟩
  | _ :: _, _ :: _, i + 1, _, x, h => by
    rw [List.getElem?_cons_succ] at h; obtain ⟨u, hu, hk⟩ := KeysL.getV x.2 h; exact ⟨u, by rw [List.getElem?_cons_succ]; exact hu, hk⟩
  | [], _ :: _, _, _, x, _ => x.elim
  | _ :: _, [], _, _, x, _ => x.elim
/-- split at the end -/
theorem KeysL.snoc {D : Led} : ∀ {ks : List Key} {k : Key} {vs : List Value}, KeysL prog w D (ks ++ [k]) vs → ∃ vs' v, vs = vs' ++ [v] ∧ KeysL prog w D ks vs' ∧ KeyL prog w D k v
  | [], _, [v], x => ⟨[], v, rfl, trivial, x.1⟩
  | [], _, [], x => x.elim
  | [], _, _ :: _ :: _, x => x.2.elim
  | _ :: _, _, v :: _, x => by obtain ⟨vs', u, rfl, h1, h2⟩ := KeysL.snoc x.2; exact ⟨v :: vs', u, rfl, ⟨x.1, h1⟩, h2⟩
  | _ :: _, _, [], x => x.elim
theorem IntsL.length : ∀ {ks : List Int} {vs : List Value}, IntsL ks vs → ks.length = vs.length
  | [], [], _ => rfl
  | _ :: _, _ :: _, x => by simp [IntsL.length x.2]
  | [], _ :: _, x => x.elim
  | _ :: _, [], x => x.elim
theorem IntsL.append : ∀ {ks ks' : List Int} {vs vs' : List Value}, IntsL ks vs → IntsL ks' vs' → IntsL (ks ++ ks') (vs ++ vs')
  | [], _, [], _, _, y => y
  | _ :: _, _, _ :: _, _, x, y => ⟨x.1, IntsL.append x.2 y⟩
  | [], _, _ :: _, _, x, _ => x.elim
  | _ :: _, _, [], _, x, _ => x.elim
theorem IntsL.getV : ∀ {ks : List Int} {vs : List Value} {i : Nat} {v : Value}, IntsL ks vs → vs[i]? = some v → ∃ k t, ks[i]? = some k ∧ v = .int k t
  | [], [], _, _, _, h => by cases h
  | k :: _, _ :: _, 0, _, x, h => by
    rw [List.getElem?_cons_zero] at h; injection h with h; subst h; obtain ⟨t, ht⟩ := x.1; exact ⟨k, t, rfl, ht⟩
  | _ :: _, _ :: _, i + 1, _, x, h => by
    rw [List.getElem?_cons_succ] at h; obtain ⟨u, t, hu, hk⟩ := IntsL.getV x.2 h; exact ⟨u, t, by rw [List.getElem?_cons_succ]; exact hu, hk⟩
  | [], _ :: _, _, _, x, _ => x.elim
  | _ :: _, [], _, _, x, _ => x.elim
/-- what a key among keys answers, value by value -/
theorem KeysL.test {A : Around} {D : Led} {s : Shared} {ks : List Key} {vs : List Value} {k : Key} {v : Value} (F : Fits D s) (x : KeysL prog w D ks vs) (y : KeyL prog w D k v) (ok : ∀ k ∈ ks, k.ok) (ok' : k.ok) (hu : A.units + 2 < cLine) :
    ∃ e : Value → Bool, (∀ u ∈ vs, PySem.SeqAt.EqAt A s u v (e u)) ∧ vs.any e = decide (k ∈ ks) ∧ vs.countP e = ks.count k := by
  classical
  refine ⟨fun u => decide (KeyL prog w D k u), fun u hu' => ?_, ?_, ?_⟩
  · obtain ⟨i, hi⟩ := List.getElem?_of_mem hu'
    obtain ⟨k', hk', hl⟩ := x.getV hi
    have h1 := hl.eqAt F y (ok k' (List.mem_of_getElem? hk')) ok' hu
    have : decide (KeyL prog w D k u) = decide (k' = k) := by
      by_cases e : k' = k
      · subst e; simp [hl]
      · have : ¬ KeyL prog w D k u := fun q => e (keyH_inj (hl.h F) (q.h F))
        simp [e, this]
    show PySem.SeqAt.EqAt A s u v (decide (KeyL prog w D k u))
    rw [this]; exact h1
  all_goals
    clear y ok hu
    induction ks generalizing vs with
    | nil => cases vs with | nil => simp | cons _ _ => exact x.elim
    | cons k' ks ih => cases vs with
      | nil => exact x.elim
      | cons u vs =>
        have h2 := ih x.2
        have : decide (KeyL prog w D k u) = decide (k' = k) := by
          by_cases e : k' = k
          · subst e; simp [x.1]
          · have : ¬ KeyL prog w D k u := fun q => e (keyH_inj (x.1.h F) (q.h F))
            simp [e, this]
        first
        | (rw [List.any_cons, h2, this]
           by_cases e : k' = k
           · simp [e]
           · have e' : ¬ k = k' := fun q => e q.symm
             simp [e, e'])
        | (rw [List.countP_cons, List.count_cons, h2, this]
           by_cases e : k' = k
           · simp [e]
           · simp [e])
theorem IntsL.test {A : Around} {s : Shared} {is : List Int} {vs : List Value} {i : Int} {t : Tok} (x : IntsL is vs) :
    ∃ e : Value → Bool, (∀ u ∈ vs, PySem.SeqAt.EqAt A s u (.int i t) (e u)) ∧ vs.any e = decide (i ∈ is) := by
  refine ⟨fun u => match u with | .int j _ => j == i | _ => false, fun u hu' => ?_, ?_⟩
  · obtain ⟨j, hj⟩ := List.getElem?_of_mem hu'
    obtain ⟨k', t', hk', rfl⟩ := x.getV hj
    exact PySem.SeqAt.EqAt.int_int k' t' i t
  · induction is generalizing vs with
    | nil => cases vs with | nil => simp | cons _ _ => exact x.elim
    | cons k' ks ih => cases vs with
      | nil => exact x.elim
      | cons u vs =>
        obtain ⟨t', rfl⟩ := x.1
        rw [List.any_cons, ih x.2]
        by_cases e : k' = i
        · simp [e]
        · have e' : ¬ i = k' := fun q => e q.symm
          simp [e, e']
end
end Mine
end

section
open PySem PySem.W PyProof.Rows
set_option Elab.async false
set_option maxRecDepth 100000
namespace Mine
section
variable {prog : Program} {w : World} {A : Around} {E : Value → Shared → Prop} {B : Led} {W : List Addr} {D0 : Led} {s0 : Shared} {L : Addr} {vars : Vars} {D : Led} {s : Shared} {env : Env}
/-! dicts -/
theorem dk_type {d : Addr} {xs : KVs} (F : At B W D0 s0 L vars D s) (hd : DK prog w D d xs) : s.TypeIs (.ref d) "dict" := let ⟨_, h⟩ := hd.obj; ⟨_, F.get h, rfl⟩
theorem lv_type {l : Addr} {vs : List Value} (F : At B W D0 s0 L vars D s) (h : LV D l vs) : s.TypeIs (.ref l) "list" := let ⟨_, h⟩ := h; ⟨_, F.get h, rfl⟩
theorem lv_is {l : Addr} {vs : List Value} (F : At B W D0 s0 L vars D s) (h : LV D l vs) : s.heap.IsList l vs.toArray := let ⟨_, h⟩ := h; ⟨_, F.get h, rfl, _, rfl⟩
theorem lv_noDict {l : Addr} {vs : List Value} (F : At B W D0 s0 L vars D s) (h : LV D l vs) : ∀ a, Value.ref l = .ref a → ∃ ob, s.heap.get? a = some ob ∧ ob.dict = none := fun a e => by
  injection e with e; subst e; obtain ⟨n, h⟩ := h; exact ⟨_, F.get h, rfl⟩
theorem dk_noDict {d : Addr} {xs : KVs} (F : At B W D0 s0 L vars D s) (hd : DK prog w D d xs) : ∀ a, Value.ref d = .ref a → ∃ ob, s.heap.get? a = some ob ∧ ob.dict = none := fun a e => by
  injection e with e; subst e; obtain ⟨n, h⟩ := hd.obj; exact ⟨_, F.get h, rfl⟩
theorem r_getD {d : Addr} {xs : KVs} {k : Key} {kv v : Value} {Q : Value → Shared → Prop} (F : At B W D0 s0 L vars D s) (hd : DK prog w D d xs) (hk : KeyL prog w D k kv) (hv : look xs k = some v)
    (hu : A.units + 1 < cLine) (h : ∀ s', At B W D0 s0 L vars D s' → Q v s') : wpAny (model prog w) A (getItem (.ref d) kv) Q E s := by
  have hT := dk_type F hd
  unfold getItem
  try with_reducible refine wpAny_holding ?_
  refine wpAny_bind (wpAny_sequenceKey hT (by decide) ?_)
  refine wpAny_bind (wpAny_callSpecial?_slot (name := Str.ofString "__getitem__") hT slot_dict_getitem
    (wpAny_call_entry slot_dict_getitem hT entry_dict_getitem ?_ (args_dict_getitem _ _)))
  show wpAny _ _ (dictGet d kv >>= _) _ _ s
  refine wpAny_bind (dget F.fits hu hk hd ?_)
  rw [hv]
  exact wpAny_pure ⟨v, rfl, wpAny_pure (h _ (F.toks _))⟩
theorem r_itemD {d : Addr} {xs : KVs} {k : Key} {kv v : Value} {Q : Value → Shared → Prop} (F : At B W D0 s0 L vars D s) (hd : DK prog w D d xs) (hk : KeyL prog w D k kv) (hv : look xs k = some v)
    (hu : A.units + 1 < cLine) (h : ∀ s', At B W D0 s0 L vars D s' → Q v s') : ItemOn (model prog w) A E (.ref d) kv Q s :=
  ⟨"dict", _, slot_dict_getitem.lookup, dk_type F hd, r_getD F hd hk hv hu h⟩
theorem r_setD {d : Addr} {xs : KVs} {k : Key} {kv v : Value} {Q : Unit → Shared → Prop} (F : At B W D0 s0 L vars D s) (hd : DK prog w D d xs) (hk : KeyL prog w D k kv) (hw : d ∈ W ∨ s0.heap.get? d = none)
    (hz : xs.length ≤ 1000) (hu : A.units + 1 < cLine)
    (h : ∀ n s', At B W D0 s0 L vars (D.put d (dctO ((putK xs k kv v).map (ent prog w)).toArray n)) s' → DK prog w (D.put d (dctO ((putK xs k kv v).map (ent prog w)).toArray n)) d (putK xs k kv v) → Q () s') :
    wpAny (model prog w) A (setItem (.ref d) kv v) Q E s := by
  have hT := dk_type F hd
  unfold setItem
  try with_reducible refine wpAny_holding ?_
  refine wpAny_bind (wpAny_sequenceKey hT (by decide) ?_)
  refine wpAny_bind (wpAny_callSpecial?_slot (name := Str.ofString "__setitem__") hT slot_dict_setitem
    (wpAny_call_entry slot_dict_setitem hT entry_dict_setitem ?_ (args_dict_setitem _ _ _)))
  show wpAny _ _ (Builtin.Dict.notOrdered "__setitem__" ⟨[.ref d, kv, v], []⟩ >>= _) _ _ s
  refine wpAny_bind (wpAny_notOrdered_dict hT ?_)
  show wpAny _ _ (dictSet d kv v >>= _) _ _ s
  obtain ⟨n0, ho⟩ := hd.obj
  exact wpAny_bind (dset F.fits hu hk hd hz fun n h' hs hg => wpAny_pure ⟨.none, rfl, wpAny_pure (h n _ (F.upd ho hw hs hg _) (hd.set hk))⟩)
theorem r_contains {d : Addr} {xs : KVs} {k : Key} {kv : Value} {Q : Bool → Shared → Prop} (F : At B W D0 s0 L vars D s) (hd : DK prog w D d xs) (hk : KeyL prog w D k kv) (hm : (d == sysModules) = false)
    (hu : A.units + 1 < cLine) (h : ∀ s', At B W D0 s0 L vars D s' → Q (decide (k ∈ xs.map (·.1))) s') : wpAny (model prog w) A (contains (.ref d) kv) Q E s := by
  have hT := dk_type F hd
  unfold contains
  try with_reducible refine wpAny_holding ?_
  refine wpAny_bind (wpAny_specialOf hT slot_dict_contains.lookup ?_)
  show wpAny _ _ (if (some (Value.builtin "dict.__contains__") == some Value.none) = true then _ else _) _ E s
  rw [if_neg (by rw [beq_builtin_none]; exact Bool.false_ne_true)]
  refine wpAny_bind (wpAny_callSpecialUnlessNone?_slot (name := Str.ofString "__contains__") hT slot_dict_contains
    (wpAny_call_entry slot_dict_contains hT entry_dict_contains ?_ (args_dict_contains _ _)))
  show wpAny _ _ (dictGet d kv >>= _) _ _ s
  refine wpAny_bind (dget F.fits hu hk hd ?_)
  cases hf : look xs k with
  | some v =>
    rw [decide_eq_true (look_isSome.mp (by rw [hf]; rfl))] at h
    show wpAny _ _ (ret (.bool true)) _ _ _
    exact wpAny_pure ⟨_, rfl, wpAny_truthy_bool (h _ (F.toks _))⟩
  | none =>
    rw [decide_eq_false (look_none.mp hf)] at h
    show wpAny _ _ (Builtin.Dict.pendingKey? d kv >>= _) _ _ _
    exact wpAny_bind (wpAny_pendingKey_other hm (wpAny_pure ⟨_, rfl, wpAny_truthy_bool (h _ (F.toks _))⟩))
theorem r_inD {d : Addr} {xs : KVs} {k : Key} {kv : Value} {Q : Value → Shared → Prop} (F : At B W D0 s0 L vars D s) (hd : DK prog w D d xs) (hk : KeyL prog w D k kv) (hm : (d == sysModules) = false)
    (hu : A.units + 1 < cLine) (h : ∀ s', At B W D0 s0 L vars D s' → Q (.bool (decide (k ∈ xs.map (·.1)))) s') : wpAny (model prog w) A (compareOp .In kv (.ref d)) Q E s := by
  show wpAny _ _ (do return .bool (← contains (.ref d) kv)) Q E s
  exact wpAny_bind (r_contains F hd hk hm hu fun s' F' => wpAny_pure (h s' F'))
theorem r_notInD {d : Addr} {xs : KVs} {k : Key} {kv : Value} {Q : Value → Shared → Prop} (F : At B W D0 s0 L vars D s) (hd : DK prog w D d xs) (hk : KeyL prog w D k kv) (hm : (d == sysModules) = false)
    (hu : A.units + 1 < cLine) (h : ∀ s', At B W D0 s0 L vars D s' → Q (.bool (!decide (k ∈ xs.map (·.1)))) s') : wpAny (model prog w) A (compareOp .NotIn kv (.ref d)) Q E s := by
  show wpAny _ _ (do return .bool (!(← contains (.ref d) kv))) Q E s
  exact wpAny_bind (r_contains F hd hk hm hu fun s' F' => wpAny_pure (h s' F'))
theorem meets_get2 {d : Addr} {xs : KVs} {k : Key} {kv dflt : Value} (hm : (d == sysModules) = false) :
    MeetsIn prog w (Builtin.«dict.get» ⟨[.ref d, kv, dflt], []⟩) (fun A R s => A.units + 1 < cLine ∧ ∃ D, Fits D s ∧ KeyL prog w D k kv ∧ DK prog w D d xs ∧
      R (.ok (.ret ((look xs k).getD dflt))) { s with toks := s.toks + keyDraws k }) :=
  .of_wp fun A R s ⟨hu, D, F, hk, hd, h⟩ => by
    show wpAny _ _ (dictGet d kv >>= _) _ _ s
    refine wpAny_bind (dget F hu hk hd ?_)
    cases hf : look xs k with
    | some v =>
      rw [hf] at h
      exact wpAny_pure ⟨v, rfl, h⟩
    | none =>
      rw [hf] at h
      show wpAny _ _ (Builtin.Dict.missed d kv >>= _) _ _ _
      exact wpAny_bind (wpAny_missed_other hm (wpAny_pure ⟨dflt, rfl, h⟩))
theorem r_get2 {d : Addr} {xs : KVs} {k : Key} {kv dflt : Value} {Q : Value → Shared → Prop} (F : At B W D0 s0 L vars D s) (hd : DK prog w D d xs) (hk : KeyL prog w D k kv) (hm : (d == sysModules) = false)
    (hu : A.units + 1 < cLine) (h : ∀ s', At B W D0 s0 L vars D s' → Q ((look xs k).getD dflt) s') : wpAny (model prog w) A (call (.builtin "dict.get") [.ref d, kv, dflt]) Q E s :=
  call_meetsIn PySem.F.slot_dict_get (dk_type F hd) PySem.F.entry_dict_get (PySem.F.args_dict_get_3 _ _ _) (meets_get2 (k := k) (xs := xs) hm) ⟨hu, D, F.fits, hk, hd, h _ (F.toks _)⟩
/-! lists -/
theorem r_append {l : Addr} {vs : List Value} {v : Value} {Q : Value → Shared → Prop} (F : At B W D0 s0 L vars D s) (hl : LV D l vs) (hw : l ∈ W ∨ s0.heap.get? l = none) (hz : vs.length ≤ 1000000)
    (h : ∀ n s', At B W D0 s0 L vars (D.put l (lstO (vs ++ [v]).toArray n)) s' → Q .none s') : wpAny (model prog w) A (call (.builtin "list.append") [.ref l, v]) Q E s := by
  have hT := lv_type F hl
  obtain ⟨n, ho⟩ := hl
  have hg := F.get ho
  refine call_meets PySem.F.slot_list_append hT PySem.F.entry_list_append (PySem.F.args_list_append_2 _ _) (list_append l vs.toArray n v (by rw [List.size_toArray, sizeLine]; omega)) ⟨hg, ?_⟩
  refine h (n + 1) _ (F.upd ho hw (Heap.SameBut.update ..) ?_ _)
  rw [Heap.get?_update_self _ hg rfl]
  simp [lstO, Obj.mapSeq]
theorem r_pop {l : Addr} {vs : List Value} {v : Value} {Q : Value → Shared → Prop} (F : At B W D0 s0 L vars D s) (hl : LV D l (vs ++ [v])) (hw : l ∈ W ∨ s0.heap.get? l = none) (hz : vs.length ≤ 1000000)
    (h : ∀ n s', At B W D0 s0 L vars (D.put l (lstO vs.toArray n)) s' → Q v s') : wpAny (model prog w) A (call (.builtin "list.pop") [.ref l]) Q E s := by
  have hT := lv_type F hl
  obtain ⟨n, ho⟩ := hl
  have hg := F.get ho
  have hlast : (vs ++ [v]).toArray[(vs ++ [v]).toArray.size - 1]? = some v := by simp
  refine call_meets PySem.F.slot_list_pop hT PySem.F.entry_list_pop (PySem.F.args_list_pop_1 _) (PySem.MeetsSeq.list_pop_last l (vs ++ [v]).toArray n v hlast (by rw [List.size_toArray, sizeLine]; simp; omega)) ⟨hg, ?_⟩
  refine h (n + 1) _ (F.upd ho hw (Heap.SameBut.update ..) ?_ _)
  rw [Heap.get?_update_self _ hg rfl]
  simp [lstO, Obj.mapSeq, List.eraseIdx_append_of_length_le]
theorem r_len {l : Addr} {vs : List Value} {Q : Value → Shared → Prop} (F : At B W D0 s0 L vars D s) (hl : LV D l vs) (hz : vs.length ≤ 1000000)
    (h : ∀ t s', At B W D0 s0 L vars D s' → Q (.int vs.length t) s') : wpAny (model prog w) A (call (.builtin "len") [.ref l]) Q E s := by
  refine PySem.Calls.call_len_list (lv_is F hl) (by rw [List.size_toArray]; omega) ?_
  rw [List.size_toArray]
  exact h _ _ (F.toks _)
theorem r_itemL {l : Addr} {vs : List Value} {k : Int} {t : Tok} {v : Value} {Q : Value → Shared → Prop} (F : At B W D0 s0 L vars D s) (hl : LV D l vs) (h0 : 0 ≤ k) (h1 : k < 1000000) (hv : vs[k.toNat]? = some v)
    (h : Q v s) : ItemOn (model prog w) A E (.ref l) (.int k t) Q s :=
  ⟨"list", _, slot_list_getitem.lookup, lv_type F hl, wpAny_getItem_list (lv_is F hl) h0 (by omega) (by simpa using hv) h⟩
theorem r_lastL {l : Addr} {vs : List Value} {t : Tok} {v : Value} {Q : Value → Shared → Prop} (F : At B W D0 s0 L vars D s) (hl : LV D l (vs ++ [v]))
    (h : Q v s) : ItemOn (model prog w) A E (.ref l) (.int (-1) t) Q s := by
  refine ⟨"list", _, slot_list_getitem.lookup, lv_type F hl, wpAny_getItem_list_neg (lv_is F hl) (by decide) ?_ (by decide) ?_ h⟩
  · simp; omega
  · have : ((-1 : Int) + ((vs ++ [v]).toArray.size : Int)).toNat = vs.length := by simp; omega
    rw [this]; simp
theorem r_notInKeys {l : Addr} {ks : List Key} {vs : List Value} {k : Key} {v : Value} {Q : Value → Shared → Prop} (F : At B W D0 s0 L vars D s) (hl : LV D l vs) (hks : KeysL prog w D ks vs) (hk : KeyL prog w D k v)
    (ok : ∀ k ∈ ks, k.ok) (ok' : k.ok) (hu : A.units + 3 < cLine) (h : Q (.bool (!decide (k ∈ ks))) s) : wpAny (model prog w) A (compareOp .NotIn v (.ref l)) Q E s := by
  obtain ⟨e, he, hany, _⟩ := hks.test (A := A.in1) F.fits hk ok ok' (by show A.units + 1 + 2 < cLine; omega)
  refine PySem.SeqAt.notIn_listAt e (lv_is F hl) (fun y hy => he y (by simpa using hy)) ?_
  rw [show (vs.toArray.any e) = vs.any e by simp, hany]; exact h
theorem r_inKeys {l : Addr} {ks : List Key} {vs : List Value} {k : Key} {v : Value} {Q : Value → Shared → Prop} (F : At B W D0 s0 L vars D s) (hl : LV D l vs) (hks : KeysL prog w D ks vs) (hk : KeyL prog w D k v)
    (ok : ∀ k ∈ ks, k.ok) (ok' : k.ok) (hu : A.units + 3 < cLine) (h : Q (.bool (decide (k ∈ ks))) s) : wpAny (model prog w) A (compareOp .In v (.ref l)) Q E s := by
  obtain ⟨e, he, hany, _⟩ := hks.test (A := A.in1) F.fits hk ok ok' (by show A.units + 1 + 2 < cLine; omega)
  refine PySem.SeqAt.in_listAt e (lv_is F hl) (fun y hy => he y (by simpa using hy)) ?_
  rw [show (vs.toArray.any e) = vs.any e by simp, hany]; exact h
theorem r_countKeys {l : Addr} {ks : List Key} {vs : List Value} {k : Key} {v : Value} {Q : Value → Shared → Prop} (F : At B W D0 s0 L vars D s) (hl : LV D l vs) (hks : KeysL prog w D ks vs) (hk : KeyL prog w D k v)
    (ok : ∀ k ∈ ks, k.ok) (ok' : k.ok) (hu : A.units + 3 < cLine) (h : ∀ t s', At B W D0 s0 L vars D s' → Q (.int (ks.count k : Nat) t) s') : wpAny (model prog w) A (call (.builtin "list.count") [.ref l, v]) Q E s := by
  obtain ⟨e, he, _, hc⟩ := hks.test (A := A.in1) F.fits hk ok ok' (by show A.units + 1 + 2 < cLine; omega)
  have hT := lv_type F hl
  obtain ⟨n, ho⟩ := hl
  have hg := F.get ho
  refine call_meets PySem.F.slot_list_count hT PySem.F.entry_list_count (PySem.F.args_list_count_2 _ _) (PySem.SeqAt.list_countAt l vs.toArray n none #[] v e) ⟨hg, fun y hy => he y (by simpa using hy), ?_⟩
  show Q (.int (vs.countP e : Nat) s.toks) _
  rw [hc]
  exact h _ _ (F.toks _)
theorem r_notInInts {l : Addr} {is : List Int} {vs : List Value} {i : Int} {t : Tok} {Q : Value → Shared → Prop} (F : At B W D0 s0 L vars D s) (hl : LV D l vs) (his : IntsL is vs)
    (h : Q (.bool (!decide (i ∈ is))) s) : wpAny (model prog w) A (compareOp .NotIn (.int i t) (.ref l)) Q E s := by
  obtain ⟨e, he, hany⟩ := his.test (A := A.in1) (s := s) (i := i) (t := t)
  refine PySem.SeqAt.notIn_listAt e (lv_is F hl) (fun y hy => he y (by simpa using hy)) ?_
  rw [show (vs.toArray.any e) = vs.any e by simp, hany]; exact h
theorem r_keyNe {k k' : Key} {v v' : Value} {Q : Value → Shared → Prop} (F : At B W D0 s0 L vars D s) (hk : KeyL prog w D k v) (hk' : KeyL prog w D k' v') (ok : k.ok) (ok' : k'.ok) (hu : A.units + 3 < cLine)
    (h : Q (.bool (!decide (k = k'))) s) : wpAny (model prog w) A (compareOp .NotEq v v') Q E s := by
  obtain ⟨as, r⟩ := hk.reads F.fits
  obtain ⟨bs, r'⟩ := hk'.reads F.fits
  refine PySem.SeqAt.compareNe_reads r r' ok ok' ?_ ?_
  · have h1 := depth_key k
    have h2 : min (keyD k).depth (keyD k').depth ≤ (keyD k).depth := Nat.min_le_left _ _
    omega
  · rw [eqv_key]; exact h
end
end Mine
end

section
open PySem PySem.W PyProof.Rows
set_option Elab.async false
set_option maxRecDepth 100000
namespace Mine
/-! the text's defs -/
def fnAt (i : Nat) : Stmt := PySem.Challenge.pw_qb0001_01.main.body.getD i (.Pass default)
def fBody : Stmt → List Stmt | .FunctionDef _ _ b _ _ _ _ _ _ _ => b | _ => []
def fScope : Stmt → Scope | .FunctionDef _ _ _ _ _ _ s _ _ _ => s | _ => default
def fParams : Stmt → Arguments | .FunctionDef _ a _ _ _ _ _ _ _ _ => a | _ => default
def hLed (h : Heap) : Led := fun a => h.get? a
def FnIs (h : Heap) (mg : Str → Option Value) (name : Str) (i : Nat) : Prop :=
  ∃ a o pm cd doc, mg name = some (.ref a) ∧ h.get? a = some o ∧ o.data = .func (PySem.Calls.docDef name (fParams (fnAt i)) (fBody (fnAt i)) (fScope (fnAt i)) pm cd doc) ∧ h.CodeRec cd name
structure Glo (h : Heap) (mg mb : Str → Option Value) : Prop where
  g : h.Ns mainGlobals mg
  b : h.Ns builtinsNs mb
  lim : h.NoLimit
  mods : ∃ o, h.get? sysModules = some o
  blt : ∀ x : Str, x ≠ "__name__" → mb x = bootBuiltins x
  miss : ∀ x : Str, x ∈ (["len", "min", "list", "range", "enumerate", "all"] : List Str) → mg x = none
  maxint : ∃ t, mg "MAXINT" = some (.int 9223372036854775807 t)
  trv : FnIs h mg "traverse" 2
  drawn : FnIs h mg "_law_drawn" 4
  walked : FnIs h mg "_law_walked" 5
  said : FnIs h mg "_law_said" 6
  once : FnIs h mg "_law_once" 7
/-- room for k more calls -/
structure Room (A : Around) (k : Nat) : Prop where
  hand : A.handled = none
  depth : A.depth + k < 900
  units : A.units + 20 * k < 9000
theorem Room.deeper {A : Around} {k : Nat} {env : Env} (R : Room A (k + 1)) : Room (A.deeper env) k :=
  ⟨R.hand, by have := R.depth; show A.depth + 1 + k < 900; omega, by have := R.units; show A.units + 3 + 20 * k < 9000; omega⟩
theorem Room.less {A : Around} {k j : Nat} (R : Room A k) (h : j ≤ k) : Room A j := ⟨R.hand, by have := R.depth; omega, by have := R.units; omega⟩
theorem Room.u {A : Around} {k n : Nat} (R : Room A k) (h : n ≤ 800) : A.units + n < cLine := by have := R.units; show A.units + n < 9900; omega
theorem Room.d {A : Around} {k : Nat} (R : Room A k) : A.depth < recursionLimit := by have := R.depth; show A.depth < 1000; omega
section
variable {prog : Program} {w : World} {A : Around} {E : Value → Shared → Prop} {h₁ : Heap} {mg mb : Str → Option Value} {W : List Addr} {D0 : Led} {s0 : Shared} {L : Addr} {vars : Vars} {D : Led} {s : Shared} {env : Env}
theorem At.kept {s : Shared} (F : At (hLed h₁) W D0 s0 L vars D s) : ∀ b o, h₁.get? b = some o → s.heap.get? b = some o := fun _ _ e => F.baseGet e
theorem At.notMods {d : Addr} (F : At (hLed h₁) W D0 s0 L vars D s) (G : Glo h₁ mg mb) (h : d ∈ W ∨ s0.heap.get? d = none) : (d == sysModules) = false := by
  refine beq_eq_false_iff_ne.mpr fun e => ?_
  obtain ⟨o, ho⟩ := G.mods
  have := F.bOf h
  rw [e] at this
  rw [show hLed h₁ sysModules = h₁.get? sysModules from rfl, ho] at this
  cases this
theorem r_glob {x : Str} {pos : Pos} {v : Value} {Q : Value → Shared → Prop} (F : At (hLed h₁) W D0 s0 L vars D s) (G : Glo h₁ mg mb) (hv : mg x = some v) (h : Q v s)
    (hg : env.globals = mainGlobals := by rfl) (hk : env.scope.kind = .function := by rfl) (hl : env.kindOf x = some .globalImplicit := by rfl) (hd : (x == ("__debug__" : Str)) = false := by rfl) :
    wpAny (model prog w) A (eval (.Name x pos) env) Q E s :=
  PySem.Calls.Name_function_global hk hl (PySem.Calls.loadGlobal_global (hg ▸ G.g.keeps F.kept) hv h) hd
theorem r_blt {x : Str} {pos : Pos} {v : Value} {Q : Value → Shared → Prop} (F : At (hLed h₁) W D0 s0 L vars D s) (G : Glo h₁ mg mb) (hx : x ∈ (["len", "min", "list", "range", "enumerate", "all"] : List Str)) (hv : bootBuiltins x = some v) (h : Q v s)
    (hg : env.globals = mainGlobals := by rfl) (hb : env.builtins = builtinsNs := by rfl) (hk : env.scope.kind = .function := by rfl) (hl : env.kindOf x = some .globalImplicit := by rfl) (hd : (x == ("__debug__" : Str)) = false := by rfl) (hn : x ≠ "__name__" := by decide) :
    wpAny (model prog w) A (eval (.Name x pos) env) Q E s :=
  PySem.Calls.Name_function_global hk hl (PySem.Calls.loadGlobal_builtin (hg ▸ G.g.keeps F.kept) (G.miss x hx) (hb ▸ G.b.keeps F.kept) ((G.blt x hn).trans hv) h) hd
/-! a call of a plain def of the text -/
theorem lookup_rev_of_nodup {l : Vars} (hn : (l.map (·.1)).Nodup) {p : Str × Value} (hp : p ∈ l) : l.reverse.lookup p.1 = some p.2 := by
  have hn' : (l.reverse.map (·.1)).Nodup := by rw [List.map_reverse]; exact List.pairwise_reverse.mpr (hn.imp fun h => Ne.symm h)
  have hp' : p ∈ l.reverse := List.mem_reverse.mpr hp
  generalize l.reverse = r at hn' hp'
  induction r with
  | nil => cases hp'
  | cons q r ih =>
    obtain ⟨y, u⟩ := q
    rw [List.map_cons, List.nodup_cons] at hn'
    rw [List.lookup_cons]
    rcases List.mem_cons.mp hp' with e | e
    · subst e; simp
    · have : (p.1 == y) = false := beq_eq_false_iff_ne.mpr fun q => hn'.1 (q ▸ List.mem_map.mpr ⟨p, e, rfl⟩)
      rw [this]; exact ih hn'.2 e
theorem r_call {name : Str} {params : Arguments} {body : List Stmt} {scope : Scope} {pm cd doc : Value} {a : Addr} {o : Obj} {args : List Value} {binds : Vars} {W' : List Addr} {Q : Value → Shared → Prop}
    (hF : Fits D s) (hB : ∀ a o, hLed h₁ a = some o → D a = some o) (hW : ∀ b ∈ W', hLed h₁ b = none)
    (G : Glo h₁ mg mb) (ho : h₁.get? a = some o) (hdata : o.data = .func (PySem.Calls.docDef name params body scope pm cd doc)) (hcd : h₁.CodeRec cd name)
    (hroom : A.depth < recursionLimit)
    (hbind : bindArgs (PySem.Calls.docDef name params body scope pm cd doc) ⟨args, []⟩ = pure binds)
    (hloc : ∀ x ∈ binds, scope.names.lookup x.1 = some .local) (hnd : (binds.map (·.1)).Nodup)
    (h : ∀ s', At (hLed h₁) W' D s s.heap.objs.size binds D s' →
      wpAny (model prog w) (A.deeper (envOf name scope s.heap.objs.size a cd)) (execs body (envOf name scope s.heap.objs.size a cd))
        (fun f s'' => Q (match f with | .ret v => v | _ => .none) s'') (fun _ _ => False) s')
    (hco : scope.isCoroutine = false) (hgen : scope.isGenerator = false) (hk : scope.kind = .function)
    (hcell : ∀ x ∈ scope.names, x.2 ≠ .cell) :
    wpAny (model prog w) A (call (.ref a) args) Q E s := by
  have kept : ∀ b o, h₁.get? b = some o → s.heap.get? b = some o := fun b o e => hF b o (hB b o e)
  refine wpAny_call (call_plain_ret hroom (kept _ _ ho) hdata (G.lim.keeps kept) (hcd.keeps kept) hbind hloc (fun h' Fr' => ?_) hco hgen hk hcell)
  refine wpAny_mono (h _ ?_) (fun _ _ x => x) fun _ _ x => x
  exact ⟨(Tr.same (W := []) hF (fun b o _ e => Fr'.keep b o e) (fun b hb => nomatch hb) (fun b hb => nomatch hb) _).weaken (fun b hb => nomatch hb), ⟨_, Fr'.ns, fun p hp => lookup_rev_of_nodup hnd hp⟩, get?_ge (Nat.le_refl _), hF.fresh (Nat.le_refl _), hB, hB, hW⟩
end
end Mine
end

section
open PySem PySem.W PyProof.Rows
set_option Elab.async false
set_option maxRecDepth 100000
namespace Mine
section
variable {prog : Program} {w : World} {A : Around} {E : Value → Shared → Prop} {s : Shared} {env : Env}
/-! methods in the text -/
theorem e_meth0 {o : Expr} {name : Str} {apos pos : Pos} {T id : String} {Q : Value → Shared → Prop} (pa : PlainAttrs T) (slot : Slot T name id) (hty : typeOf (.builtin id) = pure (.type "method_descriptor"))
    (h : wpAny (model prog w) A (eval o env) (fun ov s₁ => s₁.TypeIs ov T ∧ (∀ a, ov = .ref a → ∃ ob, s₁.heap.get? a = some ob ∧ ob.dict = none) ∧ wpAny (model prog w) A (call (.builtin id) [ov]) Q E s₁) E s)
    (hbase : attributeBase o name env (eval o env) = eval o env := by rfl) (hline : (apos.endLine == pos.line) = true := by rfl) :
    wpAny (model prog w) A (eval (.Call (.Attribute o name apos) [] [] pos) env) Q E s :=
  wpAny_Call_method hbase rfl hline pa slot hty (wpAny_mono h (fun ov s₁ h₁ => ⟨h₁.1, h₁.2.1, callWith_method0 h₁.2.2⟩) fun _ _ e => e)
theorem e_meth1 {o e : Expr} {name : Str} {apos pos : Pos} {T id : String} {Q : Value → Shared → Prop} (pa : PlainAttrs T) (slot : Slot T name id) (hty : typeOf (.builtin id) = pure (.type "method_descriptor"))
    (h : wpAny (model prog w) A (eval o env) (fun ov s₁ => s₁.TypeIs ov T ∧ (∀ a, ov = .ref a → ∃ ob, s₁.heap.get? a = some ob ∧ ob.dict = none) ∧
      wpAny (model prog w) A (eval e env) (fun v s₂ => wpAny (model prog w) A (call (.builtin id) [ov, v]) Q E s₂) E s₁) E s)
    (hbase : attributeBase o name env (eval o env) = eval o env := by rfl) (hline : (apos.endLine == pos.line) = true := by rfl)
    (he : starEach [e] env = [(false, eval e env)] := by rfl) :
    wpAny (model prog w) A (eval (.Call (.Attribute o name apos) [e] [] pos) env) Q E s :=
  wpAny_Call_method hbase (by rw [he]; rfl) hline pa slot hty (wpAny_mono h (fun ov s₁ h₁ => ⟨h₁.1, h₁.2.1, callWith_method1 (args_cons (wpAny_mono h₁.2.2 (fun v s₂ h₂ => args_nil h₂) fun _ _ e => e) he) he rfl⟩) fun _ _ e => e)
theorem e_meth2 {o e e' : Expr} {name : Str} {apos pos : Pos} {T id : String} {Q : Value → Shared → Prop} (pa : PlainAttrs T) (slot : Slot T name id) (hty : typeOf (.builtin id) = pure (.type "method_descriptor"))
    (h : wpAny (model prog w) A (eval o env) (fun ov s₁ => s₁.TypeIs ov T ∧ (∀ a, ov = .ref a → ∃ ob, s₁.heap.get? a = some ob ∧ ob.dict = none) ∧
      wpAny (model prog w) A (eval e env) (fun v s₂ => wpAny (model prog w) A (eval e' env) (fun v' s₃ => wpAny (model prog w) A (call (.builtin id) [ov, v, v']) Q E s₃) E s₂) E s₁) E s)
    (hbase : attributeBase o name env (eval o env) = eval o env := by rfl) (hline : (apos.endLine == pos.line) = true := by rfl)
    (he : starEach [e, e'] env = [(false, eval e env), (false, eval e' env)] := by rfl) (he' : starEach [e'] env = [(false, eval e' env)] := by rfl) :
    wpAny (model prog w) A (eval (.Call (.Attribute o name apos) [e, e'] [] pos) env) Q E s :=
  wpAny_Call_method hbase (by rw [he]; rfl) hline pa slot hty (wpAny_mono h (fun ov s₁ h₁ => ⟨h₁.1, h₁.2.1, callWith_method1 (args_cons (wpAny_mono h₁.2.2 (fun v s₂ h₂ => args_cons (wpAny_mono h₂ (fun v' s₃ h₃ => args_nil h₃) fun _ _ e => e) he') fun _ _ e => e) (by rw [he, he'])) (by rw [he, he']) (by rw [he']; rfl)⟩) fun _ _ e => e)
theorem e_append {o e : Expr} {apos pos : Pos} {Q : Value → Shared → Prop}
    (h : wpAny (model prog w) A (eval o env) (fun ov s₁ => s₁.TypeIs ov "list" ∧ (∀ a, ov = .ref a → ∃ ob, s₁.heap.get? a = some ob ∧ ob.dict = none) ∧
      wpAny (model prog w) A (eval e env) (fun v s₂ => wpAny (model prog w) A (call (.builtin "list.append") [ov, v]) Q E s₂) E s₁) E s)
    (hbase : attributeBase o "append" env (eval o env) = eval o env := by rfl) (hline : (apos.endLine == pos.line) = true := by rfl)
    (he : starEach [e] env = [(false, eval e env)] := by rfl) :
    wpAny (model prog w) A (eval (.Call (.Attribute o "append" apos) [e] [] pos) env) Q E s :=
  e_meth1 PySem.F.plainAttrs_list PySem.F.slot_list_append PySem.F.type_list_append h hbase hline he
theorem e_pop {o : Expr} {apos pos : Pos} {Q : Value → Shared → Prop}
    (h : wpAny (model prog w) A (eval o env) (fun ov s₁ => s₁.TypeIs ov "list" ∧ (∀ a, ov = .ref a → ∃ ob, s₁.heap.get? a = some ob ∧ ob.dict = none) ∧ wpAny (model prog w) A (call (.builtin "list.pop") [ov]) Q E s₁) E s)
    (hbase : attributeBase o "pop" env (eval o env) = eval o env := by rfl) (hline : (apos.endLine == pos.line) = true := by rfl) :
    wpAny (model prog w) A (eval (.Call (.Attribute o "pop" apos) [] [] pos) env) Q E s :=
  e_meth0 PySem.F.plainAttrs_list PySem.F.slot_list_pop PySem.F.type_list_pop h hbase hline
theorem e_get {o e e' : Expr} {apos pos : Pos} {Q : Value → Shared → Prop}
    (h : wpAny (model prog w) A (eval o env) (fun ov s₁ => s₁.TypeIs ov "dict" ∧ (∀ a, ov = .ref a → ∃ ob, s₁.heap.get? a = some ob ∧ ob.dict = none) ∧
      wpAny (model prog w) A (eval e env) (fun v s₂ => wpAny (model prog w) A (eval e' env) (fun v' s₃ => wpAny (model prog w) A (call (.builtin "dict.get") [ov, v, v']) Q E s₃) E s₂) E s₁) E s)
    (hbase : attributeBase o "get" env (eval o env) = eval o env := by rfl) (hline : (apos.endLine == pos.line) = true := by rfl)
    (he : starEach [e, e'] env = [(false, eval e env), (false, eval e' env)] := by rfl) (he' : starEach [e'] env = [(false, eval e' env)] := by rfl) :
    wpAny (model prog w) A (eval (.Call (.Attribute o "get" apos) [e, e'] [] pos) env) Q E s :=
  e_meth2 PySem.F.plainAttrs_dict PySem.F.slot_dict_get PySem.F.type_dict_get h hbase hline he he'
/-! an item -/
theorem e_sub {value slice : Expr} {pos : Pos} {Q : Value → Shared → Prop}
    (h : wpAny (model prog w) A (eval value env) (fun o s₁ => wpAny (model prog w) A (eval slice env) (fun i s₂ => ItemOn (model prog w) A E o i Q s₂) E s₁) E s)
    (hsl : ∀ o i, subscripted slice false o i = operate [o, i] (getItem o i) := by intro _ _; rfl) :
    wpAny (model prog w) A (eval (.Subscript value slice pos) env) Q E s := by
  rw [eval_Subscript]
  refine wpAny_bind (wpAny_mono h (fun o s₁ h₁ => wpAny_bind (wpAny_holding (wpAny_mono h₁ (fun i s₂ h₂ => wpAny_bind (wpAny_standAt ?_)) fun _ _ x => x)))
    fun _ _ x => x)
  obtain ⟨T, id, hl, hT, hg⟩ := h₂
  refine wpAny_bind ?_
  rw [getitemInPython_of_ne hT.not_modules]
  refine wpAny_bind (wpAny_specialOf hT hl ?_)
  have fin : wpAny (model prog w) A (operate [o, i] (getItem o i)) (fun r s₃ => wpAny (model prog w) A (letTemporaryGo value o r >>= fun _ => pure r) Q E s₃) E s₂ :=
    wpAny_operating (wpAny_mono hg (fun r s₃ h₃ => wpAny_bind (wpAny_letTemporaryGo (wpAny_pure h₃))) fun _ _ x => x)
  refine wpAny_pure ?_
  rw [hsl]
  exact wpAny_bind fin
/-! a call by a name -/
theorem e_blt1 {f e : Expr} {pos : Pos} {Q : Value → Shared → Prop} (id : String)
    (h : wpAny (model prog w) A (eval f env) (fun fv s₁ => fv = .builtin id ∧ wpAny (model prog w) A (eval e env) (fun v s₂ => wpAny (model prog w) A (call (.builtin id) [v]) Q E s₂) E s₁) E s)
    (hc : eval (.Call f [e] [] pos) env = (do callWith pos (← eval f env) [] (backTo pos (starEach [e] env)) (backToKw pos (keywordEach [] env))) := by rfl)
    (he : starEach [e] env = [(false, eval e env)] := by rfl) :
    wpAny (model prog w) A (eval (.Call f [e] [] pos) env) Q E s :=
  Call_ (wpAny_mono h (fun fv s₁ h₁ => by
    rw [h₁.1]; exact callWith_builtin1 (args_cons (wpAny_mono h₁.2 (fun v s₂ h₂ => args_nil h₂) fun _ _ e => e) he) he rfl) fun _ _ e => e) hc
theorem e_blt2 {f e e' : Expr} {pos : Pos} {Q : Value → Shared → Prop} (id : String)
    (h : wpAny (model prog w) A (eval f env) (fun fv s₁ => fv = .builtin id ∧ wpAny (model prog w) A (eval e env) (fun v s₂ => wpAny (model prog w) A (eval e' env) (fun v' s₃ => wpAny (model prog w) A (call (.builtin id) [v, v']) Q E s₃) E s₂) E s₁) E s)
    (hc : eval (.Call f [e, e'] [] pos) env = (do callWith pos (← eval f env) [] (backTo pos (starEach [e, e'] env)) (backToKw pos (keywordEach [] env))) := by rfl)
    (he : starEach [e, e'] env = [(false, eval e env), (false, eval e' env)] := by rfl) (he' : starEach [e'] env = [(false, eval e' env)] := by rfl) :
    wpAny (model prog w) A (eval (.Call f [e, e'] [] pos) env) Q E s :=
  Call_ (wpAny_mono h (fun fv s₁ h₁ => by
    rw [h₁.1]; exact callWith_builtin1 (args_cons (wpAny_mono h₁.2 (fun v s₂ h₂ => args_cons (wpAny_mono h₂ (fun v' s₃ h₃ => args_nil h₃) fun _ _ e => e) he') fun _ _ e => e) (by rw [he, he'])) (by rw [he, he']) (by rw [he']; rfl)) fun _ _ e => e) hc
/-- a def that stands in the heap, called -/
theorem e_call {f e : Expr} {rest : List Expr} {pos : Pos} {Q : Value → Shared → Prop}
    (h : wpAny (model prog w) A (eval f env) (fun fv s₁ => ∃ a o fd, fv = .ref a ∧ o.data = .func fd ∧ wpAny (model prog w) A (spliced (backTo pos (starEach (e :: rest) env))) (fun vs s₂ => s₂.heap.get? a = some o ∧ wpAny (model prog w) A (call (.ref a) vs) Q E s₂) E s₁) E s)
    (hc : eval (.Call f (e :: rest) [] pos) env = (do callWith pos (← eval f env) [] (backTo pos (starEach (e :: rest) env)) (backToKw pos (keywordEach [] env))) := by rfl)
    (he : starEach (e :: rest) env = (false, eval e env) :: starEach rest env := by rfl) :
    wpAny (model prog w) A (eval (.Call f (e :: rest) [] pos) env) Q E s :=
  Call_ (wpAny_mono h (fun fv s₁ h₁ => by
    obtain ⟨a, o, fd, rfl, hd, h⟩ := h₁; exact callWith_def hd h he) fun _ _ e => e) hc
end
/-! loops over lists -/
def LIt (D : Led) (it l : Addr) (i : Nat) : Prop := ∃ o, D it = some o ∧ o.cls = .type "list_iterator" ∧ o.data = .fields #[.ref l, .int i 0]
theorem LIt.put_other {D : Led} {it l a : Addr} {i : Nat} {o : Obj} (x : LIt D it l i) (h : it ≠ a) : LIt (D.put a o) it l i := let ⟨o', e, r⟩ := x; ⟨o', by rw [Led.put_other h]; exact e, r⟩
theorem LIt.mono {D D' : Led} {it l : Addr} {i : Nat} (x : LIt D it l i) (h : ∀ o, D it = Option.some o → D' it = Option.some o) : LIt D' it l i := let ⟨o, e, r⟩ := x; ⟨o, h o e, r⟩
theorem LIt.neL {D : Led} {it l a : Addr} {i : Nat} {vs : List Value} (x : LIt D it l i) (y : LV D a vs) : it ≠ a := fun e => by
  obtain ⟨o, ho, hc, _⟩ := x; obtain ⟨n, h⟩ := y; rw [e, h] at ho; injection ho with ho; subst ho; simp [lstO] at hc
theorem LIt.neD {prog : Program} {w : World} {D : Led} {it l a : Addr} {i : Nat} {xs : KVs} (x : LIt D it l i) (y : DK prog w D a xs) : it ≠ a := fun e => by
  obtain ⟨o, ho, hc, _⟩ := x; obtain ⟨n, h⟩ := y.obj; rw [e, h] at ho; injection ho with ho; subst ho; simp [dctO] at hc
theorem LIt.noTup {D : Led} {it l : Addr} {i : Nat} (x : LIt D it l i) : ∀ o, D it = Option.some o → ¬ IsTup o := fun o e => by
  obtain ⟨o', h, hc, _⟩ := x; rw [h] at e; injection e with e; subst e; simp [IsTup, hc]
/-- all but iterators stays -/
def Sub (D D' : Led) : Prop := ∀ a o, D a = some o → o.cls ≠ .type "list_iterator" → D' a = some o
theorem Sub.refl (D : Led) : Sub D D := fun _ _ e _ => e
theorem Sub.trans {D D' D'' : Led} (x : Sub D D') (y : Sub D' D'') : Sub D D'' := fun a o e h => y a o (x a o e h) h
theorem Sub.t {D D' : Led} (x : Sub D D') : TSub D D' := fun a o c e => x a o e (by rw [c.1]; simp)
theorem Sub.new {D : Led} {a : Addr} {o : Obj} (h : D a = none) : Sub D (D.put a o) := fun b o' e _ => by
  rw [Led.put_other (fun q => by rw [q, h] at e; cases e)]; exact e
theorem Sub.off {D D' : Led} {it l : Addr} {i : Nat} (h : LIt D it l i) (x : ∀ a, a ≠ it → D' a = D a) : Sub D D' := fun b o' e hc => by
  rw [x b (fun q => by obtain ⟨o2, e2, c2, _⟩ := h; rw [q, e2] at e; injection e with e; exact hc (e ▸ c2))]; exact e
theorem LV.sub {D D' : Led} {l : Addr} {vs : List Value} (x : LV D l vs) (h : Sub D D') : LV D' l vs := let ⟨n, e⟩ := x; ⟨n, h _ _ e (by simp [lstO])⟩
theorem DK.sub {prog : Program} {w : World} {D D' : Led} {d : Addr} {xs : KVs} (x : DK prog w D d xs) (h : Sub D D') : DK prog w D' d xs :=
  ⟨let ⟨n, e⟩ := x.obj; ⟨n, h _ _ e (by simp [dctO])⟩, fun y hy => (x.keys y hy).mono h.t, x.nodup⟩
section
variable {prog : Program} {w : World} {A : Around} {E : Value → Shared → Prop} {B : Led} {W : List Addr} {D0 : Led} {s0 : Shared} {L : Addr} {vars : Vars} {D : Led} {s : Shared} {env : Env}
theorem r_newList {vs : List Value} {Q : Value → Shared → Prop} (F : At B W D0 s0 L vars D s) (hz : vs.length ≤ 1000000)
    (h : ∀ l s', D l = none → s0.heap.get? l = none → At B W D0 s0 L vars (D.put l (lstO vs.toArray 0)) s' → Q (.ref l) s') : wpAny (model prog w) A (newList vs) Q E s :=
  wpAny_newObj_type (h _ _ (F.fresh (Nat.le_refl _)).1 (F.fresh (Nat.le_refl _)).2 (F.push (lstO vs.toArray 0) rfl s.toks)) (by show vs.toArray.size ≤ sizeLine; rw [List.size_toArray, sizeLine]; omega)
theorem r_newTuple {vs : List Value} {Q : Value → Shared → Prop} (F : At B W D0 s0 L vars D s) (hz : vs.length ≤ 1000000)
    (h : ∀ l s', D l = none → s0.heap.get? l = none → At B W D0 s0 L vars (D.put l (tupO vs.toArray 0)) s' → Q (.ref l) s') : wpAny (model prog w) A (newTuple vs) Q E s :=
  wpAny_newObj_type (h _ _ (F.fresh (Nat.le_refl _)).1 (F.fresh (Nat.le_refl _)).2 (F.push (tupO vs.toArray 0) rfl s.toks)) (by show vs.toArray.size ≤ sizeLine; rw [List.size_toArray, sizeLine]; omega)
theorem r_iter {l : Addr} {vs : List Value} {Q : Value → Shared → Prop} (F : At B W D0 s0 L vars D s) (hl : LV D l vs)
    (h : ∀ it o s', D it = none → s0.heap.get? it = none → At B W D0 s0 L vars (D.put it o) s' → LIt (D.put it o) it l 0 → Q (.ref it) s') : wpAny (model prog w) A (pyIter (.ref l)) Q E s := by
  refine wpAny_pyIter_list (lv_is F hl) ?_
  exact h _ _ _ (F.fresh (Nat.le_refl _)).1 (F.fresh (Nat.le_refl _)).2 (F.push _ rfl _) ⟨_, Led.put_same, rfl, rfl⟩
/-- for y in (a list that stays): an invariant over the place, the names and the ledger -/
theorem r_for {R : Result → Shared → Prop} {y : Str} {py : Pos} {body : List Stmt} {it l : Addr} {vs : List Value} (I : Nat → Vars → Led → Prop)
    (F : At B W D0 s0 L vars D s) (hit : LIt D it l 0) (hw : s0.heap.get? it = none) (h0 : I 0 vars D) (hh : A.handled = none)
    (hl : ∀ i vars D, I i vars D → LV D l vs)
    (mono : ∀ i vars D D', LIt D it l i → (∀ a, a ≠ it → D' a = D a) → I i vars D → I i vars D')
    (turn : ∀ i v vars D s E', vs[i]? = some v → At B W D0 s0 L (Vars.put vars y v) D s → LIt D it l (i + 1) → I i vars D →
      wpAny (model prog w) A (execs body env) (fun f s' => (f = .next ∨ f = .cont) ∧ ∃ vars' D', At B W D0 s0 L vars' D' s' ∧ LIt D' it l (i + 1) ∧ I (i + 1) vars' D') E' s)
    (fin : ∀ vars D s, At B W D0 s0 L vars D s → I vs.length vars D → R (.ok .next) s)
    (hL : env.locals = L := by rfl) (hk : env.scope.kind = .function := by rfl) (hy : env.kindOf y = some .local := by rfl) :
    codeAny (model prog w) A (.forLoop (.Name y py) (.ref it) body [] env) R s := by
  refine codeAny_forLoop (fun n s => ∃ i vars D, i + n = vs.length ∧ At B W D0 s0 L vars D s ∧ LIt D it l i ∧ I i vars D) (fun n s ⟨i, vars, D, hn, F, hit, hI⟩ => ?_) vs.length ⟨0, vars, D, Nat.zero_add _, F, hit, h0⟩
  have hlv := hl i vars D hI
  obtain ⟨oi, hoi, hci, hdi⟩ := id hit
  have hiH : s.heap.IsListIter it l i := ⟨oi, F.get hoi, hci, hdi⟩
  rcases Nat.lt_or_ge i vs.length with hlt | hge
  · have hv : vs[i]? = some vs[i] := List.getElem?_eq_getElem hlt
    refine wpAny_pyNext_list_item hiH (lv_is F hlv) (x := vs[i]) (by simp [hlt]) fun h' hit' hs => ?_
    obtain ⟨o', ho', hc', hd'⟩ := hit'
    have F1 := F.upd hoi (.inr hw) hs ho' s.toks
    have hI1 := mono i vars D (D.put it o') hit (fun a ha => Led.put_other ha) hI
    have hit1 : LIt (D.put it o') it l (i + 1) := ⟨o', Led.put_same, hc', hd'⟩
    refine wpAny_assign_Name (r_st F1 (fun s2 F2 => ?_) hL hk hy)
    refine wpAny_mono (turn i _ vars _ s2 _ hv F2 hit1 hI1) (fun f s3 h3 => ?_) fun _ _ e => e
    obtain ⟨hf, vars', D', F3, hit3, hI3⟩ := h3
    have : ∃ m, m < n ∧ ∃ i vars D, i + m = vs.length ∧ At B W D0 s0 L vars D s3 ∧ LIt D it l i ∧ I i vars D := ⟨n - 1, by omega, i + 1, vars', D', by omega, F3, hit3, hI3⟩
    rcases hf with rfl | rfl <;> exact this
  · have hi : i = vs.length := by omega
    refine wpAny_pyNext_list_end hh hiH (lv_is F hlv) (by simp [hge]) fun h' hx => ?_
    exact wpAny_execs_nil (fin vars _ _ (F.forget hw (F.neL hoi) hx _) (hi ▸ mono i vars D _ hit (fun a ha => if_neg ha) hI))
end
end Mine
end

section
/-! the plain functions -/
namespace Mine
section
variable {V : Type} [DecidableEq V]
def upd {α : Type} (f : V → α) (x : V) (a : α) : V → α := fun y => if y = x then a else f y
theorem upd_same {α : Type} {f : V → α} {x : V} {a : α} : upd f x a x = a := if_pos rfl
theorem upd_other {α : Type} {f : V → α} {x y : V} {a : α} (h : y ≠ x) : upd f x a y = f y := if_neg h
def mergeL (c l : List Int) : List Int := l.foldl (fun acc a => if a ∈ acc then acc else acc ++ [a]) c
theorem mergeL_append (c l m : List Int) : mergeL c (l ++ m) = mergeL (mergeL c l) m := by unfold mergeL; rw [List.foldl_append]
theorem mergeL_one (c : List Int) (a : Int) : mergeL c [a] = if a ∈ c then c else c ++ [a] := rfl
theorem mergeL_sub : ∀ {l c : List Int}, (∀ a ∈ l, a ∈ c) → mergeL c l = c
  | [], _, _ => rfl
  | a :: l, c, h => by
    have : mergeL c (a :: l) = mergeL (if a ∈ c then c else c ++ [a]) l := rfl
    rw [this, if_pos (h a List.mem_cons_self)]
    exact mergeL_sub fun b hb => h b (List.mem_cons_of_mem _ hb)
theorem mem_mergeL {a : Int} : ∀ {l c : List Int}, a ∈ mergeL c l ↔ a ∈ c ∨ a ∈ l
  | [], c => by simp [mergeL]
  | b :: l, c => by
    have : mergeL c (b :: l) = mergeL (if b ∈ c then c else c ++ [b]) l := rfl
    rw [this, mem_mergeL]
    by_cases h : b ∈ c
    · rw [if_pos h, List.mem_cons]
      constructor
      · rintro (h1 | h1)
        · exact .inl h1
        · exact .inr (.inr h1)
      · rintro (h1 | rfl | h1)
        · exact .inl h1
        · exact .inl h
        · exact .inr h1
    · rw [if_neg h, List.mem_append, List.mem_singleton, List.mem_cons]
      constructor
      · rintro ((h1 | h1) | h1)
        · exact .inl h1
        · exact .inr (.inl h1)
        · exact .inr (.inr h1)
      · rintro (h1 | h1 | h1)
        · exact .inl (.inl h1)
        · exact .inl (.inr h1)
        · exact .inr h1
theorem length_mergeL : ∀ {l c : List Int}, (mergeL c l).length ≤ c.length + l.length
  | [], c => Nat.le_refl _
  | b :: l, c => by
    have : mergeL c (b :: l) = mergeL (if b ∈ c then c else c ++ [b]) l := rfl
    rw [this]
    have := length_mergeL (l := l) (c := if b ∈ c then c else c ++ [b])
    by_cases h : b ∈ c
    · rw [if_pos h] at this ⊢; simp only [List.length_cons]; omega
    · rw [if_neg h] at this ⊢
      have e : (c ++ [b]).length = c.length + 1 := by simp
      have e' : (b :: l).length = l.length + 1 := by simp
      omega
set_option genInjectivity false in
set_option genSizeOf false in
structure TS (V : Type) where
  N : V → Int
  stk : List V
  own : V → Option V
  C : V → List Int
  bg : List V
  ak : List V
def contOf (σ : TS V) (y : V) : List Int := match σ.own y with
  | some o => σ.C o
  | none => []
/-- the knot is taken off: the stack from its end -/
def popP (M : Int) (x : V) : List V → TS V → TS V
  | [], σ => σ
  | e :: r, σ => if e = x then { σ with N := upd σ.N e M, own := upd σ.own e (σ.own x), stk := r.reverse }
    else popP M x r { σ with N := upd σ.N e M, own := upd σ.own e (σ.own x), stk := r.reverse }
def beginP (Vl : V → List Int) (dep : Nat) (x : V) (σ : TS V) : TS V :=
  { N := upd σ.N x (dep + σ.stk.length + 1 : Nat), stk := σ.stk ++ [x], own := upd σ.own x (some x), C := upd σ.C x (Vl x), bg := σ.bg ++ [x], ak := σ.ak ++ [x] }
def joinP (x y : V) (σ : TS V) : Option (TS V) :=
  if σ.own x = some x ∧ (σ.C x).length + (contOf σ y).length ≤ 1000 then
    some { σ with N := upd σ.N x (min (σ.N x) (σ.N y)), C := upd σ.C x (mergeL (σ.C x) (contOf σ y)) }
  else none
def endP (M : Int) (dep : Nat) (x : V) (n : Nat) (σ : TS V) : Option (TS V) :=
  if σ.own x = some x ∧ σ.stk.length ≤ 2000 then
    if σ.N x = ((dep + n + 1 : Nat) : Int) then (if x ∈ σ.stk then some (popP M x σ.stk.reverse σ) else none) else some σ
  else none
def travP (Eg : V → List V) (Vl : V → List Int) (M : Int) (dep : Nat) : Nat → V → TS V → Option (TS V)
  | 0, _, _ => none
  | k + 1, x, σ =>
    if σ.own x = none ∧ σ.stk.length < 1000 ∧ σ.bg.length < 1000 ∧ σ.ak.length < 1000 ∧ (Vl x).length ≤ 1000 then
      ((Eg x).foldlM (fun σ y => (if σ.N y = 0 then travP Eg Vl M dep k y σ else some σ) >>= joinP x y) (beginP Vl dep x σ)) >>= endP M dep x σ.stk.length
    else none
def walkP (Eg : V → List V) (dn : V → Bool) : Nat → V → List V → Option (List V)
  | 0, _, _ => none
  | k + 1, x, met => if dn x = true ∨ x ∈ met then some met
    else if met.length ≤ 1000 then (Eg x).foldlM (fun m y => walkP Eg dn k y m) (met ++ [x]) else none
/-- one edge of said: the words so far, the names met -/
def saidP (Eg : V → List V) (Vl : V → List Int) (dn : V → Option (List Int)) (same : V → V → Bool) (root : V → V) : Nat → V → List V → Option (List Int × List V)
  | 0, _, _ => none
  | k + 1, x, met => if met.length ≤ 1000 ∧ (Vl x).length ≤ 1000 then
      (Eg x).foldlM (fun wm y => match dn y with
        | some l => if wm.1.length + l.length ≤ 100000 then some (wm.1 ++ l, wm.2) else none
        | none => if (if same x y then y else root y) ∈ wm.2 then some wm
          else (saidP Eg Vl dn same root k (if same x y then y else root y) wm.2) >>= fun wm' => if wm.1.length + wm'.1.length ≤ 100000 then some (wm.1 ++ wm'.1, wm'.2) else none) (Vl x, met ++ [x])
    else none
def onceP (ws : List Int) : List Int := mergeL [] ws
end
end Mine
end

section
open PySem PySem.W PyProof.Rows
set_option Elab.async false
set_option maxRecDepth 100000
namespace Mine
/-! what traverse works upon -/
set_option genInjectivity false in
set_option genSizeOf false in
structure TC where
  dN : Addr
  lS : Addr
  dF : Addr
  lB : Addr
  lA : Addr
  X : Value
  R : Value
  FP : Value
  nms : List Key
  bot : List Value
  Eg : Key → List Key
  Vl : Key → List Int
  eL : Key → Addr
def TC.W (c : TC) : List Addr := [c.dN, c.lS, c.dF, c.lB, c.lA]
theorem TC.m1 {c : TC} : c.dN ∈ c.W := by simp [TC.W]
theorem TC.m2 {c : TC} : c.lS ∈ c.W := by simp [TC.W]
theorem TC.m3 {c : TC} : c.dF ∈ c.W := by simp [TC.W]
theorem TC.m4 {c : TC} : c.lB ∈ c.W := by simp [TC.W]
theorem TC.m5 {c : TC} : c.lA ∈ c.W := by simp [TC.W]
theorem nd5 {α : Type} {a b c d e : α} (h : [a, b, c, d, e].Nodup) : (a ≠ b ∧ a ≠ c ∧ a ≠ d ∧ a ≠ e) ∧ (b ≠ c ∧ b ≠ d ∧ b ≠ e) ∧ (c ≠ d ∧ c ≠ e) ∧ d ≠ e := by
  simpa only [List.nodup_cons, List.mem_cons, List.not_mem_nil, or_false, not_or, List.nodup_nil, and_true, not_false_eq_true] using h
abbrev maxI : Int := 9223372036854775807
section
variable (prog : Program) (w : World)
def NI (D : Led) (d : Addr) (nms : List Key) (N : Key → Int) : Prop := ∃ xs, DK prog w D d xs ∧ xs.map (·.1) = nms ∧ ∀ k ∈ nms, ∃ t, look xs k = some (.int (N k) t)
def KI (D : Led) (l : Addr) (pre : List Value) (ks : List Key) : Prop := ∃ vs, LV D l (pre ++ vs) ∧ KeysL prog w D ks vs
def FI (D : Led) (d : Addr) (nms : List Key) (own : Key → Option Key) (ad : Key → Addr) : Prop := ∃ xs, DK prog w D d xs ∧ (∀ k ∈ xs.map (·.1), k ∈ nms) ∧ ∀ k, look xs k = (own k).map fun o => .ref (ad o)
def CI (D : Led) (W : List Addr) (own : Key → Option Key) (C : Key → List Int) (ad : Key → Addr) : Prop := ∀ o, (own o).isSome = true → ad o ∉ W ∧ ∃ vs, LV D (ad o) vs ∧ IntsL (C o) vs
structure TInv (c : TC) (D : Led) (σ : TS Key) (ad : Key → Addr) : Prop where
  N : NI prog w D c.dN c.nms σ.N
  S : KI prog w D c.lS c.bot σ.stk
  F : FI prog w D c.dF c.nms σ.own ad
  C : CI D c.W σ.own σ.C ad
  bg : KI prog w D c.lB [] σ.bg
  ak : KI prog w D c.lA [] σ.ak
  wf : ∀ k o, σ.own k = some o → (σ.own o).isSome = true
  inj : ∀ o o', (σ.own o).isSome = true → (σ.own o').isSome = true → ad o = ad o' → o = o'
  sin : ∀ k ∈ σ.stk, k ∈ c.nms ∧ (σ.own k).isSome = true
structure TCx (h₁ : Heap) (mg mb : Str → Option Value) (c : TC) (Stat : Led → Prop) : Prop where
  nodup : c.W.Nodup
  ok : ∀ k ∈ c.nms, k.ok
  short : c.nms.length ≤ 100
  edge : ∀ x ∈ c.nms, ∀ y ∈ c.Eg x, y ∈ c.nms
  wB : ∀ b ∈ c.W, hLed h₁ b = none
  mono : ∀ D D' : Led, (∀ a o, a ∉ c.W → D a = some o → D' a = some o) → Stat D → Stat D'
  bot : c.bot.length ≤ 100
  fp : ∀ {A : Around} {E : Value → Shared → Prop} {D : Led} {s : Shared} {Q : Value → Shared → Prop} {x : Key} {v : Value} {vs : List Value}, Room A 3 → Fits D s → (∀ a o, hLed h₁ a = some o → D a = some o) → Stat D →
    x ∈ c.nms → KeyL prog w D x v → LV D c.lB vs → vs.length ≤ 10000 →
    (∀ n m ws l s', D l = none → s.heap.get? l = none → IntsL (c.Vl x) ws → Tr [c.lB] D s ((D.put c.lB (lstO (vs ++ [v]).toArray n)).put l (lstO ws.toArray m)) s' → Q (.ref l) s') →
    wpAny (model prog w) A (call c.FP [v]) Q E s
  r : ∀ {A : Around} {E : Value → Shared → Prop} {D : Led} {s : Shared} {Q : Value → Shared → Prop} {x : Key} {v : Value} {vs : List Value}, Room A 3 → Fits D s → (∀ a o, hLed h₁ a = some o → D a = some o) → Stat D →
    x ∈ c.nms → KeyL prog w D x v → LV D c.lA vs → vs.length ≤ 10000 →
    (∀ n s', Tr [c.lA] D s (D.put c.lA (lstO (vs ++ [v]).toArray n)) s' → Q (.ref (c.eL x)) s') →
    wpAny (model prog w) A (call c.R [v]) Q E s
  el : ∀ D x, Stat D → x ∈ c.nms → c.eL x ∉ c.W ∧ ∃ ws, LV D (c.eL x) ws ∧ KeysL prog w D (c.Eg x) ws
  fpFn : ∀ D, Stat D → ∃ a o fd, c.FP = .ref a ∧ a ∉ c.W ∧ D a = some o ∧ o.data = .func fd
  rFn : ∀ D, Stat D → ∃ a o fd, c.R = .ref a ∧ a ∉ c.W ∧ D a = some o ∧ o.data = .func fd
end
section
variable {prog : Program} {w : World} {D D' : Led} {a : Addr} {o' : Obj}
theorem NI.put {d : Addr} {nms : List Key} {N : Key → Int} (x : NI prog w D d nms N) (h : d ≠ a) (ht : TSub D (D.put a o')) : NI prog w (D.put a o') d nms N := let ⟨xs, h1, r⟩ := x; ⟨xs, h1.put_other h ht, r⟩
theorem KI.put {l : Addr} {pre : List Value} {ks : List Key} (x : KI prog w D l pre ks) (h : l ≠ a) (ht : TSub D (D.put a o')) : KI prog w (D.put a o') l pre ks := let ⟨vs, h1, r⟩ := x; ⟨vs, h1.put_other h, r.mono ht⟩
theorem FI.put {d : Addr} {nms : List Key} {own : Key → Option Key} {ad : Key → Addr} (x : FI prog w D d nms own ad) (h : d ≠ a) (ht : TSub D (D.put a o')) : FI prog w (D.put a o') d nms own ad := let ⟨xs, h1, r⟩ := x; ⟨xs, h1.put_other h ht, r⟩
theorem CI.put {W : List Addr} {own : Key → Option Key} {C : Key → List Int} {ad : Key → Addr} (x : CI D W own C ad) (h : ∀ o, (own o).isSome = true → ad o ≠ a) : CI (D.put a o') W own C ad := fun o ho =>
  let ⟨h1, vs, h2, h3⟩ := x o ho; ⟨h1, vs, h2.put_other (h o ho), h3⟩
theorem NI.set {d : Addr} {nms : List Key} {N : Key → Int} {k : Key} {kv : Value} {i : Int} {t : Tok} {xs : KVs} {n : Nat} (hk : KeyL prog w D k kv) (hm : k ∈ nms) (hd : DK prog w D d xs) (he : xs.map (·.1) = nms) (hl : ∀ k ∈ nms, ∃ t, look xs k = some (.int (N k) t)) :
    NI prog w (D.put d (dctO ((putK xs k kv (.int i t)).map (ent prog w)).toArray n)) d nms (upd N k i) := by
  refine ⟨putK xs k kv (.int i t), hd.set hk, ?_, fun k' hk' => ?_⟩
  · rw [keys_putK, if_pos (he ▸ hm)]; exact he
  · rw [look_putK]
    by_cases e : k' = k
    · rw [if_pos e, e, upd_same]; exact ⟨t, rfl⟩
    · rw [if_neg e, upd_other e]; exact hl k' hk'
theorem FI.set {d : Addr} {nms : List Key} {own : Key → Option Key} {ad : Key → Addr} {k o : Key} {kv : Value} {xs : KVs} {n : Nat} (hk : KeyL prog w D k kv) (hm : k ∈ nms) (hd : DK prog w D d xs) (hs : ∀ k ∈ xs.map (·.1), k ∈ nms) (hl : ∀ k, look xs k = (own k).map fun o => .ref (ad o)) :
    FI prog w (D.put d (dctO ((putK xs k kv (.ref (ad o))).map (ent prog w)).toArray n)) d nms (upd own k (some o)) ad := by
  refine ⟨putK xs k kv (.ref (ad o)), hd.set hk, fun k' hk' => ?_, fun k' => ?_⟩
  · rw [keys_putK] at hk'
    split at hk'
    · exact hs k' hk'
    · rcases List.mem_append.mp hk' with h | h
      · exact hs k' h
      · rw [List.mem_singleton] at h; rw [h]; exact hm
  · rw [look_putK]
    by_cases e : k' = k
    · rw [if_pos e, e, upd_same]; rfl
    · rw [if_neg e, upd_other e]; exact hl k'
theorem nodup_sub_length {α : Type} [DecidableEq α] : ∀ {l u : List α}, l.Nodup → (∀ x ∈ l, x ∈ u) → l.length ≤ u.length
  | [], _, _, _ => Nat.zero_le _
  | x :: l, u, hn, hs => by
    rw [List.nodup_cons] at hn
    have hx : x ∈ u := hs x List.mem_cons_self
    have : l.length ≤ (u.erase x).length := nodup_sub_length hn.2 fun y hy => by
      have hne : y ≠ x := fun e => hn.1 (e ▸ hy)
      exact (List.mem_erase_of_ne hne).mpr (hs y (List.mem_cons_of_mem _ hy))
    rw [List.length_erase_of_mem hx] at this
    have : 0 < u.length := List.length_pos_of_mem hx
    simp only [List.length_cons]; omega
theorem FI.short {d : Addr} {nms : List Key} {xs : KVs} (hd : DK prog w D d xs) (hs : ∀ k ∈ xs.map (·.1), k ∈ nms) (h : nms.length ≤ 100) : xs.length ≤ 1000 := by
  have := nodup_sub_length hd.nodup hs
  rw [List.length_map] at this; omega
theorem NI.short {nms : List Key} {xs : KVs} (he : xs.map (·.1) = nms) (h : nms.length ≤ 100) : xs.length ≤ 1000 := by
  have := congrArg List.length he
  rw [List.length_map] at this; omega
theorem NI.sub {d : Addr} {nms : List Key} {N : Key → Int} (x : NI prog w D d nms N) (h : Sub D D') : NI prog w D' d nms N := let ⟨xs, h1, r⟩ := x; ⟨xs, h1.sub h, r⟩
theorem KI.sub {l : Addr} {pre : List Value} {ks : List Key} (x : KI prog w D l pre ks) (h : Sub D D') : KI prog w D' l pre ks := let ⟨vs, h1, r⟩ := x; ⟨vs, h1.sub h, r.mono h.t⟩
theorem FI.sub {d : Addr} {nms : List Key} {own : Key → Option Key} {ad : Key → Addr} (x : FI prog w D d nms own ad) (h : Sub D D') : FI prog w D' d nms own ad := let ⟨xs, h1, r⟩ := x; ⟨xs, h1.sub h, r⟩
theorem CI.sub {W : List Addr} {own : Key → Option Key} {C : Key → List Int} {ad : Key → Addr} (x : CI D W own C ad) (h : Sub D D') : CI D' W own C ad := fun o ho =>
  let ⟨h1, vs, h2, h3⟩ := x o ho; ⟨h1, vs, h2.sub h, h3⟩
theorem TInv.sub {c : TC} {σ : TS Key} {ad : Key → Addr} (x : TInv prog w c D σ ad) (h : Sub D D') : TInv prog w c D' σ ad :=
  ⟨x.N.sub h, x.S.sub h, x.F.sub h, x.C.sub h, x.bg.sub h, x.ak.sub h, x.wf, x.inj, x.sin⟩
end
end Mine
end

section
namespace Mine
section
variable {V : Type} [DecidableEq V]
theorem joinP_own {x y : V} {σ σ' : TS V} (h : joinP x y σ = some σ') : σ'.own = σ.own := by
  unfold joinP at h
  split at h
  · injection h with h; subst h; rfl
  · cases h
theorem popP_own {M : Int} {x o : V} : ∀ {r : List V} {σ : TS V}, (σ.own x).isSome = true → (σ.own o).isSome = true → ((popP M x r σ).own o).isSome = true
  | [], _, _, h => h
  | e :: r, σ, hx, h => by
    have key : ∀ z, (σ.own z).isSome = true → (upd σ.own e (σ.own x) z).isSome = true := fun z hz => by
      by_cases q : z = e
      · rw [q, upd_same]; exact hx
      · rw [upd_other q]; exact hz
    unfold popP
    split
    · exact key o h
    · exact popP_own (key x hx) (key o h)
theorem endP_own {M : Int} {dep n : Nat} {x o : V} {σ σ' : TS V} (h : endP M dep x n σ = some σ') (ho : (σ.own o).isSome = true) : (σ'.own o).isSome = true := by
  unfold endP at h
  split at h
  · rename_i hc
    split at h
    · split at h
      · injection h with h; subst h
        exact popP_own (by rw [hc.1]; rfl) ho
      · cases h
    · injection h with h; subst h; exact ho
  · cases h
theorem popP_back {M : Int} {x o : V} : ∀ {r : List V} {σ : TS V}, ((popP M x r σ).own o).isSome = true → (σ.own o).isSome = true ∨ o ∈ r
  | [], _, h => .inl h
  | e :: r, σ, h => by
    have key : (upd σ.own e (σ.own x) o).isSome = true → (σ.own o).isSome = true ∨ o ∈ e :: r := fun hz => by
      by_cases q : o = e
      · exact .inr (q ▸ List.mem_cons_self)
      · rw [upd_other q] at hz; exact .inl hz
    unfold popP at h
    split at h
    · exact key h
    · rcases popP_back h with h | h
      · exact key h
      · exact .inr (List.mem_cons_of_mem _ h)
theorem endP_back {M : Int} {dep n : Nat} {x o : V} {σ σ' : TS V} (h : endP M dep x n σ = some σ') (ho : (σ'.own o).isSome = true) : (σ.own o).isSome = true ∨ o ∈ σ.stk := by
  unfold endP at h
  split at h
  · split at h
    · split at h
      · injection h with h; subst h
        rcases popP_back ho with h | h
        · exact .inl h
        · exact .inr (by simpa using h)
      · cases h
    · injection h with h; subst h; exact .inl ho
  · cases h
theorem travP_own {Eg : V → List V} {Vl : V → List Int} {M : Int} {dep : Nat} : ∀ {k : Nat} {x o : V} {σ σ' : TS V}, travP Eg Vl M dep k x σ = some σ' → (σ.own o).isSome = true → (σ'.own o).isSome = true
  | 0, _, _, _, _, h, _ => by cases h
  | k + 1, x, o, σ, σ', h, ho => by
    unfold travP at h
    split at h
    · have loop : ∀ (l : List V) (σ σ2 : TS V), l.foldlM (fun σ y => (if σ.N y = 0 then travP Eg Vl M dep k y σ else some σ) >>= joinP x y) σ = some σ2 → (σ.own o).isSome = true → (σ2.own o).isSome = true := by
        intro l
        induction l with
        | nil => intro σ σ2 e hσ; have : σ = σ2 := by simpa using e
                 subst this; exact hσ
        | cons y l ih =>
          intro σ σ2 e hσ
          rw [List.foldlM_cons] at e
          cases e1 : (if σ.N y = 0 then travP Eg Vl M dep k y σ else some σ) with
          | none => rw [e1] at e; cases e
          | some σm =>
            rw [e1] at e
            change (joinP x y σm >>= _) = _ at e
            cases e2 : joinP x y σm with
            | none => rw [e2] at e; cases e
            | some σn =>
              rw [e2] at e
              refine ih σn σ2 e ?_
              rw [joinP_own e2]
              split at e1
              · exact travP_own e1 hσ
              · injection e1 with e1; subst e1; exact hσ
      cases e : (Eg x).foldlM (fun σ y => (if σ.N y = 0 then travP Eg Vl M dep k y σ else some σ) >>= joinP x y) (beginP Vl dep x σ) with
      | none => rw [e] at h; cases h
      | some σ2 =>
        rw [e] at h
        refine endP_own h (loop _ _ _ e ?_)
        show (upd σ.own x (some x) o).isSome = true
        by_cases q : o = x
        · rw [q, upd_same]; rfl
        · rw [upd_other q]; exact ho
    · cases h
end
end Mine
end

section
open PySem PySem.W PyProof.Rows
set_option Elab.async false
set_option maxRecDepth 100000
namespace Mine
def forBody : Stmt → List Stmt | .For _ _ b _ _ => b | _ => []
def ifBody : Stmt → List Stmt | .If _ b _ _ => b | _ => []
def stAt (l : List Stmt) (i : Nat) : Stmt := l.getD i (.Pass default)
theorem fold_next {α β : Type} {f : β → α → Option β} {b z : β} {l : List α} {i : Nat} {a : α} (ha : l[i]? = some a) (h : (l.drop i).foldlM f b = some z) : ∃ b', f b a = some b' ∧ (l.drop (i + 1)).foldlM f b' = some z := by
  obtain ⟨hlt, hge⟩ := List.getElem?_eq_some_iff.mp ha
  rw [List.drop_eq_getElem_cons hlt, hge, List.foldlM_cons] at h
  cases e : f b a with
  | none => rw [e] at h; cases h
  | some b' => rw [e] at h; exact ⟨b', rfl, h⟩
theorem fold_last {α β : Type} {f : β → α → Option β} {b z : β} {l : List α} {i : Nat} (hi : i = l.length) (h : (l.drop i).foldlM f b = some z) : b = z := by
  rw [hi, List.drop_length] at h
  simpa using h
section
variable {prog : Program} {w : World} {h₁ : Heap} {mg mb : Str → Option Value} {c : TC} {Stat : Led → Prop}
def TrvOK (prog : Program) (w : World) (h₁ : Heap) (c : TC) (Stat : Led → Prop) (a : Addr) (k : Nat) : Prop :=
  ∀ (A : Around) (E : Value → Shared → Prop) (D : Led) (s : Shared) (σ σ' : TS Key) (ad : Key → Addr) (x : Key) (v : Value) (Q : Value → Shared → Prop),
    Room A (2 * k + 5) → Fits D s → (∀ a o, hLed h₁ a = some o → D a = some o) → Stat D → TInv prog w c D σ ad → KeyL prog w D x v → x ∈ c.nms →
    travP c.Eg c.Vl maxI c.bot.length k x σ = some σ' →
    (∀ D' s' ad', Tr c.W D s D' s' → TInv prog w c D' σ' ad' → (∀ o, (σ.own o).isSome = true → ad' o = ad o) → TSub D D' → (∀ o, σ.own o = none → (σ'.own o).isSome = true → s.heap.get? (ad' o) = none) → Q .none s') →
    wpAny (model prog w) A (call (.ref a) [v, .ref c.dN, .ref c.lS, .ref c.dF, c.X, c.R, c.FP]) Q E s
/-- the names of traverse's frame that stay -/
def trvV (c : TC) (v : Value) (d : Nat) (td : Tok) : Vars :=
  [("x", v), ("N", .ref c.dN), ("stack", .ref c.lS), ("F", .ref c.dF), ("X", c.X), ("R", c.R), ("FP", c.FP), ("d", .int d td)]
theorem TInv.live {D : Led} {σ : TS Key} {ad : Key → Addr} (x : TInv prog w c D σ ad) {b : Addr} (hb : b ∈ c.W) : ∃ o, D b = some o := by
  simp only [TC.W, List.mem_cons, List.not_mem_nil, or_false] at hb
  rcases hb with h | h | h | h | h <;> subst h
  · obtain ⟨_, h1, _⟩ := x.N; exact h1.some
  · obtain ⟨_, h1, _⟩ := x.S; exact h1.some
  · obtain ⟨_, h1, _⟩ := x.F; exact h1.some
  · obtain ⟨_, h1, _⟩ := x.bg; exact h1.some
  · obtain ⟨_, h1, _⟩ := x.ak; exact h1.some
theorem mem_put {vars : Vars} {y : Str} {u : Value} {p : Str × Value} (h : p ∈ vars) (hn : p.1 ≠ y) : p ∈ Vars.put vars y u := by
  unfold Vars.put
  exact List.mem_cons_of_mem _ (List.mem_filter.mpr ⟨h, by simpa using hn⟩)
theorem sub_put {l vars : Vars} {y : Str} {u : Value} (h : ∀ p ∈ l, p ∈ vars) (hn : ∀ p ∈ l, p.1 ≠ y) : ∀ p ∈ l, p ∈ Vars.put vars y u := fun p hp => mem_put (h p hp) (hn p hp)
theorem sub_put1 {l vars : Vars} {y : Str} {u : Value} (h : ∀ p ∈ l, p ∈ vars) (hn : ∀ p ∈ l, p.1 ≠ y) : ∀ p ∈ (y, u) :: l, p ∈ Vars.put vars y u := fun p hp => by
  rcases List.mem_cons.mp hp with rfl | hp
  · exact List.mem_cons_self
  · exact mem_put (h p hp) (hn p hp)
theorem all_ne {l : Vars} {y : Str} (h : (l.all fun p => p.1 != y) = true) : ∀ p ∈ l, p.1 ≠ y := fun p hp => by
  have := List.all_eq_true.mp h p hp; simpa using this
theorem trv_turn (G : Glo h₁ mg mb) (X : TCx prog w h₁ mg mb c Stat) {a : Addr} {o : Obj} {pm cd doc : Value} (hmg : mg "traverse" = some (.ref a)) (ho : h₁.get? a = some o)
    (hdata : o.data = .func (PySem.Calls.docDef "traverse" (fParams (fnAt 2)) (fBody (fnAt 2)) (fScope (fnAt 2)) pm cd doc)) {k : Nat} (ih : TrvOK prog w h₁ c Stat a k)
    {A1 : Around} (hR1 : Room A1 (2 * k + 6)) {L : Addr} {D0 D : Led} {s0 s : Shared} {E' : Value → Shared → Prop} {vars : Vars} {σi σm σn : TS Key} {adi : Key → Addr} {x y : Key} {v vy : Value} {lV it : Addr} {j d : Nat} {td : Tok}
    (F : At (hLed h₁) c.W D0 s0 L (Vars.put vars "y" vy) D s) (hvars : ∀ p ∈ trvV c v d td, p ∈ vars) (hit : LIt D it (c.eL x) j) (hSt : Stat D)
    (hI : TInv prog w c D σi adi) (hx : KeyL prog w D x v) (hxm : x ∈ c.nms) (hy : KeyL prog w D y vy) (hym : y ∈ c.nms)
    (hm : (if σi.N y = 0 then travP c.Eg c.Vl maxI c.bot.length k y σi else some σi) = some σm) (hj : joinP x y σm = some σn)
    (hox : (σi.own x).isSome = true) (hadx : adi x = lV) (hlV : s0.heap.get? lV = none) (hW : it ∉ c.W) :
    wpAny (model prog w) A1 (execs (forBody (stAt (fBody (fnAt 2)) 5)) (envOf "traverse" (fScope (fnAt 2)) L a cd))
      (fun f s' => f = .next ∧ ∃ vars' D' adn, At (hLed h₁) c.W D0 s0 L vars' D' s' ∧ (∀ p ∈ trvV c v d td, p ∈ vars') ∧ TInv prog w c D' σn adn ∧ (∀ o, (σi.own o).isSome = true → adn o = adi o) ∧ TSub D D' ∧
        (∀ b o, b ∉ c.W → b ≠ lV → D b = some o → D' b = some o) ∧ (∀ o, σi.own o = none → (σn.own o).isSome = true → s0.heap.get? (adn o) = none)) E' s := by
  refine wpAny_gen fun Qz hQz => ?_
  have mN : c.dN ∈ c.W := by first | exact TC.m1 | exact TC.m2 | exact TC.m3 | exact TC.m4 | exact TC.m5
  have mF : c.dF ∈ c.W := by first | exact TC.m1 | exact TC.m2 | exact TC.m3 | exact TC.m4 | exact TC.m5
  have F1 : At (hLed h₁) c.W D0 s0 L (("y", vy) :: trvV c v d td) D s := F.less (sub_put1 hvars (all_ne rfl))
  clear F hvars
  obtain ⟨xN, hN1, hN2, hN3⟩ := id hI.N
  obtain ⟨ty, hNy⟩ := hN3 y hym
  -- if N[y] == 0: traverse(y, ..)
  refine wpAny_execs_cons (wpAny_mono (Q := fun f s' => f = .next ∧ ∃ D' adm, At (hLed h₁) c.W D0 s0 L (("y", vy) :: trvV c v d td) D' s' ∧ TInv prog w c D' σm adm ∧ (∀ o, (σi.own o).isSome = true → adm o = adi o) ∧ TSub D D' ∧
      (∀ b o, b ∉ c.W → D b = some o → D' b = some o) ∧ (∀ o, σi.own o = none → (σm.own o).isSome = true → s0.heap.get? (adm o) = none)) (E := E') ?_ ?_ fun _ _ e => e)
  · refine wpAny_gen fun Qy hQy => ?_
    clear hQz
    refine wpAny_If (wpAny_isTrue_Compare1 (e_sub (r_nm F1 rfl (r_nm F1 rfl (r_itemD F1 hN1 hy hNy (hR1.u (by decide)) fun s2 F2 => wpAny_Constant_int (wpAny_eq_int (wpAny_truthy_bool ?_)))))))
    as_aux_lemma =>
    have F3 := F2.toks (s2.toks + 1)
    by_cases h0 : σi.N y = 0
    · rw [if_pos h0] at hm
      rw [h0]
      refine ite_t (by simp only [beq_self_eq_true]) ?_
      refine wpAny_execs_cons (wpAny_Expr (e_call (r_glob F3 G hmg ⟨a, o, _, rfl, hdata, args_cons (r_nm F3 rfl (args_cons (r_nm F3 rfl (args_cons (r_nm F3 rfl (args_cons (r_nm F3 rfl (args_cons (r_nm F3 rfl (args_cons (r_nm F3 rfl (args_cons (r_nm F3 rfl (args_nil ⟨F3.baseGet ho, ?_⟩))))))))))))))⟩)) rfl rfl)
      refine ih _ _ _ _ _ _ _ _ _ _ (hR1.less (by omega)) F3.fits F3.base hSt hI hy hym hm fun D' s' ad' tr hI' had ht hnw => ?_
      have F4 := F3.step tr fun b hb => ?_
      · exact wpAny_execs_nil (hQy _ _ ⟨rfl, D', ad', F4, hI', had, ht, fun b o hb e => tr.ext b o hb e, fun o h1 h2 => by
          have hz := hnw o h1 h2
          cases e : s0.heap.get? (ad' o) with
          | none => rfl
          | some ob => obtain ⟨o', e'⟩ := F3.tr.alive _ ob e; rw [hz] at e'; cases e'⟩)
      · exact ⟨hI.live hb, .inl hb⟩
    · rw [if_neg h0] at hm
      injection hm with hm; subst hm
      have : (σi.N y == 0) = false := by simpa using h0
      rw [this]
      refine ite_f rfl ?_
      exact wpAny_execs_nil (hQy _ _ ⟨rfl, D, adi, F3, hI, fun _ _ => rfl, .refl _, fun _ _ _ e => e, fun o h1 h2 => by rw [h1] at h2; cases h2⟩)
  rintro f s2 ⟨rfl, D2, ad2, F2, hI2, had2, ht2, hk2, hnw2⟩
  have hjown := joinP_own hj
  dsimp only
  have hx2 := hx.mono ht2
  have hy2 := hy.mono ht2
  clear hN1 hN2 hN3 hNy hI hx hy xN hSt F1
  as_aux_lemma =>
  -- N[x] = min(N[x], N[y])
  obtain ⟨xN, hN1, hN2, hN3⟩ := id hI2.N
  obtain ⟨ty, hNy⟩ := hN3 y hym
  obtain ⟨tx, hNx⟩ := hN3 x hxm
  refine wpAny_execs_cons (wpAny_Assign_Subscript (e_blt2 "min" (r_blt F2 G (by decide) rfl ⟨rfl, e_sub (r_nm F2 rfl (r_nm F2 rfl (r_itemD F2 hN1 hx2 hNx (hR1.u (by decide)) fun s3 F3 =>
    e_sub (r_nm F3 rfl (r_nm F3 rfl (r_itemD F3 hN1 hy2 hNy (hR1.u (by decide)) fun s4 F4 => min_two_ints hR1.hand fun h' tk hk => ?_))))))⟩)) rfl)
  as_aux_lemma =>
  have F5 := F4.keeps hk tk
  unfold joinP at hj
  split at hj
  case isFalse => cases hj
  rename_i hjc
  obtain ⟨hown, hlen⟩ := hjc
  injection hj with hj
  obtain ⟨tm, htm⟩ : ∃ t, (if σm.N y < σm.N x then Value.int (σm.N y) ty else Value.int (σm.N x) tx) = .int (min (σm.N x) (σm.N y)) t := by
    by_cases h : σm.N y < σm.N x
    · rw [if_pos h]; exact ⟨ty, by congr 1; omega⟩
    · rw [if_neg h]; exact ⟨tx, by congr 1; omega⟩
  rw [htm]
  refine r_nm F5 rfl (r_nm F5 rfl (r_setD F5 hN1 hx2 (.inl mN) (NI.short hN2 X.short) (hR1.u (by decide)) fun nN s6 F6 _ => ?_))
  have hN6 := NI.set (n := nN) (i := min (σm.N x) (σm.N y)) (t := tm) hx2 hxm hN1 hN2 hN3
  have t6 : TSub D2 (D2.put c.dN (dctO ((putK xN x v (.int (min (σm.N x) (σm.N y)) tm)).map (ent prog w)).toArray nN)) := .put hN1.noTup
  have hn := nd5 X.nodup
  obtain ⟨⟨n12, n13, n14, n15⟩, ⟨n23, n24, n25⟩, ⟨n34, n35⟩, n45⟩ := hn
  have hI6 : TInv prog w c (D2.put c.dN (dctO ((putK xN x v (.int (min (σm.N x) (σm.N y)) tm)).map (ent prog w)).toArray nN)) { σm with N := upd σm.N x (min (σm.N x) (σm.N y)) } ad2 :=
    ⟨hN6, hI2.S.put (Ne.symm n12) t6, hI2.F.put (Ne.symm n13) t6, hI2.C.put (fun o ho e => (hI2.C o ho).1 (e ▸ mN)), hI2.bg.put (Ne.symm n14) t6, hI2.ak.put (Ne.symm n15) t6, hI2.wf, hI2.inj, hI2.sin⟩
  have hx6 := hx2.mono t6
  have hy6 := hy2.mono t6
  have ht6 := ht2.trans t6
  have hk6 : ∀ b o, b ∉ c.W → D b = some o → D2.put c.dN (dctO ((putK xN x v (.int (min (σm.N x) (σm.N y)) tm)).map (ent prog w)).toArray nN) b = some o := fun b o hb e => by
    have hne : b ≠ c.dN := fun q => hb (q ▸ mN)
    rw [Led.put_other hne]; exact hk2 b o hb e
  generalize D2.put c.dN (dctO ((putK xN x v (.int (min (σm.N x) (σm.N y)) tm)).map (ent prog w)).toArray nN) = D6 at F6 hI6 hx6 hy6 ht6 hk6
  clear hN6 t6 F5 F4 F3 F2 hN1 hN2 hN3 hNy hNx hx2 hy2 hI2 ht2 hk2 htm hk
  dsimp only
  have hlx : ad2 x = lV := (had2 x hox).trans hadx
  as_aux_lemma =>
  -- for a in F.get(y, [])
  obtain ⟨xF, hF1, hF2, hF3⟩ := id hI6.F
  refine wpAny_execs_cons (wpAny_For (e_get (r_nm F6 rfl ⟨dk_type F6 hF1, dk_noDict F6 hF1, r_nm F6 rfl (List_ (args_nil (r_newList F6 (by simp) fun le s7 hle1 hle2 F7 => ?_)))⟩)))
  as_aux_lemma =>
  have hs7 : Sub D6 (D6.put le (lstO ([] : List Value).toArray 0)) := .new hle1
  have hI7 := hI6.sub hs7
  have hF7 := hF1.sub hs7
  refine r_get2 F7 hF7 (hy6.mono hs7.t) (F7.notMods G (.inl mF)) (hR1.u (by decide)) fun s8 F8 => ?_
  -- the list that is walked
  obtain ⟨ly, vsY, hly, hlyV, hlyI, hlyx⟩ : ∃ ly vsY, (look xF y).getD (.ref le) = .ref ly ∧ LV (D6.put le (lstO ([] : List Value).toArray 0)) ly vsY ∧ IntsL (contOf σm y) vsY ∧ (ly = lV → contOf σm y = σm.C x) := by
    rw [hF3 y]
    unfold contOf
    cases e : σm.own y with
    | none =>
      refine ⟨le, [], rfl, LV.put_same, trivial, fun q => ?_⟩
      obtain ⟨_, vs, hv, _⟩ := hI6.C x (by show (σm.own x).isSome = true; rw [hown]; rfl)
      obtain ⟨_, hv⟩ := hv.some
      rw [hlx, ← q, hle1] at hv; cases hv
    | some oy =>
      have hoy : (σm.own oy).isSome = true := hI6.wf y oy e
      obtain ⟨h1, vs, h2, h3⟩ := hI7.C oy hoy
      refine ⟨ad2 oy, vs, rfl, h2, h3, fun q => ?_⟩
      rw [← hlx] at q
      rw [hI6.inj oy x hoy (by show (σm.own x).isSome = true; rw [hown]; rfl) q]
  rw [hly]
  refine r_iter F8 hlyV fun it2 oi s9 hi1 hi2 F9 hit2 => ?_
  as_aux_lemma =>
  have hs9 : Sub (D6.put le (lstO ([] : List Value).toArray 0)) ((D6.put le (lstO ([] : List Value).toArray 0)).put it2 oi) := .new hi1
  have hDle : ∀ b o, D b = some o → b ∉ c.W → ((D6.put le (lstO ([] : List Value).toArray 0)).put it2 oi) b = some o := fun b o e hb => by
    have e6 := hk6 b o hb e
    have h1 : b ≠ le := fun q => by rw [q, hle1] at e6; cases e6
    have e7 : (D6.put le (lstO ([] : List Value).toArray 0)) b = some o := by rw [Led.put_other h1]; exact e6
    have h2 : b ≠ it2 := fun q => by rw [q, hi1] at e7; cases e7
    rw [Led.put_other h2]; exact e7
  have hDit2 : D it2 = none := by
    cases e : D it2 with
    | none => rfl
    | some o =>
      have : it2 ∉ c.W := fun hb => by
        obtain ⟨oo, ho2⟩ := hI6.live hb
        have h1 : it2 ≠ le := fun q => by rw [q, hle1] at ho2; cases ho2
        rw [Led.put_other h1, ho2] at hi1; cases hi1
      have e6 := hk6 it2 o this e
      have h1 : it2 ≠ le := fun q => by rw [q, hle1] at e6; cases e6
      rw [Led.put_other h1, e6] at hi1; cases hi1
  refine r_for (vs := vsY) (fun i vars D' => (∀ p ∈ trvV c v d td, p ∈ vars) ∧ TInv prog w c D' { σm with N := upd σm.N x (min (σm.N x) (σm.N y)), C := upd σm.C x (mergeL (σm.C x) ((contOf σm y).take i)) } ad2 ∧ LV D' ly vsY ∧ KeyL prog w D' x v ∧ TSub D D' ∧
      (∀ b o, b ∉ c.W → b ≠ lV → D b = some o → D' b = some o)) F9 hit2 hi2 ?_ hR1.hand (fun i vars D' h => h.2.2.1) ?_ ?_ ?_
  · refine ⟨fun p hp => List.mem_cons_of_mem _ hp, ?_, hlyV.sub hs9, (hx6.mono hs7.t).mono hs9.t, (ht6.trans hs7.t).trans hs9.t, fun b o hb _ e => hDle b o e hb⟩
    have : upd σm.C x (mergeL (σm.C x) ((contOf σm y).take 0)) = σm.C := by
      funext z; unfold upd; by_cases h : z = x
      · rw [if_pos h, h]; rfl
      · rw [if_neg h]
    rw [this]
    exact hI7.sub hs9
  · rintro i vars D' D'' hl2 hoff ⟨h1, h2, h3, h4, h5, h6⟩
    have hs := Sub.off hl2 hoff
    refine ⟨h1, h2.sub hs, h3.sub hs, h4.mono hs.t, h5.trans hs.t, fun b o hb hn e => ?_⟩
    rw [hoff b (fun q => by rw [q, hDit2] at e; cases e)]
    exact h6 b o hb hn e
  · rintro i av vars D' s' E'' hv Fv hl2 ⟨h1, h2, h3, h4, h5, h6⟩
    refine wpAny_gen fun Q' hQ' => ?_
    obtain ⟨ia, ta, hia, rfl⟩ := hlyI.getV hv
    have Fa : At (hLed h₁) c.W D0 s0 L (("a", .int ia ta) :: trvV c v d td) D' s' := Fv.less (sub_put1 h1 (all_ne rfl))
    obtain ⟨xF', g1, g2, g3⟩ := id h2.F
    as_aux_lemma =>
    have gx : look xF' x = some (.ref (ad2 x)) := by rw [g3 x]; show Option.map _ (σm.own x) = _; rw [hown]; rfl
    have ho2 : (σm.own x).isSome = true := by rw [hown]; rfl
    obtain ⟨gW, vs', gv, gi⟩ := h2.C x ho2
    change IntsL (upd σm.C x (mergeL (σm.C x) ((contOf σm y).take i)) x) vs' at gi
    rw [upd_same] at gi
    have htake : (contOf σm y).take (i + 1) = (contOf σm y).take i ++ [ia] := by rw [List.take_add_one, hia]; rfl
    have hmerge : mergeL (σm.C x) ((contOf σm y).take (i + 1)) = if ia ∈ mergeL (σm.C x) ((contOf σm y).take i) then mergeL (σm.C x) ((contOf σm y).take i) else mergeL (σm.C x) ((contOf σm y).take i) ++ [ia] := by
      rw [htake, mergeL_append, mergeL_one]
    refine wpAny_execs_cons (wpAny_If (wpAny_isTrue_Compare1 (r_nm Fa rfl (e_sub (r_nm Fa rfl (r_nm Fa rfl (r_itemD Fa g1 h4 gx (hR1.u (by decide)) fun s10 F10 => r_notInInts F10 gv gi (wpAny_truthy_bool ?_))))))))
    by_cases hmem : ia ∈ mergeL (σm.C x) ((contOf σm y).take i)
    · rw [if_pos hmem] at hmerge
      refine ite_f (by simp only [hmem, decide_true, Bool.not_true]) ?_
      refine wpAny_execs_nil (wpAny_execs_nil (hQ' _ _ ⟨.inl rfl, _, D', F10, hl2, fun p hp => List.mem_cons_of_mem _ hp, ?_, h3, h4, h5, h6⟩))
      rw [hmerge]; exact h2
    · rw [if_neg hmem] at hmerge
      refine ite_t (by simp only [hmem, decide_false, Bool.not_false]) ?_
      have zv : vs'.length ≤ 1000000 := by
        have e1 := gi.length
        have e2 := length_mergeL (c := σm.C x) (l := (contOf σm y).take i)
        have e3 : ((contOf σm y).take i).length ≤ (contOf σm y).length := by rw [List.length_take]; omega
        omega
      refine wpAny_execs_cons (wpAny_Expr (e_append (e_sub (r_nm F10 rfl (r_nm F10 rfl (r_itemD F10 g1 h4 gx (hR1.u (by decide)) fun s11 F11 => ⟨lv_type F11 gv, lv_noDict F11 gv, r_nm F11 rfl (r_append F11 gv (.inr (hlx ▸ hlV)) zv fun nL s12 F12 => wpAny_execs_nil (wpAny_execs_nil ?_))⟩))))) rfl rfl)
      have tv : TSub D' (D'.put (ad2 x) (lstO (vs' ++ [Value.int ia ta]).toArray nL)) := .put gv.noTup
      have nWx : ∀ b ∈ c.W, b ≠ ad2 x := fun b hb e => gW (e ▸ hb)
      have hlyne : ly ≠ ad2 x := fun e => by
        have e1 := LV.uniq h3 (e ▸ gv)
        subst e1
        have e2 := hlyx (e.trans hlx)
        refine hmem (mem_mergeL.mpr (.inl ?_))
        rw [← e2]; exact List.mem_of_getElem? hia
      have hit2ne : it2 ≠ ad2 x := hl2.neL gv
      refine (hQ' _ _ ⟨.inl rfl, _, _, F12, hl2.put_other hit2ne, fun p hp => List.mem_cons_of_mem _ hp, ?_, h3.put_other hlyne, h4.mono tv, h5.trans tv, fun b o hb hn e => ?_⟩)
      · rw [hmerge]
        refine ⟨h2.N.put (nWx _ mN) tv, h2.S.put (nWx _ (by first | exact TC.m1 | exact TC.m2 | exact TC.m3 | exact TC.m4 | exact TC.m5)) tv, h2.F.put (nWx _ mF) tv, fun o hoo => ?_, h2.bg.put (nWx _ (by first | exact TC.m1 | exact TC.m2 | exact TC.m3 | exact TC.m4 | exact TC.m5)) tv, h2.ak.put (nWx _ (by first | exact TC.m1 | exact TC.m2 | exact TC.m3 | exact TC.m4 | exact TC.m5)) tv, h2.wf, h2.inj, h2.sin⟩
        by_cases e : o = x
        · subst e
          refine ⟨gW, vs' ++ [Value.int ia ta], LV.put_same, ?_⟩
          show IntsL (upd σm.C o _ o) _
          rw [upd_same]
          exact gi.append ⟨⟨ta, rfl⟩, trivial⟩
        · obtain ⟨e1, vs2, e2, e3⟩ := h2.C o hoo
          refine ⟨e1, vs2, e2.put_other (fun q => e (h2.inj o x hoo ho2 q)), ?_⟩
          change IntsL (upd σm.C x _ o) _ at e3
          show IntsL (upd σm.C x _ o) _
          rw [upd_other e] at e3 ⊢
          exact e3
      · rw [Led.put_other (fun q => hn (q.trans hlx))]; exact h6 b o hb hn e
  · rintro vars D' s' Fv ⟨h1, h2, h3, h4, h5, h6⟩
    refine wpAny_execs_nil (hQz _ _ ⟨rfl, vars, D', ad2, Fv, h1, ?_, had2, h5, h6, fun o q1 q2 => hnw2 o q1 (hjown ▸ q2)⟩)
    rw [← hj]
    have : (contOf σm y).take vsY.length = contOf σm y := by rw [List.take_of_length_le]; rw [hlyI.length]; exact Nat.le_refl _
    rw [this] at h2
    exact h2
end
end Mine
end

section
open PySem PySem.W PyProof.Rows
set_option Elab.async false
set_option maxRecDepth 100000
namespace Mine
theorem Tr.grow {W : List Addr} {D : Led} {s : Shared} {h' : Heap} {a : Addr} {o : Obj} (F : Fits D s) (hk : ∀ b o, s.heap.get? b = some o → h'.get? b = some o) (ha : s.heap.get? a = none) (hn : h'.get? a = some o) (t : Nat) :
    Tr W D s (D.put a o) { s with heap := h', toks := t } := by
  have hD : D a = none := by
    cases e : D a with
    | none => rfl
    | some o => rw [F a o e] at ha; cases ha
  refine ⟨rfl, rfl, fun b o' e => ⟨o', hk b o' e⟩, fun b o' _ e => hk b o' e, F, fun b o' e => ?_, fun b o' _ e => ?_, fun b o' _ e e' => ?_⟩
  · rcases Led.put_some e with ⟨rfl, rfl⟩ | ⟨_, e⟩
    · exact hn
    · exact hk b o' (F b o' e)
  · rw [Led.put_other (fun h => by rw [h, hD] at e; cases e)]; exact e
  · rw [Led.put_other (fun h => by rw [h, ha] at e; cases e)]; exact e'
section
variable {prog : Program} {w : World} {A : Around} {E : Value → Shared → Prop} {B : Led} {W : List Addr} {D0 : Led} {s0 : Shared} {L : Addr} {vars : Vars} {D : Led} {s : Shared} {env : Env}
theorem At.grow {h' : Heap} {a : Addr} {o : Obj} (F : At B W D0 s0 L vars D s) (hk : ∀ b o, s.heap.get? b = some o → h'.get? b = some o) (ha : s.heap.get? a = none) (hn : h'.get? a = some o) (t : Nat) :
    At B W D0 s0 L vars (D.put a o) { s with heap := h', toks := t } := F.step (Tr.grow (W := []) F.fits hk ha hn t) fun _ h => nomatch h
theorem e_type1 {f e : Expr} {pos : Pos} {Q : Value → Shared → Prop} (T : String)
    (h : wpAny (model prog w) A (eval f env) (fun fv s₁ => fv = .type T ∧ wpAny (model prog w) A (eval e env) (fun v s₂ => wpAny (model prog w) A (call (.type T) [v]) Q E s₂) E s₁) E s)
    (hc : eval (.Call f [e] [] pos) env = (do callWith pos (← eval f env) [] (backTo pos (starEach [e] env)) (backToKw pos (keywordEach [] env))) := by rfl)
    (he : starEach [e] env = [(false, eval e env)] := by rfl) :
    wpAny (model prog w) A (eval (.Call f [e] [] pos) env) Q E s :=
  Call_ (wpAny_mono h (fun fv s₁ h₁ => by
    rw [h₁.1]; exact PyProof.Rows.callWith_type1 (args_cons (wpAny_mono h₁.2 (fun v s₂ h₂ => args_nil h₂) fun _ _ e => e) he) he rfl) fun _ _ e => e) hc
theorem r_listOf {l : Addr} {vs : List Value} {Q : Value → Shared → Prop} (F : At B W D0 s0 L vars D s) (hl : LV D l vs) (hz : vs.length ≤ 1000000)
    (h : ∀ n l' s', D l' = none → s0.heap.get? l' = none → s.heap.get? l' = none → At B W D0 s0 L vars (D.put l' (lstO vs.toArray n)) s' → Q (.ref l') s') : wpAny (model prog w) A (call (.type "list") [.ref l]) Q E s := by
  obtain ⟨n, ho⟩ := hl
  refine call_list_seq l (.inl rfl) (F.get ho) rfl rfl (fun h' c' hk hn => ?_) (by rw [List.size_toArray, sizeLine]; omega)
  exact h c' _ _ (F.fresh (Nat.le_refl _)).1 (F.fresh (Nat.le_refl _)).2 (get?_ge (Nat.le_refl _)) (F.grow hk (get?_ge (Nat.le_refl _)) hn s.toks)
theorem r_addL {l l' : Addr} {vs vs' : List Value} {Q : Value → Shared → Prop} (F : At B W D0 s0 L vars D s) (hl : LV D l vs) (hl' : LV D l' vs') (hz : vs.length + vs'.length ≤ 1000000)
    (h : ∀ r s', D r = none → s0.heap.get? r = none → At B W D0 s0 L vars (D.put r (lstO (vs ++ vs').toArray 0)) s' → Q (.ref r) s') : wpAny (model prog w) A (binaryOp .Add (.ref l) (.ref l')) Q E s := by
  obtain ⟨n, ho⟩ := hl
  obtain ⟨n', ho'⟩ := hl'
  refine PySem.P.add_list (F.get ho) (F.get ho') ?_ (by rw [List.size_toArray, List.size_toArray, sizeLine]; omega)
  have e : vs.toArray ++ vs'.toArray = (vs ++ vs').toArray := by simp
  rw [e]
  exact h _ _ (F.fresh (Nat.le_refl _)).1 (F.fresh (Nat.le_refl _)).2 (F.push (lstO (vs ++ vs').toArray 0) rfl s.toks)
theorem r_truthyL {l : Addr} {vs : List Value} {Q : Bool → Shared → Prop} (F : At B W D0 s0 L vars D s) (hl : LV D l vs) (hz : vs.length ≤ 1000000)
    (h : ∀ s', At B W D0 s0 L vars D s' → Q (!vs.isEmpty) s') : wpAny (model prog w) A (truthy (.ref l)) Q E s := by
  refine wpAny_truthy_list (lv_is F hl) (by rw [List.size_toArray]; omega) ?_
  have : (!vs.toArray.isEmpty) = !vs.isEmpty := by cases vs <;> simp
  rw [this]
  exact h _ (F.toks _)
theorem boot_list : bootBuiltins "list" = some (.type "list") := PySem.Pv.boot_list
end
end Mine
end

section
open PySem PySem.W PyProof.Rows
set_option Elab.async false
set_option maxRecDepth 100000
namespace Mine
section
variable {prog : Program} {w : World} {h₁ : Heap} {mg mb : Str → Option Value}
theorem once_ok (G : Glo h₁ mg mb) {a : Addr} {o : Obj} {pm cd doc : Value} (ho : h₁.get? a = some o)
    (hdata : o.data = .func (PySem.Calls.docDef "_law_once" (fParams (fnAt 7)) (fBody (fnAt 7)) (fScope (fnAt 7)) pm cd doc)) (hcd : h₁.CodeRec cd "_law_once")
    {A : Around} {E : Value → Shared → Prop} {D : Led} {s : Shared} {Q : Value → Shared → Prop} {lw : Addr} {ws : List Int} {vs : List Value} (hR : Room A 2) (hF : Fits D s) (hB : ∀ a o, hLed h₁ a = some o → D a = some o)
    (hl : LV D lw vs) (hi : IntsL ws vs) (hz : ws.length ≤ 100000)
    (hQ : ∀ D' s' lo vs', Tr [] D s D' s' → s.heap.get? lo = none → LV D' lo vs' → IntsL (onceP ws) vs' → Q (.ref lo) s') :
    wpAny (model prog w) A (call (.ref a) [.ref lw]) Q E s := by
  refine r_call (binds := [("words", .ref lw)]) (W' := []) hF hB (fun b hb => nomatch hb) G ho hdata hcd hR.d rfl (locs rfl) (by dsimp only [List.map]; decide) ?_ rfl rfl rfl (by decide)
  intro s1 F1
  have hR1 : Room (A.deeper (envOf "_law_once" (fScope (fnAt 7)) s.heap.objs.size a cd)) 1 := hR.deeper
  generalize (A.deeper (envOf "_law_once" (fScope (fnAt 7)) s.heap.objs.size a cd)) = A1 at hR1
  refine wpAny_execs_cons (wpAny_Assign_Name (List_ (args_nil (r_newList F1 (by simp) fun lo s2 hlo1 hlo2 F2 => r_st F2 fun s3 F3 => ?_))) rfl)
  have hs2 : Sub D (D.put lo (lstO ([] : List Value).toArray 0)) := .new hlo1
  have hl2 := hl.sub hs2
  have hne : lw ≠ lo := fun q => by obtain ⟨o1, h1⟩ := hl.some; rw [q, hlo1] at h1; cases h1
  dsimp only
  refine wpAny_execs_cons (wpAny_For (r_nm F3 rfl (r_iter F3 hl2 fun it oi s4 hi1 hi2 F4 hit => ?_)))
  have hs4 : Sub (D.put lo (lstO ([] : List Value).toArray 0)) ((D.put lo (lstO ([] : List Value).toArray 0)).put it oi) := .new hi1
  have ho0 : LV (D.put lo (lstO ([] : List Value).toArray 0)) lo [] := LV.put_same
  refine r_for (vs := vs) (fun i vars D' => ((("once" : Str), Value.ref lo) : Str × Value) ∈ vars ∧ LV D' lw vs ∧ ∃ vs', LV D' lo vs' ∧ IntsL (onceP (ws.take i)) vs') F4 hit hi2 ?_ hR1.hand (fun i vars D' h => h.2.1) ?_ ?_ ?_
  · exact ⟨by simp [Vars.put], hl2.sub hs4, [], ho0.sub hs4, trivial⟩
  · rintro i vars D' D'' hl hoff ⟨h1, h2, vs', h3, h4⟩
    have hs := Sub.off hl hoff
    exact ⟨h1, h2.sub hs, vs', h3.sub hs, h4⟩
  · rintro i av vars D' s' E'' hv Fv hl' ⟨h1, h2, vs', h3, h4⟩
    refine wpAny_gen fun Q' hQ' => ?_
    obtain ⟨ia, ta, hia, rfl⟩ := hi.getV hv
    have Fa : At (hLed h₁) [] D s s.heap.objs.size (("word", .int ia ta) :: [("once", .ref lo)]) D' s' := Fv.less (sub_put1 (fun p hp => by rw [List.mem_singleton] at hp; subst hp; exact h1) (all_ne rfl))
    have htake : ws.take (i + 1) = ws.take i ++ [ia] := by rw [List.take_add_one, hia]; rfl
    have hmerge : onceP (ws.take (i + 1)) = if ia ∈ onceP (ws.take i) then onceP (ws.take i) else onceP (ws.take i) ++ [ia] := by
      unfold onceP; rw [htake, mergeL_append, mergeL_one]
    refine wpAny_execs_cons (wpAny_If (wpAny_isTrue_Compare1 (r_nm Fa rfl (r_nm Fa rfl (r_notInInts Fa h3 h4 (wpAny_truthy_bool ?_))))))
    by_cases hmem : ia ∈ onceP (ws.take i)
    · rw [if_pos hmem] at hmerge
      refine ite_f (by simp only [hmem, decide_true, Bool.not_true]) ?_
      exact wpAny_execs_nil (wpAny_execs_nil (hQ' _ _ ⟨.inl rfl, _, D', Fa, hl', by simp, h2, vs', h3, by rw [hmerge]; exact h4⟩))
    · rw [if_neg hmem] at hmerge
      refine ite_t (by simp only [hmem, decide_false, Bool.not_false]) ?_
      have zv : vs'.length ≤ 1000000 := by
        have e1 := h4.length
        have e2 : (onceP (ws.take i)).length ≤ [].length + (ws.take i).length := length_mergeL
        have e3 : (ws.take i).length ≤ ws.length := by rw [List.length_take]; omega
        simp only [List.length_nil] at e2; omega
      refine wpAny_execs_cons (wpAny_Expr (e_append (r_nm Fa rfl ⟨lv_type Fa h3, lv_noDict Fa h3, r_nm Fa rfl (r_append Fa h3 (.inr hlo2) zv fun nL s12 F12 => wpAny_execs_nil (wpAny_execs_nil ?_))⟩)) rfl rfl)
      exact (hQ' _ _ ⟨.inl rfl, _, _, F12, hl'.put_other (hl'.neL h3), by simp, h2.put_other hne, vs' ++ [.int ia ta], LV.put_same, by rw [hmerge]; exact h4.append ⟨⟨ta, rfl⟩, trivial⟩⟩)
  · rintro vars D' s' Fv ⟨h1, h2, vs', h3, h4⟩
    have Fa : At (hLed h₁) [] D s s.heap.objs.size [("once", .ref lo)] D' s' := Fv.less (fun p hp => by rw [List.mem_singleton] at hp; subst hp; exact h1)
    dsimp only
    refine wpAny_execs_cons (wpAny_Return_some (r_nm Fa rfl ?_))
    have : ws.take vs.length = ws := by rw [← hi.length, List.take_length]
    rw [this] at h4
    exact hQ D' s' lo vs' Fa.tr hlo2 h3 h4
/-- the edges, as a dict of lists of names -/
structure ES (prog : Program) (w : World) (nms : List Key) (Eg : Key → List Key) (eL : Key → Addr) (dE : Addr) (D : Led) : Prop where
  dict : ∃ xs, DK prog w D dE xs ∧ ∀ x ∈ nms, look xs x = some (.ref (eL x))
  list : ∀ x ∈ nms, ∃ ws, LV D (eL x) ws ∧ KeysL prog w D (Eg x) ws
theorem ES.ext {nms : List Key} {Eg : Key → List Key} {eL : Key → Addr} {dE : Addr} {D D' : Led} {W : List Addr} (x : ES prog w nms Eg eL dE D) (h : ∀ a o, a ∉ W → D a = some o → D' a = some o) (hd : dE ∉ W) (hl : ∀ x ∈ nms, eL x ∉ W) (ht : TSub D D') : ES prog w nms Eg eL dE D' :=
  ⟨let ⟨xs, h1, h2⟩ := x.dict; ⟨xs, h1.mono (fun o e => h _ o hd e) ht, h2⟩, fun y hy => let ⟨ws, h1, h2⟩ := x.list y hy; ⟨ws, h1.mono (fun o e => h _ o (hl y hy) e), h2.mono ht⟩⟩
theorem ES.sub {nms : List Key} {Eg : Key → List Key} {eL : Key → Addr} {dE : Addr} {D D' : Led} (x : ES prog w nms Eg eL dE D) (h : Sub D D') : ES prog w nms Eg eL dE D' :=
  ⟨let ⟨xs, h1, h2⟩ := x.dict; ⟨xs, h1.sub h, h2⟩, fun y hy => let ⟨ws, h1, h2⟩ := x.list y hy; ⟨ws, h1.sub h, h2.mono h.t⟩⟩
def WlkOK (prog : Program) (w : World) (h₁ : Heap) (nms : List Key) (Eg : Key → List Key) (eL : Key → Addr) (dE dD : Addr) (a : Addr) (k : Nat) : Prop :=
  ∀ (A : Around) (E : Value → Shared → Prop) (D : Led) (s : Shared) (xD : KVs) (lM : Addr) (met met' : List Key) (x : Key) (v : Value) (Q : Value → Shared → Prop),
    Room A (2 * k + 5) → Fits D s → (∀ a o, hLed h₁ a = some o → D a = some o) → ES prog w nms Eg eL dE D → DK prog w D dD xD → KI prog w D lM [] met → (∀ k ∈ met, k ∈ nms) → KeyL prog w D x v → x ∈ nms →
    dE ≠ lM → dD ≠ lM → (∀ x ∈ nms, eL x ≠ lM) → hLed h₁ lM = none → (dD == sysModules) = false →
    walkP Eg (fun k => decide (k ∈ xD.map (·.1))) k x met = some met' →
    (∀ D' s', Tr [lM] D s D' s' → KI prog w D' lM [] met' → (∀ k ∈ met', k ∈ nms) → TSub D D' → Q (.ref lM) s') →
    wpAny (model prog w) A (call (.ref a) [v, .ref dE, .ref dD, .ref lM]) Q E s
structure WlkB (prog : Program) (w : World) (nms : List Key) (Eg : Key → List Key) (eL : Key → Addr) (dE dD lM : Addr) (xD : KVs) (x : Key) (wE : List Value) (D : Led) (vars : Vars) (D' : Led) : Prop where
  h1 : ∀ p ∈ ([("edges", .ref dE), ("done", .ref dD), ("met", .ref lM)] : Vars), p ∈ vars
  h2 : LV D' (eL x) wE
  h3 : KeysL prog w D' (Eg x) wE
  h4 : ES prog w nms Eg eL dE D'
  h5 : DK prog w D' dD xD
  h6 : TSub D D'
def wlkS (Eg : Key → List Key) (xD : KVs) (k : Nat) (m : List Key) (y : Key) : Option (List Key) := walkP Eg (fun k => decide (k ∈ xD.map (·.1))) k y m
structure WlkW (prog : Program) (w : World) (nms : List Key) (Eg : Key → List Key) (lM : Addr) (xD : KVs) (k : Nat) (x : Key) (met' : List Key) (i : Nat) (D' : Led) (m : List Key) : Prop where
  h7 : KI prog w D' lM [] m
  h8 : ∀ k ∈ m, k ∈ nms
  h9 : ((Eg x).drop i).foldlM (wlkS Eg xD k) m = some met'
theorem walked_ok (G : Glo h₁ mg mb) {a : Addr} {o : Obj} {pm cd doc : Value} (hmg : mg "_law_walked" = some (.ref a)) (ho : h₁.get? a = some o)
    (hdata : o.data = .func (PySem.Calls.docDef "_law_walked" (fParams (fnAt 5)) (fBody (fnAt 5)) (fScope (fnAt 5)) pm cd doc)) (hcd : h₁.CodeRec cd "_law_walked")
    {nms : List Key} {Eg : Key → List Key} {eL : Key → Addr} {dE dD : Addr} (hok : ∀ k ∈ nms, k.ok) (hedge : ∀ x ∈ nms, ∀ y ∈ Eg x, y ∈ nms) : ∀ k, WlkOK prog w h₁ nms Eg eL dE dD a k := by
  intro k
  induction k with
  | zero => intro A E D s xD lM met met' x v Q _ _ _ _ _ _ _ _ _ _ _ _ _ _ h; cases h
  | succ k ih =>
    intro A E D s xD lM met met' x v Q hR hF hB hE hD hM hMn hx hxm n1 n2 n3 n4 n5 hT hQ
    unfold walkP at hT
    refine r_call (binds := [("x", v), ("edges", .ref dE), ("done", .ref dD), ("met", .ref lM)]) (W' := [lM]) hF hB (fun b hb => by rw [List.mem_singleton] at hb; subst hb; exact n4) G ho hdata hcd hR.d rfl (locs rfl) (by dsimp only [List.map]; decide) ?_ rfl rfl rfl (by decide)
    intro s1 F1
    have hR1 : Room (A.deeper (envOf "_law_walked" (fScope (fnAt 5)) s.heap.objs.size a cd)) (2 * k + 6) := hR.deeper
    generalize (A.deeper (envOf "_law_walked" (fScope (fnAt 5)) s.heap.objs.size a cd)) = A1 at hR1
    obtain ⟨vM, hM1, hM2⟩ := id hM
    rw [List.nil_append] at hM1
    refine wpAny_execs_cons (wpAny_mono (Q := fun f s' => f = .next ∧ ∃ vars D', At (hLed h₁) [lM] D s s.heap.objs.size vars D' s' ∧ ((("met" : Str), Value.ref lM) : Str × Value) ∈ vars ∧ KI prog w D' lM [] met' ∧ (∀ k ∈ met', k ∈ nms) ∧ TSub D D') (E := fun _ _ => False) ?_ ?_ fun _ _ e => e)
    · refine wpAny_gen fun Qz hQz => ?_
      clear hQ
      refine wpAny_If (isTrue_and (wpAny_isTrue_Compare1 (r_nm F1 rfl (r_nm F1 rfl (r_notInD F1 hD hx n5 (hR1.u (by decide)) fun s2 F2 => wpAny_truthy_bool ?_)))))
      by_cases hdn : x ∈ xD.map (·.1)
      · rw [if_pos (.inl (by simpa using hdn))] at hT
        injection hT with hT; subst hT
        refine ite_f (by simp only [hdn, decide_true, Bool.not_true]) ?_
        exact wpAny_execs_nil (hQz _ _ ⟨rfl, _, D, F2, by simp, hM, hMn, .refl _⟩)
      · refine ite_t (by simp only [hdn, decide_false, Bool.not_false]) ?_
        refine isTrue_and (wpAny_isTrue_Compare1 (r_nm F2 rfl (r_nm F2 rfl (r_notInKeys F2 hM1 hM2 hx (fun k hk => hok k (hMn k hk)) (hok x hxm) (hR1.u (by decide)) (wpAny_truthy_bool ?_)))))
        by_cases hmt : x ∈ met
        · rw [if_pos (.inr hmt)] at hT
          injection hT with hT; subst hT
          refine ite_f (by simp only [hmt, decide_true, Bool.not_true]) ?_
          exact wpAny_execs_nil (hQz _ _ ⟨rfl, _, D, F2, by simp, hM, hMn, .refl _⟩)
        · rw [if_neg (by simp [hdn, hmt])] at hT
          split at hT
          case isFalse => cases hT
          rename_i hlen
          refine ite_t (by simp only [hmt, decide_false, Bool.not_false]) ?_
          refine isTrue_and_nil ?_
          refine ite_t rfl ?_
          have zM : vM.length ≤ 1000000 := by have := hM2.length; omega
          refine wpAny_execs_cons (wpAny_Expr (e_append (r_nm F2 rfl ⟨lv_type F2 hM1, lv_noDict F2 hM1, r_nm F2 rfl (r_append F2 hM1 (.inl (by simp)) zM fun nM s3 F3 => ?_)⟩)) rfl rfl)
          have t3 : TSub D (D.put lM (lstO (vM ++ [v]).toArray nM)) := .put hM1.noTup
          have hE3 : ES prog w nms Eg eL dE (D.put lM (lstO (vM ++ [v]).toArray nM)) := hE.ext (W := [lM]) (fun a o ha e => by
            have hne : a ≠ lM := fun q => ha (by rw [q]; simp)
            rw [Led.put_other hne]; exact e) (by simpa using n1) (fun x hx => by simpa using n3 x hx) t3
          have hM3 : KI prog w (D.put lM (lstO (vM ++ [v]).toArray nM)) lM [] (met ++ [x]) := ⟨vM ++ [v], LV.put_same, (hM2.mono t3).append ⟨hx.mono t3, trivial⟩⟩
          have hD3 := hD.put_other n2 t3
          have hx3 := hx.mono t3
          have hMn3 : ∀ k ∈ met ++ [x], k ∈ nms := fun k hk => by
            rcases List.mem_append.mp hk with q | q
            · exact hMn k q
            · rw [List.mem_singleton] at q; rw [q]; exact hxm
          generalize e3 : D.put lM (lstO (vM ++ [v]).toArray nM) = D3 at F3 t3 hE3 hM3 hD3 hx3
          obtain ⟨xE, hE1, hE2⟩ := hE3.dict
          obtain ⟨wE, hW1, hW2⟩ := hE3.list x hxm
          dsimp only
          refine wpAny_execs_cons (wpAny_For (e_sub (r_nm F3 rfl (r_nm F3 rfl (r_itemD F3 hE1 hx3 (hE2 x hxm) (hR1.u (by decide)) fun s4 F4 => r_iter F4 hW1 fun it oi s5 hi1 hi2 F5 hit => ?_)))))
          have hs5 : Sub D3 (D3.put it oi) := .new hi1
          have hitM : it ≠ lM := fun q => by obtain ⟨_, h1, _⟩ := hM3; obtain ⟨o1, h2⟩ := h1.some; rw [← q, hi1] at h2; cases h2
          refine r_for (vs := wE) (fun i vars D' => WlkB prog w nms Eg eL dE dD lM xD x wE D vars D' ∧ ∃ m, WlkW prog w nms Eg lM xD k x met' i D' m) F5 hit hi2 ?_ hR1.hand (fun i vars D' h => h.1.h2) ?_ ?_ ?_
          · exact ⟨⟨by simp, hW1.sub hs5, hW2.mono hs5.t, hE3.sub hs5, hD3.sub hs5, t3.trans hs5.t⟩, met ++ [x], hM3.sub hs5, hMn3, hT⟩
          · rintro i vars D' D'' hl hoff ⟨b, m, g⟩
            have hs := Sub.off hl hoff
            exact ⟨⟨b.h1, b.h2.sub hs, b.h3.mono hs.t, b.h4.sub hs, b.h5.sub hs, b.h6.trans hs.t⟩, m, g.h7.sub hs, g.h8, g.h9⟩
          · rintro i vy vars D' s' E'' hv Fv hl ⟨b, m, g⟩
            refine wpAny_gen fun Q' hQ' => ?_
            clear hQz
            obtain ⟨y, hyE, hyK⟩ := b.h3.getV hv
            have hym : y ∈ nms := hedge x hxm y (List.mem_of_getElem? hyE)
            obtain ⟨m2, hm2, hrest⟩ := fold_next hyE g.h9
            have Fy : At (hLed h₁) [lM] D s s.heap.objs.size (("y", vy) :: [("edges", .ref dE), ("done", .ref dD), ("met", .ref lM)]) D' s' := Fv.less (sub_put1 b.h1 (all_ne rfl))
            clear Fv
            as_aux_lemma =>
            refine wpAny_execs_cons (wpAny_Expr_any (e_call (r_glob Fy G hmg ⟨a, o, _, rfl, hdata, args_cons (r_nm Fy rfl (args_cons (r_nm Fy rfl (args_cons (r_nm Fy rfl (args_cons (r_nm Fy rfl (args_nil ⟨Fy.baseGet ho, ?_⟩))))))))⟩)) rfl rfl)
            refine ih _ _ _ _ _ _ _ _ _ _ _ (hR1.less (by omega)) Fy.fits Fy.base b.h4 b.h5 g.h7 g.h8 hyK hym n1 n2 n3 n4 n5 hm2 fun D'' s'' tr hM'' hMn'' ht'' => ?_
            have F6 := Fy.step tr fun b hb => by
              rw [List.mem_singleton] at hb; subst hb
              obtain ⟨_, e1, _⟩ := g.h7
              exact ⟨e1.some, .inl (by simp)⟩
            have hext : ∀ a o, a ≠ lM → D' a = some o → D'' a = some o := fun a o ha e => tr.ext a o (by simpa using ha) e
            refine wpAny_execs_nil (hQ' _ _ ⟨.inl rfl, _, D'', F6, hl.mono fun o e => hext it o hitM e, ⟨by simp, b.h2.mono fun o e => hext _ o (n3 x hxm) e, b.h3.mono ht'', ?_, b.h5.mono (fun o e => hext _ o n2 e) ht'', b.h6.trans ht''⟩, m2, hM'', hMn'', hrest⟩)
            exact b.h4.ext (W := [lM]) (fun a o ha e => hext a o (by simpa using ha) e) (by simpa using n1) (fun x hx => by simpa using n3 x hx) ht''
          · rintro vars D' s' Fv ⟨b, m, g⟩
            have hm : m = met' := fold_last hW2.length.symm g.h9
            subst hm
            exact wpAny_execs_nil (hQz _ _ ⟨rfl, vars, D', Fv, b.h1 _ (by simp), g.h7, g.h8, b.h6⟩)
    · rintro f s2 ⟨rfl, vars, D', F2, hv2, hM2, hMn2, ht2⟩
      dsimp only
      have F3 : At (hLed h₁) [lM] D s s.heap.objs.size [("met", .ref lM)] D' s2 := F2.less fun p hp => by rw [List.mem_singleton] at hp; subst hp; exact hv2
      exact wpAny_execs_cons (wpAny_Return_some (r_nm F3 rfl (hQ D' s2 F3.tr hM2 hMn2 ht2)))
end
end Mine
end

section
open PySem PySem.W PyProof.Rows
set_option Elab.async false
set_option maxRecDepth 100000
namespace Mine
def Ext0 (D D' : Led) : Prop := ∀ a o, D a = some o → D' a = some o
theorem Ext0.refl (D : Led) : Ext0 D D := fun _ _ e => e
theorem Ext0.trans {D D' D'' : Led} (x : Ext0 D D') (y : Ext0 D' D'') : Ext0 D D'' := fun a o e => y a o (x a o e)
theorem Ext0.new {D : Led} {a : Addr} {o : Obj} (h : D a = none) : Ext0 D (D.put a o) := fun b o' e => by
  rw [Led.put_other (fun q => by rw [q, h] at e; cases e)]; exact e
theorem Ext0.sub {D D' : Led} (x : Ext0 D D') : Sub D D' := fun a o e _ => x a o e
/-- values: a dict of lists of ints -/
structure IS (prog : Program) (w : World) (nms : List Key) (Vl : Key → List Int) (vL : Key → Addr) (dV : Addr) (D : Led) : Prop where
  dict : ∃ xs, DK prog w D dV xs ∧ ∀ x ∈ nms, look xs x = some (.ref (vL x))
  list : ∀ x ∈ nms, ∃ ws, LV D (vL x) ws ∧ IntsL (Vl x) ws
/-- done: lists of ints, or None -/
structure DS (prog : Program) (w : World) (dn : Key → Option (Option (List Int))) (oL : Key → Addr) (dD : Addr) (D : Led) : Prop where
  dict : ∃ xs, DK prog w D dD xs ∧ ∀ k, look xs k = (dn k).map fun o => match o with | none => .none | some _ => .ref (oL k)
  list : ∀ k l, dn k = some (some l) → ∃ ws, LV D (oL k) ws ∧ IntsL l ws
section
variable {prog : Program} {w : World} {D D' : Led} {W : List Addr}
theorem IS.ext {nms : List Key} {Vl : Key → List Int} {vL : Key → Addr} {dV : Addr} (x : IS prog w nms Vl vL dV D) (h : ∀ a o, a ∉ W → D a = some o → D' a = some o) (hd : dV ∉ W) (hl : ∀ x ∈ nms, vL x ∉ W) (ht : TSub D D') : IS prog w nms Vl vL dV D' :=
  ⟨let ⟨xs, h1, h2⟩ := x.dict; ⟨xs, h1.mono (fun o e => h _ o hd e) ht, h2⟩, fun y hy => let ⟨ws, h1, h2⟩ := x.list y hy; ⟨ws, h1.mono (fun o e => h _ o (hl y hy) e), h2⟩⟩
theorem IS.sub {nms : List Key} {Vl : Key → List Int} {vL : Key → Addr} {dV : Addr} (x : IS prog w nms Vl vL dV D) (h : Sub D D') : IS prog w nms Vl vL dV D' :=
  ⟨let ⟨xs, h1, h2⟩ := x.dict; ⟨xs, h1.sub h, h2⟩, fun y hy => let ⟨ws, h1, h2⟩ := x.list y hy; ⟨ws, h1.sub h, h2⟩⟩
theorem DS.ext {dn : Key → Option (Option (List Int))} {oL : Key → Addr} {dD : Addr} (x : DS prog w dn oL dD D) (h : ∀ a o, a ∉ W → D a = some o → D' a = some o) (hd : dD ∉ W) (hl : ∀ k l, dn k = some (some l) → oL k ∉ W) (ht : TSub D D') : DS prog w dn oL dD D' :=
  ⟨let ⟨xs, h1, h2⟩ := x.dict; ⟨xs, h1.mono (fun o e => h _ o hd e) ht, h2⟩, fun k l hk => let ⟨ws, h1, h2⟩ := x.list k l hk; ⟨ws, h1.mono (fun o e => h _ o (hl k l hk) e), h2⟩⟩
theorem DS.sub {dn : Key → Option (Option (List Int))} {oL : Key → Addr} {dD : Addr} (x : DS prog w dn oL dD D) (h : Sub D D') : DS prog w dn oL dD D' :=
  ⟨let ⟨xs, h1, h2⟩ := x.dict; ⟨xs, h1.sub h, h2⟩, fun k l hk => let ⟨ws, h1, h2⟩ := x.list k l hk; ⟨ws, h1.sub h, h2⟩⟩
end
set_option genInjectivity false in
set_option genSizeOf false in
structure SC where
  dE : Addr
  dV : Addr
  dK : Addr
  dD : Addr
  nms : List Key
  wk : List Key
  Eg : Key → List Key
  eL : Key → Addr
  Vl : Key → List Int
  vL : Key → Addr
  Kn : Key → List Key
  kL : Key → Addr
  dn : Key → Option (Option (List Int))
  oL : Key → Addr
abbrev SC.dnP (c : SC) : Key → Option (List Int) := fun k => (c.dn k).map (·.getD [])
abbrev SC.same (c : SC) : Key → Key → Bool := fun x y => decide (y ∈ c.Kn x)
abbrev SC.root (c : SC) : Key → Key := fun y => (c.Kn y).headD y
structure SSt (prog : Program) (w : World) (c : SC) (D : Led) : Prop where
  E : ES prog w c.nms c.Eg c.eL c.dE D
  V : IS prog w c.nms c.Vl c.vL c.dV D
  K : ES prog w c.wk c.Kn c.kL c.dK D
  Dn : DS prog w c.dn c.oL c.dD D
structure SNe (c : SC) (lM : Addr) : Prop where
  dE : c.dE ≠ lM
  dV : c.dV ≠ lM
  dK : c.dK ≠ lM
  dD : c.dD ≠ lM
  eL : ∀ x ∈ c.nms, c.eL x ≠ lM
  vL : ∀ x ∈ c.nms, c.vL x ≠ lM
  kL : ∀ x ∈ c.wk, c.kL x ≠ lM
  oL : ∀ k l, c.dn k = some (some l) → c.oL k ≠ lM
structure SOk (c : SC) : Prop where
  ok : ∀ k ∈ c.nms, k.ok
  wk : ∀ k ∈ c.wk, k ∈ c.nms
  Kn : ∀ x ∈ c.wk, ∀ y ∈ c.Kn x, y ∈ c.wk
  Kne : ∀ x ∈ c.wk, c.Kn x ≠ []
  cl : ∀ x ∈ c.wk, ∀ y ∈ c.Eg x, c.dn y = none → y ∈ c.wk
  short : ∀ k l, c.dn k = some (some l) → l.length ≤ 100000
theorem SSt.ext {prog : Program} {w : World} {c : SC} {D D' : Led} {lM : Addr} (x : SSt prog w c D) (n : SNe c lM) (h : ∀ a o, a ≠ lM → D a = some o → D' a = some o) (ht : TSub D D') : SSt prog w c D' := by
  have h' : ∀ a o, a ∉ [lM] → D a = some o → D' a = some o := fun a o ha e => h a o (by simpa using ha) e
  exact ⟨x.E.ext h' (by simpa using n.dE) (fun y hy => by simpa using n.eL y hy) ht, x.V.ext h' (by simpa using n.dV) (fun y hy => by simpa using n.vL y hy) ht,
    x.K.ext h' (by simpa using n.dK) (fun y hy => by simpa using n.kL y hy) ht, x.Dn.ext h' (by simpa using n.dD) (fun k l hk => by simpa using n.oL k l hk) ht⟩
theorem SSt.sub {prog : Program} {w : World} {c : SC} {D D' : Led} (x : SSt prog w c D) (h : Sub D D') : SSt prog w c D' := ⟨x.E.sub h, x.V.sub h, x.K.sub h, x.Dn.sub h⟩
section
variable {prog : Program} {w : World} {h₁ : Heap} {mg mb : Str → Option Value} {c : SC}
def SdOK (prog : Program) (w : World) (h₁ : Heap) (c : SC) (a : Addr) (k : Nat) : Prop :=
  ∀ (A : Around) (E : Value → Shared → Prop) (D : Led) (s : Shared) (lM : Addr) (met met' : List Key) (ws : List Int) (x : Key) (v : Value) (Q : Value → Shared → Prop),
    Room A (2 * k + 5) → Fits D s → (∀ a o, hLed h₁ a = some o → D a = some o) → SSt prog w c D → SNe c lM → KI prog w D lM [] met → (∀ k ∈ met, k ∈ c.nms) → KeyL prog w D x v → x ∈ c.wk →
    hLed h₁ lM = none → (c.dD == sysModules) = false →
    saidP c.Eg c.Vl c.dnP c.same c.root k x met = some (ws, met') →
    (∀ D' s' lw vs, Tr [lM] D s D' s' → KI prog w D' lM [] met' → (∀ k ∈ met', k ∈ c.nms) → TSub D D' → s.heap.get? lw = none → LV D' lw vs → IntsL ws vs → Q (.ref lw) s') →
    wpAny (model prog w) A (call (.ref a) [v, .ref c.dE, .ref c.dV, .ref c.dK, .ref c.dD, .ref lM]) Q E s
def sdV (c : SC) (v : Value) (lM : Addr) : Vars := [("x", v), ("edges", .ref c.dE), ("values", .ref c.dV), ("knots", .ref c.dK), ("done", .ref c.dD), ("met", .ref lM)]
/-- one edge of said -/
def sdS (c : SC) (k : Nat) (x : Key) : List Int × List Key → Key → Option (List Int × List Key) := fun wm y => match c.dnP y with
  | some l => if wm.1.length + l.length ≤ 100000 then some (wm.1 ++ l, wm.2) else none
  | none => if (if c.same x y then y else c.root y) ∈ wm.2 then some wm
    else (saidP c.Eg c.Vl c.dnP c.same c.root k (if c.same x y then y else c.root y) wm.2) >>= fun wm' => if wm.1.length + wm'.1.length ≤ 100000 then some (wm.1 ++ wm'.1, wm'.2) else none
def sdP (c : SC) (x y : Key) : Key := if c.same x y then y else c.root y
theorem sdS_done {c : SC} {k : Nat} {x y : Key} {wm wm2 : List Int × List Key} {l : List Int} (h : c.dnP y = some l) (e : sdS c k x wm y = some wm2) : wm.1.length + l.length ≤ 100000 ∧ wm2 = (wm.1 ++ l, wm.2) := by
  unfold sdS at e
  rw [h] at e
  dsimp only at e
  split at e
  · rename_i hz; injection e with e; exact ⟨hz, e.symm⟩
  · cases e
theorem sdS_met {c : SC} {k : Nat} {x y : Key} {wm wm2 : List Int × List Key} (h : c.dnP y = none) (hm : sdP c x y ∈ wm.2) (e : sdS c k x wm y = some wm2) : wm2 = wm := by
  unfold sdS at e
  rw [h] at e
  change (if sdP c x y ∈ wm.2 then some wm else _) = _ at e
  rw [if_pos hm] at e
  injection e with e; exact e.symm
theorem sdS_new {c : SC} {k : Nat} {x y : Key} {wm wm2 : List Int × List Key} (h : c.dnP y = none) (hm : sdP c x y ∉ wm.2) (e : sdS c k x wm y = some wm2) :
    ∃ wm', saidP c.Eg c.Vl c.dnP c.same c.root k (sdP c x y) wm.2 = some wm' ∧ wm.1.length + wm'.1.length ≤ 100000 ∧ wm2 = (wm.1 ++ wm'.1, wm'.2) := by
  unfold sdS at e
  rw [h] at e
  change (if sdP c x y ∈ wm.2 then some wm else _) = _ at e
  rw [if_neg hm] at e
  change (saidP c.Eg c.Vl c.dnP c.same c.root k (sdP c x y) wm.2 >>= _) = _ at e
  cases e1 : saidP c.Eg c.Vl c.dnP c.same c.root k (sdP c x y) wm.2 with
  | none => rw [e1] at e; cases e
  | some wm' =>
    rw [e1] at e
    change (if wm.1.length + wm'.1.length ≤ 100000 then some (wm.1 ++ wm'.1, wm'.2) else none) = _ at e
    split at e
    · rename_i hz; injection e with e; exact ⟨wm', rfl, hz, e.symm⟩
    · cases e
structure SdB (prog : Program) (w : World) (c : SC) (x : Key) (v : Value) (lM : Addr) (wE : List Value) (D : Led) (vars : Vars) (D' : Led) : Prop where
  h1 : ∀ p ∈ sdV c v lM, p ∈ vars
  h2 : LV D' (c.eL x) wE
  h3 : KeysL prog w D' (c.Eg x) wE
  h4 : SSt prog w c D'
  h5 : KeyL prog w D' x v
  h6 : TSub D D'
structure SdW (prog : Program) (w : World) (c : SC) (k : Nat) (x : Key) (lM : Addr) (s : Shared) (z : List Int × List Key) (i : Nat) (vars : Vars) (D' : Led) (wm : List Int × List Key) (lw : Addr) (vw : List Value) : Prop where
  h7 : ((("words" : Str), Value.ref lw) : Str × Value) ∈ vars
  h8 : s.heap.get? lw = none
  h9 : lw ≠ lM
  h10 : LV D' lw vw
  h11 : IntsL wm.1 vw
  h12 : KI prog w D' lM [] wm.2
  h13 : ∀ k ∈ wm.2, k ∈ c.nms
  h14 : wm.1.length ≤ 100000
  h15 : ((c.Eg x).drop i).foldlM (sdS c k x) wm = some z
section
variable {x : Key} {v : Value} {lM lw : Addr} {wE vw : List Value} {D D' D'' : Led} {vars vars2 : Vars} {k i : Nat} {s : Shared} {z wm : List Int × List Key}
theorem SdB.sub (b : SdB prog w c x v lM wE D vars D') (hs : Sub D' D'') : SdB prog w c x v lM wE D vars D'' := ⟨b.h1, b.h2.sub hs, b.h3.mono hs.t, b.h4.sub hs, b.h5.mono hs.t, b.h6.trans hs.t⟩
theorem SdB.vs (b : SdB prog w c x v lM wE D vars D') (h : ∀ p ∈ sdV c v lM, p ∈ vars2) : SdB prog w c x v lM wE D vars2 D' := { b with h1 := h }
theorem SdB.call (b : SdB prog w c x v lM wE D vars D') (hN : SNe c lM) (hxm : x ∈ c.nms) (h : ∀ a o, a ≠ lM → D' a = some o → D'' a = some o) (ht : TSub D' D'') : SdB prog w c x v lM wE D vars D'' :=
  ⟨b.h1, b.h2.mono fun o e => h _ o (hN.eL x hxm) e, b.h3.mono ht, b.h4.ext hN h ht, b.h5.mono ht, b.h6.trans ht⟩
theorem SdW.sub (b : SdW prog w c k x lM s z i vars D' wm lw vw) (hs : Sub D' D'') : SdW prog w c k x lM s z i vars D'' wm lw vw := { b with h10 := b.h10.sub hs, h12 := b.h12.sub hs }
end
section
variable {a : Addr} {o : Obj} {pm cd doc : Value} {k : Nat} {A1 : Around} {x y : Key} {v vy : Value} {lM it L lw : Addr} {wE vw : List Value} {D D' : Led} {s s' : Shared} {z wm : List Int × List Key} {i : Nat} {vars : Vars} {Q : Flow → Shared → Prop} {E : Value → Shared → Prop}
def sdBody : List Stmt := forBody (stAt (fBody (fnAt 6)) 2)
abbrev sdEnv (L a : Addr) (cd : Value) : Env := envOf "_law_said" (fScope (fnAt 6)) L a cd
abbrev sdY (c : SC) (v vy : Value) (lM lw : Addr) : Vars := ("y", vy) :: ("words", .ref lw) :: sdV c v lM
/-- what a turn must give -/
abbrev SdQ (prog : Program) (w : World) (h₁ : Heap) (c : SC) (k : Nat) (x : Key) (v : Value) (lM it L : Addr) (wE : List Value) (D : Led) (s : Shared) (z : List Int × List Key) (i : Nat) (Q : Flow → Shared → Prop) : Prop :=
  ∀ vars D' s' wm lw vw, At (hLed h₁) [lM] D s L vars D' s' → LIt D' it (c.eL x) (i + 1) → SdB prog w c x v lM wE D vars D' → SdW prog w c k x lM s z (i + 1) vars D' wm lw vw → Q .next s'
/-- done[y] or [] -/
theorem sd_or {od : Option (List Int)} {Q : Value → Shared → Prop} (hc : SOk c) (hR1 : Room A1 2) (F9 : At (hLed h₁) [lM] D s L (sdY c v vy lM lw) D' s') (hS : SSt prog w c D') (hyK : KeyL prog w D' y vy) (hdn : c.dn y = some od) {xD : KVs} (hD1 : DK prog w D' c.dD xD) (hD2 : ∀ k, look xD k = (c.dn k).map fun o => match o with | none => .none | some _ => .ref (c.oL k))
    (hQ : ∀ lr wr D2 s2, At (hLed h₁) [lM] D s L (sdY c v vy lM lw) D2 s2 → Ext0 D' D2 → LV D2 lr wr → IntsL (od.getD []) wr → Q (.ref lr) s2) {e1 e2 : Expr} {p1 p2 p3 p4 p5 : Pos}
    (he1 : e1 = .Subscript (.Name "done" p1) (.Name "y" p2) p3) (he2 : e2 = .List [] p4) :
    wpAny (model prog w) A1 (eval (.BoolOp .Or [e1, e2] p5) (sdEnv L a cd)) Q E s' := by
  subst he1; subst he2
  have hgetd := hD2 y
  rw [hdn] at hgetd
  cases od with
  | none =>
    refine BoolOp_or (e_sub (r_nm F9 rfl (r_nm F9 rfl (r_itemD F9 hD1 hyK hgetd (hR1.u (by decide)) fun s10 F10 => truthy_none ?_))))
    refine ite_f rfl ?_
    exact BoolOp_one (List_ (args_nil (r_newList F10 (by simp) fun le s11 hle1 _ F11 => hQ le [] _ s11 F11 (.new hle1) LV.put_same trivial)))
  | some l =>
    obtain ⟨wl, hl1, hl2⟩ := hS.Dn.list y l hdn
    have zl : wl.length ≤ 1000000 := by have := hl2.length; have := hc.short y l hdn; omega
    refine BoolOp_or (e_sub (r_nm F9 rfl (r_nm F9 rfl (r_itemD F9 hD1 hyK hgetd (hR1.u (by decide)) fun s10 F10 => r_truthyL F10 hl1 zl fun s11 F11 => ?_))))
    cases wl with
    | nil =>
      refine ite_f rfl ?_
      exact BoolOp_one (List_ (args_nil (r_newList F11 (by simp) fun le s12 hle1 _ F12 => hQ le [] _ s12 F12 (.new hle1) LV.put_same hl2)))
    | cons u wl =>
      refine ite_t rfl ?_
      exact hQ _ (u :: wl) D' s11 F11 (.refl _) hl1 hl2
/-- place -/
theorem sd_place {Q : Value → Shared → Prop} {xK : KVs} (hc : SOk c) (hR1 : Room A1 2) (F9 : At (hLed h₁) [lM] D s L (sdY c v vy lM lw) D' s') (hS : SSt prog w c D') (hyK : KeyL prog w D' y vy) (hxK : KeyL prog w D' x v) (hxw : x ∈ c.wk) (hyw : y ∈ c.wk) (hK1 : DK prog w D' c.dK xK) (hK2 : ∀ x ∈ c.wk, look xK x = some (.ref (c.kL x)))
    (hQ : ∀ v2 s2, At (hLed h₁) [lM] D s L (sdY c v vy lM lw) D' s2 → KeyL prog w D' (sdP c x y) v2 → Q v2 s2) {e : Expr} {p1 p2 p3 p4 p5 p6 p7 p8 p9 p10 p11 p12 : Pos}
    (he : e = .IfExp (.Compare (.Name "y" p1) [.In] [.Subscript (.Name "knots" p2) (.Name "x" p3) p4] p5) (.Name "y" p6) (.Subscript (.Subscript (.Name "knots" p7) (.Name "y" p8) p9) (.Constant (.int 0) 0 p10) p11) p12) :
    wpAny (model prog w) A1 (eval e (sdEnv L a cd)) Q E s' := by
  subst he
  obtain ⟨wx, hx1, hx2⟩ := hS.K.list x hxw
  obtain ⟨wy, hy1, hy2⟩ := hS.K.list y hyw
  refine IfExp_ (wpAny_isTrue_Compare1 (r_nm F9 rfl (e_sub (r_nm F9 rfl (r_nm F9 rfl (r_itemD F9 hK1 hxK (hK2 x hxw) (hR1.u (by decide)) fun s10 F10 => r_inKeys F10 hx1 hx2 hyK (fun k hk => hc.ok k (hc.wk k (hc.Kn x hxw k hk))) (hc.ok y (hc.wk y hyw)) (hR1.u (by decide)) (wpAny_truthy_bool ?_)))))))
  by_cases hsame : y ∈ c.Kn x
  · have e1 : sdP c x y = y := by unfold sdP; exact if_pos (decide_eq_true hsame)
    refine ite_t (decide_eq_true hsame) ?_
    exact r_nm F10 rfl (hQ _ _ F10 (by rw [e1]; exact hyK))
  · have e1 : sdP c x y = c.root y := by unfold sdP; exact if_neg (by rw [show c.same x y = false from decide_eq_false hsame]; exact Bool.false_ne_true)
    refine ite_f (decide_eq_false hsame) ?_
    refine e_sub (e_sub (r_nm F10 rfl (r_nm F10 rfl (r_itemD F10 hK1 hyK (hK2 y hyw) (hR1.u (by decide)) fun s11 F11 => wpAny_Constant_int ?_))))
    have hne := hc.Kne y hyw
    cases hkn : c.Kn y with
    | nil => exact absurd hkn hne
    | cons r0 rs =>
      rw [hkn] at hy2
      cases wy with
      | nil => exact hy2.elim
      | cons u us =>
        refine r_itemL (F11.toks _) hy1 (by decide) (by decide) (v := u) rfl (hQ _ _ (F11.toks _) ?_)
        rw [e1]
        show KeyL prog w D' ((c.Kn y).headD y) u
        rw [hkn]; exact hy2.1
theorem sdP_wk (hc : SOk c) (hyw : y ∈ c.wk) : sdP c x y ∈ c.wk := by
  unfold sdP
  split
  · exact hyw
  · have hne := hc.Kne y hyw
    show (c.Kn y).headD y ∈ c.wk
    cases hkn : c.Kn y with
    | nil => exact absurd hkn hne
    | cons r0 rs => exact hc.Kn y hyw r0 (by rw [hkn]; simp)
/-- words + _law_said(place, ..) -/
theorem sd_new (G : Glo h₁ mg mb) (hmg : mg "_law_said" = some (.ref a)) (ho : h₁.get? a = some o)
    (hdata : o.data = .func (PySem.Calls.docDef "_law_said" (fParams (fnAt 6)) (fBody (fnAt 6)) (fScope (fnAt 6)) pm cd doc)) (ih : SdOK prog w h₁ c a k) (hR1 : Room A1 (2 * k + 6)) (hN : SNe c lM) (n4 : hLed h₁ lM = none) (n5 : (c.dD == sysModules) = false) (hxm : x ∈ c.nms)
    {p : Key} {v2 : Value} {wm' : List Int × List Key} {rest : List Stmt} (F4 : At (hLed h₁) [lM] D s L (("place", v2) :: ("words", .ref lw) :: sdV c v lM) D' s') (hit : LIt D' it (c.eL x) (i + 1)) (hitM : it ≠ lM) (b : SdB prog w c x v lM wE D vars D') (W : SdW prog w c k x lM s z i vars D' wm lw vw)
    (hpK : KeyL prog w D' p v2) (hpw : p ∈ c.wk) (hsd : saidP c.Eg c.Vl c.dnP c.same c.root k p wm.2 = some wm') (hz : wm.1.length + wm'.1.length ≤ 100000) (hrest : ((c.Eg x).drop (i + 1)).foldlM (sdS c k x) (wm.1 ++ wm'.1, wm'.2) = some z)
    (hQ : SdQ prog w h₁ c k x v lM it L wE D s z i Q) {st : Stmt} {q1 q2 q3 q4 q5 q6 q7 q8 q9 q10 q11 q12 : Pos}
    (hst : st = .Assign [.Name "words" q1] (.BinOp (.Name "words" q2) .Add (.Call (.Name "_law_said" q3) [.Name "place" q4, .Name "edges" q5, .Name "values" q6, .Name "knots" q7, .Name "done" q8, .Name "met" q9] [] q10) q11) q12) :
    wpAny (model prog w) A1 (exec st (sdEnv L a cd)) Q E s' := by
  subst hst
  obtain ⟨vM', hM1', hM2'⟩ := id W.h12
  rw [List.nil_append] at hM1'
  refine wpAny_Assign_Name (wpAny_BinOp (r_nm F4 rfl (e_call (r_glob F4 G hmg ⟨a, o, _, rfl, hdata, args_cons (r_nm F4 rfl (args_cons (r_nm F4 rfl (args_cons (r_nm F4 rfl (args_cons (r_nm F4 rfl (args_cons (r_nm F4 rfl (args_cons (r_nm F4 rfl (args_nil ⟨F4.baseGet ho, ?_⟩))))))))))))⟩)))) rfl
  refine ih _ _ _ _ _ _ wm'.2 wm'.1 _ _ _ (hR1.less (by omega)) F4.fits F4.base b.h4 hN W.h12 W.h13 hpK hpw n4 n5 hsd fun D'' s'' lr wr tr hM'' hMn'' ht'' hlr1 hr1 hr2 => ?_
  have F6 := F4.step tr fun b hb => by
    rw [List.mem_singleton] at hb; subst hb
    exact ⟨hM1'.some, .inl (by simp)⟩
  have hext : ∀ a o, a ≠ lM → D' a = some o → D'' a = some o := fun a o ha e => tr.ext a o (by simpa using ha) e
  have zw : vw.length + wr.length ≤ 1000000 := by have e1 := W.h11.length; have e2 := hr2.length; omega
  have h10'' : LV D'' lw vw := W.h10.mono fun o e => hext _ o W.h9 e
  refine r_addL F6 h10'' hr1 zw fun lr2 s7 hn1 hn2 F7 => r_st F7 fun s8 F8 => ?_
  have hx3 : Ext0 D'' (D''.put lr2 (lstO (vw ++ wr).toArray 0)) := .new hn1
  have hlr2 : lr2 ≠ lM := fun q => by obtain ⟨_, q1, _⟩ := hM''; obtain ⟨o1, q2⟩ := q1.some; rw [← q, hn1] at q2; cases q2
  refine hQ _ _ _ (wm.1 ++ wm'.1, wm'.2) lr2 (vw ++ wr) F8 ((hit.mono fun o e => hext it o hitM e).mono fun o e => hx3 _ o e) (((b.call hN hxm hext ht'').sub hx3.sub).vs ?_) ⟨by simp [Vars.put], hn2, hlr2, LV.put_same, W.h11.append hr2, hM''.sub hx3.sub, hMn'', ?_, hrest⟩
  · exact fun q hq => mem_put (List.mem_cons_of_mem _ (List.mem_cons_of_mem _ hq)) (all_ne (l := sdV c v lM) rfl q hq)
  · show (wm.1 ++ wm'.1).length ≤ 100000; rw [List.length_append]; exact hz
/-- one turn -/
theorem sd_turn (G : Glo h₁ mg mb) (hmg : mg "_law_said" = some (.ref a)) (ho : h₁.get? a = some o)
    (hdata : o.data = .func (PySem.Calls.docDef "_law_said" (fParams (fnAt 6)) (fBody (fnAt 6)) (fScope (fnAt 6)) pm cd doc)) (hc : SOk c) (ih : SdOK prog w h₁ c a k) (hR1 : Room A1 (2 * k + 6)) (hN : SNe c lM) (n4 : hLed h₁ lM = none) (n5 : (c.dD == sysModules) = false) (hxw : x ∈ c.wk)
    (hv : wE[i]? = some vy) (Fv : At (hLed h₁) [lM] D s L (Vars.put vars "y" vy) D' s') (hit : LIt D' it (c.eL x) (i + 1)) (hitM : it ≠ lM) (b : SdB prog w c x v lM wE D vars D') (W : SdW prog w c k x lM s z i vars D' wm lw vw)
    (hQ : SdQ prog w h₁ c k x v lM it L wE D s z i Q) : wpAny (model prog w) A1 (execs sdBody (sdEnv L a cd)) Q E s' := by
  obtain ⟨y, hyE, hyK⟩ := b.h3.getV hv
  obtain ⟨wm2, hst, hrest⟩ := fold_next hyE W.h15
  have Fy : At (hLed h₁) [lM] D s L (sdY c v vy lM lw) D' s' := Fv.less (sub_put1 (fun p hp => by
    rcases List.mem_cons.mp hp with q | q
    · rw [q]; exact W.h7
    · exact b.h1 p q) (all_ne rfl))
  clear Fv
  obtain ⟨xD, hD1, hD2⟩ := b.h4.Dn.dict
  have hkey : decide (y ∈ xD.map (·.1)) = (c.dn y).isSome := by
    have e1 := hD2 y
    cases e : c.dn y with
    | none => rw [e] at e1; rw [decide_eq_false (look_none.mp e1)]; rfl
    | some od => rw [e] at e1; rw [decide_eq_true (look_isSome.mp (by rw [e1]; rfl))]; rfl
  have hR2 : Room A1 2 := hR1.less (by omega)
  refine wpAny_execs_cons (wpAny_If (wpAny_isTrue_Compare1 (r_nm Fy rfl (r_nm Fy rfl (r_inD Fy hD1 hyK n5 (hR2.u (by decide)) fun s9 F9 => wpAny_truthy_bool ?_)))))
  rw [hkey]
  cases hdn : c.dn y with
  | some od =>
    obtain ⟨hz, rfl⟩ := sdS_done (show c.dnP y = some (od.getD []) by show (c.dn y).map _ = _; rw [hdn]; rfl) hst
    refine ite_t rfl ?_
    refine wpAny_execs_cons (wpAny_Assign_Name (wpAny_BinOp (r_nm F9 rfl (sd_or hc hR2 F9 b.h4 hyK hdn hD1 hD2 (fun lr wr D2 s2 F2 hx2 hr1 hr2 => ?_) rfl rfl))) rfl)
    have zw : vw.length + wr.length ≤ 1000000 := by have e1 := W.h11.length; have e2 := hr2.length; have e3 := W.h14; omega
    refine r_addL F2 (W.h10.sub hx2.sub) hr1 zw fun lr2 s3 hn1 hn2 F3 => r_st F3 fun s4 F4 => wpAny_execs_nil (wpAny_execs_nil ?_)
    have hx3 : Ext0 D' (D2.put lr2 (lstO (vw ++ wr).toArray 0)) := hx2.trans (.new hn1)
    have hlr2 : lr2 ≠ lM := fun q => by obtain ⟨_, q1, _⟩ := W.h12; obtain ⟨o1, q2⟩ := q1.some; have := hx2 _ _ q2; rw [← q, hn1] at this; cases this
    refine hQ _ _ _ (wm.1 ++ od.getD [], wm.2) lr2 (vw ++ wr) F4 (hit.mono fun o e => hx3 _ o e) ((b.sub hx3.sub).vs ?_) ⟨by simp [Vars.put], hn2, hlr2, LV.put_same, W.h11.append hr2, W.h12.sub hx3.sub, W.h13, ?_, hrest⟩
    · exact fun p hp => mem_put (List.mem_cons_of_mem _ (List.mem_cons_of_mem _ hp)) (all_ne (l := sdV c v lM) rfl p hp)
    · show (wm.1 ++ od.getD []).length ≤ 100000; rw [List.length_append]; exact hz
  | none =>
    have hdP : c.dnP y = none := by show (c.dn y).map _ = _; rw [hdn]; rfl
    refine ite_f rfl ?_
    have hyw : y ∈ c.wk := hc.cl x hxw y (List.mem_of_getElem? hyE) hdn
    have hpw : sdP c x y ∈ c.wk := sdP_wk hc hyw
    obtain ⟨xK, hK1, hK2⟩ := b.h4.K.dict
    refine wpAny_execs_cons (wpAny_Assign_Name (sd_place hc hR2 F9 b.h4 hyK b.h5 hxw hyw hK1 hK2 (fun v2 s2 F2 hpK => r_st F2 fun s3 F3 => ?_) rfl) rfl)
    have F4 : At (hLed h₁) [lM] D s L (("place", v2) :: ("words", .ref lw) :: sdV c v lM) D' s3 := F3.less (sub_put1 (fun q hq => List.mem_cons_of_mem _ hq) (all_ne rfl))
    obtain ⟨vM', hM1', hM2'⟩ := id W.h12
    rw [List.nil_append] at hM1'
    dsimp only
    refine wpAny_execs_cons (wpAny_If (wpAny_isTrue_Compare1 (r_nm F4 rfl (r_nm F4 rfl (r_notInKeys F4 hM1' hM2' hpK (fun k hk => hc.ok k (W.h13 k hk)) (hc.ok _ (hc.wk _ hpw)) (hR2.u (by decide)) (wpAny_truthy_bool ?_))))))
    by_cases hpm : sdP c x y ∈ wm.2
    · have := sdS_met hdP hpm hst
      subst this
      refine ite_f (by simp only [hpm, decide_true, Bool.not_true]) ?_
      exact wpAny_execs_nil (wpAny_execs_nil (wpAny_execs_nil (hQ _ D' _ _ lw vw F4 hit (b.vs (by simp [sdV])) { W with h7 := by simp, h15 := hrest })))
    · obtain ⟨wm', hsd, hz, rfl⟩ := sdS_new hdP hpm hst
      refine ite_t (by simp only [hpm, decide_false, Bool.not_false]) ?_
      refine wpAny_execs_cons (sd_new G hmg ho hdata ih hR1 hN n4 n5 (hc.wk x hxw) F4 hit hitM b W hpK hpw hsd hz hrest (fun vars2 D2 s2 wm2 lw2 vw2 F2 hit2 b2 W2 => ?_) rfl (rest := []))
      exact wpAny_execs_nil (wpAny_execs_nil (wpAny_execs_nil (hQ _ _ _ _ _ _ F2 hit2 b2 W2)))
end
theorem said_ok (G : Glo h₁ mg mb) {a : Addr} {o : Obj} {pm cd doc : Value} (hmg : mg "_law_said" = some (.ref a)) (ho : h₁.get? a = some o)
    (hdata : o.data = .func (PySem.Calls.docDef "_law_said" (fParams (fnAt 6)) (fBody (fnAt 6)) (fScope (fnAt 6)) pm cd doc)) (hcd : h₁.CodeRec cd "_law_said")
    (hc : SOk c) : ∀ k, SdOK prog w h₁ c a k := by
  intro k
  induction k with
  | zero => intro A E D s lM met met' ws x v Q _ _ _ _ _ _ _ _ _ _ _ h; cases h
  | succ k ih =>
    intro A E D s lM met met' ws x v Q hR hF hB hS hN hM hMn hx hxw n4 n5 hT hQ
    unfold saidP at hT
    split at hT
    case isFalse => cases hT
    rename_i hg
    have hxm := hc.wk x hxw
    refine r_call (binds := sdV c v lM) (W' := [lM]) hF hB (fun b hb => by rw [List.mem_singleton] at hb; subst hb; exact n4) G ho hdata hcd hR.d rfl (locs rfl) (by dsimp only [sdV, List.map]; decide) ?_ rfl rfl rfl (by decide)
    intro s1 F1
    have hR1 : Room (A.deeper (envOf "_law_said" (fScope (fnAt 6)) s.heap.objs.size a cd)) (2 * k + 6) := hR.deeper
    generalize (A.deeper (envOf "_law_said" (fScope (fnAt 6)) s.heap.objs.size a cd)) = A1 at hR1
    obtain ⟨vM, hM1, hM2⟩ := id hM
    rw [List.nil_append] at hM1
    have zM : vM.length ≤ 1000000 := by have := hM2.length; omega
    refine wpAny_execs_cons (wpAny_Expr (e_append (r_nm F1 rfl ⟨lv_type F1 hM1, lv_noDict F1 hM1, r_nm F1 rfl (r_append F1 hM1 (.inl (by simp)) zM fun nM s3 F3 => ?_)⟩)) rfl rfl)
    have t3 : TSub D (D.put lM (lstO (vM ++ [v]).toArray nM)) := .put hM1.noTup
    have hM3 : KI prog w (D.put lM (lstO (vM ++ [v]).toArray nM)) lM [] (met ++ [x]) := ⟨vM ++ [v], LV.put_same, (hM2.mono t3).append ⟨hx.mono t3, trivial⟩⟩
    have hS3 : SSt prog w c (D.put lM (lstO (vM ++ [v]).toArray nM)) := hS.ext hN (fun a o ha e => by rw [Led.put_other ha]; exact e) t3
    have hx3 := hx.mono t3
    have hMn3 : ∀ k ∈ met ++ [x], k ∈ c.nms := fun k hk => by
      rcases List.mem_append.mp hk with q | q
      · exact hMn k q
      · rw [List.mem_singleton] at q; rw [q]; exact hxm
    generalize e3 : D.put lM (lstO (vM ++ [v]).toArray nM) = D3 at F3 t3 hM3 hS3 hx3
    dsimp only
    -- words = list(values[x])
    obtain ⟨xV, hV1, hV2⟩ := hS3.V.dict
    obtain ⟨wV, hv1, hv2⟩ := hS3.V.list x hxm
    have zV : wV.length ≤ 1000000 := by have := hv2.length; omega
    refine wpAny_execs_cons (wpAny_Assign_Name (e_type1 "list" (r_blt F3 G (by decide) boot_list ⟨rfl, e_sub (r_nm F3 rfl (r_nm F3 rfl (r_itemD F3 hV1 hx3 (hV2 x hxm) (hR1.u (by decide)) fun s4 F4 => r_listOf F4 hv1 zV fun nw lw s5 hw1 hw2 _ F5 => r_st F5 fun s6 F6 => ?_)))⟩)) rfl)
    have hs5 : Sub D3 (D3.put lw (lstO wV.toArray nw)) := .new hw1
    have hM5 := hM3.sub hs5
    have hS5 := hS3.sub hs5
    have hx5 := hx3.mono hs5.t
    have t5 := t3.trans hs5.t
    have hW5 : LV (D3.put lw (lstO wV.toArray nw)) lw wV := LV.put_same
    generalize D3.put lw (lstO wV.toArray nw) = D5 at F6 hM5 hS5 hx5 t5 hW5
    dsimp only
    obtain ⟨xE, hE1, hE2⟩ := hS5.E.dict
    obtain ⟨wE, hL1, hL2⟩ := hS5.E.list x hxm
    refine wpAny_execs_cons (wpAny_For (e_sub (r_nm F6 rfl (r_nm F6 rfl (r_itemD F6 hE1 hx5 (hE2 x hxm) (hR1.u (by decide)) fun s7 F7 => r_iter F7 hL1 fun it oi s8 hi1 hi2 F8 hit => ?_)))))
    have hs8 : Sub D5 (D5.put it oi) := .new hi1
    have hitM : it ≠ lM := fun q => by obtain ⟨_, h1, _⟩ := hM5; obtain ⟨o1, h2⟩ := h1.some; rw [← q, hi1] at h2; cases h2
    refine r_for (vs := wE) (fun i vars D' => SdB prog w c x v lM wE D vars D' ∧ ∃ wm lw vw, SdW prog w c k x lM s (ws, met') i vars D' wm lw vw) F8 hit hi2 ?_ hR1.hand (fun i vars D' h => h.1.h2) ?_ ?_ ?_
    · refine ⟨⟨fun p hp => mem_put hp (all_ne (l := sdV c v lM) rfl p hp), hL1.sub hs8, hL2.mono hs8.t, hS5.sub hs8, hx5.mono hs8.t, t5.trans hs8.t⟩, (c.Vl x, met ++ [x]), lw, wV, by simp [Vars.put], hw2, ?_, hW5.sub hs8, hv2, hM5.sub hs8, hMn3, ?_, hT⟩
      · intro q; obtain ⟨_, h1, _⟩ := hM3; obtain ⟨o1, h2⟩ := h1.some; rw [← q, hw1] at h2; cases h2
      · show (c.Vl x).length ≤ 100000; omega
    · rintro i vars D' D'' hl hoff ⟨b, wm, lw, vw, W⟩
      exact ⟨b.sub (Sub.off hl hoff), wm, lw, vw, W.sub (Sub.off hl hoff)⟩
    · rintro i vy vars D' s' E'' hv Fv hl ⟨b, wm, lw, vw, W⟩
      exact sd_turn G hmg ho hdata hc ih hR1 hN n4 n5 hxw hv Fv hl hitM b W fun vars2 D2 s2 wm2 lw2 vw2 F2 hit2 b2 W2 => ⟨.inl rfl, vars2, D2, F2, hit2, b2, wm2, lw2, vw2, W2⟩
    · rintro vars D' s' Fv ⟨b, wm, lw, vw, W⟩
      have hm := fold_last (show wE.length = (c.Eg x).length from hL2.length.symm) W.h15
      subst hm
      have Fa : At (hLed h₁) [lM] D s s.heap.objs.size [("words", .ref lw)] D' s' := Fv.less (fun p hp => by rw [List.mem_singleton] at hp; subst hp; exact W.h7)
      dsimp only
      exact wpAny_execs_cons (wpAny_Return_some (r_nm Fa rfl (hQ D' s' lw vw Fa.tr W.h12 W.h13 b.h6 W.h8 W.h10 W.h11)))
end
end Mine
end

section
open PySem PySem.W PyProof.Rows
set_option Elab.async false
set_option maxRecDepth 100000
namespace Mine
/-! cells -/
def CV (D : Led) (c : Addr) (v : Option Value) : Prop := ∃ o, D c = some o ∧ o.data = .cell v
theorem CV.mono {D D' : Led} {c : Addr} {v : Option Value} (x : CV D c v) (h : ∀ o, D c = some o → D' c = some o) : CV D' c v := let ⟨o, e, r⟩ := x; ⟨o, h o e, r⟩
theorem CV.noTup {D : Led} {c : Addr} {v : Option Value} (x : CV D c v) : ∀ o, D c = some o → ¬ IsTup o := fun o e => by
  obtain ⟨o', h, hd⟩ := x; rw [h] at e; injection e with e; subst e; simp [IsTup, hd]
theorem CV.neL {D : Led} {c l : Addr} {v : Option Value} {vs : List Value} (x : CV D c v) (y : LV D l vs) : c ≠ l := fun e => by
  obtain ⟨o, ho, hd⟩ := x; obtain ⟨n, h⟩ := y; rw [e, h] at ho; injection ho with ho; subst ho; simp [lstO] at hd
theorem CV.neD {prog : Program} {w : World} {D : Led} {c d : Addr} {v : Option Value} {xs : KVs} (x : CV D c v) (y : DK prog w D d xs) : c ≠ d := fun e => by
  obtain ⟨o, ho, hd⟩ := x; obtain ⟨n, h⟩ := y.obj; rw [e, h] at ho; injection ho with ho; subst ho; simp [dctO] at hd
section
variable {prog : Program} {w : World} {A : Around} {E : Value → Shared → Prop} {B : Led} {W : List Addr} {D0 : Led} {s0 : Shared} {L : Addr} {vars : Vars} {D : Led} {s : Shared} {env : Env}
theorem r_cell {x : Str} {pos : Pos} {c : Addr} {v : Value} {Q : Value → Shared → Prop} (F : At B W D0 s0 L vars D s) (hc : env.cells.lookup x = some c) (hv : CV D c (some v)) (h : Q v s)
    (hk : env.scope.kind = .function := by rfl) (hl : env.kindOf x = some .cell := by rfl) (hd : (x == ("__debug__" : Str)) = false := by rfl) :
    wpAny (model prog w) A (eval (.Name x pos) env) Q E s :=
  wpAny_Name (wpAny_loadName_cell hk hl hc (let ⟨o, ho, r⟩ := hv; ⟨o, F.get ho, r⟩) h) hd
theorem r_free {x : Str} {pos : Pos} {c : Addr} {v : Value} {Q : Value → Shared → Prop} (F : At B W D0 s0 L vars D s) (hc : env.cells.lookup x = some c) (hv : CV D c (some v)) (h : Q v s)
    (hk : env.scope.kind = .function := by rfl) (hl : env.kindOf x = some .free := by rfl) (hd : (x == ("__debug__" : Str)) = false := by rfl) (hn : (x == ("__classdict__" : Str)) = false := by rfl) :
    wpAny (model prog w) A (eval (.Name x pos) env) Q E s :=
  wpAny_Name (wpAny_loadName_free hk hl hc (let ⟨o, ho, r⟩ := hv; ⟨o, F.get ho, r⟩) h hn) hd
theorem r_stc {x : Str} {c : Addr} {v : Value} {v0 : Option Value} {Q : Unit → Shared → Prop} (F : At B W D0 s0 L vars D s) (hc : env.cells.lookup x = some c) (hv : CV D c v0) (hw : c ∈ W ∨ s0.heap.get? c = none)
    (h : ∀ o s', At B W D0 s0 L vars (D.put c o) s' → CV (D.put c o) c (some v) → TSub D (D.put c o) → Q () s')
    (hk : env.scope.kind = .function := by rfl) (hl : env.kindOf x = some .cell := by rfl) :
    wpAny (model prog w) A (storeName env x v) Q E s := by
  obtain ⟨o, ho, hd⟩ := id hv
  refine wpAny_storeName_cell hk hl hc ⟨o, F.get ho, hd⟩ fun h' hv' hs => ?_
  obtain ⟨o', ho', hd'⟩ := hv'
  exact h o' _ (F.upd ho hw hs ho' s.toks) ⟨o', Led.put_same, hd'⟩ (.put hv.noTup)
end
/-! iterators -/
structure ItSpec (prog : Program) (w : World) (target : Expr) (it : Addr) (own fp : List Addr) (n : Nat) (It : Nat → Led → Prop) (P : Nat → Value → Led → Prop) : Prop where
  sub : ∀ b ∈ own, b ∈ fp
  has : ∀ i D, It i D → ∀ b ∈ fp, ∃ o, D b = some o
  mono : ∀ i D D', (∀ b ∈ fp, D' b = D b) → It i D → It i D'
  noT : ∀ i D, It i D → ∀ b ∈ own, ∀ o, D b = some o → ¬ IsTup o ∧ o.cls ≠ .type "list"
  iter : ∀ {A : Around} {E : Value → Shared → Prop} {Q : Value → Shared → Prop} {D : Led} {s : Shared}, Fits D s → It 0 D → Q (.ref it) s → wpAny (model prog w) A (pyIter (.ref it)) Q E s
  next : ∀ {A : Around} {E : Value → Shared → Prop} {B : Led} {W : List Addr} {D0 : Led} {s0 : Shared} {L : Addr} {vars : Vars} {D : Led} {s : Shared} {Q : Value → Shared → Prop} {i : Nat},
    At B W D0 s0 L vars D s → It i D → (∀ b ∈ own, s0.heap.get? b = none) → i < n → A.handled = none →
    (∀ v D' s', At B W D0 s0 L vars D' s' → It (i + 1) D' → (∀ a o, a ∉ own → D a = some o → D' a = some o) → P i v D' → Q v s') →
    wpAny (model prog w) A (pyNext (.ref it)) (fun r s₁ => ∃ v, r = some v ∧ wpAny (model prog w) A (letOwnedTupleGo target (.ref it) v) (fun _ s₂ => Q v s₂) E s₁) E s
  stop : ∀ {A : Around} {E : Value → Shared → Prop} {B : Led} {W : List Addr} {D0 : Led} {s0 : Shared} {L : Addr} {vars : Vars} {D : Led} {s : Shared} {Q : Option Value → Shared → Prop},
    At B W D0 s0 L vars D s → It n D → (∀ b ∈ own, s0.heap.get? b = none) → A.handled = none →
    (∀ D' s', At B W D0 s0 L vars D' s' → (∀ a o, a ∉ own → D a = some o → D' a = some o) → Q none s') → wpAny (model prog w) A (pyNext (.ref it)) Q E s
/-- what pyIter of a value gives -/
def IterGives (prog : Program) (w : World) (target : Expr) (A : Around) (xv : Value) (D : Led) (s s1 : Shared) (n : Nat) (P : Nat → Value → Led → Prop) : Prop :=
  ∀ (E : Value → Shared → Prop) (Q : Value → Shared → Prop),
    (∀ it own fp It D' s', ItSpec prog w target it own fp n It P → It 0 D' → Tr [] D s D' s' → (∀ b ∈ own, s.heap.get? b = none) → Q (.ref it) s') → wpAny (model prog w) A (pyIter xv) Q E s1
theorem Tr.ext0 {D D' : Led} {s s' : Shared} (x : Tr [] D s D' s') : Ext0 D D' := fun a o e => x.ext a o (by simp) e
theorem Ext0.t {D D' : Led} (x : Ext0 D D') : TSub D D' := fun a o _ e => x a o e
section
variable {prog : Program} {w : World}
theorem itSpec_list {y : Str} {py : Pos} {it l : Addr} {vs : List Value} (hne : it ≠ l) : ItSpec prog w (.Name y py) it [it] [it, l] vs.length (fun i D => LIt D it l i ∧ LV D l vs) (fun i v _ => vs[i]? = some v) where
  sub := by simp
  has := fun i D h b hb => by
    simp only [List.mem_cons, List.not_mem_nil, or_false] at hb
    rcases hb with rfl | rfl
    · obtain ⟨o, e, _⟩ := h.1; exact ⟨o, e⟩
    · exact h.2.some
  mono := fun i D D' h x => ⟨x.1.mono fun o e => by rw [h it (by simp)]; exact e, x.2.mono fun o e => by rw [h l (by simp)]; exact e⟩
  noT := fun i D h b hb o e => by
    rw [List.mem_singleton] at hb; subst hb
    refine ⟨h.1.noTup o e, ?_⟩
    obtain ⟨o', e', hc, _⟩ := h.1
    rw [e'] at e; injection e with e; subst e; rw [hc]; simp
  iter := fun F h q => by
    obtain ⟨o, e, r⟩ := h.1
    exact wpAny_pyIter_listiter ⟨o, F _ _ e, r⟩ q
  next := fun {A E B W D0 s0 L vars D s Q i} F h ho hi hh k => by
    obtain ⟨hit, hlv⟩ := h
    obtain ⟨oi, hoi, hci, hdi⟩ := id hit
    have hiH : s.heap.IsListIter it l i := ⟨oi, F.get hoi, hci, hdi⟩
    refine wpAny_pyNext_list_item hiH (lv_is F hlv) (x := vs[i]) (by simp [hi]) fun h' hit' hs => ?_
    obtain ⟨o', ho', hc', hd'⟩ := hit'
    have F1 := F.upd hoi (.inr (ho it (by simp))) hs ho' s.toks
    refine ⟨_, rfl, wpAny_pure ?_⟩
    exact k _ _ _ F1 ⟨⟨o', Led.put_same, hc', hd'⟩, hlv.put_other (Ne.symm hne)⟩ (fun a o ha e => by
      have : a ≠ it := fun q => ha (by simp [q])
      rw [Led.put_other this]; exact e) (List.getElem?_eq_getElem hi)
  stop := fun {A E B W D0 s0 L vars D s Q} F h ho hh k => by
    obtain ⟨hit, hlv⟩ := h
    obtain ⟨oi, hoi, hci, hdi⟩ := id hit
    have hiH : s.heap.IsListIter it l vs.length := ⟨oi, F.get hoi, hci, hdi⟩
    refine wpAny_pyNext_list_end hh hiH (lv_is F hlv) (by simp) fun h' hx => ?_
    exact k _ _ (F.forget (ho it (by simp)) (F.neL hoi) hx _) fun a o ha e => by
      have : a ≠ it := fun q => ha (by simp [q])
      simp only [this, if_false]; exact e
theorem iterGives_list {y : Str} {py : Pos} {A : Around} {D : Led} {s : Shared} {l : Addr} {vs : List Value} (F : Fits D s) (hl : LV D l vs) : IterGives prog w (.Name y py) A (.ref l) D s s vs.length (fun i v _ => vs[i]? = some v) := by
  intro E Q h
  obtain ⟨n, ho⟩ := id hl
  refine wpAny_pyIter_list ⟨_, F _ _ ho, rfl, n, rfl⟩ ?_
  have hn : D s.heap.objs.size = none := F.fresh (Nat.le_refl _)
  have hne : s.heap.objs.size ≠ l := fun q => by rw [q, ho] at hn; cases hn
  refine h _ [s.heap.objs.size] [s.heap.objs.size, l] _ _ _ (itSpec_list (vs := vs) hne) ?_ (Tr.push (W := []) F _ rfl s.toks) ?_
  · exact ⟨⟨_, Led.put_same, rfl, rfl⟩, hl.put_other (Ne.symm hne)⟩
  · intro b hb; rw [List.mem_singleton] at hb; subst hb; exact get?_ge (Nat.le_refl _)
end
end Mine
end

section
open PySem PySem.W PyProof.Rows
set_option Elab.async false
set_option maxRecDepth 100000
namespace Mine
/-! comprehensions -/
/-- tuples and lists stay -/
def LSub (D D' : Led) : Prop := ∀ a o, (IsTup o ∨ o.cls = .type "list") → D a = some o → D' a = some o
theorem LSub.t {D D' : Led} (x : LSub D D') : TSub D D' := fun a o h e => x a o (.inl h) e
theorem LSub.lv {D D' : Led} {l : Addr} {vs : List Value} (x : LSub D D') (h : LV D l vs) : LV D' l vs := h.mono fun o e => x _ o (.inr (by obtain ⟨n, h⟩ := h; rw [h] at e; injection e with e; subst e; rfl)) e
theorem Ext0.l {D D' : Led} (x : Ext0 D D') : LSub D D' := fun a o _ e => x a o e
theorem LSub.refl (D : Led) : LSub D D := fun _ _ _ e => e
theorem LSub.trans {D D' D'' : Led} (x : LSub D D') (y : LSub D' D'') : LSub D D'' := fun a o h e => y a o h (x a o h e)
section
variable {prog : Program} {w : World} {A : Around} {R : Result → Shared → Prop} {s : Shared}
/-- the turns of a list comprehension, the tuple's own let go within -/
theorem loopL {elt target iter : Expr} {ifs : List Expr} {scope : Scope} {pos : Pos} {it acc : Value} {env : Env} (I : Nat → Shared → Prop)
    (turn : ∀ n s, I n s → wpAny (model prog w) A (pyNext it) (fun r s₁ => match r with
      | none => R (.ok .next) s₁
      | some v => wpAny (model prog w) A (letOwnedTupleGo target it v) (fun _ s₁' => wpAny (model prog w) A (assign target env v) (fun _ s₂ =>
          wpAny (model prog w) A (forIn ifs true fun c r => if r = true then do let ok ← isTrue c env (eval c env); pure (ForInStep.yield ok) else pure (ForInStep.yield r)) (fun ok s₃ =>
            if ok = true then wpAny (model prog w) A (eval elt env) (fun x s₄ =>
              wpAny (model prog w) A (call (.builtin "list.append") [acc, x]) (fun _ s₅ => ∃ m, m < n ∧ I m s₅) (fun _ _ => False) s₄) (fun _ _ => False) s₃
            else ∃ m, m < n ∧ I m s₃) (fun _ _ => False) s₂) (fun _ _ => False) s₁') (fun _ _ => False) s₁) (fun _ _ => False) s)
    (n : Nat) (h : I n s) :
    codeAny (model prog w) A (.compLoop (.ListComp elt [⟨target, iter, ifs, 0⟩] scope pos) 0 it acc env) R s := by
  refine codeAny_loop rfl I (fun n s hI => ?_) n h
  show wpAny _ A ((compTurn (.ListComp elt [⟨target, iter, ifs, 0⟩] scope pos) 0 it acc env).onRaise (fun x => do noteFrame x env; theTreesLotGoes x)) _ _ s
  refine wpAny_noted (wpAny_mono (E := fun _ _ => False) ?_ (fun _ _ x => x) fun _ _ f => f.elim)
  rw [compTurn_list]
  refine wpAny_bind (wpAny_standAt (wpAny_bind (wpAny_mono (turn n s hI) (fun r s₁ h₁ => ?_) fun _ _ h' => h')))
  cases r with
  | none => exact wpAny_pure h₁
  | some v =>
    refine wpAny_bind (wpAny_mono h₁ (fun _ s₁' h₁' => ?_) fun _ _ h' => h')
    refine wpAny_bind (wpAny_mono h₁' (fun _ s₂ h₂ => wpAny_bind (wpAny_mono h₂ (fun ok s₃ h₃ => ?_) fun _ _ h' => h')) fun _ _ h' => h')
    cases ok with
    | false => exact wpAny_pure ⟨rfl, h₃⟩
    | true =>
      exact wpAny_bind (wpAny_bind (wpAny_mono h₃ (fun x s₄ h₄ => wpAny_bind (wpAny_mono h₄ (fun _ s₅ h₅ => wpAny_pure (wpAny_pure ⟨rfl, h₅⟩)) fun _ _ h' => h')) fun _ _ h' => h'))
theorem loopD {kx vx target iter : Expr} {ifs : List Expr} {scope : Scope} {pos : Pos} {it : Value} {D : Addr} {env : Env} (I : Nat → Shared → Prop)
    (turn : ∀ n s, I n s → wpAny (model prog w) A (pyNext it) (fun r s₁ => match r with
      | none => R (.ok .next) s₁
      | some v => wpAny (model prog w) A (letOwnedTupleGo target it v) (fun _ s₁' => wpAny (model prog w) A (assign target env v) (fun _ s₂ =>
          wpAny (model prog w) A (forIn ifs true fun c r => if r = true then do let ok ← isTrue c env (eval c env); pure (ForInStep.yield ok) else pure (ForInStep.yield r)) (fun ok s₃ =>
            if ok = true then wpAny (model prog w) A (eval kx env) (fun kv s₄ => wpAny (model prog w) A (eval vx env) (fun vv s₅ =>
              wpAny (model prog w) A (dictSet D kv vv) (fun _ s₆ => ∃ m, m < n ∧ I m s₆) (fun _ _ => False) s₅) (fun _ _ => False) s₄) (fun _ _ => False) s₃
            else ∃ m, m < n ∧ I m s₃) (fun _ _ => False) s₂) (fun _ _ => False) s₁') (fun _ _ => False) s₁) (fun _ _ => False) s)
    (n : Nat) (h : I n s) :
    codeAny (model prog w) A (.compLoop (.DictComp kx vx [⟨target, iter, ifs, 0⟩] scope pos) 0 it (.ref D) env) R s := by
  refine codeAny_loop rfl I (fun n s hI => ?_) n h
  show wpAny _ A ((compTurn (.DictComp kx vx [⟨target, iter, ifs, 0⟩] scope pos) 0 it (.ref D) env).onRaise (fun x => do noteFrame x env; theTreesLotGoes x)) _ _ s
  refine wpAny_noted (wpAny_mono (E := fun _ _ => False) ?_ (fun _ _ x => x) fun _ _ f => f.elim)
  rw [compTurn_dict]
  refine wpAny_bind (wpAny_standAt (wpAny_bind (wpAny_mono (turn n s hI) (fun r s₁ h₁ => ?_) fun _ _ h' => h')))
  cases r with
  | none => exact wpAny_pure h₁
  | some v =>
    refine wpAny_bind (wpAny_mono h₁ (fun _ s₁' h₁' => ?_) fun _ _ h' => h')
    refine wpAny_bind (wpAny_mono h₁' (fun _ s₂ h₂ => wpAny_bind (wpAny_mono h₂ (fun ok s₃ h₃ => ?_) fun _ _ h' => h')) fun _ _ h' => h')
    cases ok with
    | false => exact wpAny_pure ⟨rfl, h₃⟩
    | true =>
      exact wpAny_bind (wpAny_bind (wpAny_mono h₃ (fun kv s₄ h₄ => wpAny_bind (wpAny_holding (wpAny_mono h₄ (fun vv s₅ h₅ => wpAny_bind (wpAny_standAt (wpAny_holding (wpAny_mono h₅ (fun _ s₆ h₆ => wpAny_pure ⟨rfl, h₆⟩) fun _ _ h' => h')))) fun _ _ h' => h'))) fun _ _ h' => h'))
end
section
variable {prog : Program} {w : World} {A : Around} {E : Value → Shared → Prop} {B : Led} {W : List Addr} {D0 : Led} {s0 : Shared} {L : Addr} {vars : Vars} {D1 : Led} {s₁ : Shared} {env : Env}
theorem comp_at {D3 : Led} {s3 : Shared} {h' : Heap} {m : Str → Option Value} {ob : Obj} (T : Tr [] D1 s₁ D3 s3) (hB : ∀ a o, B a = some o → D1 a = some o) (hn : h'.Ns s3.heap.objs.size m) (hs : Heap.SameBut s3.heap.objs.size (s3.heap.push ob) h') (t : Nat) :
    At B [] D1 s₁ s3.heap.objs.size [] D3 { s3 with heap := h', toks := t } := by
  have hk : ∀ b o, s3.heap.get? b = some o → h'.get? b = some o := fun b o e => (hs.2 b (Nat.ne_of_lt (Heap.lt_size e))).trans (Heap.get?_push_of_some _ e)
  have T2 : Tr [] D3 s3 D3 { s3 with heap := h', toks := t } := Tr.same (W := []) T.fits (fun b o _ e => hk b o e) (fun _ h => nomatch h) (fun _ h => nomatch h) t
  have T3 := T.trans T2 (fun _ h => nomatch h)
  refine ⟨T3, ⟨m, hn, fun p hp => nomatch hp⟩, ?_, T.fits.fresh (Nat.le_refl _), fun a o e => T.ext0 a o (hB a o e), hB, fun b hb => nomatch hb⟩
  cases e : s₁.heap.get? s3.heap.objs.size with
  | none => rfl
  | some o => obtain ⟨o', e'⟩ := T.alive _ o e; rw [get?_ge (Nat.le_refl _)] at e'; cases e'
/-- a comprehension's frame is left -/
theorem comp_leave {C : Addr} {vs : Vars} {D' : Led} {s' : Shared} {h' : Heap} (F : At B [] D1 s₁ C vs D' s') (hs : Heap.SameBut C s'.heap h') : Tr [] D1 s₁ D' { s' with heap := h' } := by
  have ne0 : ∀ {b o}, s₁.heap.get? b = some o → b ≠ C := fun {b o} e q => by rw [q, F.newL] at e; cases e
  refine ⟨F.tr.os, F.tr.gens, fun b o e => ?_, fun b o hb e => (hs.2 b (ne0 e)).trans (F.tr.keep b o hb e), F.tr.fits0, fun b o e => ?_, F.tr.ext, F.tr.dom⟩
  · obtain ⟨o', e'⟩ := F.tr.alive b o e; exact ⟨o', (hs.2 b (ne0 e)).trans e'⟩
  · exact (hs.2 b (F.neL e)).trans (F.get e)
/-- what a list comprehension's turn must show -/
abbrev LTurn (prog : Program) (w : World) (A : Around) (B : Led) (D1 : Led) (s₁ : Shared) (C : Addr) (target elt : Expr) (ifs : List Expr) (cenv : Env) (I : Nat → Led → List Value → Prop) (i : Nat) (vs : List Value) (v : Value) (D' : Led) (s' : Shared) : Prop :=
  ∀ E', wpAny (model prog w) A (assign target cenv v) (fun _ s₂ =>
    wpAny (model prog w) A (forIn ifs true fun c r => if r = true then do let ok ← isTrue c cenv (eval c cenv); pure (ForInStep.yield ok) else pure (ForInStep.yield r)) (fun ok s₃ =>
      if ok = true then wpAny (model prog w) A (eval elt cenv) (fun u s₄ => ∃ vars' D'', At B [] D1 s₁ C vars' D'' s₄ ∧ Ext0 D' D'' ∧ I (i + 1) D'' (vs ++ [u])) E' s₃
      else ∃ vars' D'', At B [] D1 s₁ C vars' D'' s₃ ∧ Ext0 D' D'' ∧ I (i + 1) D'' vs) E' s₂) E' s'
theorem lcomp_core {elt target iter : Expr} {ifs : List Expr} {scope : Scope} {pos : Pos} {cl : List (Str × Addr)} {xv : Value} {n : Nat} {P : Nat → Value → Led → Prop} {Q : Value → Shared → Prop} {use : Option (Value → Sem Unit)} {s1 : Shared} (I : Nat → Led → List Value → Prop)
    (F : At B W D0 s0 L vars D1 s₁) (hit : IterGives prog w target A xv D1 s₁ s1 n P) (hh : A.handled = none) (hn : n ≤ 1000)
    (mono : ∀ i D D' vs, TSub D D' → I i D vs → I i D' vs) (h0 : I 0 D1 [])
    (turn : ∀ C i v vs vars' D' s', i < n → At B [] D1 s₁ C vars' D' s' → P i v D' → I i D' vs → vs.length ≤ i → LTurn prog w A B D1 s₁ C target elt ifs (compEnvC scope cl C env) I i vs v D' s')
    (fin : ∀ C la vs vars' D' s', At B [] D1 s₁ C vars' D' s' → D1 la = none → s₁.heap.get? la = none → LV D' la vs → I n D' vs → vs.length ≤ n → compPost (model prog w) A E use Q (.ref la) C (.ok .next) s')
    (hc : ∀ x ∈ scope.names, x.2 ≠ .cell) (hk : scope.kind = .function) :
    wpAny (model prog w) A (pyIter xv) (fun it s₂ => wpAny (model prog w) A (newList []) (fun acc s₃ =>
      wpAny (model prog w) A (newFunctionEnv scope env.globals cl [] env.qual none .none (some env)) (fun cenv s₄ =>
        codeAny (model prog w) A (.compStart (.ListComp elt [⟨target, iter, ifs, 0⟩] scope pos) 0 it acc { cenv with scope := relabel scope env }) (compPost (model prog w) A E use Q acc cenv.locals) s₄) E s₃) E s₂) E s1 := by
  refine hit _ _ fun it own fp It D2 s2 S hI2 T2 hown => ?_
  have hfits := T2.fits
  refine wpAny_newObj_type ?_ (by show ([] : List Value).toArray.size ≤ sizeLine; simp)
  have hla : D2 s2.heap.objs.size = none := hfits.fresh (Nat.le_refl _)
  have T3 := T2.trans (Tr.push (W := []) hfits (lstO ([] : List Value).toArray 0) rfl s2.toks) (fun _ h => nomatch h)
  have hla1 : s₁.heap.get? s2.heap.objs.size = none := by
    cases e : s₁.heap.get? s2.heap.objs.size with
    | none => rfl
    | some o => obtain ⟨o', e'⟩ := T2.alive _ o e; rw [get?_ge (Nat.le_refl _)] at e'; cases e'
  have hlaf : s2.heap.objs.size ∉ fp := fun hb => by obtain ⟨o, e⟩ := S.has 0 D2 hI2 _ hb; rw [hla] at e; cases e
  have hI3 : It 0 (D2.put s2.heap.objs.size (lstO ([] : List Value).toArray 0)) := S.mono 0 D2 _ (fun b hb => Led.put_other fun q => hlaf (q ▸ hb)) hI2
  generalize hlae : s2.heap.objs.size = la at *
  refine wpAny_newFunctionEnv hc (fun x hx => nomatch hx) (fun h' hns hsb => ?_) hk
  have F4 : At B [] D1 s₁ (s2.heap.push (lstO ([] : List Value).toArray 0)).objs.size [] (D2.put la (lstO ([] : List Value).toArray 0)) { s2 with heap := h', toks := s2.toks } := comp_at T3 F.base hns hsb s2.toks
  have hL4 : LV (D2.put la (lstO ([] : List Value).toArray 0)) la [] := LV.put_same
  have hI4 : I 0 (D2.put la (lstO ([] : List Value).toArray 0)) [] := mono 0 D1 _ [] (fun a o _ e => T3.ext0 a o e) h0
  show codeAny _ _ (.compStart _ 0 _ _ (compEnvC scope cl (s2.heap.push (lstO ([] : List Value).toArray 0)).objs.size env)) (compPost (model prog w) A E use Q (.ref la) (s2.heap.push (lstO ([] : List Value).toArray 0)).objs.size) { s2 with heap := h', toks := s2.toks }
  clear hns hsb
  generalize (s2.heap.push (lstO ([] : List Value).toArray 0)).objs.size = C at F4 ⊢
  have loop : codeAny (model prog w) A (.compLoop (.ListComp elt [⟨target, iter, ifs, 0⟩] scope pos) 0 (.ref it) (.ref la) (compEnvC scope cl C env)) (compPost (model prog w) A E use Q (.ref la) C) { s2 with heap := h', toks := s2.toks } := by
    refine loopL (fun k s => ∃ i vars' D vs, i + k = n ∧ At B [] D1 s₁ C vars' D s ∧ It i D ∧ LV D la vs ∧ vs.length ≤ i ∧ I i D vs) (fun k s ⟨i, vars', D, vs, hik, FC, hIt, hLv, hle, hI⟩ => ?_) n ⟨0, [], _, [], Nat.zero_add n, F4, hI3, hL4, Nat.le_refl _, hI4⟩
    have hlaow : la ∉ own := fun hb => hlaf (S.sub _ hb)
    rcases Nat.lt_or_ge i n with hlt | hge
    · refine wpAny_mono (S.next (Q := fun v s' => ∃ D', At B [] D1 s₁ C vars' D' s' ∧ It (i + 1) D' ∧ (∀ a o, a ∉ own → D a = some o → D' a = some o) ∧ P i v D') FC hIt hown hlt hh fun v D' s' a b c d => ⟨D', a, b, c, d⟩) (fun r s1 hr => ?_) fun _ _ e => e
      obtain ⟨v, rfl, hr⟩ := hr
      refine wpAny_mono hr (fun _ s' hr' => ?_) fun _ _ e => e
      obtain ⟨D', FC', hIt', hx, hP⟩ := hr'
      have hT' : TSub D D' := fun a o hT e => hx a o (fun hb => ((S.noT i D hIt a hb o e).1 hT).elim) e
      have hI' := mono i D D' vs hT' hI
      have hLv' : LV D' la vs := hLv.mono fun o e => hx la o hlaow e
      refine wpAny_mono (turn C i v vs vars' D' s' hlt FC' hP hI' hle _) (fun _ s₂ h₂ => wpAny_mono h₂ (fun ok s₃ h₃ => ?_) fun _ _ e => e) fun _ _ e => e
      have hIt2 : ∀ D'', Ext0 D' D'' → It (i + 1) D'' := fun D'' hx2 => S.mono (i + 1) D' D'' (fun b hb => by obtain ⟨o, e⟩ := S.has _ _ hIt' b hb; rw [e]; exact hx2 b o e) hIt'
      cases ok with
      | false =>
        simp only [Bool.false_eq_true, if_false] at h₃ ⊢
        obtain ⟨vars'', D'', F3, hx2, hI3⟩ := h₃
        exact ⟨k - 1, by omega, i + 1, vars'', D'', vs, by omega, F3, hIt2 D'' hx2, hLv'.mono fun o e => hx2 _ o e, by omega, hI3⟩
      | true =>
        simp only [if_true] at h₃ ⊢
        refine wpAny_mono h₃ (fun u s₄ h₄ => ?_) fun _ _ e => e
        obtain ⟨vars'', D'', F3, hx2, hI3⟩ := h₄
        have hLv2 : LV D'' la vs := hLv'.mono fun o e => hx2 _ o e
        refine r_append F3 hLv2 (.inr hla1) (by omega) fun nn s₅ F5 => ?_
        refine ⟨k - 1, by omega, i + 1, vars'', _, vs ++ [u], by omega, F5, ?_, LV.put_same, by simp; omega, mono _ _ _ _ (.put hLv2.noTup) hI3⟩
        exact S.mono (i + 1) D'' _ (fun b hb => Led.put_other fun q => hlaf (q ▸ hb)) (hIt2 D'' hx2)
    · have hi : i = n := by omega
      subst hi
      refine S.stop FC hIt hown hh fun D' s' FC' hx => ?_
      have hT' : TSub D D' := fun a o hT e => hx a o (fun hb => ((S.noT i D hIt a hb o e).1 hT).elim) e
      exact fin C la vs vars' D' s' FC' (by
        cases e : D1 la with
        | none => rfl
        | some o => have := T2.ext0 la o e; rw [hla] at this; cases this) hla1 (hLv.mono fun o e => hx la o hlaow e) (mono i D D' vs hT' hI) hle
  refine codeAny_compStart_list loop (S.iter F4.fits hI3 loop)
/-- as an expression -/
theorem e_lcomp {elt target iter : Expr} {ifs : List Expr} {scope : Scope} {pos : Pos} {cl : List (Str × Addr)} {n : Nat} {P : Nat → Value → Led → Prop} {Q : Value → Shared → Prop} {s : Shared} {Dd : Led} (_hF : At B W D0 s0 L vars Dd s) (I : Nat → Led → List Value → Prop)
    (hit : wpAny (model prog w) A (eval iter env) (fun xv s₁ => ∃ D1 sb, At B W D0 s0 L vars D1 sb ∧ IterGives prog w target A xv D1 sb s₁ n P ∧ I 0 D1 [] ∧
      (∀ C i v vs vars' D' s', i < n → At B [] D1 sb C vars' D' s' → P i v D' → I i D' vs → vs.length ≤ i → LTurn prog w A B D1 sb C target elt ifs (compEnvC scope cl C env) I i vs v D' s') ∧
      (∀ la vs D' s', At B W D0 s0 L vars D' s' → Ext0 D1 D' → D1 la = none → s0.heap.get? la = none → LV D' la vs → I n D' vs → vs.length ≤ n → Q (.ref la) s')) E s)
    (hh : A.handled = none) (hn : n ≤ 1000) (mono : ∀ i D D' vs, TSub D D' → I i D vs → I i D' vs)
    (hclos : closureFor scope env = pure cl) (hc : ∀ x ∈ scope.names, x.2 ≠ .cell := by decide) (hk : scope.kind = .function := by rfl)
    (hnames : ∀ x ∈ scope.names, x.2 = .local → scope.names.lookup x.1 = some .local := by decide)
    (hs : ∀ x, foldedSetIterable iter env x = pure x := by intro _; rfl) :
    wpAny (model prog w) A (eval (.ListComp elt [⟨target, iter, ifs, 0⟩] scope pos) env) Q E s := by
  rw [eval_ListComp]
  refine wpAny_comprehension_free (use := none) rfl hs hclos hk hnames ?_
  refine wpAny_mono hit (fun xv s₁ h => ?_) fun _ _ e => e
  obtain ⟨D1, sb, F, hg, h0, turn, fin⟩ := h
  refine lcomp_core I F hg hh hn mono h0 turn (fun C la vs vars' D' s' FC hD1 hs1 hLv hIn hle => ?_) hc hk
  obtain ⟨m, hm, _⟩ := FC.ns
  refine ⟨m, hm, fun h' hsb => ?_⟩
  have T := comp_leave FC hsb
  refine fin la vs D' _ (F.step T fun _ h => nomatch h) T.ext0 hD1 ?_ hLv hIn hle
  cases e : s0.heap.get? la with
  | none => rfl
  | some o => obtain ⟨o', e'⟩ := F.tr.alive la o e; rw [hs1] at e'; cases e'
/-- an object of this frame's own comes into the ledger -/
theorem At.add {vars : Vars} {D : Led} {s : Shared} {a : Addr} {o : Obj} (F : At B W D0 s0 L vars D s) (h : s.heap.get? a = some o) (ha : s0.heap.get? a = none) (hL : a ≠ L) : At B W D0 s0 L vars (D.put a o) s := by
  have ne0 : ∀ {b o}, s0.heap.get? b = some o → b ≠ a := fun {b o} e q => by rw [q, ha] at e; cases e
  have neD : ∀ {b o}, D0 b = some o → b ≠ a := fun {b o} e => ne0 (F.tr.fits0 b o e)
  refine ⟨⟨F.tr.os, F.tr.gens, F.tr.alive, F.tr.keep, F.tr.fits0, fun b o' e => ?_, fun b o' hb e => ?_, fun b o' hb e e' => ?_⟩, F.ns, F.newL, ?_, fun b o' e => ?_, F.base0, F.wB⟩
  · rcases Led.put_some e with ⟨rfl, rfl⟩ | ⟨_, e⟩
    · exact h
    · exact F.get e
  · rw [Led.put_other (neD e)]; exact F.tr.ext b o' hb e
  · rw [Led.put_other (ne0 e)]; exact F.tr.dom b o' hb e e'
  · rw [Led.put_other (Ne.symm hL)]; exact F.notD
  · rw [Led.put_other (neD (F.base0 b o' e))]; exact F.base b o' e
theorem comp_use {C la : Addr} {y : Str} {py : Pos} {vars' : Vars} {D' : Led} {s' : Shared} {Q : Flow → Shared → Prop} (F : At B W D0 s0 L vars D1 s₁) (FC : At B [] D1 s₁ C vars' D' s')
    (fin : ∀ s'', At B W D0 s0 L (vars.put y (.ref la)) D' s'' → Q .next s'')
    (hL : env.locals = L) (hk : env.scope.kind = .function) (hy : env.kindOf y = some .local) :
    compPost (model prog w) A E (some (assign (.Name y py) env)) (fun _ s' => Q .next s') (.ref la) C (.ok .next) s' := by
  have Fo := F.step FC.tr fun _ h => nomatch h
  obtain ⟨m, ⟨oC, es, ep, hoC, r⟩, _⟩ := FC.ns
  have hC0 : s0.heap.get? C = none := by
    cases e : s0.heap.get? C with
    | none => rfl
    | some o => obtain ⟨o', e'⟩ := F.tr.alive C o e; rw [FC.newL] at e'; cases e'
  have hCL : C ≠ L := fun q => by
    obtain ⟨mL, ⟨oL, _, _, hoL, _⟩, _⟩ := F.ns
    rw [← q, FC.newL] at hoL; cases hoL
  have F1 := Fo.add hoC hC0 hCL
  show wpAny _ A (assign (.Name y py) env (.ref la)) _ _ _
  refine wpAny_assign_Name (r_st F1 (fun s2 F2 => ?_) hL hk hy)
  refine ⟨m, ⟨oC, es, ep, F2.get Led.put_same, r⟩, fun h' hs => ?_⟩
  have F3 := F2.forget hC0 hCL (Heap.SameBut.extBut hs) s2.toks
  have e : (fun b => if b = C then none else (D'.put C oC) b) = D' := by
    funext b
    by_cases q : b = C
    · subst q; simp [FC.notD]
    · simp [q, Led.put_other q]
  rw [e] at F3
  exact fin _ F3
theorem x_lcomp {elt target iter : Expr} {ifs : List Expr} {scope : Scope} {pos spos py : Pos} {y : Str} {cl : List (Str × Addr)} {n : Nat} {P : Nat → Value → Led → Prop} {Q : Flow → Shared → Prop} {s : Shared} {Dd : Led} (_hF : At B W D0 s0 L vars Dd s) (I : Nat → Led → List Value → Prop)
    (hit : wpAny (model prog w) A (eval iter env) (fun xv s₁ => ∃ D1 sb, At B W D0 s0 L vars D1 sb ∧ IterGives prog w target A xv D1 sb s₁ n P ∧ I 0 D1 [] ∧
      (∀ C i v vs vars' D' s', i < n → At B [] D1 sb C vars' D' s' → P i v D' → I i D' vs → vs.length ≤ i → LTurn prog w A B D1 sb C target elt ifs (compEnvC scope cl C env) I i vs v D' s') ∧
      (∀ la vs D' s', At B W D0 s0 L (vars.put y (.ref la)) D' s' → Ext0 D1 D' → D1 la = none → s0.heap.get? la = none → LV D' la vs → I n D' vs → vs.length ≤ n → Q .next s')) E s)
    (hh : A.handled = none) (hn : n ≤ 1000) (mono : ∀ i D D' vs, TSub D D' → I i D vs → I i D' vs)
    (hclos : closureFor scope env = pure cl) (hL : env.locals = L) (hke : env.scope.kind = .function) (hy : env.kindOf y = some .local)
    (hsw : swapsWith (.ListComp elt [⟨target, iter, ifs, 0⟩] scope pos) (some (.Name y py)) spos.line env = pure true := by rfl)
    (hc : ∀ x ∈ scope.names, x.2 ≠ .cell := by decide) (hk : scope.kind = .function := by rfl)
    (hnames : ∀ x ∈ scope.names, x.2 = .local → scope.names.lookup x.1 = some .local := by decide)
    (hs : ∀ x, foldedSetIterable iter env x = pure x := by intro _; rfl) :
    wpAny (model prog w) A (exec (.Assign [.Name y py] (.ListComp elt [⟨target, iter, ifs, 0⟩] scope pos) spos) env) Q E s := by
  rw [exec_Assign_Name_used _ _ _ _ hsw]
  refine wpAny_bind (wpAny_standAt (wpAny_bind ?_))
  show wpAny _ A (do let _ ← comprehension (.ListComp elt [⟨target, iter, ifs, 0⟩] scope pos) scope env _ (newList []) false (eval iter env) (some (assign (.Name y py) env))) _ _ s
  refine wpAny_bind (wpAny_mono (wpAny_comprehension_free (use := some (assign (.Name y py) env)) (Q := fun _ s' => Q .next s') rfl hs hclos hk hnames
    (wpAny_mono hit (fun xv s₁ h => ?_) fun _ _ e => e)) (fun _ s' hq => wpAny_pure (wpAny_pure hq)) fun _ _ e => e)
  obtain ⟨D1, sb, F, hg, h0, turn, fin⟩ := h
  refine lcomp_core I F hg hh hn mono h0 turn (fun C la vs vars' D' s' FC hD1 hs1 hLv hIn hle => ?_) hc hk
  refine comp_use F FC (fun s'' F'' => fin la vs D' s'' F'' FC.tr.ext0 hD1 ?_ hLv hIn hle) hL hke hy
  cases e : s0.heap.get? la with
  | none => rfl
  | some o => obtain ⟨o', e'⟩ := F.tr.alive la o e; rw [hs1] at e'; cases e'
/-! dicts -/
abbrev DTurn (prog : Program) (w : World) (A : Around) (B : Led) (D1 : Led) (s₁ : Shared) (C : Addr) (target kx vx : Expr) (ifs : List Expr) (cenv : Env) (I : Nat → Led → KVs → Prop) (i : Nat) (xs : KVs) (v : Value) (D' : Led) (s' : Shared) : Prop :=
  ∀ E', wpAny (model prog w) A (assign target cenv v) (fun _ s₂ =>
    wpAny (model prog w) A (forIn ifs true fun c r => if r = true then do let ok ← isTrue c cenv (eval c cenv); pure (ForInStep.yield ok) else pure (ForInStep.yield r)) (fun ok s₃ =>
      if ok = true then wpAny (model prog w) A (eval kx cenv) (fun kv s₄ => wpAny (model prog w) A (eval vx cenv) (fun vv s₅ =>
        ∃ vars' D'' k, At B [] D1 s₁ C vars' D'' s₅ ∧ Ext0 D' D'' ∧ KeyL prog w D'' k kv ∧ I (i + 1) D'' (putK xs k kv vv)) E' s₄) E' s₃
      else ∃ vars' D'', At B [] D1 s₁ C vars' D'' s₃ ∧ Ext0 D' D'' ∧ I (i + 1) D'' xs) E' s₂) E' s'
theorem dcomp_core {kx vx target iter : Expr} {ifs : List Expr} {scope : Scope} {pos : Pos} {cl : List (Str × Addr)} {xv : Value} {n : Nat} {P : Nat → Value → Led → Prop} {Q : Value → Shared → Prop} {use : Option (Value → Sem Unit)} {s1 : Shared} (I : Nat → Led → KVs → Prop)
    (F : At B W D0 s0 L vars D1 s₁) (hit : IterGives prog w target A xv D1 s₁ s1 n P) (hh : A.handled = none) (hu : A.units + 1 < cLine) (hn : n ≤ 500)
    (mono : ∀ i D D' xs, LSub D D' → I i D xs → I i D' xs) (h0 : I 0 D1 [])
    (turn : ∀ C i v xs vars' D' s', i < n → At B [] D1 s₁ C vars' D' s' → P i v D' → I i D' xs → (xs.length ≤ i) → DTurn prog w A B D1 s₁ C target kx vx ifs (compEnvC scope cl C env) I i xs v D' s')
    (fin : ∀ C da xs vars' D' s', At B [] D1 s₁ C vars' D' s' → D1 da = none → s₁.heap.get? da = none → DK prog w D' da xs → I n D' xs → xs.length ≤ n → compPost (model prog w) A E use Q (.ref da) C (.ok .next) s')
    (hc : ∀ x ∈ scope.names, x.2 ≠ .cell) (hk : scope.kind = .function) :
    wpAny (model prog w) A (pyIter xv) (fun it s₂ => wpAny (model prog w) A newDict (fun acc s₃ =>
      wpAny (model prog w) A (newFunctionEnv scope env.globals cl [] env.qual none .none (some env)) (fun cenv s₄ =>
        codeAny (model prog w) A (.compStart (.DictComp kx vx [⟨target, iter, ifs, 0⟩] scope pos) 0 it acc { cenv with scope := relabel scope env }) (compPost (model prog w) A E use Q acc cenv.locals) s₄) E s₃) E s₂) E s1 := by
  refine hit _ _ fun it own fp It D2 s2 S hI2 T2 hown => ?_
  have hfits := T2.fits
  simp only [newDict, newObj]
  refine wpAny_bind (wpAny_alloc (wpAny_pure ?_))
  have hla : D2 s2.heap.objs.size = none := hfits.fresh (Nat.le_refl _)
  have T3 := T2.trans (Tr.push (W := []) hfits (dctO #[] 0) rfl s2.toks) (fun _ h => nomatch h)
  have hla1 : s₁.heap.get? s2.heap.objs.size = none := by
    cases e : s₁.heap.get? s2.heap.objs.size with
    | none => rfl
    | some o => obtain ⟨o', e'⟩ := T2.alive _ o e; rw [get?_ge (Nat.le_refl _)] at e'; cases e'
  have hlaf : s2.heap.objs.size ∉ fp := fun hb => by obtain ⟨o, e⟩ := S.has 0 D2 hI2 _ hb; rw [hla] at e; cases e
  have hI3 : It 0 (D2.put s2.heap.objs.size (dctO #[] 0)) := S.mono 0 D2 _ (fun b hb => Led.put_other fun q => hlaf (q ▸ hb)) hI2
  generalize hlae : s2.heap.objs.size = la at *
  refine wpAny_newFunctionEnv hc (fun x hx => nomatch hx) (fun h' hns hsb => ?_) hk
  have F4 : At B [] D1 s₁ (s2.heap.push (dctO #[] 0)).objs.size [] (D2.put la (dctO #[] 0)) { s2 with heap := h', toks := s2.toks } := comp_at T3 F.base hns hsb s2.toks
  have hL4 : DK prog w (D2.put la (dctO #[] 0)) la [] := ⟨⟨0, Led.put_same⟩, (fun _ h => nomatch h), List.nodup_nil⟩
  have hI4 : I 0 (D2.put la (dctO #[] 0)) [] := mono 0 D1 _ [] T3.ext0.l h0
  show codeAny _ _ (.compStart _ 0 _ _ (compEnvC scope cl (s2.heap.push (dctO #[] 0)).objs.size env)) (compPost (model prog w) A E use Q (.ref la) (s2.heap.push (dctO #[] 0)).objs.size) { s2 with heap := h', toks := s2.toks }
  clear hns hsb
  generalize (s2.heap.push (dctO #[] 0)).objs.size = C at F4 ⊢
  have loop : codeAny (model prog w) A (.compLoop (.DictComp kx vx [⟨target, iter, ifs, 0⟩] scope pos) 0 (.ref it) (.ref la) (compEnvC scope cl C env)) (compPost (model prog w) A E use Q (.ref la) C) { s2 with heap := h', toks := s2.toks } := by
    refine loopD (fun k s => ∃ i vars' D xs, i + k = n ∧ At B [] D1 s₁ C vars' D s ∧ It i D ∧ DK prog w D la xs ∧ xs.length ≤ i ∧ I i D xs) (fun k s ⟨i, vars', D, xs, hik, FC, hIt, hLv, hle, hI⟩ => ?_) n ⟨0, [], _, [], Nat.zero_add n, F4, hI3, hL4, Nat.le_refl _, hI4⟩
    have hlaow : la ∉ own := fun hb => hlaf (S.sub _ hb)
    have hLs : ∀ D', (∀ a o, a ∉ own → D a = some o → D' a = some o) → LSub D D' := fun D' hx a o hT e => hx a o (fun hb => by
      have := S.noT i D hIt a hb o e
      rcases hT with q | q
      · exact this.1 q
      · exact this.2 q) e
    rcases Nat.lt_or_ge i n with hlt | hge
    · refine wpAny_mono (S.next (Q := fun v s' => ∃ D', At B [] D1 s₁ C vars' D' s' ∧ It (i + 1) D' ∧ (∀ a o, a ∉ own → D a = some o → D' a = some o) ∧ P i v D') FC hIt hown hlt hh fun v D' s' a b c d => ⟨D', a, b, c, d⟩) (fun r s1 hr => ?_) fun _ _ e => e
      obtain ⟨v, rfl, hr⟩ := hr
      refine wpAny_mono hr (fun _ s' hr' => ?_) fun _ _ e => e
      obtain ⟨D', FC', hIt', hx, hP⟩ := hr'
      have hI' := mono i D D' xs (hLs D' hx) hI
      have hLv' : DK prog w D' la xs := hLv.mono (fun o e => hx la o hlaow e) (hLs D' hx).t
      refine wpAny_mono (turn C i v xs vars' D' s' hlt FC' hP hI' hle _) (fun _ s₂ h₂ => wpAny_mono h₂ (fun ok s₃ h₃ => ?_) fun _ _ e => e) fun _ _ e => e
      have hIt2 : ∀ D'', Ext0 D' D'' → It (i + 1) D'' := fun D'' hx2 => S.mono (i + 1) D' D'' (fun b hb => by obtain ⟨o, e⟩ := S.has _ _ hIt' b hb; rw [e]; exact hx2 b o e) hIt'
      cases ok with
      | false =>
        simp only [Bool.false_eq_true, if_false] at h₃ ⊢
        obtain ⟨vars'', D'', F3, hx2, hI3⟩ := h₃
        exact ⟨k - 1, by omega, i + 1, vars'', D'', xs, by omega, F3, hIt2 D'' hx2, hLv'.mono (fun o e => hx2 _ o e) hx2.t, by omega, hI3⟩
      | true =>
        simp only [if_true] at h₃ ⊢
        refine wpAny_mono h₃ (fun kv s₄ h₄ => wpAny_mono h₄ (fun vv s₅ h₅ => ?_) fun _ _ e => e) fun _ _ e => e
        obtain ⟨vars'', D'', key, F3, hx2, hK, hI3⟩ := h₅
        have hLv2 : DK prog w D'' la xs := hLv'.mono (fun o e => hx2 _ o e) hx2.t
        obtain ⟨n0, ho⟩ := hLv2.obj
        refine dset F3.fits (by omega) hK hLv2 (by omega) fun nn h' hs hg => ?_
        have F5 := F3.upd ho (.inr hla1) hs hg (s₅.toks + keyDraws key)
        refine ⟨k - 1, by omega, i + 1, vars'', _, putK xs key kv vv, by omega, F5, ?_, hLv2.set hK, by have := length_putK xs key kv vv; omega, mono _ _ _ _ ?_ hI3⟩
        · exact S.mono (i + 1) D'' _ (fun b hb => Led.put_other fun q => hlaf (q ▸ hb)) (hIt2 D'' hx2)
        · intro b o hT e
          have : b ≠ la := fun q => by
            rw [q, ho] at e; injection e with e; subst e
            rcases hT with q | q
            · simp [IsTup, dctO] at q
            · simp [dctO] at q
          rw [Led.put_other this]; exact e
    · have hi : i = n := by omega
      subst hi
      refine S.stop FC hIt hown hh fun D' s' FC' hx => ?_
      exact fin C la xs vars' D' s' FC' (by
        cases e : D1 la with
        | none => rfl
        | some o => have := T2.ext0 la o e; rw [hla] at this; cases this) hla1 (hLv.mono (fun o e => hx la o hlaow e) (hLs D' hx).t) (mono i D D' xs (hLs D' hx) hI) hle
  refine codeAny_compStart_dict loop (S.iter F4.fits hI3 loop)
theorem eval_DictComp' (kx vx gens scope pos) : eval (.DictComp kx vx gens scope pos) env =
    comprehension (.DictComp kx vx gens scope pos) scope env (firstIterPos gens pos) newDict (firstAsync gens) (firstIter gens env) := rfl
theorem e_dcomp {kx vx target iter : Expr} {ifs : List Expr} {scope : Scope} {pos : Pos} {cl : List (Str × Addr)} {n : Nat} {P : Nat → Value → Led → Prop} {Q : Value → Shared → Prop} {s : Shared} {Dd : Led} (_hF : At B W D0 s0 L vars Dd s) (I : Nat → Led → KVs → Prop)
    (hit : wpAny (model prog w) A (eval iter env) (fun xv s₁ => ∃ D1 sb, At B W D0 s0 L vars D1 sb ∧ IterGives prog w target A xv D1 sb s₁ n P ∧ I 0 D1 [] ∧
      (∀ C i v xs vars' D' s', i < n → At B [] D1 sb C vars' D' s' → P i v D' → I i D' xs → xs.length ≤ i → DTurn prog w A B D1 sb C target kx vx ifs (compEnvC scope cl C env) I i xs v D' s') ∧
      (∀ da xs D' s', At B W D0 s0 L vars D' s' → Ext0 D1 D' → D1 da = none → s0.heap.get? da = none → DK prog w D' da xs → I n D' xs → xs.length ≤ n → Q (.ref da) s')) E s)
    (hh : A.handled = none) (hu : A.units + 1 < cLine) (hn : n ≤ 500) (mono : ∀ i D D' xs, LSub D D' → I i D xs → I i D' xs)
    (hclos : closureFor scope env = pure cl) (hc : ∀ x ∈ scope.names, x.2 ≠ .cell := by decide) (hk : scope.kind = .function := by rfl)
    (hnames : ∀ x ∈ scope.names, x.2 = .local → scope.names.lookup x.1 = some .local := by decide)
    (hs : ∀ x, foldedSetIterable iter env x = pure x := by intro _; rfl) :
    wpAny (model prog w) A (eval (.DictComp kx vx [⟨target, iter, ifs, 0⟩] scope pos) env) Q E s := by
  rw [eval_DictComp']
  refine wpAny_comprehension_free (use := none) rfl hs hclos hk hnames ?_
  refine wpAny_mono hit (fun xv s₁ h => ?_) fun _ _ e => e
  obtain ⟨D1, sb, F, hg, h0, turn, fin⟩ := h
  refine dcomp_core I F hg hh hu hn mono h0 turn (fun C da xs vars' D' s' FC hD1 hs1 hLv hIn hle => ?_) hc hk
  obtain ⟨m, hm, _⟩ := FC.ns
  refine ⟨m, hm, fun h' hsb => ?_⟩
  have T := comp_leave FC hsb
  refine fin da xs D' _ (F.step T fun _ h => nomatch h) T.ext0 hD1 ?_ hLv hIn hle
  cases e : s0.heap.get? da with
  | none => rfl
  | some o => obtain ⟨o', e'⟩ := F.tr.alive da o e; rw [hs1] at e'; cases e'
theorem x_dcomp {kx vx target iter : Expr} {ifs : List Expr} {scope : Scope} {pos spos py : Pos} {y : Str} {cl : List (Str × Addr)} {n : Nat} {P : Nat → Value → Led → Prop} {Q : Flow → Shared → Prop} {s : Shared} {Dd : Led} (_hF : At B W D0 s0 L vars Dd s) (I : Nat → Led → KVs → Prop)
    (hit : wpAny (model prog w) A (eval iter env) (fun xv s₁ => ∃ D1 sb, At B W D0 s0 L vars D1 sb ∧ IterGives prog w target A xv D1 sb s₁ n P ∧ I 0 D1 [] ∧
      (∀ C i v xs vars' D' s', i < n → At B [] D1 sb C vars' D' s' → P i v D' → I i D' xs → xs.length ≤ i → DTurn prog w A B D1 sb C target kx vx ifs (compEnvC scope cl C env) I i xs v D' s') ∧
      (∀ da xs D' s', At B W D0 s0 L (vars.put y (.ref da)) D' s' → Ext0 D1 D' → D1 da = none → s0.heap.get? da = none → DK prog w D' da xs → I n D' xs → xs.length ≤ n → Q .next s')) E s)
    (hh : A.handled = none) (hu : A.units + 1 < cLine) (hn : n ≤ 500) (mono : ∀ i D D' xs, LSub D D' → I i D xs → I i D' xs)
    (hclos : closureFor scope env = pure cl) (hL : env.locals = L) (hke : env.scope.kind = .function) (hy : env.kindOf y = some .local)
    (hsw : swapsWith (.DictComp kx vx [⟨target, iter, ifs, 0⟩] scope pos) (some (.Name y py)) spos.line env = pure true := by rfl)
    (hc : ∀ x ∈ scope.names, x.2 ≠ .cell := by decide) (hk : scope.kind = .function := by rfl)
    (hnames : ∀ x ∈ scope.names, x.2 = .local → scope.names.lookup x.1 = some .local := by decide)
    (hs : ∀ x, foldedSetIterable iter env x = pure x := by intro _; rfl) :
    wpAny (model prog w) A (exec (.Assign [.Name y py] (.DictComp kx vx [⟨target, iter, ifs, 0⟩] scope pos) spos) env) Q E s := by
  rw [exec_Assign_Name_used _ _ _ _ hsw]
  refine wpAny_bind (wpAny_standAt (wpAny_bind ?_))
  show wpAny _ A (do let _ ← comprehension (.DictComp kx vx [⟨target, iter, ifs, 0⟩] scope pos) scope env _ newDict false (eval iter env) (some (assign (.Name y py) env))) _ _ s
  refine wpAny_bind (wpAny_mono (wpAny_comprehension_free (use := some (assign (.Name y py) env)) (Q := fun _ s' => Q .next s') rfl hs hclos hk hnames
    (wpAny_mono hit (fun xv s₁ h => ?_) fun _ _ e => e)) (fun _ s' hq => wpAny_pure (wpAny_pure hq)) fun _ _ e => e)
  obtain ⟨D1, sb, F, hg, h0, turn, fin⟩ := h
  refine dcomp_core I F hg hh hu hn mono h0 turn (fun C da xs vars' D' s' FC hD1 hs1 hLv hIn hle => ?_) hc hk
  refine comp_use F FC (fun s'' F'' => fin da xs D' s'' F'' FC.tr.ext0 hD1 ?_ hLv hIn hle) hL hke hy
  cases e : s0.heap.get? da with
  | none => rfl
  | some o => obtain ⟨o', e'⟩ := F.tr.alive da o e; rw [hs1] at e'; cases e'
end
end Mine
end

section
open PySem PySem.W PyProof.Rows
set_option Elab.async false
set_option maxRecDepth 100000
namespace Mine
section
variable {prog : Program} {w : World}
/-! range -/
def rngO (x left : Int) : Obj := { cls := .type "range_iterator", dict := none, data := .fields #[rawInt x, rawInt left, rawInt 1], slots := #[] }
theorem itSpec_range {y : Str} {py : Pos} {it : Addr} {n : Nat} : ItSpec prog w (.Name y py) it [it] [it] n (fun i D => D it = some (rngO i ((n : Int) - i))) (fun i v _ => ∃ t, v = .int i t) where
  sub := by simp
  has := fun i D h b hb => by rw [List.mem_singleton] at hb; subst hb; exact ⟨_, h⟩
  mono := fun i D D' h x => by rw [h it (by simp)]; exact x
  noT := fun i D h b hb o e => by
    rw [List.mem_singleton] at hb; subst hb
    rw [h] at e; injection e with e; subst e
    simp [IsTup, rngO]
  iter := fun F h q => wpAny_pyIter_rangeiter (x := ((0 : Nat) : Int)) (left := (n : Int) - ((0 : Nat) : Int)) (step := 1) (F _ _ h) q
  next := fun {A E B W D0 s0 L vars D s Q i} F h ho hi hh k => by
    refine wpAny_pyNext_range_item (x := (i : Int)) (left := (n : Int) - i) (step := 1) (F.get h) (by omega) fun h' hit' hs => ?_
    have F1 := F.upd h (.inr (ho it (by simp))) hs hit' (s.toks + 1)
    refine ⟨_, rfl, wpAny_pure ?_⟩
    refine k _ _ _ F1 ?_ (fun a o ha e => by
      have : a ≠ it := fun q => ha (by simp [q])
      rw [Led.put_other this]; exact e) ⟨_, rfl⟩
    rw [Led.put_same]
    unfold rngO
    congr 3
    push_cast
    rw [show (n : Int) - (i : Int) - 1 = (n : Int) - ((i : Int) + 1) from by omega]
  stop := fun {A E B W D0 s0 L vars D s Q} F h ho hh k => by
    refine wpAny_pyNext_range_end hh (x := (n : Int)) (left := (n : Int) - n) (step := 1) (F.get h) (by omega) fun h' hx => ?_
    exact k _ _ (F.forget (ho it (by simp)) (F.neL h) hx _) fun a o ha e => by
      have : a ≠ it := fun q => ha (by simp [q])
      simp only [this, if_false]; exact e
theorem iterGives_range {y : Str} {py : Pos} {A : Around} {D : Led} {s : Shared} {r : Addr} {n : Nat} {t u v : Tok} (F : Fits D s) (hr : IsRange s.heap r 0 n 1 t u v) (hn : n ≤ 1000) : IterGives prog w (.Name y py) A (.ref r) D s s n (fun i v _ => ∃ t, v = .int i t) := by
  intro E Q h
  refine wpAny_pyIter_range hr (small_one (by omega) (by omega) (by omega) (by omega)) ?_
  refine h _ [s.heap.objs.size] [s.heap.objs.size] _ _ _ (itSpec_range (n := n)) ?_ (Tr.push (W := []) F _ rfl s.toks) ?_
  · have hz : Builtin.Range.rangeSize 0 (n : Int) 1 = (n : Int) := by rw [rangeSize_one]; split <;> omega
    show Led.put _ _ _ _ = _
    rw [Led.put_same, hz]
    unfold rngO
    simp
  · intro b hb; rw [List.mem_singleton] at hb; subst hb; exact get?_ge (Nat.le_refl _)
/-! the keys of a dict -/
section
variable {A : Around} {E : Value → Shared → Prop} {s : Shared}
theorem pyIter_dictE {d : Addr} {es : Array DictEntry} {ep : Nat} {Q : Value → Shared → Prop} (hd : (d == sysModules) = false) (ho : s.heap.get? d = some (dctO es ep))
    (hQ : Q (.ref s.heap.objs.size) { s with heap := s.heap.push { cls := .type "dict_keyiterator", data := .fields #[.ref d, .int 0 0, .int es.size 0, .int ep 0] } }) :
    wpAny (model prog w) A (pyIter (.ref d)) Q E s := by
  have hT : s.TypeIs (.ref d) "dict" := ⟨_, ho, rfl⟩
  refine wpAny_pyIter_slot hT F.slot_dict_iter (wpAny_call_entry F.slot_dict_iter hT F.entry_dict_iter ?_ (F.args_dict_iter_1 _))
  unfold Builtin.«dict.__iter__»
  refine wpAny_bind ?_
  unfold Builtin.Dict.dictSlotNone
  refine wpAny_bind (wpAny_notOrdered_dict hT ?_)
  show wpAny _ _ (pure (Value.ref d)) _ _ s
  refine wpAny_pure ?_
  show wpAny _ _ (Builtin.Dict.showsAll d >>= _) _ _ s
  unfold Builtin.Dict.showsAll
  rw [if_neg (by rw [hd]; exact Bool.false_ne_true)]
  refine wpAny_bind (wpAny_pure (wpAny_bind (wpAny_dictEntries ho rfl (wpAny_bind (wpAny_dictEpoch ho rfl ?_)))))
  exact wpAny_bind (wpAny_newObj_type (wpAny_pure ⟨_, rfl, "dict_keyiterator", _, ⟨_, Heap.get?_push_size _ rfl, rfl⟩, F.slot_dict_keyiterator_next.lookup, by simpa [rawInt] using hQ⟩))
theorem pyNext_dictE {it d : Addr} {i ep : Nat} {es : Array DictEntry} {Q : Option Value → Shared → Prop} (hit : s.heap.IsKeyIter it d i es.size ep) (hod : s.heap.get? d = some (dctO es ep)) (hlt : i < es.size)
    (hQ : ∀ h', h'.IsKeyIter it d (i + 1) es.size ep → Heap.SameBut it s.heap h' → Q (some es[i].key) { s with heap := h' }) :
    wpAny (model prog w) A (pyNext (.ref it)) Q E s := by
  obtain ⟨o, ho, hc, hd⟩ := id hit
  unfold pyNext
  refine wpAny_bind (wpAny_attempt (wpAny_callSpecial?_slot (name := Str.ofString "__next__") hit.typeIs F.slot_dict_keyiterator_next
    (wpAny_call_entry F.slot_dict_keyiterator_next hit.typeIs F.entry_dict_keyiterator_next ?_ (F.args_dict_keyiterator_next_1 _))))
  refine wpAny_bind (wpAny_pure (wpAny_bind (wpAny_bind ?_)))
  refine wpAny_bind (wpAny_typeNameOfWhole_keyiter hit.typeIs (wpAny_pure ?_))
  refine wpAny_bind (wpAny_fieldsOf ho hd ?_)
  have hown : Builtin.Dict_items.ownsTuple "dict_keyiterator" = false := by decide
  simp only [hown, Bool.false_eq_true, if_false]
  show wpAny _ _ (if (Value.ref d == Value.none) = true then _ else _) _ _ s
  rw [if_neg (show ¬ ((Value.ref d == Value.none) = true) from Bool.false_ne_true)]
  refine wpAny_bind (wpAny_pure (wpAny_bind (wpAny_dictEntries hod rfl ?_)))
  rw [if_neg (by simp)]
  refine wpAny_bind (wpAny_pure (wpAny_bind (wpAny_dictEpoch hod rfl ?_)))
  rw [if_neg (by simp)]
  refine wpAny_pure ?_
  simp only [show ¬ ((i : Int) < 0) from by omega, if_false, Int.toNat_natCast, Array.getElem?_eq_getElem hlt]
  refine wpAny_bind ?_
  refine wpAny_bind (wpAny_typeNameOfWhole_keyiter hit.typeIs (wpAny_pure ?_))
  refine wpAny_bind (wpAny_isOneOf_keyiter hit.typeIs ?_)
  show wpAny _ _ (setField (.ref it) 1 (rawInt ((i : Int) + 1)) >>= _) _ _ s
  refine wpAny_bind (wpAny_setField ho hd (by simp) ?_)
  have hit' : (s.heap.update it (Obj.mapFields (·.setIfInBounds 1 (rawInt ((i : Int) + 1))))).IsKeyIter it d (i + 1) es.size ep :=
    ⟨_, Heap.get?_update_self _ ho (Obj.isFreed_of_fields (Obj.data_mapFields hd _)), (Obj.cls_mapFields ..).trans hc, by rw [Obj.data_mapFields hd]; simp [rawInt]⟩
  refine wpAny_bind (wpAny_holding ?_)
  refine wpAny_bind (wpAny_isOneOf_keyiter (s := { s with heap := s.heap.update it (Obj.mapFields (·.setIfInBounds 1 (rawInt ((i : Int) + 1)))) }) hit'.typeIs ?_)
  show wpAny _ _ (pure es[i].key) _ _ _
  exact wpAny_pure (wpAny_pure ⟨_, rfl, wpAny_pure (hQ _ hit' (Heap.SameBut.update ..))⟩)
theorem pyStop_dictE {it d : Addr} {ep : Nat} {es : Array DictEntry} {Q : Option Value → Shared → Prop} (hh : A.handled = none) (hit : s.heap.IsKeyIter it d es.size es.size ep) (hod : s.heap.get? d = some (dctO es ep))
    (hQ : ∀ h', Heap.ExtBut it s.heap h' → Q none { s with heap := h' }) : wpAny (model prog w) A (pyNext (.ref it)) Q E s := by
  obtain ⟨o, ho, hc, hd⟩ := id hit
  unfold pyNext
  refine wpAny_bind (wpAny_attempt (wpAny_callSpecial?_slot (name := Str.ofString "__next__") hit.typeIs F.slot_dict_keyiterator_next
    (wpAny_call_entry F.slot_dict_keyiterator_next hit.typeIs F.entry_dict_keyiterator_next ?_ (F.args_dict_keyiterator_next_1 _))))
  refine wpAny_bind (wpAny_pure (wpAny_bind (wpAny_bind ?_)))
  refine wpAny_bind (wpAny_typeNameOfWhole_keyiter hit.typeIs (wpAny_pure ?_))
  refine wpAny_bind (wpAny_fieldsOf ho hd ?_)
  have hown : Builtin.Dict_items.ownsTuple "dict_keyiterator" = false := by decide
  simp only [hown, Bool.false_eq_true, if_false]
  show wpAny _ _ (if (Value.ref d == Value.none) = true then _ else _) _ _ s
  rw [if_neg (show ¬ ((Value.ref d == Value.none) = true) from Bool.false_ne_true)]
  refine wpAny_bind (wpAny_pure (wpAny_bind (wpAny_dictEntries hod rfl ?_)))
  rw [if_neg (by simp)]
  refine wpAny_bind (wpAny_pure (wpAny_bind (wpAny_dictEpoch hod rfl ?_)))
  rw [if_neg (by simp)]
  refine wpAny_pure ?_
  simp only [show ¬ ((es.size : Int) < 0) from by omega, if_false, Int.toNat_natCast, Array.getElem?_eq_none (Nat.le_refl es.size)]
  refine wpAny_bind ?_
  refine wpAny_bind (wpAny_typeNameOfWhole_keyiter hit.typeIs (wpAny_pure ?_))
  show wpAny _ _ (setField (.ref it) 0 .none >>= _) _ _ s
  refine wpAny_bind (wpAny_setField ho hd (by simp) ?_)
  show wpAny _ _ (newExc (.type "StopIteration") [] >>= _) _ _ _
  refine wpAny_bind ?_
  simp only [newExc, newTuple]
  refine wpAny_bind (wpAny_newObj_type ?_ (by size_fits))
  refine wpAny_bind (m := firstArgMember _ _) (wpAny_of_eq (a := Value.none) (by first | rfl | (simp only [firstArgMember]; rfl)) ?_)
  refine wpAny_newObj_type ?_ (by size_fits)
  simp only [raiseNew]
  refine wpAny_bind (wpAny_handled ?_)
  rw [show A.in1.handled = none from hh]
  refine wpAny_bind (wpAny_pure (wpAny_throw ?_))
  refine wpAny_bind (wpAny_isInstance (T := "StopIteration") (b := true) ⟨_, Heap.get?_push_size _ rfl, rfl⟩ isSubtype_stop ?_)
  exact wpAny_pure (hQ _ (((Heap.SameBut.update ..).extBut.push _).push _))
end
def KIt (D : Led) (it d : Addr) (i n ep : Nat) : Prop := ∃ o, D it = some o ∧ o.cls = .type "dict_keyiterator" ∧ o.data = .fields #[.ref d, .int i 0, .int n 0, .int ep 0]
theorem itSpec_dict {y : Str} {py : Pos} {it d : Addr} {xs : KVs} {ep : Nat} (hne : it ≠ d) : ItSpec prog w (.Name y py) it [it] [it, d] xs.length (fun i D => KIt D it d i (xs.map (ent prog w)).toArray.size ep ∧ D d = some (dctO (xs.map (ent prog w)).toArray ep)) (fun i v _ => ∃ p, xs[i]? = some p ∧ v = p.2.1) where
  sub := by simp
  has := fun i D h b hb => by
    simp only [List.mem_cons, List.not_mem_nil, or_false] at hb
    rcases hb with rfl | rfl
    · obtain ⟨o, e, _⟩ := h.1; exact ⟨o, e⟩
    · exact ⟨_, h.2⟩
  mono := fun i D D' h x => ⟨let ⟨o, e, r⟩ := x.1; ⟨o, by rw [h it (by simp)]; exact e, r⟩, by rw [h d (by simp)]; exact x.2⟩
  noT := fun i D h b hb o e => by
    rw [List.mem_singleton] at hb; subst hb
    obtain ⟨o', e', hc, _⟩ := h.1
    rw [e'] at e; injection e with e; subst e
    simp [IsTup, hc]
  iter := fun F h q => by
    obtain ⟨o, e, r⟩ := h.1
    exact wpAny_pyIter_keyiter ⟨o, F _ _ e, r⟩ q
  next := fun {A E B W D0 s0 L vars D s Q i} F h ho hi hh k => by
    obtain ⟨⟨oi, hoi, hci, hdi⟩, hd⟩ := h
    have hlt : i < (xs.map (ent prog w)).toArray.size := by simpa using hi
    refine pyNext_dictE (it := it) (d := d) (ep := ep) ⟨oi, F.get hoi, hci, hdi⟩ (F.get hd) hlt fun h' hit' hs => ?_
    obtain ⟨o', ho', hc', hd'⟩ := hit'
    have F1 := F.upd hoi (.inr (ho it (by simp))) hs ho' s.toks
    refine ⟨_, rfl, wpAny_pure ?_⟩
    refine k _ _ _ F1 ⟨⟨o', Led.put_same, hc', hd'⟩, by rw [Led.put_other (Ne.symm hne)]; exact hd⟩ (fun a o ha e => by
      have : a ≠ it := fun q => ha (by simp [q])
      rw [Led.put_other this]; exact e) ⟨xs[i], List.getElem?_eq_getElem hi, by simp [ent]⟩
  stop := fun {A E B W D0 s0 L vars D s Q} F h ho hh k => by
    obtain ⟨⟨oi, hoi, hci, hdi⟩, hd⟩ := h
    have hsz : (xs.map (ent prog w)).toArray.size = xs.length := by simp
    refine pyStop_dictE (it := it) (d := d) (ep := ep) hh ⟨oi, F.get hoi, hci, by rw [hdi, hsz]⟩ (F.get hd) fun h' hx => ?_
    exact k _ _ (F.forget (ho it (by simp)) (F.neL hoi) hx _) fun a o ha e => by
      have : a ≠ it := fun q => ha (by simp [q])
      simp only [this, if_false]; exact e
theorem iterGives_dict {y : Str} {py : Pos} {A : Around} {D : Led} {s : Shared} {d : Addr} {xs : KVs} (F : Fits D s) (hd : DK prog w D d xs) (hm : (d == sysModules) = false) : IterGives prog w (.Name y py) A (.ref d) D s s xs.length (fun i v _ => ∃ p, xs[i]? = some p ∧ v = p.2.1) := by
  intro E Q h
  obtain ⟨n, ho⟩ := hd.obj
  refine pyIter_dictE hm (F _ _ ho) ?_
  have hn : D s.heap.objs.size = none := F.fresh (Nat.le_refl _)
  have hne : s.heap.objs.size ≠ d := fun q => by rw [q, ho] at hn; cases hn
  refine h _ [s.heap.objs.size] [s.heap.objs.size, d] _ _ _ (itSpec_dict (xs := xs) (ep := n) hne) ?_ (Tr.push (W := []) F _ rfl s.toks) ?_
  · exact ⟨⟨_, Led.put_same, rfl, rfl⟩, by rw [Led.put_other (Ne.symm hne)]; exact ho⟩
  · intro b hb; rw [List.mem_singleton] at hb; subst hb; exact get?_ge (Nat.le_refl _)
end
end Mine
end

section
open PySem PySem.W PyProof.Rows
set_option Elab.async false
set_option maxRecDepth 100000
namespace Mine
theorem Tr.redo {W N : List Addr} {D : Led} {s : Shared} {h' : Heap} (F : Fits D s) (hk : ∀ b o, b ∉ W → s.heap.get? b = some o → h'.get? b = some o) (hz : ∀ b ∈ W, ∃ o, h'.get? b = some o) (hN : ∀ b ∈ N, s.heap.get? b = none) (t : Nat) :
    Tr W D s (fun b => if b ∈ W ∨ b ∈ N then h'.get? b else D b) { s with heap := h', toks := t } := by
  have nN : ∀ {b o}, s.heap.get? b = some o → b ∉ N := fun {b o} e q => by rw [hN b q] at e; cases e
  refine ⟨rfl, rfl, fun b o e => if hb : b ∈ W then hz b hb else ⟨o, hk b o hb e⟩, hk, F, fun a o e => ?_, fun a o ha e => ?_, fun a o ha e e' => ?_⟩
  · change (if a ∈ W ∨ a ∈ N then _ else _) = _ at e
    show h'.get? a = some o
    by_cases q : a ∈ W ∨ a ∈ N
    · rw [if_pos q] at e; exact e
    · rw [if_neg q] at e; exact hk a o (fun h => q (.inl h)) (F a o e)
  · show (if a ∈ W ∨ a ∈ N then _ else _) = _
    rw [if_neg (fun q => q.elim ha (nN (F a o e)))]; exact e
  · show (if a ∈ W ∨ a ∈ N then _ else _) = _
    rw [if_neg (fun q => q.elim ha (nN e))]; exact e'
section
variable {prog : Program} {w : World}
def enumO (it : Addr) (i : Int) (old : Value) : Obj := { cls := .type "enumerate", dict := none, data := .fields #[.none, .bool false, .ref it, rawInt i, .none, old], slots := #[] }
theorem itSpec_enum {elts : List Expr} {c : Nat} {py : Pos} {e it l : Addr} {vs : List Value} (hei : e ≠ it) (hel : e ≠ l) (hil : it ≠ l) :
    ItSpec prog w (.Tuple elts c py) e [e, it] [e, it, l] vs.length (fun i D => (∃ old, D e = some (enumO it i old)) ∧ LIt D it l i ∧ LV D l vs) (fun i v D => ∃ T t x, v = .ref T ∧ vs[i]? = some x ∧ D T = some (tupO #[.int i t, x] 0)) where
  sub := fun b hb => by simp only [List.mem_cons, List.not_mem_nil, or_false] at hb ⊢; rcases hb with h | h <;> simp [h]
  has := fun i D h b hb => by
    simp only [List.mem_cons, List.not_mem_nil, or_false] at hb
    rcases hb with rfl | rfl | rfl
    · obtain ⟨old, e⟩ := h.1; exact ⟨_, e⟩
    · obtain ⟨o, e, _⟩ := h.2.1; exact ⟨o, e⟩
    · exact h.2.2.some
  mono := fun i D D' h x => ⟨let ⟨old, q⟩ := x.1; ⟨old, by rw [h e (by simp)]; exact q⟩, x.2.1.mono fun o q => by rw [h it (by simp)]; exact q, x.2.2.mono fun o q => by rw [h l (by simp)]; exact q⟩
  noT := fun i D h b hb o q => by
    simp only [List.mem_cons, List.not_mem_nil, or_false] at hb
    rcases hb with rfl | rfl
    · obtain ⟨old, q'⟩ := h.1
      rw [q'] at q; injection q with q; subst q
      simp [IsTup, enumO]
    · obtain ⟨o', e', hc, _⟩ := h.2.1
      rw [e'] at q; injection q with q; subst q
      simp [IsTup, hc]
  iter := fun F h q => by
    obtain ⟨old, e'⟩ := h.1
    exact wpAny_pyIter_enum (i := ((0 : Nat) : Int)) (F _ _ e') q
  next := fun {A E B W D0 s0 L vars D s Q i} F h ho hi hh k => by
    obtain ⟨⟨old, he⟩, hit, hlv⟩ := h
    obtain ⟨oi, hoi, hci, hdi⟩ := id hit
    have hv : vs.toArray[i]? = some vs[i] := by simp [hi]
    refine wpAny_pyNext_enum_item (e := e) (it := it) (F.get he) ⟨oi, F.get hoi, hci, hdi⟩ (lv_is F hlv) hv hei fun h' ho' hit' hT hsz hk => ?_
    refine ⟨_, rfl, ?_⟩
    refine wpAny_letOwnedTupleGo_enum ho' fun h'' he'' hs'' => ?_
    obtain ⟨o2, ho2, hc2, hd2⟩ := hit'
    have hTn : s.heap.get? s.heap.objs.size = none := get?_ge (Nat.le_refl _)
    have hTe : s.heap.objs.size ≠ e := fun q => by have := F.get he; rw [← q, hTn] at this; cases this
    have hTi : s.heap.objs.size ≠ it := fun q => by have := F.get hoi; rw [← q, hTn] at this; cases this
    have gi : h''.get? it = some o2 := (hs''.2 it (Ne.symm hei)).trans ho2
    have gT : h''.get? s.heap.objs.size = some (tupO #[.int i s.toks, vs[i]] 0) := (hs''.2 _ hTe).trans hT
    have T := Tr.redo (W := [e, it]) (N := [s.heap.objs.size]) (h' := h'') F.fits (fun b o hb q => by
      simp only [List.mem_cons, List.not_mem_nil, or_false, not_or] at hb
      exact (hs''.2 b hb.1).trans (hk b o hb.1 hb.2 q)) (fun b hb => by
      simp only [List.mem_cons, List.not_mem_nil, or_false] at hb
      rcases hb with rfl | rfl
      · exact ⟨_, he''⟩
      · exact ⟨_, gi⟩) (fun b hb => by rw [List.mem_singleton] at hb; subst hb; exact hTn) (s.toks + 1)
    have F1 := F.step T fun b hb => by
      refine ⟨?_, .inr (ho b hb)⟩
      simp only [List.mem_cons, List.not_mem_nil, or_false] at hb
      rcases hb with rfl | rfl
      · exact ⟨_, he⟩
      · exact ⟨_, hoi⟩
    refine k _ _ _ F1 ⟨⟨vs[i], ?_⟩, ⟨o2, ?_, hc2, hd2⟩, ?_⟩ (fun a o ha q => T.ext a o ha q) ⟨_, s.toks, vs[i], rfl, List.getElem?_eq_getElem hi, ?_⟩
    · show (if e ∈ [e, it] ∨ _ then _ else _) = _
      rw [if_pos (.inl (by simp)), he'']
      unfold enumO
      push_cast; rfl
    · show (if it ∈ [e, it] ∨ _ then _ else _) = _
      rw [if_pos (.inl (by simp))]; exact gi
    · exact hlv.mono fun o q => T.ext l o (by simp [Ne.symm hel, Ne.symm hil]) q
    · show (if _ ∨ s.heap.objs.size ∈ [s.heap.objs.size] then _ else _) = _
      rw [if_pos (.inr (by simp))]; exact gT
  stop := fun {A E B W D0 s0 L vars D s Q} F h ho hh k => by
    obtain ⟨⟨old, he⟩, hit, hlv⟩ := h
    obtain ⟨oi, hoi, hci, hdi⟩ := id hit
    refine wpAny_pyNext_enum_end (e := e) (it := it) (i := vs.length) hh (F.get he) ⟨oi, F.get hoi, hci, hdi⟩ (lv_is F hlv) (by simp) fun h' hx => ?_
    exact k _ _ (F.forget (ho it (by simp)) (F.neL hoi) hx _) fun a o ha q => by
      have : a ≠ it := fun q' => ha (by simp [q'])
      simp only [this, if_false]; exact q
variable {A : Around} {E : Value → Shared → Prop} {B : Led} {W : List Addr} {D0 : Led} {s0 : Shared} {L : Addr} {vars : Vars} {D : Led} {s : Shared} {env : Env}
theorem r_enum {l : Addr} {vs : List Value} {Q : Value → Shared → Prop} (F : At B W D0 s0 L vars D s) (hl : LV D l vs)
    (h : ∀ e s1, (∀ elts c py, IterGives prog w (.Tuple elts c py) A (.ref e) D s s1 vs.length (fun i v D => ∃ T t x, v = .ref T ∧ vs[i]? = some x ∧ D T = some (tupO #[.int i t, x] 0))) → Q (.ref e) s1) :
    wpAny (model prog w) A (call (.type "enumerate") [.ref l]) Q E s := by
  refine call_enumerate_list (lv_is F hl) fun h' he hit hsz hk => h _ _ fun elts c py => ?_
  intro E' Q' h2
  obtain ⟨oi, hoi, hci, hdi⟩ := hit
  refine wpAny_pyIter_enum he ?_
  have hi0 : s.heap.get? s.heap.objs.size = none := get?_ge (Nat.le_refl _)
  have he0 : s.heap.get? (s.heap.objs.size + 1) = none := get?_ge (Nat.le_succ _)
  have hln : ∀ a, s.heap.get? a = none → a ≠ l := fun a q q' => by obtain ⟨o, e⟩ := hl.some; have := F.get e; rw [← q', q] at this; cases this
  have T := Tr.redo (W := []) (N := [s.heap.objs.size + 1, s.heap.objs.size]) (h' := h') F.fits (fun b o _ q => hk b o q) (fun _ q => nomatch q) (fun b hb => by
    simp only [List.mem_cons, List.not_mem_nil, or_false] at hb
    rcases hb with rfl | rfl
    · exact he0
    · exact hi0) s.toks
  refine h2 _ [s.heap.objs.size + 1, s.heap.objs.size] [s.heap.objs.size + 1, s.heap.objs.size, l] _ _ _ (itSpec_enum (vs := vs) (Nat.succ_ne_self _) (hln _ he0) (hln _ hi0)) ⟨⟨.none, ?_⟩, ⟨oi, ?_, hci, hdi⟩, hl.mono fun o q => T.ext l o (by simp) q⟩ T ?_
  · show (if _ ∨ _ then _ else _) = _
    rw [if_pos (.inr (by simp))]; exact he
  · show (if _ ∨ _ then _ else _) = _
    rw [if_pos (.inr (by simp))]; exact hoi
  · intro b hb
    simp only [List.mem_cons, List.not_mem_nil, or_false] at hb
    rcases hb with rfl | rfl
    · exact he0
    · exact hi0
end
end Mine
end

section
open PySem PySem.W PyProof.Rows
set_option Elab.async false
set_option maxRecDepth 100000
namespace Mine
section
variable {prog : Program} {w : World} {A : Around} {E : Value → Shared → Prop} {h₁ : Heap} {mg mb : Str → Option Value} {W : List Addr} {D0 : Led} {s0 : Shared} {L : Addr} {vars : Vars} {D : Led} {s : Shared} {env : Env}
/-- a call of a def with cells, one plain argument -/
theorem r_callC {name : Str} {params : Arguments} {body : List Stmt} {scope : Scope} {pm cd doc : Value} {a : Addr} {o : Obj} {x : Str} {v : Value} {W' : List Addr} {Q : Value → Shared → Prop}
    (hF : Fits D s) (hB : ∀ a o, hLed h₁ a = some o → D a = some o) (hW : ∀ b ∈ W', hLed h₁ b = none)
    (G : Glo h₁ mg mb) (ho : h₁.get? a = some o) (hdata : o.data = .func (PySem.Calls.docDef name params body scope pm cd doc)) (hcd : h₁.CodeRec cd name)
    (hroom : A.depth < recursionLimit)
    (hbind : bindArgs (PySem.Calls.docDef name params body scope pm cd doc) ⟨[v], []⟩ = pure [(x, v)])
    (hloc : scope.names.lookup x = some .local)
    (h : ∀ s' D', At (hLed h₁) W' D s s.heap.objs.size [(x, v)] D' s' → Ext0 D D' →
      (∀ n c, (cellsFrom (s.heap.objs.size + 1) scope.names []).lookup n = some c → CV D' c none ∧ s.heap.get? c = none) →
      wpAny (model prog w) (A.deeper (envOfC name scope s.heap.objs.size a cd)) (execs body (envOfC name scope s.heap.objs.size a cd))
        (fun f s'' => Q (match f with | .ret v => v | _ => .none) s'') (fun _ _ => False) s')
    (hco : scope.isCoroutine = false) (hgen : scope.isGenerator = false) (hk : scope.kind = .function) :
    wpAny (model prog w) A (call (.ref a) [v]) Q E s := by
  have kept : ∀ b o, h₁.get? b = some o → s.heap.get? b = some o := fun b o e => hF b o (hB b o e)
  have hkx : (envOfC name scope s.heap.objs.size a cd).kindOf x = some .local := hloc
  refine wpAny_call (call_cells_ret hroom (kept _ _ ho) hdata (G.lim.keeps kept) (hcd.keeps kept) hbind (fun y hy => by rw [List.mem_singleton] at hy; subst hy; exact .inl hloc) (fun h' tk Fr' X => ?_) hco hgen hk)
  have hnew : ∀ n c, (cellsFrom (s.heap.objs.size + 1) scope.names []).lookup n = some c → s.heap.get? c = none := fun n c e => get?_ge (Nat.le_of_lt (X.above n c (PySem.mem_of_lookup e)))
  have T := Tr.redo (W := []) (N := (cellsFrom (s.heap.objs.size + 1) scope.names []).map (·.2)) (h' := h') hF (fun b o _ e => Fr'.keep b o e) (fun _ q => nomatch q) (fun b hb => by
    obtain ⟨⟨n, c⟩, hm, rfl⟩ := List.mem_map.mp hb
    exact get?_ge (Nat.le_of_lt (X.above n c hm))) tk
  refine wpAny_mono (h _ _ ⟨T.weaken (fun b hb => nomatch hb), ⟨_, Fr'.ns, fun p hp => ?_⟩, get?_ge (Nat.le_refl _), ?_, fun a o e => T.ext0 a o (hB a o e), hB, hW⟩ T.ext0 fun n c e => ⟨?_, hnew n c e⟩) (fun _ _ x => x) fun _ _ x => x
  · rw [List.mem_singleton] at hp; subst hp
    simp [bindL, hkx]
  · show (if _ ∨ _ then _ else _) = _
    rw [if_neg ?_]
    · exact hF.fresh (Nat.le_refl _)
    · rintro (q | q)
      · cases q
      · obtain ⟨⟨n, c⟩, hm, e⟩ := List.mem_map.mp q
        exact Nat.lt_irrefl _ (e ▸ X.above n c hm)
  · obtain ⟨oc, hoc, hd⟩ := X.cell n c e
    refine ⟨oc, ?_, ?_⟩
    · show (if _ ∨ _ then _ else _) = _
      rw [if_pos (.inr (List.mem_map.mpr ⟨(n, c), PySem.mem_of_lookup e, rfl⟩))]; exact hoc
    · rw [hd]; simp [bindC, hkx]
end
end Mine
end

section
open PySem PySem.W PyProof.Rows
set_option Elab.async false
set_option maxRecDepth 100000
namespace Mine
section
variable {prog : Program} {w : World} {A : Around} {E : Value → Shared → Prop} {B : Led} {W : List Addr} {D0 : Led} {s0 : Shared} {L : Addr} {vars : Vars} {D : Led} {s : Shared} {env : Env}
theorem slice_push {vl vu : Value} {ws : List Value} {Q : Value → Shared → Prop} (F : At B W D0 s0 L vars D s)
    (h : ∀ r s', D r = none → s0.heap.get? r = none → At B W D0 s0 L vars (D.put r (lstO ws.toArray 0)) s' → Q (.ref r) s') :
    Q (.ref (s.heap.objs.size + 1)) { s with heap := (s.heap.push { cls := .type "slice", data := .fields #[vl, vu, .none] }).push { cls := .type "list", data := .seq ws.toArray } } := by
  have F1 := F.pushNo { cls := .type "slice", data := .fields #[vl, vu, .none] } s.toks
  have F2 := F1.push (lstO ws.toArray 0) rfl s.toks
  have hz : (s.heap.push { cls := .type "slice", data := .fields #[vl, vu, .none] }).objs.size = s.heap.objs.size + 1 := Heap.size_push ..
  have hf := F1.fresh (a := s.heap.objs.size + 1) (Nat.le_of_eq hz)
  have := h (s.heap.objs.size + 1) _ hf.1 hf.2 (hz ▸ F2)
  exact this
theorem e_sliceTo {value up : Expr} {p pos : Pos} {Q : Value → Shared → Prop}
    (h : wpAny (model prog w) A (eval value env) (fun o s₁ => wpAny (model prog w) A (eval up env) (fun vu s₂ => ∃ l vs k t D2, o = .ref l ∧ vu = .int k t ∧ 0 ≤ k ∧ At B W D0 s0 L vars D2 s₂ ∧ s₂.heap.IsList l (List.toArray vs) ∧ vs.length ≤ 1000000 ∧
      ∀ r s', D2 r = none → s0.heap.get? r = none → At B W D0 s0 L vars (D2.put r (lstO (vs.take k.toNat).toArray 0)) s' → Q (.ref r) s') E s₁) E s)
    (ht : ∀ o r, letTemporaryGo value o r = pure () := by intro _ _; rfl) :
    wpAny (model prog w) A (eval (.Subscript value (.Slice none (some up) none p) pos) env) Q E s := by
  refine wpAny_Subscript_list_slice (wpAny_mono h (fun o s₁ h₁ => wpAny_evalPart_none (wpAny_evalPart_some (wpAny_mono h₁ (fun vu s₂ h₂ => ?_) fun _ _ e => e))) fun _ _ e => e) ht
  obtain ⟨l, vs, k, t, D2, rfl, rfl, h0, F, hl, hz, hQ⟩ := h₂
  refine ⟨l, vs.toArray, none, some k, rfl, hl, by rw [List.size_toArray, sizeLine]; omega, .none, .int k t, ?_⟩
  have ek : k = (k.toNat : Int) := by omega
  rw [show slicePick vs.toArray none (some k) none = (vs.take k.toNat).toArray from by rw [ek, slicePick_upto' vs.toArray k.toNat, ← ek]]
  exact slice_push F hQ
theorem e_sliceFrom {value lo : Expr} {p pos : Pos} {Q : Value → Shared → Prop}
    (h : wpAny (model prog w) A (eval value env) (fun o s₁ => wpAny (model prog w) A (eval lo env) (fun vu s₂ => ∃ l vs k t D2, o = .ref l ∧ vu = .int k t ∧ 0 ≤ k ∧ At B W D0 s0 L vars D2 s₂ ∧ s₂.heap.IsList l (List.toArray vs) ∧ vs.length ≤ 1000000 ∧
      ∀ r s', D2 r = none → s0.heap.get? r = none → At B W D0 s0 L vars (D2.put r (lstO (vs.drop k.toNat).toArray 0)) s' → Q (.ref r) s') E s₁) E s)
    (ht : ∀ o r, letTemporaryGo value o r = pure () := by intro _ _; rfl) :
    wpAny (model prog w) A (eval (.Subscript value (.Slice (some lo) none none p) pos) env) Q E s := by
  refine wpAny_Subscript_list_slice (wpAny_mono h (fun o s₁ h₁ => wpAny_evalPart_some (wpAny_mono h₁ (fun vu s₂ h₂ => wpAny_evalPart_none ?_) fun _ _ e => e)) fun _ _ e => e) ht
  obtain ⟨l, vs, k, t, D2, rfl, rfl, h0, F, hl, hz, hQ⟩ := h₂
  refine ⟨l, vs.toArray, some k, none, rfl, hl, by rw [List.size_toArray, sizeLine]; omega, .int k t, .none, ?_⟩
  have ek : k = (k.toNat : Int) := by omega
  rw [show slicePick vs.toArray (some k) none none = (vs.drop k.toNat).toArray from by rw [ek, slicePick_from' vs.toArray k.toNat, ← ek]]
  exact slice_push F hQ
theorem r_pop0 {l : Addr} {vs : List Value} {v : Value} {t : Tok} {Q : Value → Shared → Prop} (F : At B W D0 s0 L vars D s) (hl : LV D l (v :: vs)) (hw : l ∈ W ∨ s0.heap.get? l = none) (hz : vs.length ≤ 1000000)
    (h : ∀ n s', At B W D0 s0 L vars (D.put l (lstO vs.toArray n)) s' → Q v s') : wpAny (model prog w) A (call (.builtin "list.pop") [.ref l, .int 0 t]) Q E s := by
  have hT := lv_type F hl
  obtain ⟨n, ho⟩ := hl
  have hg := F.get ho
  refine call_meets PySem.F.slot_list_pop hT PySem.F.entry_list_pop (PySem.F.args_list_pop_2 _ _) (PySem.MeetsSeq.list_pop_at l (v :: vs).toArray n 0 t 0 v (by decide) (by simp [seqIndex?]) (by simp) (by rw [List.size_toArray, sizeLine]; simp; omega)) ⟨hg, ?_⟩
  refine h (n + 1) _ (F.upd ho hw (Heap.SameBut.update ..) ?_ _)
  rw [Heap.get?_update_self _ hg rfl]
  simp [lstO, Obj.mapSeq]
theorem e_pop1 {o e : Expr} {apos pos : Pos} {Q : Value → Shared → Prop}
    (h : wpAny (model prog w) A (eval o env) (fun ov s₁ => s₁.TypeIs ov "list" ∧ (∀ a, ov = .ref a → ∃ ob, s₁.heap.get? a = some ob ∧ ob.dict = none) ∧
      wpAny (model prog w) A (eval e env) (fun v s₂ => wpAny (model prog w) A (call (.builtin "list.pop") [ov, v]) Q E s₂) E s₁) E s)
    (hbase : attributeBase o "pop" env (eval o env) = eval o env := by rfl) (hline : (apos.endLine == pos.line) = true := by rfl)
    (he : starEach [e] env = [(false, eval e env)] := by rfl) :
    wpAny (model prog w) A (eval (.Call (.Attribute o "pop" apos) [e] [] pos) env) Q E s :=
  e_meth1 PySem.F.plainAttrs_list PySem.F.slot_list_pop PySem.F.type_list_pop h hbase hline he
/-- the item of a text -/
theorem r_itemStr {x : Str} {t u : Tok} {i : Int} {c : Nat} {Q : Value → Shared → Prop} (F : At B W D0 s0 L vars D s) (hr : (decide (i < -(2 ^ 63 : Int)) || decide (i ≥ 2 ^ 63)) = false) (hc : (seqIndex? i x.length).bind (x.cps[·]?) = some c)
    (h : ∀ t' s', At B W D0 s0 L vars D s' → Q (.str ⟨#[c]⟩ t') s') : ItemOn (model prog w) A E (.str x t) (.int i u) Q s :=
  ⟨"str", _, PySem.F.slot_str_getitem.lookup, typeIs_str s x t, PySem.P.getItem_str hr hc (h _ _ (F.toks _))⟩
theorem boot_range : bootBuiltins "range" = some (.type "range") := by first | rfl | exact PySem.Pv.boot_range | decide +kernel
theorem boot_enumerate : bootBuiltins "enumerate" = some (.type "enumerate") := by first | rfl | exact PySem.Pv.boot_enumerate | decide +kernel
/-- range(n) -/
theorem r_range {n : Nat} {t : Tok} {Q : Value → Shared → Prop} (F : At B W D0 s0 L vars D s) (hn : n ≤ 1000)
    (h : ∀ r s', At B W D0 s0 L vars D s' → (∀ y py, IterGives prog w (.Name y py) A (.ref r) D s' s' n (fun i v _ => ∃ t, v = .int i t)) → Q (.ref r) s') : wpAny (model prog w) A (call (.type "range") [.int n t]) Q E s := by
  refine call_range_1 ?_
  have F1 := F.pushNo { cls := .type "range", data := .fields #[.int 0 s.toks, .int n t, .int 1 (s.toks + 1)] } (s.toks + 1 + 1)
  exact h _ _ F1 fun _ _ => iterGives_range F1.fits (IsRange.new ..) hn
/-! whole numbers -/
theorem n_mod {a b : Nat} {t u : Tok} {Q : Value → Shared → Prop} (F : At B W D0 s0 L vars D s) (hb : 0 < b) (h : ∀ t' s', At B W D0 s0 L vars D s' → Q (.int ((a % b : Nat) : Int) t') s') :
    wpAny (model prog w) A (binaryOp .Mod (.int (a : Int) t) (.int (b : Int) u)) Q E s := by
  refine mod_int (by omega) ?_
  rw [Int.fmod_eq_emod_of_nonneg _ (by omega)]
  exact h _ _ (F.toks _)
theorem n_div {a b : Nat} {t u : Tok} {Q : Value → Shared → Prop} (F : At B W D0 s0 L vars D s) (hb : 0 < b) (h : ∀ t' s', At B W D0 s0 L vars D s' → Q (.int ((a / b : Nat) : Int) t') s')
    (hs : a < 2 ^ 20 := by omega) (hs2 : b < 2 ^ 20 := by omega) :
    wpAny (model prog w) A (binaryOp .FloorDiv (.int (a : Int) t) (.int (b : Int) u)) Q E s := by
  refine floordiv_int (by omega) ?_ (Or.inl (PyProof.noPylong_small (by omega)))
  rw [Int.fdiv_eq_ediv_of_nonneg _ (by omega)]
  exact h _ _ (F.toks _)
theorem n_add {a b : Nat} {t u : Tok} {Q : Value → Shared → Prop} (F : At B W D0 s0 L vars D s) (h : ∀ t' s', At B W D0 s0 L vars D s' → Q (.int ((a + b : Nat) : Int) t') s') :
    wpAny (model prog w) A (binaryOp .Add (.int (a : Int) t) (.int (b : Int) u)) Q E s :=
  wpAny_add_int (h _ _ (F.toks _))
theorem n_const {n : Nat} {k : Nat} {pos : Pos} {Q : Value → Shared → Prop} (F : At B W D0 s0 L vars D s) (h : ∀ t' s', At B W D0 s0 L vars D s' → Q (.int (n : Int) t') s') :
    wpAny (model prog w) A (eval (.Constant (.int (n : Int)) k pos) env) Q E s := wpAny_Constant_int (h _ _ (F.toks _))
theorem n_eq {a b : Nat} {t u : Tok} {Q : Value → Shared → Prop} (h : Q (.bool (decide (a = b))) s) :
    wpAny (model prog w) A (compareOp .Eq (.int (a : Int) t) (.int (b : Int) u)) Q E s := by
  refine wpAny_eq_int ?_
  have : ((a : Int) == (b : Int)) = decide (a = b) := by
    by_cases e : a = b
    · simp [e]
    · have : ¬ ((a : Int) = b) := by omega
      simp [e, this]
  rw [this]; exact h
end
end Mine
end

section
open PySem PySem.W PyProof.Rows
set_option Elab.async false
set_option maxRecDepth 100000
namespace Mine
/-! a dict as it is built, key by key -/
structure DI (ks : List Key) (R : Key → Value → Led → Prop) (inj : Prop) (D : Led) (xs : KVs) : Prop where
  keys : xs.map (·.1) = ks
  vals : ∀ k ∈ ks, ∃ v, look xs k = some v ∧ R k v D
  inj : inj → ∀ k ∈ ks, ∀ k' ∈ ks, look xs k = look xs k' → k = k'
theorem DI.nil {R : Key → Value → Led → Prop} {inj : Prop} {D : Led} : DI [] R inj D [] := ⟨rfl, (fun _ h => nomatch h), fun _ _ h => nomatch h⟩
theorem DI.mono {ks : List Key} {R R' : Key → Value → Led → Prop} {inj : Prop} {D D' : Led} {xs : KVs} (h : DI ks R inj D xs) (hR : ∀ k v, R k v D → R' k v D') : DI ks R' inj D' xs :=
  ⟨h.keys, fun k hk => let ⟨v, e, r⟩ := h.vals k hk; ⟨v, e, hR k v r⟩, h.inj⟩
theorem DI.snoc {ks : List Key} {R : Key → Value → Led → Prop} {inj : Prop} {D : Led} {xs : KVs} {k : Key} {kv v : Value} (h : DI ks R inj D xs) (hk : k ∉ ks) (hv : R k v D) (hi : inj → ∀ k' ∈ ks, look xs k' ≠ some v) : DI (ks ++ [k]) R inj D (putK xs k kv v) := by
  refine ⟨?_, fun k' hk' => ?_, fun i a ha b hb e => ?_⟩
  · rw [keys_putK, h.keys, if_neg hk]
  · rw [look_putK]
    by_cases e : k' = k
    · subst e; exact ⟨v, if_pos rfl, hv⟩
    · rw [if_neg e]
      exact h.vals k' (by simpa [e] using hk')
  · rw [look_putK, look_putK] at e
    by_cases ea : a = k
    · by_cases eb : b = k
      · rw [ea, eb]
      · rw [if_pos ea, if_neg eb] at e
        exact absurd e.symm (hi i b (by simpa [eb] using hb))
    · by_cases eb : b = k
      · rw [if_neg ea, if_pos eb] at e
        exact absurd e (hi i a (by simpa [ea] using ha))
      · rw [if_neg ea, if_neg eb] at e
        exact h.inj i a (by simpa [ea] using ha) b (by simpa [eb] using hb) e
theorem DI.none {ks : List Key} {R : Key → Value → Led → Prop} {inj : Prop} {D : Led} {xs : KVs} (h : DI ks R inj D xs) {k : Key} (hk : k ∉ ks) : look xs k = none := look_none.mpr (by rw [h.keys]; exact hk)
theorem DI.refs {ks : List Key} {R : Key → Value → Led → Prop} {inj : Prop} {D : Led} {xs : KVs} (h : DI ks R inj D xs) (hr : ∀ k v, R k v D → ∃ a, v = .ref a) : ∃ f : Key → Addr, ∀ k ∈ ks, look xs k = some (.ref (f k)) ∧ R k (.ref (f k)) D := by
  refine ⟨fun k => match look xs k with | some (.ref a) => a | _ => 0, fun k hk => ?_⟩
  obtain ⟨v, e, r⟩ := h.vals k hk
  obtain ⟨a, rfl⟩ := hr k v r
  have ef : (match look xs k with | some (.ref a) => a | _ => 0) = a := by rw [e]
  show look xs k = some (.ref (match look xs k with | some (.ref a) => a | _ => 0)) ∧ R k (.ref (match look xs k with | some (.ref a) => a | _ => 0)) D
  rw [ef]; exact ⟨e, r⟩
theorem mem_take_nodup {ks : List Key} (hn : ks.Nodup) {i : Nat} {k : Key} (h : ks[i]? = some k) : k ∉ ks.take i := fun hm => by
  have hs := take_succ' h
  have h2 : (ks.take (i + 1)).Nodup := hn.sublist (List.take_sublist _ _)
  rw [hs, List.nodup_append] at h2
  exact h2.2.2 k hm k (by simp) rfl
where take_succ' {ks : List Key} {i : Nat} {k : Key} (h : ks[i]? = some k) : ks.take (i + 1) = ks.take i ++ [k] := by rw [List.take_add_one, h]; rfl
theorem take_succ {α : Type} {ks : List α} {i : Nat} {k : α} (h : ks[i]? = some k) : ks.take (i + 1) = ks.take i ++ [k] := by rw [List.take_add_one, h]; rfl
section
variable {prog : Program} {w : World} {A : Around} {E : Value → Shared → Prop} {B : Led} {W : List Addr} {D0 : Led} {s0 : Shared} {L : Addr} {vars : Vars} {D : Led} {s : Shared} {env : Env}
/-- a tuple of two names is told -/
theorem r_asg2 {k x : Str} {pk px pt : Pos} {c : Nat} {T : Addr} {v1 v2 : Value} {n : Nat} {Q : Unit → Shared → Prop} (F : At B W D0 s0 L vars D s) (hh : A.handled = none) (ht : D T = some (tupO #[v1, v2] n))
    (h : ∀ s', At B W D0 s0 L (Vars.put (Vars.put vars k v1) x v2) D s' → Q () s')
    (hL : env.locals = L := by rfl) (hk : env.scope.kind = .function := by rfl) (hl : env.kindOf k = some .local := by rfl) (hl' : env.kindOf x = some .local := by rfl) :
    wpAny (model prog w) A (assign (.Tuple [.Name k pk, .Name x px] c pt) env (.ref T)) Q E s := by
  refine wpAny_assign_Tuple hh ⟨_, F.get ht, rfl, _, rfl⟩ rfl rfl fun h' hx => ?_
  have F1 := F.keeps (h' := h') (fun b o e => hx b o (Nat.ne_of_lt (Heap.lt_size e)) e) s.toks
  show wpAny _ A (do holding [v2] (assign (.Name k pk) env v1); do holding [] (assign (.Name x px) env v2); pure ()) _ _ _
  refine wpAny_bind (wpAny_holding (wpAny_assign_Name (r_st F1 (fun s2 F2 => ?_) hL hk hl)))
  exact wpAny_bind (wpAny_holding (wpAny_assign_Name (r_st F2 (fun s3 F3 => wpAny_pure (h s3 F3)) hL hk hl')))
end
end Mine
end

section
open PySem PySem.W PyProof.Rows
set_option Elab.async false
set_option maxRecDepth 100000
namespace Mine
/-! what _law_drawn is made of -/
def nameK (kind k : Nat) : Key := match (k + kind) % 3 with
  | 0 => .at (.inl (k : Int))
  | 1 => .at (.inr ⟨#[65 + k]⟩)
  | _ => .tp [.inl (k : Int), .inr "N"]
def nmsOf (kind count : Nat) : List Key := (List.range count).map (nameK kind)
theorem nameK_inj {kind a b : Nat} (h : nameK kind a = nameK kind b) : a = b := by
  unfold nameK at h
  split at h <;> split at h <;> simp at h <;> omega
theorem nmsOf_nodup (kind count : Nat) : (nmsOf kind count).Nodup := by
  unfold nmsOf
  exact List.Pairwise.map _ (fun a b hab e => hab (nameK_inj e)) List.nodup_range
theorem nameK_ok {kind k : Nat} (h : k < 7) : (nameK kind k).ok := by
  unfold nameK Key.ok
  have : k = 0 ∨ k = 1 ∨ k = 2 ∨ k = 3 ∨ k = 4 ∨ k = 5 ∨ k = 6 := by omega
  split <;> rcases this with rfl | rfl | rfl | rfl | rfl | rfl | rfl <;> decide +kernel
theorem nmsOf_ok {kind count : Nat} (h : count ≤ 7) : ∀ k ∈ nmsOf kind count, k.ok := fun k hk => by
  obtain ⟨i, hi, rfl⟩ := List.mem_map.mp hk
  rw [List.mem_range] at hi
  exact nameK_ok (by omega)
theorem nmsOf_len (kind count : Nat) : (nmsOf kind count).length = count := by unfold nmsOf; simp
theorem nmsOf_take_succ {kind count i : Nat} (h : i < count) : (nmsOf kind count).take (i + 1) = (nmsOf kind count).take i ++ [nameK kind i] := by
  unfold nmsOf
  rw [List.take_add_one]
  congr 1
  simp [h]
theorem letter {k : Nat} (h : k < 7) : (seqIndex? ((k : Nat) : Int) (Str.ofString "ABCDEFG").length).bind ((Str.ofString "ABCDEFG").cps[·]?) = some (65 + k) := by
  have : k = 0 ∨ k = 1 ∨ k = 2 ∨ k = 3 ∨ k = 4 ∨ k = 5 ∨ k = 6 := by omega
  rcases this with rfl | rfl | rfl | rfl | rfl | rfl | rfl <;> decide
theorem IntsL.of : ∀ {vs : List Value} {ns : List Int}, IntsAre vs ns → IntsL ns vs
  | _, _, .nil => trivial
  | _, _, .cons _ _ h => ⟨⟨_, rfl⟩, IntsL.of h⟩
theorem IntsL.take : ∀ {is : List Int} {vs : List Value} (k : Nat), IntsL is vs → IntsL (is.take k) (vs.take k)
  | [], [], k, _ => by simp [IntsL]
  | [], _ :: _, _, h => h.elim
  | _ :: _, [], _, h => h.elim
  | i :: is, v :: vs, 0, _ => by simp [IntsL]
  | i :: is, v :: vs, k + 1, h => ⟨h.1, IntsL.take k h.2⟩
def NatsL (ms : List Nat) (ws : List Value) : Prop := IntsL (ms.map fun m : Nat => (m : Int)) ws
theorem NatsL.getV {ms : List Nat} {ws : List Value} {i : Nat} {v : Value} (h : NatsL ms ws) (hv : ws[i]? = some v) : ∃ m t, ms[i]? = some m ∧ v = .int (m : Int) t := by
  obtain ⟨k, t, hk, rfl⟩ := IntsL.getV h hv
  rw [List.getElem?_map] at hk
  cases e : ms[i]? with
  | none => rw [e] at hk; cases hk
  | some m => rw [e] at hk; injection hk with hk; exact ⟨m, t, rfl, by rw [← hk]⟩
section
variable {prog : Program} {w : World} {h₁ : Heap} {mg mb : Str → Option Value}
abbrev dEnv (L a : Addr) (cd : Value) : Env := envOfC "_law_drawn" (fScope (fnAt 4)) L a cd
/-- the head of _law_drawn: tape, head, count, kind -/
theorem drawn_head {a : Addr} {cd : Value} {A : Around} {E : Value → Shared → Prop} {D : Led} {s s1 : Shared} {D1 : Led} {Q : Flow → Shared → Prop} {l : Addr} {vs : List Value} {ns : List Int} {rest : List Stmt} (hR : Room A 1)
    (F1 : At (hLed h₁) [] D s s.heap.objs.size [("script", .ref l)] D1 s1) (cK1 : CV D1 (s.heap.objs.size + 1) none) (cK2 : s.heap.get? (s.heap.objs.size + 1) = none) (cS1 : CV D1 (s.heap.objs.size + 2) none)
    (hl : s1.heap.IsList l vs.toArray) (hi : IntsAre vs ns) (hz : vs.length ≤ 1000)
    (hQ : ∀ lT wT ms hd t1 t2 t3 D' s', At (hLed h₁) [] D s s.heap.objs.size [("count", .int ((3 + hd % 5 : Nat) : Int) t1), ("head", .int (hd : Nat) t2), ("tape", .ref lT)] D' s' → s.heap.get? lT = none → D lT = none → LV D' lT wT → NatsL ms wT → (∀ m ∈ ms, m < 720720) → ms.length ≤ 40 → hd < 720720 →
      CV D' (s.heap.objs.size + 1) (some (.int ((hd / 5 % 3 : Nat) : Int) t3)) → CV D' (s.heap.objs.size + 2) none →
      wpAny (model prog w) A (execs ((fBody (fnAt 4)).drop 4) (dEnv s.heap.objs.size a cd)) Q E s') :
    wpAny (model prog w) A (execs (fBody (fnAt 4)) (dEnv s.heap.objs.size a cd)) Q E s1 := by
  refine wpAny_execs_cons (x_lcomp F1 (cl := []) (n := (vs.take 40).length) (P := fun i v _ => (vs.take 40)[i]? = some v) (fun i _ ws => ∃ ms, NatsL ms ws ∧ ∀ m ∈ ms, m < 720720) ?_ hR.hand (by simp; omega) (fun _ _ _ _ _ h => h) rfl rfl rfl rfl)
  refine e_sliceTo (r_nm F1 rfl (wpAny_Constant_int ⟨l, vs, 40, _, D1, rfl, rfl, by decide, F1.toks _, hl, by omega, fun r s2 hr1 hr2 F2 => ?_⟩))
  have hx12 : Ext0 D1 (D1.put r (lstO (vs.take (40 : Int).toNat).toArray 0)) := .new hr1
  refine ⟨_, s2, F2, iterGives_list F2.fits LV.put_same, ⟨[], trivial, by simp⟩, ?_, ?_⟩
  · intro C i v ws vars' D' s' hi' FC hv hI _ E'
    obtain ⟨ms, hI1, hI2⟩ := hI
    obtain ⟨n, t, hn, rfl⟩ := ((IntsL.of hi).take 40).getV hv
    refine wpAny_assign_Name (r_st FC fun s3 F3 => ?_)
    refine wpAny_pure ?_
    refine ite_t rfl ?_
    have h0 : 0 ≤ n.fmod 720720 ∧ n.fmod 720720 < 720720 := by
      rw [Int.fmod_eq_emod_of_nonneg _ (by decide)]
      exact ⟨Int.emod_nonneg _ (by decide), Int.emod_lt_of_pos _ (by decide)⟩
    refine wpAny_BinOp (r_nm F3 rfl (wpAny_Constant_int (mod_int (by decide) ⟨_, D', (F3.toks _).toks _, .refl _, ms ++ [(n.fmod 720720).toNat], ?_, ?_⟩)))
    · unfold NatsL at hI1 ⊢
      rw [List.map_append]
      exact hI1.append ⟨⟨_, by show _ = Value.int (((n.fmod 720720).toNat : Nat) : Int) _; rw [Int.toNat_of_nonneg h0.1]⟩, trivial⟩
    · intro x hx
      rcases List.mem_append.mp hx with hx | hx
      · exact hI2 x hx
      · rw [List.mem_singleton] at hx; subst hx; omega
  intro lT wT D3 s3 F3 hx3 hT1 hT2 hT3 ⟨ms, hT4, hT4'⟩ hT5
  have hle : wT.length ≤ 40 := by rw [List.length_take] at hT5; omega
  have hms : ms.length = wT.length := by have := IntsL.length hT4; simpa using this
  have cK3 := (cK1.mono fun o e => hx12 _ o e).mono fun o e => hx3 _ o e
  have cS3 := (cS1.mono fun o e => hx12 _ o e).mono fun o e => hx3 _ o e
  have hlTD : D lT = none := by
    cases e : D lT with
    | none => rfl
    | some o => have := F1.tr.fits0 lT o e; rw [hT2] at this; cases this
  dsimp only
  -- head
  refine wpAny_execs_cons (wpAny_Assign_Name (wpAny_mono (Q := fun v s' => ∃ hd t D' wT' ms', v = .int ((hd : Nat) : Int) t ∧ hd < 720720 ∧ At (hLed h₁) [] D s s.heap.objs.size [("tape", .ref lT)] D' s' ∧ LV D' lT wT' ∧ NatsL ms' wT' ∧ (∀ m ∈ ms', m < 720720) ∧ ms'.length ≤ 40 ∧ (∀ b o, b ≠ lT → D3 b = some o → D' b = some o)) (E := E) ?_ ?_ fun _ _ e => e) rfl)
  · have F3' : At (hLed h₁) [] D s s.heap.objs.size [("tape", .ref lT)] D3 s3 := F3.less (sub_put1 (fun _ h => nomatch h) (fun _ h => nomatch h))
    refine IfExp_ (wpAny_isTrue_value (r_nm F3' rfl (r_truthyL F3' hT3 (by omega) fun s4 F4 => ?_)))
    cases ms with
    | nil =>
      cases wT with
      | cons _ _ => exact hT4.elim
      | nil =>
        refine ite_f (by simp only [List.isEmpty_nil, Bool.not_true]) ?_
        exact wpAny_Constant_int ⟨0, _, D3, [], [], rfl, by decide, F4.toks _, hT3, hT4, by simp, by simp, fun _ _ _ e => e⟩
    | cons m ms =>
      cases wT with
      | nil => exact hT4.elim
      | cons v wT =>
        refine ite_t (by simp only [List.isEmpty_cons, Bool.not_false]) ?_
        obtain ⟨⟨t, hv⟩, hT4r⟩ := hT4
        dsimp only at hv
        refine e_pop1 (r_nm F4 rfl ⟨lv_type F4 hT3, lv_noDict F4 hT3, wpAny_Constant_int (r_pop0 (F4.toks _) hT3 (.inr hT2) (by simp at hle; omega) fun nn s5 F5 => ?_)⟩)
        refine ⟨m, t, _, wT, ms, hv, hT4' m (by simp), F5, LV.put_same, hT4r, fun x hx => hT4' x (by simp [hx]), by simp at hms hle; omega, fun b o hb e => by rw [Led.put_other hb]; exact e⟩
  rintro v s4 ⟨hd, t2, D4, wT4, ms4, rfl, hhd, F4, hL4, hN4, hm4, hl4, hx4⟩
  have cK4 : CV D4 (s.heap.objs.size + 1) none := cK3.mono fun o e => hx4 _ o (cK3.neL hT3) e
  have cS4 : CV D4 (s.heap.objs.size + 2) none := cS3.mono fun o e => hx4 _ o (cS3.neL hT3) e
  as_aux_lemma =>
  refine r_st F4 fun s5 F5 => ?_
  have F5' : At (hLed h₁) [] D s s.heap.objs.size [("head", .int (hd : Nat) t2), ("tape", .ref lT)] D4 s5 := F5.less (sub_put1 (fun _ h => h) (all_ne rfl))
  dsimp only
  -- count
  refine wpAny_execs_cons (wpAny_Assign_Name (wpAny_BinOp (n_const (n := 3) F5' fun t6 s6 F6 => wpAny_BinOp (r_nm F6 rfl (n_const (n := 5) F6 fun t7 s7 F7 => n_mod F7 (by decide) fun t8 s8 F8 => n_add F8 fun t1 s9 F9 => r_st F9 fun s10 F10 => ?_)))) rfl)
  have F10' : At (hLed h₁) [] D s s.heap.objs.size [("count", .int ((3 + hd % 5 : Nat) : Int) t1), ("head", .int (hd : Nat) t2), ("tape", .ref lT)] D4 s10 := F10.less (sub_put1 (fun _ h => h) (all_ne rfl))
  dsimp only
  -- kind
  refine wpAny_execs_cons (wpAny_Assign_Name (wpAny_BinOp (wpAny_BinOp (r_nm F10' rfl (n_const (n := 5) F10' fun t11 s11 F11 => n_div F11 (by decide) fun t12 s12 F12 => n_const (n := 3) F12 fun t13 s13 F13 => n_mod F13 (by decide) fun t3 s14 F14 => ?_)))) rfl)
  refine r_stc F14 rfl cK4 (.inr cK2) fun oK s15 F15 hcv ht => ?_
  have hne1 : s.heap.objs.size + 2 ≠ s.heap.objs.size + 1 := by omega
  exact hQ lT wT4 ms4 hd t1 t2 t3 _ s15 F15 hT2 hlTD (hL4.put_other (Ne.symm (cK4.neL hL4))) hN4 hm4 hl4 hhd hcv (cS4.mono fun o e => by rw [Led.put_other hne1]; exact e)
end
end Mine
end

section
open PySem PySem.W PyProof.Rows
set_option Elab.async false
set_option maxRecDepth 100000
namespace Mine
section
variable {prog : Program} {w : World} {h₁ : Heap} {mg mb : Str → Option Value}
/-- names -/
theorem drawn_names (G : Glo h₁ mg mb) {a : Addr} {cd : Value} {A : Around} {E : Value → Shared → Prop} {D : Led} {s s1 : Shared} {D1 : Led} {Q : Flow → Shared → Prop} {lT : Addr} {hd : Nat} {t1 t2 t3 : Tok} (hR : Room A 1)
    (F1 : At (hLed h₁) [] D s s.heap.objs.size [("count", .int ((3 + hd % 5 : Nat) : Int) t1), ("head", .int (hd : Nat) t2), ("tape", .ref lT)] D1 s1)
    (cK : CV D1 (s.heap.objs.size + 1) (some (.int ((hd / 5 % 3 : Nat) : Int) t3)))
    (hQ : ∀ lN vN D' s', At (hLed h₁) [] D s s.heap.objs.size [("names", .ref lN), ("count", .int ((3 + hd % 5 : Nat) : Int) t1), ("head", .int (hd : Nat) t2), ("tape", .ref lT)] D' s' → Ext0 D1 D' → s.heap.get? lN = none → D1 lN = none → LV D' lN vN → KeysL prog w D' (nmsOf (hd / 5 % 3) (3 + hd % 5)) vN →
      wpAny (model prog w) A (execs ((fBody (fnAt 4)).drop 5) (dEnv s.heap.objs.size a cd)) Q E s') :
    wpAny (model prog w) A (execs ((fBody (fnAt 4)).drop 4) (dEnv s.heap.objs.size a cd)) Q E s1 := by
  generalize hkd : hd / 5 % 3 = kd at cK hQ
  have hkd3 : kd < 3 := by omega
  generalize hcn : 3 + hd % 5 = cn at F1 hQ
  have hcn7 : cn ≤ 7 := by omega
  refine wpAny_execs_cons (x_lcomp F1 (cl := [("kind", s.heap.objs.size + 1)]) (n := cn) (P := fun i v _ => ∃ t, v = .int (i : Nat) t) (fun i D ws => KeysL prog w D ((nmsOf kd cn).take i) ws) ?_ hR.hand (by omega) (fun _ _ _ _ h x => x.mono h) rfl rfl rfl rfl)
  refine e_type1 "range" (r_blt F1 G (by simp) boot_range ⟨rfl, r_nm F1 rfl (r_range F1 (by omega) fun r s2 F2 hg => ?_)⟩)
  refine ⟨D1, s2, F2, hg _ _, trivial, ?_, ?_⟩
  · rintro C i v ws vars' D' s' hi FC ⟨tv, rfl⟩ hI hle E'
    have cK' : CV D' (s.heap.objs.size + 1) (some (.int (kd : Nat) t3)) := cK.mono fun o e => FC.tr.ext0 _ o e
    refine wpAny_assign_Name (r_st FC fun s3 F3 => ?_)
    refine wpAny_pure ?_
    simp only [if_true]
    refine e_sub (List_ (args_cons (r_nm F3 rfl (args_cons (e_sub (wpAny_Constant_str (r_nm (F3.toks _) rfl (r_itemStr (F3.toks _) ?_ (letter (by omega)) fun t4 s4 F4 => ?_)))) ))))
    · simp; omega
    refine args_cons (Tuple_ (args_cons (r_nm F4 rfl (args_cons (wpAny_Constant_str (args_nil (r_newTuple (F4.toks _) (by simp) fun lt s5 hlt1 hlt2 F5 => args_nil (r_newList F5 (by simp) fun ll s6 hll1 hll2 F6 => ?_))))))))
    refine wpAny_BinOp (wpAny_BinOp (r_nm F6 rfl (r_cell F6 rfl (((cK'.mono fun o e => Ext0.new hlt1 _ o e)).mono fun o e => Ext0.new hll1 _ o e) (n_add F6 fun t7 s7 F7 => n_const (n := 3) F7 fun t8 s8 F8 => n_mod F8 (by decide) fun t9 s9 F9 => ?_))))
    have hx : Ext0 D' (((D'.put lt (tupO [Value.int (i : Nat) tv, Value.str "N" s4.toks].toArray 0)).put ll (lstO [Value.int (i : Nat) tv, Value.str ⟨#[65 + i]⟩ t4, Value.ref lt].toArray 0))) := (Ext0.new hlt1).trans (.new hll1)
    have hkey : ∃ v, [Value.int (i : Nat) tv, Value.str ⟨#[65 + i]⟩ t4, Value.ref lt][((i + kd) % 3)]? = some v ∧ KeyL prog w (((D'.put lt (tupO [Value.int (i : Nat) tv, Value.str "N" s4.toks].toArray 0)).put ll (lstO [Value.int (i : Nat) tv, Value.str ⟨#[65 + i]⟩ t4, Value.ref lt].toArray 0))) (nameK kd i) v := by
      have h3 : (i + kd) % 3 < 3 := Nat.mod_lt _ (by decide)
      unfold nameK
      rcases (by omega : (i + kd) % 3 = 0 ∨ (i + kd) % 3 = 1 ∨ (i + kd) % 3 = 2) with e | e | e
      · rw [e]; exact ⟨_, rfl, by simp [KeyL, atomIs, Value.isInt]⟩
      · rw [e]; exact ⟨_, rfl, by simp [KeyL, atomIs, Value.isStrOf]⟩
      · rw [e]
        refine ⟨_, rfl, lt, tupO [Value.int (i : Nat) tv, Value.str "N" s4.toks].toArray 0, [Value.int (i : Nat) tv, Value.str "N" s4.toks].toArray, 0, rfl, ?_, rfl, rfl, ?_⟩
        · exact Ext0.new hll1 _ _ Led.put_same
        · exact .cons (by simp [atomKind, atomIs, Value.isInt]) (.cons (by simp [atomKind, atomIs, Value.isStrOf]) .nil)
    obtain ⟨v, hv, hK⟩ := hkey
    refine r_itemL F9 LV.put_same (by omega) (by omega) (v := v) (by rw [Int.toNat_natCast]; exact hv) ?_
    refine ⟨_, _, F9, hx, ?_⟩
    rw [nmsOf_take_succ hi]
    exact (KeysL.mono hx.t hI).append ⟨hK, trivial⟩
  · intro lN vN D' s' F' hx hn1 hn2 hLv hI hle
    refine hQ lN vN D' s' (F'.less (sub_put1 (fun _ h => h) (all_ne rfl))) hx hn2 hn1 hLv ?_
    rw [List.take_of_length_le (by rw [nmsOf_len]; exact Nat.le_refl _)] at hI
    exact hI
end
end Mine
end

section
open PySem PySem.W PyProof.Rows
set_option Elab.async false
set_option maxRecDepth 100000
namespace Mine
abbrev dV1 (lN lT : Addr) (cn hd : Nat) (t1 t2 : Tok) : Vars := [("names", .ref lN), ("count", .int (cn : Nat) t1), ("head", .int (hd : Nat) t2), ("tape", .ref lT)]
section
variable {prog : Program} {w : World} {h₁ : Heap} {mg mb : Str → Option Value}
theorem drawn_edges {a : Addr} {cd : Value} {A : Around} {E : Value → Shared → Prop} {D : Led} {s s1 : Shared} {D1 : Led} {Q : Flow → Shared → Prop} {lT lN : Addr} {cn hd : Nat} {t1 t2 : Tok} {nms : List Key} {vN : List Value} (hR : Room A 1)
    (F1 : At (hLed h₁) [] D s s.heap.objs.size (dV1 lN lT cn hd t1 t2) D1 s1) (hN : LV D1 lN vN) (hK : KeysL prog w D1 nms vN) (hnd : nms.Nodup) (hn7 : nms.length ≤ 7)
    (hQ : ∀ dE xE D' s', At (hLed h₁) [] D s s.heap.objs.size (("edges", .ref dE) :: dV1 lN lT cn hd t1 t2) D' s' → Ext0 D1 D' → s.heap.get? dE = none → DK prog w D' dE xE → DI nms (fun _ v D => ∃ a, v = .ref a ∧ LV D a [] ∧ D1 a = none ∧ s.heap.get? a = none) True D' xE →
      wpAny (model prog w) A (execs ((fBody (fnAt 4)).drop 6) (dEnv s.heap.objs.size a cd)) Q E s') :
    wpAny (model prog w) A (execs ((fBody (fnAt 4)).drop 5) (dEnv s.heap.objs.size a cd)) Q E s1 := by
  refine wpAny_execs_cons (x_dcomp F1 (cl := []) (n := vN.length) (P := fun i v _ => vN[i]? = some v) (fun i D xs => DI (nms.take i) (fun _ v D => ∃ a, v = .ref a ∧ LV D a [] ∧ D1 a = none ∧ s1.heap.get? a = none) True D xs) ?_ hR.hand (hR.u (by decide)) (by have := hK.length; omega) (fun _ _ _ _ h x => x.mono fun k v ⟨a, e, r, q⟩ => ⟨a, e, h.lv r, q⟩) rfl rfl rfl rfl)
  refine r_nm F1 rfl ⟨D1, s1, F1, iterGives_list F1.fits hN, .nil, ?_, ?_⟩
  · intro C i v xs vars' D' s' hi FC hv hI hle E'
    obtain ⟨k, hk, hkv⟩ := hK.getV hv
    have hkv' : KeyL prog w D' k v := hkv.mono FC.tr.ext0.t
    refine wpAny_assign_Name (r_st FC fun s3 F3 => ?_)
    refine wpAny_pure ?_
    refine ite_t rfl ?_
    refine r_nm F3 rfl (List_ (args_nil (r_newList F3 (by simp) fun r s4 hr1 hr2 F4 => ?_)))
    have hx : Ext0 D' (D'.put r (lstO ([] : List Value).toArray 0)) := .new hr1
    have hr3 : D1 r = none := by
      cases e : D1 r with
      | none => rfl
      | some o => have := FC.tr.ext0 r o e; rw [hr1] at this; cases this
    refine ⟨_, _, k, F4, hx, hkv'.mono hx.t, ?_⟩
    show DI (nms.take (i + 1)) _ _ _ _
    rw [take_succ hk]
    refine DI.snoc (hI.mono fun k v ⟨a, e, r, q⟩ => ⟨a, e, r.mono fun o e => hx _ o e, q⟩) (mem_take_nodup hnd hk) ⟨r, rfl, LV.put_same, hr3, hr2⟩ fun _ k' hk' e => ?_
    obtain ⟨v', e', a', rfl, hl', _⟩ := hI.vals k' hk'
    rw [e'] at e
    injection e with e; injection e with e; subst e
    obtain ⟨o, q⟩ := hl'.some
    rw [hr1] at q; cases q
  · intro dE xE D' s' F' hx hn1 hn2 hDK hI hle
    have : nms.take vN.length = nms := List.take_of_length_le (by have := hK.length; omega)
    rw [this] at hI
    refine hQ dE xE D' s' (F'.less (sub_put1 (fun _ h => h) (all_ne rfl))) hx hn2 hDK (hI.mono fun k v ⟨a, e, r, q1, q2⟩ => ⟨a, e, r, q1, ?_⟩)
    cases e : s.heap.get? a with
    | none => rfl
    | some o => obtain ⟨o', e'⟩ := F1.tr.alive a o e; rw [q2] at e'; cases e'
theorem drawn_values (G : Glo h₁ mg mb) {a : Addr} {cd : Value} {A : Around} {E : Value → Shared → Prop} {D : Led} {s s1 : Shared} {D1 : Led} {Q : Flow → Shared → Prop} {lT lN dE : Addr} {cn hd : Nat} {t1 t2 : Tok} {nms : List Key} {vN : List Value} (hR : Room A 1)
    (F1 : At (hLed h₁) [] D s s.heap.objs.size (("edges", .ref dE) :: dV1 lN lT cn hd t1 t2) D1 s1) (hN : LV D1 lN vN) (hK : KeysL prog w D1 nms vN) (hnd : nms.Nodup) (hn7 : nms.length ≤ 7)
    (hQ : ∀ dV xV D' s', At (hLed h₁) [] D s s.heap.objs.size (("values", .ref dV) :: ("edges", .ref dE) :: dV1 lN lT cn hd t1 t2) D' s' → Ext0 D1 D' → s.heap.get? dV = none → D1 dV = none → DK prog w D' dV xV → DI nms (fun _ v D => ∃ a i t, v = .ref a ∧ LV D a [.int ((10 + i : Nat) : Int) t] ∧ i < 7 ∧ D1 a = none ∧ s.heap.get? a = none) True D' xV →
      wpAny (model prog w) A (execs ((fBody (fnAt 4)).drop 7) (dEnv s.heap.objs.size a cd)) Q E s') :
    wpAny (model prog w) A (execs ((fBody (fnAt 4)).drop 6) (dEnv s.heap.objs.size a cd)) Q E s1 := by
  refine wpAny_execs_cons (x_dcomp F1 (cl := []) (n := vN.length) (P := fun i v D => ∃ T t x, v = .ref T ∧ vN[i]? = some x ∧ D T = some (tupO #[.int i t, x] 0)) (fun i D xs => DI (nms.take i) (fun _ v D => ∃ a i t, v = .ref a ∧ LV D a [.int ((10 + i : Nat) : Int) t] ∧ i < 7 ∧ D1 a = none ∧ s1.heap.get? a = none) True D xs) ?_ hR.hand (hR.u (by decide)) (by have := hK.length; omega) (fun _ _ _ _ h x => x.mono fun k v ⟨a, i, t, e, r, q⟩ => ⟨a, i, t, e, h.lv r, q⟩) rfl rfl rfl rfl)
  refine e_type1 "enumerate" (r_blt F1 G (by simp) boot_enumerate ⟨rfl, r_nm F1 rfl (r_enum F1 hN fun en s2 hg => ?_)⟩)
  refine ⟨D1, s1, F1, hg _ _ _, .nil, ?_, ?_⟩
  · rintro C i v xs vars' D' s' hi FC ⟨T, tt, x, rfl, hv, hT⟩ hI hle E'
    obtain ⟨k, hk, hkv⟩ := hK.getV hv
    have hi7 : i < 7 := by have := hK.length; omega
    have hkv' : KeyL prog w D' k x := hkv.mono FC.tr.ext0.t
    refine r_asg2 FC hR.hand hT fun s3 F3 => ?_
    refine wpAny_pure ?_
    refine ite_t rfl ?_
    refine r_nm F3 rfl (List_ (args_cons (wpAny_BinOp (n_const (n := 10) F3 fun t4 s4 F4 => r_nm F4 rfl (n_add F4 fun t5 s5 F5 => args_nil (r_newList F5 (by simp) fun r s6 hr1 hr2 F6 => ?_))))))
    have hx : Ext0 D' (D'.put r (lstO [Value.int ((10 + i : Nat) : Int) t5].toArray 0)) := .new hr1
    have hr3 : D1 r = none := by
      cases e : D1 r with
      | none => rfl
      | some o => have := FC.tr.ext0 r o e; rw [hr1] at this; cases this
    refine ⟨_, _, k, F6, hx, hkv'.mono hx.t, ?_⟩
    show DI (nms.take (i + 1)) _ _ _ _
    rw [take_succ hk]
    refine DI.snoc (hI.mono fun k v ⟨a, i, t, e, r, q⟩ => ⟨a, i, t, e, r.mono fun o e => hx _ o e, q⟩) (mem_take_nodup hnd hk) ⟨r, i, t5, rfl, LV.put_same, hi7, hr3, hr2⟩ fun _ k' hk' e => ?_
    obtain ⟨v', e', a', i', t', rfl, hl', _⟩ := hI.vals k' hk'
    rw [e'] at e
    injection e with e; injection e with e; subst e
    obtain ⟨o, q⟩ := hl'.some
    rw [hr1] at q; cases q
  · intro dV xV D' s' F' hx hn1 hn2 hDK hI hle
    have : nms.take vN.length = nms := List.take_of_length_le (by have := hK.length; omega)
    rw [this] at hI
    refine hQ dV xV D' s' (F'.less (sub_put1 (fun _ h => h) (all_ne rfl))) hx hn2 hn1 hDK (hI.mono fun k v ⟨a, i, t, e, r, q0, q1, q2⟩ => ⟨a, i, t, e, r, q0, q1, ?_⟩)
    cases e : s.heap.get? a with
    | none => rfl
    | some o => obtain ⟨o', e'⟩ := F1.tr.alive a o e; rw [q2] at e'; cases e'
end
end Mine
end

section
set_option linter.unusedSectionVars false
namespace Mine
section
variable {V : Type} [DecidableEq V]
/-! once -/
theorem onceP_append (a b : List Int) : onceP (a ++ b) = mergeL (onceP a) b := mergeL_append _ _ _
theorem mem_onceP {a : Int} {l : List Int} : a ∈ onceP l ↔ a ∈ l := by unfold onceP; rw [mem_mergeL]; simp
theorem onceP_congr {a b : List Int} (h : onceP a = onceP b) (c : List Int) : onceP (a ++ c) = onceP (b ++ c) := by rw [onceP_append, onceP_append, h]
theorem onceP_mem {a b : List Int} (h : onceP a = onceP b) {x : Int} : x ∈ a ↔ x ∈ b := by rw [← mem_onceP, h, mem_onceP]
theorem onceP_sub {a b : List Int} (h : ∀ x ∈ b, x ∈ a) : onceP (a ++ b) = onceP a := by
  rw [onceP_append]; exact mergeL_sub fun x hx => mem_onceP.mpr (h x hx)
theorem nodup_mergeL : ∀ {l c : List Int}, c.Nodup → (mergeL c l).Nodup
  | [], _, h => h
  | a :: l, c, h => by
    have : mergeL c (a :: l) = mergeL (if a ∈ c then c else c ++ [a]) l := rfl
    rw [this]
    apply nodup_mergeL
    split
    · exact h
    · rename_i hn
      rw [List.nodup_append]
      exact ⟨h, by simp, fun x hx y hy => by rw [List.mem_singleton] at hy; subst hy; exact fun e => hn (e ▸ hx)⟩
theorem nodup_onceP (l : List Int) : (onceP l).Nodup := nodup_mergeL List.nodup_nil
theorem mergeL_once (c : List Int) : ∀ (l : List Int), mergeL c (onceP l) = mergeL c l := by
  have key : ∀ (l acc : List Int), mergeL c (mergeL acc l) = mergeL (mergeL c acc) l := by
    intro l
    induction l with
    | nil => intro acc; rfl
    | cons a l ih =>
      intro acc
      have e1 : mergeL acc (a :: l) = mergeL (if a ∈ acc then acc else acc ++ [a]) l := rfl
      have e2 : mergeL (mergeL c acc) (a :: l) = mergeL (if a ∈ mergeL c acc then mergeL c acc else mergeL c acc ++ [a]) l := rfl
      rw [e1, e2, ih]
      congr 1
      by_cases h : a ∈ acc
      · rw [if_pos h, if_pos (mem_mergeL.mpr (.inr h))]
      · rw [if_neg h, mergeL_append, mergeL_one]
  intro l
  have := key l []
  exact this
/-- merging into the list, seen from behind a prefix -/
theorem onceP_merge (p c l : List Int) : onceP (p ++ mergeL c l) = onceP (p ++ c ++ l) := by
  have h1 : onceP (p ++ mergeL c l) = mergeL (onceP p) (mergeL c l) := onceP_append _ _
  have key : ∀ (q l c : List Int), mergeL q (mergeL c l) = mergeL (mergeL q c) l := by
    intro q l
    induction l with
    | nil => intro c; rfl
    | cons a l ih =>
      intro c
      have e1 : mergeL c (a :: l) = mergeL (if a ∈ c then c else c ++ [a]) l := rfl
      have e2 : mergeL (mergeL q c) (a :: l) = mergeL (if a ∈ mergeL q c then mergeL q c else mergeL q c ++ [a]) l := rfl
      rw [e1, e2, ih]
      congr 1
      by_cases h : a ∈ c
      · rw [if_pos h, if_pos (mem_mergeL.mpr (.inr h))]
      · rw [if_neg h, mergeL_append, mergeL_one]
  rw [h1, key, onceP_append, onceP_append]
theorem onceP_nodup {l : List Int} (h : l.Nodup) : onceP l = l := by
  have key : ∀ (l c : List Int), (c ++ l).Nodup → mergeL c l = c ++ l := by
    intro l
    induction l with
    | nil => intro c _; simp [mergeL]
    | cons a l ih =>
      intro c hc
      have e1 : mergeL c (a :: l) = mergeL (if a ∈ c then c else c ++ [a]) l := rfl
      have hn : a ∉ c := fun h => by
        rw [List.nodup_append] at hc
        exact hc.2.2 a h a (by simp) rfl
      rw [e1, if_neg hn, ih _ (by simpa using hc)]
      simp
  exact key l [] (by simpa using h)
theorem onceP_onceR (p l : List Int) : onceP (p ++ onceP l) = onceP (p ++ l) := by rw [onceP_append, mergeL_once, ← onceP_append]
/-! ways -/
inductive Rch (E : V → V → Prop) : V → V → Prop
  | refl (x : V) : Rch E x x
  | tail {x y z : V} : Rch E x y → E y z → Rch E x z
theorem Rch.trans {E : V → V → Prop} {x y z : V} (a : Rch E x y) (b : Rch E y z) : Rch E x z := by
  induction b with
  | refl => exact a
  | tail _ e ih => exact .tail ih e
theorem Rch.one {E : V → V → Prop} {x y : V} (e : E x y) : Rch E x y := .tail (.refl x) e
theorem Rch.closed {E : V → V → Prop} {S : V → Prop} (hS : ∀ u v, S u → E u v → S v) {x y : V} (h : Rch E x y) (hx : S x) : S y := by
  induction h with
  | refl => exact hx
  | tail _ e ih => exact hS _ _ ih e
set_option genInjectivity false in
set_option genSizeOf false in
structure Gr (V : Type) where
  Eg : V → List V
  Vl : V → List Int
  dn : V → Option (List Int)
def Gr.E (g : Gr V) (x y : V) : Prop := y ∈ g.Eg x ∧ g.dn y = none
def Gr.R (g : Gr V) : V → V → Prop := Rch g.E
def Gr.Mu (g : Gr V) (x y : V) : Prop := g.R x y ∧ g.R y x
theorem Gr.R.nt {g : Gr V} {x y : V} (h : g.R x y) (hx : g.dn x = none) : g.dn y = none := Rch.closed (S := fun v => g.dn v = none) (fun _ _ _ e => e.2) h hx
theorem Gr.Mu.refl {g : Gr V} (x : V) : g.Mu x x := ⟨.refl x, .refl x⟩
theorem Gr.Mu.symm {g : Gr V} {x y : V} (h : g.Mu x y) : g.Mu y x := ⟨h.2, h.1⟩
theorem Gr.Mu.trans {g : Gr V} {x y z : V} (h : g.Mu x y) (h' : g.Mu y z) : g.Mu x z := ⟨Rch.trans h.1 h'.1, Rch.trans h'.2 h.2⟩
/-! said, as a relation -/
def pl (sm : V → V → Bool) (rt : V → V) (x y : V) : V := if sm x y then y else rt y
inductive SaidE (g : Gr V) (sm : V → V → Bool) (rt : V → V) : V → List V → List Int → List V → List Int → List V → Prop
  | nil (x : V) (w : List Int) (m : List V) : SaidE g sm rt x [] w m w m
  | term {x y : V} {es : List V} {l w w' : List Int} {m m' : List V} : g.dn y = some l → SaidE g sm rt x es (w ++ l) m w' m' → SaidE g sm rt x (y :: es) w m w' m'
  | skip {x y : V} {es : List V} {w w' : List Int} {m m' : List V} : g.dn y = none → pl sm rt x y ∈ m → SaidE g sm rt x es w m w' m' → SaidE g sm rt x (y :: es) w m w' m'
  | go {x y : V} {es : List V} {w w1 w' : List Int} {m m1 m' : List V} : g.dn y = none → pl sm rt x y ∉ m →
      SaidE g sm rt (pl sm rt x y) (g.Eg (pl sm rt x y)) (g.Vl (pl sm rt x y)) (m ++ [pl sm rt x y]) w1 m1 → SaidE g sm rt x es (w ++ w1) m1 w' m' → SaidE g sm rt x (y :: es) w m w' m'
def Said (g : Gr V) (sm : V → V → Bool) (rt : V → V) (x : V) (m : List V) (w' : List Int) (m' : List V) : Prop := SaidE g sm rt x (g.Eg x) (g.Vl x) (m ++ [x]) w' m'
variable {g : Gr V} {sm : V → V → Bool} {rt : V → V}
def Out (g : Gr V) (v : V) (a : Int) : Prop := a ∈ g.Vl v ∨ ∃ y ∈ g.Eg v, ∃ l, g.dn y = some l ∧ a ∈ l
def PS (g : Gr V) (sm : V → V → Bool) (rt : V → V) (v p : V) : Prop := ∃ y ∈ g.Eg v, g.dn y = none ∧ p = pl sm rt v y
theorem SaidE.pre {x : V} {es : List V} {w w' : List Int} {m m' : List V} (h : SaidE g sm rt x es w m w' m') : (∃ w2, w' = w ++ w2) ∧ ∃ n, m' = m ++ n := by
  induction h with
  | nil => exact ⟨⟨[], by simp⟩, [], by simp⟩
  | term _ _ ih => obtain ⟨⟨w2, e⟩, n, e'⟩ := ih; exact ⟨⟨_, by rw [e, List.append_assoc]⟩, n, e'⟩
  | skip _ _ _ ih => exact ih
  | go _ _ _ _ ih1 ih2 =>
    obtain ⟨_, n1, e1⟩ := ih1
    obtain ⟨⟨w2, e⟩, n, e'⟩ := ih2
    exact ⟨⟨_, by rw [e, List.append_assoc]⟩, _, by rw [e', e1, List.append_assoc, List.append_assoc]⟩
theorem SaidE.subM {x : V} {es : List V} {w w' : List Int} {m m' : List V} (h : SaidE g sm rt x es w m w' m') {v : V} (hv : v ∈ m) : v ∈ m' := by
  obtain ⟨_, n, e⟩ := h.pre; rw [e]; exact List.mem_append_left _ hv
theorem SaidE.subW {x : V} {es : List V} {w w' : List Int} {m m' : List V} (h : SaidE g sm rt x es w m w' m') {a : Int} (hv : a ∈ w) : a ∈ w' := by
  obtain ⟨⟨n, e⟩, _⟩ := h.pre; rw [e]; exact List.mem_append_left _ hv
/-- a depth first walk is complete -/
theorem SaidE.full {x : V} {es : List V} {w w' : List Int} {m m' : List V} (h : SaidE g sm rt x es w m w' m') :
    (∀ y ∈ es, g.dn y = none → pl sm rt x y ∈ m') ∧ (∀ y ∈ es, ∀ l, g.dn y = some l → ∀ a ∈ l, a ∈ w') ∧ (∀ v ∈ m', v ∉ m → (∀ p, PS g sm rt v p → p ∈ m') ∧ ∀ a, Out g v a → a ∈ w') ∧
    (∀ S : V → Prop, (∀ u p, S u → PS g sm rt u p → S p) → (∀ y ∈ es, g.dn y = none → S (pl sm rt x y)) → ∀ v ∈ m', v ∉ m → S v) ∧
    (∀ a ∈ w', a ∈ w ∨ (∃ v ∈ m', v ∉ m ∧ Out g v a) ∨ ∃ y ∈ es, ∃ l, g.dn y = some l ∧ a ∈ l) := by
  induction h with
  | nil => exact ⟨fun _ h => (by simp at h), fun _ h => (by simp at h), fun v h h' => absurd h h', fun S _ _ v h h' => absurd h h', fun a h => .inl h⟩
  | @term x y es l w w' m m' hd h1 ih =>
    obtain ⟨a1, a2, a3, a4, a5⟩ := ih
    refine ⟨fun z hz hn => ?_, fun z hz l' hl' a ha => ?_, a3, fun S hS hE => a4 S hS fun z hz => hE z (List.mem_cons_of_mem _ hz), fun a ha => ?_⟩
    · rcases List.mem_cons.mp hz with rfl | hz
      · rw [hd] at hn; cases hn
      · exact a1 z hz hn
    · rcases List.mem_cons.mp hz with rfl | hz
      · rw [hd] at hl'; injection hl' with e; subst e; exact h1.subW (List.mem_append_right _ ha)
      · exact a2 z hz l' hl' a ha
    · rcases a5 a ha with h | h | ⟨z, hz, h⟩
      · rcases List.mem_append.mp h with h | h
        · exact .inl h
        · exact .inr (.inr ⟨y, by simp, l, hd, h⟩)
      · exact .inr (.inl h)
      · exact .inr (.inr ⟨z, List.mem_cons_of_mem _ hz, h⟩)
  | @skip x y es w w' m m' hd hm h1 ih =>
    obtain ⟨a1, a2, a3, a4, a5⟩ := ih
    refine ⟨fun z hz hn => ?_, fun z hz l' hl' a ha => ?_, a3, fun S hS hE => a4 S hS fun z hz => hE z (List.mem_cons_of_mem _ hz), fun a ha => ?_⟩
    · rcases List.mem_cons.mp hz with rfl | hz
      · exact h1.subM hm
      · exact a1 z hz hn
    · rcases List.mem_cons.mp hz with rfl | hz
      · rw [hd] at hl'; cases hl'
      · exact a2 z hz l' hl' a ha
    · rcases a5 a ha with h | h | ⟨z, hz, h⟩
      · exact .inl h
      · exact .inr (.inl h)
      · exact .inr (.inr ⟨z, List.mem_cons_of_mem _ hz, h⟩)
  | @go x y es w w1 w' m m1 m' hd hm h1 h2 ih1 ih2 =>
    obtain ⟨a1, a2, a3, a4, a5⟩ := ih1
    obtain ⟨b1, b2, b3, b4, b5⟩ := ih2
    have hp : pl sm rt x y ∈ m1 := h1.subM (by simp)
    have sub1 : ∀ v ∈ m1, v ∈ m' := fun v hv => h2.subM hv
    have subw : ∀ a ∈ w1, a ∈ w' := fun a ha => h2.subW (List.mem_append_right _ ha)
    have outp : ∀ a, Out g (pl sm rt x y) a → a ∈ w' := fun a ha => by
      rcases ha with ha | ⟨z, hz, l, hl, ha⟩
      · exact subw a (h1.subW ha)
      · exact subw a (a2 z hz l hl a ha)
    refine ⟨fun z hz hn => ?_, fun z hz l' hl' a ha => ?_, fun v hv hvm => ?_, fun S hS hE v hv hvm => ?_, fun a ha => ?_⟩
    · rcases List.mem_cons.mp hz with rfl | hz
      · exact sub1 _ hp
      · exact b1 z hz hn
    · rcases List.mem_cons.mp hz with rfl | hz
      · rw [hd] at hl'; cases hl'
      · exact b2 z hz l' hl' a ha
    · by_cases h : v ∈ m1
      · by_cases e : v = pl sm rt x y
        · subst e
          exact ⟨fun p ⟨z, hz, hn, hpe⟩ => hpe ▸ sub1 _ (a1 z hz hn), outp⟩
        · have := a3 v h (by simp [hvm, e])
          exact ⟨fun p hp => sub1 _ (this.1 p hp), fun a ha => subw a (this.2 a ha)⟩
      · exact b3 v hv h
    · have hSp : S (pl sm rt x y) := hE y (by simp) hd
      by_cases h : v ∈ m1
      · by_cases e : v = pl sm rt x y
        · subst e; exact hSp
        · exact a4 S hS (fun z hz hn => hS _ _ hSp ⟨z, hz, hn, rfl⟩) v h (by simp [hvm, e])
      · exact b4 S hS (fun z hz => hE z (List.mem_cons_of_mem _ hz)) v hv h
    · have fromp : ∀ a, Out g (pl sm rt x y) a → ∃ v ∈ m', v ∉ m ∧ Out g v a := fun a ha => ⟨_, sub1 _ hp, hm, ha⟩
      rcases b5 a ha with h | ⟨v, hv, hvm, ho⟩ | ⟨z, hz, h⟩
      · rcases List.mem_append.mp h with h | h
        · exact .inl h
        · rcases a5 a h with h | ⟨v, hv, hvm, ho⟩ | h
          · exact .inr (.inl (fromp a (.inl h)))
          · exact .inr (.inl ⟨v, sub1 v hv, fun q => hvm (by simp [q]), ho⟩)
          · exact .inr (.inl (fromp a (.inr h)))
      · exact .inr (.inl ⟨v, hv, fun q => hvm (h1.subM (by simp [q])), ho⟩)
      · exact .inr (.inr ⟨z, List.mem_cons_of_mem _ hz, h⟩)
/-- two walks, one of which has met Z more, whose words are said -/
theorem SaidE.cmp {Z S : V → Prop} (hZ : ∀ u p, Z u → PS g sm rt u p → Z p) (hS : ∀ u p, S u → PS g sm rt u p → S p) {x : V} {es : List V} {w1 w1' : List Int} {m1 m1' : List V} (h : SaidE g sm rt x es w1 m1 w1' m1') :
    (∀ y ∈ es, g.dn y = none → S (pl sm rt x y)) → ∀ {P1 P2 w2 w2' : List Int} {m2 m2' : List V}, SaidE g sm rt x es w2 m2 w2' m2' → (∀ v, S v → (v ∈ m1 ↔ v ∈ m2 ∨ Z v)) → (∀ v, Z v → ∀ a, Out g v a → a ∈ P1) → onceP (P1 ++ w1) = onceP (P2 ++ w2) →
      onceP (P1 ++ w1') = onceP (P2 ++ w2') ∧ ∀ v, S v → (v ∈ m1' ↔ v ∈ m2' ∨ Z v) := by
  induction h with
  | nil =>
    intro _ P1 P2 w2 w2' m2 m2' h2 hm _ he
    cases h2
    exact ⟨he, hm⟩
  | @term x y es l w w' m m' hd h1 ih =>
    intro hes P1 P2 w2 w2' m2 m2' h2 hm hP he
    have hes' : ∀ y ∈ es, g.dn y = none → S (pl sm rt x y) := fun z hz => hes z (List.mem_cons_of_mem _ hz)
    cases h2 with
    | @term _ _ _ l2 _ _ _ _ hd2 h2 =>
      rw [hd] at hd2; injection hd2 with e; subst e
      exact ih hes' h2 hm hP (by rw [← List.append_assoc, ← List.append_assoc]; exact onceP_congr he _)
    | skip hd2 => rw [hd] at hd2; cases hd2
    | go hd2 => rw [hd] at hd2; cases hd2
  | @skip x y es w w' m m' hd hpm h1 ih =>
    intro hes P1 P2 w2 w2' m2 m2' h2 hm hP he
    have hes' : ∀ y ∈ es, g.dn y = none → S (pl sm rt x y) := fun z hz => hes z (List.mem_cons_of_mem _ hz)
    have hSp := hes y (by simp) hd
    cases h2 with
    | term hd2 => rw [hd] at hd2; cases hd2
    | skip _ _ h2 => exact ih hes' h2 hm hP he
    | @go _ _ _ _ wa _ _ ma _ hd2 hpm2 ha hb =>
      have hz : Z (pl sm rt x y) := ((hm _ hSp).mp hpm).resolve_left hpm2
      obtain ⟨_, f2, f3, f4, f5⟩ := ha.full
      have hnew : ∀ v ∈ ma, v ∉ m2 → Z v := fun v hv hvm => by
        by_cases e : v = pl sm rt x y
        · rw [e]; exact hz
        · exact f4 Z hZ (fun z hz' hn => hZ _ _ hz ⟨z, hz', hn, rfl⟩) v hv (by simp [hvm, e])
      have hwa : ∀ a ∈ wa, a ∈ P1 := fun a h => by
        rcases f5 a h with h | ⟨v, hv, hvm, ho⟩ | h
        · exact hP _ hz a (.inl h)
        · exact hP v (hnew v hv fun q => hvm (by simp [q])) a ho
        · exact hP _ hz a (.inr h)
      refine ih hes' hb (fun v hv => ?_) hP ?_
      · rw [hm v hv]
        constructor
        · rintro (h | h)
          · exact .inl (ha.subM (by simp [h]))
          · exact .inr h
        · rintro (h | h)
          · by_cases q : v ∈ m2
            · exact .inl q
            · exact .inr (hnew v h q)
          · exact .inr h
      · rw [he, ← List.append_assoc]
        exact (onceP_sub fun a h => (onceP_mem he).mp (List.mem_append_left _ (hwa a h))).symm
  | @go x y es w wa w' m ma m' hd hpm h1 h1' ih1 ih2 =>
    intro hes P1 P2 w2 w2' m2 m2' h2 hm hP he
    have hes' : ∀ y ∈ es, g.dn y = none → S (pl sm rt x y) := fun z hz => hes z (List.mem_cons_of_mem _ hz)
    have hSp := hes y (by simp) hd
    cases h2 with
    | term hd2 => rw [hd] at hd2; cases hd2
    | skip _ hpm2 => exact absurd ((hm _ hSp).mpr (.inl hpm2)) hpm
    | @go _ _ _ _ wb _ _ mb _ hd2 hpm2 ha hb =>
      have := ih1 (fun z hz hzn => hS _ _ hSp ⟨z, hz, hzn, rfl⟩) (P1 := P1 ++ w) (P2 := P2 ++ w2) ha (fun v hv => by simp only [List.mem_append, List.mem_singleton, hm v hv]; constructor <;> (rintro ((h | h) | h) <;> simp [h])) (fun v hv a h => List.mem_append_left _ (hP v hv a h)) (onceP_congr he _)
      refine ih2 hes' hb this.2 hP ?_
      rw [← List.append_assoc, ← List.append_assoc]; exact this.1
theorem SaidE.split {x : V} {es fs : List V} {w w' : List Int} {m m' : List V} (h : SaidE g sm rt x (es ++ fs) w m w' m') : ∃ w1 m1, SaidE g sm rt x es w m w1 m1 ∧ SaidE g sm rt x fs w1 m1 w' m' := by
  induction es generalizing w m with
  | nil => exact ⟨w, m, .nil _ _ _, h⟩
  | cons y es ih =>
    cases h with
    | term hd h => obtain ⟨w1, m1, a, b⟩ := ih h; exact ⟨w1, m1, .term hd a, b⟩
    | skip hd hm h => obtain ⟨w1, m1, a, b⟩ := ih h; exact ⟨w1, m1, .skip hd hm a, b⟩
    | go hd hm h' h => obtain ⟨w1, m1, a, b⟩ := ih h; exact ⟨w1, m1, .go hd hm h' a, b⟩
/-! from the function to the relation -/
theorem saidE_of {g : Gr V} {sm : V → V → Bool} {rt : V → V} : ∀ {k : Nat} {x : V} {met : List V} {w : List Int} {met' : List V}, saidP g.Eg g.Vl g.dn sm rt k x met = some (w, met') → Said g sm rt x met w met'
  | 0, _, _, _, _, h => by cases h
  | k + 1, x, met, w, met', h => by
    unfold saidP at h
    split at h
    · have loop : ∀ (es : List V) (wm : List Int × List V), es.foldlM (fun wm y => match g.dn y with
          | some l => if wm.1.length + l.length ≤ 100000 then some (wm.1 ++ l, wm.2) else none
          | none => if (if sm x y then y else rt y) ∈ wm.2 then some wm
            else (saidP g.Eg g.Vl g.dn sm rt k (if sm x y then y else rt y) wm.2) >>= fun wm' => if wm.1.length + wm'.1.length ≤ 100000 then some (wm.1 ++ wm'.1, wm'.2) else none) wm = some (w, met') → SaidE g sm rt x es wm.1 wm.2 w met' := by
        intro es
        induction es with
        | nil => intro wm e; have : wm = (w, met') := by simpa using e
                 subst this; exact .nil _ _ _
        | cons y es ih =>
          intro wm e
          rw [List.foldlM_cons] at e
          cases hd : g.dn y with
          | some l =>
            rw [hd] at e
            dsimp only at e
            split at e
            · exact .term hd (ih _ e)
            · cases e
          | none =>
            rw [hd] at e
            dsimp only at e
            by_cases hm : (if sm x y then y else rt y) ∈ wm.2
            · rw [if_pos hm] at e; exact .skip hd hm (ih _ e)
            · rw [if_neg hm] at e
              cases e1 : saidP g.Eg g.Vl g.dn sm rt k (if sm x y then y else rt y) wm.2 with
              | none => rw [e1] at e; cases e
              | some wm' =>
                rw [e1] at e
                change ((if wm.1.length + wm'.1.length ≤ 100000 then some (wm.1 ++ wm'.1, wm'.2) else none) >>= _) = _ at e
                split at e
                · exact .go hd hm (saidE_of (w := wm'.1) (met' := wm'.2) e1) (ih _ e)
                · cases e
      exact loop _ _ h
    · cases h
def tl (g : Gr V) (es : List V) : Nat := (es.map fun y => match g.dn y with | some l => l.length | none => 0).sum
/-- said ends -/
theorem saidP_total {g : Gr V} {sm : V → V → Bool} {rt : V → V} {nms : List V} {b : Nat} (hpl : ∀ x ∈ nms, ∀ y ∈ g.Eg x, g.dn y = none → pl sm rt x y ∈ nms) (hb : ∀ x ∈ nms, (g.Vl x).length + tl g (g.Eg x) ≤ b) (hz : nms.length * b ≤ 100000) (hn : nms.length ≤ 1000) (hv : ∀ x ∈ nms, (g.Vl x).length ≤ 1000)
    (hl : ∀ {l : List V}, l.Nodup → (∀ v ∈ l, v ∈ nms) → l.length ≤ nms.length) :
    ∀ {k : Nat} {x : V} {met : List V}, nms.length < k + met.length → met.Nodup → (∀ v ∈ met, v ∈ nms) → x ∈ nms → x ∉ met →
      ∃ w met', saidP g.Eg g.Vl g.dn sm rt k x met = some (w, met') ∧ met'.Nodup ∧ (∀ v ∈ met', v ∈ nms) ∧ met.length ≤ met'.length ∧ w.length + met.length * b ≤ met'.length * b
  | 0, x, met, hk, hnd, hs, hx, hxm => by
    have := hl hnd hs
    omega
  | k + 1, x, met, hk, hnd, hs, hx, hxm => by
    unfold saidP
    have hlm := hl hnd hs
    rw [if_pos ⟨by omega, hv x hx⟩]
    have loop : ∀ (es : List V), (∀ y ∈ es, y ∈ g.Eg x) → ∀ (wm : List Int × List V), wm.2.Nodup → (∀ v ∈ wm.2, v ∈ nms) → met.length < wm.2.length → wm.1.length + tl g es + met.length * b ≤ wm.2.length * b →
        ∃ w met', es.foldlM (fun wm y => match g.dn y with
          | some l => if wm.1.length + l.length ≤ 100000 then some (wm.1 ++ l, wm.2) else none
          | none => if (if sm x y then y else rt y) ∈ wm.2 then some wm
            else (saidP g.Eg g.Vl g.dn sm rt k (if sm x y then y else rt y) wm.2) >>= fun wm' => if wm.1.length + wm'.1.length ≤ 100000 then some (wm.1 ++ wm'.1, wm'.2) else none) wm = some (w, met') ∧ met'.Nodup ∧ (∀ v ∈ met', v ∈ nms) ∧ met.length ≤ met'.length ∧ w.length + met.length * b ≤ met'.length * b := by
      intro es
      induction es with
      | nil => intro _ wm h1 h2 h3 h4; exact ⟨wm.1, wm.2, rfl, h1, h2, by omega, by simp [tl] at h4; omega⟩
      | cons y es ih =>
        intro hes wm h1 h2 h3 h4
        rw [List.foldlM_cons]
        have hes' : ∀ z ∈ es, z ∈ g.Eg x := fun z hz => hes z (List.mem_cons_of_mem _ hz)
        have hlen := hl h1 h2
        have hmul : wm.2.length * b ≤ nms.length * b := Nat.mul_le_mul_right _ hlen
        cases hd : g.dn y with
        | some l =>
          have ht : tl g (y :: es) = l.length + tl g es := by simp [tl, hd]
          rw [ht] at h4
          dsimp only
          rw [if_pos (by omega)]
          exact ih hes' (wm.1 ++ l, wm.2) h1 h2 h3 (by simp only [List.length_append]; omega)
        | none =>
          have ht : tl g (y :: es) = tl g es := by simp [tl, hd]
          rw [ht] at h4
          dsimp only
          by_cases hm : (if sm x y then y else rt y) ∈ wm.2
          · rw [if_pos hm]; exact ih hes' wm h1 h2 h3 h4
          · rw [if_neg hm]
            obtain ⟨w1, m1, e1, q1, q2, q3, q4⟩ := saidP_total hpl hb hz hn hv hl (k := k) (x := if sm x y then y else rt y) (met := wm.2) (by omega) h1 h2 (hpl x hx y (hes y (by simp)) hd) hm
            rw [e1]
            have hlen1 := hl q1 q2
            have hmul1 : m1.length * b ≤ nms.length * b := Nat.mul_le_mul_right _ hlen1
            change ∃ w met', ((if wm.1.length + w1.length ≤ 100000 then some (wm.1 ++ w1, m1) else none) >>= _) = _ ∧ _
            rw [if_pos (by omega)]
            exact ih hes' (wm.1 ++ w1, m1) q1 q2 (by show met.length < m1.length; omega) (by show (wm.1 ++ w1).length + _ + _ ≤ m1.length * b; rw [List.length_append]; omega)
    have hnd' : (met ++ [x]).Nodup := by
      rw [List.nodup_append]
      exact ⟨hnd, by simp, fun u hu v hv => by rw [List.mem_singleton] at hv; subst hv; exact fun e => hxm (e ▸ hu)⟩
    refine loop (g.Eg x) (fun _ h => h) (g.Vl x, met ++ [x]) hnd' (fun v hv => ?_) (by simp) ?_
    · rcases List.mem_append.mp hv with h | h
      · exact hs v h
      · rw [List.mem_singleton] at h; rw [h]; exact hx
    · have := hb x hx
      simp only [List.length_append, List.length_singleton, Nat.add_mul, Nat.one_mul]; omega
/-- walked -/
theorem walkP_ok {g : Gr V} {nms : List V} (hE : ∀ x ∈ nms, ∀ y ∈ g.Eg x, y ∈ nms) (hn : nms.length ≤ 1000) (hl : ∀ {l : List V}, l.Nodup → (∀ v ∈ l, v ∈ nms) → l.length ≤ nms.length) :
    ∀ {k : Nat} {x : V} {met : List V}, nms.length < k + met.length → met.Nodup → (∀ v ∈ met, v ∈ nms) → x ∈ nms →
      ∃ new, walkP g.Eg (fun k => (g.dn k).isSome) k x met = some (met ++ new) ∧ (met ++ new).Nodup ∧ (∀ v ∈ new, v ∈ nms) ∧ (g.dn x = none → x ∈ met ++ new) ∧
        ∀ v ∈ new, g.dn v = none ∧ g.R x v ∧ ∀ y ∈ g.Eg v, g.dn y = none → y ∈ met ++ new
  | 0, x, met, hk, hnd, hs, hx => by
    have := hl hnd hs
    omega
  | k + 1, x, met, hk, hnd, hs, hx => by
    unfold walkP
    by_cases hd : (g.dn x).isSome = true ∨ x ∈ met
    · rw [if_pos hd]
      refine ⟨[], by simp, by simpa using hnd, by simp, fun h => ?_, by simp⟩
      rcases hd with hd | hd
      · rw [h] at hd; cases hd
      · simpa using hd
    · rw [if_neg hd]
      rw [not_or] at hd
      have hdx : g.dn x = none := by cases e : g.dn x with
        | none => rfl
        | some l => rw [e] at hd; exact absurd rfl hd.1
      have hlm := hl hnd hs
      rw [if_pos (by omega)]
      have hnd' : (met ++ [x]).Nodup := by
        rw [List.nodup_append]
        exact ⟨hnd, by simp, fun u hu v hv => by rw [List.mem_singleton] at hv; subst hv; exact fun e => hd.2 (e ▸ hu)⟩
      have loop : ∀ (es : List V), (∀ y ∈ es, y ∈ g.Eg x) → ∀ (m : List V), m.Nodup → (∀ v ∈ m, v ∈ nms) → met.length < m.length →
          ∃ new, es.foldlM (fun m y => walkP g.Eg (fun k => (g.dn k).isSome) k y m) m = some (m ++ new) ∧ (m ++ new).Nodup ∧ (∀ v ∈ new, v ∈ nms) ∧ (∀ y ∈ es, g.dn y = none → y ∈ m ++ new) ∧
            ∀ v ∈ new, g.dn v = none ∧ g.R x v ∧ ∀ y ∈ g.Eg v, g.dn y = none → y ∈ m ++ new := by
        intro es
        induction es with
        | nil => intro _ m h1 h2 h3; exact ⟨[], by simp, by simpa using h1, by simp, by simp, by simp⟩
        | cons y es ih =>
          intro hes m h1 h2 h3
          rw [List.foldlM_cons]
          have hyE := hes y (by simp)
          obtain ⟨n1, e1, q1, q2, q3, q4⟩ := walkP_ok hE hn hl (k := k) (x := y) (met := m) (by omega) h1 h2 (hE x hx y hyE)
          rw [e1]
          obtain ⟨n2, e2, r1, r2, r3, r4⟩ := ih (fun z hz => hes z (List.mem_cons_of_mem _ hz)) (m ++ n1) q1 (fun v hv => (List.mem_append.mp hv).elim (h2 v) (q2 v)) (by rw [List.length_append]; omega)
          refine ⟨n1 ++ n2, by rw [← List.append_assoc]; exact e2, by rw [← List.append_assoc]; exact r1, fun v hv => (List.mem_append.mp hv).elim (q2 v) (r2 v), fun z hz hzn => ?_, fun v hv => ?_⟩
          · rw [← List.append_assoc]
            rcases List.mem_cons.mp hz with rfl | hz
            · exact List.mem_append_left _ (q3 hzn)
            · exact r3 z hz hzn
          · rcases List.mem_append.mp hv with hv | hv
            · have := q4 v hv
              have hyn : g.dn y = none := by
                -- y is not a mark's end, for it has brought a name
                cases e : g.dn y with
                | none => rfl
                | some l =>
                  exfalso
                  cases k with
                  | zero => cases e1
                  | succ k =>
                    unfold walkP at e1
                    rw [if_pos (.inl (by simp [e]))] at e1
                    injection e1 with e1
                    have : n1 = [] := by simpa using e1
                    rw [this] at hv; cases hv
              exact ⟨this.1, Rch.trans (Rch.one ⟨hyE, hyn⟩) this.2.1, fun z hz hzn => by rw [← List.append_assoc]; exact List.mem_append_left _ (this.2.2 z hz hzn)⟩
            · have := r4 v hv
              exact ⟨this.1, this.2.1, fun z hz hzn => by rw [← List.append_assoc]; exact this.2.2 z hz hzn⟩
      obtain ⟨n, e, q1, q2, q3, q4⟩ := loop (g.Eg x) (fun _ h => h) (met ++ [x]) hnd' (fun v hv => (List.mem_append.mp hv).elim (hs v) fun h => by rw [List.mem_singleton] at h; rw [h]; exact hx) (by simp)
      refine ⟨x :: n, by rw [e]; simp, by simpa using q1, fun v hv => (List.mem_cons.mp hv).elim (fun h => h ▸ hx) (q2 v), fun _ => by simp, fun v hv => ?_⟩
      have ea : met ++ x :: n = met ++ [x] ++ n := by simp
      rw [ea]
      rcases List.mem_cons.mp hv with rfl | hv
      · exact ⟨hdx, .refl _, q3⟩
      · exact q4 v hv
end
end Mine
end

section
set_option linter.unusedSectionVars false
set_option linter.unusedVariables false
namespace Mine
section
variable {V : Type} [DecidableEq V]
theorem nd_len {α : Type} [DecidableEq α] : ∀ {l u : List α}, l.Nodup → (∀ x ∈ l, x ∈ u) → l.length ≤ u.length
  | [], _, _, _ => Nat.zero_le _
  | x :: l, u, hn, hs => by
    rw [List.nodup_cons] at hn
    have hx : x ∈ u := hs x List.mem_cons_self
    have : l.length ≤ (u.erase x).length := nd_len hn.2 fun y hy => by
      have hne : y ≠ x := fun e => hn.1 (e ▸ hy)
      exact (List.mem_erase_of_ne hne).mpr (hs y (List.mem_cons_of_mem _ hy))
    rw [List.length_erase_of_mem hx] at this
    have : 0 < u.length := List.length_pos_of_mem hx
    simp only [List.length_cons]; omega
def Good (l : List Int) : Prop := l.Nodup ∧ ∀ a ∈ l, 0 ≤ a ∧ a < 100
theorem Good.len {l : List Int} (h : Good l) : l.length ≤ 100 := by
  have := nd_len (u := (List.range 100).map Int.ofNat) h.1 fun a ha => by
    have := h.2 a ha
    rw [List.mem_map]
    exact ⟨a.toNat, by rw [List.mem_range]; omega, by show Int.ofNat a.toNat = a; rw [Int.ofNat_eq_natCast, Int.toNat_of_nonneg this.1]⟩
  simpa using this
theorem Good.merge {c l : List Int} (h : Good c) (h' : Good l) : Good (mergeL c l) := ⟨nodup_mergeL h.1, fun a ha => (mem_mergeL.mp ha).elim (h.2 a) (h'.2 a)⟩
theorem Good.nil : Good [] := ⟨List.nodup_nil, fun _ h => nomatch h⟩
set_option genInjectivity false in
set_option genSizeOf false in
structure PC (V : Type) where
  g : Gr V
  nms : List V
  M : Int
  dep : Nat
  bg0 : List V
  ak0 : List V
structure PC.Ok (c : PC V) : Prop where
  edge : ∀ x ∈ c.nms, ∀ y ∈ c.g.Eg x, y ∈ c.nms
  short : c.nms.length ≤ 100
  dep : c.dep ≤ 100
  M : (1000 : Int) < c.M
  vl : ∀ x ∈ c.nms, Good (c.g.Vl x)
  tl : ∀ x ∈ c.nms, ∀ l, c.g.dn x = some l → Good l
  bg : c.bg0.length ≤ 800
  ak : c.ak0.length ≤ 800
structure RtOK (c : PC V) (sm : V → V → Bool) (rt : V → V) (σ : TS V) (vis : List V) : Prop where
  smq : ∀ x ∈ vis, ∀ y ∈ vis, (sm x y = true ↔ c.g.Mu x y)
  rtq : ∀ v ∈ vis, v ∉ σ.stk → ∀ o, σ.own v = some o → rt v = o
  tot : ∀ z ∈ vis, ∃ w m, Said c.g sm rt z [] w m
structure SI (c : PC V) (σ : TS V) (vis : List V) : Prop where
  bg : σ.bg = c.bg0 ++ vis
  ak : σ.ak = c.ak0 ++ vis
  vnd : vis.Nodup
  vin : ∀ v ∈ vis, v ∈ c.nms ∧ c.g.dn v = none
  snd : σ.stk.Nodup
  sin : ∀ v ∈ σ.stk, v ∈ vis
  wh : ∀ v ∈ c.nms, c.g.dn v = none → v ∉ vis → σ.N v = 0 ∧ σ.own v = none
  op : ∀ i v, σ.stk[i]? = some v → σ.own v = some v ∧ Good (σ.C v) ∧ ∃ j z, j ≤ i ∧ σ.stk[j]? = some z ∧ σ.N v = ((c.dep + j + 1 : Nat) : Int) ∧ c.g.R v z
  cl : ∀ v ∈ vis, v ∉ σ.stk → σ.N v = c.M ∧ (∀ y ∈ c.g.Eg v, c.g.dn y = none → y ∈ vis ∧ y ∉ σ.stk) ∧ ∃ o, o ∈ vis ∧ o ∉ σ.stk ∧ σ.own v = some o ∧ σ.own o = some o ∧ c.g.Mu v o ∧ ∃ pre suf, vis = pre ++ o :: suf ∧ ∀ u ∈ pre, ¬ c.g.Mu u o
  clC : ∀ o ∈ vis, o ∉ σ.stk → σ.own o = some o → Good (σ.C o) ∧ ∀ sm rt, RtOK c sm rt σ vis → ∀ w m, Said c.g sm rt o [] w m → σ.C o = onceP w
  tm : ∀ v ∈ c.nms, ∀ l, c.g.dn v = some l → σ.N v = c.M ∧ contOf σ v = l ∧ ∀ o, σ.own v = some o → ∃ l', c.g.dn o = some l'
structure SLI (c : PC V) (x : V) (pr : List V) (e : Int) (σ0 : TS V) (vis0 n T : List V) (σ : TS V) : Prop where
  si : SI c σ (vis0 ++ x :: n)
  rn : ∀ v ∈ n, c.g.R x v
  st : σ.stk = σ0.stk ++ x :: T
  tn : ∀ t ∈ T, t ∈ n
  top : ∀ z ∈ σ.stk, c.g.R z x
  fr : ∀ v, v ≠ x → v ∉ n → σ.N v = σ0.N v ∧ σ.own v = σ0.own v ∧ σ.C v = σ0.C v
  ed : ∀ y ∈ pr, c.g.dn y = none → y ∈ vis0 ++ x :: n ∧ ∀ p, σ0.stk[p]? = some y → min (σ.N x) e ≤ ((c.dep + p + 1 : Nat) : Int)
  ed' : ∀ t ∈ T, ∀ y ∈ c.g.Eg t, c.g.dn y = none → y ∈ vis0 ++ x :: n ∧ ∀ p, σ0.stk[p]? = some y → min (σ.N x) e ≤ ((c.dep + p + 1 : Nat) : Int)
structure PoS (c : PC V) (x : V) (σ0 : TS V) (vis0 n : List V) (σ : TS V) : Prop where
  si : SI c σ (vis0 ++ x :: n)
  rn : ∀ v ∈ n, c.g.R x v
  st : σ.stk = σ0.stk ∨ ∃ T, σ.stk = σ0.stk ++ x :: T ∧ (∀ t ∈ T, t ∈ n) ∧ (∀ t ∈ T, c.g.R t x) ∧ (∃ (j : Nat) (z : V), σ0.stk[j]? = some z ∧ c.g.R x z) ∧
    ∀ t ∈ x :: T, ∀ y ∈ c.g.Eg t, c.g.dn y = none → y ∈ vis0 ++ x :: n ∧ ∀ p, σ0.stk[p]? = some y → σ.N x ≤ ((c.dep + p + 1 : Nat) : Int)
  fr : ∀ v, v ≠ x → v ∉ n → σ.N v = σ0.N v ∧ σ.own v = σ0.own v ∧ σ.C v = σ0.C v
  ox : σ.own x = some x
variable {c : PC V}
theorem SI.idx {σ : TS V} {vis : List V} (h : SI c σ vis) {v : V} (hv : v ∈ σ.stk) : ∃ i : Nat, σ.stk[i]? = some v := List.mem_iff_getElem?.mp hv
theorem SI.len (hc : c.Ok) {σ : TS V} {vis : List V} (h : SI c σ vis) : vis.length ≤ c.nms.length ∧ σ.stk.length ≤ vis.length :=
  ⟨nd_len h.vnd fun v hv => (h.vin v hv).1, nd_len h.snd h.sin⟩
/-- closed names lead to closed names -/
theorem SI.closed {σ : TS V} {vis : List V} (h : SI c σ vis) {v u : V} (hv : v ∈ vis) (hs : v ∉ σ.stk) (hr : c.g.R v u) : u ∈ vis ∧ u ∉ σ.stk :=
  Rch.closed (S := fun v => v ∈ vis ∧ v ∉ σ.stk) (fun a b ha e => (h.cl a ha.1 ha.2).2.1 b e.1 e.2) hr ⟨hv, hs⟩
theorem begin_sli (hc : c.Ok) {σ : TS V} {vis : List V} (h : SI c σ vis) {x : V} (hx : x ∈ c.nms) (hd : c.g.dn x = none) (hv : x ∉ vis) (htop : ∀ z ∈ σ.stk, c.g.R z x) :
    SLI c x [] ((beginP c.g.Vl c.dep x σ).N x) σ vis [] [] (beginP c.g.Vl c.dep x σ) := by
  have hxs : x ∉ σ.stk := fun q => hv (h.sin x q)
  have hlen := h.len hc
  have hsh := hc.short
  have hstk : (beginP c.g.Vl c.dep x σ).stk = σ.stk ++ [x] := rfl
  have hN : ∀ v, v ≠ x → (beginP c.g.Vl c.dep x σ).N v = σ.N v := fun v q => upd_other q
  have hO : ∀ v, v ≠ x → (beginP c.g.Vl c.dep x σ).own v = σ.own v := fun v q => upd_other q
  have hC : ∀ v, v ≠ x → (beginP c.g.Vl c.dep x σ).C v = σ.C v := fun v q => upd_other q
  have hNx : (beginP c.g.Vl c.dep x σ).N x = ((c.dep + σ.stk.length + 1 : Nat) : Int) := upd_same
  have hOx : (beginP c.g.Vl c.dep x σ).own x = some x := upd_same
  have hCx : (beginP c.g.Vl c.dep x σ).C x = c.g.Vl x := upd_same
  have hne : ∀ v ∈ vis, v ≠ x := fun v q e => hv (e ▸ q)
  have hns : ∀ v ∈ vis, v ∉ (beginP c.g.Vl c.dep x σ).stk → v ∉ σ.stk := fun v _ q q' => q (by rw [hstk]; exact List.mem_append_left _ q')
  have memv : ∀ v, v ∈ vis ++ [x] ↔ v ∈ vis ∨ v = x := fun v => by simp
  have hns' : ∀ v, v ≠ x → v ∉ σ.stk → v ∉ (beginP c.g.Vl c.dep x σ).stk := by
    intro v q q' r
    rw [hstk] at r
    rcases List.mem_append.mp r with r | r
    · exact q' r
    · exact q (by simpa using r)
  refine ⟨⟨?_, ?_, ?_, ?_, ?_, ?_, ?_, ?_, ?_, ?_, ?_⟩, (fun v hv => nomatch hv), rfl, (fun t ht => nomatch ht), ?_, fun v q _ => ⟨hN v q, hO v q, hC v q⟩, (fun y hy => nomatch hy), (fun t ht => nomatch ht)⟩
  · show σ.bg ++ [x] = _; rw [h.bg, List.append_assoc]
  · show σ.ak ++ [x] = _; rw [h.ak, List.append_assoc]
  · rw [List.nodup_append]; exact ⟨h.vnd, by simp, fun u hu v hv' => by rw [List.mem_singleton] at hv'; subst hv'; exact hne u hu⟩
  · intro v q; rcases (memv v).mp q with q | rfl
    · exact h.vin v q
    · exact ⟨hx, hd⟩
  · rw [hstk, List.nodup_append]; exact ⟨h.snd, by simp, fun u hu v hv' => by rw [List.mem_singleton] at hv'; subst hv'; exact hne u (h.sin u hu)⟩
  · intro v q; rw [hstk] at q; rw [memv]; rcases List.mem_append.mp q with q | q
    · exact .inl (h.sin v q)
    · exact .inr (by simpa using q)
  · intro v q1 q2 q3
    rw [memv, not_or] at q3
    rw [hN v q3.2, hO v q3.2]; exact h.wh v q1 q2 q3.1
  · intro i v q
    rw [hstk] at q ⊢
    rcases Nat.lt_or_ge i σ.stk.length with hi | hi
    · rw [List.getElem?_append_left hi] at q
      have hvx : v ≠ x := hne v (h.sin v (List.mem_of_getElem? q))
      obtain ⟨a1, a2, j, z, a3, a4, a5, a6⟩ := h.op i v q
      rw [hO v hvx, hC v hvx, hN v hvx]
      exact ⟨a1, a2, j, z, a3, by rw [List.getElem?_append_left (by omega)]; exact a4, a5, a6⟩
    · have hi' : i = σ.stk.length := by
        have := (List.getElem?_eq_some_iff.mp q).1
        simp at this; omega
      subst hi'
      rw [List.getElem?_append_right (Nat.le_refl _)] at q
      have : v = x := by simpa using q.symm
      subst this
      rw [hOx, hCx, hNx]
      exact ⟨rfl, hc.vl v hx, σ.stk.length, v, Nat.le_refl _, by simp, rfl, .refl _⟩
  · intro v q1 q2
    have hvx : v ≠ x := fun e => q2 (by rw [hstk, e]; simp)
    have q1' : v ∈ vis := ((memv v).mp q1).resolve_right hvx
    obtain ⟨a1, a2, o, a3, a4, a5, a6, a7, pre, suf, a8, a9⟩ := h.cl v q1' (hns v q1' q2)
    have hox := hne o a3
    refine ⟨by rw [hN v hvx]; exact a1, fun y hy hyd => ?_, o, (memv o).mpr (.inl a3), hns' o hox a4, by rw [hO v hvx]; exact a5, by rw [hO o hox]; exact a6, a7, pre, suf ++ [x], by rw [a8]; simp, a9⟩
    have := a2 y hy hyd
    exact ⟨(memv y).mpr (.inl this.1), hns' y (hne y this.1) this.2⟩
  · intro o q1 q2 q3
    have hox : o ≠ x := fun e => q2 (by rw [hstk, e]; simp)
    have q1' : o ∈ vis := ((memv o).mp q1).resolve_right hox
    rw [hO o hox] at q3
    rw [hC o hox]
    obtain ⟨b1, b2⟩ := h.clC o q1' (hns o q1' q2) q3
    refine ⟨b1, fun sm rt hr w m hs => b2 sm rt ⟨fun a ha b hb => hr.smq a ((memv a).mpr (.inl ha)) b ((memv b).mpr (.inl hb)), fun v hv' hvs o' ho' => ?_, fun z hz => hr.tot z ((memv z).mpr (.inl hz))⟩ w m hs⟩
    exact hr.rtq v ((memv v).mpr (.inl hv')) (hns' v (hne v hv') hvs) o' (by rw [hO v (hne v hv')]; exact ho')
  · intro v q1 l q2
    have hvx : v ≠ x := fun e => by rw [e, hd] at q2; cases q2
    obtain ⟨a1, a2, a3⟩ := h.tm v q1 l q2
    refine ⟨by rw [hN v hvx]; exact a1, ?_, fun o ho => a3 o (by rw [hO v hvx] at ho; exact ho)⟩
    have : contOf (beginP c.g.Vl c.dep x σ) v = contOf σ v := by
      unfold contOf
      rw [hO v hvx]
      cases e : σ.own v with
      | none => rfl
      | some o =>
        obtain ⟨l', hl'⟩ := a3 o e
        exact hC o fun e' => by rw [e', hd] at hl'; cases hl'
    rw [this]; exact a2
  · intro z q
    rw [hstk] at q
    rcases List.mem_append.mp q with q | q
    · exact htop z q
    · rw [List.mem_singleton] at q; rw [q]; exact .refl _
theorem mid_sli (hc : c.Ok) {x y : V} {pr : List V} {σ0 σ σ' : TS V} {vis0 n n2 T : List V} (h : SLI c x pr (σ.N x) σ0 vis0 n T σ) (hy : y ∈ c.g.Eg x) (hyd : c.g.dn y = none) (p : PoS c y σ (vis0 ++ x :: n) n2 σ') :
    ∃ T', SLI c x pr (σ'.N y) σ0 vis0 (n ++ y :: n2) T' σ' := by
  have assoc : vis0 ++ x :: n ++ y :: n2 = vis0 ++ x :: (n ++ y :: n2) := by simp
  have hsi := p.si
  rw [assoc] at hsi
  have hnd := p.si.vnd
  rw [List.nodup_append] at hnd
  have hxv : x ∈ vis0 ++ x :: n := by simp
  have hxy : x ≠ y := fun e => hnd.2.2 x hxv y (by simp) e
  have hxn : x ∉ n2 := fun q => hnd.2.2 x hxv x (by simp [q]) rfl
  obtain ⟨hNx, hOx, hCx⟩ := p.fr x hxy hxn
  have hexy : c.g.R x y := Rch.one ⟨hy, hyd⟩
  have hfr : ∀ v, v ≠ x → v ∉ n ++ y :: n2 → σ'.N v = σ0.N v ∧ σ'.own v = σ0.own v ∧ σ'.C v = σ0.C v := fun v q1 q2 => by
    rw [List.mem_append, List.mem_cons, not_or, not_or] at q2
    obtain ⟨a1, a2, a3⟩ := p.fr v q2.2.1 q2.2.2
    obtain ⟨b1, b2, b3⟩ := h.fr v q1 q2.1
    exact ⟨a1.trans b1, a2.trans b2, a3.trans b3⟩
  have sub : ∀ v, v ∈ vis0 ++ x :: n → v ∈ vis0 ++ x :: (n ++ y :: n2) := fun v q => by rw [← assoc]; exact List.mem_append_left _ q
  have hrn : ∀ v ∈ n ++ y :: n2, c.g.R x v := fun v q => by
    rcases List.mem_append.mp q with q | q
    · exact h.rn v q
    · rcases List.mem_cons.mp q with rfl | q
      · exact hexy
      · exact Rch.trans hexy (p.rn v q)
  have hmin : ∀ b : Int, min (σ.N x) (σ.N x) ≤ b → min (σ'.N x) (σ'.N y) ≤ b := fun b q => by rw [hNx]; omega
  have hed : ∀ y' ∈ pr, c.g.dn y' = none → y' ∈ vis0 ++ x :: (n ++ y :: n2) ∧ ∀ p, σ0.stk[p]? = some y' → min (σ'.N x) (σ'.N y) ≤ ((c.dep + p + 1 : Nat) : Int) := fun y' q1 q2 => by
    obtain ⟨a1, a2⟩ := h.ed y' q1 q2
    exact ⟨sub _ a1, fun p hp => hmin _ (a2 p hp)⟩
  have hed' : ∀ t ∈ T, ∀ y' ∈ c.g.Eg t, c.g.dn y' = none → y' ∈ vis0 ++ x :: (n ++ y :: n2) ∧ ∀ p, σ0.stk[p]? = some y' → min (σ'.N x) (σ'.N y) ≤ ((c.dep + p + 1 : Nat) : Int) := fun t q0 y' q1 q2 => by
    obtain ⟨a1, a2⟩ := h.ed' t q0 y' q1 q2
    exact ⟨sub _ a1, fun p hp => hmin _ (a2 p hp)⟩
  rcases p.st with hs | ⟨T2, hs, b1, b2, ⟨j, z, b3, b4⟩, b5⟩
  · refine ⟨T, hsi, hrn, hs.trans h.st, fun t q => List.mem_append_left _ (h.tn t q), fun z q => h.top z (hs ▸ q), hfr, hed, hed'⟩
  · refine ⟨T ++ y :: T2, hsi, hrn, by rw [hs, h.st]; simp, fun t q => ?_, fun t q => ?_, hfr, hed, fun t q => ?_⟩
    · rcases List.mem_append.mp q with q | q
      · exact List.mem_append_left _ (h.tn t q)
      · rcases List.mem_cons.mp q with rfl | q
        · exact List.mem_append_right _ (by simp)
        · exact List.mem_append_right _ (by simp [b1 t q])
    · have hyx : c.g.R y x := Rch.trans b4 (h.top z (List.mem_of_getElem? b3))
      rw [hs] at q
      rcases List.mem_append.mp q with q | q
      · exact h.top t q
      · rcases List.mem_cons.mp q with rfl | q
        · exact hyx
        · exact Rch.trans (b2 t q) hyx
    · rcases List.mem_append.mp q with q | q
      · exact hed' t q
      · intro y' q1 q2
        obtain ⟨a1, a2⟩ := b5 t q y' q1 q2
        rw [assoc] at a1
        refine ⟨a1, fun p hp => ?_⟩
        have := a2 p (by rw [h.st, List.getElem?_append_left (List.getElem?_eq_some_iff.mp hp).1]; exact hp)
        omega
/-- what is known of a name's list -/
theorem SI.good (hc : c.Ok) {σ : TS V} {vis : List V} (h : SI c σ vis) {y : V} (hy : y ∈ vis ∨ (y ∈ c.nms ∧ ∃ l, c.g.dn y = some l)) : Good (contOf σ y) := by
  rcases hy with hy | ⟨hy, l, hl⟩
  · by_cases hs : y ∈ σ.stk
    · obtain ⟨i, hi⟩ := h.idx hs
      obtain ⟨a1, a2, _⟩ := h.op i y hi
      unfold contOf; rw [a1]; exact a2
    · obtain ⟨_, _, o, a3, a4, a5, a6, _⟩ := h.cl y hy hs
      unfold contOf; rw [a5]; exact (h.clC o a3 a4 a6).1
  · rw [(h.tm y hy l hl).2.1]; exact hc.tl y hy l hl
theorem join_sli (hc : c.Ok) {x y : V} {pr : List V} {σ0 σ : TS V} {vis0 n T : List V} (h : SLI c x pr (σ.N y) σ0 vis0 n T σ) (hy : y ∈ c.g.Eg x) (hyv : (c.g.dn y = none ∧ y ∈ vis0 ++ x :: n) ∨ (y ∈ c.nms ∧ ∃ l, c.g.dn y = some l)) :
    joinP x y σ = some { σ with N := upd σ.N x (min (σ.N x) (σ.N y)), C := upd σ.C x (mergeL (σ.C x) (contOf σ y)) } ∧
    SLI c x (pr ++ [y]) (min (σ.N x) (σ.N y)) σ0 vis0 n T { σ with N := upd σ.N x (min (σ.N x) (σ.N y)), C := upd σ.C x (mergeL (σ.C x) (contOf σ y)) } := by
  have hxi : σ.stk[σ0.stk.length]? = some x := by rw [h.st]; simp
  have hxs : x ∈ σ.stk := List.mem_of_getElem? hxi
  obtain ⟨x1, x2, xj, xz, x3, x4, x5, x6⟩ := h.si.op _ x hxi
  have hgy : Good (contOf σ y) := h.si.good hc (hyv.imp (fun q => q.2) id)
  have hlen := h.si.len hc
  have hsh := hc.short
  have hM := hc.M
  have hdep := hc.dep
  have hxd : c.g.dn x = none := (h.si.vin x (by simp)).2
  have hguard : σ.own x = some x ∧ (σ.C x).length + (contOf σ y).length ≤ 1000 := ⟨x1, by have := x2.len; have := hgy.len; omega⟩
  refine ⟨by unfold joinP; rw [if_pos hguard], ?_⟩
  generalize hσ' : ({ σ with N := upd σ.N x (min (σ.N x) (σ.N y)), C := upd σ.C x (mergeL (σ.C x) (contOf σ y)) } : TS V) = σ'
  have eS : σ'.stk = σ.stk := by rw [← hσ']
  have eO : σ'.own = σ.own := by rw [← hσ']
  have eB : σ'.bg = σ.bg := by rw [← hσ']
  have eA : σ'.ak = σ.ak := by rw [← hσ']
  have eN : ∀ v, v ≠ x → σ'.N v = σ.N v := fun v q => by rw [← hσ']; exact upd_other q
  have eC : ∀ v, v ≠ x → σ'.C v = σ.C v := fun v q => by rw [← hσ']; exact upd_other q
  have eNx : σ'.N x = min (σ.N x) (σ.N y) := by rw [← hσ']; exact upd_same
  have eCx : σ'.C x = mergeL (σ.C x) (contOf σ y) := by rw [← hσ']; exact upd_same
  clear hσ'
  have xlt : xj < σ.stk.length := (List.getElem?_eq_some_iff.mp x4).1
  have hyop : ∀ i, σ.stk[i]? = some y → σ.N y ≤ ((c.dep + i + 1 : Nat) : Int) := fun i hi => by
    obtain ⟨_, _, j, z, a3, _, a5, _⟩ := h.si.op i y hi
    rw [a5]; omega
  -- what N of x is now
  have newx : ∃ j z, j ≤ σ0.stk.length ∧ σ.stk[j]? = some z ∧ min (σ.N x) (σ.N y) = ((c.dep + j + 1 : Nat) : Int) ∧ c.g.R x z := by
    by_cases hle : σ.N x ≤ σ.N y
    · exact ⟨xj, xz, x3, x4, by rw [← x5]; omega, x6⟩
    · rcases hyv with ⟨hyd, hyv⟩ | ⟨hyn, l, hl⟩
      · by_cases hs : y ∈ σ.stk
        · obtain ⟨i, hi⟩ := h.si.idx hs
          obtain ⟨_, _, j, z, a3, a4, a5, a6⟩ := h.si.op i y hi
          exact ⟨j, z, by omega, a4, by rw [← a5]; omega, Rch.trans (Rch.one ⟨hy, hyd⟩) a6⟩
        · have := (h.si.cl y hyv hs).1
          exfalso; omega
      · have := (h.si.tm y hyn l hl).1
        exfalso; omega
  have hxv : ∀ v, v ∉ σ.stk → v ≠ x := fun v q e => q (e ▸ hxs)
  refine ⟨⟨by rw [eB]; exact h.si.bg, by rw [eA]; exact h.si.ak, h.si.vnd, h.si.vin, by rw [eS]; exact h.si.snd, by rw [eS]; exact h.si.sin, fun v q1 q2 q3 => ?_, fun i v q => ?_, fun v q1 q2 => ?_, fun o q1 q2 q3 => ?_, fun v q1 l q2 => ?_⟩, h.rn, by rw [eS]; exact h.st, h.tn, by rw [eS]; exact h.top, fun v q1 q2 => ?_, fun y' q1 q2 => ?_, fun t q0 y' q1 q2 => ?_⟩
  · have hvx : v ≠ x := fun e => q3 (by simp [e])
    rw [eN v hvx, eO]; exact h.si.wh v q1 q2 q3
  · rw [eS] at q ⊢
    rw [eO]
    by_cases hvx : v = x
    · subst hvx
      obtain ⟨j, z, b1, b2, b3, b4⟩ := newx
      have hi : i = σ0.stk.length := by
        have h1 := (List.getElem?_eq_some_iff.mp q).1
        have h2 := (List.getElem?_eq_some_iff.mp hxi).1
        have h3 := (List.getElem?_eq_some_iff.mp q).2
        have h4 := (List.getElem?_eq_some_iff.mp hxi).2
        exact (List.getElem_inj h.si.snd).mp (h3.trans h4.symm)
      rw [eCx, eNx, hi]
      exact ⟨x1, x2.merge hgy, j, z, b1, b2, b3, b4⟩
    · rw [eC v hvx, eN v hvx]; exact h.si.op i v q
  · rw [eS] at q2 ⊢
    rw [eN v (hxv v q2), eO]; exact h.si.cl v q1 q2
  · rw [eS] at q2
    rw [eO] at q3
    rw [eC o (hxv o q2)]
    obtain ⟨b1, b2⟩ := h.si.clC o q1 q2 q3
    exact ⟨b1, fun sm rt hr => b2 sm rt ⟨hr.smq, fun v hv hvs o' ho' => hr.rtq v hv (by rw [eS]; exact hvs) o' (by rw [eO]; exact ho'), hr.tot⟩⟩
  · have hvx : v ≠ x := fun e => by rw [e, hxd] at q2; cases q2
    obtain ⟨a1, a2, a3⟩ := h.si.tm v q1 l q2
    rw [eN v hvx, eO]
    refine ⟨a1, ?_, a3⟩
    have : contOf σ' v = contOf σ v := by
      unfold contOf
      rw [eO]
      cases e : σ.own v with
      | none => rfl
      | some o =>
        obtain ⟨l', hl'⟩ := a3 o e
        exact eC o fun e' => by rw [e', hxd] at hl'; cases hl'
    rw [this]; exact a2
  · rw [eN v q1, eO, eC v q1]; exact h.fr v q1 q2
  · rw [eNx]
    rcases List.mem_append.mp q1 with q1 | q1
    · obtain ⟨a1, a2⟩ := h.ed y' q1 q2
      exact ⟨a1, fun p hp => by have := a2 p hp; omega⟩
    · rw [List.mem_singleton] at q1
      subst q1
      rcases hyv with ⟨_, hyv⟩ | ⟨_, l, hl⟩
      · exact ⟨hyv, fun p hp => by
          have := hyop p (by rw [h.st, List.getElem?_append_left (List.getElem?_eq_some_iff.mp hp).1]; exact hp)
          omega⟩
      · rw [q2] at hl; cases hl
  · rw [eNx]
    obtain ⟨a1, a2⟩ := h.ed' t q0 y' q1 q2
    exact ⟨a1, fun p hp => by have := a2 p hp; omega⟩
end
end Mine
end

section
open PySem PySem.W PyProof.Rows
set_option Elab.async false
set_option maxRecDepth 100000
namespace Mine
set_option genInjectivity false in
set_option genSizeOf false in
/-- the tables of _law_drawn, as its loop goes -/
structure DrC where
  nms : List Key
  vN : List Value
  vT : List Value
  lN : Addr
  lT : Addr
  dE : Addr
  dV : Addr
  dS : Addr
  cS : Addr
  eL : Key → Addr
structure DrI (prog : Program) (w : World) (s0 : Shared) (c : DrC) (i : Nat) (Eg : Key → List Key) (vL : Key → Addr) (Vl : Key → List Int) (sh : Key → Option (Option (List Int))) (sL : Key → Addr) (D : Led) : Prop where
  T : LV D c.lT c.vT
  N : LV D c.lN c.vN
  K : KeysL prog w D c.nms c.vN
  E : ES prog w c.nms Eg c.eL c.dE D
  Vd : ∃ xs, DK prog w D c.dV xs ∧ (∀ k ∈ xs.map (·.1), k ∈ c.nms) ∧ ∀ x ∈ c.nms, look xs x = some (.ref (vL x))
  Vv : ∀ x ∈ c.nms, ∃ ws, LV D (vL x) ws ∧ IntsL (Vl x) ws
  S : DS prog w sh sL c.dS D
  Sk : ∀ k o, sh k = some o → k ∈ c.nms
  cS : CV D c.cS (some (.ref c.dS))
  Eg1 : ∀ x ∈ c.nms, (∀ y ∈ Eg x, y ∈ c.nms) ∧ (Eg x).length ≤ i
  Vg : ∀ x ∈ c.nms, Good (Vl x)
  Sg : ∀ k l, sh k = some (some l) → Good l
  i1 : ∀ x ∈ c.nms, ∀ y ∈ c.nms, c.eL x = c.eL y → x = y
  i2 : ∀ x ∈ c.nms, ∀ y ∈ c.nms, vL x = vL y → x = y
  i3 : ∀ x ∈ c.nms, ∀ y ∈ c.nms, c.eL x ≠ vL y
  i4 : ∀ x ∈ c.nms, c.eL x ≠ c.lN ∧ c.eL x ≠ c.lT
  i5 : ∀ x ∈ c.nms, vL x ≠ c.lN ∧ vL x ≠ c.lT
  i6 : ∀ k l, sh k = some (some l) → ∀ x ∈ c.nms, sL k ≠ c.eL x ∧ sL k ≠ vL x
  i7 : c.dV ≠ c.dS ∧ c.dE ≠ c.dS ∧ c.dE ≠ c.dV
  fE : ∀ x ∈ c.nms, s0.heap.get? (c.eL x) = none
  fV : ∀ x ∈ c.nms, s0.heap.get? (vL x) = none
  fd : s0.heap.get? c.dV = none ∧ s0.heap.get? c.dS = none
section
variable {prog : Program} {w : World} {s0 : Shared} {c : DrC} {i : Nat} {Eg : Key → List Key} {vL : Key → Addr} {Vl : Key → List Int} {sh : Key → Option (Option (List Int))} {sL : Key → Addr} {D D' : Led}
theorem LV.neD {d l : Addr} {vs : List Value} {xs : KVs} (x : LV D l vs) (y : DK prog w D d xs) : l ≠ d := fun e => by
  obtain ⟨n, h⟩ := x; obtain ⟨m, h'⟩ := y.obj
  rw [e, h'] at h
  simp [dctO, lstO] at h
theorem DrI.up (h : DrI prog w s0 c i Eg vL Vl sh sL D) (hij : i ≤ j) : DrI prog w s0 c j Eg vL Vl sh sL D :=
  { h with Eg1 := fun x hx => ⟨(h.Eg1 x hx).1, Nat.le_trans (h.Eg1 x hx).2 hij⟩ }
theorem DrI.sub (h : DrI prog w s0 c i Eg vL Vl sh sL D) (hs : Sub D D') (hc : ∀ o, D c.cS = some o → D' c.cS = some o) : DrI prog w s0 c i Eg vL Vl sh sL D' :=
  { h with
    T := h.T.sub hs, N := h.N.sub hs, K := h.K.mono hs.t, E := h.E.sub hs
    Vd := let ⟨xs, a, b⟩ := h.Vd; ⟨xs, a.sub hs, b⟩
    Vv := fun x hx => let ⟨ws, a, b⟩ := h.Vv x hx; ⟨ws, a.sub hs, b⟩
    S := h.S.sub hs, cS := h.cS.mono hc }
/-- edges[x].append(y) -/
theorem DrI.edge (h : DrI prog w s0 c i Eg vL Vl sh sL D) {x y : Key} {u : Value} {ws : List Value} {n : Nat} (hx : x ∈ c.nms) (hy : y ∈ c.nms) (hu : KeyL prog w D y u) (hl : LV D (c.eL x) ws) (hk : KeysL prog w D (Eg x) ws) :
    DrI prog w s0 c (i + 1) (upd Eg x (Eg x ++ [y])) vL Vl sh sL (D.put (c.eL x) (lstO (ws ++ [u]).toArray n)) := by
  have ht : TSub D (D.put (c.eL x) (lstO (ws ++ [u]).toArray n)) := .put hl.noTup
  have hx4 := h.i4 x hx
  obtain ⟨xE, hE1, hE2⟩ := h.E.dict
  obtain ⟨xV, hV1, hV2, hV3⟩ := h.Vd
  obtain ⟨xS, hS1, hS2⟩ := h.S.dict
  refine { h with T := h.T.put_other (Ne.symm hx4.2), N := h.N.put_other (Ne.symm hx4.1), K := h.K.mono ht, E := ⟨⟨xE, hE1.put_other (Ne.symm (hl.neD hE1)) ht, hE2⟩, fun z hz => ?_⟩, Vd := ⟨xV, hV1.put_other (Ne.symm (hl.neD hV1)) ht, hV2, hV3⟩, Vv := fun z hz => ?_, S := ⟨⟨xS, hS1.put_other (Ne.symm (hl.neD hS1)) ht, hS2⟩, fun k l hkl => ?_⟩, cS := h.cS.mono fun o e => ?_, Eg1 := fun z hz => ?_ }
  · by_cases e : z = x
    · subst e; rw [upd_same]; exact ⟨ws ++ [u], LV.put_same, (hk.mono ht).append ⟨hu.mono ht, trivial⟩⟩
    · rw [upd_other e]
      obtain ⟨wz, a, b⟩ := h.E.list z hz
      exact ⟨wz, a.put_other fun q => e (h.i1 z hz x hx q), b.mono ht⟩
  · obtain ⟨wz, a, b⟩ := h.Vv z hz
    exact ⟨wz, a.put_other (Ne.symm (h.i3 x hx z hz)), b⟩
  · obtain ⟨wz, a, b⟩ := h.S.list k l hkl
    exact ⟨wz, a.put_other (h.i6 k l hkl x hx).1, b⟩
  · rw [Led.put_other (h.cS.neL hl)]; exact e
  · by_cases e : z = x
    · subst e; rw [upd_same]
      refine ⟨fun v hv => ?_, by rw [List.length_append]; have := (h.Eg1 z hz).2; simp; omega⟩
      rcases List.mem_append.mp hv with hv | hv
      · exact (h.Eg1 z hz).1 v hv
      · rw [List.mem_singleton] at hv; rw [hv]; exact hy
    · rw [upd_other e]; exact ⟨(h.Eg1 z hz).1, Nat.le_succ_of_le (h.Eg1 z hz).2⟩
/-- values[x].append(o) -/
theorem DrI.vapp (h : DrI prog w s0 c i Eg vL Vl sh sL D) {x : Key} {o : Int} {t : Tok} {ws : List Value} {n : Nat} (hx : x ∈ c.nms) (ho : o ∉ Vl x) (ho2 : 0 ≤ o ∧ o < 100) (hl : LV D (vL x) ws) (hk : IntsL (Vl x) ws) :
    DrI prog w s0 c (i + 1) Eg vL (upd Vl x (Vl x ++ [o])) sh sL (D.put (vL x) (lstO (ws ++ [Value.int o t]).toArray n)) := by
  have ht : TSub D (D.put (vL x) (lstO (ws ++ [Value.int o t]).toArray n)) := .put hl.noTup
  have hx5 := h.i5 x hx
  obtain ⟨xE, hE1, hE2⟩ := h.E.dict
  obtain ⟨xV, hV1, hV2, hV3⟩ := h.Vd
  obtain ⟨xS, hS1, hS2⟩ := h.S.dict
  refine { h.up (Nat.le_succ i) with T := h.T.put_other (Ne.symm hx5.2), N := h.N.put_other (Ne.symm hx5.1), K := h.K.mono ht, E := ⟨⟨xE, hE1.put_other (Ne.symm (hl.neD hE1)) ht, hE2⟩, fun z hz => ?_⟩, Vd := ⟨xV, hV1.put_other (Ne.symm (hl.neD hV1)) ht, hV2, hV3⟩, Vv := fun z hz => ?_, S := ⟨⟨xS, hS1.put_other (Ne.symm (hl.neD hS1)) ht, hS2⟩, fun k l hkl => ?_⟩, cS := h.cS.mono fun o e => ?_, Vg := fun z hz => ?_ }
  · obtain ⟨wz, a, b⟩ := h.E.list z hz
    exact ⟨wz, a.put_other (h.i3 z hz x hx), b.mono ht⟩
  · by_cases e : z = x
    · subst e; rw [upd_same]; exact ⟨ws ++ [.int o t], LV.put_same, hk.append ⟨⟨t, rfl⟩, trivial⟩⟩
    · rw [upd_other e]
      obtain ⟨wz, a, b⟩ := h.Vv z hz
      exact ⟨wz, a.put_other fun q => e (h.i2 z hz x hx q), b⟩
  · obtain ⟨wz, a, b⟩ := h.S.list k l hkl
    exact ⟨wz, a.put_other (h.i6 k l hkl x hx).2, b⟩
  · rw [Led.put_other (h.cS.neL hl)]; exact e
  · by_cases e : z = x
    · subst e; rw [upd_same]
      have := h.Vg z hz
      refine ⟨?_, fun a ha => ?_⟩
      · rw [List.nodup_append]
        exact ⟨this.1, by simp, fun a ha b hb q => by rw [List.mem_singleton] at hb; subst hb; exact ho (q ▸ ha)⟩
      · rcases List.mem_append.mp ha with ha | ha
        · exact this.2 a ha
        · rw [List.mem_singleton] at ha; rw [ha]; exact ho2
    · rw [upd_other e]; exact h.Vg z hz
/-- a new list in the ledger -/
theorem DrI.new (h : DrI prog w s0 c i Eg vL Vl sh sL D) {r : Addr} {o : Obj} (hr : D r = none) : DrI prog w s0 c i Eg vL Vl sh sL (D.put r o) :=
  h.sub (.new hr) fun o' e => by rw [Led.put_other (fun q => by rw [q, hr] at e; cases e)]; exact e
/-- values[x] = a new list -/
theorem DrI.vset (h : DrI prog w s0 c i Eg vL Vl sh sL D) {x : Key} {kv : Value} {r : Addr} {xs : KVs} {n : Nat} (hx : x ∈ c.nms) (hk : KeyL prog w D x kv) (hr : LV D r []) (hr0 : s0.heap.get? r = none)
    (hrE : ∀ z ∈ c.nms, c.eL z ≠ r) (hrV : ∀ z ∈ c.nms, vL z ≠ r) (hrN : r ≠ c.lN ∧ r ≠ c.lT) (hrS : ∀ k l, sh k = some (some l) → sL k ≠ r)
    (hd : DK prog w D c.dV xs) (hs : ∀ k ∈ xs.map (·.1), k ∈ c.nms) (hl : ∀ x ∈ c.nms, look xs x = some (.ref (vL x))) :
    DrI prog w s0 c (i + 1) Eg (upd vL x r) (upd Vl x []) sh sL (D.put c.dV (dctO ((putK xs x kv (.ref r)).map (ent prog w)).toArray n)) := by
  have ht : TSub D (D.put c.dV (dctO ((putK xs x kv (.ref r)).map (ent prog w)).toArray n)) := .put hd.noTup
  obtain ⟨xE, hE1, hE2⟩ := h.E.dict
  obtain ⟨xS, hS1, hS2⟩ := h.S.dict
  have vin : ∀ a ∈ c.nms, ∀ P : Addr → Prop, (∀ z ∈ c.nms, P (vL z)) → P r → P (upd vL x r a) := fun a ha P h1 h2 => by
    by_cases e : a = x
    · rw [e, upd_same]; exact h2
    · rw [upd_other e]; exact h1 a ha
  refine { h.up (Nat.le_succ i) with T := h.T.put_other (h.T.neD hd), N := h.N.put_other (h.N.neD hd), K := h.K.mono ht, E := ⟨⟨xE, hE1.put_other h.i7.2.2 ht, hE2⟩, fun z hz => ?_⟩, Vd := ⟨_, hd.set hk, fun k' hk' => ?_, fun z hz => ?_⟩, Vv := fun z hz => ?_, S := ⟨⟨xS, hS1.put_other (Ne.symm h.i7.1) ht, hS2⟩, fun k l hkl => ?_⟩, cS := h.cS.mono fun o e => ?_, Vg := fun z hz => ?_, i2 := fun a ha b hb e => ?_, i3 := fun a ha b hb => ?_, i5 := fun a ha => ?_, i6 := fun k l hkl z hz => ?_, fV := fun a ha => ?_ }
  · obtain ⟨wz, a, b⟩ := h.E.list z hz
    exact ⟨wz, a.put_other (a.neD hd), b.mono ht⟩
  · rw [keys_putK] at hk'
    split at hk'
    · exact hs k' hk'
    · rcases List.mem_append.mp hk' with q | q
      · exact hs k' q
      · rw [List.mem_singleton] at q; rw [q]; exact hx
  · rw [look_putK]
    by_cases e : z = x
    · rw [if_pos e, e, upd_same]
    · rw [if_neg e, upd_other e]; exact hl z hz
  · by_cases e : z = x
    · subst e; rw [upd_same, upd_same]; exact ⟨[], hr.put_other (hr.neD hd), trivial⟩
    · rw [upd_other e, upd_other e]
      obtain ⟨wz, a, b⟩ := h.Vv z hz
      exact ⟨wz, a.put_other (a.neD hd), b⟩
  · obtain ⟨wz, a, b⟩ := h.S.list k l hkl
    exact ⟨wz, a.put_other (a.neD hd), b⟩
  · rw [Led.put_other (h.cS.neD hd)]; exact e
  · by_cases e : z = x
    · subst e; rw [upd_same]; exact Good.nil
    · rw [upd_other e]; exact h.Vg z hz
  · by_cases ea : a = x
    · by_cases eb : b = x
      · rw [ea, eb]
      · rw [ea, upd_same, upd_other eb] at e; exact absurd e.symm (hrV b hb)
    · by_cases eb : b = x
      · rw [eb, upd_same, upd_other ea] at e; exact absurd e (hrV a ha)
      · rw [upd_other ea, upd_other eb] at e; exact h.i2 a ha b hb e
  · exact vin b hb (fun q => c.eL a ≠ q) (h.i3 a ha) (hrE a ha)
  · exact vin a ha (fun q => q ≠ c.lN ∧ q ≠ c.lT) h.i5 hrN
  · exact ⟨(h.i6 k l hkl z hz).1, vin z hz (fun q => sL k ≠ q) (fun y hy => (h.i6 k l hkl y hy).2) (hrS k l hkl)⟩
  · exact vin a ha (fun q => s0.heap.get? q = none) h.fV hr0
/-- shut[x] = a new list, or None -/
theorem DrI.shut (h : DrI prog w s0 c i Eg vL Vl sh sL D) {x : Key} {kv val : Value} {r : Addr} {xs : KVs} {n : Nat} {ov : Option (List Int)} (hx : x ∈ c.nms) (hk : KeyL prog w D x kv) (hval : val = match ov with | none => .none | some _ => .ref r)
    (hov : ∀ l, ov = some l → Good l ∧ (∃ ws, LV D r ws ∧ IntsL l ws) ∧ ∀ z ∈ c.nms, r ≠ c.eL z ∧ r ≠ vL z)
    (hd : DK prog w D c.dS xs) (hl : ∀ k, look xs k = (sh k).map fun o => match o with | none => .none | some _ => .ref (sL k)) :
    DrI prog w s0 c (i + 1) Eg vL Vl (upd sh x (some ov)) (upd sL x r) (D.put c.dS (dctO ((putK xs x kv val).map (ent prog w)).toArray n)) := by
  have ht : TSub D (D.put c.dS (dctO ((putK xs x kv val).map (ent prog w)).toArray n)) := .put hd.noTup
  obtain ⟨xE, hE1, hE2⟩ := h.E.dict
  obtain ⟨xV, hV1, hV2, hV3⟩ := h.Vd
  refine { h.up (Nat.le_succ i) with T := h.T.put_other (h.T.neD hd), N := h.N.put_other (h.N.neD hd), K := h.K.mono ht, E := ⟨⟨xE, hE1.put_other h.i7.2.1 ht, hE2⟩, fun z hz => ?_⟩, Vd := ⟨xV, hV1.put_other h.i7.1 ht, hV2, hV3⟩, Vv := fun z hz => ?_, S := ⟨⟨_, hd.set hk, fun k => ?_⟩, fun k l hkl => ?_⟩, Sk := fun k o hko => ?_, cS := h.cS.mono fun o e => ?_, Sg := fun k l hkl => ?_, i6 := fun k l hkl z hz => ?_ }
  · obtain ⟨wz, a, b⟩ := h.E.list z hz
    exact ⟨wz, a.put_other (a.neD hd), b.mono ht⟩
  · obtain ⟨wz, a, b⟩ := h.Vv z hz
    exact ⟨wz, a.put_other (a.neD hd), b⟩
  · rw [look_putK]
    by_cases e : k = x
    · rw [if_pos e, e, upd_same, upd_same, hval]; rfl
    · rw [if_neg e, upd_other e, upd_other e]; exact hl k
  · by_cases e : k = x
    · subst e
      rw [upd_same] at hkl ⊢
      injection hkl with hkl
      obtain ⟨_, ⟨ws, a, b⟩, _⟩ := hov l hkl
      exact ⟨ws, a.put_other (a.neD hd), b⟩
    · rw [upd_other e] at hkl ⊢
      obtain ⟨ws, a, b⟩ := h.S.list k l hkl
      exact ⟨ws, a.put_other (a.neD hd), b⟩
  · by_cases e : k = x
    · rw [e]; exact hx
    · rw [upd_other e] at hko; exact h.Sk k o hko
  · rw [Led.put_other (h.cS.neD hd)]; exact e
  · by_cases e : k = x
    · subst e
      rw [upd_same] at hkl
      injection hkl with hkl
      exact (hov l hkl).1
    · rw [upd_other e] at hkl; exact h.Sg k l hkl
  · by_cases e : k = x
    · subst e
      rw [upd_same] at hkl ⊢
      injection hkl with hkl
      exact (hov l hkl).2.2 z hz
    · rw [upd_other e] at hkl ⊢; exact h.i6 k l hkl z hz
end
end Mine
end

section
open PySem PySem.W PyProof.Rows
set_option Elab.async false
set_option maxRecDepth 100000
namespace Mine
abbrev dV2 (c : DrC) (cn hd : Nat) (t1 t2 : Tok) : Vars := ("values", .ref c.dV) :: ("edges", .ref c.dE) :: dV1 c.lN c.lT cn hd t1 t2
section
variable {prog : Program} {w : World} {h₁ : Heap} {mg mb : Str → Option Value}
theorem drawn_loop {a : Addr} {cd : Value} {A : Around} {E : Value → Shared → Prop} {D : Led} {s s1 : Shared} {D1 : Led} {Q : Flow → Shared → Prop} {c : DrC} {cn hd : Nat} {t1 t2 : Tok} {ms : List Nat} {Eg : Key → List Key} {vL : Key → Addr} {Vl : Key → List Int} {sh : Key → Option (Option (List Int))} {sL : Key → Addr} (hR : Room A 1)
    (F1 : At (hLed h₁) [] D s s.heap.objs.size (dV2 c cn hd t1 t2) D1 s1) (hI : DrI prog w s c 0 Eg vL Vl sh sL D1) (hcn : c.nms.length = cn) (hcn3 : 3 ≤ cn) (hcn7 : cn ≤ 7) (hok : ∀ k ∈ c.nms, k.ok) (hvT : c.vT.length ≤ 1000) (hms : NatsL ms c.vT) (hm7 : ∀ m ∈ ms, m < 720720)
    (hcS : c.cS = s.heap.objs.size + 2) (hcS0 : s.heap.get? c.cS = none)
    (hQ : ∀ D' s' Eg vL Vl sh sL, At (hLed h₁) [] D s s.heap.objs.size (dV2 c cn hd t1 t2) D' s' → DrI prog w s c c.vT.length Eg vL Vl sh sL D' →
      wpAny (model prog w) A (execs ((fBody (fnAt 4)).drop 9) (dEnv s.heap.objs.size a cd)) Q E s') :
    wpAny (model prog w) A (execs ((fBody (fnAt 4)).drop 8) (dEnv s.heap.objs.size a cd)) Q E s1 := by
  refine wpAny_execs_cons (wpAny_For (r_nm F1 rfl (r_iter F1 hI.T fun it oi s4 hi1 hi2 F4 hit => ?_)))
  refine r_for (vs := c.vT) (fun i vars D' => (∀ p ∈ dV2 c cn hd t1 t2, p ∈ vars) ∧ ∃ Eg vL Vl sh sL, DrI prog w s c i Eg vL Vl sh sL D') F4 hit hi2 ?_ hR.hand (fun i vars D' h => by obtain ⟨_, _, _, _, _, _, h⟩ := h; exact h.T) ?_ ?_ ?_
  · exact ⟨fun p hp => hp, Eg, vL, Vl, sh, sL, hI.new hi1⟩
  · rintro i vars D' D'' hl hoff ⟨h1, Eg, vL, Vl, sh, sL, I⟩
    refine ⟨h1, Eg, vL, Vl, sh, sL, I.sub (Sub.off hl hoff) fun o e => ?_⟩
    rw [hoff c.cS (fun q => ?_)]
    · exact e
    · obtain ⟨o1, e1, _, d1⟩ := hl
      obtain ⟨o2, e2, d2⟩ := I.cS
      rw [q, e1] at e2; injection e2 with e2; subst e2
      rw [d1] at d2; cases d2
  · rintro i v vars D' s' E'' hv Fv hl' ⟨h1, Eg, vL, Vl, sh, sL, I⟩
    refine wpAny_gen fun Q' hQ' => ?_
    obtain ⟨m, tm, hm, rfl⟩ := hms.getV hv
    have hm' := hm7 m (List.mem_of_getElem? hm)
    have Fa : At (hLed h₁) [] D s s.heap.objs.size (("n", .int (m : Nat) tm) :: dV2 c cn hd t1 t2) D' s' := Fv.less (sub_put1 h1 (all_ne rfl))
    -- one
    refine wpAny_execs_cons (wpAny_Assign_Name (e_sub (r_nm Fa rfl (wpAny_BinOp (r_nm Fa rfl (r_nm Fa rfl (n_mod Fa (by omega) fun t3 s3 F3 => ?_)))))) rfl)
    have hj1 : m % cn < c.nms.length := by rw [hcn]; exact Nat.mod_lt _ (by omega)
    obtain ⟨u1, hu1, hk1⟩ := I.K.get (List.getElem?_eq_getElem hj1)
    generalize hone : c.nms[m % cn] = one at hk1
    have hone' : one ∈ c.nms := hone ▸ List.getElem_mem hj1
    refine r_itemL F3 I.N (by omega) (by omega) (v := u1) (by rw [Int.toNat_natCast]; exact hu1) (r_st F3 fun s5 F5 => ?_)
    have F5' : At (hLed h₁) [] D s s.heap.objs.size (("one", u1) :: ("n", .int (m : Nat) tm) :: dV2 c cn hd t1 t2) D' s5 := F5.less (sub_put1 (fun _ h => h) (all_ne rfl))
    dsimp only
    -- other
    refine wpAny_execs_cons (wpAny_Assign_Name (wpAny_BinOp (wpAny_BinOp (r_nm F5' rfl (r_nm F5' rfl (n_div F5' (by omega) (fun t6 s6 F6 => r_nm F6 rfl (n_mod F6 (by omega) fun t7 s7 F7 => r_st F7 fun s8 F8 => ?_))))))) rfl)
    have hj2 : m / cn % cn < c.nms.length := by rw [hcn]; exact Nat.mod_lt _ (by omega)
    generalize hoth : m / cn % cn = ot at F8 hj2
    have hot7 : ot < 7 := by omega
    have F8' : At (hLed h₁) [] D s s.heap.objs.size (("other", .int (ot : Nat) t7) :: ("one", u1) :: ("n", .int (m : Nat) tm) :: dV2 c cn hd t1 t2) D' s8 := F8.less (sub_put1 (fun _ h => h) (all_ne rfl))
    dsimp only
    -- way
    have hd1 : m / cn < 2 ^ 20 := Nat.lt_of_le_of_lt (Nat.div_le_self _ _) (by omega)
    refine wpAny_execs_cons (wpAny_Assign_Name (wpAny_BinOp (wpAny_BinOp (wpAny_BinOp (r_nm F8' rfl (r_nm F8' rfl (n_div F8' (by omega) (fun t9 s9 F9 => r_nm F9 rfl (n_div F9 (by omega) (fun t10 s10 F10 => n_const (n := 5) F10 fun t11 s11 F11 => n_mod F11 (by decide) fun t12 s12 F12 => r_st F12 fun s13 F13 => ?_) hd1)))))))) rfl)
    generalize hway : m / cn / cn % 5 = wy at F13
    have F14 : At (hLed h₁) [] D s s.heap.objs.size (("way", .int (wy : Nat) t12) :: ("other", .int (ot : Nat) t7) :: ("one", u1) :: ("n", .int (m : Nat) tm) :: dV2 c cn hd t1 t2) D' s13 := F13.less (sub_put1 (fun _ h => h) (all_ne rfl))
    clear F13 F12 F11 F10 F9 F8 F8' F7 F6 F5 F5' F3
    have keep : ∀ p ∈ dV2 c cn hd t1 t2, p ∈ (("way", .int (wy : Nat) t12) :: ("other", .int (ot : Nat) t7) :: ("one", u1) :: ("n", .int (m : Nat) tm) :: dV2 c cn hd t1 t2 : Vars) := fun p hp => by simp only [List.mem_cons]; exact .inr (.inr (.inr (.inr (by simpa using hp))))
    dsimp only
    as_aux_lemma =>
    refine wpAny_execs_cons (wpAny_If (wpAny_isTrue_Compare1 (r_nm F14 rfl (n_const (n := 4) F14 fun t15 s15 F15 => n_eq (wpAny_truthy_bool ?_)))))
    by_cases hw4 : wy = 4
    · refine ite_t (by simp only [hw4, decide_true]) ?_
      have hj0 : 0 < c.nms.length := by omega
      obtain ⟨u0, hu0, hk0⟩ := I.K.get (List.getElem?_eq_getElem hj0)
      have hz0 : c.nms[0] ∈ c.nms := List.getElem_mem hj0
      refine wpAny_execs_cons (wpAny_If (wpAny_isTrue_Compare1 (r_nm F15 rfl (e_sub (r_nm F15 rfl (n_const (n := 0) F15 fun t16 s16 F16 => r_itemL F16 I.N (by decide) (by decide) (v := u0) hu0 (r_keyNe F16 hk1 hk0 (hok _ hone') (hok _ hz0) (hR.u (by decide)) (wpAny_truthy_bool ?_))))))))
      by_cases h0 : one = c.nms[0]
      · refine ite_f (by simp only [h0, decide_true, Bool.not_true]) ?_
        exact wpAny_execs_nil (wpAny_execs_nil (wpAny_execs_nil (hQ' _ _ ⟨.inl rfl, _, D', F16, hl', keep, Eg, vL, Vl, sh, sL, I.up (Nat.le_succ i)⟩)))
      · refine ite_t (by simp only [h0, decide_false, Bool.not_false]) ?_
        refine wpAny_execs_cons (wpAny_Assign_Subscript (wpAny_mono (Q := fun v s' => ∃ ov r D2, At (hLed h₁) [] D s s.heap.objs.size (("way", .int (wy : Nat) t12) :: ("other", .int (ot : Nat) t7) :: ("one", u1) :: ("n", .int (m : Nat) tm) :: dV2 c cn hd t1 t2) D2 s' ∧ v = (match (ov : Option (List Int)) with | none => Value.none | some _ => Value.ref r) ∧ DrI prog w s c i Eg vL Vl sh sL D2 ∧ LIt D2 it c.lT (i + 1) ∧ TSub D' D2 ∧
          ∀ l, ov = some l → Good l ∧ (∃ ws, LV D2 r ws ∧ IntsL l ws) ∧ ∀ z ∈ c.nms, r ≠ c.eL z ∧ r ≠ vL z) (E := E'') ?_ ?_ fun _ _ e => e) rfl)
        · refine IfExp_ (wpAny_isTrue_Compare1 (wpAny_BinOp (r_nm F16 rfl (n_const (n := 2) F16 fun t17 s17 F17 => n_mod F17 (by decide) fun t18 s18 F18 => n_const (n := 0) F18 fun t19 s19 F19 => n_eq (wpAny_truthy_bool ?_)))))
          by_cases hev : ot % 2 = 0
          · refine ite_t (by simp only [hev, decide_true]) ?_
            refine List_ (args_cons (r_nm F19 rfl (args_cons (wpAny_BinOp (n_const (n := 20) F19 fun t20 s20 F20 => r_nm F20 rfl (n_add F20 fun t21 s21 F21 => args_nil (r_newList F21 (by simp) fun r s22 hr1 hr2 F22 => ?_)))))))
            have hne : ∀ {a : Addr} {vs : List Value}, LV D' a vs → r ≠ a := fun {a vs} h q => by obtain ⟨o, e⟩ := h.some; rw [← q, hr1] at e; cases e
            refine ⟨some [(ot : Int), ((20 + ot : Nat) : Int)], r, _, F22, rfl, I.new hr1, hl'.put_other (fun q => by obtain ⟨o, e, _⟩ := hl'; rw [q, hr1] at e; cases e), .new hr1, fun l hl => ?_⟩
            injection hl with hl
            subst hl
            refine ⟨⟨?_, fun x hx => ?_⟩, ⟨_, LV.put_same, ⟨t7, rfl⟩, ⟨t21, rfl⟩, trivial⟩, fun z hz => ⟨?_, ?_⟩⟩
            · simp; omega
            · simp only [List.mem_cons, List.not_mem_nil, or_false] at hx
              rcases hx with rfl | rfl
              · omega
              · push_cast; omega
            · obtain ⟨ws, a, _⟩ := I.E.list z hz; exact hne a
            · obtain ⟨ws, a, _⟩ := I.Vv z hz; exact hne a
          · refine ite_f (by simp only [hev, decide_false]) ?_
            exact wpAny_Constant_none ⟨none, 0, D', F19, rfl, I, hl', .refl _, fun l hl => nomatch hl⟩
        · rintro v s20 ⟨ov, r, D2, F20, hv20, I2, hl2, ht2, hov⟩
          obtain ⟨xS, hS1, hS2⟩ := I2.S.dict
          have hSz : xS.length ≤ 1000 := FI.short (nms := c.nms) hS1 (fun k hk => by
            have := look_isSome.mpr hk
            rw [hS2, Option.isSome_map] at this
            obtain ⟨o, e⟩ := Option.isSome_iff_exists.mp this
            exact I2.Sk k o e) (by omega)
          have hone2 : KeyL prog w D2 one u1 := hk1.mono ht2
          refine r_cell F20 rfl (hcS ▸ I2.cS) (r_nm F20 rfl (r_setD F20 hS1 hone2 (.inr I2.fd.2) hSz (hR.u (by decide)) fun nS s21 F21 _ => ?_))
          refine wpAny_execs_nil (wpAny_execs_nil (wpAny_execs_nil (hQ' _ _ ⟨.inl rfl, _, _, F21, hl2.put_other (hl2.neD hS1), keep, Eg, vL, Vl, _, _, I2.shut hone' hone2 hv20 hov hS1 hS2⟩)))
    · refine ite_f (by simp only [hw4, decide_false]) ?_
      refine wpAny_execs_cons (wpAny_If (wpAny_isTrue_Compare1 (wpAny_BinOp (r_nm F15 rfl (n_const (n := 2) F15 fun t17 s17 F17 => n_mod F17 (by decide) fun t18 s18 F18 => n_const (n := 0) F18 fun t19 s19 F19 => n_eq (wpAny_truthy_bool ?_))))))
      obtain ⟨xE, hE1, hE2⟩ := I.E.dict
      obtain ⟨xV, hV1, hV2, hV3⟩ := I.Vd
      obtain ⟨wE, hL1, hL2⟩ := I.E.list one hone'
      obtain ⟨wV, hV4, hV5⟩ := I.Vv one hone'
      by_cases hev : wy % 2 = 0
      · refine ite_t (by simp only [hev, decide_true]) ?_
        obtain ⟨u2, hu2, hk2⟩ := I.K.get (List.getElem?_eq_getElem hj2)
        have h2' : c.nms[ot] ∈ c.nms := List.getElem_mem hj2
        have zE : wE.length ≤ 1000000 := by
          have e1 := hL2.length
          have e2 := (I.Eg1 one hone').2
          have e3 : i < c.vT.length := (List.getElem?_eq_some_iff.mp hv).1
          omega
        refine wpAny_execs_cons (wpAny_Expr (e_append (e_sub (r_nm F19 rfl (r_nm F19 rfl (r_itemD F19 hE1 hk1 (hE2 one hone') (hR.u (by decide)) fun s20 F20 => ⟨lv_type F20 hL1, lv_noDict F20 hL1, e_sub (r_nm F20 rfl (r_nm F20 rfl (r_itemL F20 I.N (by omega) (by omega) (v := u2) (by rw [Int.toNat_natCast]; exact hu2) (r_append F20 hL1 (.inr (I.fE one hone')) zE fun nE s21 F21 => ?_))))⟩))))) rfl rfl)
        exact wpAny_execs_nil (wpAny_execs_nil (wpAny_execs_nil (hQ' _ _ ⟨.inl rfl, _, _, F21, hl'.put_other (hl'.neL hL1), keep, _, vL, Vl, sh, sL, I.edge hone' h2' hk2 hL1 hL2⟩)))
      · refine ite_f (by simp only [hev, decide_false]) ?_
        refine wpAny_execs_cons (wpAny_If (wpAny_isTrue_Compare1 (r_nm F19 rfl (n_const (n := 3) F19 fun t20 s20 F20 => n_eq (wpAny_truthy_bool ?_)))))
        by_cases hw3 : wy = 3
        · refine ite_t (by simp only [hw3, decide_true]) ?_
          refine wpAny_execs_cons (wpAny_Assign_Subscript (List_ (args_nil (r_newList F20 (by simp) fun r s21 hr1 hr2 F21 => ?_))) rfl)
          have hne : ∀ {a : Addr} {vs : List Value}, LV D' a vs → a ≠ r := fun {a vs} h q => by obtain ⟨o, e⟩ := h.some; rw [q, hr1] at e; cases e
          have hx : Sub D' (D'.put r (lstO ([] : List Value).toArray 0)) := .new hr1
          have hVd := hV1.sub hx
          refine r_nm F21 rfl (r_nm F21 rfl (r_setD F21 hVd (hk1.mono hx.t) (.inr I.fd.1) (FI.short hV1 hV2 (by omega)) (hR.u (by decide)) fun nV s22 F22 _ => ?_))
          have hl2 : LIt (D'.put r (lstO ([] : List Value).toArray 0)) it c.lT (i + 1) := hl'.put_other (fun q => by obtain ⟨o, e, _⟩ := hl'; rw [q, hr1] at e; cases e)
          refine wpAny_execs_nil (wpAny_execs_nil (wpAny_execs_nil (wpAny_execs_nil (hQ' _ _ ⟨.inl rfl, _, _, F22, hl2.put_other (hl2.neD hVd), keep, Eg, _, _, sh, sL, (I.new hr1).vset hone' (hk1.mono hx.t) LV.put_same hr2 (fun z hz => ?_) (fun z hz => ?_) ⟨Ne.symm (hne I.N), Ne.symm (hne I.T)⟩ (fun k l hkl => ?_) hVd hV2 hV3⟩))))
          · obtain ⟨ws, a, _⟩ := I.E.list z hz; exact hne a
          · obtain ⟨ws, a, _⟩ := I.Vv z hz; exact hne a
          · obtain ⟨ws, a, _⟩ := I.S.list k l hkl; exact hne a
        · refine ite_f (by simp only [hw3, decide_false]) ?_
          refine wpAny_execs_cons (wpAny_If (wpAny_isTrue_Compare1 (r_nm F20 rfl (e_sub (r_nm F20 rfl (r_nm F20 rfl (r_itemD F20 hV1 hk1 (hV3 one hone') (hR.u (by decide)) fun s21 F21 => r_notInInts F21 hV4 hV5 (wpAny_truthy_bool ?_))))))))
          by_cases hmem : (ot : Int) ∈ Vl one
          · refine ite_f (by simp only [hmem, decide_true, Bool.not_true]) ?_
            exact wpAny_execs_nil (wpAny_execs_nil (wpAny_execs_nil (wpAny_execs_nil (wpAny_execs_nil (hQ' _ _ ⟨.inl rfl, _, D', F21, hl', keep, Eg, vL, Vl, sh, sL, I.up (Nat.le_succ i)⟩)))))
          · refine ite_t (by simp only [hmem, decide_false, Bool.not_false]) ?_
            have zV : wV.length ≤ 1000000 := by
              have e1 := hV5.length
              have e2 := (I.Vg one hone').len
              omega
            refine wpAny_execs_cons (wpAny_Expr (e_append (e_sub (r_nm F21 rfl (r_nm F21 rfl (r_itemD F21 hV1 hk1 (hV3 one hone') (hR.u (by decide)) fun s22 F22 => ⟨lv_type F22 hV4, lv_noDict F22 hV4, r_nm F22 rfl (r_append F22 hV4 (.inr (I.fV one hone')) zV fun nV s23 F23 => ?_)⟩))))) rfl rfl)
            exact wpAny_execs_nil (wpAny_execs_nil (wpAny_execs_nil (wpAny_execs_nil (wpAny_execs_nil (hQ' _ _ ⟨.inl rfl, _, _, F23, hl'.put_other (hl'.neL hV4), keep, Eg, vL, _, sh, sL, I.vapp hone' hmem ⟨by omega, by omega⟩ hV4 hV5⟩)))))
  · rintro vars D' s' Fv ⟨h1, Eg, vL, Vl, sh, sL, I⟩
    exact hQ D' s' Eg vL Vl sh sL (Fv.less h1) I
end
end Mine
end

section
open PySem PySem.W PyProof.Rows
set_option Elab.async false
set_option maxRecDepth 100000
namespace Mine
set_option genInjectivity false in
set_option genSizeOf false in
/-- what _law_drawn hands back -/
structure DrR where
  nms : List Key
  vN : List Value
  lN : Addr
  dE : Addr
  dV : Addr
  dS : Addr
  lO : Addr
  eL : Key → Addr
  Eg : Key → List Key
  vL : Key → Addr
  Vl : Key → List Int
  sh : Key → Option (Option (List Int))
  sL : Key → Addr
  sts : List Key
  vO : List Value
  dep : Nat
structure DrO (prog : Program) (w : World) (r : DrR) (D : Led) : Prop where
  N : LV D r.lN r.vN
  K : KeysL prog w D r.nms r.vN
  E : ES prog w r.nms r.Eg r.eL r.dE D
  V : IS prog w r.nms r.Vl r.vL r.dV D
  S : DS prog w r.sh r.sL r.dS D
  O : LV D r.lO r.vO
  Ok : KeysL prog w D r.sts r.vO
structure DrP (r : DrR) : Prop where
  Sk : ∀ k o, r.sh k = some o → k ∈ r.nms
  Eg : ∀ x ∈ r.nms, (∀ y ∈ r.Eg x, y ∈ r.nms) ∧ (r.Eg x).length ≤ 40
  Vg : ∀ x ∈ r.nms, Good (r.Vl x)
  Sg : ∀ k l, r.sh k = some (some l) → Good l
  nd : r.nms.Nodup
  ok : ∀ k ∈ r.nms, k.ok
  len : 3 ≤ r.nms.length ∧ r.nms.length ≤ 7
  sts : ∀ k ∈ r.sts, k ∈ r.nms ∧ r.sh k = none
  dep : r.dep ≤ 2
section
variable {prog : Program} {w : World} {A : Around} {E : Value → Shared → Prop} {s : Shared}
theorem ifs_one {c : Expr} {env : Env} {Q : Bool → Shared → Prop} (h : wpAny (model prog w) A (isTrue c env (eval c env)) Q E s) :
    wpAny (model prog w) A (forIn [c] true fun c r => if r = true then do let ok ← isTrue c env (eval c env); pure (ForInStep.yield ok) else pure (ForInStep.yield r)) Q E s := by
  rw [List.forIn_cons]
  refine wpAny_bind ?_
  simp only [if_true]
  refine wpAny_bind (wpAny_mono h (fun ok s' h' => wpAny_pure ?_) fun _ _ e => e)
  exact wpAny_pure h'
theorem e_emptyDict {B : Led} {W : List Addr} {D0 : Led} {s0 : Shared} {L : Addr} {vars : Vars} {D : Led} {env : Env} {pos : Pos} {Q : Value → Shared → Prop} (F : At B W D0 s0 L vars D s)
    (h : ∀ d s', D d = none → s0.heap.get? d = none → At B W D0 s0 L vars (D.put d (dctO #[] 0)) s' → DK prog w (D.put d (dctO #[] 0)) d [] → Q (.ref d) s') : wpAny (model prog w) A (eval (.Dict [] [] pos) env) Q E s := by
  rw [eval_Dict_empty]
  refine wpAny_bind (wpAny_standAt ?_)
  simp only [newDict, newObj]
  refine wpAny_bind (wpAny_alloc (wpAny_pure ?_))
  exact h _ _ (F.fresh (Nat.le_refl _)).1 (F.fresh (Nat.le_refl _)).2 (F.push (dctO #[] 0) rfl s.toks) ⟨⟨0, Led.put_same⟩, (fun _ h => nomatch h), List.nodup_nil⟩
end
section
variable {prog : Program} {w : World} {h₁ : Heap} {mg mb : Str → Option Value}
theorem KeysL.take {D : Led} : ∀ {ks : List Key} {vs : List Value} (k : Nat), KeysL prog w D ks vs → KeysL prog w D (ks.take k) (vs.take k)
  | [], [], k, _ => by simp [KeysL]
  | [], _ :: _, _, h => h.elim
  | _ :: _, [], _, h => h.elim
  | i :: is, v :: vs, 0, _ => by simp [KeysL]
  | i :: is, v :: vs, k + 1, h => ⟨h.1, KeysL.take k h.2⟩
theorem KeysL.drop {D : Led} : ∀ {ks : List Key} {vs : List Value} (k : Nat), KeysL prog w D ks vs → KeysL prog w D (ks.drop k) (vs.drop k)
  | ks, vs, 0, h => by simpa using h
  | [], [], k + 1, _ => by simp [KeysL]
  | [], _ :: _, _, h => h.elim
  | _ :: _, [], _, h => h.elim
  | i :: is, v :: vs, k + 1, h => KeysL.drop k h.2
theorem drawn_tail (G : Glo h₁ mg mb) {a : Addr} {cd : Value} {A : Around} {E : Value → Shared → Prop} {D : Led} {s s1 : Shared} {D1 : Led} {Q : Value → Shared → Prop} {c : DrC} {cn hd : Nat} {t1 t2 : Tok} {Eg : Key → List Key} {vL : Key → Addr} {Vl : Key → List Int} {sh : Key → Option (Option (List Int))} {sL : Key → Addr} (hR : Room A 1)
    (F1 : At (hLed h₁) [] D s s.heap.objs.size (dV2 c cn hd t1 t2) D1 s1) (hI : DrI prog w s c c.vT.length Eg vL Vl sh sL D1) (hcn : c.nms.length = cn) (hcn3 : 3 ≤ cn) (hcn7 : cn ≤ 7) (hok : ∀ k ∈ c.nms, k.ok) (hnd : c.nms.Nodup) (hvT : c.vT.length ≤ 40) (hhd : hd < 720720)
    (hcS : c.cS = s.heap.objs.size + 2)
    (hQ : ∀ r T t D' s', Tr [] D s D' s' → DrO prog w r D' → DrP r → D' T = some (tupO #[.ref r.lN, .ref r.dE, .ref r.dV, .ref r.dS, .ref r.lO, .int (r.dep : Nat) t] 0) → s.heap.get? r.dS = none → r.dS = c.dS → Q (.ref T) s') :
    wpAny (model prog w) A (execs ((fBody (fnAt 4)).drop 9) (dEnv s.heap.objs.size a cd)) (fun f s'' => Q (match f with | .ret v => v | _ => .none) s'') E s1 := by
  -- turn
  refine wpAny_execs_cons (wpAny_Assign_Name (wpAny_BinOp (wpAny_BinOp (r_nm F1 rfl (n_const (n := 15) F1 fun t3 s3 F3 => n_div F3 (by decide) (fun t4 s4 F4 => r_nm F4 rfl (n_mod F4 (by omega) fun t5 s5 F5 => r_st F5 fun s6 F6 => ?_)))))) rfl)
  generalize hturn : hd / 15 % cn = tn at F6
  have F6' : At (hLed h₁) [] D s s.heap.objs.size (("turn", .int (tn : Nat) t5) :: dV2 c cn hd t1 t2) D1 s6 := F6.less (sub_put1 (fun _ h => h) (all_ne rfl))
  have hvN : c.vN.length ≤ 7 := by have := hI.K.length; omega
  dsimp only
  -- opened
  have hmods := F6'.notMods G (d := c.dS) (.inr hI.fd.2)
  as_aux_lemma =>
  refine wpAny_execs_cons (x_lcomp F6' (cl := [("shut", s.heap.objs.size + 2)]) (n := (c.vN.drop tn ++ c.vN.take tn).length) (P := fun i v _ => (c.vN.drop tn ++ c.vN.take tn)[i]? = some v) (fun i D ws => ∃ ks, KeysL prog w D ks ws ∧ ∀ k ∈ ks, k ∈ c.nms ∧ sh k = none) ?_ hR.hand (by rw [List.length_append, List.length_drop, List.length_take]; omega) (fun _ _ _ _ h ⟨ks, x, y⟩ => ⟨ks, x.mono h, y⟩) rfl rfl rfl rfl)
  refine wpAny_BinOp (e_sliceFrom (r_nm F6' rfl (r_nm F6' rfl ⟨c.lN, c.vN, tn, t5, D1, rfl, rfl, by omega, F6', lv_is F6' hI.N, by omega, fun r s7 hr1 hr2 F7 => ?_⟩)))
  rw [Int.toNat_natCast] at F7
  have hx7 : Ext0 D1 (D1.put r (lstO (c.vN.drop tn).toArray 0)) := .new hr1
  have hN7 := hI.N.sub hx7.sub
  refine e_sliceTo (r_nm F7 rfl (r_nm F7 rfl ⟨c.lN, c.vN, tn, t5, _, rfl, rfl, by omega, F7, lv_is F7 hN7, by omega, fun r2 s8 hr3 hr4 F8 => ?_⟩))
  rw [Int.toNat_natCast] at F8
  have hx8 := hx7.trans (Ext0.new (o := lstO (c.vN.take tn).toArray 0) hr3)
  refine r_addL F8 ((LV.put_same (D := D1)).sub (Ext0.new hr3).sub) LV.put_same (by rw [List.length_drop, List.length_take]; omega) fun r3 s9 hr5 hr6 F9 => ?_
  have hx9 := hx8.trans (Ext0.new (o := lstO (c.vN.drop tn ++ c.vN.take tn).toArray 0) hr5)
  refine ⟨_, s9, F9, iterGives_list F9.fits LV.put_same, ⟨[], trivial, by simp⟩, ?_, ?_⟩
  · rintro C i v ws vars' D' s' hi FC hv ⟨ks, hks1, hks2⟩ hle E'
    have hx' := hx9.trans FC.tr.ext0
    have hKK : KeysL prog w D1 (c.nms.drop tn ++ c.nms.take tn) (c.vN.drop tn ++ c.vN.take tn) := (hI.K.drop tn).append (hI.K.take tn)
    obtain ⟨k, hk, hkv⟩ := hKK.getV hv
    have hkn : k ∈ c.nms := by
      have := List.mem_of_getElem? hk
      rcases List.mem_append.mp this with q | q
      · exact List.mem_of_mem_drop q
      · exact List.mem_of_mem_take q
    have hkv' := hkv.mono hx'.t
    obtain ⟨xS, hS1, hS2⟩ := hI.S.dict
    have hS1' := hS1.sub hx'.sub
    have hc' : CV D' (s.heap.objs.size + 2) (some (.ref c.dS)) := hcS ▸ hI.cS.mono fun o e => hx' _ o e
    refine wpAny_assign_Name (r_st FC fun s3 F3 => ?_)
    refine ifs_one (wpAny_isTrue_Compare1 (r_nm F3 rfl (r_cell F3 rfl hc' (r_notInD F3 hS1' hkv' hmods (hR.u (by decide)) fun s4 F4 => wpAny_truthy_bool ?_))))
    by_cases hmem : k ∈ xS.map (·.1)
    · refine ite_f (by simp only [hmem, decide_true, Bool.not_true]) ?_
      exact ⟨_, D', F4, .refl _, ks, hks1, hks2⟩
    · refine ite_t (by simp only [hmem, decide_false, Bool.not_false]) ?_
      refine r_nm F4 rfl ⟨_, D', F4, .refl _, ks ++ [k], hks1.append ⟨hkv', trivial⟩, fun z hz => ?_⟩
      rcases List.mem_append.mp hz with hz | hz
      · exact hks2 z hz
      · rw [List.mem_singleton] at hz; subst hz
        refine ⟨hkn, ?_⟩
        have := look_none.mpr hmem
        rw [hS2] at this
        cases e : sh z with
        | none => rfl
        | some o => rw [e] at this; cases this
  rintro lA vA D2 s10 F10 hx10 hn1 hn2 hLv ⟨ks, hks1, hks2⟩ hle
  have hx := hx9.trans hx10
  have F10' : At (hLed h₁) [] D s s.heap.objs.size (("opened", .ref lA) :: ("turn", .int (tn : Nat) t5) :: dV2 c cn hd t1 t2) D2 s10 := F10.less (sub_put1 (fun _ h => h) (all_ne rfl))
  have zA : vA.length ≤ 1000 := by rw [List.length_append, List.length_drop, List.length_take] at hle; omega
  dsimp only
  as_aux_lemma =>
  refine wpAny_execs_cons (wpAny_Return_some (Tuple_ (args_cons (r_nm F10' rfl (args_cons (r_nm F10' rfl (args_cons (r_nm F10' rfl (args_cons (r_cell F10' rfl (hcS ▸ hI.cS.mono fun o e => hx _ o e) (args_cons ?_)))))))))))
  refine e_sliceTo (r_nm F10' rfl (wpAny_BinOp (n_const (n := 1) F10' fun t11 s11 F11 => wpAny_BinOp (wpAny_BinOp (r_nm F11 rfl (n_const (n := 360) F11 fun t12 s12 F12 => n_div F12 (by decide) (fun t13 s13 F13 => n_const (n := 3) F13 fun t14 s14 F14 => n_mod F14 (by decide) fun t15 s15 F15 => n_add F15 fun t16 s16 F16 => ⟨lA, vA, _, _, D2, rfl, rfl, by omega, F16, lv_is F16 hLv, by omega, fun r4 s17 hr7 hr8 F17 => ?_⟩)))))))
  have hx17 := hx.trans (Ext0.new (o := lstO (vA.take (Int.toNat ((1 + hd / 360 % 3 : Nat) : Int))).toArray 0) hr7)
  refine args_cons (wpAny_BinOp (wpAny_BinOp (r_nm F17 rfl (n_const (n := 120) F17 fun t18 s18 F18 => n_div F18 (by decide) (fun t19 s19 F19 => n_const (n := 3) F19 fun t20 s20 F20 => n_mod F20 (by decide) fun t21 s21 F21 => args_nil (r_newTuple F21 (by simp) fun T s22 hT1 hT2 F22 => ?_))))))
  have hxT := hx17.trans (Ext0.new (o := tupO [Value.ref c.lN, Value.ref c.dE, Value.ref c.dV, Value.ref c.dS, Value.ref r4, Value.int ((hd / 120 % 3 : Nat) : Int) t21].toArray 0) hT1)
  obtain ⟨xV, hV1, hV2, hV3⟩ := hI.Vd
  refine hQ ⟨c.nms, c.vN, c.lN, c.dE, c.dV, c.dS, r4, c.eL, Eg, vL, Vl, sh, sL, ks.take (1 + hd / 360 % 3), vA.take (1 + hd / 360 % 3), hd / 120 % 3⟩ T t21 _ s22 F22.tr ⟨hI.N.sub hxT.sub, hI.K.mono hxT.t, hI.E.sub hxT.sub, ⟨⟨xV, hV1.sub hxT.sub, hV3⟩, fun x hx => let ⟨ws, a, b⟩ := hI.Vv x hx; ⟨ws, a.sub hxT.sub, b⟩⟩, hI.S.sub hxT.sub, ?_, ?_⟩ ⟨hI.Sk, fun x hx => ⟨(hI.Eg1 x hx).1, Nat.le_trans (hI.Eg1 x hx).2 hvT⟩, hI.Vg, hI.Sg, hnd, hok, ⟨by show 3 ≤ c.nms.length; omega, by show c.nms.length ≤ 7; omega⟩, fun k hk => hks2 k (List.mem_of_mem_take hk), by show hd / 120 % 3 ≤ 2; omega⟩ Led.put_same hI.fd.2 rfl
  · exact (LV.put_same (D := D2) (n := 0)).sub (Ext0.new hT1).sub
  · exact ((hks1.take _).mono (Ext0.new hr7).t).mono (Ext0.new hT1).t
end
end Mine
end

section
open PySem PySem.W PyProof.Rows
set_option Elab.async false
set_option maxRecDepth 100000
namespace Mine
section
variable {prog : Program} {w : World} {h₁ : Heap} {mg mb : Str → Option Value}
theorem drawn_ok (G : Glo h₁ mg mb) {a : Addr} {o : Obj} {pm cd doc : Value} (ho : h₁.get? a = some o)
    (hdata : o.data = .func (PySem.Calls.docDef "_law_drawn" (fParams (fnAt 4)) (fBody (fnAt 4)) (fScope (fnAt 4)) pm cd doc)) (hcd : h₁.CodeRec cd "_law_drawn")
    {A : Around} {E : Value → Shared → Prop} {D : Led} {s : Shared} {Q : Value → Shared → Prop} {l : Addr} {vs : List Value} {ns : List Int} (hR : Room A 2) (hF : Fits D s) (hB : ∀ a o, hLed h₁ a = some o → D a = some o)
    (hl : s.heap.IsList l vs.toArray) (hi : IntsAre vs ns) (hz : vs.length ≤ 1000)
    (hQ : ∀ r T t D' s', Tr [] D s D' s' → DrO prog w r D' → DrP r → D' T = some (tupO #[.ref r.lN, .ref r.dE, .ref r.dV, .ref r.dS, .ref r.lO, .int (r.dep : Nat) t] 0) → s.heap.get? r.dS = none → Q (.ref T) s') :
    wpAny (model prog w) A (call (.ref a) [.ref l]) Q E s := by
  refine r_callC (x := "script") (W' := []) hF hB (fun b hb => nomatch hb) G ho hdata hcd hR.d rfl rfl ?_ rfl rfl rfl
  intro s1 D1 F1 hx1 hcells
  obtain ⟨cK1, cK2⟩ := hcells "kind" (s.heap.objs.size + 1) rfl
  obtain ⟨cS1, cS2⟩ := hcells "shut" (s.heap.objs.size + 2) rfl
  clear hcells
  have hR1 : Room (A.deeper (envOfC "_law_drawn" (fScope (fnAt 4)) s.heap.objs.size a cd)) 1 := hR.deeper
  generalize (A.deeper (envOfC "_law_drawn" (fScope (fnAt 4)) s.heap.objs.size a cd)) = A1 at hR1
  have hl1 : s1.heap.IsList l vs.toArray := hl.at fun o e => F1.tr.keep _ o (by simp) e
  refine drawn_head (rest := []) hR1 F1 cK1 cK2 cS1 hl1 hi hz fun lT wT ms hd t1 t2 t3 D2 s2 F2 hT0 _ hT hms hm7 hml hhd cK cS => ?_
  have hwT : wT.length ≤ 40 := by have := IntsL.length hms; rw [List.length_map] at this; omega
  refine drawn_names G hR1 F2 cK fun lN vN D3 s3 F3 hx3 hN0 hN0' hN hK => ?_
  have hcn3 : 3 ≤ 3 + hd % 5 := by omega
  have hcn7 : 3 + hd % 5 ≤ 7 := by omega
  have hnl := nmsOf_len (hd / 5 % 3) (3 + hd % 5)
  have hnd := nmsOf_nodup (hd / 5 % 3) (3 + hd % 5)
  have hok := nmsOf_ok (kind := hd / 5 % 3) hcn7
  generalize hnm : nmsOf (hd / 5 % 3) (3 + hd % 5) = nms at hK hnl hnd hok
  generalize hcn : 3 + hd % 5 = cn at F3 hnl hcn3 hcn7
  have hlNT : lN ≠ lT := fun q => by obtain ⟨o, e⟩ := hT.some; rw [← q, hN0'] at e; cases e
  refine drawn_edges hR1 F3 hN hK hnd (by omega) fun dE xE D4 s4 F4 hx4 hE0 hE hEI => ?_
  have hT4 := (hT.sub hx3.sub).sub hx4.sub
  have hN4 := hN.sub hx4.sub
  have hK4 := hK.mono hx4.t
  refine drawn_values G hR1 F4 hN4 hK4 hnd (by omega) fun dV xV D5 s5 F5 hx5 hV0 hV0' hV hVI => ?_
  obtain ⟨eL, heL⟩ := hEI.refs (fun k v ⟨a, e, _⟩ => ⟨a, e⟩)
  obtain ⟨vL, hvL⟩ := hVI.refs (fun k v ⟨a, _, _, e, _⟩ => ⟨a, e⟩)
  have hcS5 := ((cS.mono fun o e => hx3 _ o e).mono fun o e => hx4 _ o e).mono fun o e => hx5 _ o e
  -- shut = {}
  refine wpAny_execs_cons (wpAny_Assign_Name (e_emptyDict (prog := prog) (w := w) F5 fun dS s6 hS1 hS2 F6 hS3 => ?_) rfl)
  have hx6 : Ext0 D5 (D5.put dS (dctO #[] 0)) := .new hS1
  refine r_stc F6 rfl (hcS5.mono fun o e => hx6 _ o e) (.inr cS2) fun oS s7 F7 hcv ht7 => ?_
  have hcL : ∀ {a : Addr} {ws : List Value}, LV (D5.put dS (dctO #[] 0)) a ws → a ≠ s.heap.objs.size + 2 := fun {a ws} h => Ne.symm ((hcS5.mono fun o e => hx6 _ o e).neL h)
  have hcD : ∀ {a : Addr} {xs : KVs}, DK prog w (D5.put dS (dctO #[] 0)) a xs → a ≠ s.heap.objs.size + 2 := fun {a xs} h => Ne.symm ((hcS5.mono fun o e => hx6 _ o e).neD h)
  have lv7 : ∀ {a : Addr} {ws : List Value}, LV D5 a ws → LV ((D5.put dS (dctO #[] 0)).put (s.heap.objs.size + 2) oS) a ws := fun {a ws} h => (h.sub hx6.sub).put_other (hcL (h.sub hx6.sub))
  have dk7 : ∀ {a : Addr} {xs : KVs}, DK prog w D5 a xs → DK prog w ((D5.put dS (dctO #[] 0)).put (s.heap.objs.size + 2) oS) a xs := fun {a xs} h => (h.sub hx6.sub).put_other (hcD (h.sub hx6.sub)) ht7
  have dne : ∀ {a : Addr} {xs : KVs}, DK prog w D5 a xs → a ≠ dS := fun {a xs} h q => by obtain ⟨o, e⟩ := h.some; rw [q, hS1] at e; cases e
  have eL5 : ∀ k ∈ nms, LV D5 (eL k) [] ∧ D3 (eL k) = none ∧ s.heap.get? (eL k) = none := fun k hk => by
    obtain ⟨_, a, e, r, q1, q2⟩ := heL k hk
    injection e with e; subst e
    exact ⟨r.sub hx5.sub, q1, q2⟩
  have vL5 : ∀ k ∈ nms, ∃ i t, LV D5 (vL k) [.int ((10 + i : Nat) : Int) t] ∧ i < 7 ∧ D4 (vL k) = none ∧ s.heap.get? (vL k) = none := fun k hk => by
    obtain ⟨_, a, i, t, e, r, q0, q1, q2⟩ := hvL k hk
    injection e with e; subst e
    exact ⟨i, t, r, q0, q1, q2⟩
  have hD3T : ∃ o, D3 lT = some o := (hT.sub hx3.sub).some
  have hD3N : ∃ o, D3 lN = some o := hN.some
  have ne3 : ∀ {a b : Addr}, D3 a = none → (∃ o, D3 b = some o) → a ≠ b := fun {a b} h ⟨o, e⟩ q => by rw [q, e] at h; cases h
  have ne4 : ∀ {a b : Addr}, D4 a = none → (∃ o, D4 b = some o) → a ≠ b := fun {a b} h ⟨o, e⟩ q => by rw [q, e] at h; cases h
  let Vl : Key → List Int := fun k => if h : k ∈ nms then [((10 + Classical.choose (vL5 k h) : Nat) : Int)] else []
  have hVl : ∀ k ∈ nms, ∃ i t, LV D5 (vL k) [.int ((10 + i : Nat) : Int) t] ∧ i < 7 ∧ Vl k = [((10 + i : Nat) : Int)] := fun k hk => by
    obtain ⟨t, r, q0, _⟩ := Classical.choose_spec (vL5 k hk)
    exact ⟨Classical.choose (vL5 k hk), t, r, q0, dif_pos hk⟩
  let c : DrC := ⟨nms, vN, wT, lN, lT, dE, dV, dS, s.heap.objs.size + 2, eL⟩
  have hI : DrI prog w s c 0 (fun _ => []) vL Vl (fun _ => none) (fun _ => 0) ((D5.put dS (dctO #[] 0)).put (s.heap.objs.size + 2) oS) := by
    have h5T : LV D5 lT wT := hT4.sub hx5.sub
    have h5N : LV D5 lN vN := hN4.sub hx5.sub
    have t57 : TSub D5 ((D5.put dS (dctO #[] 0)).put (s.heap.objs.size + 2) oS) := hx6.t.trans ht7
    refine ⟨lv7 h5T, lv7 h5N, (hK4.mono hx5.t).mono t57, ⟨⟨xE, dk7 (hE.sub hx5.sub), fun x hx => (heL x hx).1⟩, fun x hx => ⟨[], lv7 (eL5 x hx).1, trivial⟩⟩, ⟨xV, dk7 hV, fun k hk => by rw [hVI.keys] at hk; exact hk, fun x hx => (hvL x hx).1⟩, fun x hx => ?_, ⟨⟨[], (hS3.put_other (hcD hS3) ht7), fun k => rfl⟩, fun k l h => nomatch h⟩, (fun k o h => nomatch h), hcv, fun x hx => ⟨(fun y h => nomatch h), Nat.le_refl _⟩, fun x hx => ?_, (fun k l h => nomatch h), fun x hx y hy e => ?_, fun x hx y hy e => ?_, fun x hx y hy => ?_, fun x hx => ⟨ne3 (eL5 x hx).2.1 hD3N, ne3 (eL5 x hx).2.1 hD3T⟩, fun x hx => ?_, (fun k l h => nomatch h), ⟨dne hV, dne (hE.sub hx5.sub), ?_⟩, fun x hx => (eL5 x hx).2.2, fun x hx => ?_, ⟨hV0, hS2⟩⟩
    · obtain ⟨i, t, r, _, e⟩ := hVl x hx
      exact ⟨_, lv7 r, by rw [e]; exact ⟨⟨t, rfl⟩, trivial⟩⟩
    · obtain ⟨i, t, r, h7, e⟩ := hVl x hx
      rw [e]
      exact ⟨by simp, fun z hz => by rw [List.mem_singleton] at hz; subst hz; omega⟩
    · exact hEI.inj trivial x hx y hy (by rw [(heL x hx).1, (heL y hy).1]; exact congrArg (fun a => some (Value.ref a)) e)
    · exact hVI.inj trivial x hx y hy (by rw [(hvL x hx).1, (hvL y hy).1]; exact congrArg (fun a => some (Value.ref a)) e)
    · obtain ⟨_, a, e, r, _⟩ := heL x hx
      injection e with e; subst e
      obtain ⟨i, t, _, _, q, _⟩ := vL5 y hy
      exact Ne.symm (ne4 q r.some)
    · obtain ⟨i, t, _, _, q, _⟩ := vL5 x hx
      exact ⟨ne4 q hN4.some, ne4 q hT4.some⟩
    · intro q
      have q' : dE = dV := q
      obtain ⟨o1, e1⟩ := hE.some
      rw [q', hV0'] at e1; cases e1
    · obtain ⟨i, t, _, _, _, q⟩ := vL5 x hx
      exact q
  refine drawn_loop (c := c) hR1 (F7) hI hnl hcn3 hcn7 hok (by show wT.length ≤ 1000; omega) hms hm7 rfl cS2 fun D8 s8 Eg vL8 Vl8 sh8 sL8 F8 hI8 => ?_
  exact drawn_tail G hR1 F8 hI8 hnl hcn3 hcn7 hok hnd hwT hhd rfl fun r T t D9 s9 T9 hO hP hT hS hS' => hQ r T t D9 s9 T9 hO hP hT hS
end
end Mine
end

section
open PySem PySem.W PyProof.Rows
set_option Elab.async false
set_option maxRecDepth 100000
namespace Mine
section
variable {prog : Program} {w : World} {A : Around} {E : Value → Shared → Prop} {h₁ : Heap} {mg mb : Str → Option Value} {W : List Addr} {D0 : Led} {s0 : Shared} {L : Addr} {vars : Vars} {D : Led} {s : Shared} {env : Env}
/-- a call of an inner def -/
theorem r_callX {name qual : Str} {params : Arguments} {body : List Stmt} {scope : Scope} {cl : List (Str × Addr)} {pm doc ctv : Value} {c' a : Addr} {args : List Value} {binds : Vars} {W' : List Addr} {Q : Value → Shared → Prop}
    (hF : Fits D s) (hB : ∀ a o, hLed h₁ a = some o → D a = some o) (hW : ∀ b ∈ W', hLed h₁ b = none)
    (G : Glo h₁ mg mb) (ho : D a = some (fnMade name qual params body scope cl doc pm c' ctv)) (hcd : s.heap.CodeRec (.ref c') qual)
    (hroom : A.depth < recursionLimit)
    (hbind : bindArgs (fnX name qual params body scope cl .none .none doc pm none (.ref c') ctv) ⟨args, []⟩ = pure binds)
    (hloc : ∀ x ∈ binds, scope.names.lookup x.1 = some .local) (hnd : (binds.map (·.1)).Nodup)
    (h : ∀ s', At (hLed h₁) W' D s s.heap.objs.size binds D s' →
      wpAny (model prog w) (A.deeper (envX qual scope s.heap.objs.size a (.ref c') cl)) (execs body (envX qual scope s.heap.objs.size a (.ref c') cl))
        (fun f s'' => Q (match f with | .ret v => v | _ => .none) s'') (fun _ _ => False) s')
    (hco : scope.isCoroutine = false) (hgen : scope.isGenerator = false) (hk : scope.kind = .function)
    (hcell : ∀ x ∈ scope.names, x.2 ≠ .cell) :
    wpAny (model prog w) A (call (.ref a) args) Q E s := by
  have kept : ∀ b o, h₁.get? b = some o → s.heap.get? b = some o := fun b o e => hF b o (hB b o e)
  refine wpAny_call (codeAny_call_def (fd := fnX name qual params body scope cl .none .none doc pm none (.ref c') ctv) (body := body) (binds := binds) hroom (hF _ _ ho) rfl (G.lim.keeps kept) hcd rfl (BindsTo.of_eq hbind) hcell hloc (fun h' hns hk' => ?_) hco hgen hk)
  refine wpAny_mono (h _ ?_) (fun _ _ x => x) fun _ _ x => x.elim
  exact ⟨(Tr.same (W := []) hF (fun b o _ e => hk' b o e) (fun b hb => nomatch hb) (fun b hb => nomatch hb) _).weaken (fun b hb => nomatch hb), ⟨_, hns, fun p hp => lookup_rev_of_nodup hnd hp⟩, get?_ge (Nat.le_refl _), hF.fresh (Nat.le_refl _), hB, hB, hW⟩
def CodeL (D : Led) (c : Addr) (qual : Str) : Prop := ∃ o vs t, D c = some o ∧ o.data = .fields vs ∧ vs[1]? = some (.str qual t)
theorem CodeL.rec {c : Addr} {qual : Str} (x : CodeL D c qual) (F : Fits D s) : s.heap.CodeRec (.ref c) qual := let ⟨o, vs, t, e, r⟩ := x; ⟨c, o, vs, t, rfl, F _ _ e, r⟩
/-- an inner def is made -/
theorem r_def {name : Str} {params : Arguments} {body : List Stmt} {scope : Scope} {pos : Pos} {clos : List (Str × Addr)} {c P : Addr} {ps : Array Value} {Q : Flow → Shared → Prop} (F : At (hLed h₁) W D0 s0 L vars D s) (G : Glo h₁ mg mb)
    (hbm : ∃ bm o, mg "__builtins__" = some (.ref bm) ∧ bm ≠ builtinsNs ∧ bm ≠ mainGlobals ∧ h₁.get? bm = some o ∧ o.cls = .type "module" ∧ o.dict = some builtinsNs ∧ o.data = .plain)
    (hC : CodeHd h₁ c P) (hP : D P = some (tabObj ps)) (hPW : P ∈ W ∨ s0.heap.get? P = none) (hPh : hLed h₁ P = none) (ht : TriplesOk ps.toList) (hnf : codeAmong pos ps.toList = none)
    (h : ∀ c' ctv doc f D' s', At (hLed h₁) W D0 s0 L (vars.put name (.ref f)) D' s' → (∀ a o, a ≠ P → D a = some o → D' a = some o) → D' P = some (tabObj (ps ++ #[rawInt pos.line, rawInt pos.col, .ref c'])) →
      D' f = some (fnMade name (qualnameIn env name name) params body scope clos doc ((mg "__name__").getD .none) c' ctv) → CodeL D' c' (qualnameIn env name name) → s.heap.get? f = none → s.heap.get? c' = none → Q .next s')
    (hcl : closureFor scope env = pure clos) (hcode : env.code = .ref c) (hd0 : params.defaults = [] := by rfl) (hk0 : params.kw_defaults = [] := by rfl) (ha : annTrees params none env = [] := by rfl)
    (hge0 : env.globals = mainGlobals := by rfl) (hL : env.locals = L := by rfl) (hk : env.scope.kind = .function := by rfl) (hl : env.kindOf name = some .local := by rfl) :
    wpAny (model prog w) A (exec (.FunctionDef name params body [] none [] scope none name pos) env) Q E s := by
  have hg := G.g.keeps F.kept
  have hgP : mainGlobals ≠ P := fun q => by
    obtain ⟨o, es, ep, e, hd, _⟩ := G.g
    rw [q] at e; rw [show h₁.get? P = none from hPh] at e; cases e
  obtain ⟨bm, ob, b1, b2, b3, b4, b5, b6, b7⟩ := hbm
  have hbP : bm ≠ P := fun q => by rw [q, show h₁.get? P = none from hPh] at b4; cases b4
  refine nestDef_K hd0 hk0 ha (makeFunction_K (mg := mg) hcl hge0 hg hcode (hC.keeps F.kept) (F.get hP) ht hnf hgP ⟨bm, ob, b1, b2, b3, hbP, F.kept _ _ b4, b5, b6, b7⟩ fun c' ctv doc h' tk hx hge hlt hrec htb => ?_)
  obtain ⟨c₂, oc, vs, t, e2, hoc, hd, hv⟩ := hrec
  cases e2
  have hPf : P ≠ h'.objs.size := fun q => by rw [q] at htb; rw [get?_ge (Nat.le_refl _)] at htb; cases htb
  have hcf : c' ≠ h'.objs.size := Nat.ne_of_lt hlt
  have hsz : s.heap.objs.size ≤ h'.objs.size := Nat.le_trans hge (Nat.le_of_lt hlt)
  have T := Tr.redo (W := [P]) (N := [h'.objs.size, c']) (h' := h'.push (fnMade name (qualnameIn env name name) params body scope clos doc ((mg "__name__").getD .none) c' ctv)) F.fits (fun b o hb e => Heap.get?_push_of_some _ (hx b o (by simpa using hb) e)) (fun b hb => by rw [List.mem_singleton] at hb; subst hb; exact ⟨_, Heap.get?_push_of_some _ htb⟩)
    (fun b hb => by
      simp only [List.mem_cons, List.not_mem_nil, or_false] at hb
      rcases hb with rfl | rfl
      · exact get?_ge hsz
      · exact get?_ge hge) tk
  have F1 := F.step T fun b hb => by rw [List.mem_singleton] at hb; subst hb; exact ⟨⟨_, hP⟩, hPW⟩
  refine r_st F1 (fun s2 F2 => h c' ctv doc h'.objs.size _ s2 F2 (fun a o ha e => T.ext a o (by simpa using ha) e) ?_ ?_ ⟨oc, vs, t, ?_, hd, hv⟩ (get?_ge hsz) (get?_ge hge)) hL hk hl
  · show (if _ ∨ _ then _ else _) = _
    rw [if_pos (.inl (by simp))]; exact Heap.get?_push_of_some _ htb
  · show (if _ ∨ _ then _ else _) = _
    rw [if_pos (.inr (by simp))]; exact Heap.get?_push_size _ rfl
  · show (if _ ∨ _ then _ else _) = _
    rw [if_pos (.inr (by simp))]; exact Heap.get?_push_of_some _ hoc
end
end Mine
end

section
open PySem PySem.W PyProof.Rows
set_option Elab.async false
set_option maxRecDepth 100000
namespace Mine
section
variable {prog : Program} {w : World} {A : Around} {E : Value → Shared → Prop} {D : Led} {s : Shared}
/-- two dicts with the same keys and like values -/
theorem same_pairs {nm : String} {a b : Addr} {xa xb : KVs} {Q : Bool → Shared → Prop} (F : Fits D s) (ha : (a == sysModules) = false) (hb : (b == sysModules) = false) (da : DK prog w D a xa) (db : DK prog w D b xb) (hu : A.units < cLine)
    (hl : xa.length = xb.length) (hits : ∀ p ∈ xa, ∃ y, look xb p.1 = some y ∧ SeqAt.EqAt A s p.2.2 y true) (h : Q true s) :
    wpAny (model prog w) A (Builtin.Dict.samePairs nm a b) Q E s := by
  obtain ⟨na, hoa⟩ := da.obj
  obtain ⟨nb, hob⟩ := db.obj
  have hga := F _ _ hoa
  have hgb := F _ _ hob
  have hsa : (xa.map (ent prog w)).toArray.size = xa.length := by simp
  have hsb : (xb.map (ent prog w)).toArray.size = xb.length := by simp
  unfold Builtin.Dict.samePairs Builtin.Dict.showsAll
  rw [if_neg (show ¬ (a == sysModules) = true by rw [ha]; exact Bool.false_ne_true), if_neg (show ¬ (b == sysModules) = true by rw [hb]; exact Bool.false_ne_true)]
  refine wpAny_bind (wpAny_pure (wpAny_bind (wpAny_pure ?_)))
  refine wpAny_bind (wpAny_dictEntries hga rfl ?_)
  dsimp only
  refine wpAny_bind (wpAny_dictEntries hgb rfl ?_)
  rw [if_neg (by rw [hsa, hsb, hl]; simp)]
  refine wpAny_bind (wpAny_dictEpoch hga rfl ?_)
  refine wpAny_bind ?_
  rw [Std.Legacy.Range.forIn_eq_forIn_range']
  simp only [Std.Legacy.Range.size, Nat.sub_zero, Nat.add_sub_cancel, Nat.div_one]
  refine wpAny_forIn_list _ (fun rest q s' => s' = s ∧ q = (none, ()) ∧ ∃ i, rest = List.range' i ((xa.map (ent prog w)).toArray.size - i) ∧ i ≤ (xa.map (ent prog w)).toArray.size) _ ?_ ?_ _ _ ⟨rfl, rfl, 0, by simp, Nat.zero_le _⟩
  · rintro x rest q s' ⟨rfl, rfl, i, hr, hi⟩
    have hlt : i < (xa.map (ent prog w)).toArray.size := by
      rcases Nat.lt_or_ge i (xa.map (ent prog w)).toArray.size with h | h
      · exact h
      · rw [Nat.sub_eq_zero_of_le h] at hr; simp at hr
    obtain ⟨rfl, hrest⟩ : x = i ∧ rest = List.range' (i + 1) ((xa.map (ent prog w)).toArray.size - (i + 1)) := by
      have e : (xa.map (ent prog w)).toArray.size - i = ((xa.map (ent prog w)).toArray.size - (i + 1)) + 1 := by omega
      rw [e, List.range'_succ] at hr
      injection hr with h1 h2
      exact ⟨h1, h2⟩
    refine wpAny_bind (wpAny_dictEntries hga rfl ?_)
    have hlt' : x < xa.length := by rw [← hsa]; exact hlt
    have hentry : (xa.map (ent prog w)).toArray[x]? = some (ent prog w xa[x]) := by simp [hlt']
    rw [hentry]
    have hmem : xa[x] ∈ xa := List.getElem_mem hlt'
    obtain ⟨y, hy, he⟩ := hits _ hmem
    have hkey := (da.keys _ hmem).h F
    show wpAny _ _ (holding [(ent prog w xa[x]).key, (ent prog w xa[x]).val] _ >>= _) _ _ _
    refine wpAny_bind (wpAny_holding (wpAny_bind (find_key (es := (xb.map (ent prog w)).toArray) hu hkey hgb rfl (by simp) (fun z hz => (db.keys z hz).h F) db.nodup ?_ ?_)))
    · intro hno
      rw [look_no hno] at hy; cases hy
    · intro j p hj
      rw [look_at db.nodup hj] at hy
      injection hy with hy
      refine wpAny_bind (wpAny_dictEntries hgb rfl ?_)
      rw [ent_at (prog := prog) (w := w) (xs := xb) (by simp) j, hj]
      rw [← hy] at he
      refine wpAny_holding (he prog w _ _ ?_)
      show wpAny _ _ (if (!true) = true then _ else _) _ _ _
      rw [if_neg (by decide)]
      refine wpAny_bind (wpAny_dictEpoch hga rfl ?_)
      rw [if_neg (by simp)]
      exact wpAny_pure ⟨rfl, rfl, x + 1, hrest, hlt⟩
  · rintro q s' ⟨rfl, rfl, i, hr, hi⟩
    exact wpAny_pure h
theorem dict_ne {a b : Addr} {xa xb : KVs} {Q : Value → Shared → Prop} (F : Fits D s) (ha : (a == sysModules) = false) (hb : (b == sysModules) = false) (da : DK prog w D a xa) (db : DK prog w D b xb) (hu : A.units + 2 < cLine)
    (hl : xa.length = xb.length) (hits : ∀ p ∈ xa, ∃ y, look xb p.1 = some y ∧ SeqAt.EqAt A.in1 s p.2.2 y true) (h : Q (.bool false) s) :
    wpAny (model prog w) A (compareOp .NotEq (.ref a) (.ref b)) Q E s := by
  obtain ⟨na, hoa⟩ := da.obj
  obtain ⟨nb, hob⟩ := db.obj
  have hTa : s.TypeIs (.ref a) "dict" := ⟨_, F _ _ hoa, rfl⟩
  have hTb : s.TypeIs (.ref b) "dict" := ⟨_, F _ _ hob, rfl⟩
  refine wpAny_richCompare_same_room (op := .NotEq) hTa hTb PySem.F.slot_dict_ne (wpAny_call_entry PySem.F.slot_dict_ne hTa PySem.F.entry_dict_ne ?_ (PySem.F.args_dict_ne_2 _ _)) (by omega)
  show wpAny _ _ (Builtin.Dict.dictSlotArgs "__ne__" ⟨[.ref a, .ref b], []⟩ >>= _) _ _ s
  refine wpAny_bind ?_
  unfold Builtin.Dict.dictSlotArgs
  refine wpAny_bind (wpAny_notOrdered_dict hTa ?_)
  show wpAny _ _ (pure (Value.ref a, Value.ref b)) _ _ s
  refine wpAny_pure ?_
  refine wpAny_bind (wpAny_isInstance (T := "dict") hTb PySem.F.sub_dict_dict ?_)
  simp only [Bool.not_true, Bool.false_eq_true, if_false]
  refine wpAny_bind (wpAny_pure (wpAny_bind (wpAny_pure ?_)))
  refine wpAny_bind (same_pairs F ha hb da db (by show A.units + 1 < cLine; omega) hl hits ?_)
  refine wpAny_pure ⟨_, rfl, ?_, ?_⟩
  · exact fun x => nomatch x
  · simpa using h
end
end Mine
end

section
open PySem PySem.W PyProof.Rows
set_option Elab.async false
set_option maxRecDepth 100000
namespace Mine
/-! all but iterators and cells stays -/
def Mo (D D' : Led) : Prop := ∀ a o, D a = some o → o.cls ≠ .type "list_iterator" → o.cls ≠ .none → (∀ v, o.data ≠ .cell v) → D' a = some o
def NC (D D' : Led) : Prop := ∀ a o, D a = some o → (∀ v, o.data ≠ .cell v) → D' a = some o
theorem NC.trans {D D' D'' : Led} (x : NC D D') (y : NC D' D'') : NC D D'' := fun a o e h => y a o (x a o e h) h
theorem Ext0.nc {D D' : Led} (x : Ext0 D D') : NC D D' := fun a o e _ => x a o e
theorem NC.mo {D D' : Led} (x : NC D D') : Mo D D' := fun a o e _ _ h => x a o e h
theorem Mo.refl (D : Led) : Mo D D := fun _ _ e _ _ _ => e
theorem Mo.trans {D D' D'' : Led} (x : Mo D D') (y : Mo D' D'') : Mo D D'' := fun a o e h1 h2 h3 => y a o (x a o e h1 h2 h3) h1 h2 h3
theorem Sub.mo {D D' : Led} (x : Sub D D') : Mo D D' := fun a o e h _ _ => x a o e h
theorem Ext0.mo {D D' : Led} (x : Ext0 D D') : Mo D D' := fun a o e _ _ _ => x a o e
theorem Mo.t {D D' : Led} (x : Mo D D') : TSub D D' := fun a o c e => x a o e (by rw [c.1]; simp) (by rw [c.1]; simp) (fun v h => by obtain ⟨_, _, q⟩ := c.2; rw [q] at h; cases h)
theorem NC.cell {D : Led} {c : Addr} {v : Option Value} {o : Obj} (h : CV D c v) : NC D (D.put c o) := fun a o' e hc => by
  rw [Led.put_other (fun q => by obtain ⟨o2, e2, d2⟩ := h; rw [q, e2] at e; injection e with e; subst e; exact hc _ d2)]; exact e
section
variable {prog : Program} {w : World} {D D' : Led}
theorem LV.mo {l : Addr} {vs : List Value} (x : LV D l vs) (h : Mo D D') : LV D' l vs := let ⟨n, e⟩ := x; ⟨n, h _ _ e (by simp [lstO]) (by simp [lstO]) (by simp [lstO])⟩
theorem DK.mo {d : Addr} {xs : KVs} (x : DK prog w D d xs) (h : Mo D D') : DK prog w D' d xs :=
  ⟨let ⟨n, e⟩ := x.obj; ⟨n, h _ _ e (by simp [dctO]) (by simp [dctO]) (by simp [dctO])⟩, fun y hy => (x.keys y hy).mono h.t, x.nodup⟩
theorem ES.mo {nms : List Key} {Eg : Key → List Key} {eL : Key → Addr} {dE : Addr} (x : ES prog w nms Eg eL dE D) (h : Mo D D') : ES prog w nms Eg eL dE D' :=
  ⟨let ⟨xs, h1, h2⟩ := x.dict; ⟨xs, h1.mo h, h2⟩, fun y hy => let ⟨ws, h1, h2⟩ := x.list y hy; ⟨ws, h1.mo h, h2.mono h.t⟩⟩
theorem IS.mo {nms : List Key} {Vl : Key → List Int} {vL : Key → Addr} {dV : Addr} (x : IS prog w nms Vl vL dV D) (h : Mo D D') : IS prog w nms Vl vL dV D' :=
  ⟨let ⟨xs, h1, h2⟩ := x.dict; ⟨xs, h1.mo h, h2⟩, fun y hy => let ⟨ws, h1, h2⟩ := x.list y hy; ⟨ws, h1.mo h, h2⟩⟩
theorem DS.mo {dn : Key → Option (Option (List Int))} {oL : Key → Addr} {dD : Addr} (x : DS prog w dn oL dD D) (h : Mo D D') : DS prog w dn oL dD D' :=
  ⟨let ⟨xs, h1, h2⟩ := x.dict; ⟨xs, h1.mo h, h2⟩, fun y l hy => let ⟨ws, h1, h2⟩ := x.list y l hy; ⟨ws, h1.mo h, h2⟩⟩
theorem DrO.mo {r : DrR} (x : DrO prog w r D) (h : Mo D D') : DrO prog w r D' := ⟨x.N.mo h, x.K.mono h.t, x.E.mo h, x.V.mo h, x.S.mo h, x.O.mo h, x.Ok.mono h.t⟩
theorem NI.mo {d : Addr} {nms : List Key} {N : Key → Int} (x : NI prog w D d nms N) (h : Mo D D') : NI prog w D' d nms N := let ⟨xs, h1, r⟩ := x; ⟨xs, h1.mo h, r⟩
theorem KI.mo {l : Addr} {pre : List Value} {ks : List Key} (x : KI prog w D l pre ks) (h : Mo D D') : KI prog w D' l pre ks := let ⟨vs, h1, r⟩ := x; ⟨vs, h1.mo h, r.mono h.t⟩
theorem FI.mo {d : Addr} {nms : List Key} {own : Key → Option Key} {ad : Key → Addr} (x : FI prog w D d nms own ad) (h : Mo D D') : FI prog w D' d nms own ad := let ⟨xs, h1, r⟩ := x; ⟨xs, h1.mo h, r⟩
theorem CI.mo {W : List Addr} {own : Key → Option Key} {C : Key → List Int} {ad : Key → Addr} (x : CI D W own C ad) (h : Mo D D') : CI D' W own C ad := fun o ho =>
  let ⟨h1, vs, h2, h3⟩ := x o ho; ⟨h1, vs, h2.mo h, h3⟩
theorem TInv.mo {c : TC} {σ : TS Key} {ad : Key → Addr} (x : TInv prog w c D σ ad) (h : Mo D D') : TInv prog w c D' σ ad :=
  ⟨x.N.mo h, x.S.mo h, x.F.mo h, x.C.mo h, x.bg.mo h, x.ak.mo h, x.wf, x.inj, x.sin⟩
end
/-! the law's cells -/
def Cells (L : Addr) (cm : Nat → Option Value) (D : Led) : Prop := ∀ i, 1 ≤ i → i ≤ 11 → CV D (L + i) (cm i)
def cup (cm : Nat → Option Value) (i : Nat) (v : Value) : Nat → Option Value := fun j => if j = i then some v else cm j
theorem Cells.mono {L : Addr} {cm : Nat → Option Value} {D D' : Led} (h : Cells L cm D) (hx : ∀ a o, D a = some o → (∃ v, o.data = .cell v) → D' a = some o) : Cells L cm D' := fun i h1 h2 => by
  obtain ⟨o, e, r⟩ := h i h1 h2
  exact ⟨o, hx _ o e ⟨_, r⟩, r⟩
theorem Cells.ext {L : Addr} {cm : Nat → Option Value} {D D' : Led} (h : Cells L cm D) (hx : Ext0 D D') : Cells L cm D' := h.mono fun a o e _ => hx a o e
section
variable {prog : Program} {w : World} {A : Around} {E : Value → Shared → Prop} {B : Led} {W : List Addr} {D0 : Led} {s0 : Shared} {L : Addr} {vars : Vars} {D : Led} {s : Shared} {env : Env}
theorem r_stC {x : Str} {v : Value} {cm : Nat → Option Value} {Q : Unit → Shared → Prop} (i : Nat) (F : At B W D0 s0 L vars D s) (C : Cells L cm D) (hn : s0.heap.get? (L + i) = none)
    (h : ∀ D' s', At B W D0 s0 L vars D' s' → Cells L (cup cm i v) D' → NC D D' → Q () s')
    (hc : env.cells.lookup x = some (L + i) := by rfl) (h1 : 1 ≤ i := by decide) (h2 : i ≤ 11 := by decide)
    (hk : env.scope.kind = .function := by rfl) (hl : env.kindOf x = some .cell := by rfl) :
    wpAny (model prog w) A (storeName env x v) Q E s := by
  refine r_stc F hc (C i h1 h2) (.inr hn) (fun o s' F' hcv ht => h _ s' F' (fun j g1 g2 => ?_) (NC.cell (C i h1 h2))) hk hl
  unfold cup
  by_cases e : j = i
  · subst e; rw [if_pos rfl]; exact hcv
  · rw [if_neg e]
    exact (C j g1 g2).mono fun o' e' => by rw [Led.put_other (fun q => e (Nat.add_left_cancel q))]; exact e'
theorem r_ldC {x : Str} {pos : Pos} {v : Value} {cm : Nat → Option Value} {Q : Value → Shared → Prop} (i : Nat) (F : At B W D0 s0 L vars D s) (C : Cells L cm D) (hv : cm i = some v) (h : Q v s)
    (hc : env.cells.lookup x = some (L + i) := by rfl) (h1 : 1 ≤ i := by decide) (h2 : i ≤ 11 := by decide)
    (hk : env.scope.kind = .function := by rfl) (hl : env.kindOf x = some .cell := by rfl) (hd : (x == ("__debug__" : Str)) = false := by rfl) :
    wpAny (model prog w) A (eval (.Name x pos) env) Q E s := r_cell F hc (hv ▸ C i h1 h2) h hk hl hd
end
end Mine
end

section
open PySem PySem.W PyProof.Rows
set_option Elab.async false
set_option maxRecDepth 100000
namespace Mine
abbrev lEnv (L a : Addr) (cd : Value) : Env := envOfC "law" (fScope (fnAt 8)) L a cd
def lSt (i : Nat) : Stmt := (fBody (fnAt 8)).getD i (.Pass default)
def fnOf (name qual : Str) (i : Nat) (cl : List (Str × Addr)) (doc pm : Value) (c' : Addr) (ctv : Value) : Obj := fnMade name qual (fParams (lSt i)) (fBody (lSt i)) (fScope (lSt i)) cl doc pm c' ctv
/-! what Mo keeps -/
open Classical in
noncomputable def moOf (D : Led) : Led := fun a => (D a).bind fun o => if o.cls ≠ .type "list_iterator" ∧ o.cls ≠ .none ∧ ∀ v, o.data ≠ .cell v then some o else none
theorem moOf_some {D : Led} {a : Addr} {o : Obj} (h : moOf D a = some o) : D a = some o ∧ o.cls ≠ .type "list_iterator" ∧ o.cls ≠ .none ∧ ∀ v, o.data ≠ .cell v := by
  unfold moOf at h
  cases e : D a with
  | none => rw [e] at h; cases h
  | some o' =>
    rw [e] at h
    simp only [Option.bind_some] at h
    split at h
    · rename_i hc; injection h with h; subst h; exact ⟨rfl, hc⟩
    · cases h
theorem moOf_mo {D : Led} : Mo D (moOf D) := fun a o e h1 h2 h3 => by
  unfold moOf
  rw [e]
  exact if_pos ⟨h1, h2, h3⟩
theorem Mo.of {D D' : Led} (x : Mo D D') : Ext0 (moOf D) D' := fun a o e => let ⟨h, h1, h2, h3⟩ := moOf_some e; x a o h h1 h2 h3
/-- what stands behind the law's head -/
structure LHd (prog : Program) (w : World) (L a : Addr) (cd : Value) (pm : Value) (P : Addr) (r : DrR) (cm : Nat → Option Value) (fF fR lB lA : Addr) (D : Led) : Prop where
  O : DrO prog w r D
  C : Cells L cm D
  c1 : cm 1 = some (.ref r.lN)
  c2 : cm 2 = some (.ref r.dS)
  c8 : cm 8 = some (.ref lA)
  c9 : cm 9 = some (.ref lB)
  c10 : cm 10 = some (.ref r.dE)
  c11 : cm 11 = some (.ref r.dV)
  B : LV D lB []
  A : LV D lA []
  nBA : lB ≠ lA
  fF : ∃ c' ctv doc, D fF = some (fnOf "first" (qualnameIn (lEnv L a cd) "first" "first") 3 [("values", L + 11), ("begun", L + 9)] doc pm c' ctv) ∧ CodeL D c' (qualnameIn (lEnv L a cd) "first" "first")
  fR : ∃ c' ctv doc, D fR = some (fnOf "related" (qualnameIn (lEnv L a cd) "related" "related") 4 [("edges", L + 10), ("asked", L + 8)] doc pm c' ctv) ∧ CodeL D c' (qualnameIn (lEnv L a cd) "related" "related")
  T : ∃ ps, D P = some (tabObj ps)
  St : ∃ S, Ext0 S D ∧ (∀ a o, S a = some o → o.cls ≠ .type "list_iterator" ∧ ∀ v, o.data ≠ .cell v) ∧ S lB = none ∧ S lA = none ∧ (∀ i, 1 ≤ i → i ≤ 11 → S (L + i) = none) ∧ DrO prog w r S
section
variable {prog : Program} {w : World} {h₁ : Heap} {mg mb : Str → Option Value}
theorem law_head (G : Glo h₁ mg mb) {a c P : Addr} {A : Around} {E : Value → Shared → Prop} {D : Led} {s s1 : Shared} {D1 : Led} {Q : Flow → Shared → Prop} {l : Addr} {vs : List Value} {ns : List Int} {ad : Addr} {od : Obj} {pm cd doc : Value} (hR : Room A 3)
    (hbm : ∃ bm o, mg "__builtins__" = some (.ref bm) ∧ bm ≠ builtinsNs ∧ bm ≠ mainGlobals ∧ h₁.get? bm = some o ∧ o.cls = .type "module" ∧ o.dict = some builtinsNs ∧ o.data = .plain)
    (hC : CodeHd h₁ c P) (hPh : hLed h₁ P = none) (hP : D1 P = some (tabObj #[])) (hmg : mg "_law_drawn" = some (.ref ad)) (hod : h₁.get? ad = some od)
    (hdata : od.data = .func (PySem.Calls.docDef "_law_drawn" (fParams (fnAt 4)) (fBody (fnAt 4)) (fScope (fnAt 4)) pm cd doc)) (hcd : h₁.CodeRec cd "_law_drawn")
    (F1 : At (hLed h₁) [P] D s s.heap.objs.size [("script", .ref l)] D1 s1) (C1 : Cells s.heap.objs.size (fun _ => none) D1) (hc0 : ∀ i, 1 ≤ i → i ≤ 11 → s.heap.get? (s.heap.objs.size + i) = none)
    (hl : s1.heap.IsList l vs.toArray) (hi : IntsAre vs ns) (hz : vs.length ≤ 1000)
    (hQ : ∀ r cm fF fR lB lA t D' s', At (hLed h₁) [P] D s s.heap.objs.size [("related", .ref fR), ("first", .ref fF), ("depth", .int (r.dep : Nat) t), ("starts", .ref r.lO)] D' s' → LHd prog w s.heap.objs.size a (.ref c) ((mg "__name__").getD .none) P r cm fF fR lB lA D' → DrP r →
      (r.dS == sysModules) = false → s.heap.get? lB = none → s.heap.get? lA = none →
      wpAny (model prog w) A (execs ((fBody (fnAt 8)).drop 5) (lEnv s.heap.objs.size a (.ref c))) Q E s') :
    wpAny (model prog w) A (execs (fBody (fnAt 8)) (lEnv s.heap.objs.size a (.ref c))) Q E s1 := by
  -- names, ... = _law_drawn(script)
  refine wpAny_execs_cons (Assign_Tuple (e_call (r_glob F1 G hmg ⟨ad, od, _, rfl, hdata, args_cons (r_nm F1 rfl (args_nil ⟨F1.baseGet hod, ?_⟩))⟩)))
  refine drawn_ok G hod hdata hcd (hR.less (by decide)) F1.fits F1.base hl hi hz fun r T t D2 s2 T2 hO hPr hT hS0 => ?_
  have F2 := F1.step (W' := []) T2 fun _ h => nomatch h
  have C2 := C1.ext T2.ext0
  have hP2 : D2 P = some (tabObj #[]) := T2.ext0 _ _ hP
  have hmods : (r.dS == sysModules) = false := F2.notMods G (.inr (by
    cases e : s.heap.get? r.dS with
    | none => rfl
    | some o => obtain ⟨o', e'⟩ := F1.tr.alive _ o e; rw [hS0] at e'; cases e'))
  refine wpAny_assign_Tuple hR.hand ⟨_, F2.get hT, rfl, _, rfl⟩ rfl rfl fun h' hx => ?_
  have F3 := F2.keeps (h' := h') (fun b o e => hx b o (Nat.ne_of_lt (Heap.lt_size e)) e) s2.toks
  have L0 := fun i h1 h2 => hc0 i h1 h2
  refine assignInOrder_cons (wpAny_assign_Name (r_stC 1 F3 C2 (hc0 1 (by decide) (by decide)) fun D4 s4 F4 C4 m4 => ?_))
  refine assignInOrder_cons (wpAny_assign_Name (r_stC 10 F4 C4 (hc0 10 (by decide) (by decide)) fun D5 s5 F5 C5 m5 => ?_))
  refine assignInOrder_cons (wpAny_assign_Name (r_stC 11 F5 C5 (hc0 11 (by decide) (by decide)) fun D6 s6 F6 C6 m6 => ?_))
  refine assignInOrder_cons (wpAny_assign_Name (r_stC 2 F6 C6 (hc0 2 (by decide) (by decide)) fun D7 s7 F7 C7 m7 => ?_))
  refine assignInOrder_cons (wpAny_assign_Name (r_st F7 fun s8 F8 => ?_))
  refine assignInOrder_cons (wpAny_assign_Name (r_st F8 fun s9 F9 => assignInOrder_nil ?_))
  have mo := ((m4.trans m5).trans m6).trans m7
  have hP7 : D7 P = some (tabObj #[]) := mo _ _ hP2 (by simp)
  have hO7 := hO.mo mo.mo
  have F9' : At (hLed h₁) [P] D s s.heap.objs.size [("depth", .int (r.dep : Nat) t), ("starts", .ref r.lO)] D7 s9 := F9.less (sub_put1 (sub_put1 (fun _ h => nomatch h) (fun _ h => nomatch h)) (all_ne rfl))
  dsimp only
  -- begun, asked
  refine wpAny_execs_cons (wpAny_Assign_Name (List_ (args_nil (r_newList F9' (by simp) fun lB s10 hB1 hB2 F10 => ?_))) rfl)
  have x10 : Ext0 D7 (D7.put lB (lstO ([] : List Value).toArray 0)) := .new hB1
  refine r_stC 9 F10 (C7.ext x10) (hc0 9 (by decide) (by decide)) fun D11 s11 F11 C11 m11 => ?_
  have hB11 : LV D11 lB [] := (LV.put_same (D := D7) (n := 0)).mo m11.mo
  dsimp only
  refine wpAny_execs_cons (wpAny_Assign_Name (List_ (args_nil (r_newList F11 (by simp) fun lA s12 hA1 hA2 F12 => ?_))) rfl)
  have x12 : Ext0 D11 (D11.put lA (lstO ([] : List Value).toArray 0)) := .new hA1
  refine r_stC 8 F12 (C11.ext x12) (hc0 8 (by decide) (by decide)) fun D13 s13 F13 C13 m13 => ?_
  have hA13 : LV D13 lA [] := (LV.put_same (D := D11) (n := 0)).mo m13.mo
  have mB : NC D11 D13 := x12.nc.trans m13
  have hB13 : LV D13 lB [] := hB11.mo mB.mo
  have hnBA : lB ≠ lA := fun q => by obtain ⟨o, e⟩ := hB11.some; rw [q, hA1] at e; cases e
  have mo7 : NC D7 D13 := (x10.nc.trans m11).trans mB
  have hP13 : D13 P = some (tabObj #[]) := mo7 _ _ hP7 (by simp)
  dsimp only
  -- first, related
  refine wpAny_execs_cons (r_def F13 G hbm hC hP13 (.inl (by simp)) hPh (by simp [TriplesOk]) rfl (fun cF ctF docF fF D14 s14 F14 k14 hP14 hF14 hcF hf0 hc0' => ?_) rfl rfl)
  have nF : fF ≠ P := fun q => by have := F13.get hP13; rw [← q, hf0] at this; cases this
  have ncF : cF ≠ P := fun q => by have := F13.get hP13; rw [← q, hc0'] at this; cases this
  have m14 : ∀ {a o}, D13 a = some o → o ≠ tabObj #[] → D14 a = some o := fun {a o} e hn => k14 a o (fun q => by subst q; rw [hP13] at e; injection e with e; exact hn e.symm) e
  dsimp only
  refine wpAny_execs_cons (r_def F14 G hbm hC hP14 (.inl (by simp)) hPh (by simp [TriplesOk, rawInt]) (by simp [codeAmong, rawInt]) (fun cR ctR docR fR D15 s15 F15 k15 hP15 hR15 hcR hr0 hc0'' => ?_) rfl rfl)
  have k2 : ∀ a o, a ≠ P → D13 a = some o → D15 a = some o := fun a o h e => k15 a o h (k14 a o h e)
  have m15 : Mo D13 D15 := fun a o e _ hn _ => k2 a o (fun q => by subst q; rw [hP13] at e; injection e with e; subst e; exact hn rfl) e
  have C15 : Cells s.heap.objs.size _ D15 := C13.mono fun a o e hv => k2 a o (fun q => by subst q; rw [hP13] at e; injection e with e; subst e; obtain ⟨v, hv⟩ := hv; cases hv) e
  have nR : fR ≠ P := fun q => by have := F14.get hP14; rw [← q, hr0] at this; cases this
  refine hQ r _ fF fR lB lA t D15 s15 (F15.less (sub_put1 (sub_put1 (fun _ h => h) (all_ne rfl)) (all_ne rfl))) ⟨(hO7.mo mo7.mo).mo m15, C15, rfl, rfl, rfl, rfl, rfl, rfl, hB13.mo m15, hA13.mo m15, hnBA, ⟨cF, ctF, docF, k15 _ _ nF hF14, ?_⟩, ⟨cR, ctR, docR, hR15, hcR⟩, ⟨_, hP15⟩, moOf D7, (mo7.mo.trans m15).of, fun a o e => ⟨(moOf_some e).2.1, (moOf_some e).2.2.2⟩, ?_, ?_, ?_, hO7.mo moOf_mo⟩ hPr hmods hB2 hA2
  · obtain ⟨o, vs', t', e, rr⟩ := hcF
    exact ⟨o, vs', t', k15 _ _ ncF e, rr⟩
  · cases e : moOf D7 lB with
    | none => rfl
    | some o => have := (moOf_some e).1; rw [hB1] at this; cases this
  · cases e : moOf D7 lA with
    | none => rfl
    | some o => have := (x10.mo.trans m11.mo).of _ _ e; rw [hA1] at this; cases this
  · intro i h1 h2
    cases e : moOf D7 (s.heap.objs.size + i) with
    | none => rfl
    | some o =>
      obtain ⟨e1, _, _, e2⟩ := moOf_some e
      obtain ⟨o', e3, e4⟩ := C7 i h1 h2
      rw [e1] at e3; injection e3 with e3; subst e3; exact absurd e4 (e2 _)
end
end Mine
end

section
open PySem PySem.W PyProof.Rows
set_option Elab.async false
set_option maxRecDepth 100000
namespace Mine
theorem Ext0.putW {S D : Led} {b : Addr} {o : Obj} (x : Ext0 S D) (h : S b = none) : Ext0 S (D.put b o) := fun a o' e => by
  rw [Led.put_other (fun q => by rw [q, h] at e; cases e)]; exact x a o' e
/-- what first and related lean upon, in a part S of the ledger that is never written -/
structure LSt (prog : Program) (w : World) (L a : Addr) (cd pm : Value) (r : DrR) (fF fR lB lA : Addr) (S : Led) : Prop where
  E : ES prog w r.nms r.Eg r.eL r.dE S
  V : IS prog w r.nms r.Vl r.vL r.dV S
  cA : CV S (L + 8) (some (.ref lA))
  cB : CV S (L + 9) (some (.ref lB))
  cE : CV S (L + 10) (some (.ref r.dE))
  cV : CV S (L + 11) (some (.ref r.dV))
  fF : ∃ c' ctv doc, S fF = some (fnOf "first" (qualnameIn (lEnv L a cd) "first" "first") 3 [("values", L + 11), ("begun", L + 9)] doc pm c' ctv) ∧ CodeL S c' (qualnameIn (lEnv L a cd) "first" "first")
  fR : ∃ c' ctv doc, S fR = some (fnOf "related" (qualnameIn (lEnv L a cd) "related" "related") 4 [("edges", L + 10), ("asked", L + 8)] doc pm c' ctv) ∧ CodeL S c' (qualnameIn (lEnv L a cd) "related" "related")
theorem CodeL.ext {D D' : Led} {c : Addr} {q : Str} (x : CodeL D c q) (h : Ext0 D D') : CodeL D' c q := let ⟨o, vs, t, e, r⟩ := x; ⟨o, vs, t, h _ o e, r⟩
section
variable {prog : Program} {w : World} {h₁ : Heap} {mg mb : Str → Option Value} {L a : Addr} {cd pm : Value} {r : DrR} {fF fR lB lA : Addr} {S : Led}
theorem first_ok (G : Glo h₁ mg mb) (X : LSt prog w L a cd pm r fF fR lB lA S) (hSB : S lB = none) (hBB : hLed h₁ lB = none) (hV7 : ∀ x ∈ r.nms, Good (r.Vl x))
    {A : Around} {E : Value → Shared → Prop} {D : Led} {s : Shared} {Q : Value → Shared → Prop} {x : Key} {v : Value} {vs : List Value} (hR : Room A 3) (hF : Fits D s) (hB : ∀ a o, hLed h₁ a = some o → D a = some o) (hS : Ext0 S D)
    (hx : x ∈ r.nms) (hk : KeyL prog w D x v) (hl : LV D lB vs) (hz : vs.length ≤ 10000)
    (hQ : ∀ n m ws l s', D l = none → s.heap.get? l = none → IntsL (r.Vl x) ws → Tr [lB] D s ((D.put lB (lstO (vs ++ [v]).toArray n)).put l (lstO ws.toArray m)) s' → Q (.ref l) s') :
    wpAny (model prog w) A (call (.ref fF) [v]) Q E s := by
  obtain ⟨c', ctv, doc, hf, hc⟩ := X.fF
  refine r_callX (binds := [("x", v)]) (W' := [lB]) hF hB (fun b hb => by rw [List.mem_singleton] at hb; subst hb; exact hBB) G (hS _ _ hf) ((hc.ext hS).rec hF) hR.d rfl (locs rfl) (by dsimp only [List.map]; decide) ?_ rfl rfl rfl (by decide)
  intro s1 F1
  generalize hq : qualnameIn (lEnv L a cd) "first" "first" = qn at F1 ⊢
  have hR1 : Room (A.deeper (envX qn (fScope (lSt 3)) s.heap.objs.size fF (.ref c') [("values", L + 11), ("begun", L + 9)])) 2 := hR.deeper
  generalize (A.deeper (envX qn (fScope (lSt 3)) s.heap.objs.size fF (.ref c') [("values", L + 11), ("begun", L + 9)])) = A1 at hR1
  refine wpAny_execs_cons (wpAny_Expr (e_append (r_free F1 rfl (X.cB.mono fun o e => hS _ o e) ⟨lv_type F1 hl, lv_noDict F1 hl, r_nm F1 rfl (r_append F1 hl (.inl (by simp)) (by omega) fun n s2 F2 => ?_)⟩)) rfl rfl)
  have hS2 : Ext0 S (D.put lB (lstO (vs ++ [v]).toArray n)) := hS.putW hSB
  have hk2 := hk.mono (D' := D.put lB (lstO (vs ++ [v]).toArray n)) (.put hl.noTup)
  obtain ⟨xV, hV1, hV2⟩ := X.V.dict
  obtain ⟨ws, hW1, hW2⟩ := X.V.list x hx
  dsimp only
  refine wpAny_execs_cons (wpAny_Return_some (e_type1 "list" (r_blt F2 G (by simp) boot_list ⟨rfl, e_sub (r_free F2 rfl (X.cV.mono fun o e => hS2 _ o e) (r_nm F2 rfl (r_itemD F2 (hV1.sub hS2.sub) hk2 (hV2 x hx) (hR1.u (by decide)) fun s3 F3 => r_listOf F3 (hW1.sub hS2.sub) (by have := hW2.length; have := (hV7 x hx).len; omega) fun m l' s4 hl1 hl2 hl3 F4 => ?_)))⟩)))
  refine hQ n m ws l' s4 ?_ hl2 hW2 F4.tr
  cases e : D l' with
  | none => rfl
  | some o => have := hF l' o e; rw [hl2] at this; cases this
theorem related_ok (G : Glo h₁ mg mb) (X : LSt prog w L a cd pm r fF fR lB lA S) (hSA : S lA = none) (hBA : hLed h₁ lA = none)
    {A : Around} {E : Value → Shared → Prop} {D : Led} {s : Shared} {Q : Value → Shared → Prop} {x : Key} {v : Value} {vs : List Value} (hR : Room A 3) (hF : Fits D s) (hB : ∀ a o, hLed h₁ a = some o → D a = some o) (hS : Ext0 S D)
    (hx : x ∈ r.nms) (hk : KeyL prog w D x v) (hl : LV D lA vs) (hz : vs.length ≤ 10000)
    (hQ : ∀ n s', Tr [lA] D s (D.put lA (lstO (vs ++ [v]).toArray n)) s' → Q (.ref (r.eL x)) s') :
    wpAny (model prog w) A (call (.ref fR) [v]) Q E s := by
  obtain ⟨c', ctv, doc, hf, hc⟩ := X.fR
  refine r_callX (binds := [("x", v)]) (W' := [lA]) hF hB (fun b hb => by rw [List.mem_singleton] at hb; subst hb; exact hBA) G (hS _ _ hf) ((hc.ext hS).rec hF) hR.d rfl (locs rfl) (by dsimp only [List.map]; decide) ?_ rfl rfl rfl (by decide)
  intro s1 F1
  generalize hq : qualnameIn (lEnv L a cd) "related" "related" = qn at F1 ⊢
  have hR1 : Room (A.deeper (envX qn (fScope (lSt 4)) s.heap.objs.size fR (.ref c') [("edges", L + 10), ("asked", L + 8)])) 2 := hR.deeper
  generalize (A.deeper (envX qn (fScope (lSt 4)) s.heap.objs.size fR (.ref c') [("edges", L + 10), ("asked", L + 8)])) = A1 at hR1
  refine wpAny_execs_cons (wpAny_Expr (e_append (r_free F1 rfl (X.cA.mono fun o e => hS _ o e) ⟨lv_type F1 hl, lv_noDict F1 hl, r_nm F1 rfl (r_append F1 hl (.inl (by simp)) (by omega) fun n s2 F2 => ?_)⟩)) rfl rfl)
  have hS2 : Ext0 S (D.put lA (lstO (vs ++ [v]).toArray n)) := hS.putW hSA
  have hk2 := hk.mono (D' := D.put lA (lstO (vs ++ [v]).toArray n)) (.put hl.noTup)
  obtain ⟨xE, hE1, hE2⟩ := X.E.dict
  dsimp only
  exact wpAny_execs_cons (wpAny_Return_some (e_sub (r_free F2 rfl (X.cE.mono fun o e => hS2 _ o e) (r_nm F2 rfl (r_itemD F2 (hE1.sub hS2.sub) hk2 (hE2 x hx) (hR1.u (by decide)) fun s3 F3 => hQ n s3 F3.tr)))))
end
end Mine
end

section
open PySem PySem.W PyProof.Rows
set_option Elab.async false
set_option maxRecDepth 100000
namespace Mine
def botK (n : Nat) : List Key := (List.range n).map fun k : Nat => .tp [.inr "under", .inl (k : Int)]
theorem botK_succ (n : Nat) : botK (n + 1) = botK n ++ [.tp [.inr "under", .inl (n : Int)]] := by unfold botK; rw [List.range_succ, List.map_append]; rfl
theorem botK_len (n : Nat) : (botK n).length = n := by unfold botK; simp
section
variable {prog : Program} {w : World} {h₁ : Heap} {mg mb : Str → Option Value}
/-- bottom, stack -/
theorem law_bottom (G : Glo h₁ mg mb) {a c P : Addr} {A : Around} {E : Value → Shared → Prop} {D : Led} {s s1 : Shared} {D1 : Led} {Q : Flow → Shared → Prop} {vars : Vars} {dep : Nat} {t : Tok} (hR : Room A 3) (hdep : dep ≤ 2)
    (F1 : At (hLed h₁) [P] D s s.heap.objs.size (("depth", .int (dep : Nat) t) :: vars) D1 s1) (hv : ∀ p ∈ vars, p.1 ≠ "bottom" ∧ p.1 ≠ "stack")
    (hQ : ∀ lBo lS vB D' s', At (hLed h₁) [P] D s s.heap.objs.size (("stack", .ref lS) :: ("bottom", .ref lBo) :: vars) D' s' → Ext0 D1 D' → LV D' lBo vB → LV D' lS vB → KeysL prog w D' (botK dep) vB → D1 lBo = none → D1 lS = none → s.heap.get? lS = none → lS ≠ lBo →
      wpAny (model prog w) A (execs ((fBody (fnAt 8)).drop 7) (lEnv s.heap.objs.size a (.ref c))) Q E s') :
    wpAny (model prog w) A (execs ((fBody (fnAt 8)).drop 5) (lEnv s.heap.objs.size a (.ref c))) Q E s1 := by
  refine wpAny_execs_cons (x_lcomp F1 (cl := []) (n := dep) (P := fun i v _ => ∃ t, v = .int (i : Nat) t) (fun i D ws => KeysL prog w D (botK i) ws) ?_ hR.hand (by omega) (fun _ _ _ _ h x => x.mono h) rfl rfl rfl rfl)
  refine e_type1 "range" (r_blt F1 G (by simp) boot_range ⟨rfl, r_nm F1 rfl (r_range F1 (by omega) fun r s2 F2 hg => ?_)⟩)
  refine ⟨D1, s2, F2, hg _ _, trivial, ?_, ?_⟩
  · rintro C i v ws vars' D' s' hi FC ⟨tv, rfl⟩ hI hle E'
    refine wpAny_assign_Name (r_st FC fun s3 F3 => ?_)
    refine wpAny_pure ?_
    simp only [if_true]
    refine Tuple_ (args_cons (wpAny_Constant_str (args_cons (r_nm (F3.toks _) rfl (args_nil (r_newTuple (F3.toks _) (by simp) fun lt s5 hlt1 hlt2 F5 => ?_))))))
    have hx : Ext0 D' (D'.put lt (tupO [Value.str "under" s3.toks, Value.int (i : Nat) tv].toArray 0)) := .new hlt1
    refine ⟨_, _, F5, hx, ?_⟩
    rw [botK_succ]
    refine (KeysL.mono hx.t hI).append ⟨⟨lt, tupO [Value.str "under" s3.toks, Value.int (i : Nat) tv].toArray 0, [Value.str "under" s3.toks, Value.int (i : Nat) tv].toArray, 0, rfl, Led.put_same, rfl, rfl, ?_⟩, trivial⟩
    exact .cons (by simp [atomKind, atomIs, Value.isStrOf]) (.cons (by simp [atomKind, atomIs, Value.isInt]) .nil)
  · intro lBo vB D2 s3 F3 hx hn1 hn2 hLv hI hle
    have hl7 : vB.length ≤ 1000 := by omega
    have F3' : At (hLed h₁) [P] D s s.heap.objs.size (("bottom", .ref lBo) :: vars) D2 s3 := F3.less (sub_put1 (fun p hp => List.mem_cons_of_mem _ hp) (fun p hp => (hv p hp).1))
    dsimp only
    refine wpAny_execs_cons (wpAny_Assign_Name (e_type1 "list" (r_blt F3' G (by simp) boot_list ⟨rfl, r_nm F3' rfl (r_listOf F3' hLv (by omega) fun n lS s4 hl1 hl2 hl3 F4 => r_st F4 fun s5 F5 => ?_)⟩)) rfl)
    have hx4 : Ext0 D2 (D2.put lS (lstO vB.toArray n)) := .new hl1
    have hne : lS ≠ lBo := fun q => by obtain ⟨o, e⟩ := hLv.some; rw [← q, hl1] at e; cases e
    refine hQ lBo lS vB _ s5 (F5.less (sub_put1 (fun _ h => h) ?_)) (hx.trans hx4) (hLv.sub hx4.sub) LV.put_same (hI.mono hx4.t) hn1 ?_ hl2 hne
    · intro p hp
      rcases List.mem_cons.mp hp with rfl | hp
      · show ("bottom" : Str) ≠ "stack"; decide
      · exact (hv p hp).2
    · cases e : D1 lS with
      | none => rfl
      | some o => have := hx _ o e; rw [hl1] at this; cases this
end
end Mine
end

section
open PySem PySem.W PyProof.Rows
set_option Elab.async false
set_option maxRecDepth 100000
namespace Mine
section
variable {prog : Program} {w : World} {h₁ : Heap} {mg mb : Str → Option Value}
theorem sh_mem {sh : Key → Option (Option (List Int))} {xS : KVs} {f : Key → Addr} (h : ∀ k, look xS k = (sh k).map fun o => match o with | none => .none | some _ => .ref (f k)) (k : Key) : k ∈ xS.map (·.1) ↔ (sh k).isSome = true := by
  rw [← look_isSome, h, Option.isSome_map]
/-- numbers -/
theorem law_numbers (G : Glo h₁ mg mb) {a c P : Addr} {A : Around} {E : Value → Shared → Prop} {D : Led} {s s1 : Shared} {D1 : Led} {Q : Flow → Shared → Prop} {vars : Vars} {r : DrR} {cm : Nat → Option Value} (hR : Room A 3)
    (F1 : At (hLed h₁) [P] D s s.heap.objs.size vars D1 s1) (hv : ∀ p ∈ vars, p.1 ≠ "numbers") (hO : DrO prog w r D1) (hP : DrP r) (hC : Cells s.heap.objs.size cm D1) (c1 : cm 1 = some (.ref r.lN)) (c2 : cm 2 = some (.ref r.dS)) (hm : (r.dS == sysModules) = false)
    (hQ : ∀ dN D' s', At (hLed h₁) [P] D s s.heap.objs.size (("numbers", .ref dN) :: vars) D' s' → Ext0 D1 D' → NI prog w D' dN r.nms (fun k => if (r.sh k).isSome then maxI else 0) → D1 dN = none → s.heap.get? dN = none →
      wpAny (model prog w) A (execs ((fBody (fnAt 8)).drop 8) (lEnv s.heap.objs.size a (.ref c))) Q E s') :
    wpAny (model prog w) A (execs ((fBody (fnAt 8)).drop 7) (lEnv s.heap.objs.size a (.ref c))) Q E s1 := by
  obtain ⟨xS, hS1, hS2⟩ := hO.S.dict
  obtain ⟨tM, hM⟩ := G.maxint
  have hlen := hO.K.length
  have hn7 := hP.len.2
  refine wpAny_execs_cons (x_dcomp F1 (cl := [("shut", s.heap.objs.size + 2)]) (n := r.vN.length) (P := fun i v _ => r.vN[i]? = some v) (fun i D xs => DI (r.nms.take i) (fun k v _ => ∃ t, v = .int (if (r.sh k).isSome then maxI else 0) t) False D xs) ?_ hR.hand (hR.u (by decide)) (by omega) (fun _ _ _ _ h x => x.mono fun k v q => q) rfl rfl rfl rfl)
  refine r_ldC 1 F1 hC c1 ⟨D1, s1, F1, iterGives_list F1.fits hO.N, .nil, ?_, ?_⟩
  · intro C i v xs vars' D' s' hi FC hv' hI hle E'
    obtain ⟨k, hk, hkv⟩ := hO.K.getV hv'
    have hx := FC.tr.ext0
    have hkv' : KeyL prog w D' k v := hkv.mono hx.t
    refine wpAny_assign_Name (r_st FC fun s3 F3 => ?_)
    refine wpAny_pure ?_
    refine ite_t rfl ?_
    refine r_nm F3 rfl (IfExp_ (wpAny_isTrue_Compare1 (r_nm F3 rfl (r_cell F3 rfl ((c2 ▸ hC 2 (by decide) (by decide)).mono fun o e => hx _ o e) (r_inD F3 (hS1.sub hx.sub) hkv' hm (hR.u (by decide)) fun s4 F4 => wpAny_truthy_bool ?_)))))
    have fin : ∀ (v2 : Value) (s5 : Shared), (∃ t, v2 = .int (if (r.sh k).isSome then maxI else 0) t) → At (hLed h₁) [] D1 s1 C (Vars.put vars' "x" v) D' s5 → ∃ vars'' D'' k', At (hLed h₁) [] D1 s1 C vars'' D'' s5 ∧ Ext0 D' D'' ∧ KeyL prog w D'' k' v ∧ DI (r.nms.take (i + 1)) (fun k v _ => ∃ t, v = .int (if (r.sh k).isSome then maxI else 0) t) False D'' (putK xs k' v v2) := fun v2 s5 hv2 F5 => by
      refine ⟨_, D', k, F5, .refl _, hkv', ?_⟩
      rw [take_succ hk]
      exact hI.snoc (mem_take_nodup hP.nd hk) hv2 fun q => q.elim
    by_cases hmem : k ∈ xS.map (·.1)
    · have hs := (sh_mem hS2 k).mp hmem
      refine ite_t (by simp only [hmem, decide_true]) ?_
      exact r_glob F4 G hM (fin _ _ ⟨tM, by rw [if_pos hs]⟩ F4)
    · have hs : ¬ (r.sh k).isSome = true := fun q => hmem ((sh_mem hS2 k).mpr q)
      refine ite_f (by simp only [hmem, decide_false]) ?_
      exact wpAny_Constant_int (fin _ _ ⟨_, by rw [if_neg hs]⟩ (F4.toks _))
  · intro dN xN D' s' F' hx hn1 hn2 hDK hI hle
    have ht : r.nms.take r.vN.length = r.nms := List.take_of_length_le (by omega)
    rw [ht] at hI
    exact hQ dN D' s' (F'.less (sub_put1 (fun _ h => h) hv)) hx ⟨xN, hDK, hI.keys, fun k hk => by
      obtain ⟨v, e, t, rfl⟩ := hI.vals k hk
      exact ⟨t, e⟩⟩ hn1 hn2
end
end Mine
end

section
open PySem PySem.W PyProof.Rows
set_option Elab.async false
set_option maxRecDepth 100000
namespace Mine
abbrev ShF := Key → Option (Option (List Int))
def isL (sh : ShF) (k : Key) : Bool := match sh k with | some (some _) => true | _ => false
theorem isL_iff {sh : ShF} {k : Key} : isL sh k = true ↔ ∃ l, sh k = some (some l) := by
  unfold isL
  split
  · rename_i l h; simp [h]
  · rename_i h
    constructor
    · intro q; cases q
    · rintro ⟨l, q⟩; exact absurd q (h l)
/-- a key's own list, at the law's start -/
def own0 (sh : ShF) (k : Key) : Option Key := if isL sh k then some k else none
def ToldR (sh : ShF) (D1 : Led) (s : Shared) (k : Key) (v : Value) (D : Led) : Prop := ∃ a l ws, v = .ref a ∧ sh k = some (some l) ∧ D1 a = none ∧ s.heap.get? a = none ∧ LV D a ws ∧ IntsL l ws
theorem filter_take_succ {α : Type} {p : α → Bool} {l : List α} {i : Nat} {k : α} (h : l[i]? = some k) : (l.take (i + 1)).filter p = (l.take i).filter p ++ (if p k then [k] else []) := by
  rw [take_succ h, List.filter_append]
  congr 1
  by_cases e : p k = true <;> simp [e]
section
variable {prog : Program} {w : World} {h₁ : Heap} {mg mb : Str → Option Value}
theorem law_told (G : Glo h₁ mg mb) {a c P : Addr} {A : Around} {E : Value → Shared → Prop} {D : Led} {s s1 : Shared} {D1 : Led} {Q : Flow → Shared → Prop} {vars : Vars} {r : DrR} {cm : Nat → Option Value} (hR : Room A 3)
    (F1 : At (hLed h₁) [P] D s s.heap.objs.size vars D1 s1) (hO : DrO prog w r D1) (hP : DrP r) (hC : Cells s.heap.objs.size cm D1) (c2 : cm 2 = some (.ref r.dS)) (hm : (r.dS == sysModules) = false) (hc0 : s.heap.get? (s.heap.objs.size + 4) = none)
    (hQ : ∀ dT ad D' s', At (hLed h₁) [P] D s s.heap.objs.size vars D' s' → NC D1 D' → Cells s.heap.objs.size (cup cm 4 (.ref dT)) D' → FI prog w D' dT r.nms (own0 r.sh) ad →
      (∀ k l, r.sh k = some (some l) → D1 (ad k) = none ∧ s.heap.get? (ad k) = none ∧ ∃ ws, LV D' (ad k) ws ∧ IntsL l ws) → (∀ k k', isL r.sh k = true → isL r.sh k' = true → ad k = ad k' → k = k') → D1 dT = none → s.heap.get? dT = none →
      wpAny (model prog w) A (execs ((fBody (fnAt 8)).drop 9) (lEnv s.heap.objs.size a (.ref c))) Q E s') :
    wpAny (model prog w) A (execs ((fBody (fnAt 8)).drop 8) (lEnv s.heap.objs.size a (.ref c))) Q E s1 := by
  obtain ⟨xS, hS1, hS2⟩ := hO.S.dict
  have hn7 := hP.len.2
  have hks : ∀ k ∈ xS.map (·.1), k ∈ r.nms := fun k hk => by
    have := (sh_mem hS2 k).mp hk
    cases e : r.sh k with
    | none => rw [e] at this; cases this
    | some o => exact hP.Sk k o e
  have hlen : xS.length ≤ 7 := by
    have := nodup_sub_length hS1.nodup hks
    rw [List.length_map] at this; omega
  refine wpAny_execs_cons (wpAny_Assign_Name (e_dcomp F1 (cl := [("shut", s.heap.objs.size + 2)]) (n := xS.length) (P := fun i v _ => ∃ p, xS[i]? = some p ∧ v = p.2.1)
    (fun i D xs => DI (((xS.map fun (y : Key × Value × Value) => y.1).take i).filter (isL r.sh)) (ToldR r.sh D1 s) True D xs) ?_ hR.hand (hR.u (by decide)) (by omega)
    (fun _ Da Db _ h x => DI.mono (R := ToldR r.sh D1 s) (D := Da) (D' := Db) x fun k v ⟨a, l, ws, q1, q2, q3, q4, q5, q6⟩ => ⟨a, l, ws, q1, q2, q3, q4, h.lv q5, q6⟩) rfl) rfl)
  refine r_ldC 2 F1 hC c2 ⟨D1, s1, F1, iterGives_dict F1.fits hS1 hm, .nil, ?_, ?_⟩
  · rintro C i v xs vars' D' s' hi FC ⟨p, hp, rfl⟩ hI hle E'
    have hx := FC.tr.ext0
    have hpm := List.mem_of_getElem? hp
    have hkv : KeyL prog w D' p.1 p.2.1 := (hS1.keys p hpm).mono hx.t
    have hkey : (xS.map (·.1))[i]? = some p.1 := by rw [List.getElem?_map, hp]; rfl
    have hlook : look xS p.1 = (r.sh p.1).map fun o => match o with | none => .none | some _ => .ref (r.sL p.1) := hS2 p.1
    have hfil := filter_take_succ (p := isL r.sh) hkey
    have hc2' : CV D' (s.heap.objs.size + 2) (some (.ref r.dS)) := (c2 ▸ hC 2 (by decide) (by decide)).mono fun o e => hx _ o e
    refine wpAny_assign_Name (r_st FC fun s3 F3 => ?_)
    cases hsh : r.sh p.1 with
    | none =>
      have : p.1 ∈ xS.map (·.1) := List.mem_map.mpr ⟨p, hpm, rfl⟩
      have := (sh_mem hS2 p.1).mp this
      rw [hsh] at this; cases this
    | some o =>
      rw [hsh] at hlook
      cases o with
      | none =>
        have hno : isL r.sh p.1 = false := by unfold isL; rw [hsh]
        rw [hno] at hfil
        refine ifs_one (wpAny_isTrue_Compare1 (e_sub (r_cell F3 rfl hc2' (r_nm F3 rfl (r_itemD F3 (hS1.sub hx.sub) hkv hlook (hR.u (by decide)) fun s4 F4 => wpAny_Constant_none (isnot_none_none (wpAny_truthy_bool ?_)))))))
        simp only [Bool.false_eq_true, if_false]
        refine ⟨_, D', F4, .refl _, ?_⟩
        rw [hfil]; simpa using hI
      | some l =>
        have hyes : isL r.sh p.1 = true := by unfold isL; rw [hsh]
        rw [hyes] at hfil
        refine ifs_one (wpAny_isTrue_Compare1 (e_sub (r_cell F3 rfl hc2' (r_nm F3 rfl (r_itemD F3 (hS1.sub hx.sub) hkv hlook (hR.u (by decide)) fun s4 F4 => wpAny_Constant_none (isnot_ref_none (wpAny_truthy_bool ?_)))))))
        simp only [if_true]
        obtain ⟨wl, hl1, hl2⟩ := hO.S.list p.1 l hsh
        have hz : wl.length ≤ 1000000 := by have := hl2.length; have := (hP.Sg p.1 l hsh).len; omega
        refine r_nm F4 rfl (e_type1 "list" (r_blt F4 G (by simp) boot_list ⟨rfl, e_sub (r_cell F4 rfl hc2' (r_nm F4 rfl (r_itemD F4 (hS1.sub hx.sub) hkv hlook (hR.u (by decide)) fun s5 F5 => r_listOf F5 (hl1.sub hx.sub) hz fun n la s6 hla1 hla2 hla3 F6 => ?_)))⟩))
        have hx6 : Ext0 D' (D'.put la (lstO wl.toArray n)) := .new hla1
        have hla0 : D1 la = none := by
          cases e : D1 la with
          | none => rfl
          | some o => have := hx _ o e; rw [hla1] at this; cases this
        have hlas : s.heap.get? la = none := by
          cases e : s.heap.get? la with
          | none => rfl
          | some o => obtain ⟨o', e'⟩ := F1.tr.alive _ o e; rw [hla2] at e'; cases e'
        refine ⟨_, _, p.1, F6, hx6, hkv.mono hx6.t, ?_⟩
        rw [hfil]
        simp only [if_true]
        have hI6 : DI (((xS.map (·.1)).take i).filter (isL r.sh)) (ToldR r.sh D1 s) True (D'.put la (lstO wl.toArray n)) xs :=
          hI.mono fun k v ⟨a, l, ws, q1, q2, q3, q4, q5, q6⟩ => ⟨a, l, ws, q1, q2, q3, q4, q5.sub hx6.sub, q6⟩
        refine hI6.snoc (fun hmem => mem_take_nodup hS1.nodup hkey (List.mem_filter.mp hmem).1) ⟨la, l, wl, rfl, hsh, hla0, hlas, LV.put_same, hl2⟩ fun _ k' hk' e => ?_
        obtain ⟨v, e1, a', l', ws', rfl, _, _, _, q5, _⟩ := hI.vals k' hk'
        rw [e1] at e
        injection e with e; injection e with e
        obtain ⟨o, ho⟩ := q5.some
        rw [e, hla1] at ho; cases ho
  · intro dT xT D' s' F' hx hn1 hn2 hDK hI hle
    have ht : (xS.map (·.1)).take xS.length = xS.map (·.1) := List.take_of_length_le (by rw [List.length_map]; omega)
    rw [ht] at hI
    obtain ⟨ad, had⟩ := hI.refs (fun k v ⟨a, _, _, e, _⟩ => ⟨a, e⟩)
    have hmem : ∀ k l, r.sh k = some (some l) → k ∈ (xS.map (·.1)).filter (isL r.sh) := fun k l h => List.mem_filter.mpr ⟨(sh_mem hS2 k).mpr (by rw [h]; rfl), isL_iff.mpr ⟨l, h⟩⟩
    refine r_stC 4 F' (hC.ext hx) hc0 fun D2 s2 F2 C2 m2 => ?_
    refine hQ dT ad D2 s2 F2 (hx.nc.trans m2) C2 ⟨xT, hDK.mo m2.mo, fun k hk => ?_, fun k => ?_⟩ (fun k l h => ?_) (fun k k' h h' e => ?_) hn1 hn2
    · rw [hI.keys] at hk; exact hks k (List.mem_filter.mp hk).1
    · unfold own0
      by_cases e : isL r.sh k = true
      · obtain ⟨l, hl⟩ := isL_iff.mp e
        rw [if_pos e, (had k (hmem k l hl)).1]; rfl
      · rw [if_neg e]
        exact hI.none fun q => e (List.mem_filter.mp q).2
    · obtain ⟨_, a', l', ws, e1, q2, q3, q4, q5, q6⟩ := had k (hmem k l h)
      injection e1 with e1
      rw [h] at q2; injection q2 with q2; injection q2 with q2
      subst q2
      rw [e1]
      exact ⟨q3, q4, ws, q5.mo m2.mo, q6⟩
    · obtain ⟨l, hl⟩ := isL_iff.mp h
      obtain ⟨l', hl'⟩ := isL_iff.mp h'
      exact hI.inj trivial k (hmem k l hl) k' (hmem k' l' hl') (by rw [(had k (hmem k l hl)).1, (had k' (hmem k' l' hl')).1, e])
end
end Mine
end

section
open PySem PySem.W PyProof.Rows
set_option Elab.async false
set_option maxRecDepth 100000
namespace Mine
abbrev shV (sh : ShF) (sL : Key → Addr) (k : Key) : Option Value := (sh k).map fun o => match o with | none => .none | some _ => .ref (sL k)
def DoneR (sh : ShF) (sL : Key → Addr) (k : Key) (v : Value) (_ : Led) : Prop := shV sh sL k = some v
def KnotR (prog : Program) (w : World) (D1 : Led) (k : Key) (v : Value) (D : Led) : Prop := ∃ a ws, v = .ref a ∧ D1 a = none ∧ LV D a ws ∧ KeysL prog w D [k] ws
section
variable {prog : Program} {w : World} {h₁ : Heap} {mg mb : Str → Option Value}
theorem law_done {a c P : Addr} {A : Around} {E : Value → Shared → Prop} {D : Led} {s s1 : Shared} {D1 : Led} {Q : Flow → Shared → Prop} {vars : Vars} {r : DrR} {cm : Nat → Option Value} (hR : Room A 3)
    (F1 : At (hLed h₁) [P] D s s.heap.objs.size vars D1 s1) (hO : DrO prog w r D1) (hP : DrP r) (hC : Cells s.heap.objs.size cm D1) (c2 : cm 2 = some (.ref r.dS)) (hm : (r.dS == sysModules) = false) (hc0 : s.heap.get? (s.heap.objs.size + 5) = none)
    (hQ : ∀ dD xD D' s', At (hLed h₁) [P] D s s.heap.objs.size vars D' s' → NC D1 D' → Cells s.heap.objs.size (cup cm 5 (.ref dD)) D' → DK prog w D' dD xD → (∀ k, look xD k = shV r.sh r.sL k) → D1 dD = none → s.heap.get? dD = none →
      wpAny (model prog w) A (execs ((fBody (fnAt 8)).drop 10) (lEnv s.heap.objs.size a (.ref c))) Q E s') :
    wpAny (model prog w) A (execs ((fBody (fnAt 8)).drop 9) (lEnv s.heap.objs.size a (.ref c))) Q E s1 := by
  obtain ⟨xS, hS1, hS2⟩ := hO.S.dict
  have hn7 := hP.len.2
  have hks : ∀ k ∈ xS.map (·.1), k ∈ r.nms := fun k hk => by
    have := (sh_mem hS2 k).mp hk
    cases e : r.sh k with
    | none => rw [e] at this; cases this
    | some o => exact hP.Sk k o e
  have hlen : xS.length ≤ 7 := by
    have := nodup_sub_length hS1.nodup hks
    rw [List.length_map] at this; omega
  refine wpAny_execs_cons (wpAny_Assign_Name (e_dcomp F1 (cl := [("shut", s.heap.objs.size + 2)]) (n := xS.length) (P := fun i v _ => ∃ p, xS[i]? = some p ∧ v = p.2.1)
    (fun i D xs => DI ((xS.map fun (y : Key × Value × Value) => y.1).take i) (DoneR r.sh r.sL) False D xs) ?_ hR.hand (hR.u (by decide)) (by omega)
    (fun _ Da Db _ h x => DI.mono (R := DoneR r.sh r.sL) (D := Da) (D' := Db) x fun k v q => q) rfl) rfl)
  refine r_ldC 2 F1 hC c2 ⟨D1, s1, F1, iterGives_dict F1.fits hS1 hm, .nil, ?_, ?_⟩
  · rintro C i v xs vars' D' s' hi FC ⟨p, hp, rfl⟩ hI hle E'
    have hx := FC.tr.ext0
    have hpm := List.mem_of_getElem? hp
    have hkv : KeyL prog w D' p.1 p.2.1 := (hS1.keys p hpm).mono hx.t
    have hkey : (xS.map (·.1))[i]? = some p.1 := by rw [List.getElem?_map, hp]; rfl
    have hlook : look xS p.1 = shV r.sh r.sL p.1 := hS2 p.1
    have hc2' : CV D' (s.heap.objs.size + 2) (some (.ref r.dS)) := (c2 ▸ hC 2 (by decide) (by decide)).mono fun o e => hx _ o e
    refine wpAny_assign_Name (r_st FC fun s3 F3 => ?_)
    refine wpAny_pure ?_
    simp only [if_true]
    obtain ⟨v, hv⟩ : ∃ v, look xS p.1 = some v := by
      cases e : look xS p.1 with
      | some v => exact ⟨v, rfl⟩
      | none => exact absurd (List.mem_map.mpr ⟨p, hpm, rfl⟩) (look_none.mp e)
    refine r_nm F3 rfl (e_sub (r_cell F3 rfl hc2' (r_nm F3 rfl (r_itemD F3 (hS1.sub hx.sub) hkv hv (hR.u (by decide)) fun s4 F4 => ?_))))
    refine ⟨_, D', p.1, F4, .refl _, hkv, ?_⟩
    rw [take_succ hkey]
    exact hI.snoc (mem_take_nodup hS1.nodup hkey) (show shV r.sh r.sL p.1 = some v by rw [← hlook, hv]) fun q => q.elim
  · intro dD xD D' s' F' hx hn1 hn2 hDK hI hle
    have ht : (xS.map (·.1)).take xS.length = xS.map (·.1) := List.take_of_length_le (by rw [List.length_map]; omega)
    rw [ht] at hI
    refine r_stC 5 F' (hC.ext hx) hc0 fun D2 s2 F2 C2 m2 => ?_
    refine hQ dD xD D2 s2 F2 (hx.nc.trans m2) C2 (hDK.mo m2.mo) (fun k => ?_) hn1 hn2
    by_cases e : k ∈ xS.map (·.1)
    · obtain ⟨v, h1, h2⟩ := hI.vals k e
      rw [h1]; exact h2.symm
    · rw [hI.none e, ← look_none.mpr e]; exact hS2 k
theorem law_knots {a c P : Addr} {A : Around} {E : Value → Shared → Prop} {D : Led} {s s1 : Shared} {D1 : Led} {Q : Flow → Shared → Prop} {vars : Vars} {r : DrR} {cm : Nat → Option Value} (hR : Room A 3)
    (F1 : At (hLed h₁) [P] D s s.heap.objs.size vars D1 s1) (hO : DrO prog w r D1) (hP : DrP r) (hC : Cells s.heap.objs.size cm D1) (c2 : cm 2 = some (.ref r.dS)) (hm : (r.dS == sysModules) = false) (hc0 : s.heap.get? (s.heap.objs.size + 6) = none)
    (hQ : ∀ dK xK (kL : Key → Addr) D' s', At (hLed h₁) [P] D s s.heap.objs.size vars D' s' → NC D1 D' → Cells s.heap.objs.size (cup cm 6 (.ref dK)) D' → DK prog w D' dK xK → (∀ k ∈ xK.map (·.1), k ∈ r.nms) →
      (∀ k, (r.sh k).isSome = true → look xK k = some (.ref (kL k)) ∧ D1 (kL k) = none ∧ ∃ ws, LV D' (kL k) ws ∧ KeysL prog w D' [k] ws) → D1 dK = none → s.heap.get? dK = none →
      wpAny (model prog w) A (execs ((fBody (fnAt 8)).drop 11) (lEnv s.heap.objs.size a (.ref c))) Q E s') :
    wpAny (model prog w) A (execs ((fBody (fnAt 8)).drop 10) (lEnv s.heap.objs.size a (.ref c))) Q E s1 := by
  obtain ⟨xS, hS1, hS2⟩ := hO.S.dict
  have hn7 := hP.len.2
  have hks : ∀ k ∈ xS.map (·.1), k ∈ r.nms := fun k hk => by
    have := (sh_mem hS2 k).mp hk
    cases e : r.sh k with
    | none => rw [e] at this; cases this
    | some o => exact hP.Sk k o e
  have hlen : xS.length ≤ 7 := by
    have := nodup_sub_length hS1.nodup hks
    rw [List.length_map] at this; omega
  refine wpAny_execs_cons (wpAny_Assign_Name (e_dcomp F1 (cl := []) (n := xS.length) (P := fun i v _ => ∃ p, xS[i]? = some p ∧ v = p.2.1)
    (fun i D xs => DI ((xS.map fun (y : Key × Value × Value) => y.1).take i) (KnotR prog w D1) False D xs) ?_ hR.hand (hR.u (by decide)) (by omega)
    (fun _ Da Db _ h x => DI.mono (R := KnotR prog w D1) (D := Da) (D' := Db) x fun k v ⟨a, ws, q1, q0, q2, q3⟩ => ⟨a, ws, q1, q0, h.lv q2, q3.mono h.t⟩) rfl) rfl)
  refine r_ldC 2 F1 hC c2 ⟨D1, s1, F1, iterGives_dict F1.fits hS1 hm, .nil, ?_, ?_⟩
  · rintro C i v xs vars' D' s' hi FC ⟨p, hp, rfl⟩ hI hle E'
    have hx := FC.tr.ext0
    have hpm := List.mem_of_getElem? hp
    have hkv : KeyL prog w D' p.1 p.2.1 := (hS1.keys p hpm).mono hx.t
    have hkey : (xS.map (·.1))[i]? = some p.1 := by rw [List.getElem?_map, hp]; rfl
    refine wpAny_assign_Name (r_st FC fun s3 F3 => ?_)
    refine wpAny_pure ?_
    simp only [if_true]
    refine r_nm F3 rfl (List_ (args_cons (r_nm F3 rfl (args_nil (r_newList F3 (by simp) fun la s4 hla1 hla2 F4 => ?_)))))
    have hx4 : Ext0 D' (D'.put la (lstO ([p.2.1] : List Value).toArray 0)) := .new hla1
    have hla0 : D1 la = none := by
      cases e : D1 la with
      | none => rfl
      | some o => have := hx _ o e; rw [hla1] at this; cases this
    refine ⟨_, _, p.1, F4, hx4, hkv.mono hx4.t, ?_⟩
    rw [take_succ hkey]
    have hI4 : DI ((xS.map (·.1)).take i) (KnotR prog w D1) False (D'.put la (lstO ([p.2.1] : List Value).toArray 0)) xs := hI.mono fun k v ⟨a, ws, q1, q0, q2, q3⟩ => ⟨a, ws, q1, q0, q2.sub hx4.sub, q3.mono hx4.t⟩
    exact hI4.snoc (mem_take_nodup hS1.nodup hkey) ⟨la, [p.2.1], rfl, hla0, LV.put_same, hkv.mono hx4.t, trivial⟩ fun q => q.elim
  · intro dK xK D' s' F' hx hn1 hn2 hDK hI hle
    have ht : (xS.map (·.1)).take xS.length = xS.map (·.1) := List.take_of_length_le (by rw [List.length_map]; omega)
    rw [ht] at hI
    obtain ⟨kL, hkL⟩ := hI.refs (fun k v ⟨a, _, e, _⟩ => ⟨a, e⟩)
    refine r_stC 6 F' (hC.ext hx) hc0 fun D2 s2 F2 C2 m2 => ?_
    refine hQ dK xK kL D2 s2 F2 (hx.nc.trans m2) C2 (hDK.mo m2.mo) (fun k hk => hks k (hI.keys ▸ hk)) (fun k hk => ?_) hn1 hn2
    obtain ⟨h1, a', ws, e, h0, h2, h3⟩ := hkL k ((sh_mem hS2 k).mpr hk)
    injection e with e
    exact ⟨h1, e ▸ h0, ws, e ▸ h2.mo m2.mo, h3.mono m2.mo.t⟩
end
end Mine
end

section
open PySem PySem.W PyProof.Rows
set_option Elab.async false
set_option maxRecDepth 100000
namespace Mine
def whileBody : Stmt → List Stmt | .While _ b _ _ => b | _ => []
section
variable {prog : Program} {w : World} {h₁ : Heap} {mg mb : Str → Option Value} {c : TC} {Stat : Led → Prop}
/-- one name is taken off the stack: the block ahead of the while, and its body -/
theorem trv_pop (first : Bool) (G : Glo h₁ mg mb) (X : TCx prog w h₁ mg mb c Stat) {a : Addr} {cd : Value}
    {A1 : Around} {n : Nat} (hR1 : Room A1 n) {L : Addr} {D0 D : Led} {s0 s : Shared} {E' : Value → Shared → Prop} {Q : Flow → Shared → Prop} {vars : Vars} {σ : TS Key} {ad : Key → Addr} {x e : Key} {r : List Key} {v : Value} {d : Nat} {td : Tok}
    (F : At (hLed h₁) c.W D0 s0 L vars D s) (hvars : ∀ p ∈ trvV c v d td, p ∈ vars)
    (hI : TInv prog w c D σ ad) (hx : KeyL prog w D x v) (hxm : x ∈ c.nms) (hown : σ.own x = some x) (hstk : σ.stk = r ++ [e]) (hz : σ.stk.length ≤ 2000)
    (h : ∀ ve D' s', At (hLed h₁) c.W D0 s0 L (("element", ve) :: trvV c v d td) D' s' → KeyL prog w D' e ve → TInv prog w c D' { σ with N := upd σ.N e maxI, own := upd σ.own e (σ.own x), stk := r } ad →
      TSub D D' → (∀ b o, b ∉ c.W → D b = some o → D' b = some o) →
      (if first then wpAny (model prog w) A1 (execs ((ifBody (stAt (fBody (fnAt 2)) 6)).drop 3) (envOf "traverse" (fScope (fnAt 2)) L a cd)) Q E' s' else Q .next s')) :
    wpAny (model prog w) A1 (execs (if first then ifBody (stAt (fBody (fnAt 2)) 6) else whileBody (stAt (ifBody (stAt (fBody (fnAt 2)) 6)) 3)) (envOf "traverse" (fScope (fnAt 2)) L a cd)) Q E' s := by
  have mN : c.dN ∈ c.W := by first | exact TC.m1 | exact TC.m2 | exact TC.m3 | exact TC.m4 | exact TC.m5
  have mS : c.lS ∈ c.W := by first | exact TC.m1 | exact TC.m2 | exact TC.m3 | exact TC.m4 | exact TC.m5
  have mF : c.dF ∈ c.W := by first | exact TC.m1 | exact TC.m2 | exact TC.m3 | exact TC.m4 | exact TC.m5
  have hn := nd5 X.nodup
  obtain ⟨⟨n12, n13, n14, n15⟩, ⟨n23, n24, n25⟩, ⟨n34, n35⟩, n45⟩ := hn
  have F1 : At (hLed h₁) c.W D0 s0 L (trvV c v d td) D s := F.less hvars
  have hem : e ∈ c.nms := (hI.sin e (by rw [hstk]; simp)).1
  obtain ⟨vS, hS1, hS2⟩ := id hI.S
  rw [hstk] at hS2
  obtain ⟨vS', ve, rfl, hS3, hS4⟩ := hS2.snoc
  rw [← List.append_assoc] at hS1
  obtain ⟨tM, hM⟩ := G.maxint
  obtain ⟨xN, hN1, hN2, hN3⟩ := id hI.N
  cases first
  all_goals
    simp only [if_true, if_false, Bool.false_eq_true] at h ⊢
    -- N[stack[-1]] = MAXINT
    refine wpAny_execs_cons (wpAny_Assign_Subscript (r_glob F1 G hM (r_nm F1 rfl (e_sub (r_nm F1 rfl (wpAny_UnaryOp (wpAny_Constant_int (neg_int (r_lastL ((F1.toks _).toks _) hS1 (r_setD ((F1.toks _).toks _) hN1 hS4 (.inl mN) (NI.short hN2 X.short) (hR1.u (by decide)) fun nN s2 F2 _ => ?_)))))))) ) rfl)
    have hN5 := NI.set (n := nN) (i := maxI) (t := tM) hS4 hem hN1 hN2 hN3
    have t5 : TSub D (D.put c.dN (dctO ((putK xN e ve (.int maxI tM)).map (ent prog w)).toArray nN)) := .put hN1.noTup
    have hF5 := hI.F.put (Ne.symm n13) t5
    have hC5 : CI (D.put c.dN (dctO ((putK xN e ve (.int maxI tM)).map (ent prog w)).toArray nN)) c.W σ.own σ.C ad := hI.C.put fun o ho e => (hI.C o ho).1 (e ▸ mN)
    have hb5 := hI.bg.put (Ne.symm n14) t5
    have ha5 := hI.ak.put (Ne.symm n15) t5
    have hS5 : LV (D.put c.dN (dctO ((putK xN e ve (.int maxI tM)).map (ent prog w)).toArray nN)) c.lS (c.bot ++ vS' ++ [ve]) := hS1.put_other (Ne.symm n12)
    have hx5 := hx.mono t5
    have he5 := hS4.mono t5
    have hr5 := hS3.mono t5
    have hk5 : ∀ b o, b ∉ c.W → D b = some o → (D.put c.dN (dctO ((putK xN e ve (.int maxI tM)).map (ent prog w)).toArray nN)) b = some o := fun b o hb e => by
      have hne : b ≠ c.dN := fun q => hb (q ▸ mN)
      rw [Led.put_other hne]; exact e
    generalize (D.put c.dN (dctO ((putK xN e ve (.int maxI tM)).map (ent prog w)).toArray nN)) = D5 at F2 hN5 t5 hF5 hC5 hb5 ha5 hS5 hx5 he5 hr5 hk5
    dsimp only
    -- F[stack[-1]] = F[x]
    obtain ⟨xF, hF1, hF2, hF3⟩ := id hF5
    have gx : look xF x = some (.ref (ad x)) := by rw [hF3 x, hown]; rfl
    refine wpAny_execs_cons (wpAny_Assign_Subscript (e_sub (r_nm F2 rfl (r_nm F2 rfl (r_itemD F2 hF1 hx5 gx (hR1.u (by decide)) fun s3 F3 => r_nm F3 rfl (e_sub (r_nm F3 rfl (wpAny_UnaryOp (wpAny_Constant_int (neg_int (r_lastL ((F3.toks _).toks _) hS5
      (r_setD ((F3.toks _).toks _) hF1 he5 (.inl mF) (FI.short hF1 hF2 X.short) (hR1.u (by decide)) fun nF s4 F4 _ => ?_))))))))))) rfl)
    have hF6 := FI.set (n := nF) (o := x) he5 hem hF1 hF2 hF3
    have t6 : TSub D5 (D5.put c.dF (dctO ((putK xF e ve (.ref (ad x))).map (ent prog w)).toArray nF)) := .put hF1.noTup
    have hN6 := hN5.put n13 t6
    have hC6 : CI (D5.put c.dF (dctO ((putK xF e ve (.ref (ad x))).map (ent prog w)).toArray nF)) c.W σ.own σ.C ad := hC5.put fun o ho e => (hC5 o ho).1 (e ▸ mF)
    have hb6 := hb5.put (Ne.symm n34) t6
    have ha6 := ha5.put (Ne.symm n35) t6
    have hS6 : LV (D5.put c.dF (dctO ((putK xF e ve (.ref (ad x))).map (ent prog w)).toArray nF)) c.lS (c.bot ++ vS' ++ [ve]) := hS5.put_other n23
    have he6 := he5.mono t6
    have hr6 := hr5.mono t6
    have t56 := t5.trans t6
    have hk6 : ∀ b o, b ∉ c.W → D b = some o → (D5.put c.dF (dctO ((putK xF e ve (.ref (ad x))).map (ent prog w)).toArray nF)) b = some o := fun b o hb e => by
      have hne : b ≠ c.dF := fun q => hb (q ▸ mF)
      rw [Led.put_other hne]; exact hk5 b o hb e
    generalize (D5.put c.dF (dctO ((putK xF e ve (.ref (ad x))).map (ent prog w)).toArray nF)) = D6 at F4 hN6 t6 hF6 hC6 hb6 ha6 hS6 he6 hr6 t56 hk6
    dsimp only
    -- element = stack.pop()
    have zS : (c.bot ++ vS').length ≤ 1000000 := by
      have e1 := hS3.length
      have e2 := X.bot
      have e3 : σ.stk.length = r.length + 1 := by rw [hstk]; simp
      rw [List.length_append]; omega
    refine wpAny_execs_cons (wpAny_Assign_Name (e_pop (r_nm F4 rfl ⟨lv_type F4 hS6, lv_noDict F4 hS6, r_pop F4 hS6 (.inl mS) zS fun nS s5 F5 => r_st F5 fun s6 F6 => ?_⟩)) rfl)
    have t7 : TSub D6 (D6.put c.lS (lstO (c.bot ++ vS').toArray nS)) := .put hS6.noTup
    have hI7 : TInv prog w c (D6.put c.lS (lstO (c.bot ++ vS').toArray nS)) { σ with N := upd σ.N e maxI, own := upd σ.own e (σ.own x), stk := r } ad := by
      have heo : (σ.own e).isSome = true := (hI.sin e (by rw [hstk]; simp)).2
      have ho1 : ∀ o, (upd σ.own e (some x) o).isSome = true → (σ.own o).isSome = true := fun o ho => by
        by_cases q : o = e
        · rw [q]; exact heo
        · rw [upd_other q] at ho; exact ho
      have ho2 : ∀ o, (σ.own o).isSome = true → (upd σ.own e (some x) o).isSome = true := fun o ho => by
        by_cases q : o = e
        · rw [q, upd_same]; rfl
        · rw [upd_other q]; exact ho
      rw [hown]
      refine ⟨hN6.put n12 t7, ⟨vS', LV.put_same, hr6.mono t7⟩, hF6.put (Ne.symm n23) t7, fun o ho => ?_, hb6.put (Ne.symm n24) t7, ha6.put (Ne.symm n25) t7, fun k o hko => ?_, fun o o' ho ho' q => ?_, fun k hk => ⟨(hI.sin k (by rw [hstk]; simp [hk])).1, ho2 k (hI.sin k (by rw [hstk]; simp [hk])).2⟩⟩
      · have ho' : (σ.own o).isSome = true := ho1 o ho
        obtain ⟨e1, vs, e2, e3⟩ := hC6 o ho'
        exact ⟨e1, vs, e2.put_other (fun q => e1 (q ▸ mS)), e3⟩
      · refine ho2 o ?_
        change upd σ.own e (some x) k = some o at hko
        by_cases q : k = e
        · rw [q, upd_same] at hko; injection hko with hko; rw [← hko, hown]; rfl
        · rw [upd_other q] at hko; exact hI.wf k o hko
      · exact hI.inj o o' (ho1 o ho) (ho1 o' ho') q
    have F7 : At (hLed h₁) c.W D0 s0 L (("element", ve) :: trvV c v d td) (D6.put c.lS (lstO (c.bot ++ vS').toArray nS)) s6 := F6.less (sub_put1 (fun p hp => hp) (all_ne rfl))
    have hlast : ∀ b o, b ∉ c.W → D b = some o → (D6.put c.lS (lstO (c.bot ++ vS').toArray nS)) b = some o := fun b o hb e => by
      have hne : b ≠ c.lS := fun q => hb (q ▸ mS)
      rw [Led.put_other hne]; exact hk6 b o hb e
    first
    | exact wpAny_execs_nil (h ve _ s6 F7 (he6.mono t7) hI7 (t56.trans t7) hlast)
    | exact h ve _ s6 F7 (he6.mono t7) hI7 (t56.trans t7) hlast
structure PopI (prog : Program) (w : World) (c : TC) (x : Key) (v : Value) (ad : Key → Addr) (σ' : TS Key) (D2 D : Led) (σ1 : TS Key) (e : Key) (ve : Value) (r : List Key) : Prop where
  ke : KeyL prog w D e ve
  em : e ∈ c.nms
  kx : KeyL prog w D x v
  inv : TInv prog w c D σ1 ad
  st : σ1.stk = r.reverse
  sz : σ1.stk.length ≤ 2000
  ow : σ1.own x = some x
  p : (if e = x then σ1 else popP maxI x r σ1) = σ'
  xr : e ≠ x → x ∈ r
  t : TSub D2 D
/-- if N[x] == d: the knot is taken off -/
theorem trv_end (G : Glo h₁ mg mb) (X : TCx prog w h₁ mg mb c Stat) {a : Addr} {cd : Value}
    {A1 : Around} {n : Nat} (hR1 : Room A1 n) {L : Addr} {D0 D : Led} {s0 s : Shared} {E' : Value → Shared → Prop} {vars : Vars} {σ σ' : TS Key} {ad : Key → Addr} {x : Key} {v : Value} {d m : Nat} {td : Tok}
    (F : At (hLed h₁) c.W D0 s0 L vars D s) (hvars : ∀ p ∈ trvV c v d td, p ∈ vars)
    (hI : TInv prog w c D σ ad) (hx : KeyL prog w D x v) (hxm : x ∈ c.nms) (hd : c.bot.length + m + 1 = d) (he : endP maxI c.bot.length x m σ = some σ') :
    wpAny (model prog w) A1 (exec (stAt (fBody (fnAt 2)) 6) (envOf "traverse" (fScope (fnAt 2)) L a cd))
      (fun f s' => f = .next ∧ ∃ vars' D', At (hLed h₁) c.W D0 s0 L vars' D' s' ∧ TInv prog w c D' σ' ad ∧ TSub D D') E' s := by
  refine wpAny_gen fun Qz hQz => ?_
  have F1 : At (hLed h₁) c.W D0 s0 L (trvV c v d td) D s := F.less hvars
  obtain ⟨xN, hN1, hN2, hN3⟩ := id hI.N
  obtain ⟨tx, hNx⟩ := hN3 x hxm
  unfold endP at he
  split at he
  case isFalse => cases he
  rename_i hc
  obtain ⟨hown, hz⟩ := hc
  rw [hd] at he
  refine wpAny_If (wpAny_isTrue_Compare1 (e_sub (r_nm F1 rfl (r_nm F1 rfl (r_itemD F1 hN1 hx hNx (hR1.u (by decide)) fun s2 F2 => r_nm F2 rfl (wpAny_eq_int (wpAny_truthy_bool ?_)))))))
  by_cases h0 : σ.N x = (d : Int)
  · rw [if_pos h0] at he
    split at he
    case isFalse => cases he
    rename_i hxs
    injection he with he
    have : (σ.N x == (d : Int)) = true := by simpa using h0
    rw [this]
    refine ite_t rfl ?_
    obtain ⟨r, e, hre⟩ : ∃ r e, σ.stk = r ++ [e] := by
      rcases List.eq_nil_or_concat σ.stk with h | ⟨r, e, h⟩
      · rw [h] at hxs; cases hxs
      · exact ⟨r, e, by rw [h, List.concat_eq_append]⟩
    refine trv_pop true G X hR1 F2 (fun p hp => hp) hI hx hxm hown hre hz fun ve D2 s3 F3 he3 hI3 ht3 hk3 => ?_
    refine ite_t rfl ?_
    rw [hre, List.reverse_append, List.reverse_singleton, List.singleton_append] at he
    unfold popP at he
    rw [List.reverse_reverse] at he
    as_aux_lemma =>
    refine wpAny_execs_cons (wpAny_While ?_)
    refine codeAny_whileLoop (fun n s' => ∃ D σ1 e ve r, r.length = n ∧ At (hLed h₁) c.W D0 s0 L (("element", ve) :: trvV c v d td) D s' ∧ PopI prog w c x v ad σ' D2 D σ1 e ve r) ?_ r.reverse.length ⟨D2, _, e, ve, r.reverse, rfl, F3, he3, (hI.sin e (by rw [hre]; simp)).1, hx.mono ht3, hI3, by simp, ?_, ?_, he, ?_, .refl _⟩
    · rintro n s4 ⟨D4, σ1, e1, ve1, r1, hn1, F4, hk4, hem4, hx4, hI4, hs4, hz4, ho4, hp4, hxr4, ht4⟩
      refine wpAny_isTrue_Compare1 (r_nm F4 rfl (r_nm F4 rfl (r_keyNe F4 hk4 hx4 (X.ok _ hem4) (X.ok _ hxm) (hR1.u (by decide)) (wpAny_truthy_bool ?_))))
      by_cases hex : e1 = x
      · rw [if_pos hex] at hp4
        refine ite_f (by simp only [hex, decide_true, Bool.not_true]) ?_
        subst hp4
        exact wpAny_execs_nil (wpAny_execs_nil (hQz _ _ ⟨rfl, _, D4, F4, hI4, ht3.trans ht4⟩))
      · rw [if_neg hex] at hp4
        refine ite_t (by simp only [hex, decide_false, Bool.not_false]) ?_
        obtain ⟨e2, r2, rfl⟩ : ∃ e2 r2, r1 = e2 :: r2 := by
          cases r1 with
          | nil => exact absurd (hxr4 hex) (by simp)
          | cons e2 r2 => exact ⟨e2, r2, rfl⟩
        unfold popP at hp4
        rw [List.reverse_cons] at hs4
        refine trv_pop false G X hR1 F4 (fun p hp => List.mem_cons_of_mem _ hp) hI4 hx4 hxm ho4 hs4 hz4 fun ve5 D5 s5 F5 he5 hI5 ht5 hk5 => ?_
        refine ite_f rfl ?_
        refine ⟨r2.length, by rw [← hn1]; simp, D5, _, e2, ve5, r2, rfl, F5, he5, (hI4.sin e2 (by rw [hs4]; simp)).1, hx4.mono ht5, hI5, rfl, ?_, ?_, hp4, fun hne => ?_, ht4.trans ht5⟩
        · show r2.reverse.length ≤ 2000
          rw [hs4, List.length_append] at hz4; omega
        · show upd σ1.own e2 (σ1.own x) x = some x
          rw [ho4]; unfold upd; split
          · rfl
          · exact ho4
        · rcases List.mem_cons.mp (hxr4 hex) with q | q
          · exact absurd q.symm hne
          · exact q
    · show r.length ≤ 2000
      rw [hre, List.length_append] at hz; omega
    · show upd σ.own e (σ.own x) x = some x
      rw [hown]; unfold upd; split
      · rfl
      · exact hown
    · intro hne
      rw [hre] at hxs
      rcases List.mem_append.mp hxs with q | q
      · simpa using q
      · rw [List.mem_singleton] at q; exact absurd q.symm hne
  · rw [if_neg h0] at he
    injection he with he; subst he
    have : (σ.N x == (d : Int)) = false := by simpa using h0
    rw [this]
    refine ite_f rfl ?_
    exact wpAny_execs_nil (hQz _ _ ⟨rfl, _, D, F2, hI, .refl _⟩)
end
end Mine
end

section
open PySem PySem.W PyProof.Rows
set_option Elab.async false
set_option maxRecDepth 100000
namespace Mine
section
variable {prog : Program} {w : World} {h₁ : Heap} {mg mb : Str → Option Value} {c : TC} {Stat : Led → Prop}
def trvS (c : TC) (k : Nat) (x : Key) (σ : TS Key) (y : Key) : Option (TS Key) := (if σ.N y = 0 then travP c.Eg c.Vl maxI c.bot.length k y σ else some σ) >>= joinP x y
theorem trv_vars (c : TC) (v : Value) (d : Nat) (td : Tok) (u : Value) : ∀ p ∈ trvV c v d td, p ∈ Vars.put (Vars.put ([("x", v), ("N", .ref c.dN), ("stack", .ref c.lS), ("F", .ref c.dF), ("X", c.X), ("R", c.R), ("FP", c.FP)] : Vars) "d" (Value.int (d : Int) td)) "rel" u := by
  intro p hp
  change p ∈ ([("rel", u), ("d", .int (d : Int) td), ("x", v), ("N", .ref c.dN), ("stack", .ref c.lS), ("F", .ref c.dF), ("X", c.X), ("R", c.R), ("FP", c.FP)] : Vars)
  have h : p ∈ (([("x", v), ("N", .ref c.dN), ("stack", .ref c.lS), ("F", .ref c.dF), ("X", c.X), ("R", c.R), ("FP", c.FP)] : Vars) ++ ([("d", .int (d : Int) td)] : Vars)) := hp
  exact (List.mem_append.mp h).elim (fun h => .tail _ (.tail _ h)) fun h => .tail _ (by rw [List.mem_singleton.mp h]; exact .head _)
theorem trv_split {c : TC} {k : Nat} {x : Key} {σ σ' : TS Key} {m : Nat} (h : ((c.Eg x).foldlM (trvS c k x) (beginP c.Vl c.bot.length x σ) >>= endP maxI c.bot.length x m) = some σ') :
    ∃ σ2, (c.Eg x).foldlM (trvS c k x) (beginP c.Vl c.bot.length x σ) = some σ2 ∧ endP maxI c.bot.length x m σ2 = some σ' := by
  cases e : (c.Eg x).foldlM (trvS c k x) (beginP c.Vl c.bot.length x σ) with
  | none => rw [e] at h; cases h
  | some σ2 => rw [e] at h; exact ⟨σ2, rfl, h⟩
theorem trvS_split {c : TC} {k : Nat} {x y : Key} {σ σn : TS Key} (h : trvS c k x σ y = some σn) : ∃ σm, (if σ.N y = 0 then travP c.Eg c.Vl maxI c.bot.length k y σ else some σ) = some σm ∧ joinP x y σm = some σn := by
  unfold trvS at h
  cases e : (if σ.N y = 0 then travP c.Eg c.Vl maxI c.bot.length k y σ else some σ) with
  | none => rw [e] at h; cases h
  | some σm => rw [e] at h; exact ⟨σm, rfl, h⟩
structure TrB (prog : Program) (w : World) (c : TC) (x : Key) (v : Value) (d : Nat) (td : Tok) (wE : List Value) (D : Led) (vars : Vars) (D' : Led) : Prop where
  h1 : ∀ p ∈ trvV c v d td, p ∈ vars
  h2 : LV D' (c.eL x) wE
  h3 : KeysL prog w D' (c.Eg x) wE
  h4 : KeyL prog w D' x v
  h5 : TSub D D'
structure TrW (prog : Program) (w : World) (c : TC) (k : Nat) (x : Key) (lV : Addr) (s : Shared) (σ : TS Key) (ad : Key → Addr) (σ2 : TS Key) (i : Nat) (D' : Led) (σi : TS Key) (adi : Key → Addr) : Prop where
  h6 : TInv prog w c D' σi adi
  h7 : (σi.own x).isSome = true
  h8 : adi x = lV
  h9 : ∀ o, (σ.own o).isSome = true → adi o = ad o ∧ (σi.own o).isSome = true
  h9' : ∀ o, σ.own o = none → (σi.own o).isSome = true → s.heap.get? (adi o) = none
  h10 : ((c.Eg x).drop i).foldlM (trvS c k x) σi = some σ2
theorem trv_ok (G : Glo h₁ mg mb) (X : TCx prog w h₁ mg mb c Stat) {a : Addr} {o : Obj} {pm cd doc : Value} (hmg : mg "traverse" = some (.ref a)) (ho : h₁.get? a = some o)
    (hdata : o.data = .func (PySem.Calls.docDef "traverse" (fParams (fnAt 2)) (fBody (fnAt 2)) (fScope (fnAt 2)) pm cd doc)) (hcd : h₁.CodeRec cd "traverse") : ∀ k, TrvOK prog w h₁ c Stat a k := by
  intro k
  induction k with
  | zero => intro A E D s σ σ' ad x v Q _ _ _ _ _ _ _ h; cases h
  | succ k ih =>
    intro A E D s σ σ' ad x v Q hR hF hB hSt hI hx hxm hT hQ
    unfold travP at hT
    split at hT
    case isFalse => cases hT
    rename_i hg
    obtain ⟨hg1, hg2, hg3, hg4, hg5⟩ := hg
    refine r_call (binds := [("x", v), ("N", .ref c.dN), ("stack", .ref c.lS), ("F", .ref c.dF), ("X", c.X), ("R", c.R), ("FP", c.FP)]) (W' := c.W) hF hB X.wB G ho hdata hcd hR.d rfl (locs rfl) (by dsimp only [List.map]; decide) ?_ rfl rfl rfl (by decide)
    intro s1 F1
    have hR1 : Room (A.deeper (envOf "traverse" (fScope (fnAt 2)) s.heap.objs.size a cd)) (2 * k + 6) := hR.deeper
    generalize (A.deeper (envOf "traverse" (fScope (fnAt 2)) s.heap.objs.size a cd)) = A1 at hR1
    have hn := nd5 X.nodup
    obtain ⟨⟨n12, n13, n14, n15⟩, ⟨n23, n24, n25⟩, ⟨n34, n35⟩, n45⟩ := hn
    have mN : c.dN ∈ c.W := by first | exact TC.m1 | exact TC.m2 | exact TC.m3 | exact TC.m4 | exact TC.m5
    have mS : c.lS ∈ c.W := by first | exact TC.m1 | exact TC.m2 | exact TC.m3 | exact TC.m4 | exact TC.m5
    have mF : c.dF ∈ c.W := by first | exact TC.m1 | exact TC.m2 | exact TC.m3 | exact TC.m4 | exact TC.m5
    have mB : c.lB ∈ c.W := by first | exact TC.m1 | exact TC.m2 | exact TC.m3 | exact TC.m4 | exact TC.m5
    have mA : c.lA ∈ c.W := by first | exact TC.m1 | exact TC.m2 | exact TC.m3 | exact TC.m4 | exact TC.m5
    -- stack.append(x)
    obtain ⟨vS, hS1, hS2⟩ := hI.S
    have zS : (c.bot ++ vS).length ≤ 1000000 := by have := hS2.length; have := X.bot; rw [List.length_append]; omega
    refine wpAny_execs_cons ?_
    refine wpAny_Expr (e_append (r_nm F1 rfl ⟨lv_type F1 hS1, lv_noDict F1 hS1, r_nm F1 rfl (r_append F1 hS1 (.inl mS) zS fun nS s2 F2 => ?_)⟩)) rfl rfl
    have t2 : TSub D (D.put c.lS (lstO (c.bot ++ vS ++ [v]).toArray nS)) := .put hS1.noTup
    generalize e2 : D.put c.lS (lstO (c.bot ++ vS ++ [v]).toArray nS) = D2 at F2 t2
    have hS : KI prog w D2 c.lS c.bot (σ.stk ++ [x]) := ⟨vS ++ [v], by rw [← e2, ← List.append_assoc]; exact LV.put_same, (hS2.mono t2).append ⟨hx.mono t2, trivial⟩⟩
    have hN : NI prog w D2 c.dN c.nms σ.N := by rw [← e2] at t2 ⊢; exact hI.N.put n12 t2
    have hFI : FI prog w D2 c.dF c.nms σ.own ad := by rw [← e2] at t2 ⊢; exact hI.F.put (Ne.symm n23) t2
    have hC : CI D2 c.W σ.own σ.C ad := by rw [← e2]; exact hI.C.put fun o ho e => (hI.C o ho).1 (e ▸ mS)
    have hbg : KI prog w D2 c.lB [] σ.bg := by rw [← e2] at t2 ⊢; exact hI.bg.put (Ne.symm n24) t2
    have hak : KI prog w D2 c.lA [] σ.ak := by rw [← e2] at t2 ⊢; exact hI.ak.put (Ne.symm n25) t2
    have hx2 := hx.mono t2
    dsimp only
    -- d = len(stack)
    obtain ⟨vS', hS1', hS2'⟩ := id hS
    have lS' : (c.bot ++ vS').length = c.bot.length + σ.stk.length + 1 := by have := hS2'.length; rw [List.length_append] at this ⊢; simp only [List.length_singleton] at this; omega
    have zS' : (c.bot ++ vS').length ≤ 1000000 := by have := X.bot; omega
    refine wpAny_execs_cons (wpAny_Assign_Name (e_blt1 "len" (r_blt F2 G (by decide) rfl ⟨rfl, r_nm F2 rfl (r_len F2 hS1' zS' fun td s3 F3 => r_st F3 fun s4 F4 => ?_)⟩)) rfl)
    rw [lS'] at F4
    generalize hd : (c.bot.length + σ.stk.length + 1 : Nat) = d at F4
    -- N[x] = d
    obtain ⟨xN, hN1, hN2, hN3⟩ := id hN
    dsimp only
    refine wpAny_execs_cons (wpAny_Assign_Subscript (r_nm F4 rfl (r_nm F4 rfl (r_nm F4 rfl (r_setD F4 hN1 hx2 (.inl mN) (NI.short hN2 X.short) (hR1.u (by decide)) fun nN s5 F5 _ => ?_)))) rfl)
    have hN5 := NI.set (n := nN) (i := (d : Int)) (t := td) hx2 hxm hN1 hN2 hN3
    have t5 : TSub D2 (D2.put c.dN (dctO ((putK xN x v (.int d td)).map (ent prog w)).toArray nN)) := .put hN1.noTup
    replace hS := hS.put (Ne.symm n12) t5
    replace hFI := hFI.put (Ne.symm n13) t5
    replace hC : CI (D2.put c.dN (dctO ((putK xN x v (.int d td)).map (ent prog w)).toArray nN)) c.W σ.own σ.C ad := hC.put fun o ho e => (hC o ho).1 (e ▸ mN)
    replace hbg := hbg.put (Ne.symm n14) t5
    replace hak := hak.put (Ne.symm n15) t5
    have hx5 := hx2.mono t5
    generalize e5 : D2.put c.dN (dctO ((putK xN x v (.int d td)).map (ent prog w)).toArray nN) = D5 at F5 hN5 t5 hS hFI hC hbg hak hx5
    have T5 := t2.trans t5
    clear hN hN1 hN2 hN3 e5 e2 hS1' hS2' hS1 hS2 t2 t5
    as_aux_lemma =>
    -- F[x] = FP(x)
    have hSt5 := X.mono _ _ F5.tr.ext hSt
    obtain ⟨fa, fo, fd, hfa, hfW, hfo, hfd⟩ := X.fpFn D5 hSt5
    obtain ⟨vB, hB1, hB2⟩ := id hbg
    rw [List.nil_append] at hB1
    have zB : vB.length ≤ 10000 := by have := hB2.length; omega
    dsimp only
    refine wpAny_execs_cons (wpAny_Assign_Subscript (e_call (r_nm F5 rfl ⟨fa, fo, fd, hfa, hfd, args_cons (r_nm F5 rfl (args_nil ⟨F5.get hfo, ?_⟩))⟩)) rfl)
    rw [← hfa]
    refine X.fp (hR1.less (by omega)) F5.fits F5.base hSt5 hxm hx5 hB1 zB fun nB nL wV lV s6 hl0 hl1 hwV tr6 => ?_
    have F6 := F5.step tr6 fun b hb => by rw [List.mem_singleton] at hb; subst hb; exact ⟨hB1.some, .inl mB⟩
    have hl2 : s.heap.get? lV = none := by
      cases e : s.heap.get? lV with
      | none => rfl
      | some o => obtain ⟨o', e'⟩ := F5.tr.alive lV o e; rw [hl1] at e'; cases e'
    have hlW : lV ∉ c.W := by
      intro h
      simp only [TC.W, List.mem_cons, List.not_mem_nil, or_false] at h
      rcases h with h | h | h | h | h
      · obtain ⟨_, h1, _⟩ := hN5; obtain ⟨_, h2⟩ := h1.some; rw [← h, hl0] at h2; cases h2
      · obtain ⟨_, h1, _⟩ := hS; obtain ⟨_, h2⟩ := h1.some; rw [← h, hl0] at h2; cases h2
      · obtain ⟨_, h1, _⟩ := hFI; obtain ⟨_, h2⟩ := h1.some; rw [← h, hl0] at h2; cases h2
      · obtain ⟨_, h1, _⟩ := hbg; obtain ⟨_, h2⟩ := h1.some; rw [← h, hl0] at h2; cases h2
      · obtain ⟨_, h1, _⟩ := hak; obtain ⟨_, h2⟩ := h1.some; rw [← h, hl0] at h2; cases h2
    have hadl : ∀ o, (σ.own o).isSome = true → ad o ≠ lV := fun o ho e => by
      obtain ⟨_, _, h1, _⟩ := hC o ho; obtain ⟨_, h2⟩ := h1.some; rw [e, hl0] at h2; cases h2
    have hnew : ∀ k o, σ.own k = some o → o ≠ x := fun k o h e => by
      have := hI.wf k o h; rw [e, hg1] at this; cases this
    have hown : ∀ o, (σ.own o).isSome = true → o ≠ x := fun o ho e => by rw [e, hg1] at ho; cases ho
    have t6a : TSub D5 (D5.put c.lB (lstO (vB ++ [v]).toArray nB)) := .put hB1.noTup
    have hlB : lV ≠ c.lB := fun e => hlW (e ▸ mB)
    have t6b : TSub (D5.put c.lB (lstO (vB ++ [v]).toArray nB)) ((D5.put c.lB (lstO (vB ++ [v]).toArray nB)).put lV (lstO wV.toArray nL)) := .new (by rw [Led.put_other hlB]; exact hl0)
    have nW : ∀ b ∈ c.W, b ≠ lV := fun b hb e => hlW (e ▸ hb)
    have hN6 := (hN5.put n14 t6a).put (nW _ mN) t6b
    have hS6 := (hS.put n24 t6a).put (nW _ mS) t6b
    have hF6 := (hFI.put n34 t6a).put (nW _ mF) t6b
    have hak6 := (hak.put (Ne.symm n45) t6a).put (nW _ mA) t6b
    have hbg6 : KI prog w ((D5.put c.lB (lstO (vB ++ [v]).toArray nB)).put lV (lstO wV.toArray nL)) c.lB [] (σ.bg ++ [x]) :=
      KI.put ⟨vB ++ [v], LV.put_same, (hB2.mono t6a).append ⟨hx5.mono t6a, trivial⟩⟩ (nW _ mB) t6b
    have hC6 : CI ((D5.put c.lB (lstO (vB ++ [v]).toArray nB)).put lV (lstO wV.toArray nL)) c.W (upd σ.own x (some x)) (upd σ.C x (c.Vl x)) (upd ad x lV) := by
      intro o ho
      by_cases e : o = x
      · subst e; rw [upd_same, upd_same]; exact ⟨hlW, wV, LV.put_same, hwV⟩
      · rw [upd_other e] at ho
        rw [upd_other e, upd_other e]
        obtain ⟨h1, vs, h2, h3⟩ := hC o ho
        exact ⟨h1, vs, (h2.put_other fun q => h1 (q ▸ mB)).put_other (hadl o ho), h3⟩
    have hx6 := (hx5.mono t6a).mono t6b
    have T6 := (T5.trans t6a).trans t6b
    generalize e6 : (D5.put c.lB (lstO (vB ++ [v]).toArray nB)).put lV (lstO wV.toArray nL) = D6 at F6 T6 hN6 hS6 hF6 hak6 hbg6 hC6 hx6
    clear t6a t6b e6 hB1 hB2
    obtain ⟨xF, hF1, hF2, hF3⟩ := hF6
    have hF3' : ∀ k, look xF k = (σ.own k).map fun o => .ref (upd ad x lV o) := fun k => by
      rw [hF3 k]
      cases e : σ.own k with
      | none => rfl
      | some o => simp only [Option.map_some]; rw [upd_other (hnew k o e)]
    refine r_nm F6 rfl (r_nm F6 rfl (r_setD F6 hF1 hx6 (.inl mF) (FI.short hF1 hF2 X.short) (hR1.u (by decide)) fun nF s7 F7 _ => ?_))
    have hF7 := FI.set (n := nF) (o := x) hx6 hxm hF1 hF2 hF3'
    rw [upd_same] at hF7
    have t7 : TSub D6 (D6.put c.dF (dctO ((putK xF x v (.ref lV)).map (ent prog w)).toArray nF)) := .put hF1.noTup
    have hN7 := hN6.put n13 t7
    have hS7 := hS6.put n23 t7
    have hak7 := hak6.put (Ne.symm n35) t7
    have hbg7 := hbg6.put (Ne.symm n34) t7
    have hC7 : CI (D6.put c.dF (dctO ((putK xF x v (.ref lV)).map (ent prog w)).toArray nF)) c.W (upd σ.own x (some x)) (upd σ.C x (c.Vl x)) (upd ad x lV) := hC6.put fun o ho e => (hC6 o ho).1 (e ▸ mF)
    have hx7 := hx6.mono t7
    have T7 := T6.trans t7
    generalize e7 : D6.put c.dF (dctO ((putK xF x v (.ref lV)).map (ent prog w)).toArray nF) = D7 at F7 T7 hF7 hN7 hS7 hak7 hbg7 hC7 hx7
    clear hF1 hF2 hF3 hF3' t7 e7
    as_aux_lemma =>
    -- rel = R(x)
    have hSt7 := X.mono _ _ F7.tr.ext hSt
    as_aux_lemma =>
    obtain ⟨ra, ro, rd, hra, hrW, hro, hrd⟩ := X.rFn D7 hSt7
    obtain ⟨vA, hA1, hA2⟩ := id hak7
    rw [List.nil_append] at hA1
    have zA : vA.length ≤ 10000 := by have := hA2.length; omega
    dsimp only
    refine wpAny_execs_cons (wpAny_Assign_Name (e_call (r_nm F7 rfl ⟨ra, ro, rd, hra, hrd, args_cons (r_nm F7 rfl (args_nil ⟨F7.get hro, ?_⟩))⟩)) rfl)
    rw [← hra]
    refine X.r (hR1.less (by omega)) F7.fits F7.base hSt7 hxm hx7 hA1 zA fun nA s8 tr8 => ?_
    obtain ⟨hlE, wE, hE1, hE2⟩ := X.el D7 x hSt7 hxm
    have F8 := F7.step tr8 fun b hb => by rw [List.mem_singleton] at hb; subst hb; exact ⟨hA1.some, .inl mA⟩
    have t8 : TSub D7 (D7.put c.lA (lstO (vA ++ [v]).toArray nA)) := .put hA1.noTup
    have hI8 : TInv prog w c (D7.put c.lA (lstO (vA ++ [v]).toArray nA)) (beginP c.Vl c.bot.length x σ) (upd ad x lV) := by
      refine ⟨?_, hS7.put n25 t8, hF7.put n35 t8, hC7.put fun o ho e => (hC7 o ho).1 (e ▸ mA), hbg7.put n45 t8, ⟨vA ++ [v], LV.put_same, (hA2.mono t8).append ⟨hx7.mono t8, trivial⟩⟩, fun k o h => ?_, fun o o' ho ho' e => ?_, fun k hk => ?_⟩
      · have := hN7.put n15 t8; rw [← hd] at this; exact this
      · show (upd σ.own x (some x) o).isSome = true
        by_cases ek : o = x
        · rw [ek, upd_same]; rfl
        · rw [upd_other ek]
          change upd σ.own x (some x) k = some o at h
          by_cases ek' : k = x
          · rw [ek', upd_same] at h; injection h with h; exact absurd h.symm ek
          · rw [upd_other ek'] at h; exact hI.wf k o h
      · change (upd σ.own x (some x) o).isSome = true at ho
        change (upd σ.own x (some x) o').isSome = true at ho'
        by_cases e1 : o = x <;> by_cases e2 : o' = x
        · rw [e1, e2]
        · rw [e1, upd_same, upd_other e2] at e; rw [upd_other e2] at ho'; exact absurd e.symm (hadl o' ho')
        · rw [e2, upd_same, upd_other e1] at e; rw [upd_other e1] at ho; exact absurd e (hadl o ho)
        · rw [upd_other e1, upd_other e2] at e; rw [upd_other e1] at ho; rw [upd_other e2] at ho'; exact hI.inj o o' ho ho' e
      · show k ∈ c.nms ∧ (upd σ.own x (some x) k).isSome = true
        change k ∈ σ.stk ++ [x] at hk
        by_cases ek : k = x
        · rw [ek, upd_same]; exact ⟨hxm, rfl⟩
        · rw [upd_other ek]
          rcases List.mem_append.mp hk with q | q
          · exact hI.sin k q
          · rw [List.mem_singleton] at q; exact absurd q ek
    have hE1' : LV (D7.put c.lA (lstO (vA ++ [v]).toArray nA)) (c.eL x) wE := hE1.put_other fun e => hlE (e ▸ mA)
    have hE2' := hE2.mono t8
    have hx8 := hx7.mono t8
    have had8 : ∀ o, (σ.own o).isSome = true → upd ad x lV o = ad o := fun o ho => upd_other (hown o ho)
    have had8x : upd ad x lV x = lV := upd_same
    generalize upd ad x lV = ad8 at hI8 had8 had8x
    have T8 := T7.trans t8
    generalize e8 : D7.put c.lA (lstO (vA ++ [v]).toArray nA) = D8 at F8 T8 hI8 hE1' hE2' hx8
    refine r_st F8 fun s9 F9 => ?_
    clear e8 t8 hA1 hA2 tr8 F8 hx7 hC7 hbg7 hak7 hS7 hN7 hF7 F7 hSt7 hro hC6 hbg6 hak6 hS6 hN6 F6 tr6 hx6 hfo hSt5 F5 hx5 hC hbg hak hS hN5 hFI F4 F3 F2 hx2 F1 hE1 hE2 hown hnew hadl
    dsimp only
    have hv9 := trv_vars c v d td (.ref (c.eL x))
    obtain ⟨σ2, hT1, hT2⟩ := trv_split hT
    have hSt9 := X.mono _ _ F9.tr.ext hSt
    have hEold : s.heap.get? (c.eL x) ≠ none := by
      obtain ⟨_, ws, h1, _⟩ := X.el D x hSt hxm
      obtain ⟨o1, h2⟩ := h1.some
      rw [hF _ _ h2]; simp
    have hEne : c.eL x ≠ lV := fun q => hEold (q ▸ hl2)
    refine wpAny_execs_cons (wpAny_For (r_nm F9 rfl (r_iter F9 hE1' fun it oi s10 hi1 hi2 F10 hit => ?_)))
    have hs10 : Sub D8 (D8.put it oi) := .new hi1
    have hitW : it ∉ c.W := fun hb => by
      obtain ⟨oo, ho2⟩ := hI8.live hb
      rw [ho2] at hi1; cases hi1
    have hitV : it ≠ lV := fun q => by
      obtain ⟨_, vs, h1, _⟩ := hI8.C x (by show (upd σ.own x (some x) x).isSome = true; rw [upd_same]; rfl)
      obtain ⟨o1, h2⟩ := h1.some
      rw [had8x, ← q, hi1] at h2; cases h2
    refine r_for (vs := wE) (fun i vars D' => TrB prog w c x v d td wE D vars D' ∧ ∃ σi adi, TrW prog w c k x lV s σ ad σ2 i D' σi adi) F10 hit hi2 ?_ hR1.hand (fun i vars D' h => h.1.h2) ?_ ?_ ?_
    · refine ⟨⟨hv9, hE1'.sub hs10, hE2'.mono hs10.t, hx8.mono hs10.t, T8.trans hs10.t⟩, _, ad8, hI8.sub hs10, ?_, had8x, fun o ho => ⟨had8 o ho, ?_⟩, fun o q1 q2 => ?_, hT1⟩
      · show (upd σ.own x (some x) x).isSome = true; rw [upd_same]; rfl
      · show (upd σ.own x (some x) o).isSome = true
        by_cases q : o = x
        · rw [q, upd_same]; rfl
        · rw [upd_other q]; exact ho
      · change (upd σ.own x (some x) o).isSome = true at q2
        by_cases q : o = x
        · rw [q, had8x]; exact hl2
        · rw [upd_other q, q1] at q2; cases q2
    · rintro i vars D' D'' hl hoff ⟨b, σi, adi, g⟩
      have hs := Sub.off hl hoff
      exact ⟨⟨b.h1, b.h2.sub hs, b.h3.mono hs.t, b.h4.mono hs.t, b.h5.trans hs.t⟩, σi, adi, { g with h6 := g.h6.sub hs }⟩
    · clear hQ F10 F9 hs10 hI8 hE1' hE2' hx8 T8 hv9 hT hT1 hT2
      rintro i vy vars D' s' E'' hv Fv hl ⟨b, σi, adi, g⟩
      refine wpAny_gen fun Q' hQ' => ?_
      obtain ⟨y, hyE, hyK⟩ := b.h3.getV hv
      have hym : y ∈ c.nms := X.edge x hxm y (List.mem_of_getElem? hyE)
      obtain ⟨σn, hstep, hrest⟩ := fold_next hyE g.h10
      obtain ⟨σm, hm, hj⟩ := trvS_split hstep
      have hStv := X.mono _ _ Fv.tr.ext hSt
      refine wpAny_mono (trv_turn G X hmg ho hdata ih hR1 Fv b.h1 hl hStv g.h6 b.h4 hxm hyK hym hm hj g.h7 g.h8 hl2 hitW) (fun f s'' h => ?_) fun _ _ e => e
      obtain ⟨rfl, vars', D'', adn, Fn, hvn, hIn, hadn, hTn, hkn, hnw⟩ := h
      have hit'' : LIt D'' it (c.eL x) (i + 1) := hl.mono fun o e => hkn it o hitW hitV e
      have hjo : ∀ o, (σi.own o).isSome = true → (σn.own o).isSome = true := fun o ho => by
        rw [joinP_own hj]
        split at hm
        · exact travP_own hm ho
        · injection hm with hm; subst hm; exact ho
      refine (hQ' _ _ ⟨.inl rfl, vars', D'', Fn, hit'', ⟨hvn, b.h2.mono fun o e => hkn _ o hlE hEne e, b.h3.mono hTn, b.h4.mono hTn, b.h5.trans hTn⟩, σn, adn, hIn, hjo x g.h7, (hadn x g.h7).trans g.h8, fun o ho => ⟨(hadn o (g.h9 o ho).2).trans (g.h9 o ho).1, hjo o (g.h9 o ho).2⟩, fun o q1 q2 => ?_, hrest⟩)
      cases e : σi.own o with
      | none => exact hnw o e q2
      | some z =>
        have hz : (σi.own o).isSome = true := by rw [e]; rfl
        rw [hadn o hz]; exact g.h9' o q1 hz
    · rintro vars D' s' Fv ⟨b, σi, adi, g⟩
      have hσ : σi = σ2 := fold_last hE2'.length.symm g.h10
      subst hσ
      dsimp only
      refine wpAny_execs_cons (wpAny_mono (trv_end G X hR1 Fv b.h1 g.h6 b.h4 hxm hd hT2) (fun f s'' h => ?_) fun _ _ e => e)
      obtain ⟨rfl, vars', D'', Fn, hIn, hTn⟩ := h
      exact wpAny_execs_nil (hQ D'' s'' adi Fn.tr hIn (fun o ho => (g.h9 o ho).1) (b.h5.trans hTn) fun o q1 q2 => g.h9' o q1 ((endP_back hT2 q2).elim id fun q => (g.h6.sin o q).2))
end
end Mine
end

section
set_option linter.unusedSectionVars false
set_option linter.unusedVariables false
namespace Mine
section
variable {V : Type} [DecidableEq V] {c : PC V}
structure Adq (c : PC V) (sm : V → V → Bool) (rt : V → V) (σ : TS V) (vis : List V) (x : V) (P : List Int) (met : List V) : Prop where
  a : ∀ y ∈ σ.stk, c.g.Mu x y → ∀ a ∈ σ.C y, a ∈ P
  b : ∀ y, c.g.Mu x y → (y ∈ met ↔ y ∈ vis)
  c : ∀ m ∈ met, ¬ c.g.Mu x m → (∀ p, PS c.g sm rt m p → p ∈ met) ∧ ∀ a, Out c.g m a → a ∈ P
def WLI (c : PC V) (x : V) (pr : List V) (σ0 : TS V) (vis0 n : List V) (σ : TS V) : Prop :=
  ∀ sm rt, RtOK c sm rt σ (vis0 ++ x :: n) → ∀ P met w met', SaidE c.g sm rt x pr (c.g.Vl x) (met ++ [x]) w met' → Adq c sm rt σ0 vis0 x P met →
    onceP (P ++ σ.C x) = onceP (P ++ w) ∧ Adq c sm rt σ (vis0 ++ x :: n) x (P ++ w) met'
theorem begin_wli {σ : TS V} {vis : List V} {x : V} : WLI c x [] σ vis [] (beginP c.g.Vl c.dep x σ) := by
  intro sm rt hr P met w met' hs ha
  cases hs
  have hCx : (beginP c.g.Vl c.dep x σ).C x = c.g.Vl x := upd_same
  refine ⟨by rw [hCx], ⟨fun y hy hm a h => ?_, fun y hm => ?_, fun m hm hnm => ?_⟩⟩
  · by_cases e : y = x
    · subst e; rw [hCx] at h; exact List.mem_append_right _ h
    · have : (beginP c.g.Vl c.dep x σ).C y = σ.C y := upd_other e
      rw [this] at h
      have hy' : y ∈ σ.stk := by
        change y ∈ σ.stk ++ [x] at hy
        simpa [e] using hy
      exact List.mem_append_left _ (ha.a y hy' hm a h)
  · have := ha.b y hm
    simp only [List.mem_append, List.mem_singleton, this]
  · have hne : m ≠ x := fun e => hnm (e ▸ Gr.Mu.refl m)
    have hm' : m ∈ met := by simpa [hne] using hm
    have := ha.c m hm' hnm
    exact ⟨fun p hp => List.mem_append_left _ (this.1 p hp), fun a h => List.mem_append_left _ (this.2 a h)⟩
theorem popP_spec {M : Int} {x : V} {r : List V} : ∀ {T : List V} {σ : TS V}, x ∉ T → σ.own x = some x →
    (popP M x (T ++ x :: r) σ).stk = r.reverse ∧ (popP M x (T ++ x :: r) σ).C = σ.C ∧ (popP M x (T ++ x :: r) σ).bg = σ.bg ∧ (popP M x (T ++ x :: r) σ).ak = σ.ak ∧
    (∀ v, (popP M x (T ++ x :: r) σ).N v = if v = x ∨ v ∈ T then M else σ.N v) ∧ ∀ v, (popP M x (T ++ x :: r) σ).own v = if v = x ∨ v ∈ T then some x else σ.own v
  | [], σ, _, ho => by
    have e : popP M x ([] ++ x :: r) σ = { σ with N := upd σ.N x M, own := upd σ.own x (σ.own x), stk := r.reverse } := by
      show popP M x (x :: r) σ = _
      unfold popP; rw [if_pos rfl]
    rw [e]
    refine ⟨rfl, rfl, rfl, rfl, fun v => ?_, fun v => ?_⟩
    · show upd σ.N x M v = _; unfold upd; simp
    · show upd σ.own x (σ.own x) v = _; unfold upd; simp [ho]
  | t :: T, σ, hx, ho => by
    rw [List.mem_cons, not_or] at hx
    have e : popP M x (t :: T ++ x :: r) σ = popP M x (T ++ x :: r) { σ with N := upd σ.N t M, own := upd σ.own t (σ.own x), stk := (T ++ x :: r).reverse } := by
      show popP M x (t :: (T ++ x :: r)) σ = _
      rw [popP]; rw [if_neg (Ne.symm hx.1)]
    rw [e]
    obtain ⟨a1, a2, a3, a4, a5, a6⟩ := popP_spec (M := M) (r := r) (T := T) (σ := { σ with N := upd σ.N t M, own := upd σ.own t (σ.own x), stk := (T ++ x :: r).reverse }) hx.2 (by show upd σ.own t (σ.own x) x = _; rw [upd_other hx.1]; exact ho)
    refine ⟨a1, a2, a3, a4, fun v => ?_, fun v => ?_⟩
    · rw [a5]
      show (if v = x ∨ v ∈ T then M else upd σ.N t M v) = _
      unfold upd
      by_cases h1 : v = x ∨ v ∈ T
      · rw [if_pos h1, if_pos (h1.imp id (List.mem_cons_of_mem _))]
      · rw [if_neg h1]
        by_cases h2 : v = t
        · rw [if_pos h2, if_pos (.inr (by simp [h2]))]
        · rw [if_neg h2, if_neg (by rw [List.mem_cons]; exact fun q => q.elim (fun q => h1 (.inl q)) fun q => q.elim h2 fun q => h1 (.inr q))]
    · rw [a6]
      show (if v = x ∨ v ∈ T then some x else upd σ.own t (σ.own x) v) = _
      unfold upd
      by_cases h1 : v = x ∨ v ∈ T
      · rw [if_pos h1, if_pos (h1.imp id (List.mem_cons_of_mem _))]
      · rw [if_neg h1]
        by_cases h2 : v = t
        · rw [if_pos h2, if_pos (.inr (by simp [h2])), ho]
        · rw [if_neg h2, if_neg (by rw [List.mem_cons]; exact fun q => q.elim (fun q => h1 (.inl q)) fun q => q.elim h2 fun q => h1 (.inr q))]
/-- the end of a name's turn -/
theorem end_ok (hc : c.Ok) {x : V} {σ0 σ : TS V} {vis0 n T : List V} (h : SLI c x (c.g.Eg x) (σ.N x) σ0 vis0 n T σ) (hw : WLI c x (c.g.Eg x) σ0 vis0 n σ) (h0 : SI c σ0 vis0) :
    ∃ σ', endP c.M c.dep x σ0.stk.length σ = some σ' ∧ PoS c x σ0 vis0 n σ' ∧ WLI c x (c.g.Eg x) σ0 vis0 n σ' := by
  have hxi : σ.stk[σ0.stk.length]? = some x := by rw [h.st]; simp
  have hxs : x ∈ σ.stk := List.mem_of_getElem? hxi
  obtain ⟨x1, x2, xj, xz, x3, x4, x5, x6⟩ := h.si.op _ x hxi
  have hlen := h.si.len hc
  have hsh := hc.short
  have hvd := h.si.vnd
  rw [List.nodup_append] at hvd
  have hx0 : x ∉ vis0 := fun q => hvd.2.2 x q x (by simp) rfl
  have hn0 : ∀ v ∈ n, v ∉ vis0 := fun v q q' => hvd.2.2 v q' v (by simp [q]) rfl
  have hs0 : x ∉ σ0.stk := fun q => hx0 (h0.sin x q)
  have hT0 : ∀ t ∈ T, t ∉ σ0.stk := fun t q q' => hn0 t (h.tn t q) (h0.sin t q')
  have hsd := h.si.snd
  rw [h.st, List.nodup_append, List.nodup_cons] at hsd
  have hxT : x ∉ T := hsd.2.1.1
  have hmin : min (σ.N x) (σ.N x) = σ.N x := by omega
  unfold endP
  rw [if_pos ⟨x1, by omega⟩]
  by_cases hN : σ.N x = ((c.dep + σ0.stk.length + 1 : Nat) : Int)
  · rw [if_pos hN, if_pos hxs]
    refine ⟨_, rfl, ?_⟩
    have hrev : σ.stk.reverse = T.reverse ++ x :: σ0.stk.reverse := by rw [h.st]; simp
    rw [hrev]
    obtain ⟨a1, a2, a3, a4, a5, a6⟩ := popP_spec (M := c.M) (r := σ0.stk.reverse) (T := T.reverse) (σ := σ) (by simpa using hxT) x1
    generalize popP c.M x (T.reverse ++ x :: σ0.stk.reverse) σ = σ' at a1 a2 a3 a4 a5 a6 ⊢
    rw [List.reverse_reverse] at a1
    simp only [List.mem_reverse] at a5 a6
    have inS : ∀ v, v ∈ σ.stk ↔ v ∈ σ0.stk ∨ v = x ∨ v ∈ T := fun v => by rw [h.st]; simp
    have aN : ∀ v, ¬ (v = x ∨ v ∈ T) → σ'.N v = σ.N v := fun v q => by rw [a5, if_neg q]
    have aO : ∀ v, ¬ (v = x ∨ v ∈ T) → σ'.own v = σ.own v := fun v q => by rw [a6, if_neg q]
    have aM : ∀ v, (v = x ∨ v ∈ T) → σ'.N v = c.M := fun v q => by rw [a5, if_pos q]
    have aX : ∀ v, (v = x ∨ v ∈ T) → σ'.own v = some x := fun v q => by rw [a6, if_pos q]
    have outS : ∀ v, v ∉ σ.stk → ¬ (v = x ∨ v ∈ T) := fun v q q' => q ((inS v).mpr (.inr q'))
    have out0 : ∀ v ∈ σ0.stk, ¬ (v = x ∨ v ∈ T) := fun v q q' => q'.elim (fun e => hs0 (e ▸ q)) fun e => hT0 v e q
    have inV : ∀ v, (v = x ∨ v ∈ T) → v ∈ vis0 ++ x :: n := fun v q => q.elim (fun e => by simp [e]) fun e => by simp [h.tn v e]
    have segR : ∀ v, (v = x ∨ v ∈ T) → c.g.Mu v x := fun v q => ⟨h.top v ((inS v).mpr (.inr q)), q.elim (fun e => e ▸ .refl _) fun e => h.rn v (h.tn v e)⟩
    have segE : ∀ v, (v = x ∨ v ∈ T) → ∀ y ∈ c.g.Eg v, c.g.dn y = none → y ∈ vis0 ++ x :: n ∧ y ∉ σ0.stk := fun v q y hy hyd => by
      have key : y ∈ vis0 ++ x :: n ∧ ∀ p, σ0.stk[p]? = some y → min (σ.N x) (σ.N x) ≤ ((c.dep + p + 1 : Nat) : Int) := by
        rcases q with rfl | q
        · exact h.ed y hy hyd
        · exact h.ed' v q y hy hyd
      refine ⟨key.1, fun hys => ?_⟩
      obtain ⟨p, hp⟩ := h0.idx hys
      have := key.2 p hp
      have hlt := (List.getElem?_eq_some_iff.mp hp).1
      rw [hmin, hN] at this
      omega
    have clE : ∀ v, v ∈ vis0 ++ x :: n → v ∉ σ0.stk → ∀ y ∈ c.g.Eg v, c.g.dn y = none → y ∈ vis0 ++ x :: n ∧ y ∉ σ0.stk := fun v q1 q2 y hy hyd => by
      by_cases q : v = x ∨ v ∈ T
      · exact segE v q y hy hyd
      · have : v ∉ σ.stk := fun r => ((inS v).mp r).elim q2 q
        have := (h.si.cl v q1 this).2.1 y hy hyd
        exact ⟨this.1, fun r => this.2 ((inS y).mpr (.inl r))⟩
    have fresh : ∀ u ∈ vis0, ¬ c.g.Mu u x := fun u hu hm => by
      by_cases q : u ∈ σ0.stk
      · exact (Rch.closed (S := fun v => v ∈ vis0 ++ x :: n ∧ v ∉ σ0.stk) (fun a b ha e => clE a ha.1 ha.2 b e.1 e.2) hm.2 ⟨by simp, hs0⟩).2 q
      · have hus : u ∉ σ.stk := fun r => ((inS u).mp r).elim q fun r => r.elim (fun e => hx0 (e ▸ hu)) fun e => hn0 u (h.tn u e) hu
        exact (h.si.closed (by simp [hu]) hus hm.1).2 hxs
    have rtw : ∀ sm rt, RtOK c sm rt σ' (vis0 ++ x :: n) → RtOK c sm rt σ (vis0 ++ x :: n) := fun sm rt hr =>
      ⟨hr.smq, fun v hv hvs o ho => hr.rtq v hv (by rw [a1]; exact fun q => hvs ((inS v).mpr (.inl q))) o (by rw [aO v (outS v hvs)]; exact ho), hr.tot⟩
    refine ⟨⟨⟨by rw [a3]; exact h.si.bg, by rw [a4]; exact h.si.ak, h.si.vnd, h.si.vin, by rw [a1]; exact h0.snd, fun v q => ?_, fun v q1 q2 q3 => ?_, fun i v q => ?_, fun v q1 q2 => ?_, fun o q1 q2 q3 => ?_, fun v q1 l q2 => ?_⟩, h.rn, .inl a1, fun v q1 q2 => ?_, aX x (.inl rfl)⟩, fun sm rt hr P met w met' hs ha => ?_⟩
    · rw [a1] at q; exact List.mem_append_left _ (h0.sin v q)
    · have : ¬ (v = x ∨ v ∈ T) := fun q => q3 (inV v q)
      rw [aN v this, aO v this]; exact h.si.wh v q1 q2 q3
    · rw [a1] at q ⊢
      have hv := out0 v (List.mem_of_getElem? q)
      have hi := (List.getElem?_eq_some_iff.mp q).1
      obtain ⟨b1, b2, j, z, b3, b4, b5, b6⟩ := h.si.op i v (by rw [h.st, List.getElem?_append_left hi]; exact q)
      rw [h.st, List.getElem?_append_left (by omega)] at b4
      rw [aN v hv, aO v hv, a2]
      exact ⟨b1, b2, j, z, b3, b4, b5, b6⟩
    · rw [a1] at q2
      rw [a1]
      by_cases q : v = x ∨ v ∈ T
      · exact ⟨aM v q, segE v q, x, by simp, hs0, aX v q, aX x (.inl rfl), segR v q, vis0, n, rfl, fresh⟩
      · have hvs : v ∉ σ.stk := fun r => ((inS v).mp r).elim q2 q
        obtain ⟨b1, b2, o, b3, b4, b5, b6, b7⟩ := h.si.cl v q1 hvs
        rw [aN v q, aO v q]
        exact ⟨b1, clE v q1 q2, o, b3, fun r => b4 ((inS o).mpr (.inl r)), b5, by rw [aO o (outS o b4)]; exact b6, b7⟩
    · rw [a1] at q2
      rw [a2]
      by_cases q : o = x ∨ o ∈ T
      · rw [aX o q] at q3
        injection q3 with q3
        subst q3
        refine ⟨x2, fun sm rt hr w m hs => ?_⟩
        have := (hw sm rt (rtw sm rt hr) [] [] w m hs ⟨fun y hy hm => ?_, fun y hm => ⟨(fun q => nomatch q), fun q => (fresh y q hm.symm).elim⟩, (fun m hm => nomatch hm)⟩).1
        · rw [List.nil_append, List.nil_append, onceP_nodup x2.1] at this; exact this
        · exact (fresh y (h0.sin y hy) hm.symm).elim
      · have hvs : o ∉ σ.stk := fun r => ((inS o).mp r).elim q2 q
        rw [aO o q] at q3
        obtain ⟨b1, b2⟩ := h.si.clC o q1 hvs q3
        exact ⟨b1, fun sm rt hr => b2 sm rt (rtw sm rt hr)⟩
    · have hv : ¬ (v = x ∨ v ∈ T) := fun q => by rw [(h.si.vin v (inV v q)).2] at q2; cases q2
      obtain ⟨b1, b2, b3⟩ := h.si.tm v q1 l q2
      rw [aN v hv, aO v hv]
      refine ⟨b1, ?_, b3⟩
      unfold contOf at b2 ⊢
      rw [aO v hv, a2]; exact b2
    · have hv : ¬ (v = x ∨ v ∈ T) := fun q => q.elim q1 fun q => q2 (h.tn v q)
      rw [aN v hv, aO v hv, a2]; exact h.fr v q1 q2
    · obtain ⟨b1, b2⟩ := hw sm rt (rtw sm rt hr) P met w met' hs ha
      rw [a2]
      refine ⟨b1, ⟨fun y hy hm => ?_, b2.b, b2.c⟩⟩
      rw [a1] at hy
      rw [a2]
      exact b2.a y ((inS y).mpr (.inl hy)) hm
  · rw [if_neg hN]
    refine ⟨σ, rfl, ⟨h.si, h.rn, .inr ⟨T, h.st, h.tn, fun t q => h.top t (by rw [h.st]; simp [q]), ⟨xj, xz, ?_, x6⟩, fun t q y hy hyd => ?_⟩, h.fr, x1⟩, hw⟩
    · have : xj < σ0.stk.length := by
        rcases Nat.lt_or_ge xj σ0.stk.length with q | q
        · exact q
        · have : xj = σ0.stk.length := by omega
          rw [this] at x5; exact absurd x5 hN
      rw [h.st, List.getElem?_append_left this] at x4
      exact x4
    · rw [← hmin]
      rcases List.mem_cons.mp q with rfl | q
      · exact h.ed y hy hyd
      · exact h.ed' t q y hy hyd
end
end Mine
end

section
set_option linter.unusedSectionVars false
set_option linter.unusedVariables false
namespace Mine
section
variable {V : Type} [DecidableEq V] {c : PC V}
theorem Adq.more {sm : V → V → Bool} {rt : V → V} {σ : TS V} {vis : List V} {x : V} {P : List Int} {met : List V} (h : Adq c sm rt σ vis x P met) (Q : List Int) : Adq c sm rt σ vis x (P ++ Q) met :=
  ⟨fun y hy hm a ha => List.mem_append_left _ (h.a y hy hm a ha), h.b, fun m hm hn => ⟨(h.c m hm hn).1, fun a ha => List.mem_append_left _ ((h.c m hm hn).2 a ha)⟩⟩
theorem Adq.mu {sm : V → V → Bool} {rt : V → V} {σ : TS V} {vis : List V} {x y : V} {P : List Int} {met : List V} (h : Adq c sm rt σ vis x P met) (e : c.g.Mu x y) : Adq c sm rt σ vis y P met :=
  ⟨fun z hz hm => h.a z hz (e.trans hm), fun z hm => h.b z (e.trans hm), fun m hm hn => h.c m hm fun q => hn (e.symm.trans q)⟩
/-- a name of another knot, closed -/
theorem word_other {σ : TS V} {vis : List V} {x y : V} {sm : V → V → Bool} {rt : V → V} {P w1 w : List Int} {m1 m' : List V} (h : SI c σ vis) (hx : x ∈ σ.stk) (hr : RtOK c sm rt σ vis) (hyd : c.g.dn y = none) (hyv : y ∈ vis) (hys : y ∉ σ.stk)
    (ha : Adq c sm rt σ vis x (P ++ w1) m1) (hs : SaidE c.g sm rt x [y] w1 m1 w m') : onceP (P ++ w1 ++ contOf σ y) = onceP (P ++ w) ∧ Adq c sm rt σ vis x (P ++ w) m' := by
  obtain ⟨_, _, o, o1, o2, o3, o4, o5, _⟩ := h.cl y hyv hys
  have hnm : ∀ v, v ∈ vis → v ∉ σ.stk → ¬ c.g.Mu x v := fun v q1 q2 q => (h.closed q1 q2 q.2).2 hx
  have hxv := h.sin x hx
  have hsm : sm x y = false := by
    cases e : sm x y with
    | false => rfl
    | true => exact absurd ((hr.smq x hxv y hyv).mp e) (hnm y hyv hys)
  have hrt : rt y = o := hr.rtq y hyv hys o o3
  have hpl : pl sm rt x y = o := by unfold pl; rw [hsm, hrt]; rfl
  have hcont : contOf σ y = σ.C o := by unfold contOf; rw [o3]
  obtain ⟨w0, m0, hs0⟩ := hr.tot o o1
  have hCo := (h.clC o o1 o2 o4).2 sm rt hr w0 m0 hs0
  rw [hcont, hCo]
  let S : V → Prop := fun v => v ∈ vis ∧ v ∉ σ.stk ∧ c.g.R o v
  have hS : ∀ u p, S u → PS c.g sm rt u p → S p := by
    rintro u p ⟨u1, u2, u3⟩ ⟨y', hy', hyd', rfl⟩
    obtain ⟨q1, q2⟩ := (h.cl u u1 u2).2.1 y' hy' hyd'
    have q3 : c.g.R o y' := .tail u3 ⟨hy', hyd'⟩
    unfold pl
    split
    · exact ⟨q1, q2, q3⟩
    · obtain ⟨_, _, o', p1, p2, p3, p4, p5, _⟩ := h.cl y' q1 q2
      rw [hr.rtq y' q1 q2 o' p3]
      exact ⟨p1, p2, Rch.trans q3 p5.1⟩
  have hSo : S o := ⟨o1, o2, .refl _⟩
  let Z : V → Prop := fun v => v ∈ m1 ∧ S v
  have hZ : ∀ u p, Z u → PS c.g sm rt u p → Z p := fun u p hu hp => ⟨(ha.c u hu.1 (hnm u hu.2.1 hu.2.2.1)).1 p hp, hS u p hu.2 hp⟩
  have hZw : ∀ v, Z v → ∀ a, Out c.g v a → a ∈ P ++ w1 := fun v hv => (ha.c v hv.1 (hnm v hv.2.1 hv.2.2.1)).2
  cases hs with
  | term hd => rw [hyd] at hd; cases hd
  | skip _ hm hs =>
    cases hs
    rw [hpl] at hm
    have hzo : Z o := ⟨hm, hSo⟩
    refine ⟨onceP_sub fun a hA => ?_, ha⟩
    obtain ⟨_, _, _, f4, f5⟩ := SaidE.full hs0
    have f6 := f4 Z hZ (fun z hz hzn => hZ _ _ hzo ⟨z, hz, hzn, rfl⟩)
    rcases f5 a (mem_onceP.mp hA) with q | ⟨v, q1, q2, q3⟩ | q
    · exact hZw o hzo a (.inl q)
    · exact hZw v (f6 v q1 q2) a q3
    · exact hZw o hzo a (.inr q)
  | @go _ _ _ _ wy _ _ my _ _ hm hs1 hs =>
    cases hs
    rw [hpl] at hm hs1
    have hc := SaidE.cmp (Z := Z) (S := S) hZ hS hs1 (fun z hz hzn => hS _ _ hSo ⟨z, hz, hzn, rfl⟩) (P1 := P ++ w1) (P2 := P ++ w1) hs0 (fun v hv => ?_) hZw rfl
    · rw [onceP_onceR, ← hc.1, List.append_assoc]
      obtain ⟨f1, f2, f3, f4, f5⟩ := SaidE.full hs1
      have f6 := f4 S hS (fun z hz hzn => hS _ _ hSo ⟨z, hz, hzn, rfl⟩)
      have hmy : ∀ v ∈ m', v ∉ m1 → S v := fun v q1 q2 => by
        by_cases e : v = o
        · rw [e]; exact hSo
        · exact f6 v q1 (by simp [q2, e])
      refine ⟨rfl, ⟨fun z hz hmu a q => ?_, fun v hmu => ?_, fun v hv hnmu => ?_⟩⟩
      · rw [← List.append_assoc]; exact List.mem_append_left _ (ha.a z hz hmu a q)
      · rw [← ha.b v hmu]
        refine ⟨fun q => ?_, fun q => SaidE.subM hs1 (by simp [q])⟩
        by_cases q' : v ∈ m1
        · exact q'
        · have := hmy v q q'
          exact absurd hmu (hnm v this.1 this.2.1)
      · by_cases q' : v ∈ m1
        · have := ha.c v q' hnmu
          exact ⟨fun p hp => SaidE.subM hs1 (by simp [this.1 p hp]), fun a q => by rw [← List.append_assoc]; exact List.mem_append_left _ (this.2 a q)⟩
        · by_cases e : v = o
          · subst e
            exact ⟨fun p ⟨z, hz, hzn, hpe⟩ => hpe ▸ f1 z hz hzn, fun a q => by
              rw [← List.append_assoc]
              refine List.mem_append_right _ ?_
              rcases q with q | ⟨z, hz, l, hl, q⟩
              · exact SaidE.subW hs1 q
              · exact f2 z hz l hl a q⟩
          · have := f3 v hv (by simp [q', e])
            exact ⟨this.1, fun a q => by rw [← List.append_assoc]; exact List.mem_append_right _ (this.2 a q)⟩
    · constructor
      · intro q
        rcases List.mem_append.mp q with q | q
        · exact .inr ⟨q, hv⟩
        · exact .inl (by simpa using q)
      · rintro (q | q)
        · exact List.mem_append_right _ (by simpa using q)
        · exact List.mem_append_left _ q.1
/-- a name of the same knot, met -/
theorem word_same {σ : TS V} {vis : List V} {x y : V} {sm : V → V → Bool} {rt : V → V} {P w1 w : List Int} {m1 m' : List V} (h : SI c σ vis) (hx : x ∈ σ.stk) (hr : RtOK c sm rt σ vis) (hyd : c.g.dn y = none) (hyv : y ∈ vis) (hmu : c.g.Mu x y)
    (ha : Adq c sm rt σ vis x (P ++ w1) m1) (hs : SaidE c.g sm rt x [y] w1 m1 w m') : onceP (P ++ w1 ++ contOf σ y) = onceP (P ++ w) ∧ Adq c sm rt σ vis x (P ++ w) m' := by
  have hys : y ∈ σ.stk := Classical.byContradiction fun q => (h.closed hyv q hmu.2).2 hx
  obtain ⟨i, hi⟩ := h.idx hys
  obtain ⟨a1, _⟩ := h.op i y hi
  have hsm : sm x y = true := (hr.smq x (h.sin x hx) y hyv).mpr hmu
  have hpl : pl sm rt x y = y := by unfold pl; rw [hsm]; rfl
  have hym : y ∈ m1 := (ha.b y hmu).mpr hyv
  have hcont : contOf σ y = σ.C y := by unfold contOf; rw [a1]
  rw [hcont]
  cases hs with
  | term hd => rw [hyd] at hd; cases hd
  | skip _ hm hs => cases hs; exact ⟨onceP_sub (ha.a y hys hmu), ha⟩
  | go _ hm => rw [hpl] at hm; exact absurd hym hm
theorem word_term {σ : TS V} {vis : List V} {x y : V} {sm : V → V → Bool} {rt : V → V} {P w1 w : List Int} {m1 m' : List V} {l : List Int} (h : SI c σ vis) (hyn : y ∈ c.nms) (hyd : c.g.dn y = some l)
    (ha : Adq c sm rt σ vis x (P ++ w1) m1) (hs : SaidE c.g sm rt x [y] w1 m1 w m') : onceP (P ++ w1 ++ contOf σ y) = onceP (P ++ w) ∧ Adq c sm rt σ vis x (P ++ w) m' := by
  rw [(h.tm y hyn l hyd).2.1]
  cases hs with
  | @term _ _ _ l2 _ _ _ _ hd hs =>
    cases hs
    rw [hyd] at hd; injection hd with hd; subst hd
    rw [← List.append_assoc]
    exact ⟨rfl, ha.more l⟩
  | skip hd => rw [hyd] at hd; cases hd
  | go hd => rw [hyd] at hd; cases hd
/-- the join -/
theorem word_join {x y : V} {sm : V → V → Bool} {rt : V → V} {P w1 w : List Int} {m' : List V} {σ : TS V} {vis : List V} (hst : onceP (P ++ w1 ++ contOf σ y) = onceP (P ++ w) ∧ Adq c sm rt σ vis x (P ++ w) m') (hw : onceP (P ++ σ.C x) = onceP (P ++ w1)) {N' : V → Int} :
    onceP (P ++ ({ σ with N := N', C := upd σ.C x (mergeL (σ.C x) (contOf σ y)) } : TS V).C x) = onceP (P ++ w) ∧ Adq c sm rt { σ with N := N', C := upd σ.C x (mergeL (σ.C x) (contOf σ y)) } vis x (P ++ w) m' := by
  have e : ({ σ with N := N', C := upd σ.C x (mergeL (σ.C x) (contOf σ y)) } : TS V).C x = mergeL (σ.C x) (contOf σ y) := upd_same
  have key : onceP (P ++ mergeL (σ.C x) (contOf σ y)) = onceP (P ++ w) := by
    rw [onceP_merge, ← hst.1]; exact onceP_congr hw _
  refine ⟨by rw [e]; exact key, ⟨fun z hz hm a ha => ?_, hst.2.b, hst.2.c⟩⟩
  by_cases q : z = x
  · subst q
    rw [e] at ha
    exact (onceP_mem key).mp (List.mem_append_right _ ha)
  · have : ({ σ with N := N', C := upd σ.C x (mergeL (σ.C x) (contOf σ y)) } : TS V).C z = σ.C z := upd_other q
    rw [this] at ha
    exact hst.2.a z hz hm a ha
/-- the step: a name met before, or a mark's end -/
theorem step_old (hc : c.Ok) {x y : V} {pr : List V} {σ0 σ : TS V} {vis0 n T : List V} (h : SLI c x pr (σ.N x) σ0 vis0 n T σ) (hw : WLI c x pr σ0 vis0 n σ) (hy : y ∈ c.g.Eg x) (hyv : (c.g.dn y = none ∧ y ∈ vis0 ++ x :: n) ∨ (y ∈ c.nms ∧ ∃ l, c.g.dn y = some l)) :
    ∃ σ'', joinP x y σ = some σ'' ∧ SLI c x (pr ++ [y]) (σ''.N x) σ0 vis0 n T σ'' ∧ WLI c x (pr ++ [y]) σ0 vis0 n σ'' := by
  have h' : SLI c x pr (σ.N y) σ0 vis0 n T σ := ⟨h.si, h.rn, h.st, h.tn, h.top, h.fr, fun y' q1 q2 => ⟨(h.ed y' q1 q2).1, fun p hp => by have := (h.ed y' q1 q2).2 p hp; omega⟩, fun t q0 y' q1 q2 => ⟨(h.ed' t q0 y' q1 q2).1, fun p hp => by have := (h.ed' t q0 y' q1 q2).2 p hp; omega⟩⟩
  obtain ⟨j1, j2⟩ := join_sli hc h' hy hyv
  have hxs : x ∈ σ.stk := by rw [h.st]; simp
  refine ⟨_, j1, by rw [show ({ σ with N := upd σ.N x (min (σ.N x) (σ.N y)), C := upd σ.C x (mergeL (σ.C x) (contOf σ y)) } : TS V).N x = min (σ.N x) (σ.N y) from upd_same]; exact j2, fun sm rt hr P met w met' hs ha => ?_⟩
  obtain ⟨w1, m1, s1, s2⟩ := hs.split
  have hr' : RtOK c sm rt σ (vis0 ++ x :: n) := ⟨hr.smq, hr.rtq, hr.tot⟩
  obtain ⟨k1, k2⟩ := hw sm rt hr' P met w1 m1 s1 ha
  refine word_join ?_ k1
  rcases hyv with ⟨hyd, hyv⟩ | ⟨hyn, l, hl⟩
  · by_cases hmu : c.g.Mu x y
    · exact word_same h.si hxs hr' hyd hyv hmu k2 s2
    · have hys : y ∉ σ.stk := fun q => hmu ⟨Rch.one ⟨hy, hyd⟩, h.top y q⟩
      exact word_other h.si hxs hr' hyd hyv hys k2 s2
  · exact word_term h.si hyn hl k2 s2
/-- the step: a new name -/
theorem step_new (hc : c.Ok) {x y : V} {pr : List V} {σ0 σ σ' : TS V} {vis0 n n2 T : List V} (h : SLI c x pr (σ.N x) σ0 vis0 n T σ) (hw : WLI c x pr σ0 vis0 n σ) (hy : y ∈ c.g.Eg x) (hyd : c.g.dn y = none) (hyv : y ∉ vis0 ++ x :: n)
    (p : PoS c y σ (vis0 ++ x :: n) n2 σ') (pw : WLI c y (c.g.Eg y) σ (vis0 ++ x :: n) n2 σ') :
    ∃ σ'' T', joinP x y σ' = some σ'' ∧ SLI c x (pr ++ [y]) (σ''.N x) σ0 vis0 (n ++ y :: n2) T' σ'' ∧ WLI c x (pr ++ [y]) σ0 vis0 (n ++ y :: n2) σ'' := by
  obtain ⟨T', h'⟩ := mid_sli hc h hy hyd p
  have assoc : vis0 ++ x :: n ++ y :: n2 = vis0 ++ x :: (n ++ y :: n2) := by simp
  have hyv' : y ∈ vis0 ++ x :: (n ++ y :: n2) := by simp
  obtain ⟨j1, j2⟩ := join_sli hc h' hy (.inl ⟨hyd, hyv'⟩)
  have hxs : x ∈ σ.stk := by rw [h.st]; simp
  have hxs' : x ∈ σ'.stk := by rw [h'.st]; simp
  have hnd := p.si.vnd
  rw [List.nodup_append] at hnd
  have hxv : x ∈ vis0 ++ x :: n := by simp
  have fro : ∀ v ∈ vis0 ++ x :: n, σ'.N v = σ.N v ∧ σ'.own v = σ.own v ∧ σ'.C v = σ.C v := fun v q =>
    p.fr v (fun e => hnd.2.2 v q y (by simp) e) (fun q' => hnd.2.2 v q v (by simp [q']) rfl)
  refine ⟨_, T', j1, by rw [show ({ σ' with N := upd σ'.N x (min (σ'.N x) (σ'.N y)), C := upd σ'.C x (mergeL (σ'.C x) (contOf σ' y)) } : TS V).N x = min (σ'.N x) (σ'.N y) from upd_same]; exact j2, fun sm rt hr P met w met' hs ha => ?_⟩
  obtain ⟨w1, m1, s1, s2⟩ := hs.split
  have hr' : RtOK c sm rt σ' (vis0 ++ x :: (n ++ y :: n2)) := ⟨hr.smq, hr.rtq, hr.tot⟩
  have sub : ∀ v, v ∈ vis0 ++ x :: n → v ∈ vis0 ++ x :: (n ++ y :: n2) := fun v q => by rw [← assoc]; exact List.mem_append_left _ q
  have stk' : ∀ v ∈ vis0 ++ x :: n, v ∉ σ.stk → v ∉ σ'.stk := fun v q1 q2 q3 => by
    rcases p.st with e | ⟨T2, e, b1, _⟩
    · exact q2 (e ▸ q3)
    · rw [e] at q3
      rcases List.mem_append.mp q3 with q3 | q3
      · exact q2 q3
      · rcases List.mem_cons.mp q3 with q3 | q3
        · exact hyv (q3 ▸ q1)
        · exact hnd.2.2 v q1 v (by simp [b1 v q3]) rfl
  have hr0 : RtOK c sm rt σ (vis0 ++ x :: n) := ⟨fun a qa b qb => hr'.smq a (sub a qa) b (sub b qb), fun v q1 q2 o q3 => hr'.rtq v (sub v q1) (stk' v q1 q2) o (by rw [(fro v q1).2.1]; exact q3), fun z q => hr'.tot z (sub z q)⟩
  obtain ⟨k1, k2⟩ := hw sm rt hr0 P met w1 m1 s1 ha
  refine word_join (w1 := w1) ?_ (by rw [(fro x hxv).2.2]; exact k1)
  by_cases hmu : c.g.Mu x y
  · have hym : y ∉ m1 := fun q => hyv ((k2.b y hmu).mp q)
    have hsm : sm x y = true := (hr'.smq x (sub x hxv) y hyv').mpr hmu
    have hpl : pl sm rt x y = y := by unfold pl; rw [hsm]; rfl
    have hcont : contOf σ' y = σ'.C y := by unfold contOf; rw [p.ox]
    rw [hcont]
    cases s2 with
    | term hd => rw [hyd] at hd; cases hd
    | skip _ hm => rw [hpl] at hm; exact absurd hm hym
    | @go _ _ _ _ wy _ _ my _ _ hm s3 s4 =>
      cases s4
      rw [hpl] at s3
      have := pw sm rt (by rw [assoc]; exact hr') (P ++ w1) m1 wy met' s3 (k2.mu hmu)
      rw [assoc, List.append_assoc P w1 wy] at this
      exact ⟨this.1, this.2.mu hmu.symm⟩
  · have hys : y ∉ σ'.stk := fun q => hmu ⟨Rch.one ⟨hy, hyd⟩, h'.top y q⟩
    refine word_other h'.si hxs' hr' hyd hyv' hys ⟨fun z hz hm a q => ?_, fun v hm => ?_, k2.c⟩ s2
    · have hzs : z ∈ σ.stk := by
        rcases p.st with e | ⟨T2, e, _⟩
        · exact e ▸ hz
        · exact absurd (by rw [e]; simp) hys
      rw [(fro z (h.si.sin z hzs)).2.2] at q
      exact k2.a z hzs hm a q
    · rw [k2.b v hm]
      refine ⟨sub v, fun q => ?_⟩
      rw [← assoc] at q
      rcases List.mem_append.mp q with q | q
      · exact q
      · exfalso
        have hyv2 : c.g.R y v := by
          rcases List.mem_cons.mp q with e | q
          · rw [e]; exact .refl _
          · exact p.rn v q
        exact hmu ⟨Rch.one ⟨hy, hyd⟩, Rch.trans hyv2 hm.2⟩
/-- the whole of traverse -/
theorem trav_main (hc : c.Ok) : ∀ (k : Nat) {x : V} {σ : TS V} {vis : List V}, c.nms.length ≤ k + vis.length → SI c σ vis → x ∈ c.nms → c.g.dn x = none → x ∉ vis → (∀ z ∈ σ.stk, c.g.R z x) →
    ∃ σ' n, travP c.g.Eg c.g.Vl c.M c.dep k x σ = some σ' ∧ PoS c x σ vis n σ' ∧ WLI c x (c.g.Eg x) σ vis n σ' ∧ walkP c.g.Eg (fun v => (c.g.dn v).isSome) (k + 1) x vis = some (vis ++ x :: n)
  | 0, x, σ, vis, hk, h, hx, hd, hv, htop => by
    exfalso
    have := nd_len (l := x :: vis) (u := c.nms) (List.nodup_cons.mpr ⟨hv, h.vnd⟩) (fun v q => (List.mem_cons.mp q).elim (fun e => e ▸ hx) fun q => (h.vin v q).1)
    simp only [List.length_cons] at this
    omega
  | k + 1, x, σ, vis, hk, h, hx, hd, hv, htop => by
    have hlen := h.len hc
    have hsh := hc.short
    have hwh := h.wh x hx hd hv
    have hbg : σ.bg.length < 1000 := by rw [h.bg, List.length_append]; have := hc.bg; omega
    have hak : σ.ak.length < 1000 := by rw [h.ak, List.length_append]; have := hc.ak; omega
    have hvl := (hc.vl x hx).len
    unfold travP
    rw [if_pos ⟨hwh.2, by omega, hbg, hak, by omega⟩]
    have loop : ∀ (es pr : List V), c.g.Eg x = pr ++ es → ∀ (σ1 : TS V) (n T : List V), SLI c x pr (σ1.N x) σ vis n T σ1 → WLI c x pr σ vis n σ1 →
        ∃ σ2 n2 T2, es.foldlM (fun σ y => (if σ.N y = 0 then travP c.g.Eg c.g.Vl c.M c.dep k y σ else some σ) >>= joinP x y) σ1 = some σ2 ∧ SLI c x (c.g.Eg x) (σ2.N x) σ vis n2 T2 σ2 ∧ WLI c x (c.g.Eg x) σ vis n2 σ2 ∧
          es.foldlM (fun m y => walkP c.g.Eg (fun v => (c.g.dn v).isSome) (k + 1) y m) (vis ++ x :: n) = some (vis ++ x :: n2) := by
      intro es
      induction es with
      | nil =>
        intro pr hpr σ1 n T h1 h2
        rw [List.append_nil] at hpr
        rw [hpr]
        exact ⟨σ1, n, T, rfl, h1, h2, rfl⟩
      | cons y es ih =>
        intro pr hpr σ1 n T h1 h2
        have hyE : y ∈ c.g.Eg x := by rw [hpr]; simp
        have hyn := hc.edge x hx y hyE
        have hpr' : c.g.Eg x = (pr ++ [y]) ++ es := by rw [hpr]; simp
        rw [List.foldlM_cons, List.foldlM_cons]
        cases hyd : c.g.dn y with
        | some l =>
          have hN : σ1.N y ≠ 0 := by rw [(h1.si.tm y hyn l hyd).1]; have := hc.M; omega
          rw [if_neg hN]
          obtain ⟨σ2, j1, j2, j3⟩ := step_old hc h1 h2 hyE (.inr ⟨hyn, l, hyd⟩)
          have ew : walkP c.g.Eg (fun v => (c.g.dn v).isSome) (k + 1) y (vis ++ x :: n) = some (vis ++ x :: n) := by
            unfold walkP; rw [if_pos (.inl (by simp [hyd]))]
          rw [ew]
          show ∃ σ2 n2 T2, ((joinP x y σ1) >>= _) = _ ∧ _
          rw [j1]
          exact ih (pr ++ [y]) hpr' σ2 n T j2 j3
        | none =>
          by_cases hyv : y ∈ vis ++ x :: n
          · have hN : σ1.N y ≠ 0 := by
              by_cases hys : y ∈ σ1.stk
              · obtain ⟨i, hi⟩ := h1.si.idx hys
                obtain ⟨_, _, j, z, _, _, a5, _⟩ := h1.si.op i y hi
                rw [a5]; omega
              · rw [(h1.si.cl y hyv hys).1]; have := hc.M; omega
            rw [if_neg hN]
            obtain ⟨σ2, j1, j2, j3⟩ := step_old hc h1 h2 hyE (.inl ⟨hyd, hyv⟩)
            have ew : walkP c.g.Eg (fun v => (c.g.dn v).isSome) (k + 1) y (vis ++ x :: n) = some (vis ++ x :: n) := by
              unfold walkP; rw [if_pos (.inr hyv)]
            rw [ew]
            show ∃ σ2 n2 T2, ((joinP x y σ1) >>= _) = _ ∧ _
            rw [j1]
            exact ih (pr ++ [y]) hpr' σ2 n T j2 j3
          · have hN : σ1.N y = 0 := (h1.si.wh y hyn hyd hyv).1
            rw [if_pos hN]
            obtain ⟨σ', n2, t1, t2, t3, t4⟩ := trav_main hc k (x := y) (σ := σ1) (vis := vis ++ x :: n) (by rw [List.length_append, List.length_cons]; omega) h1.si hyn hyd hyv (fun z hz => Rch.trans (h1.top z hz) (Rch.one ⟨hyE, hyd⟩))
            rw [t1, t4]
            obtain ⟨σ2, T2, j1, j2, j3⟩ := step_new hc h1 h2 hyE hyd hyv t2 t3
            show ∃ σ2 n2 T2, ((joinP x y σ') >>= _) = _ ∧ _
            rw [j1]
            have assoc : vis ++ x :: n ++ y :: n2 = vis ++ x :: (n ++ y :: n2) := by simp
            rw [assoc]
            exact ih (pr ++ [y]) hpr' σ2 (n ++ y :: n2) T2 j2 j3
    obtain ⟨σ2, n2, T2, l1, l2, l3, l4⟩ := loop (c.g.Eg x) [] rfl _ [] [] (begin_sli hc h hx hd hv htop) begin_wli
    obtain ⟨σ3, e1, e2, e3⟩ := end_ok hc l2 l3 h
    refine ⟨σ3, n2, ?_, e2, e3, ?_⟩
    · rw [l1]; exact e1
    · unfold walkP
      rw [if_neg (by simp [hd, hv]), if_pos (by omega)]
      exact l4
end
end Mine
end

section
set_option linter.unusedSectionVars false
set_option linter.unusedVariables false
namespace Mine
section
variable {V : Type} [DecidableEq V]
set_option genInjectivity false in
set_option genSizeOf false in
/-- what the law is given -/
structure LC (V : Type) where
  nms : List V
  Eg : V → List V
  Vl : V → List Int
  M : Int
  dep : Nat
  sh : V → Bool
structure LC.Ok (c : LC V) : Prop where
  edge : ∀ x ∈ c.nms, ∀ y ∈ c.Eg x, y ∈ c.nms
  short : c.nms.length ≤ 20
  dep : c.dep ≤ 100
  M : (1000 : Int) < c.M
  vl : ∀ x ∈ c.nms, Good (c.Vl x)
  el : ∀ x ∈ c.nms, (c.Eg x).length ≤ 40
set_option genInjectivity false in
set_option genSizeOf false in
/-- the law between two walks -/
structure LS (V : Type) where
  σ : TS V
  dn : V → Option (Option (List Int))
  Kn : V → List V
abbrev dnL (dn : V → Option (Option (List Int))) : V → Option (List Int) := fun k => (dn k).map (·.getD [])
structure J (c : LC V) (t : LS V) : Prop where
  stk : t.σ.stk = []
  wh : ∀ x ∈ c.nms, t.dn x = none → t.σ.N x = 0 ∧ t.σ.own x = none
  nn : ∀ x ∈ c.nms, (t.dn x).isSome = true → t.σ.N x = c.M
  no : ∀ x ∈ c.nms, t.dn x = some none → t.σ.own x = none
  li : ∀ x ∈ c.nms, ∀ l, t.dn x = some (some l) → Good l ∧ ∃ o ∈ c.nms, t.σ.own x = some o ∧ t.σ.own o = some o ∧ t.σ.C o = l ∧ ∃ l', t.dn o = some (some l')
  kn : ∀ x ∈ c.nms, ∀ l, t.dn x = some (some l) → ∀ y ∈ c.nms, (y ∈ t.Kn x ↔ t.σ.own y = t.σ.own x)
  bgn : t.σ.bg.Nodup
  bgm : ∀ x, x ∈ t.σ.bg ↔ x ∈ c.nms ∧ (t.dn x).isSome = true ∧ c.sh x = false
  akn : t.σ.ak.Nodup
  akm : ∀ x, x ∈ t.σ.ak ↔ x ∈ c.nms ∧ (t.dn x).isSome = true ∧ c.sh x = false
  sh : ∀ x, c.sh x = true → (t.dn x).isSome = true
def knot (walk : List V) (rch : V → List V) (x : V) : List V := walk.filter fun y => decide (y ∈ rch x) && decide (x ∈ rch y)
def Kn' (walk : List V) (rch : V → List V) (Kn : V → List V) : V → List V := fun x => if x ∈ walk then knot walk rch x else Kn x
def dn' (walk : List V) (ws : V → List Int) (dn : V → Option (Option (List Int))) : V → Option (Option (List Int)) := fun x => if x ∈ walk then some (some (onceP (ws x))) else dn x
abbrev smK (Kn : V → List V) : V → V → Bool := fun x y => decide (y ∈ Kn x)
abbrev rtK (Kn : V → List V) : V → V := fun y => (Kn y).headD y
theorem law_step {c : LC V} (hc : c.Ok) {t : LS V} (hJ : J c t) {s : V} (hs : s ∈ c.nms) (hd : t.dn s = none) :
    ∃ σ' walk rch ws, travP c.Eg c.Vl c.M c.dep c.nms.length s t.σ = some σ' ∧ walkP c.Eg (fun v => (t.dn v).isSome) (c.nms.length + 1) s [] = some walk ∧ walk.Nodup ∧
      (∀ x ∈ walk, x ∈ c.nms ∧ t.dn x = none ∧ ∀ y ∈ c.Eg x, t.dn y = none → y ∈ walk) ∧
      (∀ x ∈ walk, walkP c.Eg (fun v => (t.dn v).isSome) (c.nms.length + 1) x [] = some (rch x)) ∧ (∀ x ∈ walk, knot walk rch x ≠ []) ∧ (∀ x ∈ walk, ∀ y ∈ knot walk rch x, y ∈ walk) ∧
      (∀ x ∈ walk, ∃ m, saidP c.Eg c.Vl (dnL t.dn) (smK (Kn' walk rch t.Kn)) (rtK (Kn' walk rch t.Kn)) (c.nms.length + 1) (rtK (Kn' walk rch t.Kn) x) [] = some (ws x, m)) ∧ (∀ x ∈ walk, (ws x).length ≤ 100000) ∧
      J c ⟨σ', dn' walk ws t.dn, Kn' walk rch t.Kn⟩ := by
  let g : Gr V := ⟨c.Eg, c.Vl, dnL t.dn⟩
  let p : PC V := ⟨g, c.nms, c.M, c.dep, t.σ.bg, t.σ.ak⟩
  have dnN : ∀ v, g.dn v = none ↔ t.dn v = none := fun v => by
    show (t.dn v).map _ = none ↔ _
    cases t.dn v <;> simp
  have hbgl : t.σ.bg.length ≤ c.nms.length := nd_len hJ.bgn fun v q => ((hJ.bgm v).mp q).1
  have hakl : t.σ.ak.length ≤ c.nms.length := nd_len hJ.akn fun v q => ((hJ.akm v).mp q).1
  have hsh := hc.short
  have hgood : ∀ x ∈ c.nms, ∀ l, g.dn x = some l → Good l := fun x hx l hl => by
    change (t.dn x).map _ = some l at hl
    cases e : t.dn x with
    | none => rw [e] at hl; cases hl
    | some o =>
      rw [e] at hl
      cases o with
      | none => injection hl with hl; rw [← hl]; exact Good.nil
      | some l' => injection hl with hl; rw [← hl]; exact (hJ.li x hx l' e).1
  have hp : p.Ok := ⟨hc.edge, by show c.nms.length ≤ 100; omega, hc.dep, hc.M, hc.vl, hgood, by show t.σ.bg.length ≤ 800; omega, by show t.σ.ak.length ≤ 800; omega⟩
  have hdw : (fun v => (g.dn v).isSome) = fun v => (t.dn v).isSome := by
    funext v
    show ((t.dn v).map _).isSome = _
    cases t.dn v <;> rfl
  have hsi : SI p t.σ [] := by
    refine ⟨by simp [p], by simp [p], List.nodup_nil, (fun _ h => nomatch h), by rw [hJ.stk]; exact List.nodup_nil, by rw [hJ.stk]; exact (fun _ h => nomatch h), fun v q1 q2 _ => hJ.wh v q1 ((dnN v).mp q2), fun i v q => by rw [hJ.stk] at q; simp at q, (fun _ h => nomatch h), (fun _ h => nomatch h), fun v q1 l q2 => ?_⟩
    change (t.dn v).map _ = some l at q2
    cases e : t.dn v with
    | none => rw [e] at q2; cases q2
    | some o =>
      rw [e] at q2
      refine ⟨hJ.nn v q1 (by rw [e]; rfl), ?_⟩
      cases o with
      | none =>
        injection q2 with q2
        have := hJ.no v q1 e
        unfold contOf
        rw [this]
        exact ⟨q2, fun o ho => nomatch ho⟩
      | some l' =>
        injection q2 with q2
        obtain ⟨_, o, b1, b2, b3, b4, l2, b5⟩ := hJ.li v q1 l' e
        unfold contOf
        rw [b2]
        refine ⟨by rw [← q2]; exact b4, fun o' ho' => ?_⟩
        injection ho' with ho'
        subst ho'
        exact ⟨l2, by show (t.dn o).map _ = _; rw [b5]; rfl⟩
  obtain ⟨σ', n, t1, t2, t3, t4⟩ := trav_main hp c.nms.length (x := s) (σ := t.σ) (vis := []) (by show c.nms.length ≤ _; omega) hsi hs ((dnN s).mpr hd) (by simp) (by rw [hJ.stk]; exact (fun _ h => nomatch h))
  rw [List.nil_append] at t4
  have hstk : σ'.stk = [] := by
    rcases t2.st with e | ⟨_, _, _, _, ⟨j, z, q, _⟩, _⟩
    · rw [e]; exact hJ.stk
    · rw [hJ.stk] at q; simp at q
  have si' := t2.si
  rw [List.nil_append] at si'
  generalize hwalk : s :: n = walk at *
  have hns : ∀ v : V, v ∉ σ'.stk := fun v q => by rw [hstk] at q; cases q
  have hfr : ∀ v, v ∉ walk → σ'.N v = t.σ.N v ∧ σ'.own v = t.σ.own v ∧ σ'.C v = t.σ.C v := fun v q => by
    rw [← hwalk, List.mem_cons, not_or] at q
    exact t2.fr v q.1 q.2
  have hwin : ∀ x ∈ walk, x ∈ c.nms ∧ t.dn x = none ∧ ∀ y ∈ c.Eg x, t.dn y = none → y ∈ walk := fun x q =>
    ⟨(si'.vin x q).1, (dnN x).mp (si'.vin x q).2, fun y hy hyd => ((si'.cl x q (hns x)).2.1 y hy ((dnN y).mpr hyd)).1⟩
  as_aux_lemma =>
  have hwl : walk.length ≤ c.nms.length := nd_len si'.vnd fun v q => (hwin v q).1
  -- the reach lists
  let rch : V → List V := fun x => (walkP c.Eg (fun v => (t.dn v).isSome) (c.nms.length + 1) x []).getD []
  have hrch : ∀ x ∈ walk, walkP c.Eg (fun v => (t.dn v).isSome) (c.nms.length + 1) x [] = some (rch x) ∧ ∀ y, y ∈ rch x ↔ g.R x y := fun x q => by
    obtain ⟨new, e, q1, q2, q3, q4⟩ := walkP_ok (g := g) (nms := c.nms) hc.edge (by omega) (fun a b => nd_len a b) (k := c.nms.length + 1) (x := x) (met := []) (by simp) List.nodup_nil (fun _ h => nomatch h) (hwin x q).1
    rw [hdw] at e
    rw [List.nil_append] at e q3 q4
    have er : rch x = new := by show (walkP _ _ _ _ _).getD _ = _; rw [show walkP c.Eg _ _ x [] = some new from e]; rfl
    rw [er]
    refine ⟨e, fun y => ⟨fun q => (q4 y q).2.1, fun q => ?_⟩⟩
    exact Rch.closed (S := fun v => v ∈ new) (fun u v hu e => (q4 u hu).2.2 v e.1 e.2) q (q3 ((dnN x).mpr (hwin x ‹x ∈ walk›).2.1))
  have hkn : ∀ x ∈ walk, ∀ y, y ∈ knot walk rch x ↔ y ∈ walk ∧ g.Mu x y := fun x q y => by
    unfold knot
    rw [List.mem_filter, Bool.and_eq_true, decide_eq_true_iff, decide_eq_true_iff]
    constructor
    · rintro ⟨a, b, c⟩; exact ⟨a, ((hrch x q).2 y).mp b, ((hrch y a).2 x).mp c⟩
    · rintro ⟨a, b⟩; exact ⟨a, ((hrch x q).2 y).mpr b.1, ((hrch y a).2 x).mpr b.2⟩
  have hK : ∀ x ∈ walk, Kn' walk rch t.Kn x = knot walk rch x := fun x q => if_pos q
  have hK0 : ∀ x, x ∉ walk → Kn' walk rch t.Kn x = t.Kn x := fun x q => if_neg q
  have hrt : ∀ x ∈ walk, ∀ o, σ'.own x = some o → rtK (Kn' walk rch t.Kn) x = o := fun x q o ho => by
    obtain ⟨_, _, o', b1, b2, b3, b4, b5, pre, suf, b6, b7⟩ := si'.cl x q (hns x)
    rw [ho] at b3; injection b3 with b3; subst b3
    show (Kn' walk rch t.Kn x).headD x = o
    rw [hK x q]
    have e1 : knot walk rch x = knot pre rch x ++ knot (o :: suf) rch x := by
      unfold knot
      rw [show walk = pre ++ o :: suf from b6, List.filter_append]
    have e2 : knot pre rch x = [] := by
      rw [List.eq_nil_iff_forall_not_mem]
      intro u hu
      have hup : u ∈ pre := (List.mem_filter.mp hu).1
      have huw : u ∈ walk := by rw [b6]; exact List.mem_append_left _ hup
      have hu' : u ∈ knot walk rch x := by rw [e1]; exact List.mem_append_left _ hu
      exact b7 u hup (Gr.Mu.trans ((hkn x q u).mp hu').2.symm b5)
    have ho' := (hkn x q o).mpr ⟨b1, b5⟩
    have e3 : knot (o :: suf) rch x = o :: knot suf rch x := by
      unfold knot at ho' ⊢
      exact List.filter_cons_of_pos (p := fun y => decide (y ∈ rch x) && decide (x ∈ rch y)) (List.mem_filter.mp ho').2
    rw [e1, e2, e3]; rfl
  have hown : ∀ x ∈ walk, ∃ o ∈ walk, σ'.own x = some o ∧ σ'.own o = some o ∧ g.Mu x o := fun x q => by
    obtain ⟨_, _, o, b1, b2, b3, b4, b5, _⟩ := si'.cl x q (hns x)
    exact ⟨o, b1, b3, b4, b5⟩
  have hrw : ∀ x ∈ walk, rtK (Kn' walk rch t.Kn) x ∈ walk := fun x q => by
    obtain ⟨o, b1, b2, _⟩ := hown x q
    rw [hrt x q o b2]; exact b1
  -- said ends
  have hpl : ∀ x ∈ walk, ∀ y ∈ g.Eg x, g.dn y = none → pl (smK (Kn' walk rch t.Kn)) (rtK (Kn' walk rch t.Kn)) x y ∈ walk := fun x q y hy hyd => by
    have hyw := (hwin x q).2.2 y hy ((dnN y).mp hyd)
    unfold pl
    split
    · exact hyw
    · exact hrw y hyw
  have htl : ∀ x ∈ walk, (g.Vl x).length + tl g (g.Eg x) ≤ 4100 := fun x q => by
    have h1 := (hc.vl x (hwin x q).1).len
    have h2 := hc.el x (hwin x q).1
    have h3 : ∀ es : List V, (∀ y ∈ es, y ∈ c.nms) → tl g es ≤ es.length * 100 := by
      intro es
      induction es with
      | nil => intro _; simp [tl]
      | cons y es ih =>
        intro hes
        have := ih fun z hz => hes z (List.mem_cons_of_mem _ hz)
        cases e : g.dn y with
        | none =>
          have ht : tl g (y :: es) = tl g es := by simp [tl, e]
          rw [ht, List.length_cons, Nat.add_mul]; omega
        | some l =>
          have ht : tl g (y :: es) = l.length + tl g es := by simp [tl, e]
          have := (hgood y (hes y (by simp)) l e).len
          rw [ht, List.length_cons, Nat.add_mul]; omega
    have := h3 (g.Eg x) fun y hy => hc.edge x (hwin x q).1 y hy
    have h4 : (g.Eg x).length ≤ 40 := h2
    have h5 : (g.Vl x).length ≤ 100 := h1
    omega
  have htot : ∀ x ∈ walk, ∃ w m, saidP c.Eg c.Vl (dnL t.dn) (smK (Kn' walk rch t.Kn)) (rtK (Kn' walk rch t.Kn)) (c.nms.length + 1) x [] = some (w, m) ∧ w.length ≤ 100000 := fun x q => by
    obtain ⟨w, m, e, e1, e2, e3, e4⟩ := saidP_total (g := g) (sm := smK (Kn' walk rch t.Kn)) (rt := rtK (Kn' walk rch t.Kn)) (nms := walk) (b := 4100) hpl htl (by omega) (by omega) (fun x q => by have := (hc.vl x (hwin x q).1).len; show (c.Vl x).length ≤ 1000; omega) (fun a b => nd_len a b) (k := c.nms.length + 1) (x := x) (met := []) (by simp; omega) List.nodup_nil (fun _ h => nomatch h) q (by simp)
    refine ⟨w, m, e, ?_⟩
    have h6 : m.length ≤ 20 := Nat.le_trans (nd_len e1 e2) (Nat.le_trans hwl hsh)
    have h5 : m.length * 4100 ≤ 20 * 4100 := Nat.mul_le_mul_right _ h6
    have h7 : w.length ≤ m.length * 4100 := Nat.le_trans (Nat.le_add_right _ _) e4
    exact Nat.le_trans (Nat.le_trans h7 h5) (by decide)
  let ws : V → List Int := fun x => ((saidP c.Eg c.Vl (dnL t.dn) (smK (Kn' walk rch t.Kn)) (rtK (Kn' walk rch t.Kn)) (c.nms.length + 1) (rtK (Kn' walk rch t.Kn) x) []).getD ([], [])).1
  have hws : ∀ x ∈ walk, ∃ m, saidP c.Eg c.Vl (dnL t.dn) (smK (Kn' walk rch t.Kn)) (rtK (Kn' walk rch t.Kn)) (c.nms.length + 1) (rtK (Kn' walk rch t.Kn) x) [] = some (ws x, m) ∧ (ws x).length ≤ 100000 := fun x q => by
    obtain ⟨w, m, e, e1⟩ := htot _ (hrw x q)
    have : ws x = w := by show ((saidP _ _ _ _ _ _ _ _).getD _).1 = _; rw [e]; rfl
    rw [this]; exact ⟨m, e, e1⟩
  have hRt : RtOK p (smK (Kn' walk rch t.Kn)) (rtK (Kn' walk rch t.Kn)) σ' walk := by
    refine ⟨fun x q y q' => ?_, fun v q _ o ho => hrt v q o ho, fun z q => ?_⟩
    · show decide (y ∈ Kn' walk rch t.Kn x) = true ↔ _
      rw [decide_eq_true_iff, hK x q, hkn x q]; exact ⟨fun h => h.2, fun h => ⟨q', h⟩⟩
    · obtain ⟨w, m, e, _⟩ := htot z q
      exact ⟨w, m, saidE_of (g := g) e⟩
  have hCo : ∀ x ∈ walk, ∀ o, σ'.own x = some o → Good (σ'.C o) ∧ σ'.C o = onceP (ws x) := fun x q o ho => by
    obtain ⟨o', b1, b2, b3, b4⟩ := hown x q
    rw [ho] at b2; injection b2 with b2; subst b2
    obtain ⟨d1, d2⟩ := si'.clC o b1 (hns o) b3
    obtain ⟨m, e, _⟩ := hws x q
    rw [hrt x q o ho] at e
    exact ⟨d1, d2 _ _ hRt _ _ (saidE_of (g := g) e)⟩
  have hdnw : ∀ x ∈ walk, dn' walk ws t.dn x = some (some (onceP (ws x))) := fun x q => if_pos q
  have hdn0 : ∀ x, x ∉ walk → dn' walk ws t.dn x = t.dn x := fun x q => if_neg q
  have hnw : ∀ x, (t.dn x).isSome = true → x ∉ walk := fun x h q => by rw [(hwin x q).2.1] at h; cases h
  have hmukn : ∀ x ∈ walk, ∀ y ∈ walk, g.Mu x y → ∀ o, σ'.own x = some o → σ'.own y = some o := fun x q y q' hmu o ho => by
    obtain ⟨o', b1, b2, b3, b4⟩ := hown y q'
    rw [b2]
    have e1 := hrt x q o ho
    have e2 := hrt y q' o' b2
    have e3 : knot walk rch x = knot walk rch y := by
      have hmem : ∀ z ∈ walk, (decide (z ∈ rch x) && decide (x ∈ rch z)) = (decide (z ∈ rch y) && decide (y ∈ rch z)) := fun z hz => by
        rw [Bool.eq_iff_iff, Bool.and_eq_true, Bool.and_eq_true, decide_eq_true_iff, decide_eq_true_iff, decide_eq_true_iff, decide_eq_true_iff, (hrch x q).2, (hrch y q').2, (hrch z hz).2, (hrch z hz).2]
        exact ⟨fun h => Gr.Mu.trans hmu.symm h, fun h => Gr.Mu.trans hmu h⟩
      exact List.filter_congr hmem
    have h1 : (Kn' walk rch t.Kn x).headD x = o := e1
    have h2 : (Kn' walk rch t.Kn y).headD y = o' := e2
    rw [hK x q] at h1
    rw [hK y q', ← e3] at h2
    cases e4 : knot walk rch x with
    | nil => have := (hkn x q x).mpr ⟨q, Gr.Mu.refl x⟩; rw [e4] at this; cases this
    | cons u us => rw [e4] at h1 h2; change u = o at h1; change u = o' at h2; rw [← h1, ← h2]
  refine ⟨σ', walk, rch, ws, t1, by rw [hdw] at t4; exact t4, si'.vnd, hwin, fun x q => (hrch x q).1, fun x q h => ?_, fun x q y hy => ((hkn x q y).mp hy).1, fun x q => ?_, fun x q => ?_, ?_⟩
  · have := (hkn x q x).mpr ⟨q, Gr.Mu.refl x⟩; rw [h] at this; cases this
  · obtain ⟨m, e, _⟩ := hws x q; exact ⟨m, e⟩
  · obtain ⟨m, _, e⟩ := hws x q; exact e
  refine ⟨hstk, fun x q h => ?_, fun x q h => ?_, fun x q h => ?_, fun x q l h => ?_, fun x q l h y q' => ?_, ?_, fun x => ?_, ?_, fun x => ?_, fun x h => ?_⟩
  · have hw : x ∉ walk := fun r => by have h' : dn' walk ws t.dn x = none := h; rw [hdnw x r] at h'; cases h'
    have h' : dn' walk ws t.dn x = none := h
    rw [hdn0 x hw] at h'
    obtain ⟨f1, f2, f3⟩ := hfr x hw
    show σ'.N x = 0 ∧ σ'.own x = none
    rw [f1, f2]; exact hJ.wh x q h'
  · by_cases hw : x ∈ walk
    · exact (si'.cl x hw (hns x)).1
    · have h' : (dn' walk ws t.dn x).isSome = true := h
      rw [hdn0 x hw] at h'
      show σ'.N x = c.M
      rw [(hfr x hw).1]; exact hJ.nn x q h'
  · have h' : dn' walk ws t.dn x = some none := h
    have hw : x ∉ walk := fun r => by rw [hdnw x r] at h'; cases h'
    rw [hdn0 x hw] at h'
    show σ'.own x = none
    rw [(hfr x hw).2.1]; exact hJ.no x q h'
  · have h' : dn' walk ws t.dn x = some (some l) := h
    by_cases hw : x ∈ walk
    · rw [hdnw x hw] at h'
      injection h' with h'; injection h' with h'
      obtain ⟨o, b1, b2, b3, b4⟩ := hown x hw
      obtain ⟨d1, d2⟩ := hCo x hw o b2
      refine ⟨by rw [← h', ← d2]; exact d1, o, (hwin o b1).1, b2, b3, by show σ'.C o = l; rw [d2, h'], _, hdnw o b1⟩
    · rw [hdn0 x hw] at h'
      obtain ⟨a0, o, b1, b2, b3, b4, l2, b5⟩ := hJ.li x q l h'
      have how : o ∉ walk := hnw o (by rw [b5]; rfl)
      refine ⟨a0, o, b1, ?_, ?_, ?_, l2, (hdn0 o how).trans b5⟩
      · show σ'.own x = _; rw [(hfr x hw).2.1]; exact b2
      · show σ'.own o = _; rw [(hfr o how).2.1]; exact b3
      · show σ'.C o = _; rw [(hfr o how).2.2]; exact b4
  · have h' : dn' walk ws t.dn x = some (some l) := h
    show y ∈ Kn' walk rch t.Kn x ↔ σ'.own y = σ'.own x
    by_cases hw : x ∈ walk
    · rw [hK x hw, hkn x hw]
      obtain ⟨o, b1, b2, b3, b4⟩ := hown x hw
      rw [b2]
      constructor
      · rintro ⟨r1, r2⟩
        exact hmukn x hw y r1 r2 o b2
      · intro r
        by_cases hyw : y ∈ walk
        · obtain ⟨o', d1, d2, d3, d4⟩ := hown y hyw
          rw [r] at d2; injection d2 with d2; subst d2
          exact ⟨hyw, Gr.Mu.trans b4 d4.symm⟩
        · exfalso
          rw [(hfr y hyw).2.1] at r
          cases e : t.dn y with
          | none => rw [(hJ.wh y q' e).2] at r; cases r
          | some ol =>
            cases ol with
            | none => rw [hJ.no y q' e] at r; cases r
            | some l3 =>
              obtain ⟨_, o', d1, d2, _, _, l4, d5⟩ := hJ.li y q' l3 e
              rw [r] at d2; injection d2 with d2; subst d2
              exact hnw o (by rw [d5]; rfl) b1
    · rw [hdn0 x hw] at h'
      rw [hK0 x hw, (hfr x hw).2.1, hJ.kn x q l h' y q']
      by_cases hyw : y ∈ walk
      · obtain ⟨_, o, b1, b2, b3, b4, l2, b5⟩ := hJ.li x q l h'
        obtain ⟨o', d1, d2, _⟩ := hown y hyw
        rw [b2, d2, (hJ.wh y q' (hwin y hyw).2.1).2]
        constructor
        · intro r; cases r
        · intro r; injection r with r; subst r; exact absurd d1 (hnw o' (by rw [b5]; rfl))
      · rw [(hfr y hyw).2.1]
  · show σ'.bg.Nodup
    rw [si'.bg, List.nodup_append]
    exact ⟨hJ.bgn, si'.vnd, fun a ha b hb e => hnw a ((hJ.bgm a).mp ha).2.1 (e ▸ hb)⟩
  · show x ∈ σ'.bg ↔ x ∈ c.nms ∧ (dn' walk ws t.dn x).isSome = true ∧ c.sh x = false
    rw [si'.bg, List.mem_append]
    change x ∈ t.σ.bg ∨ x ∈ walk ↔ _
    rw [hJ.bgm]
    by_cases hw : x ∈ walk
    · rw [hdnw x hw]
      refine ⟨fun _ => ⟨(hwin x hw).1, rfl, ?_⟩, fun _ => .inr hw⟩
      cases e : c.sh x with
      | false => rfl
      | true => have := hJ.sh x e; rw [(hwin x hw).2.1] at this; cases this
    · rw [hdn0 x hw]; exact ⟨fun h => h.resolve_right hw, .inl⟩
  · show σ'.ak.Nodup
    rw [si'.ak, List.nodup_append]
    exact ⟨hJ.akn, si'.vnd, fun a ha b hb e => hnw a ((hJ.akm a).mp ha).2.1 (e ▸ hb)⟩
  · show x ∈ σ'.ak ↔ x ∈ c.nms ∧ (dn' walk ws t.dn x).isSome = true ∧ c.sh x = false
    rw [si'.ak, List.mem_append]
    change x ∈ t.σ.ak ∨ x ∈ walk ↔ _
    rw [hJ.akm]
    by_cases hw : x ∈ walk
    · rw [hdnw x hw]
      refine ⟨fun _ => ⟨(hwin x hw).1, rfl, ?_⟩, fun _ => .inr hw⟩
      cases e : c.sh x with
      | false => rfl
      | true => have := hJ.sh x e; rw [(hwin x hw).2.1] at this; cases this
    · rw [hdn0 x hw]; exact ⟨fun h => h.resolve_right hw, .inl⟩
  · show (dn' walk ws t.dn x).isSome = true
    by_cases hw : x ∈ walk
    · rw [hdnw x hw]; rfl
    · rw [hdn0 x hw]; exact hJ.sh x h
end
end Mine
end

section
open PySem PySem.W PyProof.Rows
set_option Elab.async false
set_option maxRecDepth 100000
namespace Mine
/-! the part of the ledger that the law's loop leaves alone -/
def IsIt (o : Obj) : Prop := o.cls = .type "list_iterator" ∧ ∃ l i, o.data = .fields #[.ref l, .int i 0]
open Classical in
noncomputable def offW (W : List Addr) (D : Led) : Led := fun a => if a ∈ W then none else (D a).bind fun o => if IsIt o then none else some o
/-- all but W (and iterators) stays -/
def KpW (W : List Addr) (D D' : Led) : Prop := ∀ a o, a ∉ W → D a = some o → ¬ IsIt o → D' a = some o
def SubI (D D' : Led) : Prop := ∀ a o, D a = some o → ¬ IsIt o → D' a = some o
theorem SubI.sub {D D' : Led} (x : SubI D D') : Sub D D' := fun a o e h => x a o e fun q => h q.1
theorem SubI.off {D D' : Led} {it l : Addr} {i : Nat} (h : LIt D it l i) (x : ∀ a, a ≠ it → D' a = D a) : SubI D D' := fun b o' e hc => by
  rw [x b (fun q => by obtain ⟨o2, e2, c2, d2⟩ := h; rw [q, e2] at e; injection e with e; exact hc ⟨e ▸ c2, _, _, e ▸ d2⟩)]; exact e
theorem SubI.ext {D D' : Led} (x : Ext0 D D') : SubI D D' := fun a o e _ => x a o e
section
variable {W : List Addr} {D D' D'' : Led}
theorem KpW.refl (W : List Addr) (D : Led) : KpW W D D := fun _ _ _ e _ => e
theorem KpW.trans (x : KpW W D D') (y : KpW W D' D'') : KpW W D D'' := fun a o h e c => y a o h (x a o h e c) c
theorem KpW.ext (x : Ext0 D D') : KpW W D D' := fun a o _ e _ => x a o e
theorem KpW.sub (x : SubI D D') : KpW W D D' := fun a o _ e c => x a o e c
theorem KpW.put {a : Addr} {o : Obj} (h : a ∈ W) : KpW W D (D.put a o) := fun b o' hb e _ => by
  have hne : b ≠ a := fun q => hb (by rw [q]; exact h)
  rw [Led.put_other hne]; exact e
theorem KpW.less {W' : List Addr} (x : KpW W' D D') (h : ∀ a ∈ W', a ∈ W) : KpW W D D' := fun a o ha e c => x a o (fun q => ha (h a q)) e c
theorem offW_some {a : Addr} {o : Obj} (h : offW W D a = some o) : a ∉ W ∧ D a = some o ∧ ¬ IsIt o := by
  unfold offW at h
  split at h
  · cases h
  · rename_i hW
    cases e : D a with
    | none => rw [e] at h; cases h
    | some o' =>
      rw [e] at h
      simp only [Option.bind_some] at h
      split at h
      · cases h
      · rename_i hc; injection h with h; subst h; exact ⟨hW, rfl, hc⟩
theorem offW_mk {a : Addr} {o : Obj} (hW : a ∉ W) (h : D a = some o) (hc : ¬ IsIt o) : offW W D a = some o := by
  unfold offW
  rw [if_neg hW, h]
  exact if_neg hc
theorem offW_none {a : Addr} (h : a ∈ W) : offW W D a = none := if_pos h
theorem offW_le : Ext0 (offW W D) D := fun _ _ e => (offW_some e).2.1
theorem KpW.off (x : KpW W D D') : Ext0 (offW W D) (offW W D') := fun a o e => by
  obtain ⟨h1, h2, h3⟩ := offW_some e
  exact offW_mk h1 (x a o h1 h2 h3) h3
end
theorem notIt_cls {o : Obj} (h : o.cls ≠ .type "list_iterator") : ¬ IsIt o := fun q => h q.1
theorem CV.notIt {D : Led} {c : Addr} {v : Option Value} (x : CV D c v) : ∀ o, D c = some o → ¬ IsIt o := fun o e q => by
  obtain ⟨o', e', d⟩ := x; obtain ⟨_, l, i, q⟩ := q
  rw [e'] at e; injection e with e; subst e; rw [d] at q; cases q
section
variable {prog : Program} {w : World} {W : List Addr} {D D' : Led}
theorem LV.off {l : Addr} {vs : List Value} (x : LV D l vs) (h : l ∉ W) : LV (offW W D) l vs := let ⟨n, e⟩ := x; ⟨n, offW_mk h e (notIt_cls (by simp [lstO]))⟩
theorem CV.off {l : Addr} {v : Option Value} (x : CV D l v) (h : l ∉ W) : CV (offW W D) l v := let ⟨o, e, r⟩ := x; ⟨o, offW_mk h e (x.notIt o e), r⟩
theorem CV.subI {l : Addr} {v : Option Value} (x : CV D l v) (h : SubI D D') : CV D' l v := let ⟨o, e, r⟩ := x; ⟨o, h _ _ e (x.notIt o e), r⟩
/-- W holds no tuples -/
def NoT (W : List Addr) (D : Led) : Prop := ∀ a ∈ W, ∀ o, D a = some o → ¬ IsTup o
theorem NoT.t (h : NoT W D) : TSub D (offW W D) := fun a o c e => offW_mk (fun q => h a q o e c) e (notIt_cls (by rw [c.1]; simp))
theorem DK.off {d : Addr} {xs : KVs} (x : DK prog w D d xs) (h : d ∉ W) (ht : NoT W D) : DK prog w (offW W D) d xs :=
  ⟨let ⟨n, e⟩ := x.obj; ⟨n, offW_mk h e (notIt_cls (by simp [dctO]))⟩, fun y hy => (x.keys y hy).mono ht.t, x.nodup⟩
theorem ES.off {nms : List Key} {Eg : Key → List Key} {eL : Key → Addr} {dE : Addr} (x : ES prog w nms Eg eL dE D) (ht : NoT W D) (hd : dE ∉ W) (hl : ∀ x ∈ nms, eL x ∉ W) : ES prog w nms Eg eL dE (offW W D) :=
  ⟨let ⟨xs, h1, h2⟩ := x.dict; ⟨xs, h1.off hd ht, h2⟩, fun y hy => let ⟨ws, h1, h2⟩ := x.list y hy; ⟨ws, h1.off (hl y hy), h2.mono ht.t⟩⟩
theorem IS.off {nms : List Key} {Vl : Key → List Int} {vL : Key → Addr} {dV : Addr} (x : IS prog w nms Vl vL dV D) (ht : NoT W D) (hd : dV ∉ W) (hl : ∀ x ∈ nms, vL x ∉ W) : IS prog w nms Vl vL dV (offW W D) :=
  ⟨let ⟨xs, h1, h2⟩ := x.dict; ⟨xs, h1.off hd ht, h2⟩, fun y hy => let ⟨ws, h1, h2⟩ := x.list y hy; ⟨ws, h1.off (hl y hy), h2⟩⟩
theorem DS.off {dn : Key → Option (Option (List Int))} {oL : Key → Addr} {dD : Addr} (x : DS prog w dn oL dD D) (ht : NoT W D) (hd : dD ∉ W) (hl : ∀ k l, dn k = some (some l) → oL k ∉ W) : DS prog w dn oL dD (offW W D) :=
  ⟨let ⟨xs, h1, h2⟩ := x.dict; ⟨xs, h1.off hd ht, h2⟩, fun y l hy => let ⟨ws, h1, h2⟩ := x.list y l hy; ⟨ws, h1.off (hl y l hy), h2⟩⟩
end
/-! the law's loop -/
set_option genInjectivity false in
set_option genSizeOf false in
structure LK where
  r : DrR
  L : Addr
  a : Addr
  cd : Value
  pm : Value
  fF : Addr
  fR : Addr
  lB : Addr
  lA : Addr
  dN : Addr
  lS : Addr
  lBo : Addr
  dT : Addr
  dD : Addr
  dK : Addr
  vB : List Value
  P : Addr
def LK.W (k : LK) : List Addr := [k.dN, k.lS, k.dT, k.lB, k.lA, k.dD, k.dK, k.L + 3, k.L + 7]
theorem LK.m1 {k : LK} : k.dN ∈ k.W := by simp [LK.W]
theorem LK.m2 {k : LK} : k.lS ∈ k.W := by simp [LK.W]
theorem LK.m3 {k : LK} : k.dT ∈ k.W := by simp [LK.W]
theorem LK.m4 {k : LK} : k.lB ∈ k.W := by simp [LK.W]
theorem LK.m5 {k : LK} : k.lA ∈ k.W := by simp [LK.W]
theorem LK.m6 {k : LK} : k.dD ∈ k.W := by simp [LK.W]
theorem LK.m7 {k : LK} : k.dK ∈ k.W := by simp [LK.W]
theorem LK.m8 {k : LK} : k.L + 3 ∈ k.W := by simp [LK.W]
theorem LK.m9 {k : LK} : k.L + 7 ∈ k.W := by simp [LK.W]
abbrev LK.tc (k : LK) : TC := ⟨k.dN, k.lS, k.dT, k.lB, k.lA, .ref k.r.lN, .ref k.fR, .ref k.fF, k.r.nms, k.vB, k.r.Eg, k.r.Vl, k.r.eL⟩
abbrev LK.lc (k : LK) : LC Key := ⟨k.r.nms, k.r.Eg, k.r.Vl, maxI, k.vB.length, fun x => (k.r.sh x).isSome⟩
set_option genInjectivity false in
set_option genSizeOf false in
/-- the loop's state, in plain terms; kd: the names whose knots are told -/
structure LT where
  σ : TS Key
  dn : ShF
  kd : Key → Bool
  Kn : Key → List Key
abbrev LT.of (t : LS Key) : LT := ⟨t.σ, t.dn, fun x => (t.dn x).isSome, t.Kn⟩
structure LStat (prog : Program) (w : World) (k : LK) (dn : ShF) (kd : Key → Bool) (Kn : Key → List Key) (oL kL : Key → Addr) (S : Led) : Prop where
  O : DrO prog w k.r S
  X : LSt prog w k.L k.a k.cd k.pm k.r k.fF k.fR k.lB k.lA S
  Bo : LV S k.lBo k.vB
  BoK : KeysL prog w S (botK k.r.dep) k.vB
  c1 : CV S (k.L + 1) (some (.ref k.r.lN))
  c2 : CV S (k.L + 2) (some (.ref k.r.dS))
  c4 : CV S (k.L + 4) (some (.ref k.dT))
  c5 : CV S (k.L + 5) (some (.ref k.dD))
  c6 : CV S (k.L + 6) (some (.ref k.dK))
  Dl : ∀ x l, dn x = some (some l) → ∃ ws, LV S (oL x) ws ∧ IntsL l ws
  Kl : ∀ x, kd x = true → ∃ ws, LV S (kL x) ws ∧ KeysL prog w S (Kn x) ws
  T : ∃ ps, S k.P = some (tabObj ps)
abbrev doneV (dn : ShF) (oL : Key → Addr) : Key → Option Value := shV dn oL
structure LI (prog : Program) (w : World) (k : LK) (t : LT) (ad oL kL : Key → Addr) (s0 : Shared) (D : Led) : Prop where
  st : LStat prog w k t.dn t.kd t.Kn oL kL (offW k.W D)
  T : TInv prog w k.tc D t.σ ad
  dD : ∃ xD, DK prog w D k.dD xD ∧ ∀ x, look xD x = doneV t.dn oL x
  dK : ∃ xK, DK prog w D k.dK xK ∧ (∀ x ∈ xK.map (·.1), x ∈ k.r.nms) ∧ ∀ x, t.kd x = true → look xK x = some (.ref (kL x))
  x : ∃ v, CV D (k.L + 3) v
  rc : ∃ v, CV D (k.L + 7) v
  new : ∀ o, (t.σ.own o).isSome = true → s0.heap.get? (ad o) = none
  dnm : ∀ x, (t.dn x).isSome = true → x ∈ k.r.nms
  knm : ∀ x, t.kd x = true → ∀ y ∈ t.Kn x, y ∈ k.r.nms
  sep : ∀ o, (t.σ.own o).isSome = true → ad o ≠ k.r.lN ∧ (∀ x l, t.dn x = some (some l) → oL x ≠ ad o) ∧ ∀ x, t.kd x = true → kL x ≠ ad o
structure LKok (k : LK) (s0 : Shared) : Prop where
  P : DrP k.r
  nd : k.W.Nodup
  new : ∀ a ∈ k.W, s0.heap.get? a = none
  mS : (k.r.dS == sysModules) = false
  bot : k.vB.length ≤ 2
section
variable {prog : Program} {w : World} {k : LK}
theorem LSt.ext {L a : Addr} {cd pm : Value} {r : DrR} {fF fR lB lA : Addr} {S S' : Led} (x : LSt prog w L a cd pm r fF fR lB lA S) (h : Ext0 S S') : LSt prog w L a cd pm r fF fR lB lA S' :=
  ⟨x.E.sub h.sub, x.V.sub h.sub, x.cA.mono fun o e => h _ o e, x.cB.mono fun o e => h _ o e, x.cE.mono fun o e => h _ o e, x.cV.mono fun o e => h _ o e,
    let ⟨c', ctv, doc, e, q⟩ := x.fF; ⟨c', ctv, doc, h _ _ e, q.ext h⟩, let ⟨c', ctv, doc, e, q⟩ := x.fR; ⟨c', ctv, doc, h _ _ e, q.ext h⟩⟩
theorem LStat.ext {dn : ShF} {kd : Key → Bool} {Kn : Key → List Key} {oL kL : Key → Addr} {S S' : Led} (x : LStat prog w k dn kd Kn oL kL S) (h : Ext0 S S') : LStat prog w k dn kd Kn oL kL S' :=
  ⟨x.O.mo h.mo, x.X.ext h, x.Bo.sub h.sub, x.BoK.mono h.t, x.c1.mono fun o e => h _ o e, x.c2.mono fun o e => h _ o e, x.c4.mono fun o e => h _ o e, x.c5.mono fun o e => h _ o e, x.c6.mono fun o e => h _ o e,
    fun y l hy => let ⟨ws, a, b⟩ := x.Dl y l hy; ⟨ws, a.sub h.sub, b⟩, fun y hy => let ⟨ws, a, b⟩ := x.Kl y hy; ⟨ws, a.sub h.sub, b.mono h.t⟩, let ⟨ps, e⟩ := x.T; ⟨ps, h _ _ e⟩⟩
/-- the loop's state where new objects come, or iterators change -/
theorem LI.sub {t : LT} {ad oL kL : Key → Addr} {s0 : Shared} {D D' : Led} (x : LI prog w k t ad oL kL s0 D) (h : SubI D D') : LI prog w k t ad oL kL s0 D' :=
  { x with
    st := x.st.ext (KpW.sub h).off, T := x.T.sub h.sub
    dD := let ⟨xs, a, b⟩ := x.dD; ⟨xs, a.sub h.sub, b⟩
    dK := let ⟨xs, a, b⟩ := x.dK; ⟨xs, a.sub h.sub, b⟩
    x := let ⟨v, a⟩ := x.x; ⟨v, a.subI h⟩
    rc := let ⟨v, a⟩ := x.rc; ⟨v, a.subI h⟩ }
end
end Mine
end

section
open PySem PySem.W PyProof.Rows
set_option Elab.async false
set_option maxRecDepth 100000
namespace Mine
/-- the kinds of what the law's loop writes -/
structure WT (prog : Program) (w : World) (k : LK) (D : Led) : Prop where
  N : ∃ xs, DK prog w D k.dN xs
  S : ∃ vs, LV D k.lS vs
  T : ∃ xs, DK prog w D k.dT xs
  B : ∃ vs, LV D k.lB vs
  A : ∃ vs, LV D k.lA vs
  Dd : ∃ xs, DK prog w D k.dD xs
  K : ∃ xs, DK prog w D k.dK xs
  x : ∃ v, CV D (k.L + 3) v
  rc : ∃ v, CV D (k.L + 7) v
section
variable {prog : Program} {w : World} {k : LK} {D : Led}
theorem mem_W {a : Addr} : a ∈ k.W ↔ a = k.dN ∨ a = k.lS ∨ a = k.dT ∨ a = k.lB ∨ a = k.lA ∨ a = k.dD ∨ a = k.dK ∨ a = k.L + 3 ∨ a = k.L + 7 := by
  unfold LK.W; simp only [List.mem_cons, List.not_mem_nil, or_false]
theorem CV.some {c : Addr} {v : Option Value} (x : CV D c v) : ∃ o, D c = Option.some o := let ⟨o, e, _⟩ := x; ⟨o, e⟩
theorem WT.some (x : WT prog w k D) : ∀ a ∈ k.W, ∃ o, D a = some o := fun a ha => by
  rcases mem_W.mp ha with h | h | h | h | h | h | h | h | h <;> subst h
  · obtain ⟨_, q⟩ := x.N; exact q.some
  · obtain ⟨_, q⟩ := x.S; exact q.some
  · obtain ⟨_, q⟩ := x.T; exact q.some
  · obtain ⟨_, q⟩ := x.B; exact q.some
  · obtain ⟨_, q⟩ := x.A; exact q.some
  · obtain ⟨_, q⟩ := x.Dd; exact q.some
  · obtain ⟨_, q⟩ := x.K; exact q.some
  · obtain ⟨_, q⟩ := x.x; exact q.some
  · obtain ⟨_, q⟩ := x.rc; exact q.some
theorem WT.noT (x : WT prog w k D) : NoT k.W D := fun a ha => by
  rcases mem_W.mp ha with h | h | h | h | h | h | h | h | h <;> subst h
  · obtain ⟨_, q⟩ := x.N; exact q.noTup
  · obtain ⟨_, q⟩ := x.S; exact q.noTup
  · obtain ⟨_, q⟩ := x.T; exact q.noTup
  · obtain ⟨_, q⟩ := x.B; exact q.noTup
  · obtain ⟨_, q⟩ := x.A; exact q.noTup
  · obtain ⟨_, q⟩ := x.Dd; exact q.noTup
  · obtain ⟨_, q⟩ := x.K; exact q.noTup
  · obtain ⟨_, q⟩ := x.x; exact q.noTup
  · obtain ⟨_, q⟩ := x.rc; exact q.noTup
theorem WT.new (x : WT prog w k D) {a : Addr} (h : D a = none) : a ∉ k.W := fun q => by obtain ⟨o, e⟩ := x.some a q; rw [h] at e; cases e
theorem WT.list (x : WT prog w k D) {l : Addr} {vs : List Value} (h : LV D l vs) (h1 : l ≠ k.lS) (h2 : l ≠ k.lB) (h3 : l ≠ k.lA) : l ∉ k.W := fun q => by
  rcases mem_W.mp q with e | e | e | e | e | e | e | e | e
  · obtain ⟨_, q⟩ := x.N; exact h.neD q e
  · exact h1 e
  · obtain ⟨_, q⟩ := x.T; exact h.neD q e
  · exact h2 e
  · exact h3 e
  · obtain ⟨_, q⟩ := x.Dd; exact h.neD q e
  · obtain ⟨_, q⟩ := x.K; exact h.neD q e
  · obtain ⟨_, q⟩ := x.x; exact q.neL h e.symm
  · obtain ⟨_, q⟩ := x.rc; exact q.neL h e.symm
theorem WT.cell (x : WT prog w k D) {i : Nat} {v : Option Value} (h : CV D (k.L + i) v) (h1 : i ≠ 3) (h2 : i ≠ 7) : k.L + i ∉ k.W := fun q => by
  rcases mem_W.mp q with e | e | e | e | e | e | e | e | e
  · obtain ⟨_, q⟩ := x.N; exact h.neD q e
  · obtain ⟨_, q⟩ := x.S; exact h.neL q e
  · obtain ⟨_, q⟩ := x.T; exact h.neD q e
  · obtain ⟨_, q⟩ := x.B; exact h.neL q e
  · obtain ⟨_, q⟩ := x.A; exact h.neL q e
  · obtain ⟨_, q⟩ := x.Dd; exact h.neD q e
  · obtain ⟨_, q⟩ := x.K; exact h.neD q e
  · exact h1 (Nat.add_left_cancel e)
  · exact h2 (Nat.add_left_cancel e)
theorem WT.obj (x : WT prog w k D) {a : Addr} {o : Obj} (h : D a = Option.some o) (h1 : ∀ vs n, o.data ≠ .seq vs n) (h2 : ∀ es n, o.data ≠ .dict es n) (h3 : ∀ v, o.data ≠ .cell v) : a ∉ k.W := fun q => by
  have hl : ∀ {l vs}, LV D l vs → a ≠ l := fun {l vs} q e => by obtain ⟨n, q⟩ := q; rw [← e, h] at q; injection q with q; subst q; exact h1 _ _ rfl
  have hd : ∀ {d xs}, DK prog w D d xs → a ≠ d := fun {l vs} q e => by obtain ⟨n, q⟩ := q.obj; rw [← e, h] at q; injection q with q; subst q; exact h2 _ _ rfl
  have hc : ∀ {c v}, CV D c v → a ≠ c := fun {c v} q e => by obtain ⟨o', q, r⟩ := q; rw [← e, h] at q; injection q with q; subst q; exact h3 _ r
  rcases mem_W.mp q with e | e | e | e | e | e | e | e | e
  · obtain ⟨_, q⟩ := x.N; exact hd q e
  · obtain ⟨_, q⟩ := x.S; exact hl q e
  · obtain ⟨_, q⟩ := x.T; exact hd q e
  · obtain ⟨_, q⟩ := x.B; exact hl q e
  · obtain ⟨_, q⟩ := x.A; exact hl q e
  · obtain ⟨_, q⟩ := x.Dd; exact hd q e
  · obtain ⟨_, q⟩ := x.K; exact hd q e
  · obtain ⟨_, q⟩ := x.x; exact hc q e
  · obtain ⟨_, q⟩ := x.rc; exact hc q e
theorem LI.wt {t : LT} {ad oL kL : Key → Addr} {s0 : Shared} (x : LI prog w k t ad oL kL s0 D) : WT prog w k D :=
  ⟨let ⟨xs, h, _⟩ := x.T.N; ⟨xs, h⟩, let ⟨vs, h, _⟩ := x.T.S; ⟨_, h⟩, let ⟨xs, h, _⟩ := x.T.F; ⟨xs, h⟩, let ⟨vs, h, _⟩ := x.T.bg; ⟨_, h⟩, let ⟨vs, h, _⟩ := x.T.ak; ⟨_, h⟩, let ⟨xs, h, _⟩ := x.dD; ⟨xs, h⟩, let ⟨xs, h, _⟩ := x.dK; ⟨xs, h⟩, x.x, x.rc⟩
end
/-- the law's state before the first walk -/
abbrev σ0 (sh : ShF) : TS Key := ⟨fun k => if (sh k).isSome then maxI else 0, [], own0 sh, fun k => ((sh k).getD none).getD [], [], []⟩
abbrev t0 (sh : ShF) : LS Key := ⟨σ0 sh, sh, fun k => [k]⟩
theorem own0_some {sh : ShF} {k o : Key} (h : own0 sh k = some o) : o = k ∧ ∃ l, sh k = some (some l) := by
  unfold own0 at h
  split at h
  · rename_i q; injection h with h; exact ⟨h.symm, isL_iff.mp q⟩
  · cases h
theorem own0_of {sh : ShF} {k : Key} {l : List Int} (h : sh k = some (some l)) : own0 sh k = some k := if_pos (isL_iff.mpr ⟨l, h⟩)
theorem J0 {r : DrR} (hP : DrP r) {n : Nat} : J ⟨r.nms, r.Eg, r.Vl, maxI, n, fun x => (r.sh x).isSome⟩ (t0 r.sh) where
  stk := rfl
  wh := fun x _ h => by
    refine ⟨?_, ?_⟩
    · show (if (r.sh x).isSome then maxI else 0) = 0
      rw [show r.sh x = none from h]; rfl
    · show own0 r.sh x = none
      unfold own0
      rw [if_neg]
      intro q
      obtain ⟨l, e⟩ := isL_iff.mp q
      rw [show r.sh x = none from h] at e; cases e
  nn := fun x _ h => by show (if (r.sh x).isSome then maxI else 0) = maxI; rw [if_pos h]
  no := fun x _ h => by
    show own0 r.sh x = none
    unfold own0
    rw [if_neg]
    intro q
    obtain ⟨l, e⟩ := isL_iff.mp q
    rw [show r.sh x = some none from h] at e; cases e
  li := fun x hx l h => ⟨hP.Sg x l h, x, hx, own0_of h, own0_of h, by show ((r.sh x).getD none).getD [] = l; rw [show r.sh x = some (some l) from h]; rfl, l, h⟩
  kn := fun x _ l h y _ => by
    show y ∈ [x] ↔ own0 r.sh y = own0 r.sh x
    rw [own0_of h, List.mem_singleton]
    constructor
    · rintro rfl; exact own0_of h
    · intro e; exact (own0_some e).1.symm
  bgn := List.nodup_nil
  bgm := fun x => ⟨(fun h => nomatch h), fun ⟨_, h1, h2⟩ => by
    have h1' : (r.sh x).isSome = true := h1
    have h2' : (r.sh x).isSome = false := h2
    rw [h1'] at h2'; cases h2'⟩
  akn := List.nodup_nil
  akm := fun x => ⟨(fun h => nomatch h), fun ⟨_, h1, h2⟩ => by
    have h1' : (r.sh x).isSome = true := h1
    have h2' : (r.sh x).isSome = false := h2
    rw [h1'] at h2'; cases h2'⟩
  sh := fun x h => h
theorem LC_ok {r : DrR} (hP : DrP r) {n : Nat} (hn : n ≤ 2) : (LC.mk r.nms r.Eg r.Vl maxI n fun x => (r.sh x).isSome).Ok :=
  ⟨fun x hx y hy => (hP.Eg x hx).1 y hy, by have := hP.len.2; show r.nms.length ≤ 20; omega, by show n ≤ 100; omega, by show (1000 : Int) < maxI; decide, hP.Vg, fun x hx => (hP.Eg x hx).2⟩
end Mine
end

section
open PySem PySem.W PyProof.Rows
set_option Elab.async false
set_option maxRecDepth 100000
namespace Mine
abbrev lV (k : LK) : Vars := [("numbers", .ref k.dN), ("stack", .ref k.lS), ("bottom", .ref k.lBo), ("related", .ref k.fR), ("first", .ref k.fF), ("starts", .ref k.r.lO)]
theorem Ext0.lose {S D : Led} (x : Ext0 S D) {a : Addr} (h : D a = none) : S a = none := by
  cases e : S a with
  | none => rfl
  | some o => have := x _ o e; rw [h] at this; cases this
theorem ne_new {D : Led} {a b : Addr} (h : D a = none) (h' : ∃ o, D b = some o) : a ≠ b := fun e => by obtain ⟨o, q⟩ := h'; rw [← e, h] at q; cases q
section
variable {prog : Program} {w : World} {h₁ : Heap} {mg mb : Str → Option Value}
theorem law_start (G : Glo h₁ mg mb) {a c P : Addr} {A : Around} {E : Value → Shared → Prop} {D : Led} {s s1 : Shared} {D1 : Led} {Q : Flow → Shared → Prop} {l : Addr} {vs : List Value} {ns : List Int} {ad : Addr} {od : Obj} {pm cd doc : Value} (hR : Room A 3)
    (hbm : ∃ bm o, mg "__builtins__" = some (.ref bm) ∧ bm ≠ builtinsNs ∧ bm ≠ mainGlobals ∧ h₁.get? bm = some o ∧ o.cls = .type "module" ∧ o.dict = some builtinsNs ∧ o.data = .plain)
    (hC : CodeHd h₁ c P) (hPh : hLed h₁ P = none) (hP : D1 P = some (tabObj #[])) (hmg : mg "_law_drawn" = some (.ref ad)) (hod : h₁.get? ad = some od)
    (hdata : od.data = .func (PySem.Calls.docDef "_law_drawn" (fParams (fnAt 4)) (fBody (fnAt 4)) (fScope (fnAt 4)) pm cd doc)) (hcd : h₁.CodeRec cd "_law_drawn")
    (F1 : At (hLed h₁) [P] D s s.heap.objs.size [("script", .ref l)] D1 s1) (C1 : Cells s.heap.objs.size (fun _ => none) D1) (hc0 : ∀ i, 1 ≤ i → i ≤ 11 → s.heap.get? (s.heap.objs.size + i) = none)
    (hl : s1.heap.IsList l vs.toArray) (hi : IntsAre vs ns) (hz : vs.length ≤ 1000)
    (hQ : ∀ k adF oL kL D' s', k.L = s.heap.objs.size → k.a = a → k.cd = .ref c → k.P = P → LKok k s → LI prog w k (.of (t0 k.r.sh)) adF oL kL s D' → At (hLed h₁) [P] D s s.heap.objs.size (lV k) D' s' →
      wpAny (model prog w) A (execs ((fBody (fnAt 8)).drop 11) (lEnv s.heap.objs.size a (.ref c))) Q E s') :
    wpAny (model prog w) A (execs (fBody (fnAt 8)) (lEnv s.heap.objs.size a (.ref c))) Q E s1 := by
  refine law_head G hR hbm hC hPh hP hmg hod hdata hcd F1 C1 hc0 hl hi hz fun r cm fF fR lB lA t D2 s2 F2 H hPr hmS hBs hAs => ?_
  have F2' : At (hLed h₁) [P] D s s.heap.objs.size (("depth", .int (r.dep : Nat) t) :: [("related", .ref fR), ("first", .ref fF), ("starts", .ref r.lO)]) D2 s2 := F2.less (by simp)
  refine law_bottom G hR hPr.dep F2' (fun p hp => ⟨all_ne rfl p hp, all_ne rfl p hp⟩) fun lBo lS vB D3 s3 F3 x3 hBo hS hBK nBo nS sS neSB => ?_
  refine law_numbers G hR F3 (all_ne rfl) (H.O.mo x3.mo) hPr (H.C.ext x3) H.c1 H.c2 hmS fun dN D4 s4 F4 x4 hN nN sN => ?_
  have x24 := x3.trans x4
  refine law_told G hR F4 (H.O.mo x24.mo) hPr (H.C.ext x24) H.c2 hmS (hc0 4 (by decide) (by decide)) fun dT adF D5 s5 F5 m5 C5 hFI hTl hinj nT sT => ?_
  have hO5 := (H.O.mo x24.mo).mo m5.mo
  refine law_done hR F5 hO5 hPr C5 (by exact H.c2) hmS (hc0 5 (by decide) (by decide)) fun dD xD D6 s6 F6 m6 C6 hD hDl nD sD => ?_
  have hO6 := hO5.mo m6.mo
  refine law_knots hR F6 hO6 hPr C6 (by exact H.c2) hmS (hc0 6 (by decide) (by decide)) fun dK xK kL D7 s7 F7 m7 C7 hK hKm hKl nK sK => ?_
  obtain ⟨S, S1, S2, S3, S4, S5, S6⟩ := H.St
  have m27 : NC D2 D7 := ((x24.nc.trans m5).trans m6).trans m7
  have m47 : NC D4 D7 := (m5.trans m6).trans m7
  have X4 : Ext0 S D4 := S1.trans x24
  have X5 : Ext0 S D5 := fun a o e => m5 a o (X4 a o e) (S2 a o e).2
  have X6 : Ext0 S D6 := fun a o e => m6 a o (X5 a o e) (S2 a o e).2
  have X7 : Ext0 S D7 := fun a o e => m7 a o (X6 a o e) (S2 a o e).2
  obtain ⟨xN, hN1, hN2⟩ := id hN
  obtain ⟨xT, hT1, hT2⟩ := id hFI
  have lS7 : LV D7 lS vB := (hS.sub x4.sub).mo m47.mo
  have lB7 : LV D7 lB [] := H.B.mo m27.mo
  have lA7 : LV D7 lA [] := H.A.mo m27.mo
  have lBo7 : LV D7 lBo vB := (hBo.sub x4.sub).mo m47.mo
  have dN7 : DK prog w D7 dN xN := hN1.mo m47.mo
  have dT7 : DK prog w D7 dT xT := hT1.mo (m6.trans m7).mo
  have dD7 : DK prog w D7 dD xD := hD.mo m7.mo
  obtain ⟨k, hk⟩ : ∃ k : LK, k = ⟨r, s.heap.objs.size, a, .ref c, (mg "__name__").getD .none, fF, fR, lB, lA, dN, lS, lBo, dT, dD, dK, vB, P⟩ := ⟨_, rfl⟩
  have hWT : WT prog w k D7 := by
    subst hk
    exact ⟨⟨_, dN7⟩, ⟨_, lS7⟩, ⟨_, dT7⟩, ⟨_, lB7⟩, ⟨_, lA7⟩, ⟨_, dD7⟩, ⟨_, hK⟩, ⟨_, C7 3 (by decide) (by decide)⟩, ⟨_, C7 7 (by decide) (by decide)⟩⟩
  have hSW : ∀ b ∈ k.W, S b = none := fun b hb => by
    rcases mem_W.mp hb with h | h | h | h | h | h | h | h | h <;> subst hk <;> subst h
    · exact (S1.trans x3).lose nN
    · exact S1.lose nS
    · exact X4.lose nT
    · exact S3
    · exact S4
    · exact X5.lose nD
    · exact X6.lose nK
    · exact S5 3 (by decide) (by decide)
    · exact S5 7 (by decide) (by decide)
  have hoff : Ext0 S (offW k.W D7) := fun b o e => offW_mk (fun q => by rw [hSW b q] at e; cases e) (X7 b o e) (notIt_cls (S2 b o e).1)
  have hNT := hWT.noT
  have hcell : ∀ i v, 1 ≤ i → i ≤ 11 → i ≠ 3 → i ≠ 7 → CV D7 (k.L + i) v → CV (offW k.W D7) (k.L + i) v := fun i v _ _ h3 h7 q => q.off (hWT.cell q h3 h7)
  have hL : k.L = s.heap.objs.size := by rw [hk]
  have C7' : ∀ i, 1 ≤ i → i ≤ 11 → CV D7 (k.L + i) (cup (cup (cup cm 4 (.ref dT)) 5 (.ref dD)) 6 (.ref dK) i) := fun i h1 h2 => by rw [hL]; exact C7 i h1 h2
  have kOff : ∀ {f o}, D7 f = some o → (∀ vs n, o.data ≠ .seq vs n) → (∀ es n, o.data ≠ .dict es n) → (∀ v, o.data ≠ .cell v) → ¬ IsIt o → offW k.W D7 f = some o := fun e h1 h2 h3 h4 => offW_mk (hWT.obj e h1 h2 h3) e h4
  have hfn : ∀ {f name q i cl doc c' ctv}, D2 f = some (fnOf name q i cl doc ((mg "__name__").getD .none) c' ctv) → offW k.W D7 f = some (fnOf name q i cl doc ((mg "__name__").getD .none) c' ctv) := fun {f name q i cl doc c' ctv} e => by
    refine kOff (m27 _ _ e (fun v h => ?_)) (fun vs n h => ?_) (fun es n h => ?_) (fun v h => ?_) (fun h => ?_)
    · simp [fnOf, fnMade] at h
    · simp [fnOf, fnMade] at h
    · simp [fnOf, fnMade] at h
    · simp [fnOf, fnMade] at h
    · obtain ⟨_, l, i, h⟩ := h; simp [fnOf, fnMade] at h
  have hcd : ∀ {c' q}, CodeL D2 c' q → CodeL (offW k.W D7) c' q := fun {c' q} ⟨o, vs, t, e, d, e2⟩ => by
    refine ⟨o, vs, t, kOff (m27 _ _ e (fun v h => ?_)) (fun vs n h => ?_) (fun es n h => ?_) (fun v h => ?_) (fun h => ?_), d, e2⟩
    · rw [d] at h; cases h
    · rw [d] at h; cases h
    · rw [d] at h; cases h
    · rw [d] at h; cases h
    · obtain ⟨_, l, i, h⟩ := h
      rw [d] at h; injection h with h; subst h
      simp at e2
  have hc : ∀ i v, cm i = some v → i ≠ 3 → i ≠ 4 → i ≠ 5 → i ≠ 6 → i ≠ 7 → 1 ≤ i → i ≤ 11 → CV (offW k.W D7) (k.L + i) (some v) := fun i v e h3 h4 h5 h6 h7 g1 g2 => by
    have q := C7' i g1 g2
    simp only [cup, h4, h5, h6, if_false, e] at q
    exact hcell i _ g1 g2 h3 h7 q
  have hlist : ∀ {b vs}, LV D7 b vs → b ≠ lS → b ≠ lB → b ≠ lA → b ∉ k.W := fun q h1 h2 h3 => hWT.list q (by rw [hk]; exact h1) (by rw [hk]; exact h2) (by rw [hk]; exact h3)
  have lS4 := (hS.sub x4.sub).some
  have lB4 := (H.B.sub x24.sub).some
  have lA4 := (H.A.sub x24.sub).some
  have lS6 := ((hS.sub x4.sub).mo (m5.trans m6).mo).some
  have lB6 := ((H.B.sub x24.sub).mo (m5.trans m6).mo).some
  have lA6 := ((H.A.sub x24.sub).mo (m5.trans m6).mo).some
  have hown : ∀ o, (own0 r.sh o).isSome = true → ∃ l, r.sh o = some (some l) := fun o ho => by
    cases e : own0 r.sh o with
    | none => rw [e] at ho; cases ho
    | some z => exact (own0_some e).2
  have hadW : ∀ o l, r.sh o = some (some l) → adF o ∉ k.W := fun o l h => by
    obtain ⟨q1, q2, ws, q3, q4⟩ := hTl o l h
    exact hlist (q3.mo (m6.trans m7).mo) (ne_new q1 lS4) (ne_new q1 lB4) (ne_new q1 lA4)
  have hnd : k.W.Nodup := by
    have d67 : dD ≠ dK := Ne.symm (ne_new nK hD.some)
    have dT5 : ∃ o, D5 dT = some o := hT1.some
    have dN4 : ∃ o, D4 dN = some o := hN1.some
    have d17 : dN ≠ dK := Ne.symm (ne_new nK (hN1.mo (m5.trans m6).mo).some)
    have d16 : dN ≠ dD := Ne.symm (ne_new nD (hN1.mo m5.mo).some)
    have d13 : dN ≠ dT := Ne.symm (ne_new nT dN4)
    have d36 : dT ≠ dD := Ne.symm (ne_new nD dT5)
    have d37 : dT ≠ dK := Ne.symm (ne_new nK (hT1.mo m6.mo).some)
    have l1 : lS ≠ lB := ne_new nS H.B.some
    have l2 : lS ≠ lA := ne_new nS H.A.some
    have c3 := C7 3 (by decide) (by decide)
    have c7 := C7 7 (by decide) (by decide)
    have c37 : s.heap.objs.size + 3 ≠ s.heap.objs.size + 7 := by omega
    rw [hk]
    simp only [LK.W, List.nodup_cons, List.mem_cons, List.not_mem_nil, or_false, not_or, List.nodup_nil, and_true, not_false_eq_true]
    exact ⟨⟨Ne.symm (lS7.neD dN7), d13, Ne.symm (lB7.neD dN7), Ne.symm (lA7.neD dN7), d16, d17, Ne.symm (c3.neD dN7), Ne.symm (c7.neD dN7)⟩,
      ⟨lS7.neD dT7, l1, l2, lS7.neD dD7, lS7.neD hK, Ne.symm (c3.neL lS7), Ne.symm (c7.neL lS7)⟩,
      ⟨Ne.symm (lB7.neD dT7), Ne.symm (lA7.neD dT7), d36, d37, Ne.symm (c3.neD dT7), Ne.symm (c7.neD dT7)⟩,
      ⟨H.nBA, lB7.neD dD7, lB7.neD hK, Ne.symm (c3.neL lB7), Ne.symm (c7.neL lB7)⟩,
      ⟨lA7.neD dD7, lA7.neD hK, Ne.symm (c3.neL lA7), Ne.symm (c7.neL lA7)⟩,
      ⟨d67, Ne.symm (c3.neD dD7), Ne.symm (c7.neD dD7)⟩, ⟨Ne.symm (c3.neD hK), Ne.symm (c7.neD hK)⟩, c37⟩
  have hOO := S6.mo hoff.mo
  have hTab : ∃ ps, offW k.W D7 P = some (tabObj ps) := by
    obtain ⟨ps, e⟩ := H.T
    refine ⟨ps, kOff (m27 _ _ e (fun v h => ?_)) (fun vs n h => ?_) (fun es n h => ?_) (fun v h => ?_) (fun h => ?_)⟩
    · cases h
    · cases h
    · cases h
    · cases h
    · exact nomatch h.1
  have hOlN : LV D4 r.lN r.vN := (H.O.mo x24.mo).N
  have hnew : ∀ b ∈ k.W, s.heap.get? b = none := fun b hb => by
    rcases mem_W.mp hb with h | h | h | h | h | h | h | h | h <;> rw [h, hk]
    · exact sN
    · exact sS
    · exact sT
    · exact hBs
    · exact hAs
    · exact sD
    · exact sK
    · exact hc0 3 (by decide) (by decide)
    · exact hc0 7 (by decide) (by decide)
  have hbot : vB.length ≤ 2 := by have := hBK.length; rw [botK_len] at this; have := hPr.dep; omega
  have hX : LSt prog w k.L a (.ref c) ((mg "__name__").getD .none) r fF fR lB lA (offW k.W D7) := by
    refine ⟨hOO.E, hOO.V, hc 8 _ H.c8 (by decide) (by decide) (by decide) (by decide) (by decide) (by decide) (by decide), hc 9 _ H.c9 (by decide) (by decide) (by decide) (by decide) (by decide) (by decide) (by decide), hc 10 _ H.c10 (by decide) (by decide) (by decide) (by decide) (by decide) (by decide) (by decide), hc 11 _ H.c11 (by decide) (by decide) (by decide) (by decide) (by decide) (by decide) (by decide), ?_, ?_⟩
    · obtain ⟨c', ctv, doc, e, q⟩ := H.fF
      rw [hL]
      exact ⟨c', ctv, doc, hfn e, hcd q⟩
    · obtain ⟨c', ctv, doc, e, q⟩ := H.fR
      rw [hL]
      exact ⟨c', ctv, doc, hfn e, hcd q⟩
  have hKl' : ∀ x, (r.sh x).isSome = true → ∃ ws, LV (offW k.W D7) (kL x) ws ∧ KeysL prog w (offW k.W D7) [x] ws := fun x hx => by
    obtain ⟨q1, q2, ws, q3, q4⟩ := hKl x hx
    exact ⟨ws, q3.off (hlist q3 (ne_new q2 lS6) (ne_new q2 lB6) (ne_new q2 lA6)), q4.mono hNT.t⟩
  have hDl' : ∀ x l, r.sh x = some (some l) → ∃ ws, LV (offW k.W D7) (r.sL x) ws ∧ IntsL l ws := fun x l h => by
    obtain ⟨ws, q1, q2⟩ := S6.S.list x l h
    exact ⟨ws, q1.sub hoff.sub, q2⟩
  have hBo' : LV (offW k.W D7) lBo vB := lBo7.off (hlist lBo7 (Ne.symm neSB) (ne_new nBo H.B.some) (ne_new nBo H.A.some))
  have hBK' : KeysL prog w (offW k.W D7) (botK r.dep) vB := ((hBK.mono x4.t).mono m47.mo.t).mono hNT.t
  have c1' := hc 1 _ H.c1 (by decide) (by decide) (by decide) (by decide) (by decide) (by decide) (by decide)
  have c2' := hc 2 _ H.c2 (by decide) (by decide) (by decide) (by decide) (by decide) (by decide) (by decide)
  have c4' : CV (offW k.W D7) (k.L + 4) (some (.ref dT)) := hcell 4 _ (by decide) (by decide) (by decide) (by decide) (C7' 4 (by decide) (by decide))
  have c5' : CV (offW k.W D7) (k.L + 5) (some (.ref dD)) := hcell 5 _ (by decide) (by decide) (by decide) (by decide) (C7' 5 (by decide) (by decide))
  have c6' : CV (offW k.W D7) (k.L + 6) (some (.ref dK)) := hcell 6 _ (by decide) (by decide) (by decide) (by decide) (C7' 6 (by decide) (by decide))
  have hC' : ∀ o, (own0 r.sh o).isSome = true → adF o ∉ k.W ∧ ∃ vs, LV D7 (adF o) vs ∧ IntsL (((r.sh o).getD none).getD []) vs := fun o ho => by
    obtain ⟨l, hl⟩ := hown o ho
    obtain ⟨q1, q2, ws, q3, q4⟩ := hTl o l hl
    exact ⟨hadW o l hl, ws, q3.mo (m6.trans m7).mo, by rw [hl]; exact q4⟩
  have hT : TInv prog w k.tc D7 (σ0 r.sh) adF := by
    refine ⟨?_, ?_, ?_, fun o ho => ?_, ?_, ?_, fun x o h => ?_, fun o o' h h' e => ?_, fun x h => nomatch h⟩
    · rw [hk]; exact hN.mo m47.mo
    · rw [hk]; exact ⟨[], by rw [List.append_nil]; exact lS7, trivial⟩
    · rw [hk]; exact hFI.mo (m6.trans m7).mo
    · obtain ⟨q1, q2⟩ := hC' o ho
      refine ⟨fun q => q1 (mem_W.mpr ?_), q2⟩
      simp only [TC.W, List.mem_cons, List.not_mem_nil, or_false] at q
      rcases q with q | q | q | q | q <;> simp [q]
    · rw [hk]; exact ⟨[], lB7, trivial⟩
    · rw [hk]; exact ⟨[], lA7, trivial⟩
    · obtain ⟨e, l, q⟩ := own0_some h
      subst e; show (own0 r.sh o).isSome = true; rw [own0_of q]; rfl
    · obtain ⟨l, q⟩ := hown o h
      obtain ⟨l', q'⟩ := hown o' h'
      exact hinj o o' (isL_iff.mpr ⟨l, q⟩) (isL_iff.mpr ⟨l', q'⟩) e
  have hL3 : ∃ v, CV D7 (k.L + 3) v := ⟨_, C7' 3 (by decide) (by decide)⟩
  have hL7 : ∃ v, CV D7 (k.L + 7) v := ⟨_, C7' 7 (by decide) (by decide)⟩
  refine hQ k adF r.sL kL D7 s7 hL (by rw [hk]) (by rw [hk]) (by rw [hk]) ⟨by rw [hk]; exact hPr, hnd, hnew, by rw [hk]; exact hmS, by rw [hk]; exact hbot⟩ ?_ (by rw [hk]; exact F7)
  subst hk
  exact ⟨⟨hOO, hX, hBo', hBK', c1', c2', c4', c5', c6', hDl', hKl', hTab⟩, hT, ⟨xD, dD7, hDl⟩, ⟨xK, hK, hKm, fun x hx => (hKl x hx).1⟩, hL3, hL7, fun o ho => let ⟨l, hl⟩ := hown o ho; (hTl o l hl).2.1, fun x h => by
    cases e : r.sh x with
    | none => rw [show (LT.of (t0 r.sh)).dn x = none from e] at h; cases h
    | some o => exact hPr.Sk x o e, fun x h y hy => by
      have hy' : y = x := List.mem_singleton.mp hy
      subst hy'
      cases e : r.sh y with
      | none => rw [show (LT.of (t0 r.sh)).kd y = (r.sh y).isSome from rfl, e] at h; cases h
      | some o => exact hPr.Sk y o e, fun o ho => by
      obtain ⟨l, hl⟩ := hown o ho
      obtain ⟨q1, _, ws, q3, _⟩ := hTl o l hl
      refine ⟨ne_new q1 (hOlN.some), fun x l' h => Ne.symm (ne_new q1 ?_), fun x h => ?_⟩
      · obtain ⟨vs, e, _⟩ := S6.S.list x l' h
        obtain ⟨o2, e2⟩ := e.some
        exact ⟨o2, X4 _ _ e2⟩
      · exact ne_new (hKl x h).2.1 (q3.mo m6.mo).some⟩
end
end Mine
end

section
open PySem PySem.W PyProof.Rows
set_option Elab.async false
set_option maxRecDepth 100000
namespace Mine
/-- all but W stays, iterators too -/
def Kp (W : List Addr) (D D' : Led) : Prop := ∀ a o, a ∉ W → D a = some o → D' a = some o
section
variable {W : List Addr} {D D' D'' : Led}
theorem Kp.refl (W : List Addr) (D : Led) : Kp W D D := fun _ _ _ e => e
theorem Kp.trans (x : Kp W D D') (y : Kp W D' D'') : Kp W D D'' := fun a o h e => y a o h (x a o h e)
theorem Kp.w (x : Kp W D D') : KpW W D D' := fun a o h e _ => x a o h e
theorem Kp.ext (x : Ext0 D D') : Kp W D D' := fun a o _ e => x a o e
theorem Kp.less {W' : List Addr} (x : Kp W' D D') (h : ∀ a ∈ W', a ∈ W) : Kp W D D' := fun a o ha e => x a o (fun q => ha (h a q)) e
theorem Kp.put {a : Addr} {o : Obj} (h : a ∈ W) : Kp W D (D.put a o) := fun b o' hb e => by
  have hne : b ≠ a := fun q => hb (by rw [q]; exact h)
  rw [Led.put_other hne]; exact e
theorem Kp.t (x : Kp W D D') (h : NoT W D) : TSub D D' := fun a o c e => x a o (fun q => h a q o e c) e
end
section
variable {prog : Program} {w : World} {k : LK} {D D' : Led} {t : LT} {ad oL kL : Key → Addr} {s0 : Shared}
theorem tcW_sub {a : Addr} (h : a ∈ k.tc.W) : a ∈ k.W := by
  simp only [TC.W, List.mem_cons, List.not_mem_nil, or_false] at h
  rcases h with q | q | q | q | q <;> rw [q]
  · exact LK.m1
  · exact LK.m2
  · exact LK.m3
  · exact LK.m4
  · exact LK.m5
structure WNe (k : LK) : Prop where
  dD : k.dD ∉ k.tc.W
  dK : k.dK ∉ k.tc.W
  x : k.L + 3 ∉ k.tc.W
  rc : k.L + 7 ∉ k.tc.W
  DK : k.dD ≠ k.dK
  Dx : k.dD ≠ k.L + 3
  Dr : k.dD ≠ k.L + 7
  Kx : k.dK ≠ k.L + 3
  Kr : k.dK ≠ k.L + 7
theorem LKok.ne (hK : LKok k s0) : WNe k := by
  have hn := hK.nd
  simp only [LK.W, List.nodup_cons, List.mem_cons, List.not_mem_nil, or_false, not_or, List.nodup_nil, and_true, not_false_eq_true] at hn
  obtain ⟨⟨a1, a2, a3, a4, a5, a6, a7, a8⟩, ⟨b1, b2, b3, b4, b5, b6, b7⟩, ⟨c1, c2, c3, c4, c5, c6⟩, ⟨d1, d2, d3, d4, d5⟩, ⟨e1, e2, e3, e4⟩, ⟨f1, f2, f3⟩, ⟨g1, g2⟩, h1⟩ := hn
  have mk : ∀ {a}, a ≠ k.dN → a ≠ k.lS → a ≠ k.dT → a ≠ k.lB → a ≠ k.lA → a ∉ k.tc.W := fun {a} h1 h2 h3 h4 h5 q => by
    simp only [TC.W, List.mem_cons, List.not_mem_nil, or_false] at q
    rcases q with q | q | q | q | q
    · exact h1 q
    · exact h2 q
    · exact h3 q
    · exact h4 q
    · exact h5 q
  exact ⟨mk (Ne.symm a5) (Ne.symm b4) (Ne.symm c3) (Ne.symm d2) (Ne.symm e1), mk (Ne.symm a6) (Ne.symm b5) (Ne.symm c4) (Ne.symm d3) (Ne.symm e2), mk (Ne.symm a7) (Ne.symm b6) (Ne.symm c5) (Ne.symm d4) (Ne.symm e3), mk (Ne.symm a8) (Ne.symm b7) (Ne.symm c6) (Ne.symm d5) (Ne.symm e4), f1, f2, f3, g1, g2⟩
theorem TInv.put {c : TC} {σ : TS Key} {a : Addr} {o' : Obj} (x : TInv prog w c D σ ad) (h : a ∉ c.W) (h2 : ∀ o, (σ.own o).isSome = true → ad o ≠ a) (ht : TSub D (D.put a o')) : TInv prog w c (D.put a o') σ ad := by
  have hne : ∀ b ∈ c.W, b ≠ a := fun b hb e => h (e ▸ hb)
  exact ⟨x.N.put (hne _ (by first | exact TC.m1 | exact TC.m2 | exact TC.m3 | exact TC.m4 | exact TC.m5)) ht, x.S.put (hne _ (by first | exact TC.m1 | exact TC.m2 | exact TC.m3 | exact TC.m4 | exact TC.m5)) ht, x.F.put (hne _ (by first | exact TC.m1 | exact TC.m2 | exact TC.m3 | exact TC.m4 | exact TC.m5)) ht, x.C.put h2, x.bg.put (hne _ (by first | exact TC.m1 | exact TC.m2 | exact TC.m3 | exact TC.m4 | exact TC.m5)) ht, x.ak.put (hne _ (by first | exact TC.m1 | exact TC.m2 | exact TC.m3 | exact TC.m4 | exact TC.m5)) ht, x.wf, x.inj, x.sin⟩
theorem LI.noT (x : LI prog w k t ad oL kL s0 D) : NoT k.W D := x.wt.noT
/-- the x cell is set -/
theorem LI.xset (x : LI prog w k t ad oL kL s0 D) (hK : LKok k s0) {o : Obj} {v : Option Value} (hc : CV (D.put (k.L + 3) o) (k.L + 3) v) : LI prog w k t ad oL kL s0 (D.put (k.L + 3) o) := by
  obtain ⟨v0, h0⟩ := x.x
  have ht : TSub D (D.put (k.L + 3) o) := .put h0.noTup
  have hN := hK.ne
  obtain ⟨xD, d1, d2⟩ := x.dD
  obtain ⟨xK, k1, k2⟩ := x.dK
  refine { x with st := x.st.ext (KpW.put (by first | exact LK.m1 | exact LK.m2 | exact LK.m3 | exact LK.m4 | exact LK.m5 | exact LK.m6 | exact LK.m7 | exact LK.m8 | exact LK.m9)).off, T := x.T.put hN.x (fun o ho e => ?_) ht, dD := ⟨xD, d1.put_other hN.Dx ht, d2⟩, dK := ⟨xK, k1.put_other hN.Kx ht, k2⟩, x := ⟨v, hc⟩, rc := ?_ }
  · obtain ⟨_, vs, q, _⟩ := x.T.C o ho
    exact h0.neL q e.symm
  · obtain ⟨v1, q⟩ := x.rc
    exact ⟨v1, q.mono fun o e => by rw [Led.put_other (fun q => absurd (Nat.add_left_cancel q) (by decide))]; exact e⟩
/-- the reach cell is set -/
theorem LI.rset (x : LI prog w k t ad oL kL s0 D) (hK : LKok k s0) {o : Obj} {v : Option Value} (hc : CV (D.put (k.L + 7) o) (k.L + 7) v) : LI prog w k t ad oL kL s0 (D.put (k.L + 7) o) := by
  obtain ⟨v0, h0⟩ := x.rc
  have ht : TSub D (D.put (k.L + 7) o) := .put h0.noTup
  have hN := hK.ne
  obtain ⟨xD, d1, d2⟩ := x.dD
  obtain ⟨xK, k1, k2⟩ := x.dK
  refine { x with st := x.st.ext (KpW.put (by first | exact LK.m1 | exact LK.m2 | exact LK.m3 | exact LK.m4 | exact LK.m5 | exact LK.m6 | exact LK.m7 | exact LK.m8 | exact LK.m9)).off, T := x.T.put hN.rc (fun o ho e => ?_) ht, dD := ⟨xD, d1.put_other hN.Dr ht, d2⟩, dK := ⟨xK, k1.put_other hN.Kr ht, k2⟩, rc := ⟨v, hc⟩, x := ?_ }
  · obtain ⟨_, vs, q, _⟩ := x.T.C o ho
    exact h0.neL q e.symm
  · obtain ⟨v1, q⟩ := x.x
    exact ⟨v1, q.mono fun o e => by rw [Led.put_other (fun q => absurd (Nat.add_left_cancel q) (by decide))]; exact e⟩
/-- knots[y] = a new list -/
theorem LI.kset (x : LI prog w k t ad oL kL s0 D) (hK : LKok k s0) {y : Key} {kv : Value} {la : Addr} {ws : List Value} {xK : KVs} {n : Nat} (hd : DK prog w D k.dK xK) (hs : ∀ z ∈ xK.map (·.1), z ∈ k.r.nms) (hl : ∀ z, t.kd z = true → look xK z = some (.ref (kL z)))
    (hk : KeyL prog w D y kv) (hy : y ∈ k.r.nms) (hla : LV D la ws) (hks : KeysL prog w D (t.Kn y) ws) (hW : la ∉ k.W) (hN2 : ∀ o, (t.σ.own o).isSome = true → la ≠ ad o) (hN3 : ∀ u ∈ t.Kn y, u ∈ k.r.nms) :
    LI prog w k { t with kd := fun z => decide (z = y) || t.kd z } ad oL (upd kL y la) s0 (D.put k.dK (dctO ((putK xK y kv (.ref la)).map (ent prog w)).toArray n)) := by
  have ht : TSub D (D.put k.dK (dctO ((putK xK y kv (.ref la)).map (ent prog w)).toArray n)) := .put hd.noTup
  have hN := hK.ne
  obtain ⟨xD, d1, d2⟩ := x.dD
  have st' := x.st.ext (KpW.put (W := k.W) (o := dctO ((putK xK y kv (.ref la)).map (ent prog w)).toArray n) (show k.dK ∈ k.W by first | exact LK.m1 | exact LK.m2 | exact LK.m3 | exact LK.m4 | exact LK.m5 | exact LK.m6 | exact LK.m7 | exact LK.m8 | exact LK.m9)).off
  have hks' := (hks.mono ht)
  have hla' : LV (D.put k.dK (dctO ((putK xK y kv (.ref la)).map (ent prog w)).toArray n)) la ws := hla.put_other (hla.neD hd)
  have hNT : NoT k.W (D.put k.dK (dctO ((putK xK y kv (.ref la)).map (ent prog w)).toArray n)) := fun a ha o e => by
    rcases Led.put_some e with ⟨_, rfl⟩ | ⟨_, e⟩
    · simp [IsTup, dctO]
    · exact x.noT a ha o e
  refine { x with st := { st' with Kl := fun z hz => ?_ }, T := x.T.put hN.dK (fun o ho e => ?_) ht, dD := ⟨xD, d1.put_other hN.DK ht, d2⟩, dK := ⟨_, hd.set hk, fun z hz => ?_, fun z hz => ?_⟩, x := ?_, rc := ?_, sep := fun o ho => ⟨(x.sep o ho).1, (x.sep o ho).2.1, fun z hz => ?_⟩, knm := fun z hz u hu => ?_ }
  · by_cases e : z = y
    · subst e; rw [upd_same]
      exact ⟨ws, hla'.off hW, hks'.mono hNT.t⟩
    · rw [upd_other e]
      simp only [e, decide_false, Bool.false_or] at hz
      exact st'.Kl z hz
  · obtain ⟨_, vs, q, _⟩ := x.T.C o ho
    exact q.neD hd e
  · rw [keys_putK] at hz
    split at hz
    · exact hs z hz
    · rcases List.mem_append.mp hz with hz | hz
      · exact hs z hz
      · rw [List.mem_singleton] at hz; rw [hz]; exact hy
  · rw [look_putK]
    by_cases e : z = y
    · rw [if_pos e, e, upd_same]
    · rw [if_neg e, upd_other e]
      simp only [e, decide_false, Bool.false_or] at hz
      exact hl z hz
  · obtain ⟨v1, q⟩ := x.x
    exact ⟨v1, q.mono fun o e => by rw [Led.put_other (Ne.symm hN.Kx)]; exact e⟩
  · obtain ⟨v1, q⟩ := x.rc
    exact ⟨v1, q.mono fun o e => by rw [Led.put_other (Ne.symm hN.Kr)]; exact e⟩
  · by_cases e : z = y
    · subst e; exact hN3 u hu
    · simp only [e, decide_false, Bool.false_or] at hz
      exact x.knm z hz u hu
  · by_cases e : z = y
    · rw [e, upd_same]; exact hN2 o ho
    · rw [upd_other e]
      simp only [e, decide_false, Bool.false_or] at hz
      exact (x.sep o ho).2.2 z hz
/-- done[y] = a list -/
theorem LI.dset (x : LI prog w k t ad oL kL s0 D) (hK : LKok k s0) {y : Key} {kv : Value} {la : Addr} {l : List Int} {ws : List Value} {xD : KVs} {n : Nat} (hd : DK prog w D k.dD xD) (hl : ∀ z, look xD z = doneV t.dn oL z)
    (hk : KeyL prog w D y kv) (hy : y ∈ k.r.nms) (hla : LV D la ws) (hks : IntsL l ws) (hW : la ∉ k.W) (hN2 : ∀ o, (t.σ.own o).isSome = true → la ≠ ad o) :
    LI prog w k { t with dn := upd t.dn y (some (some l)) } ad (upd oL y la) kL s0 (D.put k.dD (dctO ((putK xD y kv (.ref la)).map (ent prog w)).toArray n)) := by
  have ht : TSub D (D.put k.dD (dctO ((putK xD y kv (.ref la)).map (ent prog w)).toArray n)) := .put hd.noTup
  have hN := hK.ne
  obtain ⟨xK, d1, d2⟩ := x.dK
  have st' := x.st.ext (KpW.put (W := k.W) (o := dctO ((putK xD y kv (.ref la)).map (ent prog w)).toArray n) (show k.dD ∈ k.W by first | exact LK.m1 | exact LK.m2 | exact LK.m3 | exact LK.m4 | exact LK.m5 | exact LK.m6 | exact LK.m7 | exact LK.m8 | exact LK.m9)).off
  have hla' : LV (D.put k.dD (dctO ((putK xD y kv (.ref la)).map (ent prog w)).toArray n)) la ws := hla.put_other (hla.neD hd)
  refine { x with st := { st' with Dl := fun z l' hz => ?_ }, T := x.T.put hN.dD (fun o ho e => ?_) ht, dK := ⟨xK, d1.put_other (Ne.symm hN.DK) ht, d2⟩, dD := ⟨_, hd.set hk, fun z => ?_⟩, x := ?_, rc := ?_, dnm := fun z hz => ?_, sep := fun o ho => ⟨(x.sep o ho).1, fun z l' hz => ?_, (x.sep o ho).2.2⟩ }
  · change upd t.dn y (some (some l)) z = some (some l') at hz
    by_cases e : z = y
    · subst e; rw [upd_same] at hz ⊢
      injection hz with hz; injection hz with hz; subst hz
      exact ⟨ws, hla'.off hW, hks⟩
    · rw [upd_other e] at hz ⊢
      exact st'.Dl z l' hz
  · obtain ⟨_, vs, q, _⟩ := x.T.C o ho
    exact q.neD hd e
  · rw [look_putK]
    by_cases e : z = y
    · rw [if_pos e, e]; simp [doneV, shV, upd_same]
    · rw [if_neg e, hl z]; simp [doneV, shV, upd_other e]
  · obtain ⟨v1, q⟩ := x.x
    exact ⟨v1, q.mono fun o e => by rw [Led.put_other (Ne.symm hN.Dx)]; exact e⟩
  · obtain ⟨v1, q⟩ := x.rc
    exact ⟨v1, q.mono fun o e => by rw [Led.put_other (Ne.symm hN.Dr)]; exact e⟩
  · by_cases e : z = y
    · rw [e]; exact hy
    · change (upd t.dn y (some (some l)) z).isSome = true at hz
      rw [upd_other e] at hz; exact x.dnm z hz
  · change upd t.dn y (some (some l)) z = some (some l') at hz
    by_cases e : z = y
    · rw [e, upd_same]; exact hN2 o ho
    · rw [upd_other e] at hz ⊢
      exact (x.sep o ho).2.1 z l' hz
/-- traverse has walked -/
theorem LI.trv (x : LI prog w k t ad oL kL s0 D) (hK : LKok k s0) {σ' : TS Key} {ad' : Key → Addr} (h : Kp k.tc.W D D') (hT : TInv prog w k.tc D' σ' ad') (ht : TSub D D') (hn : ∀ o, (σ'.own o).isSome = true → s0.heap.get? (ad' o) = none)
    (hs : ∀ o, (σ'.own o).isSome = true → ((t.σ.own o).isSome = true ∧ ad' o = ad o) ∨ D (ad' o) = none) :
    LI prog w k { t with σ := σ' } ad' oL kL s0 D' := by
  have hN := hK.ne
  have h' : KpW k.W D D' := (h.less fun a ha => tcW_sub ha).w
  obtain ⟨xD, d1, d2⟩ := x.dD
  obtain ⟨xK, k1, k2⟩ := x.dK
  obtain ⟨v1, q1⟩ := x.x
  obtain ⟨v2, q2⟩ := x.rc
  refine { x with st := x.st.ext h'.off, T := hT, dD := ⟨xD, d1.mono (fun o e => h _ o hN.dD e) ht, d2⟩, dK := ⟨xK, k1.mono (fun o e => h _ o hN.dK e) ht, k2⟩, x := ⟨v1, q1.mono fun o e => h _ o hN.x e⟩, rc := ⟨v2, q2.mono fun o e => h _ o hN.rc e⟩, new := hn, sep := fun o ho => ?_ }
  · rcases hs o ho with ⟨h1, h2⟩ | h1
    · rw [h2]; exact x.sep o h1
    · exact ⟨ne_new h1 (x.st.O.N.sub offW_le.sub).some, fun z l hz => Ne.symm (ne_new h1 (let ⟨ws, a, _⟩ := x.st.Dl z l hz; (a.sub offW_le.sub).some)), fun z hz => Ne.symm (ne_new h1 (let ⟨ws, a, _⟩ := x.st.Kl z hz; (a.sub offW_le.sub).some))⟩
end
section
variable {prog : Program} {w : World} {h₁ : Heap} {mg mb : Str → Option Value} {k : LK} {D : Led} {t : LT} {ad oL kL : Key → Addr} {s0 : Shared}
theorem LI.tcx (X : LI prog w k t ad oL kL s0 D) (G : Glo h₁ mg mb) (hK : LKok k s0) (hB : ∀ b ∈ k.W, hLed h₁ b = none) : TCx prog w h₁ mg mb k.tc (Ext0 (offW k.W D)) where
  nodup := hK.nd.sublist (List.take_sublist 5 k.W)
  ok := hK.P.ok
  short := by have := hK.P.len.2; show k.r.nms.length ≤ 100; omega
  edge := fun x hx y hy => (hK.P.Eg x hx).1 y hy
  wB := fun b hb => hB b (tcW_sub hb)
  mono := fun D1 D2 h hS a o e => h a o (fun q => (offW_some e).1 (tcW_sub q)) (hS a o e)
  bot := by have := hK.bot; show k.vB.length ≤ 100; omega
  fp := fun hR hF hB' hS hx hk hl hz hQ => first_ok G X.st.X (offW_none (by first | exact LK.m1 | exact LK.m2 | exact LK.m3 | exact LK.m4 | exact LK.m5 | exact LK.m6 | exact LK.m7 | exact LK.m8 | exact LK.m9)) (hB _ (by first | exact LK.m1 | exact LK.m2 | exact LK.m3 | exact LK.m4 | exact LK.m5 | exact LK.m6 | exact LK.m7 | exact LK.m8 | exact LK.m9)) hK.P.Vg hR hF hB' hS hx hk hl hz hQ
  r := fun hR hF hB' hS hx hk hl hz hQ => related_ok G X.st.X (offW_none (by first | exact LK.m1 | exact LK.m2 | exact LK.m3 | exact LK.m4 | exact LK.m5 | exact LK.m6 | exact LK.m7 | exact LK.m8 | exact LK.m9)) (hB _ (by first | exact LK.m1 | exact LK.m2 | exact LK.m3 | exact LK.m4 | exact LK.m5 | exact LK.m6 | exact LK.m7 | exact LK.m8 | exact LK.m9)) hR hF hB' hS hx hk hl hz hQ
  el := fun D' x hS hx => by
    obtain ⟨ws, h1, h2⟩ := X.st.O.E.list x hx
    obtain ⟨o, e⟩ := h1.some
    exact ⟨fun q => (offW_some e).1 (tcW_sub q), ws, h1.sub hS.sub, h2.mono hS.t⟩
  fpFn := fun D' hS => by
    obtain ⟨c', ctv, doc, e, _⟩ := X.st.X.fF
    exact ⟨_, _, _, rfl, fun q => (offW_some e).1 (tcW_sub q), hS _ _ e, rfl⟩
  rFn := fun D' hS => by
    obtain ⟨c', ctv, doc, e, _⟩ := X.st.X.fR
    exact ⟨_, _, _, rfl, fun q => (offW_some e).1 (tcW_sub q), hS _ _ e, rfl⟩
end
end Mine
end

section
open PySem PySem.W PyProof.Rows
set_option Elab.async false
set_option maxRecDepth 100000
namespace Mine
theorem CV.neI {D : Led} {c it l : Addr} {i : Nat} {v : Option Value} (x : CV D c v) (y : LIt D it l i) : it ≠ c := fun e => by
  obtain ⟨o, ho, hd⟩ := x; obtain ⟨o', h, _, hd'⟩ := y
  rw [e, ho] at h; injection h with h; subst h; rw [hd] at hd'; cases hd'
section
variable {prog : Program} {w : World} {A : Around} {E : Value → Shared → Prop} {B : Led} {W : List Addr} {D0 : Led} {s0 : Shared} {L : Addr} {vars : Vars} {D : Led} {s : Shared} {env : Env}
/-- for y in (a list that stays), y a cell -/
theorem r_forC {R : Result → Shared → Prop} {y : Str} {py : Pos} {body : List Stmt} {it l cy : Addr} {vs : List Value} (I : Nat → Vars → Led → Prop)
    (F : At B W D0 s0 L vars D s) (hit : LIt D it l 0) (hw : s0.heap.get? it = none) (h0 : I 0 vars D) (hh : A.handled = none)
    (hl : ∀ i vars D, I i vars D → LV D l vs) (hcell : ∀ i vars D, I i vars D → ∃ v, CV D cy v) (hcw : cy ∈ W ∨ s0.heap.get? cy = none)
    (mono : ∀ i vars D D', LIt D it l i → (∀ a, a ≠ it → D' a = D a) → I i vars D → I i vars D')
    (turn : ∀ i v vars D o s E', vs[i]? = some v → At B W D0 s0 L vars (D.put cy o) s → CV (D.put cy o) cy (some v) → TSub D (D.put cy o) → LIt (D.put cy o) it l (i + 1) → I i vars D →
      wpAny (model prog w) A (execs body env) (fun f s' => (f = .next ∨ f = .cont) ∧ ∃ vars' D', At B W D0 s0 L vars' D' s' ∧ LIt D' it l (i + 1) ∧ I (i + 1) vars' D') E' s)
    (fin : ∀ vars D s, At B W D0 s0 L vars D s → I vs.length vars D → R (.ok .next) s)
    (hc : env.cells.lookup y = some cy) (hk : env.scope.kind = .function := by rfl) (hy : env.kindOf y = some .cell := by rfl) :
    codeAny (model prog w) A (.forLoop (.Name y py) (.ref it) body [] env) R s := by
  refine codeAny_forLoop (fun n s => ∃ i vars D, i + n = vs.length ∧ At B W D0 s0 L vars D s ∧ LIt D it l i ∧ I i vars D) (fun n s ⟨i, vars, D, hn, F, hit, hI⟩ => ?_) vs.length ⟨0, vars, D, Nat.zero_add _, F, hit, h0⟩
  have hlv := hl i vars D hI
  obtain ⟨oi, hoi, hci, hdi⟩ := id hit
  have hiH : s.heap.IsListIter it l i := ⟨oi, F.get hoi, hci, hdi⟩
  rcases Nat.lt_or_ge i vs.length with hlt | hge
  · have hv : vs[i]? = some vs[i] := by simp [hlt]
    refine wpAny_pyNext_list_item hiH (lv_is F hlv) (x := vs[i]) (by simp [hlt]) fun h' hit' hs => ?_
    obtain ⟨o', ho', hc', hd'⟩ := hit'
    have F1 := F.upd hoi (.inr hw) hs ho' s.toks
    have hI1 := mono i vars D (D.put it o') hit (fun a ha => Led.put_other ha) hI
    have hit1 : LIt (D.put it o') it l (i + 1) := ⟨o', Led.put_same, hc', hd'⟩
    obtain ⟨v0, hcv⟩ := hcell i vars _ hI1
    refine wpAny_assign_Name (r_stc F1 hc hcv hcw (fun o s2 F2 hcv2 ht2 => ?_) hk hy)
    refine wpAny_mono (turn i _ vars _ o s2 _ hv F2 hcv2 ht2 (hit1.put_other (hcv.neI hit1)) hI1) (fun f s3 h3 => ?_) fun _ _ e => e
    obtain ⟨hf, vars', D', F3, hit3, hI3⟩ := h3
    have : ∃ m, m < n ∧ ∃ i vars D, i + m = vs.length ∧ At B W D0 s0 L vars D s3 ∧ LIt D it l i ∧ I i vars D := ⟨n - 1, by omega, i + 1, vars', D', by omega, F3, hit3, hI3⟩
    rcases hf with rfl | rfl <;> exact this
  · have hi : i = vs.length := by omega
    refine wpAny_pyNext_list_end hh hiH (lv_is F hlv) (by simp [hge]) fun h' hx => ?_
    exact wpAny_execs_nil (fin vars _ _ (F.forget hw (F.neL hoi) hx _) (hi ▸ mono i vars D _ hit (fun a ha => if_neg ha) hI))
end
def lBody : List Stmt := forBody (lSt 11)
section
variable {prog : Program} {w : World} {h₁ : Heap} {mg mb : Str → Option Value} {k : LK} {D : Led} {t : LT} {ad oL kL : Key → Addr} {s0 : Shared} {P : Addr} {D0 : Led} {s : Shared} {A : Around} {E : Value → Shared → Prop}
theorem At.newS {B : Led} {W : List Addr} {L : Addr} {vars : Vars} (F : At B W D0 s0 L vars D s) {a : Addr} (h : s.heap.get? a = none) : s0.heap.get? a = none := by
  cases e : s0.heap.get? a with
  | none => rfl
  | some o => obtain ⟨o', e'⟩ := F.tr.alive _ o e; rw [h] at e'; cases e'
/-- traverse(start, ..) -/
theorem law_s1 (G : Glo h₁ mg mb) (hK : LKok k s0) (hR : Room A 40) {v : Value} {x : Key} {σ' : TS Key} {Q : Flow → Shared → Prop}
    (F : At (hLed h₁) [P] D0 s0 k.L (("start", v) :: lV k) D s) (X : LI prog w k t ad oL kL s0 D) (hx : KeyL prog w D x v) (hxm : x ∈ k.r.nms)
    (hT : travP k.r.Eg k.r.Vl maxI k.vB.length k.r.nms.length x t.σ = some σ')
    (hQ : ∀ ad' D' s', At (hLed h₁) [P] D0 s0 k.L (("start", v) :: lV k) D' s' → LI prog w k { t with σ := σ' } ad' oL kL s0 D' → Kp k.W D D' → wpAny (model prog w) A (execs (lBody.drop 2) (lEnv k.L k.a k.cd)) Q E s') :
    wpAny (model prog w) A (execs (lBody.drop 1) (lEnv k.L k.a k.cd)) Q E s := by
  obtain ⟨aT, oT, pm, cd, doc, hmT, hoT, hdT, hcT⟩ := G.trv
  have hB : ∀ b ∈ k.W, hLed h₁ b = none := fun b hb => F.bOf (.inr (hK.new b hb))
  have TX := X.tcx G hK hB
  have c1 : CV D (k.L + 1) (some (.ref k.r.lN)) := X.st.c1.mono fun o e => offW_le _ o e
  have c4 : CV D (k.L + 4) (some (.ref k.dT)) := X.st.c4.mono fun o e => offW_le _ o e
  have hlen := hK.P.len.2
  refine wpAny_execs_cons (wpAny_Expr (e_call (r_glob F G hmT ⟨aT, oT, _, rfl, hdT, args_cons (r_nm F rfl (args_cons (r_nm F rfl (args_cons (r_nm F rfl (args_cons (r_cell F rfl c4 (args_cons (r_cell F rfl c1 (args_cons (r_nm F rfl (args_cons (r_nm F rfl (args_nil ⟨F.baseGet hoT, ?_⟩))))))))))))))⟩)) rfl rfl)
  refine trv_ok G TX hmT hoT hdT hcT k.r.nms.length A _ D s t.σ σ' ad x v _ (hR.less (by omega)) F.fits F.base offW_le X.T hx hxm hT fun D' s' ad' tr hI had ht hnew => ?_
  have F' := F.step tr fun b hb => ⟨X.wt.some b (tcW_sub hb), .inr (hK.new b (tcW_sub hb))⟩
  have hkp : Kp k.tc.W D D' := fun a o h e => tr.ext a o h e
  refine hQ ad' D' s' F' (X.trv hK hkp hI ht (fun o ho => ?_) (fun o ho => ?_)) (hkp.less fun a ha => tcW_sub ha)
  · cases e : (t.σ.own o) with
    | none => exact F.newS (hnew o e ho)
    | some z =>
      have hz : (t.σ.own o).isSome = true := by rw [e]; rfl
      rw [had o hz]; exact X.new o hz
  · cases e : (t.σ.own o) with
    | none =>
      refine .inr ?_
      cases e2 : D (ad' o) with
      | none => rfl
      | some ob => have := F.get e2; rw [hnew o e ho] at this; cases this
    | some z =>
      have hz : (t.σ.own o).isSome = true := by rw [e]; rfl
      exact .inl ⟨rfl, had o hz⟩
theorem LI.look_keys (X : LI prog w k t ad oL kL s0 D) {xD : KVs} (hD : ∀ z, look xD z = doneV t.dn oL z) : (fun z => decide (z ∈ xD.map (·.1))) = fun z => (t.dn z).isSome := by
  funext z
  have e1 := hD z
  cases e : t.dn z with
  | none => rw [decide_eq_false (look_none.mp (by rw [e1]; simp [shV, e]))]; rfl
  | some o => rw [decide_eq_true (look_isSome.mp (by rw [e1]; simp [shV, e]))]; rfl
/-- walk = .. -/
theorem law_s2 (G : Glo h₁ mg mb) (hK : LKok k s0) (hR : Room A 40) {v : Value} {x : Key} {walk : List Key} {Q : Flow → Shared → Prop}
    (F : At (hLed h₁) [P] D0 s0 k.L (("start", v) :: lV k) D s) (X : LI prog w k t ad oL kL s0 D) (hx : KeyL prog w D x v) (hxm : x ∈ k.r.nms)
    (hT : walkP k.r.Eg (fun z => (t.dn z).isSome) (k.r.nms.length + 1) x [] = some walk)
    (hQ : ∀ lM vM D' s', At (hLed h₁) [P] D0 s0 k.L (("walk", .ref lM) :: ("start", v) :: lV k) D' s' → Ext0 D D' → LV D' lM vM → KeysL prog w D' walk vM → D lM = none → s0.heap.get? lM = none →
      wpAny (model prog w) A (execs (lBody.drop 3) (lEnv k.L k.a k.cd)) Q E s') :
    wpAny (model prog w) A (execs (lBody.drop 2) (lEnv k.L k.a k.cd)) Q E s := by
  obtain ⟨aW, oW, pm, cd, doc, hmW, hoW, hdW, hcW⟩ := G.walked
  have cE : CV D (k.L + 10) (some (.ref k.r.dE)) := X.st.X.cE.mono fun o e => offW_le _ o e
  have c5 : CV D (k.L + 5) (some (.ref k.dD)) := X.st.c5.mono fun o e => offW_le _ o e
  have hlen := hK.P.len.2
  obtain ⟨xD, hD1, hD2⟩ := X.dD
  have hmD : (k.dD == sysModules) = false := F.notMods G (.inr (hK.new _ (by first | exact LK.m1 | exact LK.m2 | exact LK.m3 | exact LK.m4 | exact LK.m5 | exact LK.m6 | exact LK.m7 | exact LK.m8 | exact LK.m9)))
  have hES : ES prog w k.r.nms k.r.Eg k.r.eL k.r.dE D := X.st.O.E.sub offW_le.sub
  refine wpAny_execs_cons (wpAny_Assign_Name (e_call (r_glob F G hmW ⟨aW, oW, _, rfl, hdW, args_cons (r_nm F rfl (args_cons (r_cell F rfl cE (args_cons (r_cell F rfl c5 (args_cons (List_ (args_nil (r_newList F (by simp) fun lM s2 hM1 hM2 F2 => args_nil ⟨F2.baseGet hoW, ?_⟩)))))))))⟩)) rfl)
  have hx2 : Ext0 D (D.put lM (lstO ([] : List Value).toArray 0)) := .new hM1
  obtain ⟨oE, eE⟩ : ∃ o, D k.r.dE = some o := by obtain ⟨xE, q, _⟩ := hES.dict; exact q.some
  refine walked_ok G hmW hoW hdW hcW (nms := k.r.nms) (Eg := k.r.Eg) (eL := k.r.eL) (dE := k.r.dE) (dD := k.dD) hK.P.ok (fun x hx y hy => (hK.P.Eg x hx).1 y hy) (k.r.nms.length + 1) A _ _ s2 xD lM [] walk x v _ (hR.less (by omega)) F2.fits F2.base (hES.sub hx2.sub) (hD1.sub hx2.sub) ⟨[], LV.put_same, trivial⟩ (fun _ h => nomatch h) (hx.mono hx2.t) hxm
    (Ne.symm (ne_new hM1 ⟨oE, eE⟩)) (Ne.symm (ne_new hM1 hD1.some)) (fun z hz => Ne.symm (ne_new hM1 (let ⟨ws, q, _⟩ := hES.list z hz; q.some))) (F.bOf (.inr hM2)) hmD (by rw [X.look_keys hD2]; exact hT) fun D' s' tr hM hMn ht => ?_
  have F' := F2.step tr fun b hb => by rw [List.mem_singleton] at hb; subst hb; exact ⟨⟨_, Led.put_same⟩, .inr hM2⟩
  obtain ⟨vM, h1, h2⟩ := hM
  rw [List.nil_append] at h1
  have hx' : Ext0 D D' := fun a o e => by
    have hne : a ≠ lM := fun q => by rw [q, hM1] at e; cases e
    exact tr.ext a o (by simpa using hne) (hx2 a o e)
  exact r_st F' fun s3 F3 => hQ lM vM D' s3 (F3.less (sub_put1 (fun _ h => h) (all_ne rfl))) hx' h1 h2 hM1 hM2
end
end Mine
end

section
open PySem PySem.W PyProof.Rows
set_option Elab.async false
set_option maxRecDepth 100000
namespace Mine
theorem walkP_sub {V : Type} [DecidableEq V] {Eg : V → List V} {dn : V → Bool} {nms : List V} (hE : ∀ x ∈ nms, ∀ y ∈ Eg x, y ∈ nms) : ∀ {k : Nat} {x : V} {met m' : List V}, walkP Eg dn k x met = some m' → x ∈ nms → (∀ v ∈ met, v ∈ nms) → ∀ v ∈ m', v ∈ nms
  | 0, _, _, _, h, _, _ => by cases h
  | k + 1, x, met, m', h, hx, hm => by
    unfold walkP at h
    split at h
    · injection h with h; subst h; exact hm
    · split at h
      · have loop : ∀ (l : List V) (m m' : List V), (∀ y ∈ l, y ∈ nms) → l.foldlM (fun m y => walkP Eg dn k y m) m = some m' → (∀ v ∈ m, v ∈ nms) → ∀ v ∈ m', v ∈ nms := by
          intro l
          induction l with
          | nil => intro m m' _ e hm; have : m = m' := by simpa using e
                   subst this; exact hm
          | cons y l ih =>
            intro m m' hl e hm
            rw [List.foldlM_cons] at e
            cases e1 : walkP Eg dn k y m with
            | none => rw [e1] at e; cases e
            | some m2 =>
              rw [e1] at e
              exact ih m2 m' (fun z hz => hl z (List.mem_cons_of_mem _ hz)) e (walkP_sub hE e1 (hl y (by simp)) hm)
        exact loop _ _ _ (hE x hx) h fun v hv => by
          rcases List.mem_append.mp hv with hv | hv
          · exact hm v hv
          · rw [List.mem_singleton] at hv; rw [hv]; exact hx
      · cases h
def ReachR (prog : Program) (w : World) (D1 : Led) (rch : Key → List Key) (k : Key) (v : Value) (D : Led) : Prop := ∃ a ws, v = .ref a ∧ D1 a = none ∧ LV D a ws ∧ KeysL prog w D (rch k) ws
abbrev wV (k : LK) (v : Value) (lM : Addr) : Vars := ("walk", .ref lM) :: ("start", v) :: lV k
section
variable {prog : Program} {w : World} {h₁ : Heap} {mg mb : Str → Option Value} {k : LK} {D : Led} {t : LT} {ad oL kL : Key → Addr} {s0 : Shared} {P : Addr} {D0 : Led} {s : Shared} {A : Around} {E : Value → Shared → Prop}
/-- reach = .. -/
theorem law_s3 (G : Glo h₁ mg mb) (hK : LKok k s0) (hR : Room A 40) {v : Value} {lM : Addr} {vM : List Value} {walk : List Key} {rch : Key → List Key} {Q : Flow → Shared → Prop}
    (F : At (hLed h₁) [P] D0 s0 k.L (wV k v lM) D s) (X : LI prog w k t ad oL kL s0 D) (hM : LV D lM vM) (hW : KeysL prog w D walk vM) (hnd : walk.Nodup) (hwn : ∀ x ∈ walk, x ∈ k.r.nms)
    (hT : ∀ x ∈ walk, walkP k.r.Eg (fun z => (t.dn z).isSome) (k.r.nms.length + 1) x [] = some (rch x))
    (hQ : ∀ dR xR (rL : Key → Addr) D' s', At (hLed h₁) [P] D0 s0 k.L (wV k v lM) D' s' → Kp k.W D D' → LI prog w k t ad oL kL s0 D' → CV D' (k.L + 7) (some (.ref dR)) → DK prog w D' dR xR → dR ∉ k.W →
      (∀ z ∈ walk, look xR z = some (.ref (rL z)) ∧ rL z ∉ k.W ∧ ∃ ws, LV D' (rL z) ws ∧ KeysL prog w D' (rch z) ws) → (∀ z ∈ walk, ∀ y ∈ rch z, y ∈ k.r.nms) →
      wpAny (model prog w) A (execs (lBody.drop 4) (lEnv k.L k.a k.cd)) Q E s') :
    wpAny (model prog w) A (execs (lBody.drop 3) (lEnv k.L k.a k.cd)) Q E s := by
  obtain ⟨aW, oW, pm, cd, doc, hmW, hoW, hdW, hcW⟩ := G.walked
  have cE : CV D (k.L + 10) (some (.ref k.r.dE)) := X.st.X.cE.mono fun o e => offW_le _ o e
  have c5 : CV D (k.L + 5) (some (.ref k.dD)) := X.st.c5.mono fun o e => offW_le _ o e
  have hlen := hK.P.len.2
  obtain ⟨xD, hD1, hD2⟩ := X.dD
  have hmD : (k.dD == sysModules) = false := F.notMods G (.inr (hK.new _ (by first | exact LK.m1 | exact LK.m2 | exact LK.m3 | exact LK.m4 | exact LK.m5 | exact LK.m6 | exact LK.m7 | exact LK.m8 | exact LK.m9)))
  have hES : ES prog w k.r.nms k.r.Eg k.r.eL k.r.dE D := X.st.O.E.sub offW_le.sub
  have hvl : vM.length ≤ 7 := by
    have := nodup_sub_length hnd hwn
    have := hW.length; omega
  have hnms : ∀ z ∈ walk, ∀ y ∈ rch z, y ∈ k.r.nms := fun z hz => walkP_sub (fun x hx y hy => (hK.P.Eg x hx).1 y hy) (hT z hz) (hwn z hz) (fun _ h => nomatch h)
  refine wpAny_execs_cons (wpAny_Assign_Name (e_dcomp F (cl := [("edges", k.L + 10), ("done", k.L + 5)]) (n := vM.length) (P := fun i v _ => vM[i]? = some v)
    (fun i D' xs => DI (walk.take i) (ReachR prog w D rch) False D' xs) ?_ hR.hand (hR.u (by decide)) (by omega)
    (fun _ Da Db _ h x => DI.mono (R := ReachR prog w D rch) (D := Da) (D' := Db) x fun k v ⟨a, ws, q1, q0, q2, q3⟩ => ⟨a, ws, q1, q0, h.lv q2, q3.mono h.t⟩) rfl) rfl)
  refine r_nm F rfl ⟨D, s, F, iterGives_list F.fits hM, .nil, ?_, ?_⟩
  · intro C i vz xs vars' D' s' hi FC hv hI hle E'
    obtain ⟨z, hz, hzk⟩ := hW.getV hv
    have hzw := List.mem_of_getElem? hz
    have hx := FC.tr.ext0
    have hzk' := hzk.mono hx.t
    have cE' := cE.mono fun o e => hx _ o e
    have c5' := c5.mono fun o e => hx _ o e
    refine wpAny_assign_Name (r_st FC fun s3 F3 => ?_)
    refine wpAny_pure ?_
    simp only [if_true]
    refine r_nm F3 rfl (e_call (r_glob F3 G hmW ⟨aW, oW, _, rfl, hdW, args_cons (r_nm F3 rfl (args_cons (r_cell F3 rfl cE' (args_cons (r_cell F3 rfl c5' (args_cons (List_ (args_nil (r_newList F3 (by simp) fun la s4 ha1 ha2 F4 => args_nil ⟨F4.baseGet hoW, ?_⟩)))))))))⟩))
    have hx4 : Ext0 D' (D'.put la (lstO ([] : List Value).toArray 0)) := .new ha1
    have hES' := hES.sub hx.sub
    have hD1' := hD1.sub hx.sub
    obtain ⟨xE, hE1, hE2⟩ := hES'.dict
    refine walked_ok G hmW hoW hdW hcW (nms := k.r.nms) (Eg := k.r.Eg) (eL := k.r.eL) (dE := k.r.dE) (dD := k.dD) hK.P.ok (fun x hx y hy => (hK.P.Eg x hx).1 y hy) (k.r.nms.length + 1) A _ _ s4 xD la [] (rch z) z vz _ (hR.less (by omega)) F4.fits F4.base (hES'.sub hx4.sub) (hD1'.sub hx4.sub) ⟨[], LV.put_same, trivial⟩ (fun _ h => nomatch h) (hzk'.mono hx4.t) (hwn z hzw)
      (Ne.symm (ne_new ha1 hE1.some)) (Ne.symm (ne_new ha1 hD1'.some)) (fun y hy => Ne.symm (ne_new ha1 (let ⟨ws, q, _⟩ := hES'.list y hy; q.some))) (F4.bOf (.inr ha2)) hmD (by rw [X.look_keys hD2]; exact hT z hzw) fun D'' s'' tr hM'' hMn ht => ?_
    have F5 := F4.step tr fun b hb => by rw [List.mem_singleton] at hb; subst hb; exact ⟨⟨_, Led.put_same⟩, .inr ha2⟩
    obtain ⟨ws, h1, h2⟩ := hM''
    rw [List.nil_append] at h1
    have hx5 : Ext0 D' D'' := fun a o e => by
      have hne : a ≠ la := fun q => by rw [q, ha1] at e; cases e
      exact tr.ext a o (by simpa using hne) (hx4 a o e)
    refine ⟨_, D'', z, F5, hx5, hzk'.mono hx5.t, ?_⟩
    rw [take_succ hz]
    have hI5 : DI (walk.take i) (ReachR prog w D rch) False D'' xs := hI.mono fun k v ⟨a, ws, q1, q0, q2, q3⟩ => ⟨a, ws, q1, q0, q2.sub hx5.sub, q3.mono hx5.t⟩
    exact hI5.snoc (mem_take_nodup hnd hz) ⟨la, ws, rfl, hx.lose ha1, h1, h2⟩ fun q => q.elim
  · intro dR xR D' s' F' hx hn1 hn2 hDK hI hle
    have ht : walk.take vM.length = walk := List.take_of_length_le (by rw [hW.length]; omega)
    rw [ht] at hI
    obtain ⟨rL, hrL⟩ := hI.refs (fun k v ⟨a, _, e, _⟩ => ⟨a, e⟩)
    have X' := X.sub (SubI.ext hx)
    obtain ⟨v7, h7⟩ := X'.rc
    refine r_stc F' rfl h7 (.inr (hK.new _ (by first | exact LK.m1 | exact LK.m2 | exact LK.m3 | exact LK.m4 | exact LK.m5 | exact LK.m6 | exact LK.m7 | exact LK.m8 | exact LK.m9))) fun o s2 F2 hcv ht2 => ?_
    have kp : Kp k.W D' (D'.put (k.L + 7) o) := Kp.put (by first | exact LK.m1 | exact LK.m2 | exact LK.m3 | exact LK.m4 | exact LK.m5 | exact LK.m6 | exact LK.m7 | exact LK.m8 | exact LK.m9)
    have hdR := X.wt.new hn1
    refine hQ dR xR rL _ s2 F2 ((Kp.ext hx).trans kp) (X'.rset hK hcv) hcv (hDK.mono (fun o e => kp _ o hdR e) ht2) hdR (fun z hz => ?_) hnms
    obtain ⟨h1, a', ws, e, h0, h2, h3⟩ := hrL z hz
    injection e with e
    have hrW : rL z ∉ k.W := X.wt.new (e ▸ h0)
    exact ⟨h1, hrW, ws, (e ▸ h2).mono fun o e => kp _ o hrW e, h3.mono ht2⟩
end
end Mine
end

section
open PySem PySem.W PyProof.Rows
set_option Elab.async false
set_option maxRecDepth 100000
namespace Mine
section
variable {prog : Program} {w : World} {h₁ : Heap} {mg mb : Str → Option Value} {k : LK} {D : Led} {t : LT} {ad oL kL : Key → Addr} {s0 : Shared} {P : Addr} {D0 : Led} {s : Shared} {A : Around} {E : Value → Shared → Prop}
theorem LI.knc (x : LI prog w k t ad oL kL s0 D) {Kn2 : Key → List Key} (h : ∀ z, t.kd z = true → Kn2 z = t.Kn z) : LI prog w k { t with Kn := Kn2 } ad oL kL s0 D :=
  { x with st := { x.st with Kl := fun z hz => by have := x.st.Kl z hz; rw [← h z hz] at this; exact this }, knm := fun z hz y hy => x.knm z hz y (by have hy' : y ∈ Kn2 z := hy; rwa [h z hz] at hy') }
theorem kvs_short {D : Led} {d : Addr} {xs : KVs} {nms : List Key} (h : DK prog w D d xs) (hs : ∀ z ∈ xs.map (·.1), z ∈ nms) (hn : nms.length ≤ 7) : xs.length ≤ 7 := by
  have := nodup_sub_length h.nodup hs
  rw [List.length_map] at this; omega
/-- for x in walk: knots[x] = .. -/
theorem law_s4 (hK : LKok k s0) (hR : Room A 40) {v : Value} {lM dR : Addr} {vM : List Value} {walk : List Key} {rch : Key → List Key} {xR : KVs} {rL : Key → Addr} {Q : Flow → Shared → Prop}
    (F : At (hLed h₁) [P] D0 s0 k.L (wV k v lM) D s) (X : LI prog w k t ad oL kL s0 D) (hM : LV D lM vM) (hMW : lM ∉ k.W) (hW : KeysL prog w D walk vM) (hnd : walk.Nodup) (hwn : ∀ x ∈ walk, x ∈ k.r.nms)
    (h7 : CV D (k.L + 7) (some (.ref dR))) (hdR : DK prog w D dR xR) (hdRW : dR ∉ k.W) (hrL : ∀ z ∈ walk, look xR z = some (.ref (rL z)) ∧ rL z ∉ k.W ∧ ∃ ws, LV D (rL z) ws ∧ KeysL prog w D (rch z) ws) (hrn : ∀ z ∈ walk, ∀ y ∈ rch z, y ∈ k.r.nms)
    (hkn : ∀ z ∈ walk, t.Kn z = knot walk rch z)
    (hQ : ∀ kL' D' s', At (hLed h₁) [P] D0 s0 k.L (wV k v lM) D' s' → Kp k.W D D' → LI prog w k { t with kd := fun z => decide (z ∈ walk) || t.kd z } ad oL kL' s0 D' →
      wpAny (model prog w) A (execs (lBody.drop 5) (lEnv k.L k.a k.cd)) Q E s') :
    wpAny (model prog w) A (execs (lBody.drop 4) (lEnv k.L k.a k.cd)) Q E s := by
  have hlen := hK.P.len.2
  have hvl : vM.length = walk.length := hW.length.symm
  have hvl7 : vM.length ≤ 7 := by have := nodup_sub_length hnd hwn; omega
  refine wpAny_execs_cons (wpAny_For (r_nm F rfl (r_iter F hM fun it oi s2 hi1 hi2 F2 hit => ?_)))
  have hx2 : Ext0 D (D.put it oi) := .new hi1
  have hkd0 : (fun z => decide (z ∈ walk.take 0) || t.kd z) = t.kd := by funext z; simp
  have sameIt : ∀ {D1 D2 : Led}, Kp k.W D D1 → (∀ a, a ≠ it → D2 a = D1 a) → Kp k.W D D2 := fun kp hoff a o ha e => by
    have hne : a ≠ it := fun q => by rw [q, hi1] at e; cases e
    rw [hoff a hne]; exact kp a o ha e
  refine r_forC (vs := vM) (cy := k.L + 3) (fun i vars D' => vars = wV k v lM ∧ Kp k.W D D' ∧ CV D' (k.L + 7) (some (.ref dR)) ∧ ∃ kL', LI prog w k { t with kd := fun z => decide (z ∈ walk.take i) || t.kd z } ad oL kL' s0 D') F2 hit hi2 ?_ hR.hand ?_ ?_ (.inr (hK.new _ (by first | exact LK.m1 | exact LK.m2 | exact LK.m3 | exact LK.m4 | exact LK.m5 | exact LK.m6 | exact LK.m7 | exact LK.m8 | exact LK.m9))) ?_ ?_ ?_ rfl
  · exact ⟨rfl, Kp.ext hx2, h7.mono fun o e => hx2 _ o e, kL, by rw [hkd0]; exact X.sub (SubI.ext hx2)⟩
  · rintro i vars D' ⟨_, kp, _⟩
    exact hM.mono fun o e => kp _ o hMW e
  · rintro i vars D' ⟨_, _, _, kL', X'⟩
    exact X'.x
  · rintro i vars D1 D2 hl hoff ⟨rfl, kp, c7, kL', X'⟩
    exact ⟨rfl, sameIt kp hoff, c7.subI (SubI.off hl hoff), kL', X'.sub (SubI.off hl hoff)⟩
  · rintro i vz vars D1 o s1 E' hv F1 hcx ht hit1 ⟨rfl, kp1, c71, kL', X1⟩
    refine wpAny_gen fun Q' hQ' => ?_
    have X2 := X1.xset hK hcx
    have kp2 : Kp k.W D (D1.put (k.L + 3) o) := kp1.trans (Kp.put (by first | exact LK.m1 | exact LK.m2 | exact LK.m3 | exact LK.m4 | exact LK.m5 | exact LK.m6 | exact LK.m7 | exact LK.m8 | exact LK.m9))
    have c72 : CV (D1.put (k.L + 3) o) (k.L + 7) (some (.ref dR)) := c71.mono fun o e => by rw [Led.put_other (fun q => absurd (Nat.add_left_cancel q) (by decide))]; exact e
    generalize D1.put (k.L + 3) o = D2 at F1 hcx hit1 X2 kp2 c72
    clear X1 kp1 c71 ht
    obtain ⟨z, hz, hzk⟩ := hW.getV hv
    have hzw := List.mem_of_getElem? hz
    have t2 : TSub D D2 := kp2.t X.noT
    have hzk2 := hzk.mono t2
    have hM2 : LV D2 lM vM := hM.mono fun o e => kp2 _ o hMW e
    have hW2 := hW.mono t2
    have hdR2 : DK prog w D2 dR xR := hdR.mono (fun o e => kp2 _ o hdRW e) t2
    have hrL2 : ∀ y ∈ walk, ∃ ws, LV D2 (rL y) ws ∧ KeysL prog w D2 (rch y) ws := fun y hy => by
      obtain ⟨_, q1, ws, q2, q3⟩ := hrL y hy
      exact ⟨ws, q2.mono fun o e => kp2 _ o q1 e, q3.mono t2⟩
    refine wpAny_execs_cons (wpAny_Assign_Subscript (e_lcomp F1 (cl := [("x", k.L + 3), ("reach", k.L + 7)]) (n := vM.length) (P := fun i v _ => vM[i]? = some v)
      (fun j D' ws => KeysL prog w D' ((walk.take j).filter fun y => decide (y ∈ rch z) && decide (z ∈ rch y)) ws) ?_ hR.hand (by omega) (fun _ _ _ _ h x => x.mono h) rfl) rfl)
    as_aux_lemma =>
    refine r_nm F1 rfl ⟨D2, s1, F1, iterGives_list F1.fits hM2, trivial, ?_, ?_⟩
    · intro C j vy ws vars' D' s' hj FC hvy hI hle E''
      obtain ⟨y, hy, hyk⟩ := hW2.getV hvy
      have hyw := List.mem_of_getElem? hy
      have hx := FC.tr.ext0
      have hyk' := hyk.mono hx.t
      have hzk' := hzk2.mono hx.t
      have c7' := c72.mono fun o e => hx _ o e
      have c3' := hcx.mono fun o e => hx _ o e
      have hfil := filter_take_succ (p := fun y => decide (y ∈ rch z) && decide (z ∈ rch y)) hy
      obtain ⟨wz, lz1, lz2⟩ := hrL2 z hzw
      obtain ⟨wy, ly1, ly2⟩ := hrL2 y hyw
      refine wpAny_assign_Name (r_st FC fun s3 F3 => ?_)
      refine ifs_one (isTrue_and (wpAny_isTrue_Compare1 (r_nm F3 rfl (e_sub (r_cell F3 rfl c7' (r_cell F3 rfl c3' (r_itemD F3 (hdR2.sub hx.sub) hzk' (hrL z hzw).1 (hR.u (by decide)) fun s4 F4 => r_inKeys F4 (lz1.sub hx.sub) (lz2.mono hx.t) hyk' (fun q hq => hK.P.ok q (hrn z hzw q hq)) (hK.P.ok y (hwn y hyw)) (hR.u (by decide)) (wpAny_truthy_bool ?_))))))))
      by_cases h1 : y ∈ rch z
      · refine ite_t (by simp only [h1, decide_true]) ?_
        refine isTrue_and (wpAny_isTrue_Compare1 (r_cell F4 rfl c3' (e_sub (r_cell F4 rfl c7' (r_nm F4 rfl (r_itemD F4 (hdR2.sub hx.sub) hyk' (hrL y hyw).1 (hR.u (by decide)) fun s5 F5 => r_inKeys F5 (ly1.sub hx.sub) (ly2.mono hx.t) hzk' (fun q hq => hK.P.ok q (hrn y hyw q hq)) (hK.P.ok z (hwn z hzw)) (hR.u (by decide)) (wpAny_truthy_bool ?_)))))))
        by_cases h2 : z ∈ rch y
        · refine ite_t (by simp only [h2, decide_true]) ?_
          refine isTrue_and_nil ?_
          simp only [if_true]
          refine r_nm F5 rfl ⟨_, D', F5, .refl _, ?_⟩
          rw [hfil]
          simp only [h1, h2, decide_true, Bool.and_self, if_true]
          exact hI.append ⟨hyk', trivial⟩
        · simp only [h2, decide_false, Bool.false_eq_true, if_false]
          refine ⟨_, D', F5, .refl _, ?_⟩
          rw [hfil]
          simp only [h1, h2, decide_true, decide_false, Bool.and_false, Bool.false_eq_true, if_false, List.append_nil]
          exact hI
      · simp only [h1, decide_false, Bool.false_eq_true, if_false]
        refine ⟨_, D', F4, .refl _, ?_⟩
        rw [hfil]
        simp only [h1, decide_false, Bool.false_and, Bool.false_eq_true, if_false, List.append_nil]
        exact hI
    · intro la ws D' s' F' hx hn1 hn2 hLv hI hle
      have htk : walk.take vM.length = walk := List.take_of_length_le (by omega)
      rw [htk] at hI
      have X3 := X2.sub (SubI.ext hx)
      have hzk' := hzk2.mono hx.t
      have c3' := hcx.mono fun o e => hx _ o e
      have c6' : CV D' (k.L + 6) (some (.ref k.dK)) := X3.st.c6.mono fun o e => offW_le _ o e
      obtain ⟨xK, k1, k2, k3⟩ := X3.dK
      refine r_cell F' rfl c6' (r_cell F' rfl c3' (r_setD F' k1 hzk' (.inr (hK.new _ (by first | exact LK.m1 | exact LK.m2 | exact LK.m3 | exact LK.m4 | exact LK.m5 | exact LK.m6 | exact LK.m7 | exact LK.m8 | exact LK.m9))) (by have := kvs_short k1 k2 hlen; omega) (hR.u (by decide)) fun nn s3 F3 hDK3 => ?_))
      have X4 := X3.kset (n := nn) hK k1 k2 k3 hzk' (hwn z hzw) hLv (by show KeysL prog w D' (t.Kn z) ws; rw [hkn z hzw]; exact hI) (X2.wt.new hn1) (fun o ho => by obtain ⟨_, vs, q, _⟩ := X2.T.C o ho; exact ne_new hn1 q.some) (fun u hu => by
        have hu' : u ∈ t.Kn z := hu
        rw [hkn z hzw] at hu'
        exact hwn u (List.mem_filter.mp hu').1)
      have hkd : (fun y => decide (y = z) || (decide (y ∈ walk.take i) || t.kd y)) = fun y => decide (y ∈ walk.take (i + 1)) || t.kd y := by
        funext y
        rw [take_succ hz]
        by_cases e : y = z <;> by_cases e' : y ∈ walk.take i <;> simp [e, e']
      have kp3 : Kp k.W D' (D'.put k.dK (dctO ((putK xK z vz (.ref la)).map (ent prog w)).toArray nn)) := Kp.put (by first | exact LK.m1 | exact LK.m2 | exact LK.m3 | exact LK.m4 | exact LK.m5 | exact LK.m6 | exact LK.m7 | exact LK.m8 | exact LK.m9)
      have hit' : LIt D' it lM (i + 1) := hit1.mono fun o e => hx _ o e
      have c7' := c72.mono fun o e => hx _ o e
      refine wpAny_execs_nil (hQ' _ _ ⟨.inl rfl, _, _, F3, hit'.put_other (hit'.neD k1), rfl, (kp2.trans (Kp.ext hx)).trans kp3, c7'.mono fun o e => ?_, upd kL' z la, ?_⟩)
      · rw [Led.put_other (Ne.symm hK.ne.Kr)]; exact e
      · change LI prog w k { t with kd := fun y => decide (y = z) || (decide (y ∈ walk.take i) || t.kd y) } _ _ _ _ _ at X4
        rw [hkd] at X4
        exact X4
  · rintro vars D' s' F' ⟨rfl, kp, _, kL', X'⟩
    have htk : walk.take vM.length = walk := List.take_of_length_le (by omega)
    rw [htk] at X'
    exact hQ kL' D' s' F' kp X'
end
end Mine
end

section
open PySem PySem.W PyProof.Rows
set_option Elab.async false
set_option maxRecDepth 100000
namespace Mine
def DueR (D1 : Led) (ws : Key → List Int) (k : Key) (v : Value) (D : Led) : Prop := ∃ a vs, v = .ref a ∧ D1 a = none ∧ LV D a vs ∧ IntsL (onceP (ws k)) vs
abbrev LK.sc (k : LK) (walk : List Key) (Kn : Key → List Key) (kL : Key → Addr) (dn : ShF) (oL : Key → Addr) : SC := ⟨k.r.dE, k.r.dV, k.dK, k.dD, k.r.nms, walk, k.r.Eg, k.r.eL, k.r.Vl, k.r.vL, Kn, kL, dn, oL⟩
section
variable {prog : Program} {w : World} {h₁ : Heap} {mg mb : Str → Option Value} {k : LK} {D : Led} {t : LT} {ad oL kL : Key → Addr} {s0 : Shared} {P : Addr} {D0 : Led} {s : Shared} {A : Around} {E : Value → Shared → Prop}
theorem LI.sst (X : LI prog w k t ad oL kL s0 D) {walk : List Key} (h : ∀ z ∈ walk, t.kd z = true) : SSt prog w (k.sc walk t.Kn kL t.dn oL) D := by
  obtain ⟨xD, d1, d2⟩ := X.dD
  obtain ⟨xK, k1, k2, k3⟩ := X.dK
  exact ⟨X.st.O.E.sub offW_le.sub, X.st.O.V.sub offW_le.sub, ⟨⟨xK, k1, fun z hz => k3 z (h z hz)⟩, fun z hz => let ⟨ws, a, b⟩ := X.st.Kl z (h z hz); ⟨ws, a.sub offW_le.sub, b.mono offW_le.t⟩⟩,
    ⟨⟨xD, d1, d2⟩, fun z l hz => let ⟨ws, a, b⟩ := X.st.Dl z l hz; ⟨ws, a.sub offW_le.sub, b⟩⟩⟩
theorem SSt.ne {c : SC} {lM : Addr} (S : SSt prog w c D) (h : D lM = none) : SNe c lM := by
  obtain ⟨xE, e1, _⟩ := S.E.dict
  obtain ⟨xV, v1, _⟩ := S.V.dict
  obtain ⟨xK, k1, _⟩ := S.K.dict
  obtain ⟨xD, d1, _⟩ := S.Dn.dict
  exact ⟨Ne.symm (ne_new h e1.some), Ne.symm (ne_new h v1.some), Ne.symm (ne_new h k1.some), Ne.symm (ne_new h d1.some),
    fun x hx => Ne.symm (ne_new h (let ⟨ws, q, _⟩ := S.E.list x hx; q.some)), fun x hx => Ne.symm (ne_new h (let ⟨ws, q, _⟩ := S.V.list x hx; q.some)), fun x hx => Ne.symm (ne_new h (let ⟨ws, q, _⟩ := S.K.list x hx; q.some)),
    fun x l hx => Ne.symm (ne_new h (let ⟨ws, q, _⟩ := S.Dn.list x l hx; q.some))⟩
/-- dues = .. -/
theorem law_s5 (G : Glo h₁ mg mb) (hK : LKok k s0) (hR : Room A 40) {v : Value} {lM : Addr} {vM : List Value} {walk : List Key} {ws : Key → List Int} {Q : Flow → Shared → Prop}
    (F : At (hLed h₁) [P] D0 s0 k.L (wV k v lM) D s) (X : LI prog w k t ad oL kL s0 D) (hM : LV D lM vM) (hW : KeysL prog w D walk vM) (hnd : walk.Nodup) (hwn : ∀ x ∈ walk, x ∈ k.r.nms)
    (hkd : ∀ z ∈ walk, t.kd z = true) (hc : SOk (k.sc walk t.Kn kL t.dn oL)) (hT : ∀ z ∈ walk, ∃ m, saidP k.r.Eg k.r.Vl (dnL t.dn) (smK t.Kn) (rtK t.Kn) (k.r.nms.length + 1) (rtK t.Kn z) [] = some (ws z, m)) (hz : ∀ z ∈ walk, (ws z).length ≤ 100000)
    (hQ : ∀ dU xU (uL : Key → Addr) D' s', At (hLed h₁) [P] D0 s0 k.L (("dues", .ref dU) :: wV k v lM) D' s' → Ext0 D D' → DK prog w D' dU xU → D dU = none →
      (∀ z ∈ walk, look xU z = some (.ref (uL z)) ∧ D (uL z) = none ∧ ∃ vs, LV D' (uL z) vs ∧ IntsL (onceP (ws z)) vs) →
      wpAny (model prog w) A (execs (lBody.drop 6) (lEnv k.L k.a k.cd)) Q E s') :
    wpAny (model prog w) A (execs (lBody.drop 5) (lEnv k.L k.a k.cd)) Q E s := by
  obtain ⟨aS, oS, pmS, cdS, docS, hmS, hoS, hdS, hcS⟩ := G.said
  obtain ⟨aO, oO, pmO, cdO, docO, hmO, hoO, hdO, hcO⟩ := G.once
  have cE : CV D (k.L + 10) (some (.ref k.r.dE)) := X.st.X.cE.mono fun o e => offW_le _ o e
  have cV : CV D (k.L + 11) (some (.ref k.r.dV)) := X.st.X.cV.mono fun o e => offW_le _ o e
  have c5 : CV D (k.L + 5) (some (.ref k.dD)) := X.st.c5.mono fun o e => offW_le _ o e
  have c6 : CV D (k.L + 6) (some (.ref k.dK)) := X.st.c6.mono fun o e => offW_le _ o e
  have hlen := hK.P.len.2
  have hmD : (k.dD == sysModules) = false := F.notMods G (.inr (hK.new _ (by first | exact LK.m1 | exact LK.m2 | exact LK.m3 | exact LK.m4 | exact LK.m5 | exact LK.m6 | exact LK.m7 | exact LK.m8 | exact LK.m9)))
  have hvl : vM.length ≤ 7 := by have := nodup_sub_length hnd hwn; have := hW.length; omega
  have hSS := X.sst hkd
  refine wpAny_execs_cons (x_dcomp F (cl := [("values", k.L + 11), ("knots", k.L + 6), ("edges", k.L + 10), ("done", k.L + 5)]) (n := vM.length) (P := fun i v _ => vM[i]? = some v)
    (fun i D' xs => DI (walk.take i) (DueR D ws) False D' xs) ?_ hR.hand (hR.u (by decide)) (by omega)
    (fun _ Da Db _ h x => DI.mono (R := DueR D ws) (D := Da) (D' := Db) x fun k v ⟨a, vs, q1, q0, q2, q3⟩ => ⟨a, vs, q1, q0, h.lv q2, q3⟩) rfl rfl rfl rfl)
  refine r_nm F rfl ⟨D, s, F, iterGives_list F.fits hM, .nil, ?_, ?_⟩
  · intro C i vz xs vars' D' s' hi FC hv hI hle E'
    obtain ⟨z, hzi, hzk⟩ := hW.getV hv
    have hzw := List.mem_of_getElem? hzi
    have hx := FC.tr.ext0
    have hzk' := hzk.mono hx.t
    have cE' := cE.mono fun o e => hx _ o e
    have cV' := cV.mono fun o e => hx _ o e
    have c5' := c5.mono fun o e => hx _ o e
    have c6' := c6.mono fun o e => hx _ o e
    have hSS' := hSS.sub hx.sub
    obtain ⟨xK, k1, k3⟩ := hSS'.K.dict
    obtain ⟨kw, kl1, kl2⟩ := hSS'.K.list z hzw
    have hne := hc.Kne z hzw
    obtain ⟨r0, rs, hkn⟩ : ∃ r0 rs, t.Kn z = r0 :: rs := by
      cases e : t.Kn z with
      | nil => exact absurd e hne
      | cons a b => exact ⟨a, b, rfl⟩
    obtain ⟨u, us, rfl⟩ : ∃ u us, kw = u :: us := by
      cases kw with
      | nil =>
        have kl2' : KeysL prog w D' (t.Kn z) [] := kl2
        rw [hkn] at kl2'; exact kl2'.elim
      | cons a b => exact ⟨a, b, rfl⟩
    have hr0 : KeyL prog w D' r0 u := by
      have kl2' : KeysL prog w D' (t.Kn z) (u :: us) := kl2
      rw [hkn] at kl2'; exact kl2'.1
    have hr0w : r0 ∈ walk := hc.Kn z hzw r0 (by show r0 ∈ t.Kn z; rw [hkn]; simp)
    obtain ⟨m, hsd⟩ := hT z hzw
    have hrt : rtK t.Kn z = r0 := by show (t.Kn z).headD z = r0; rw [hkn]; rfl
    rw [hrt] at hsd
    refine wpAny_assign_Name (r_st FC fun s3 F3 => ?_)
    refine wpAny_pure ?_
    simp only [if_true]
    refine r_nm F3 rfl (e_call (r_glob F3 G hmO ⟨aO, oO, _, rfl, hdO, args_cons (e_call (r_glob F3 G hmS ⟨aS, oS, _, rfl, hdS, args_cons (e_sub (e_sub (r_cell F3 rfl c6' (r_nm F3 rfl (r_itemD F3 k1 hzk' (k3 z hzw) (hR.u (by decide)) fun s4 F4 => wpAny_Constant_int (r_itemL (F4.toks _) kl1 (by decide) (by decide) (v := u) rfl
      (args_cons (r_cell (F4.toks _) rfl cE' (args_cons (r_cell (F4.toks _) rfl cV' (args_cons (r_cell (F4.toks _) rfl c6' (args_cons (r_cell (F4.toks _) rfl c5' (args_cons (List_ (args_nil (r_newList (F4.toks _) (by simp) fun la s5 ha1 ha2 F5 => args_nil ⟨F5.baseGet hoS, ?_⟩))))))))))))))))))⟩))⟩))
    have hx5 : Ext0 D' (D'.put la (lstO ([] : List Value).toArray 0)) := .new ha1
    refine said_ok G hmS hoS hdS hcS hc (k.r.nms.length + 1) A _ _ s5 la [] m (ws z) r0 u _ (hR.less (by omega)) F5.fits F5.base (hSS'.sub hx5.sub) (hSS'.ne ha1) ⟨[], LV.put_same, trivial⟩ (fun _ h => nomatch h) (hr0.mono hx5.t) hr0w (F5.bOf (.inr ha2)) hmD hsd fun D6 s6 lw vs tr hM6 hMn6 ht6 hlw hl6 hi6 => ?_
    have F6 := F5.step tr fun b hb => by rw [List.mem_singleton] at hb; subst hb; exact ⟨⟨_, Led.put_same⟩, .inr ha2⟩
    refine args_nil ⟨F6.baseGet hoO, ?_⟩
    refine once_ok G hoO hdO hcO (hR.less (by decide)) F6.fits F6.base hl6 hi6 (hz z hzw) fun D7 s7 lo vs' tr7 hlo hl7 hi7 => ?_
    have F7 := F6.step tr7 fun b hb => nomatch hb
    have hx6 : Ext0 D' D6 := fun a o e => by
      have hne : a ≠ la := fun q => by rw [q, ha1] at e; cases e
      exact tr.ext a o (by simpa using hne) (hx5 a o e)
    have hx7 : Ext0 D' D7 := hx6.trans tr7.ext0
    refine ⟨_, D7, z, F7, hx7, hzk'.mono hx7.t, ?_⟩
    rw [take_succ hzi]
    have hI7 : DI (walk.take i) (DueR D ws) False D7 xs := hI.mono fun k v ⟨a, ws, q1, q0, q2, q3⟩ => ⟨a, ws, q1, q0, q2.sub hx7.sub, q3⟩
    have hloD : D lo = none := by
      cases e : D lo with
      | none => rfl
      | some o => have := F6.get (hx6 _ o (hx _ o e)); rw [hlo] at this; cases this
    exact hI7.snoc (mem_take_nodup hnd hzi) ⟨lo, vs', rfl, hloD, hl7, hi7⟩ fun q => q.elim
  · intro dU xU D' s' F' hx hn1 hn2 hDK hI hle
    have ht : walk.take vM.length = walk := List.take_of_length_le (by rw [hW.length]; omega)
    rw [ht] at hI
    obtain ⟨uL, huL⟩ := hI.refs (fun k v ⟨a, _, e, _⟩ => ⟨a, e⟩)
    refine hQ dU xU uL D' s' (F'.less (sub_put1 (fun _ h => h) (all_ne rfl))) hx hDK hn1 fun z hz => ?_
    obtain ⟨h1, a', vs, e, h0, h2, h3⟩ := huL z hz
    injection e with e
    exact ⟨h1, e ▸ h0, vs, e ▸ h2, h3⟩
/-- for x in walk: done[x] = dues[x] -/
theorem law_s6 (hK : LKok k s0) (hR : Room A 40) {v : Value} {lM dU : Addr} {vM : List Value} {walk : List Key} {ws : Key → List Int} {xU : KVs} {uL : Key → Addr} {Q : Flow → Shared → Prop}
    (F : At (hLed h₁) [P] D0 s0 k.L (("dues", .ref dU) :: wV k v lM) D s) (X : LI prog w k t ad oL kL s0 D) (hM : LV D lM vM) (hMW : lM ∉ k.W) (hW : KeysL prog w D walk vM) (hnd : walk.Nodup) (hwn : ∀ x ∈ walk, x ∈ k.r.nms)
    (hdU : DK prog w D dU xU) (hdUW : dU ∉ k.W) (huL : ∀ z ∈ walk, look xU z = some (.ref (uL z)) ∧ uL z ∉ k.W ∧ ∃ vs, LV D (uL z) vs ∧ IntsL (onceP (ws z)) vs) (huN : ∀ z ∈ walk, ∀ o, (t.σ.own o).isSome = true → uL z ≠ ad o)
    (hQ : ∀ oL' D' s', At (hLed h₁) [P] D0 s0 k.L (("dues", .ref dU) :: wV k v lM) D' s' → Kp k.W D D' → LI prog w k { t with dn := dn' walk ws t.dn } ad oL' kL s0 D' →
      wpAny (model prog w) A (execs (lBody.drop 7) (lEnv k.L k.a k.cd)) Q E s') :
    wpAny (model prog w) A (execs (lBody.drop 6) (lEnv k.L k.a k.cd)) Q E s := by
  have hlen := hK.P.len.2
  have hvl : vM.length = walk.length := hW.length.symm
  refine wpAny_execs_cons (wpAny_For (r_nm F rfl (r_iter F hM fun it oi s2 hi1 hi2 F2 hit => ?_)))
  have hx2 : Ext0 D (D.put it oi) := .new hi1
  have hdn0 : dn' (walk.take 0) ws t.dn = t.dn := by funext z; simp [dn']
  have sameIt : ∀ {D1 D2 : Led}, Kp k.W D D1 → (∀ a, a ≠ it → D2 a = D1 a) → Kp k.W D D2 := fun kp hoff a o ha e => by
    have hne : a ≠ it := fun q => by rw [q, hi1] at e; cases e
    rw [hoff a hne]; exact kp a o ha e
  refine r_forC (vs := vM) (cy := k.L + 3) (fun i vars D' => vars = (((("dues" : Str), Value.ref dU) :: wV k v lM : Vars)) ∧ Kp k.W D D' ∧ ∃ oL', LI prog w k { t with dn := dn' (walk.take i) ws t.dn } ad oL' kL s0 D') F2 hit hi2 ?_ hR.hand ?_ ?_ (.inr (hK.new _ (by first | exact LK.m1 | exact LK.m2 | exact LK.m3 | exact LK.m4 | exact LK.m5 | exact LK.m6 | exact LK.m7 | exact LK.m8 | exact LK.m9))) ?_ ?_ ?_ rfl
  · exact ⟨rfl, Kp.ext hx2, oL, by rw [hdn0]; exact X.sub (SubI.ext hx2)⟩
  · rintro i vars D' ⟨_, kp, _⟩
    exact hM.mono fun o e => kp _ o hMW e
  · rintro i vars D' ⟨_, _, oL', X'⟩
    exact X'.x
  · rintro i vars D1 D2 hl hoff ⟨rfl, kp, oL', X'⟩
    exact ⟨rfl, sameIt kp hoff, oL', X'.sub (SubI.off hl hoff)⟩
  · rintro i vz vars D1 o s1 E' hv F1 hcx ht hit1 ⟨rfl, kp1, oL', X1⟩
    refine wpAny_gen fun Q' hQ' => ?_
    have X2 := X1.xset hK hcx
    have kp2 : Kp k.W D (D1.put (k.L + 3) o) := kp1.trans (Kp.put (by first | exact LK.m1 | exact LK.m2 | exact LK.m3 | exact LK.m4 | exact LK.m5 | exact LK.m6 | exact LK.m7 | exact LK.m8 | exact LK.m9))
    generalize D1.put (k.L + 3) o = D2 at F1 hcx hit1 X2 kp2
    clear X1 kp1 ht
    obtain ⟨z, hz, hzk⟩ := hW.getV hv
    have hzw := List.mem_of_getElem? hz
    have t2 : TSub D D2 := kp2.t X.noT
    have hzk2 := hzk.mono t2
    have hdU2 : DK prog w D2 dU xU := hdU.mono (fun o e => kp2 _ o hdUW e) t2
    obtain ⟨u1, u2, vs, u3, u4⟩ := huL z hzw
    have u3' : LV D2 (uL z) vs := u3.mono fun o e => kp2 _ o u2 e
    have c5 : CV D2 (k.L + 5) (some (.ref k.dD)) := X2.st.c5.mono fun o e => offW_le _ o e
    obtain ⟨xD, d1, d2⟩ := X2.dD
    have hks : ∀ y ∈ xD.map (·.1), y ∈ k.r.nms := fun y hy => X2.dnm y (by
      have := look_isSome.mpr hy
      rw [d2] at this
      simpa [shV] using this)
    refine wpAny_execs_cons (wpAny_Assign_Subscript (e_sub (r_nm F1 rfl (r_cell F1 rfl hcx (r_itemD F1 hdU2 hzk2 u1 (hR.u (by decide)) fun s3 F3 => ?_)))) rfl)
    refine r_cell F3 rfl c5 (r_cell F3 rfl hcx (r_setD F3 d1 hzk2 (.inr (hK.new _ (by first | exact LK.m1 | exact LK.m2 | exact LK.m3 | exact LK.m4 | exact LK.m5 | exact LK.m6 | exact LK.m7 | exact LK.m8 | exact LK.m9))) (by have := kvs_short d1 hks hlen; omega) (hR.u (by decide)) fun nn s4 F4 hDK4 => ?_))
    have X4 := X2.dset (n := nn) hK d1 d2 hzk2 (hwn z hzw) u3' u4 u2 (huN z hzw)
    have hdn : upd (dn' (walk.take i) ws t.dn) z (some (some (onceP (ws z)))) = dn' (walk.take (i + 1)) ws t.dn := by
      funext y
      rw [take_succ hz]
      by_cases e : y = z
      · rw [e, upd_same]; simp [dn']
      · rw [upd_other e]; simp [dn', e]
    have kp3 : Kp k.W D2 (D2.put k.dD (dctO ((putK xD z vz (.ref (uL z))).map (ent prog w)).toArray nn)) := Kp.put (by first | exact LK.m1 | exact LK.m2 | exact LK.m3 | exact LK.m4 | exact LK.m5 | exact LK.m6 | exact LK.m7 | exact LK.m8 | exact LK.m9)
    refine wpAny_execs_nil (hQ' _ _ ⟨.inl rfl, _, _, F4, hit1.put_other (hit1.neD d1), rfl, kp2.trans kp3, upd oL' z (uL z), ?_⟩)
    change LI prog w k { t with dn := upd (dn' (walk.take i) ws t.dn) z (some (some (onceP (ws z)))) } _ _ _ _ _ at X4
    rw [hdn] at X4
    exact X4
  · rintro vars D' s' F' ⟨rfl, kp, oL', X'⟩
    have htk : walk.take vM.length = walk := List.take_of_length_le (by omega)
    rw [htk] at X'
    exact hQ oL' D' s' F' kp X'
end
end Mine
end

section
open PySem PySem.W PyProof.Rows
set_option Elab.async false
set_option maxRecDepth 100000
namespace Mine
section
variable {prog : Program} {w : World} {D : Led} {s : Shared}
theorem readsAll_ints {h : Heap} : ∀ {is : List Int} {vs : List Value}, IntsL is vs → ReadsAll h vs (is.map PyData.int) []
  | [], [], _ => .nil
  | [], _ :: _, h => h.elim
  | _ :: _, [], h => h.elim
  | i :: is, v :: vs, h => by
    obtain ⟨⟨t, rfl⟩, h2⟩ := h
    exact .cons (as := []) (bs := []) (.int i t) (readsAll_ints h2)
theorem readsAll_keys (F : Fits D s) : ∀ {ks : List Key} {vs : List Value}, KeysL prog w D ks vs → ∃ as, ReadsAll s.heap vs (ks.map keyD) as
  | [], [], _ => ⟨[], .nil⟩
  | [], _ :: _, h => h.elim
  | _ :: _, [], h => h.elim
  | k :: ks, v :: vs, h => by
    obtain ⟨as, r⟩ := h.1.reads F
    obtain ⟨bs, r'⟩ := readsAll_keys F h.2
    exact ⟨as ++ bs, .cons r r'⟩
theorem reads_list (F : Fits D s) {l : Addr} {vs : List Value} {ds : List PyData} (h : LV D l vs) (r : ∃ as, ReadsAll s.heap vs ds as) : ∃ as, Reads s.heap (.ref l) (.list ds) as := by
  obtain ⟨n, e⟩ := h
  obtain ⟨as, r⟩ := r
  exact ⟨l :: as, .list (F _ _ e) rfl rfl (by simpa using r)⟩
theorem lay_ints : ∀ is : List Int, PyData.canLayAll0 (is.map PyData.int) = true
  | [] => by simp [PyData.canLayAll0]
  | i :: is => by simp [PyData.canLayAll0, PyData.canLay0, lay_ints is]
theorem lay_keys : ∀ ks : List Key, (∀ k ∈ ks, k.ok) → PyData.canLayAll0 (ks.map keyD) = true
  | [], _ => by simp [PyData.canLayAll0]
  | k :: ks, h => by
    have h1 : PyData.canLay0 (keyD k) = true := h k (by simp)
    simp [PyData.canLayAll0, h1, lay_keys ks fun z hz => h z (List.mem_cons_of_mem _ hz)]
theorem depth_ints : ∀ is : List Int, PyData.depthAll (is.map PyData.int) = 0
  | [] => by simp [PyData.depthAll]
  | i :: is => by simp [PyData.depthAll, PyData.depth, depth_ints is]
theorem depth_keys : ∀ ks : List Key, PyData.depthAll (ks.map keyD) ≤ 2
  | [] => by simp [PyData.depthAll]
  | k :: ks => by
    simp only [List.map_cons, PyData.depthAll]
    have := depth_key k
    have := depth_keys ks
    omega
variable {A : Around} {E : Value → Shared → Prop}
/-- two lists of the same data differ not -/
theorem list_ne {l l' : Addr} {vs vs' : List Value} {ds : List PyData} {Q : Value → Shared → Prop} (F : Fits D s) (h : LV D l vs) (h' : LV D l' vs') (r : ∃ as, ReadsAll s.heap vs ds as) (r' : ∃ as, ReadsAll s.heap vs' ds as) (hl : PyData.canLayAll0 ds = true)
    (hu : A.units + 20 < cLine) (hd : PyData.depthAll ds ≤ 10) (hq : Q (.bool false) s) : wpAny (model prog w) A (compareOp .NotEq (.ref l) (.ref l')) Q E s := by
  obtain ⟨as, q⟩ := reads_list F h r
  obtain ⟨bs, q'⟩ := reads_list F h' r'
  have hc : (PyData.list ds).canLay0 = true := by simpa [PyData.canLay0] using hl
  refine PySem.SeqAt.compareNe_reads q q' hc hc ?_ ?_
  · have : min (PyData.list ds).depth (PyData.list ds).depth ≤ (PyData.list ds).depth := Nat.min_le_left _ _
    have e : (PyData.list ds).depth = PyData.depthAll ds + 1 := by simp [PyData.depth]
    omega
  · rw [PySem.SeqAt.eqv_refl _ hc]; exact hq
theorem list_eqAt {l l' : Addr} {vs vs' : List Value} {ds : List PyData} (F : Fits D s) (h : LV D l vs) (h' : LV D l' vs') (r : ∃ as, ReadsAll s.heap vs ds as) (r' : ∃ as, ReadsAll s.heap vs' ds as) (hl : PyData.canLayAll0 ds = true)
    (hu : A.units + 20 < cLine) (hd : PyData.depthAll ds ≤ 10) : SeqAt.EqAt A s (.ref l) (.ref l') true := by
  obtain ⟨as, q⟩ := reads_list F h r
  obtain ⟨bs, q'⟩ := reads_list F h' r'
  have hc : (PyData.list ds).canLay0 = true := by simpa [PyData.canLay0] using hl
  have := PySem.SeqAt.eqAt_reads _ _ A s _ _ _ _ q q' hc hc (by
    have : min (PyData.list ds).depth (PyData.list ds).depth ≤ (PyData.list ds).depth := Nat.min_le_left _ _
    have e : (PyData.list ds).depth = PyData.depthAll ds + 1 := by simp [PyData.depth]
    omega)
  rw [PySem.SeqAt.eqv_refl _ hc] at this
  exact this
end
theorem look_mem {xs : KVs} (hn : (xs.map (·.1)).Nodup) {p : Key × Value × Value} (h : p ∈ xs) : look xs p.1 = some p.2.2 := by
  obtain ⟨j, hj, e⟩ := List.mem_iff_getElem.mp h
  have : xs[j]? = some (p.1, p.2) := by rw [List.getElem?_eq_getElem hj, e]
  exact look_at hn this
theorem nodup_len {α : Type} [DecidableEq α] {l u : List α} (hl : l.Nodup) (hu : u.Nodup) (h : ∀ x, x ∈ l ↔ x ∈ u) : l.length = u.length :=
  Nat.le_antisymm (nodup_sub_length hl fun x hx => (h x).mp hx) (nodup_sub_length hu fun x hx => (h x).mpr hx)
section
variable {prog : Program} {w : World} {h₁ : Heap} {mg mb : Str → Option Value} {k : LK} {D : Led} {t : LT} {ad oL kL : Key → Addr} {s0 : Shared} {P : Addr} {D0 : Led} {s : Shared} {A : Around} {E : Value → Shared → Prop}
/-- stack, numbers -/
theorem law_s7 (G : Glo h₁ mg mb) (hK : LKok k s0) (hR : Room A 40) {vars : Vars} {Q : Flow → Shared → Prop}
    (F : At (hLed h₁) [P] D0 s0 k.L vars D s) (X : LI prog w k t ad oL kL s0 D) (hvs : vars.lookup ("stack" : Str) = some (Value.ref k.lS)) (hvb : vars.lookup ("bottom" : Str) = some (Value.ref k.lBo)) (hvn : vars.lookup ("numbers" : Str) = some (Value.ref k.dN))
    (hst : t.σ.stk = []) (hN : ∀ x ∈ k.r.nms, t.σ.N x = if (t.dn x).isSome then maxI else 0)
    (hQ : ∀ D' s', At (hLed h₁) [P] D0 s0 k.L vars D' s' → Ext0 D D' →
      wpAny (model prog w) A (execs (lBody.drop 8) (lEnv k.L k.a k.cd)) Q E s') :
    wpAny (model prog w) A (execs (lBody.drop 7) (lEnv k.L k.a k.cd)) Q E s := by
  have hlen := hK.P.len.2
  obtain ⟨vS, hS1, hS2⟩ := X.T.S
  have hS2' : KeysL prog w D t.σ.stk vS := hS2
  rw [hst] at hS2'
  have hvS : vS = [] := by cases vS with
    | nil => rfl
    | cons a b => exact hS2'.elim
  subst hvS
  have hS1' : LV D k.lS k.vB := by have : LV D k.lS (k.vB ++ []) := hS1; rwa [List.append_nil] at this
  have hBo : LV D k.lBo k.vB := X.st.Bo.sub offW_le.sub
  have hBoK : KeysL prog w D (botK k.r.dep) k.vB := X.st.BoK.mono offW_le.t
  have hbok : ∀ z ∈ botK k.r.dep, z.ok := fun z hz => by
    unfold botK at hz
    obtain ⟨n, _, rfl⟩ := List.mem_map.mp hz
    show (keyD _).canLay0 = true
    have : PyData.strOk "under" = true := by decide +kernel
    simp [keyD, atomD, PyData.canLay0, PyData.canLayAll0, this]
  have c1 : CV D (k.L + 1) (some (.ref k.r.lN)) := X.st.c1.mono fun o e => offW_le _ o e
  have c5 : CV D (k.L + 5) (some (.ref k.dD)) := X.st.c5.mono fun o e => offW_le _ o e
  obtain ⟨xD, hD1, hD2⟩ := X.dD
  obtain ⟨xN, hN1, hN2, hN3⟩ := X.T.N
  replace hN2 : xN.map (·.1) = k.r.nms := hN2
  have hmD : (k.dD == sysModules) = false := F.notMods G (.inr (hK.new _ (by first | exact LK.m1 | exact LK.m2 | exact LK.m3 | exact LK.m4 | exact LK.m5 | exact LK.m6 | exact LK.m7 | exact LK.m8 | exact LK.m9)))
  have hmN : (k.dN == sysModules) = false := F.notMods G (.inr (hK.new _ (by first | exact LK.m1 | exact LK.m2 | exact LK.m3 | exact LK.m4 | exact LK.m5 | exact LK.m6 | exact LK.m7 | exact LK.m8 | exact LK.m9)))
  obtain ⟨tM, hM⟩ := G.maxint
  have hNl : LV D k.r.lN k.r.vN := X.st.O.N.sub offW_le.sub
  have hNk : KeysL prog w D k.r.nms k.r.vN := X.st.O.K.mono offW_le.t
  have hkl := hNk.length
  have hu20 : A.units + 20 < cLine := hR.u (by decide)
  refine wpAny_execs_cons (wpAny_If (isTrue_or (wpAny_isTrue_Compare1 (r_nm F hvs (r_nm F hvb (list_ne F.fits hS1' hBo (readsAll_keys F.fits hBoK) (readsAll_keys F.fits hBoK) (lay_keys _ hbok) hu20 (by have := depth_keys (botK k.r.dep); omega) (wpAny_truthy_bool ?_)))))))
  refine ite_f rfl ?_
  refine isTrue_or (wpAny_isTrue_Compare1 (r_nm F hvn (e_dcomp F (cl := [("done", k.L + 5)]) (n := k.r.vN.length) (P := fun i v _ => k.r.vN[i]? = some v)
    (fun i D xs => DI (k.r.nms.take i) (fun z v _ => ∃ t', v = .int (if (t.dn z).isSome then maxI else 0) t') False D xs) ?_ hR.hand (hR.u (by decide)) (by omega) (fun _ _ _ _ h x => x.mono fun k v q => q) rfl)))
  refine r_cell F rfl c1 ⟨D, s, F, iterGives_list F.fits hNl, .nil, ?_, ?_⟩
  · intro C i v xs vars' D' s' hi FC hv' hI hle E'
    obtain ⟨z, hz, hzv⟩ := hNk.getV hv'
    have hx := FC.tr.ext0
    have hzv' := hzv.mono hx.t
    refine wpAny_assign_Name (r_st FC fun s3 F3 => ?_)
    refine wpAny_pure ?_
    refine ite_t rfl ?_
    refine r_nm F3 rfl (IfExp_ (wpAny_isTrue_Compare1 (r_nm F3 rfl (r_cell F3 rfl (c5.mono fun o e => hx _ o e) (r_inD F3 (hD1.sub hx.sub) hzv' hmD (hR.u (by decide)) fun s4 F4 => wpAny_truthy_bool ?_)))))
    have hdk : decide (z ∈ xD.map (·.1)) = (t.dn z).isSome := congrFun (X.look_keys hD2) z
    rw [hdk]
    have fin : ∀ (v2 : Value) (s5 : Shared), (∃ t', v2 = .int (if (t.dn z).isSome then maxI else 0) t') → At (hLed h₁) [] D s C (Vars.put vars' "x" v) D' s5 → ∃ vars'' D'' k', At (hLed h₁) [] D s C vars'' D'' s5 ∧ Ext0 D' D'' ∧ KeyL prog w D'' k' v ∧ DI (k.r.nms.take (i + 1)) (fun z v _ => ∃ t', v = .int (if (t.dn z).isSome then maxI else 0) t') False D'' (putK xs k' v v2) := fun v2 s5 hv2 F5 => by
      refine ⟨_, D', z, F5, .refl _, hzv', ?_⟩
      rw [take_succ hz]
      exact hI.snoc (mem_take_nodup hK.P.nd hz) hv2 fun q => q.elim
    cases hs : (t.dn z).isSome with
    | true =>
      refine ite_t rfl ?_
      exact r_glob F4 G hM (fin _ _ ⟨tM, by rw [hs]; rfl⟩ F4)
    | false =>
      refine ite_f rfl ?_
      exact wpAny_Constant_int (fin _ _ ⟨_, by rw [hs]; rfl⟩ (F4.toks _))
  · intro dN2 xN2 D' s' F' hx hn1 hn2 hDK hI hle
    have ht : k.r.nms.take k.r.vN.length = k.r.nms := List.take_of_length_le (by omega)
    rw [ht] at hI
    have hmN2 : (dN2 == sysModules) = false := F'.notMods G (.inr hn2)
    have hl2 : xN.length = xN2.length := by
      have e1 := congrArg List.length hN2
      have e2 := congrArg List.length hI.keys
      rw [List.length_map] at e1 e2; omega
    refine dict_ne F'.fits hmN hmN2 (hN1.sub hx.sub) hDK (hR.u (by decide)) hl2 (fun p hp => ?_) (wpAny_truthy_bool ?_)
    · have hpk : p.1 ∈ k.r.nms := hN2 ▸ List.mem_map.mpr ⟨p, hp, rfl⟩
      have e1 := look_mem hN1.nodup hp
      obtain ⟨t1, e2⟩ := hN3 p.1 hpk
      rw [e1] at e2; injection e2 with e2
      obtain ⟨y, e3, t2, rfl⟩ := hI.vals p.1 hpk
      refine ⟨_, e3, ?_⟩
      rw [e2, hN p.1 hpk]
      have := PySem.SeqAt.EqAt.int_int (A := A.in1) (s := s') (if (t.dn p.1).isSome then maxI else 0) t1 (if (t.dn p.1).isSome then maxI else 0) t2
      rwa [beq_self_eq_true] at this
    · refine ite_f rfl ?_
      refine isTrue_or_nil ?_
      refine ite_f rfl ?_
      exact wpAny_execs_nil (hQ D' s' F' hx)
end
end Mine
end

section
open PySem PySem.W PyProof.Rows
set_option Elab.async false
set_option maxRecDepth 100000
namespace Mine
abbrev LT.ls (t : LT) : LS Key := ⟨t.σ, t.dn, t.Kn⟩
def oftenF (k : LK) (dn : ShF) (x : Key) : Int := if ((dn x).isSome && !(k.r.sh x).isSome) = true then 1 else 0
section
variable {prog : Program} {w : World} {h₁ : Heap} {mg mb : Str → Option Value} {k : LK} {D : Led} {t : LT} {ad oL kL : Key → Addr} {s0 : Shared} {P : Addr} {D0 : Led} {s : Shared} {A : Around} {E : Value → Shared → Prop}
/-- told -/
theorem law_s8 (G : Glo h₁ mg mb) (hK : LKok k s0) (hR : Room A 40) {vars : Vars} {Q : Flow → Shared → Prop}
    (F : At (hLed h₁) [P] D0 s0 k.L vars D s) (X : LI prog w k t ad oL kL s0 D) (hJ : J k.lc t.ls)
    (hQ : ∀ D' s', At (hLed h₁) [P] D0 s0 k.L vars D' s' → Ext0 D D' →
      wpAny (model prog w) A (execs (lBody.drop 9) (lEnv k.L k.a k.cd)) Q E s') :
    wpAny (model prog w) A (execs (lBody.drop 8) (lEnv k.L k.a k.cd)) Q E s := by
  have hlen := hK.P.len.2
  have c4 : CV D (k.L + 4) (some (.ref k.dT)) := X.st.c4.mono fun o e => offW_le _ o e
  have c5 : CV D (k.L + 5) (some (.ref k.dD)) := X.st.c5.mono fun o e => offW_le _ o e
  obtain ⟨xD, hD1, hD2⟩ := X.dD
  obtain ⟨xT, hT1, hT2, hT3⟩ := X.T.F
  replace hT2 : ∀ z ∈ xT.map (·.1), z ∈ k.r.nms := hT2
  have hmD : (k.dD == sysModules) = false := F.notMods G (.inr (hK.new _ (by first | exact LK.m1 | exact LK.m2 | exact LK.m3 | exact LK.m4 | exact LK.m5 | exact LK.m6 | exact LK.m7 | exact LK.m8 | exact LK.m9)))
  have hmT : (k.dT == sysModules) = false := F.notMods G (.inr (hK.new _ (by first | exact LK.m1 | exact LK.m2 | exact LK.m3 | exact LK.m4 | exact LK.m5 | exact LK.m6 | exact LK.m7 | exact LK.m8 | exact LK.m9)))
  have hks : ∀ y ∈ xD.map (·.1), y ∈ k.r.nms := fun y hy => X.dnm y (by
    have := look_isSome.mpr hy
    rw [hD2] at this
    simpa [shV] using this)
  have hxl := kvs_short hD1 hks hlen
  have hu20 : A.units + 20 < cLine := hR.u (by decide)
  refine wpAny_execs_cons (wpAny_If (wpAny_isTrue_Compare1 (r_cell F rfl c4 (e_dcomp F (cl := [("done", k.L + 5)]) (n := xD.length) (P := fun i v _ => ∃ p, xD[i]? = some p ∧ v = p.2.1)
    (fun i D xs => DI (((xD.map fun (y : Key × Value × Value) => y.1).take i).filter (isL t.dn)) (DoneR t.dn oL) False D xs) ?_ hR.hand (hR.u (by decide)) (by omega)
    (fun _ Da Db _ h x => DI.mono (R := DoneR t.dn oL) (D := Da) (D' := Db) x fun k v q => q) rfl))))
  refine r_cell F rfl c5 ⟨D, s, F, iterGives_dict F.fits hD1 hmD, .nil, ?_, ?_⟩
  · rintro C i v xs vars' D' s' hi FC ⟨p, hp, rfl⟩ hI hle E'
    have hx := FC.tr.ext0
    have hpm := List.mem_of_getElem? hp
    have hkv : KeyL prog w D' p.1 p.2.1 := (hD1.keys p hpm).mono hx.t
    have hkey : (xD.map (·.1))[i]? = some p.1 := by rw [List.getElem?_map, hp]; rfl
    have hlook : look xD p.1 = shV t.dn oL p.1 := hD2 p.1
    have hfil := filter_take_succ (p := isL t.dn) hkey
    have c5' := c5.mono fun o e => hx _ o e
    refine wpAny_assign_Name (r_st FC fun s3 F3 => ?_)
    cases hsh : t.dn p.1 with
    | none =>
      have : p.1 ∈ xD.map (·.1) := List.mem_map.mpr ⟨p, hpm, rfl⟩
      have := look_isSome.mpr this
      rw [hlook] at this
      simp [shV, hsh] at this
    | some o =>
      cases o with
      | none =>
        have hl2 : look xD p.1 = some .none := by rw [hlook]; simp [shV, hsh]
        have hno : isL t.dn p.1 = false := by unfold isL; rw [hsh]
        rw [hno] at hfil
        refine ifs_one (wpAny_isTrue_Compare1 (e_sub (r_cell F3 rfl c5' (r_nm F3 rfl (r_itemD F3 (hD1.sub hx.sub) hkv hl2 (hR.u (by decide)) fun s4 F4 => wpAny_Constant_none (isnot_none_none (wpAny_truthy_bool ?_)))))))
        simp only [Bool.false_eq_true, if_false]
        refine ⟨_, D', F4, .refl _, ?_⟩
        rw [hfil]; simpa using hI
      | some l =>
        have hl2 : look xD p.1 = some (.ref (oL p.1)) := by rw [hlook]; simp [shV, hsh]
        have hyes : isL t.dn p.1 = true := by unfold isL; rw [hsh]
        rw [hyes] at hfil
        refine ifs_one (wpAny_isTrue_Compare1 (e_sub (r_cell F3 rfl c5' (r_nm F3 rfl (r_itemD F3 (hD1.sub hx.sub) hkv hl2 (hR.u (by decide)) fun s4 F4 => wpAny_Constant_none (isnot_ref_none (wpAny_truthy_bool ?_)))))))
        simp only [if_true]
        refine r_nm F4 rfl (e_sub (r_cell F4 rfl c5' (r_nm F4 rfl (r_itemD F4 (hD1.sub hx.sub) hkv hl2 (hR.u (by decide)) fun s5 F5 => ?_))))
        refine ⟨_, D', p.1, F5, .refl _, hkv, ?_⟩
        rw [hfil]
        simp only [if_true]
        exact hI.snoc (fun hmem => mem_take_nodup hD1.nodup hkey (List.mem_filter.mp hmem).1) (show shV t.dn oL p.1 = some _ by rw [← hlook, hl2]) fun q => q.elim
  · intro dT2 xT2 D' s' F' hx hn1 hn2 hDK hI hle
    have ht : (xD.map (·.1)).take xD.length = xD.map (·.1) := List.take_of_length_le (by rw [List.length_map]; omega)
    rw [ht] at hI
    have hm2 : (dT2 == sysModules) = false := F'.notMods G (.inr hn2)
    -- the keys
    have hown : ∀ z ∈ k.r.nms, (t.σ.own z).isSome = true → ∃ l, t.dn z = some (some l) := fun z hz ho => by
      cases e : t.dn z with
      | none => have := (hJ.wh z hz e).2; rw [show t.σ.own z = none from this] at ho; cases ho
      | some o =>
        cases o with
        | none => have := hJ.no z hz e; rw [show t.σ.own z = none from this] at ho; cases ho
        | some l => exact ⟨l, rfl⟩
    have hmem : ∀ z, z ∈ xT.map (·.1) ↔ z ∈ (xD.map (·.1)).filter (isL t.dn) := fun z => by
      rw [List.mem_filter]
      constructor
      · intro hz
        have h1 := look_isSome.mpr hz
        rw [hT3, Option.isSome_map] at h1
        obtain ⟨l, hl⟩ := hown z (hT2 z hz) h1
        exact ⟨look_isSome.mp (by rw [hD2]; simp [shV, hl]), isL_iff.mpr ⟨l, hl⟩⟩
      · rintro ⟨hz, hl⟩
        obtain ⟨l, hl⟩ := isL_iff.mp hl
        obtain ⟨_, o, _, e, _⟩ := hJ.li z (hks z hz) l hl
        refine look_isSome.mp ?_
        rw [hT3, show t.σ.own z = some o from e]; rfl
    have hl2 : xT.length = xT2.length := by
      have e1 := nodup_len hT1.nodup (hD1.nodup.filter (isL t.dn)) hmem
      have e2 := congrArg List.length hI.keys
      rw [List.length_map] at e1 e2; omega
    refine dict_ne F'.fits hmT hm2 (hT1.sub hx.sub) hDK (hR.u (by decide)) hl2 (fun p hp => ?_) (wpAny_truthy_bool ?_)
    · have hpk : p.1 ∈ xT.map (·.1) := List.mem_map.mpr ⟨p, hp, rfl⟩
      have e1 := look_mem hT1.nodup hp
      have hpf := (hmem p.1).mp hpk
      obtain ⟨l, hl⟩ := isL_iff.mp (List.mem_filter.mp hpf).2
      obtain ⟨_, o, ho1, ho2, ho3, ho4, _⟩ := hJ.li p.1 (hT2 p.1 hpk) l hl
      rw [hT3, show t.σ.own p.1 = some o from ho2] at e1
      injection e1 with e1
      obtain ⟨y, e3, e4⟩ := hI.vals p.1 hpf
      have e5 : some y = some (Value.ref (oL p.1)) := by rw [← e4]; simp [shV, hl]
      injection e5 with e5
      subst e5
      refine ⟨_, e3, ?_⟩
      rw [← e1]
      obtain ⟨_, vs, q1, q2⟩ := X.T.C o (by rw [show t.σ.own o = some o from ho3]; rfl)
      rw [show t.σ.C o = l from ho4] at q2
      obtain ⟨ws, r1, r2⟩ := X.st.Dl p.1 l hl
      exact list_eqAt F'.fits (q1.sub hx.sub) ((r1.sub offW_le.sub).sub hx.sub) ⟨_, readsAll_ints q2⟩ ⟨_, readsAll_ints r2⟩ (lay_ints l) (by have := hR.units; show A.units + 1 + 20 < 9900; omega) (by rw [depth_ints]; omega)
    · refine ite_f rfl ?_
      exact wpAny_execs_nil (hQ D' s' F' hx)
/-- often = .. -/
theorem law_s9 (G : Glo h₁ mg mb) (hK : LKok k s0) (hR : Room A 40) {vars : Vars} {Q : Flow → Shared → Prop}
    (F : At (hLed h₁) [P] D0 s0 k.L vars D s) (X : LI prog w k t ad oL kL s0 D)
    (hQ : ∀ lO vO D' s', At (hLed h₁) [P] D0 s0 k.L (vars.put "often" (.ref lO)) D' s' → Ext0 D D' → LV D' lO vO → IntsL (k.r.nms.map (oftenF k t.dn)) vO →
      wpAny (model prog w) A (execs (lBody.drop 10) (lEnv k.L k.a k.cd)) Q E s') :
    wpAny (model prog w) A (execs (lBody.drop 9) (lEnv k.L k.a k.cd)) Q E s := by
  have hlen := hK.P.len.2
  have c1 : CV D (k.L + 1) (some (.ref k.r.lN)) := X.st.c1.mono fun o e => offW_le _ o e
  have c2 : CV D (k.L + 2) (some (.ref k.r.dS)) := X.st.c2.mono fun o e => offW_le _ o e
  have c5 : CV D (k.L + 5) (some (.ref k.dD)) := X.st.c5.mono fun o e => offW_le _ o e
  obtain ⟨xD, hD1, hD2⟩ := X.dD
  have hmD : (k.dD == sysModules) = false := F.notMods G (.inr (hK.new _ (by first | exact LK.m1 | exact LK.m2 | exact LK.m3 | exact LK.m4 | exact LK.m5 | exact LK.m6 | exact LK.m7 | exact LK.m8 | exact LK.m9)))
  have hNl : LV D k.r.lN k.r.vN := X.st.O.N.sub offW_le.sub
  have hNk : KeysL prog w D k.r.nms k.r.vN := X.st.O.K.mono offW_le.t
  have hkl := hNk.length
  have hSS : DS prog w k.r.sh k.r.sL k.r.dS D := X.st.O.S.sub offW_le.sub
  obtain ⟨xS, hS1, hS2⟩ := hSS.dict
  refine wpAny_execs_cons (x_lcomp F (cl := [("shut", k.L + 2), ("done", k.L + 5)]) (n := k.r.vN.length) (P := fun i v _ => k.r.vN[i]? = some v) (fun i _ ws => IntsL ((k.r.nms.take i).map (oftenF k t.dn)) ws) ?_ hR.hand (by omega) (fun _ _ _ _ _ x => x) rfl rfl rfl rfl)
  refine r_cell F rfl c1 ⟨D, s, F, iterGives_list F.fits hNl, trivial, ?_, ?_⟩
  · intro C i v ws vars' D' s' hi FC hv' hI hle E'
    obtain ⟨z, hz, hzv⟩ := hNk.getV hv'
    have hx := FC.tr.ext0
    have hzv' := hzv.mono hx.t
    have hdk : decide (z ∈ xD.map (·.1)) = (t.dn z).isSome := congrFun (X.look_keys hD2) z
    have hsk : decide (z ∈ xS.map (·.1)) = (k.r.sh z).isSome := by rw [Bool.eq_iff_iff, decide_eq_true_iff]; exact sh_mem hS2 z
    have c5' := c5.mono fun o e => hx _ o e
    have c2' := c2.mono fun o e => hx _ o e
    have hfin : ∀ (n : Int) t', oftenF k t.dn z = n → IntsL ((k.r.nms.take (i + 1)).map (oftenF k t.dn)) (ws ++ [.int n t']) := fun n t' e => by
      rw [take_succ hz, List.map_append]
      exact hI.append ⟨⟨t', by rw [e]⟩, trivial⟩
    refine wpAny_assign_Name (r_st FC fun s3 F3 => ?_)
    refine wpAny_pure ?_
    refine ite_t rfl ?_
    refine IfExp_ (isTrue_and (wpAny_isTrue_Compare1 (r_nm F3 rfl (r_cell F3 rfl c5' (r_inD F3 (hD1.sub hx.sub) hzv' hmD (hR.u (by decide)) fun s4 F4 => wpAny_truthy_bool ?_)))))
    rw [hdk]
    cases hd : (t.dn z).isSome with
    | false =>
      refine ite_f rfl ?_
      exact wpAny_Constant_int ⟨_, D', F4.toks _, .refl _, hfin 0 _ (by simp [oftenF, hd])⟩
    | true =>
      refine ite_t rfl ?_
      refine isTrue_and (wpAny_isTrue_Compare1 (r_nm F4 rfl (r_cell F4 rfl c2' (r_notInD F4 (hS1.sub hx.sub) hzv' hK.mS (hR.u (by decide)) fun s5 F5 => wpAny_truthy_bool ?_))))
      rw [hsk]
      cases hs : (k.r.sh z).isSome with
      | true =>
        refine ite_f (by simp only [Bool.not_true]) ?_
        exact wpAny_Constant_int ⟨_, D', F5.toks _, .refl _, hfin 0 _ (by simp [oftenF, hs])⟩
      | false =>
        refine ite_t (by simp only [Bool.not_false]) ?_
        refine isTrue_and_nil ?_
        refine ite_t rfl ?_
        exact wpAny_Constant_int ⟨_, D', F5.toks _, .refl _, hfin 1 _ (by simp [oftenF, hd, hs])⟩
  · intro lO vO D' s' F' hx hn1 hn2 hLv hI hle
    have ht : k.r.nms.take k.r.vN.length = k.r.nms := List.take_of_length_le (by omega)
    rw [ht] at hI
    exact hQ lO vO D' s' F' hx hLv hI
theorem count_nodup {α : Type} [DecidableEq α] {l : List α} (h : l.Nodup) (x : α) : l.count x = if x ∈ l then 1 else 0 := by
  by_cases e : x ∈ l
  · rw [if_pos e]
    have h1 := List.one_le_count_iff.mpr e
    have h2 := List.nodup_iff_count.mp h x
    omega
  · rw [if_neg e]; exact List.count_eq_zero.mpr e
/-- begun, asked -/
theorem law_s10 (G : Glo h₁ mg mb) (hK : LKok k s0) (hR : Room A 40) {vars : Vars} {Q : Flow → Shared → Prop} {lO : Addr} {vO : List Value}
    (F : At (hLed h₁) [P] D0 s0 k.L vars D s) (X : LI prog w k t ad oL kL s0 D) (hJ : J k.lc t.ls) (hvo : vars.lookup ("often" : Str) = some (Value.ref lO)) (hO : LV D lO vO) (hOi : IntsL (k.r.nms.map (oftenF k t.dn)) vO)
    (hQ : ∀ D' s', At (hLed h₁) [P] D0 s0 k.L vars D' s' → Ext0 D D' → Q .next s') :
    wpAny (model prog w) A (execs (lBody.drop 10) (lEnv k.L k.a k.cd)) Q E s := by
  have hlen := hK.P.len.2
  have c1 : CV D (k.L + 1) (some (.ref k.r.lN)) := X.st.c1.mono fun o e => offW_le _ o e
  have cA : CV D (k.L + 8) (some (.ref k.lA)) := X.st.X.cA.mono fun o e => offW_le _ o e
  have cB : CV D (k.L + 9) (some (.ref k.lB)) := X.st.X.cB.mono fun o e => offW_le _ o e
  have hNl : LV D k.r.lN k.r.vN := X.st.O.N.sub offW_le.sub
  have hNk : KeysL prog w D k.r.nms k.r.vN := X.st.O.K.mono offW_le.t
  have hkl := hNk.length
  have hu20 : A.units + 20 < cLine := hR.u (by decide)
  obtain ⟨vB, hB1, hB2⟩ := X.T.bg
  obtain ⟨vA, hA1, hA2⟩ := X.T.ak
  replace hB1 : LV D k.lB vB := hB1
  replace hA1 : LV D k.lA vA := hA1
  have hBn : ∀ z ∈ t.σ.bg, z ∈ k.r.nms := fun z hz => ((hJ.bgm z).mp hz).1
  have hAn : ∀ z ∈ t.σ.ak, z ∈ k.r.nms := fun z hz => ((hJ.akm z).mp hz).1
  have eB : k.r.nms.map (fun x => ((t.σ.bg.count x : Nat) : Int)) = k.r.nms.map (oftenF k t.dn) := List.map_congr_left fun x hx => by
    rw [count_nodup (show t.σ.bg.Nodup from hJ.bgn)]
    have hm := hJ.bgm x
    unfold oftenF
    by_cases e : x ∈ t.σ.bg
    · obtain ⟨_, q1, q2⟩ := hm.mp e
      have q1' : (t.dn x).isSome = true := q1
      have q2' : (k.r.sh x).isSome = false := q2
      simp [e, q1', q2']
    · have : ¬ ((t.dn x).isSome && !(k.r.sh x).isSome) = true := fun q => e (hm.mpr ⟨hx, by
        rw [Bool.and_eq_true] at q
        exact ⟨q.1, by simpa using q.2⟩⟩)
      rw [if_neg e, if_neg this]; rfl
  have eA : k.r.nms.map (fun x => ((t.σ.ak.count x : Nat) : Int)) = k.r.nms.map (oftenF k t.dn) := List.map_congr_left fun x hx => by
    rw [count_nodup (show t.σ.ak.Nodup from hJ.akn)]
    have hm := hJ.akm x
    unfold oftenF
    by_cases e : x ∈ t.σ.ak
    · obtain ⟨_, q1, q2⟩ := hm.mp e
      have q1' : (t.dn x).isSome = true := q1
      have q2' : (k.r.sh x).isSome = false := q2
      simp [e, q1', q2']
    · have : ¬ ((t.dn x).isSome && !(k.r.sh x).isSome) = true := fun q => e (hm.mpr ⟨hx, by
        rw [Bool.and_eq_true] at q
        exact ⟨q.1, by simpa using q.2⟩⟩)
      rw [if_neg e, if_neg this]; rfl
  have ht : k.r.nms.take k.r.vN.length = k.r.nms := List.take_of_length_le (by omega)
  refine wpAny_execs_cons (wpAny_If (isTrue_or (wpAny_isTrue_Compare1 (e_lcomp F (cl := [("begun", k.L + 9)]) (n := k.r.vN.length) (P := fun i v _ => k.r.vN[i]? = some v) (fun i _ ws => IntsL ((k.r.nms.take i).map fun x => ((t.σ.bg.count x : Nat) : Int)) ws) ?_ hR.hand (by omega) (fun _ _ _ _ _ x => x) rfl))))
  refine r_cell F rfl c1 ⟨D, s, F, iterGives_list F.fits hNl, trivial, ?_, ?_⟩
  · intro C i v ws vars' D' s' hi FC hv' hI hle E'
    obtain ⟨z, hz, hzv⟩ := hNk.getV hv'
    have hx := FC.tr.ext0
    refine wpAny_assign_Name (r_st FC fun s3 F3 => ?_)
    refine wpAny_pure ?_
    simp only [if_true]
    have hB1' := hB1.sub hx.sub
    refine e_meth1 PySem.F.plainAttrs_list PySem.F.slot_list_count PySem.F.type_list_count (r_cell F3 rfl (cB.mono fun o e => hx _ o e) ⟨lv_type F3 hB1', lv_noDict F3 hB1', r_nm F3 rfl (r_countKeys F3 hB1' (hB2.mono hx.t) (hzv.mono hx.t) (fun q hq => hK.P.ok q (hBn q hq)) (hK.P.ok z (List.mem_of_getElem? hz)) (hR.u (by decide)) fun t' s4 F4 => ?_)⟩)
    refine ⟨_, D', F4, .refl _, ?_⟩
    rw [take_succ hz, List.map_append]
    exact hI.append ⟨⟨t', rfl⟩, trivial⟩
  · intro l1 v1 D1 s1 F1 hx1 hn1 hn2 hLv hI hle
    rw [ht, eB] at hI
    refine r_nm F1 hvo (list_ne F1.fits hLv (hO.sub hx1.sub) ⟨_, readsAll_ints hI⟩ ⟨_, readsAll_ints hOi⟩ (lay_ints _) hu20 (by rw [depth_ints]; omega) (wpAny_truthy_bool ?_))
    refine ite_f rfl ?_
    refine isTrue_or (wpAny_isTrue_Compare1 (e_lcomp F1 (cl := [("asked", k.L + 8)]) (n := k.r.vN.length) (P := fun i v _ => k.r.vN[i]? = some v) (fun i _ ws => IntsL ((k.r.nms.take i).map fun x => ((t.σ.ak.count x : Nat) : Int)) ws) ?_ hR.hand (by omega) (fun _ _ _ _ _ x => x) rfl))
    refine r_cell F1 rfl (c1.mono fun o e => hx1 _ o e) ⟨D1, s1, F1, iterGives_list F1.fits (hNl.sub hx1.sub), trivial, ?_, ?_⟩
    · intro C i v ws vars' D' s' hi FC hv' hI hle E'
      obtain ⟨z, hz, hzv⟩ := hNk.getV hv'
      have hx := hx1.trans FC.tr.ext0
      refine wpAny_assign_Name (r_st FC fun s3 F3 => ?_)
      refine wpAny_pure ?_
      simp only [if_true]
      have hA1' := hA1.sub hx.sub
      refine e_meth1 PySem.F.plainAttrs_list PySem.F.slot_list_count PySem.F.type_list_count (r_cell F3 rfl (cA.mono fun o e => hx _ o e) ⟨lv_type F3 hA1', lv_noDict F3 hA1', r_nm F3 rfl (r_countKeys F3 hA1' (hA2.mono hx.t) (hzv.mono hx.t) (fun q hq => hK.P.ok q (hAn q hq)) (hK.P.ok z (List.mem_of_getElem? hz)) (hR.u (by decide)) fun t' s4 F4 => ?_)⟩)
      refine ⟨_, D', F4, .refl _, ?_⟩
      rw [take_succ hz, List.map_append]
      exact hI.append ⟨⟨t', rfl⟩, trivial⟩
    · intro l2 v2 D2 s2 F2 hx2 hm1 hm2 hLv2 hI2 hle2
      rw [ht, eA] at hI2
      refine r_nm F2 hvo (list_ne F2.fits hLv2 (hO.sub (hx1.trans hx2).sub) ⟨_, readsAll_ints hI2⟩ ⟨_, readsAll_ints hOi⟩ (lay_ints _) hu20 (by rw [depth_ints]; omega) (wpAny_truthy_bool ?_))
      refine ite_f rfl ?_
      refine isTrue_or_nil ?_
      refine ite_f rfl ?_
      exact wpAny_execs_nil (wpAny_execs_nil (hQ D2 s2 F2 (hx1.trans hx2)))
end
end Mine
end

section
open PySem PySem.W PyProof.Rows
set_option Elab.async false
set_option maxRecDepth 100000
namespace Mine
section
variable {prog : Program} {w : World} {h₁ : Heap} {mg mb : Str → Option Value} {k : LK} {D : Led} {ad oL kL : Key → Addr} {s0 : Shared} {P : Addr} {D0 : Led} {s : Shared} {A : Around} {E : Value → Shared → Prop}
theorem law_turn (G : Glo h₁ mg mb) (hK : LKok k s0) (hR : Room A 40) {t : LS Key} {v : Value} {x : Key} {Q : Flow → Shared → Prop}
    (F : At (hLed h₁) [P] D0 s0 k.L (("start", v) :: lV k) D s) (X : LI prog w k (.of t) ad oL kL s0 D) (hJ : J k.lc t) (hx : KeyL prog w D x v) (hxm : x ∈ k.r.nms) (hd : t.dn x = none)
    (hQ : ∀ vars t' ad' oL' kL' D' s', At (hLed h₁) [P] D0 s0 k.L vars D' s' → (∀ p ∈ lV k, p ∈ vars) → Kp k.W D D' → LI prog w k (.of t') ad' oL' kL' s0 D' → J k.lc t' → Q .next s') :
    wpAny (model prog w) A (execs (lBody.drop 1) (lEnv k.L k.a k.cd)) Q E s := by
  obtain ⟨σ', walk, rch, ws, e1, e2, e3, e4, e5, e6, e7, e8, e9, hJ'⟩ := law_step (LC_ok hK.P hK.bot) hJ hxm hd
  have hwn : ∀ x ∈ walk, x ∈ k.r.nms := fun x hx => (e4 x hx).1
  have hwd : ∀ z, (t.dn z).isSome = true → z ∉ walk := fun z h q => by rw [(e4 z q).2.1] at h; cases h
  refine law_s1 G hK hR F X hx hxm e1 fun ad1 D2 s2 F2 X2 kp2 => ?_
  refine law_s2 G hK hR F2 X2 (hx.mono (kp2.t X.noT)) hxm e2 fun lM vM D3 s3 F3 x3 hM3 hW3 nM sM => ?_
  have X3 := X2.sub (SubI.ext x3)
  have hMW : lM ∉ k.W := X2.wt.new nM
  refine law_s3 G hK hR F3 X3 hM3 hW3 e3 hwn e5 fun dR xR rL D4 s4 F4 kp4 X4 h7 hdR hdRW hrL hrn => ?_
  have X4' := X4.knc (Kn2 := Kn' walk rch t.Kn) fun z hz => if_neg (hwd z hz)
  have hM4 : LV D4 lM vM := hM3.mono fun o e => kp4 _ o hMW e
  have hW4 := hW3.mono (kp4.t X3.noT)
  refine law_s4 hK hR F4 X4' hM4 hMW hW4 e3 hwn h7 hdR hdRW hrL hrn (fun z hz => if_pos hz) fun kL5 D5 s5 F5 kp5 X5 => ?_
  have hM5 : LV D5 lM vM := hM4.mono fun o e => kp5 _ o hMW e
  have hW5 := hW4.mono (kp5.t X4.noT)
  have hsok : SOk (k.sc walk (Kn' walk rch t.Kn) kL5 t.dn oL) := by
    refine ⟨hK.P.ok, hwn, fun x hx y hy => ?_, fun x hx => ?_, fun x hx y hy hd => (e4 x hx).2.2 y hy hd, fun z l hz => ?_⟩
    · have hx' : x ∈ walk := hx
      have hy' : y ∈ Kn' walk rch t.Kn x := hy
      rw [show Kn' walk rch t.Kn x = knot walk rch x from if_pos hx'] at hy'
      exact e7 x hx' y hy'
    · have hx' : x ∈ walk := hx
      show Kn' walk rch t.Kn x ≠ []
      rw [show Kn' walk rch t.Kn x = knot walk rch x from if_pos hx']
      exact e6 x hx'
    · have hz' : t.dn z = some (some l) := hz
      have := (hJ.li z (X.dnm z (by show (t.dn z).isSome = true; rw [hz']; rfl)) l hz').1.len
      omega
  refine law_s5 G hK hR F5 X5 hM5 hW5 e3 hwn (fun z hz => by show (decide (z ∈ walk) || _) = true; rw [decide_eq_true hz]; rfl) hsok e8 e9 fun dU xU uL D6 s6 F6 x6 hdU nU huL => ?_
  have X6 := X5.sub (SubI.ext x6)
  refine law_s6 hK hR F6 X6 (hM5.sub x6.sub) hMW (hW5.mono x6.t) e3 hwn hdU (X5.wt.new nU) (fun z hz => ⟨(huL z hz).1, X5.wt.new (huL z hz).2.1, (huL z hz).2.2⟩) (fun z hz o ho => by obtain ⟨_, vs, q, _⟩ := X5.T.C o ho; exact ne_new (huL z hz).2.1 q.some) fun oL7 D7 s7 F7 kp7 X7 => ?_
  refine law_s7 G hK hR F7 X7 rfl rfl rfl hJ'.stk (fun z hz => ?_) fun D8 s8 F8 x8 => ?_
  · cases e : dn' walk ws t.dn z with
    | none =>
      have := (hJ'.wh z hz e).1
      show σ'.N z = if (dn' walk ws t.dn z).isSome then maxI else 0
      rw [e]; exact this
    | some o =>
      have := hJ'.nn z hz (by show (dn' walk ws t.dn z).isSome = true; rw [e]; rfl)
      show σ'.N z = if (dn' walk ws t.dn z).isSome then maxI else 0
      rw [e]; exact this
  have X8 := X7.sub (SubI.ext x8)
  refine law_s8 G hK hR F8 X8 hJ' fun D9 s9 F9 x9 => ?_
  have X9 := X8.sub (SubI.ext x9)
  refine law_s9 G hK hR F9 X9 fun lO vO D10 s10 F10 x10 hO hOi => ?_
  have X10 := X9.sub (SubI.ext x10)
  refine law_s10 G hK hR F10 X10 hJ' rfl hO hOi fun D11 s11 F11 x11 => ?_
  have X11 := X10.sub (SubI.ext x11)
  have hkd : (fun z => decide (z ∈ walk) || (t.dn z).isSome) = fun z => (dn' walk ws t.dn z).isSome := by
    funext z
    by_cases e : z ∈ walk
    · rw [decide_eq_true e, show dn' walk ws t.dn z = some (some (onceP (ws z))) from if_pos e]; rfl
    · rw [decide_eq_false e, show dn' walk ws t.dn z = t.dn z from if_neg e]; rfl
  change LI prog w k ⟨σ', dn' walk ws t.dn, fun z => decide (z ∈ walk) || (t.dn z).isSome, Kn' walk rch t.Kn⟩ ad1 oL7 kL5 s0 D11 at X11
  rw [hkd] at X11
  refine hQ _ ⟨σ', dn' walk ws t.dn, Kn' walk rch t.Kn⟩ ad1 oL7 kL5 D11 s11 F11 (fun p hp => ?_) ?_ X11 hJ'
  · refine mem_put ?_ (all_ne (l := lV k) rfl p hp)
    exact List.mem_cons_of_mem _ (List.mem_cons_of_mem _ (List.mem_cons_of_mem _ hp))
  · exact ((((((((kp2.trans (Kp.ext x3)).trans kp4).trans kp5).trans (Kp.ext x6)).trans kp7).trans (Kp.ext x8)).trans (Kp.ext x9)).trans (Kp.ext x10)).trans (Kp.ext x11)
/-- for start in starts: .. -/
theorem law_loop (G : Glo h₁ mg mb) (hK : LKok k s0) (hR : Room A 40) {t : LS Key} {Q : Flow → Shared → Prop}
    (F : At (hLed h₁) [P] D0 s0 k.L (lV k) D s) (X : LI prog w k (.of t) ad oL kL s0 D) (hJ : J k.lc t)
    (hQ : ∀ t' ad' oL' kL' D' s', At (hLed h₁) [P] D0 s0 k.L (lV k) D' s' → LI prog w k (.of t') ad' oL' kL' s0 D' → J k.lc t' →
      wpAny (model prog w) A (execs ((fBody (fnAt 8)).drop 12) (lEnv k.L k.a k.cd)) Q E s') :
    wpAny (model prog w) A (execs ((fBody (fnAt 8)).drop 11) (lEnv k.L k.a k.cd)) Q E s := by
  have hl0 : LV D k.r.lO k.r.vO := X.st.O.O.sub offW_le.sub
  refine wpAny_execs_cons (wpAny_For (r_nm F rfl (r_iter F hl0 fun it oi s2 hi1 hi2 F2 hit => ?_)))
  have hitW := X.wt.new hi1
  have hx2 : Ext0 D (D.put it oi) := .new hi1
  refine r_for (vs := k.r.vO) (fun i vars D' => (∀ p ∈ lV k, p ∈ vars) ∧ ∃ t ad oL kL, LI prog w k (.of t) ad oL kL s0 D' ∧ J k.lc t) F2 hit hi2 ?_ hR.hand ?_ ?_ ?_ ?_
  · exact ⟨fun p hp => hp, t, ad, oL, kL, X.sub (SubI.ext hx2), hJ⟩
  · rintro i vars D' ⟨_, t', ad', oL', kL', X', _⟩
    exact X'.st.O.O.sub offW_le.sub
  · rintro i vars D1 D2 hl hoff ⟨h1, t', ad', oL', kL', X', hJ'⟩
    exact ⟨h1, t', ad', oL', kL', X'.sub (SubI.off hl hoff), hJ'⟩
  · rintro i v vars D1 s1 E' hv F1 hit1 ⟨hvars, t', ad', oL', kL', X', hJ'⟩
    refine wpAny_gen fun Q' hQ' => ?_
    have F1' : At (hLed h₁) [P] D0 s0 k.L (("start", v) :: lV k) D1 s1 := F1.less (sub_put1 hvars (all_ne rfl))
    have hKO : KeysL prog w D1 k.r.sts k.r.vO := X'.st.O.Ok.mono offW_le.t
    obtain ⟨x, hxi, hxk⟩ := hKO.getV hv
    obtain ⟨hxm, hxs⟩ := hK.P.sts x (List.mem_of_getElem? hxi)
    obtain ⟨xD, hD1, hD2⟩ := X'.dD
    have c5 : CV D1 (k.L + 5) (some (.ref k.dD)) := X'.st.c5.mono fun o e => offW_le _ o e
    have hmD : (k.dD == sysModules) = false := F1'.notMods G (.inr (hK.new _ (by first | exact LK.m1 | exact LK.m2 | exact LK.m3 | exact LK.m4 | exact LK.m5 | exact LK.m6 | exact LK.m7 | exact LK.m8 | exact LK.m9)))
    refine wpAny_execs_cons (wpAny_If (wpAny_isTrue_Compare1 (r_nm F1' rfl (r_cell F1' rfl c5 (r_inD F1' hD1 hxk hmD (hR.u (by decide)) fun s3 F3 => wpAny_truthy_bool ?_)))))
    have hdk : decide (x ∈ xD.map (·.1)) = (t'.dn x).isSome := congrFun (X'.look_keys hD2) x
    rw [hdk]
    cases hd : t'.dn x with
    | some o =>
      refine ite_t (by simp only [Option.isSome_some]) ?_
      refine wpAny_execs_cons (wpAny_Continue ?_)
      exact (hQ' _ _ ⟨.inr rfl, _, D1, F3, hit1, fun p hp => List.mem_cons_of_mem _ hp, t', ad', oL', kL', X', hJ'⟩)
    | none =>
      refine ite_f (by simp only [Option.isSome_none]) ?_
      refine wpAny_execs_nil ?_
      refine law_turn G hK hR F3 X' hJ' hxk hxm hd fun vars2 t2 ad2 oL2 kL2 D4 s4 F4 hv4 kp4 X4 hJ4 => ?_
      exact (hQ' _ _ ⟨.inl rfl, vars2, D4, F4, hit1.mono fun o e => kp4 _ o hitW e, hv4, t2, ad2, oL2, kL2, X4, hJ4⟩)
  · rintro vars D' s' F' ⟨hvars, t', ad', oL', kL', X', hJ'⟩
    exact hQ t' ad' oL' kL' D' s' (F'.less hvars) X' hJ'
end
end Mine
end

section
open PySem PySem.W PyProof.Rows
set_option Elab.async false
set_option maxRecDepth 100000
namespace Mine
/-! what told's lists hold at the end: ints, then ('knot', x) -/
abbrev Itm := Int ⊕ Key
def ItL (prog : Program) (w : World) (D : Led) : Itm → Value → Prop
  | .inl n, v => ∃ t, v = .int n t
  | .inr x, v => ∃ a o t u n, v = .ref a ∧ D a = some o ∧ o.cls = .type "tuple" ∧ o.data = .seq #[.str "knot" t, u] n ∧ KeyL prog w D x u
def ItsL (prog : Program) (w : World) (D : Led) : List Itm → List Value → Prop
  | [], [] => True
  | i :: is, v :: vs => ItL prog w D i v ∧ ItsL prog w D is vs
  | _, _ => False
def itD : Itm → PyData
  | .inl n => .int n
  | .inr x => .tuple [.str "knot", keyD x]
section
variable {prog : Program} {w : World} {D D' : Led}
theorem ItL.mono (h : TSub D D') : ∀ {i : Itm} {v : Value}, ItL prog w D i v → ItL prog w D' i v
  | .inl _, _, x => x
  | .inr _, _, ⟨a, o, t, u, n, e, e1, e2, e3, e4⟩ => ⟨a, o, t, u, n, e, h a o ⟨e2, _, _, e3⟩ e1, e2, e3, e4.mono h⟩
theorem ItsL.mono (h : TSub D D') : ∀ {is : List Itm} {vs : List Value}, ItsL prog w D is vs → ItsL prog w D' is vs
  | [], [], _ => trivial
  | [], _ :: _, x => x.elim
  | _ :: _, [], x => x.elim
  | _ :: _, _ :: _, x => ⟨x.1.mono h, ItsL.mono h x.2⟩
theorem ItsL.length : ∀ {is : List Itm} {vs : List Value}, ItsL prog w D is vs → is.length = vs.length
  | [], [], _ => rfl
  | [], _ :: _, x => x.elim
  | _ :: _, [], x => x.elim
  | _ :: _, _ :: _, x => by simp [ItsL.length x.2]
theorem ItsL.append : ∀ {is js : List Itm} {vs ws : List Value}, ItsL prog w D is vs → ItsL prog w D js ws → ItsL prog w D (is ++ js) (vs ++ ws)
  | [], _, [], _, _, y => y
  | [], _, _ :: _, _, x, _ => x.elim
  | _ :: _, _, [], _, x, _ => x.elim
  | _ :: _, _, _ :: _, _, x, y => ⟨x.1, ItsL.append x.2 y⟩
theorem ItsL.ints : ∀ {is : List Int} {vs : List Value}, IntsL is vs → ItsL prog w D (is.map .inl) vs
  | [], [], _ => trivial
  | [], _ :: _, x => x.elim
  | _ :: _, [], x => x.elim
  | _ :: _, _ :: _, x => ⟨x.1, ItsL.ints x.2⟩
theorem readsAll_its {s : Shared} (F : Fits D s) : ∀ {is : List Itm} {vs : List Value}, ItsL prog w D is vs → ∃ as, ReadsAll s.heap vs (is.map itD) as
  | [], [], _ => ⟨[], .nil⟩
  | [], _ :: _, h => h.elim
  | _ :: _, [], h => h.elim
  | i :: is, v :: vs, h => by
    obtain ⟨bs, r'⟩ := readsAll_its F h.2
    have h1 := h.1
    cases i with
    | inl n =>
      obtain ⟨t, rfl⟩ := h1
      exact ⟨[] ++ bs, .cons (.int n t) r'⟩
    | inr x =>
      obtain ⟨a, o, t, u, n, rfl, e1, e2, e3, e4⟩ := h1
      obtain ⟨as, r⟩ := e4.reads F
      exact ⟨([] ++ (as ++ [])) ++ bs, .cons (.tuple (F _ _ e1) e2 e3 (.cons (.str _ t) (.cons r .nil))) r'⟩
theorem lay_its : ∀ is : List Itm, (∀ x, Sum.inr x ∈ is → x.ok) → PyData.canLayAll0 (is.map itD) = true
  | [], _ => by simp [PyData.canLayAll0]
  | i :: is, h => by
    have h2 := lay_its is fun x hx => h x (List.mem_cons_of_mem _ hx)
    cases i with
    | inl n => simp [PyData.canLayAll0, itD, PyData.canLay0, h2]
    | inr x =>
      have h1 : PyData.canLay0 (keyD x) = true := h x (by simp)
      have h3 : PyData.strOk "knot" = true := by decide +kernel
      simp [PyData.canLayAll0, itD, PyData.canLay0, h1, h2, h3]
theorem depth_its : ∀ is : List Itm, PyData.depthAll (is.map itD) ≤ 3
  | [] => by simp [PyData.depthAll]
  | i :: is => by
    have h2 := depth_its is
    cases i with
    | inl n => simp [PyData.depthAll, itD, PyData.depth]; exact h2
    | inr x =>
      have h1 := depth_key x
      simp only [List.map_cons, PyData.depthAll, itD, PyData.depth]
      omega
end
/-- what told's list of o holds when the names nms are told -/
def itemsOf (σ : TS Key) (nms : List Key) (o : Key) : List Itm := (σ.C o).map .inl ++ (nms.filter fun y => decide (σ.own y = some o)).map .inr
theorem itemsOf_snoc {σ : TS Key} {nms : List Key} {z o : Key} : itemsOf σ (nms ++ [z]) o = itemsOf σ nms o ++ if σ.own z = some o then [.inr z] else [] := by
  unfold itemsOf
  rw [List.filter_append, List.map_append, List.append_assoc]
  by_cases e : σ.own z = some o <;> simp [e]
section
variable {prog : Program} {w : World} {h₁ : Heap} {mg mb : Str → Option Value} {k : LK} {D : Led} {ad oL kL : Key → Addr} {s0 : Shared} {P : Addr} {D0 : Led} {s : Shared} {A : Around} {E : Value → Shared → Prop}
/-- all but the x cell and told's lists stays -/
def KpF (k : LK) (σ : TS Key) (ad : Key → Addr) (D D' : Led) : Prop := ∀ a o, a ≠ k.L + 3 → (∀ z, (σ.own z).isSome = true → a ≠ ad z) → D a = some o → D' a = some o
/-- for x in names: .. -/
theorem law_knot (G : Glo h₁ mg mb) (hK : LKok k s0) (hR : Room A 40) {t : LS Key} {Q : Flow → Shared → Prop}
    (F : At (hLed h₁) [P] D0 s0 k.L (lV k) D s) (X : LI prog w k (.of t) ad oL kL s0 D) (hJ : J k.lc t)
    (hQ : ∀ D' s', At (hLed h₁) [P] D0 s0 k.L (lV k) D' s' → KpF k t.σ ad D D' → (∀ o, (t.σ.own o).isSome = true → ∃ vs, LV D' (ad o) vs ∧ ItsL prog w D' (itemsOf t.σ k.r.nms o) vs) →
      wpAny (model prog w) A (execs ((fBody (fnAt 8)).drop 13) (lEnv k.L k.a k.cd)) Q E s') :
    wpAny (model prog w) A (execs ((fBody (fnAt 8)).drop 12) (lEnv k.L k.a k.cd)) Q E s := by
  have hlen := hK.P.len.2
  have c1 : CV D (k.L + 1) (some (.ref k.r.lN)) := X.st.c1.mono fun o e => offW_le _ o e
  have c4 : CV D (k.L + 4) (some (.ref k.dT)) := X.st.c4.mono fun o e => offW_le _ o e
  have hNl : LV D k.r.lN k.r.vN := X.st.O.N.sub offW_le.sub
  have hNk : KeysL prog w D k.r.nms k.r.vN := X.st.O.K.mono offW_le.t
  have hkl := hNk.length
  obtain ⟨xT, hT1, hT2, hT3⟩ := X.T.F
  replace hT1 : DK prog w D k.dT xT := hT1
  replace hT3 : ∀ z, look xT z = (t.σ.own z).map fun o => .ref (ad o) := hT3
  have hC : ∀ o, (t.σ.own o).isSome = true → ∃ vs, LV D (ad o) vs ∧ IntsL (t.σ.C o) vs := fun o ho => let ⟨_, vs, a, b⟩ := X.T.C o ho; ⟨vs, a, b⟩
  have hwf : ∀ z o, t.σ.own z = some o → (t.σ.own o).isSome = true := X.T.wf
  have hinj := X.T.inj
  have hmT : (k.dT == sysModules) = false := F.notMods G (.inr (hK.new _ (by first | exact LK.m1 | exact LK.m2 | exact LK.m3 | exact LK.m4 | exact LK.m5 | exact LK.m6 | exact LK.m7 | exact LK.m8 | exact LK.m9)))
  obtain ⟨v3, c3⟩ := X.x
  have hNT : ∀ o, (t.σ.own o).isSome = true → ad o ≠ k.r.lN := fun o ho => (X.sep o ho).1
  have hgood : ∀ z ∈ k.r.nms, ∀ o, t.σ.own z = some o → (t.σ.C o).length ≤ 100 := fun z hz o ho => by
    cases e : t.dn z with
    | none => have := (hJ.wh z hz e).2; rw [ho] at this; cases this
    | some d =>
      cases d with
      | none => have := hJ.no z hz e; rw [ho] at this; cases this
      | some l =>
        obtain ⟨g, o', _, q1, _, q2, _⟩ := hJ.li z hz l e
        rw [ho] at q1; injection q1 with q1; subst q1
        rw [q2]; exact g.len
  have hL : ∀ z, (t.σ.own z).isSome = true → k.L + 3 ≠ ad z := fun z hz => by
    obtain ⟨vs, q, _⟩ := hC z hz; exact c3.neL q
  have kT : ∀ {D' : Led}, KpF k t.σ ad D D' → TSub D D' := fun kp a o c e => by
    refine kp a o (fun q => ?_) (fun z hz q => ?_) e
    · subst q; exact c3.noTup o e c
    · subst q; obtain ⟨vs, q, _⟩ := hC z hz; exact q.noTup o e c
  have kT1 : ∀ {D' : Led}, KpF k t.σ ad D D' → DK prog w D' k.dT xT := fun kp => hT1.mono (fun o e => kp _ o (Ne.symm (c3.neD hT1)) (fun z hz q => by obtain ⟨vs, q2, _⟩ := hC z hz; exact q2.neD hT1 q.symm) e) (kT kp)
  have kc : ∀ {D' : Led} {i : Nat} {v : Option Value}, i ≠ 3 → KpF k t.σ ad D D' → CV D (k.L + i) v → CV D' (k.L + i) v := fun hi kp q => q.mono fun o e => kp _ o (fun q => hi (Nat.add_left_cancel q)) (fun z hz q2 => by obtain ⟨vs, q3, _⟩ := hC z hz; exact q.neL q3 q2) e
  have kN : ∀ {D' : Led}, KpF k t.σ ad D D' → LV D' k.r.lN k.r.vN := fun kp => hNl.mono fun o e => kp _ o (Ne.symm (c3.neL hNl)) (fun z hz q => hNT z hz q.symm) e
  refine wpAny_execs_cons (wpAny_For (r_cell F rfl c1 (r_iter F hNl fun it oi s2 hi1 hi2 F2 hit => ?_)))
  have hx2 : Ext0 D (D.put it oi) := .new hi1
  have htk : k.r.nms.take k.r.vN.length = k.r.nms := List.take_of_length_le (by omega)
  refine r_forC (vs := k.r.vN) (cy := k.L + 3) (fun i vars D' => vars = lV k ∧ KpF k t.σ ad D D' ∧ (∃ v, CV D' (k.L + 3) v) ∧ ∀ o, (t.σ.own o).isSome = true → ∃ vs, LV D' (ad o) vs ∧ ItsL prog w D' (itemsOf t.σ (k.r.nms.take i) o) vs) F2 hit hi2 ?_ hR.hand ?_ ?_ (.inr (hK.new _ (by first | exact LK.m1 | exact LK.m2 | exact LK.m3 | exact LK.m4 | exact LK.m5 | exact LK.m6 | exact LK.m7 | exact LK.m8 | exact LK.m9))) ?_ ?_ ?_ rfl
  · refine ⟨rfl, fun a o _ _ e => hx2 a o e, ⟨v3, c3.mono fun o e => hx2 _ o e⟩, fun o ho => ?_⟩
    obtain ⟨vs, q1, q2⟩ := hC o ho
    refine ⟨vs, q1.sub hx2.sub, ?_⟩
    have : itemsOf t.σ (k.r.nms.take 0) o = (t.σ.C o).map .inl := by unfold itemsOf; simp
    rw [this]; exact ItsL.ints q2
  · rintro i vars D' ⟨_, kp, _⟩
    exact kN kp
  · rintro i vars D' ⟨_, _, h, _⟩; exact h
  · rintro i vars D1 D2 hl hoff ⟨rfl, kp, ⟨v, hc⟩, hI⟩
    have hsb := SubI.off hl hoff
    refine ⟨rfl, fun a o h1 h2 e => ?_, ⟨v, hc.subI hsb⟩, fun o ho => let ⟨vs, a, b⟩ := hI o ho; ⟨vs, a.sub hsb.sub, b.mono hsb.sub.t⟩⟩
    have hne : a ≠ it := fun q => by rw [q, hi1] at e; cases e
    rw [hoff a hne]; exact kp a o h1 h2 e
  · rintro i vz vars D1 o s1 E' hv F1 hcx ht hit1 ⟨rfl, kp1, ⟨v0, hc0⟩, hI1⟩
    refine wpAny_gen fun Q' hQ' => ?_
    have kp2 : KpF k t.σ ad D (D1.put (k.L + 3) o) := fun a o' h1 h2 e => by rw [Led.put_other h1]; exact kp1 a o' h1 h2 e
    have hI2 : ∀ o', (t.σ.own o').isSome = true → ∃ vs, LV (D1.put (k.L + 3) o) (ad o') vs ∧ ItsL prog w (D1.put (k.L + 3) o) (itemsOf t.σ (k.r.nms.take i) o') vs := fun o' ho => by
      obtain ⟨vs, a, b⟩ := hI1 o' ho
      exact ⟨vs, a.put_other (Ne.symm (hL o' ho)), b.mono ht⟩
    generalize D1.put (k.L + 3) o = D2 at F1 hcx hit1 kp2 hI2
    clear kp1 hI1 hc0 ht
    obtain ⟨z, hz, hzk⟩ := hNk.getV hv
    have hzn := List.mem_of_getElem? hz
    have hzk2 := hzk.mono (kT kp2)
    have hT2' := kT1 kp2
    have c4' := kc (by decide) kp2 c4
    as_aux_lemma =>
    have hsnoc : ∀ o, itemsOf t.σ (k.r.nms.take (i + 1)) o = itemsOf t.σ (k.r.nms.take i) o ++ if t.σ.own z = some o then [.inr z] else [] := fun o => by rw [take_succ hz, itemsOf_snoc]
    have hdk : decide (z ∈ xT.map (·.1)) = (t.σ.own z).isSome := by
      rw [Bool.eq_iff_iff, decide_eq_true_iff, ← look_isSome, hT3, Option.isSome_map]
    refine wpAny_execs_cons (wpAny_If (wpAny_isTrue_Compare1 (r_cell F1 rfl hcx (r_cell F1 rfl c4' (r_inD F1 hT2' hzk2 hmT (hR.u (by decide)) fun s3 F3 => wpAny_truthy_bool ?_)))))
    rw [hdk]
    cases ho : t.σ.own z with
    | none =>
      refine ite_f (by simp only [Option.isSome_none]) ?_
      refine wpAny_execs_nil (wpAny_execs_nil (hQ' _ _ ⟨.inl rfl, _, D2, F3, hit1, rfl, kp2, ⟨_, hcx⟩, fun o' ho' => ?_⟩))
      obtain ⟨vs, a, b⟩ := hI2 o' ho'
      refine ⟨vs, a, ?_⟩
      rw [hsnoc, ho, if_neg (by simp), List.append_nil]; exact b
    | some o =>
      refine ite_t (by simp only [Option.isSome_some]) ?_
      have hoo := hwf z o ho
      obtain ⟨vs, hl1, hl2⟩ := hI2 o hoo
      have hlook : look xT z = some (.ref (ad o)) := by rw [hT3, ho]; rfl
      have hvl : vs.length ≤ 1000000 := by
        have e1 := hl2.length
        have e2 : (itemsOf t.σ (k.r.nms.take i) o).length ≤ 100 + 7 := by
          unfold itemsOf
          rw [List.length_append, List.length_map, List.length_map]
          have h1 := hgood z hzn o ho
          have h2 := List.length_filter_le (fun y => decide (t.σ.own y = some o)) (k.r.nms.take i)
          have h3 : (k.r.nms.take i).length ≤ k.r.nms.length := by rw [List.length_take]; omega
          omega
        omega
      refine wpAny_execs_cons (wpAny_Expr (e_append (e_sub (r_cell F3 rfl c4' (r_cell F3 rfl hcx (r_itemD F3 hT2' hzk2 hlook (hR.u (by decide)) fun s4 F4 => ⟨lv_type F4 hl1, lv_noDict F4 hl1,
        Tuple_ (args_cons (wpAny_Constant_str (args_cons (r_cell (F4.toks _) rfl hcx (args_nil (r_newTuple (F4.toks _) (by simp) fun lt s5 hlt1 hlt2 F5 => ?_))))))⟩))))) rfl rfl)
      have hx5 : Ext0 D2 (D2.put lt (tupO [Value.str "knot" s4.toks, vz].toArray 0)) := .new hlt1
      have hl5 := hl1.sub hx5.sub
      refine r_append F5 hl5 (.inr (X.new o hoo)) hvl fun n s6 F6 => wpAny_execs_nil (wpAny_execs_nil ?_)
      have t6 : TSub (D2.put lt (tupO [Value.str "knot" s4.toks, vz].toArray 0)) ((D2.put lt (tupO [Value.str "knot" s4.toks, vz].toArray 0)).put (ad o) (lstO (vs ++ [Value.ref lt]).toArray n)) := .put hl5.noTup
      have hnew : ItL prog w (D2.put lt (tupO [Value.str "knot" s4.toks, vz].toArray 0)) (.inr z) (.ref lt) := ⟨lt, _, s4.toks, vz, 0, rfl, Led.put_same, rfl, rfl, hzk2.mono hx5.t⟩
      have hit5 := hit1.mono fun o e => hx5 _ o e
      refine (hQ' _ _ ⟨.inl rfl, _, _, F6, hit5.put_other (hit5.neL hl5), rfl, fun a o' h1 h2 e => ?_, ⟨some vz, ?_⟩, fun o' ho' => ?_⟩)
      · rw [Led.put_other (h2 o hoo)]
        exact hx5 _ _ (kp2 a o' h1 h2 e)
      · exact (hcx.mono fun o e => hx5 _ o e).mono fun o' e => by rw [Led.put_other (hL o hoo)]; exact e
      · by_cases e : o' = o
        · subst e
          refine ⟨vs ++ [.ref lt], LV.put_same, ?_⟩
          rw [hsnoc, if_pos ho]
          exact ((hl2.mono hx5.t).mono t6).append ⟨hnew.mono t6, trivial⟩
        · obtain ⟨vs', a, b⟩ := hI2 o' ho'
          refine ⟨vs', (a.sub hx5.sub).put_other (fun q => e (hinj o' o ho' hoo q)), ?_⟩
          rw [hsnoc, ho, if_neg (fun q => e (by injection q with q; exact q.symm)), List.append_nil]
          exact (b.mono hx5.t).mono t6
  · rintro vars D' s' F' ⟨rfl, kp, _, hI⟩
    rw [htk] at hI
    exact hQ D' s' F' kp hI
end
end Mine
end

section
open PySem PySem.W PyProof.Rows
set_option Elab.async false
set_option maxRecDepth 100000
namespace Mine
/-! a list comprehension with one cell of its own -/
section
variable {M : Model} {A : Around} {E : Value → Shared → Prop} {s : Shared}
theorem newFunctionEnv_cell {scope : Scope} {globals : Addr} {cl : List (Str × Addr)} {qual : Str} {env : Env} {x : Str} {Q : Env → Shared → Prop}
    (hcf : ∀ n cl, cellsFrom n scope.names cl = (x, n) :: cl) (hpc : ∀ h : Heap, pushCells h scope.names = h.push { cls := .type "cell", data := .cell none })
    (hQ : Q { scope, locals := s.heap.objs.size, globals, cells := (x, s.heap.objs.size + 1) :: cl, qual, func := none, code := env.code, frame := env.frame, builtins := env.builtins }
      { s with heap := (s.heap.push { cls := .type "dict", data := .dict #[] }).push { cls := .type "cell", data := .cell none } }) :
    wpAny M A (newFunctionEnv scope globals cl [] qual none .none (some env)) Q E s := by
  simp only [newFunctionEnv, Option.isSome_some, if_true]
  refine wpAny_bind (wpAny_alloc ?_)
  refine wpAny_bind (wpAny_layCells _ (fun name kind cells => by cases hkc : kind == NameKind.cell <;> simp [hkc]) _ _ _ _ ?_)
  rw [hcf, hpc]
  rw [show ({ s with heap := s.heap.push { cls := .type "dict", data := .dict #[] } } : Shared).heap.objs.size = s.heap.objs.size + 1 from Heap.size_push ..]
  refine wpAny_bind ?_
  rw [List.forIn_nil]
  exact wpAny_pure (wpAny_pure hQ)
end
section
variable {prog : Program} {w : World} {A : Around} {E : Value → Shared → Prop} {B : Led} {W : List Addr} {D0 : Led} {s0 : Shared} {L : Addr} {vars : Vars} {D1 : Led} {s₁ : Shared} {env : Env}
abbrev LTurnC (prog : Program) (w : World) (A : Around) (B : Led) (D1 : Led) (s₁ : Shared) (C : Addr) (target elt : Expr) (ifs : List Expr) (cenv : Env) (I : Nat → Led → List Value → Prop) (i : Nat) (vs : List Value) (v : Value) (D' : Led) (s' : Shared) : Prop :=
  ∀ E', wpAny (model prog w) A (assign target cenv v) (fun _ s₂ =>
    wpAny (model prog w) A (forIn ifs true fun c r => if r = true then do let ok ← isTrue c cenv (eval c cenv); pure (ForInStep.yield ok) else pure (ForInStep.yield r)) (fun ok s₃ =>
      if ok = true then wpAny (model prog w) A (eval elt cenv) (fun u s₄ => ∃ vars' D'', At B [] D1 s₁ C vars' D'' s₄ ∧ (∀ a o, a ≠ C + 1 → D' a = some o → D'' a = some o) ∧ (∃ v0, CV D'' (C + 1) v0) ∧ I (i + 1) D'' (vs ++ [u])) E' s₃
      else ∃ vars' D'', At B [] D1 s₁ C vars' D'' s₃ ∧ (∀ a o, a ≠ C + 1 → D' a = some o → D'' a = some o) ∧ (∃ v0, CV D'' (C + 1) v0) ∧ I (i + 1) D'' vs) E' s₂) E' s'
theorem lcompC_core {elt target iter : Expr} {ifs : List Expr} {scope : Scope} {pos : Pos} {cl : List (Str × Addr)} {xv : Value} {n : Nat} {P : Nat → Value → Led → Prop} {Q : Value → Shared → Prop} {use : Option (Value → Sem Unit)} {s1 : Shared} {x : Str} (I : Nat → Led → List Value → Prop)
    (F : At B W D0 s0 L vars D1 s₁) (hit : IterGives prog w target A xv D1 s₁ s1 n P) (hh : A.handled = none) (hn : n ≤ 1000)
    (mono : ∀ i D D' vs, TSub D D' → I i D vs → I i D' vs) (h0 : I 0 D1 [])
    (turn : ∀ C i v vs vars' D' s', i < n → At B [] D1 s₁ C vars' D' s' → P i v D' → I i D' vs → vs.length ≤ i → (∃ v0, CV D' (C + 1) v0) → s₁.heap.get? (C + 1) = none → LTurnC prog w A B D1 s₁ C target elt ifs (compEnvC scope ((x, C + 1) :: cl) C env) I i vs v D' s')
    (fin : ∀ C la vs vars' D' s', At B [] D1 s₁ C vars' D' s' → D1 la = none → s₁.heap.get? la = none → LV D' la vs → I n D' vs → vs.length ≤ n → compPost (model prog w) A E use Q (.ref la) C (.ok .next) s')
    (hcf : ∀ n cl, cellsFrom n scope.names cl = (x, n) :: cl) (hpc : ∀ h : Heap, pushCells h scope.names = h.push { cls := .type "cell", data := .cell none }) :
    wpAny (model prog w) A (pyIter xv) (fun it s₂ => wpAny (model prog w) A (newList []) (fun acc s₃ =>
      wpAny (model prog w) A (newFunctionEnv scope env.globals cl [] env.qual none .none (some env)) (fun cenv s₄ =>
        codeAny (model prog w) A (.compStart (.ListComp elt [⟨target, iter, ifs, 0⟩] scope pos) 0 it acc { cenv with scope := relabel scope env }) (compPost (model prog w) A E use Q acc cenv.locals) s₄) E s₃) E s₂) E s1 := by
  refine hit _ _ fun it own fp It D2 s2 S hI2 T2 hown => ?_
  have hfits := T2.fits
  refine wpAny_newObj_type ?_ (by show ([] : List Value).toArray.size ≤ sizeLine; simp)
  have hla : D2 s2.heap.objs.size = none := hfits.fresh (Nat.le_refl _)
  have T3 := T2.trans (Tr.push (W := []) hfits (lstO ([] : List Value).toArray 0) rfl s2.toks) (fun _ h => nomatch h)
  have hla1 : s₁.heap.get? s2.heap.objs.size = none := by
    cases e : s₁.heap.get? s2.heap.objs.size with
    | none => rfl
    | some o => obtain ⟨o', e'⟩ := T2.alive _ o e; rw [get?_ge (Nat.le_refl _)] at e'; cases e'
  have hlaf : s2.heap.objs.size ∉ fp := fun hb => by obtain ⟨o, e⟩ := S.has 0 D2 hI2 _ hb; rw [hla] at e; cases e
  have hI3 : It 0 (D2.put s2.heap.objs.size (lstO ([] : List Value).toArray 0)) := S.mono 0 D2 _ (fun b hb => Led.put_other fun q => hlaf (q ▸ hb)) hI2
  generalize hlae : s2.heap.objs.size = la at *
  refine newFunctionEnv_cell hcf hpc ?_
  have F4 : At B [] D1 s₁ (s2.heap.push (lstO ([] : List Value).toArray 0)).objs.size [] (D2.put la (lstO ([] : List Value).toArray 0)) { s2 with heap := (s2.heap.push (lstO ([] : List Value).toArray 0)).push { cls := .type "dict", data := .dict #[] }, toks := s2.toks } :=
    comp_at (s3 := { s2 with heap := s2.heap.push (lstO ([] : List Value).toArray 0), toks := s2.toks }) T3 F.base (Heap.Ns.new ..) (Heap.SameBut.refl ..) s2.toks
  have F5 := F4.push { cls := .type "cell", data := .cell none } rfl s2.toks
  have hsz : ((s2.heap.push (lstO ([] : List Value).toArray 0)).push { cls := .type "dict", data := .dict #[] }).objs.size = (s2.heap.push (lstO ([] : List Value).toArray 0)).objs.size + 1 := Heap.size_push ..
  have hcn := F4.fresh (Nat.le_refl _)
  change At B [] D1 s₁ _ [] ((D2.put la (lstO ([] : List Value).toArray 0)).put ((s2.heap.push (lstO ([] : List Value).toArray 0)).push { cls := .type "dict", data := .dict #[] }).objs.size _) { s2 with heap := ((s2.heap.push (lstO ([] : List Value).toArray 0)).push { cls := .type "dict", data := .dict #[] }).push _, toks := s2.toks } at F5
  change (D2.put la (lstO ([] : List Value).toArray 0)) ((s2.heap.push (lstO ([] : List Value).toArray 0)).push { cls := .type "dict", data := .dict #[] }).objs.size = none ∧ s₁.heap.get? ((s2.heap.push (lstO ([] : List Value).toArray 0)).push { cls := .type "dict", data := .dict #[] }).objs.size = none at hcn
  rw [hsz] at F5 hcn
  have hL4 : LV (D2.put la (lstO ([] : List Value).toArray 0)) la [] := LV.put_same
  have hI4 : I 0 (D2.put la (lstO ([] : List Value).toArray 0)) [] := mono 0 D1 _ [] (fun a o _ e => T3.ext0 a o e) h0
  show codeAny _ _ (.compStart _ 0 _ _ (compEnvC scope ((x, (s2.heap.push (lstO ([] : List Value).toArray 0)).objs.size + 1) :: cl) (s2.heap.push (lstO ([] : List Value).toArray 0)).objs.size env)) (compPost (model prog w) A E use Q (.ref la) (s2.heap.push (lstO ([] : List Value).toArray 0)).objs.size) { s2 with heap := ((s2.heap.push (lstO ([] : List Value).toArray 0)).push { cls := .type "dict", data := .dict #[] }).push { cls := .type "cell", data := .cell none }, toks := s2.toks }
  clear F4 hsz
  generalize ((s2.heap.push (lstO ([] : List Value).toArray 0)).push { cls := .type "dict", data := .dict #[] }).push { cls := .type "cell", data := .cell none } = h' at F5 ⊢
  generalize (s2.heap.push (lstO ([] : List Value).toArray 0)).objs.size = C at F5 hcn ⊢
  have x5 : Ext0 (D2.put la (lstO ([] : List Value).toArray 0)) ((D2.put la (lstO ([] : List Value).toArray 0)).put (C + 1) { cls := .type "cell", data := .cell none }) := .new hcn.1
  have hcf5 : C + 1 ∉ fp := fun hb => by obtain ⟨o, e⟩ := S.has 0 _ hI3 _ hb; rw [hcn.1] at e; cases e
  have hI5 : It 0 ((D2.put la (lstO ([] : List Value).toArray 0)).put (C + 1) { cls := .type "cell", data := .cell none }) := S.mono 0 _ _ (fun b hb => Led.put_other fun q => hcf5 (q ▸ hb)) hI3
  have hla5 : la ≠ C + 1 := fun q => by have := hcn.1; rw [← q, Led.put_same] at this; cases this
  have hcv5 : CV ((D2.put la (lstO ([] : List Value).toArray 0)).put (C + 1) { cls := .type "cell", data := .cell none }) (C + 1) none := ⟨_, Led.put_same, rfl⟩
  have loop : codeAny (model prog w) A (.compLoop (.ListComp elt [⟨target, iter, ifs, 0⟩] scope pos) 0 (.ref it) (.ref la) (compEnvC scope ((x, C + 1) :: cl) C env)) (compPost (model prog w) A E use Q (.ref la) C) { s2 with heap := h', toks := s2.toks } := by
    refine loopL (fun k s => ∃ i vars' D vs, i + k = n ∧ At B [] D1 s₁ C vars' D s ∧ It i D ∧ LV D la vs ∧ vs.length ≤ i ∧ (∃ v0, CV D (C + 1) v0) ∧ I i D vs) (fun k s ⟨i, vars', D, vs, hik, FC, hIt, hLv, hle, ⟨v0, hcv⟩, hI⟩ => ?_) n ⟨0, [], _, [], Nat.zero_add n, F5, hI5, hL4.sub x5.sub, Nat.le_refl _, ⟨_, hcv5⟩, mono _ _ _ _ x5.t hI4⟩
    have hlaow : la ∉ own := fun hb => hlaf (S.sub _ hb)
    have hcow : C + 1 ∉ own := fun hb => hcf5 (S.sub _ hb)
    rcases Nat.lt_or_ge i n with hlt | hge
    · refine wpAny_mono (S.next (Q := fun v s' => ∃ D', At B [] D1 s₁ C vars' D' s' ∧ It (i + 1) D' ∧ (∀ a o, a ∉ own → D a = some o → D' a = some o) ∧ P i v D') FC hIt hown hlt hh fun v D' s' a b c d => ⟨D', a, b, c, d⟩) (fun r s1 hr => ?_) fun _ _ e => e
      obtain ⟨v, rfl, hr⟩ := hr
      refine wpAny_mono hr (fun _ s' hr' => ?_) fun _ _ e => e
      obtain ⟨D', FC', hIt', hx, hP⟩ := hr'
      have hT' : TSub D D' := fun a o hT e => hx a o (fun hb => ((S.noT i D hIt a hb o e).1 hT).elim) e
      have hI' := mono i D D' vs hT' hI
      have hLv' : LV D' la vs := hLv.mono fun o e => hx la o hlaow e
      have hcv' : CV D' (C + 1) v0 := hcv.mono fun o e => hx _ o hcow e
      have hT2 : ∀ D'', (∀ a o, a ≠ C + 1 → D' a = some o → D'' a = some o) → TSub D' D'' := fun D'' hx2 a o hT e => hx2 a o (fun q => by subst q; exact hcv'.noTup o e hT) e
      refine wpAny_mono (turn C i v vs vars' D' s' hlt FC' hP hI' hle ⟨v0, hcv'⟩ hcn.2 _) (fun _ s₂ h₂ => wpAny_mono h₂ (fun ok s₃ h₃ => ?_) fun _ _ e => e) fun _ _ e => e
      have hIt2 : ∀ D'', (∀ a o, a ≠ C + 1 → D' a = some o → D'' a = some o) → It (i + 1) D'' := fun D'' hx2 => S.mono (i + 1) D' D'' (fun b hb => by obtain ⟨o, e⟩ := S.has _ _ hIt' b hb; rw [e]; exact hx2 b o (fun q => hcf5 (q ▸ hb)) e) hIt'
      cases ok with
      | false =>
        simp only [Bool.false_eq_true, if_false] at h₃ ⊢
        obtain ⟨vars'', D'', F3, hx2, hcv2, hI3⟩ := h₃
        exact ⟨k - 1, by omega, i + 1, vars'', D'', vs, by omega, F3, hIt2 D'' hx2, hLv'.mono fun o e => hx2 _ o hla5 e, by omega, hcv2, hI3⟩
      | true =>
        simp only [if_true] at h₃ ⊢
        refine wpAny_mono h₃ (fun u s₄ h₄ => ?_) fun _ _ e => e
        obtain ⟨vars'', D'', F3, hx2, ⟨v2, hcv2⟩, hI3⟩ := h₄
        have hLv2 : LV D'' la vs := hLv'.mono fun o e => hx2 _ o hla5 e
        refine r_append F3 hLv2 (.inr hla1) (by omega) fun nn s₅ F5 => ?_
        refine ⟨k - 1, by omega, i + 1, vars'', _, vs ++ [u], by omega, F5, ?_, LV.put_same, by simp; omega, ⟨v2, hcv2.mono fun o e => ?_⟩, mono _ _ _ _ (.put hLv2.noTup) hI3⟩
        · exact S.mono (i + 1) D'' _ (fun b hb => Led.put_other fun q => hlaf (q ▸ hb)) (hIt2 D'' hx2)
        · rw [Led.put_other (Ne.symm hla5)]; exact e
    · have hi : i = n := by omega
      subst hi
      refine S.stop FC hIt hown hh fun D' s' FC' hx => ?_
      have hT' : TSub D D' := fun a o hT e => hx a o (fun hb => ((S.noT i D hIt a hb o e).1 hT).elim) e
      exact fin C la vs vars' D' s' FC' (by
        cases e : D1 la with
        | none => rfl
        | some o => have := T2.ext0 la o e; rw [hla] at this; cases this) hla1 (hLv.mono fun o e => hx la o hlaow e) (mono i D D' vs hT' hI) hle
  exact codeAny_compStart_list loop (S.iter F5.fits hI5 loop)
/-- as an expression -/
theorem e_lcompC {elt target iter : Expr} {ifs : List Expr} {scope : Scope} {pos : Pos} {cl : List (Str × Addr)} {n : Nat} {P : Nat → Value → Led → Prop} {Q : Value → Shared → Prop} {s : Shared} {Dd : Led} {x : Str} (_hF : At B W D0 s0 L vars Dd s) (I : Nat → Led → List Value → Prop)
    (hit : wpAny (model prog w) A (eval iter env) (fun xv s₁ => ∃ D1 sb, At B W D0 s0 L vars D1 sb ∧ IterGives prog w target A xv D1 sb s₁ n P ∧ I 0 D1 [] ∧
      (∀ C i v vs vars' D' s', i < n → At B [] D1 sb C vars' D' s' → P i v D' → I i D' vs → vs.length ≤ i → (∃ v0, CV D' (C + 1) v0) → sb.heap.get? (C + 1) = none → LTurnC prog w A B D1 sb C target elt ifs (compEnvC scope ((x, C + 1) :: cl) C env) I i vs v D' s') ∧
      (∀ la vs D' s', At B W D0 s0 L vars D' s' → Ext0 D1 D' → D1 la = none → s0.heap.get? la = none → LV D' la vs → I n D' vs → vs.length ≤ n → Q (.ref la) s')) E s)
    (hh : A.handled = none) (hn : n ≤ 1000) (mono : ∀ i D D' vs, TSub D D' → I i D vs → I i D' vs)
    (hclos : closureFor scope env = pure cl) (hcf : ∀ n cl, cellsFrom n scope.names cl = (x, n) :: cl) (hpc : ∀ h : Heap, pushCells h scope.names = h.push { cls := .type "cell", data := .cell none })
    (hk : scope.kind = .function := by rfl)
    (hnames : ∀ x ∈ scope.names, x.2 = .local → scope.names.lookup x.1 = some .local := by decide)
    (hs : ∀ x, foldedSetIterable iter env x = pure x := by intro _; rfl) :
    wpAny (model prog w) A (eval (.ListComp elt [⟨target, iter, ifs, 0⟩] scope pos) env) Q E s := by
  rw [eval_ListComp]
  refine wpAny_comprehension_free (use := none) rfl hs hclos hk hnames ?_
  refine wpAny_mono hit (fun xv s₁ h => ?_) fun _ _ e => e
  obtain ⟨D1, sb, F, hg, h0, turn, fin⟩ := h
  refine lcompC_core I F hg hh hn mono h0 turn (fun C la vs vars' D' s' FC hD1 hs1 hLv hIn hle => ?_) hcf hpc
  obtain ⟨m, hm, _⟩ := FC.ns
  refine ⟨m, hm, fun h' hsb => ?_⟩
  have T := comp_leave FC hsb
  refine fin la vs D' _ (F.step T fun _ h => nomatch h) T.ext0 hD1 ?_ hLv hIn hle
  cases e : s0.heap.get? la with
  | none => rfl
  | some o => obtain ⟨o', e'⟩ := F.tr.alive la o e; rw [hs1] at e'; cases e'
variable {D : Led} {s : Shared}
/-- two lists of the same data are equal -/
theorem list_eq {l l' : Addr} {vs vs' : List Value} {ds : List PyData} {Q : Value → Shared → Prop} (F : Fits D s) (h : LV D l vs) (h' : LV D l' vs') (r : ∃ as, ReadsAll s.heap vs ds as) (r' : ∃ as, ReadsAll s.heap vs' ds as) (hl : PyData.canLayAll0 ds = true)
    (hu : A.units + 20 < cLine) (hd : PyData.depthAll ds ≤ 10) (hq : Q (.bool true) s) : wpAny (model prog w) A (compareOp .Eq (.ref l) (.ref l')) Q E s := by
  obtain ⟨as, q⟩ := reads_list F h r
  obtain ⟨bs, q'⟩ := reads_list F h' r'
  have hc : (PyData.list ds).canLay0 = true := by simpa [PyData.canLay0] using hl
  refine PySem.SeqAt.compareEq_reads q q' hc hc ?_ ?_
  · have : min (PyData.list ds).depth (PyData.list ds).depth ≤ (PyData.list ds).depth := Nat.min_le_left _ _
    have e : (PyData.list ds).depth = PyData.depthAll ds + 1 := by simp [PyData.depth]
    omega
  · rw [PySem.SeqAt.eqv_refl _ hc]; exact hq
/-- all(a list of True) -/
theorem r_all {l : Addr} {vs : List Value} {Q : Value → Shared → Prop} (F : At B W D0 s0 L vars D s) (hl : LV D l vs) (hv : ∀ v ∈ vs, v = .bool true) (hh : A.handled = none)
    (h : ∀ s', At B W D0 s0 L vars D s' → Q (.bool true) s') : wpAny (model prog w) A (call (.builtin "all") [.ref l]) Q E s := by
  have hL := lv_is F hl
  have hlt : l < s.heap.objs.size := by obtain ⟨_, e, _⟩ := hL; exact Heap.lt_size e
  refine call_all_walk (wpAny_pyIter_list hL ?_)
  refine ⟨s.heap.objs.size, [s.heap.objs.size, l], [s.heap.objs.size], vs.toArray.size, _, _, fun i => true, rfl, Walks.list (A := A.in1) hh _ l (Nat.ne_of_lt hlt) vs.toArray,
    ⟨⟨_, Heap.get?_push_size _ rfl, rfl, rfl⟩, hL.push _⟩, fun i v s' Q' E' hP hQ => ?_, fun h' tk hk => ?_⟩
  · have hP' : vs[i]? = some v := by simpa using hP
    rw [hv v (List.mem_of_getElem? hP')]
    exact wpAny_truthy_bool hQ
  · have e : ((List.range vs.toArray.size).all fun _ => true) = true := by simp
    rw [e]
    exact h _ (F.keeps (fun b x e => hk b x (fun hm => by rw [List.mem_singleton.mp hm] at e; exact Nat.lt_irrefl _ (Heap.lt_size e)) (Heap.get?_push_of_some _ e)) tk)
end
end Mine
end

section
open PySem PySem.W PyProof.Rows
set_option Elab.async false
set_option maxRecDepth 100000
namespace Mine
section
variable {prog : Program} {w : World} {h₁ : Heap} {mg mb : Str → Option Value} {k : LK} {D : Led} {ad oL kL : Key → Addr} {s0 : Shared} {P : Addr} {D0 : Led} {s : Shared} {A : Around} {E : Value → Shared → Prop}
/-- return all([..]) -/
theorem law_ret (G : Glo h₁ mg mb) (hK : LKok k s0) (hR : Room A 40) {t : LS Key} {D1 : Led} {Q : Flow → Shared → Prop}
    (F : At (hLed h₁) [P] D0 s0 k.L (lV k) D1 s) (X : LI prog w k (.of t) ad oL kL s0 D) (hJ : J k.lc t) (kp : KpF k t.σ ad D D1)
    (hI : ∀ o, (t.σ.own o).isSome = true → ∃ vs, LV D1 (ad o) vs ∧ ItsL prog w D1 (itemsOf t.σ k.r.nms o) vs)
    (hQ : ∀ D' s', At (hLed h₁) [P] D0 s0 k.L (lV k) D' s' → (∃ ps, D' k.P = some (tabObj ps)) → Q (.ret (.bool true)) s') :
    wpAny (model prog w) A (execs ((fBody (fnAt 8)).drop 13) (lEnv k.L k.a k.cd)) Q E s := by
  have hlen := hK.P.len.2
  obtain ⟨v3, c3⟩ := X.x
  have hC : ∀ o, (t.σ.own o).isSome = true → ∃ vs, LV D (ad o) vs ∧ IntsL (t.σ.C o) vs := fun o ho => let ⟨_, vs, a, b⟩ := X.T.C o ho; ⟨vs, a, b⟩
  have hwf : ∀ z o, t.σ.own z = some o → (t.σ.own o).isSome = true := X.T.wf
  have kT : TSub D D1 := fun a o c e => by
    refine kp a o (fun q => ?_) (fun z hz q => ?_) e
    · subst q; exact c3.noTup o e c
    · subst q; obtain ⟨vs, q, _⟩ := hC z hz; exact q.noTup o e c
  have kD : ∀ {d : Addr} {xs : KVs}, DK prog w D d xs → DK prog w D1 d xs := fun q => q.mono (fun o e => kp _ o (Ne.symm (c3.neD q)) (fun z hz q1 => by obtain ⟨vs, q2, _⟩ := hC z hz; exact q2.neD q q1.symm) e) kT
  have kc : ∀ {i : Nat} {v : Option Value}, i ≠ 3 → CV D (k.L + i) v → CV D1 (k.L + i) v := fun hi q => q.mono fun o e => kp _ o (fun q => hi (Nat.add_left_cancel q)) (fun z hz q2 => by obtain ⟨vs, q3, _⟩ := hC z hz; exact q.neL q3 q2) e
  have kl : ∀ {l : Addr} {vs : List Value}, LV D l vs → (∀ z, (t.σ.own z).isSome = true → l ≠ ad z) → LV D1 l vs := fun q h => q.mono fun o e => kp _ o (Ne.symm (c3.neL q)) h e
  have c1 : CV D1 (k.L + 1) (some (.ref k.r.lN)) := kc (by decide) (X.st.c1.mono fun o e => offW_le _ o e)
  have c4 : CV D1 (k.L + 4) (some (.ref k.dT)) := kc (by decide) (X.st.c4.mono fun o e => offW_le _ o e)
  have c5 : CV D1 (k.L + 5) (some (.ref k.dD)) := kc (by decide) (X.st.c5.mono fun o e => offW_le _ o e)
  have c6 : CV D1 (k.L + 6) (some (.ref k.dK)) := kc (by decide) (X.st.c6.mono fun o e => offW_le _ o e)
  have hNl : LV D1 k.r.lN k.r.vN := kl (X.st.O.N.sub offW_le.sub) fun z hz => Ne.symm (X.sep z hz).1
  have hNk : KeysL prog w D1 k.r.nms k.r.vN := (X.st.O.K.mono offW_le.t).mono kT
  have hkl := hNk.length
  obtain ⟨xT, hT1, hT2, hT3⟩ := X.T.F
  replace hT1 : DK prog w D1 k.dT xT := kD hT1
  replace hT2 : ∀ z ∈ xT.map (·.1), z ∈ k.r.nms := hT2
  replace hT3 : ∀ z, look xT z = (t.σ.own z).map fun o => .ref (ad o) := hT3
  obtain ⟨xD, hD1, hD2⟩ := X.dD
  replace hD1 := kD hD1
  obtain ⟨xK, hK1, hK2, hK3⟩ := X.dK
  replace hK1 := kD hK1
  have hmT : (k.dT == sysModules) = false := F.notMods G (.inr (hK.new _ (by first | exact LK.m1 | exact LK.m2 | exact LK.m3 | exact LK.m4 | exact LK.m5 | exact LK.m6 | exact LK.m7 | exact LK.m8 | exact LK.m9)))
  have hxl := kvs_short hT1 hT2 hlen
  have hu20 : A.units + 20 < cLine := hR.u (by decide)
  have hDl : ∀ z l, t.dn z = some (some l) → ∃ ws, LV D1 (oL z) ws ∧ IntsL l ws := fun z l h => by
    obtain ⟨ws, a, b⟩ := X.st.Dl z l h
    exact ⟨ws, kl (a.sub offW_le.sub) fun y hy => (X.sep y hy).2.1 z l h, b⟩
  have hKl : ∀ z, (t.dn z).isSome = true → ∃ ws, LV D1 (kL z) ws ∧ KeysL prog w D1 (t.Kn z) ws := fun z h => by
    obtain ⟨ws, a, b⟩ := X.st.Kl z h
    exact ⟨ws, kl (a.sub offW_le.sub) fun y hy => (X.sep y hy).2.2 z h, (b.mono offW_le.t).mono kT⟩
  have hP : ∃ ps, D1 k.P = some (tabObj ps) := by
    obtain ⟨ps, e⟩ := X.st.T
    have e' := offW_le _ _ e
    refine ⟨ps, kp _ _ (fun q => ?_) (fun z hz q => ?_) e'⟩
    · obtain ⟨o, e2, d⟩ := c3
      rw [q, e2] at e'; injection e' with e'; subst e'; cases d
    · obtain ⟨vs, ⟨n, e2⟩, _⟩ := hC z hz
      rw [q, e2] at e'; simp [lstO, tabObj] at e'
  -- a told name
  have htold : ∀ z ∈ xT.map (·.1), ∃ o l, t.σ.own z = some o ∧ t.dn z = some (some l) ∧ t.σ.C o = l := fun z hz => by
    have hzn := hT2 z hz
    have h1 := look_isSome.mpr hz
    rw [hT3, Option.isSome_map] at h1
    cases e : t.dn z with
    | none => have := (hJ.wh z hzn e).2; rw [this] at h1; cases h1
    | some d =>
      cases d with
      | none => have := hJ.no z hzn e; rw [this] at h1; cases h1
      | some l =>
        obtain ⟨_, o, _, q1, _, q2, _⟩ := hJ.li z hzn l e
        exact ⟨o, l, q1, rfl, q2⟩
  have htk : k.r.nms.take k.r.vN.length = k.r.nms := List.take_of_length_le (by omega)
  refine wpAny_execs_cons (wpAny_Return_some (e_blt1 "all" (r_blt F G (by simp) boot_all ⟨rfl, e_lcompC F (cl := [("told", k.L + 4), ("names", k.L + 1), ("knots", k.L + 6), ("done", k.L + 5)]) (x := "x") (n := xT.length) (P := fun i v _ => ∃ p, xT[i]? = some p ∧ v = p.2.1)
    (fun _ _ vs => ∀ v ∈ vs, v = .bool true) ?_ hR.hand (by omega) (fun _ _ _ _ _ h => h) rfl (fun _ _ => rfl) (fun _ => rfl)⟩)))
  refine r_cell F rfl c4 ⟨D1, s, F, iterGives_dict F.fits hT1 hmT, (fun _ h => nomatch h), ?_, ?_⟩
  · rintro C i v vs vars' D2 s2 hi FC ⟨p, hp, rfl⟩ hI' hle ⟨v0, hcv⟩ hnew E'
    have hx := FC.tr.ext0
    have hpm := List.mem_of_getElem? hp
    have hzT : p.1 ∈ xT.map (·.1) := List.mem_map.mpr ⟨p, hpm, rfl⟩
    have hzn := hT2 _ hzT
    obtain ⟨o, l, ho, hdn, hCo⟩ := htold p.1 hzT
    have hoo := hwf _ o ho
    refine wpAny_assign_Name (r_stc FC rfl hcv (.inr hnew) fun oc s3 F3 hcx ht => ?_)
    have hne1 : ∀ {a : Addr} {o : Obj}, D1 a = some o → a ≠ C + 1 := fun {a o} e q => by
      have := FC.tr.fits0 a o e; rw [q, hnew] at this; cases this
    have hx3 : Ext0 D1 (D2.put (C + 1) oc) := fun a o e => by rw [Led.put_other (hne1 e)]; exact hx a o e
    have hkp3 : ∀ a o, a ≠ C + 1 → D2 a = some o → D2.put (C + 1) oc a = some o := fun a o h e => by rw [Led.put_other h]; exact e
    generalize D2.put (C + 1) oc = D3 at F3 hcx ht hx3 hkp3
    have hkz : KeyL prog w D3 p.1 p.2.1 := (hT1.keys p hpm).mono hx3.t
    refine wpAny_pure ?_
    refine ite_t rfl ?_
    have hl1 : look xT p.1 = some (.ref (ad o)) := by rw [hT3, ho]; rfl
    have hl2 : look xD p.1 = some (.ref (oL p.1)) := by rw [hD2]; simp [shV, hdn]
    have hl3 : look xK p.1 = some (.ref (kL p.1)) := hK3 p.1 (by show (t.dn p.1).isSome = true; rw [hdn]; rfl)
    obtain ⟨kw, kl1, kl2⟩ := hKl p.1 (by rw [hdn]; rfl)
    obtain ⟨dw, dl1, dl2⟩ := hDl p.1 l hdn
    obtain ⟨tw, tl1, tl2⟩ := hI o hoo
    have hcell : ∀ {c : Addr} {v : Option Value}, CV D1 c v → CV D3 c v := fun q => q.mono fun o e => hx3 _ o e
    have hKnn : ∀ y ∈ t.Kn p.1, y.ok := fun y hy => hK.P.ok y (X.knm p.1 (by show (t.dn p.1).isSome = true; rw [hdn]; rfl) y hy)
    refine wpAny_Compare1 (e_sub (r_cell F3 rfl (hcell c4) (r_cell F3 rfl hcx (r_itemD F3 (hT1.sub hx3.sub) hkz hl1 (hR.u (by decide)) fun s4 F4 => wpAny_BinOp (e_sub (r_cell F4 rfl (hcell c5) (r_cell F4 rfl hcx (r_itemD F4 (hD1.sub hx3.sub) hkz hl2 (hR.u (by decide)) fun s5 F5 => ?_))))))))
    refine e_lcomp F5 (cl := [("x", C + 1), ("knots", k.L + 6)]) (n := k.r.vN.length) (P := fun i v _ => k.r.vN[i]? = some v) (fun j D ws => ItsL prog w D (((k.r.nms.take j).filter fun y => decide (y ∈ t.Kn p.1)).map .inr) ws) ?_ hR.hand (by omega) (fun _ _ _ _ h x => x.mono h) rfl
    refine r_cell F5 rfl (hcell c1) ⟨D3, s5, F5, iterGives_list F5.fits (hNl.sub hx3.sub), trivial, ?_, ?_⟩
    · intro C2 j vy ws vars'' D4 s6 hj FC2 hvy hI2 hle2 E''
      obtain ⟨y, hy, hyk⟩ := hNk.getV hvy
      have hyn := List.mem_of_getElem? hy
      have hx4 := hx3.trans FC2.tr.ext0
      have hyk' := hyk.mono hx4.t
      have hfil := filter_take_succ (p := fun y => decide (y ∈ t.Kn p.1)) hy
      refine wpAny_assign_Name (r_st FC2 fun s7 F7 => ?_)
      refine ifs_one (wpAny_isTrue_Compare1 (r_nm F7 rfl (e_sub (r_cell F7 rfl (c6.mono fun o e => hx4 _ o e) (r_cell F7 rfl (hcx.mono fun o e => FC2.tr.ext0 _ o e) (r_itemD F7 (hK1.sub hx4.sub) (hkz.mono FC2.tr.ext0.t) hl3 (hR.u (by decide)) fun s8 F8 => r_inKeys F8 (kl1.sub hx4.sub) (kl2.mono hx4.t) hyk' hKnn (hK.P.ok y hyn) (hR.u (by decide)) (wpAny_truthy_bool ?_)))))))
      by_cases hm : y ∈ t.Kn p.1
      · simp only [hm, decide_true, if_true]
        refine Tuple_ (args_cons (wpAny_Constant_str (args_cons (r_nm (F8.toks _) rfl (args_nil (r_newTuple (F8.toks _) (by simp) fun lt s9 hlt1 hlt2 F9 => ?_))))))
        have hx9 : Ext0 D4 (D4.put lt (tupO [Value.str "knot" s8.toks, vy].toArray 0)) := .new hlt1
        refine ⟨_, _, F9, hx9, ?_⟩
        rw [hfil]
        simp only [hm, decide_true, if_true, List.map_append, List.map_cons, List.map_nil]
        exact (hI2.mono hx9.t).append ⟨⟨lt, _, s8.toks, vy, 0, rfl, Led.put_same, rfl, rfl, hyk'.mono hx9.t⟩, trivial⟩
      · simp only [hm, decide_false, Bool.false_eq_true, if_false]
        refine ⟨_, D4, F8, .refl _, ?_⟩
        rw [hfil]
        simp only [hm, decide_false, Bool.false_eq_true, if_false, List.append_nil]
        exact hI2
    · intro lk wk D4 s6 F6 hx4 hn1 hn2 hLv hIk hle2
      rw [htk] at hIk
      have hx14 := hx3.trans hx4
      have zl : dw.length + wk.length ≤ 1000000 := by
        have e1 := dl2.length
        have e2 := (hJ.li p.1 hzn l hdn).1.len
        omega
      refine r_addL F6 (dl1.sub hx14.sub) hLv zl fun lr s7 hr1 hr2 F7 => ?_
      have hx7 : Ext0 D4 (D4.put lr (lstO (dw ++ wk).toArray 0)) := .new hr1
      have heq : itemsOf t.σ k.r.nms o = l.map Sum.inl ++ (k.r.nms.filter fun y => decide (y ∈ t.Kn p.1)).map Sum.inr := by
        unfold itemsOf
        rw [hCo]
        congr 2
        refine List.filter_congr fun y hy => ?_
        have := hJ.kn p.1 hzn l hdn y hy
        rw [ho] at this
        exact (decide_eq_decide.mpr this).symm
      have r1 : ItsL prog w (D4.put lr (lstO (dw ++ wk).toArray 0)) (itemsOf t.σ k.r.nms o) tw := (tl2.mono hx14.t).mono hx7.t
      have r2 : ItsL prog w (D4.put lr (lstO (dw ++ wk).toArray 0)) (itemsOf t.σ k.r.nms o) (dw ++ wk) := by
        rw [heq]; exact (ItsL.append (ItsL.ints dl2) hIk).mono hx7.t
      refine list_eq F7.fits ((tl1.sub hx14.sub).sub hx7.sub) LV.put_same (readsAll_its F7.fits r1) (readsAll_its F7.fits r2) (lay_its _ fun y hy => ?_) hu20 (by have := depth_its (itemsOf t.σ k.r.nms o); omega) ?_
      · unfold itemsOf at hy
        rcases List.mem_append.mp hy with hy | hy
        · obtain ⟨_, _, q⟩ := List.mem_map.mp hy; cases q
        · obtain ⟨y', q1, q2⟩ := List.mem_map.mp hy
          injection q2 with q2; subst q2
          exact hK.P.ok _ (List.mem_filter.mp q1).1
      · refine ⟨_, _, F7, fun a o h e => hx7 _ _ (hx4 _ _ (hkp3 a o h e)), ⟨_, hcx.mono fun o e => hx7 _ _ (hx4 _ o e)⟩, fun v hv => ?_⟩
        rcases List.mem_append.mp hv with hv | hv
        · exact hI' v hv
        · rw [List.mem_singleton] at hv; exact hv
  · intro la vs D2 s2 F2 hx2 hn1 hn2 hLv hvs hle
    refine r_all F2 hLv hvs hR.hand fun s3 F3 => hQ D2 s3 F3 ?_
    obtain ⟨ps, e⟩ := hP
    exact ⟨ps, hx2 _ _ e⟩
end
end Mine
end

section
open PySem PySem.W PyProof.Rows
set_option Elab.async false
set_option maxRecDepth 100000
namespace Mine
section
variable {prog : Program} {w : World} {A : Around} {h₁ : Heap} {mg mb : Str → Option Value} {D : Led} {s : Shared}
/-- a call of a def with cells, one plain argument, as code -/
theorem c_callC {name : Str} {params : Arguments} {body : List Stmt} {scope : Scope} {pm cd doc : Value} {a : Addr} {o : Obj} {x : Str} {v : Value} {W' : List Addr} {R : Result → Shared → Prop}
    (hF : Fits D s) (hB : ∀ a o, hLed h₁ a = some o → D a = some o) (hW : ∀ b ∈ W', hLed h₁ b = none)
    (G : Glo h₁ mg mb) (ho : h₁.get? a = some o) (hdata : o.data = .func (PySem.Calls.docDef name params body scope pm cd doc)) (hcd : h₁.CodeRec cd name)
    (hroom : A.depth < recursionLimit)
    (hbind : bindArgs (PySem.Calls.docDef name params body scope pm cd doc) ⟨[v], []⟩ = pure [(x, v)])
    (hloc : scope.names.lookup x = some .local)
    (h : ∀ s' D', At (hLed h₁) W' D s s.heap.objs.size [(x, v)] D' s' → Ext0 D D' →
      (∀ n c, (cellsFrom (s.heap.objs.size + 1) scope.names []).lookup n = some c → CV D' c none ∧ s.heap.get? c = none) →
      wpAny (model prog w) (A.deeper (envOfC name scope s.heap.objs.size a cd)) (execs body (envOfC name scope s.heap.objs.size a cd))
        (fun f s'' => R (.ok (.ret (match f with | .ret v => v | _ => .none))) s'') (fun _ _ => False) s')
    (hco : scope.isCoroutine = false) (hgen : scope.isGenerator = false) (hk : scope.kind = .function) :
    codeAny (model prog w) A (.call (.ref a) ⟨[v], []⟩) R s := by
  have kept : ∀ b o, h₁.get? b = some o → s.heap.get? b = some o := fun b o e => hF b o (hB b o e)
  have hkx : (envOfC name scope s.heap.objs.size a cd).kindOf x = some .local := hloc
  refine call_cells_ret hroom (kept _ _ ho) hdata (G.lim.keeps kept) (hcd.keeps kept) hbind (fun y hy => by rw [List.mem_singleton] at hy; subst hy; exact .inl hloc) (fun h' tk Fr' X => ?_) hco hgen hk
  have hnew : ∀ n c, (cellsFrom (s.heap.objs.size + 1) scope.names []).lookup n = some c → s.heap.get? c = none := fun n c e => get?_ge (Nat.le_of_lt (X.above n c (PySem.mem_of_lookup e)))
  have T := Tr.redo (W := []) (N := (cellsFrom (s.heap.objs.size + 1) scope.names []).map (·.2)) (h' := h') hF (fun b o _ e => Fr'.keep b o e) (fun _ q => nomatch q) (fun b hb => by
    obtain ⟨⟨n, c⟩, hm, rfl⟩ := List.mem_map.mp hb
    exact get?_ge (Nat.le_of_lt (X.above n c hm))) tk
  refine wpAny_mono (h _ _ ⟨T.weaken (fun b hb => nomatch hb), ⟨_, Fr'.ns, fun p hp => ?_⟩, get?_ge (Nat.le_refl _), ?_, fun a o e => T.ext0 a o (hB a o e), hB, hW⟩ T.ext0 fun n c e => ⟨?_, hnew n c e⟩) (fun _ _ x => x) fun _ _ x => x
  · rw [List.mem_singleton] at hp; subst hp
    simp [bindL, hkx]
  · show (if _ ∨ _ then _ else _) = _
    rw [if_neg ?_]
    · exact hF.fresh (Nat.le_refl _)
    · rintro (q | q)
      · cases q
      · obtain ⟨⟨n, c⟩, hm, e⟩ := List.mem_map.mp q
        exact Nat.lt_irrefl _ (e ▸ X.above n c hm)
  · obtain ⟨oc, hoc, hd⟩ := X.cell n c e
    refine ⟨oc, ?_, ?_⟩
    · show (if _ ∨ _ then _ else _) = _
      rw [if_pos (.inr (List.mem_map.mpr ⟨(n, c), PySem.mem_of_lookup e, rfl⟩))]; exact hoc
    · rw [hd]; simp [bindC, hkx]
/-- law(script) gives True -/
theorem law_ok (G : Glo h₁ mg mb) {a c P : Addr} {o : Obj} {pm doc : Value} {R : Result → Shared → Prop} {l : Addr} {vs : List Value} {ns : List Int} (hR : Room A 41)
    (hbm : ∃ bm o, mg "__builtins__" = some (.ref bm) ∧ bm ≠ builtinsNs ∧ bm ≠ mainGlobals ∧ h₁.get? bm = some o ∧ o.cls = .type "module" ∧ o.dict = some builtinsNs ∧ o.data = .plain)
    (hC : CodeHd h₁ c P) (hPh : h₁.get? P = none) (ho : h₁.get? a = some o) (hdata : o.data = .func (PySem.Calls.docDef "law" (fParams (fnAt 8)) (fBody (fnAt 8)) (fScope (fnAt 8)) pm (.ref c) doc)) (hcd : h₁.CodeRec (.ref c) "law")
    (hle : ∀ b o, h₁.get? b = some o → s.heap.get? b = some o) (hP : s.heap.get? P = some (tabObj #[])) (hl : s.heap.IsList l vs.toArray) (hi : IntsAre vs ns) (hz : vs.length ≤ 1000)
    (hQ : ∀ s', (∀ b o, b ≠ P → s.heap.get? b = some o → s'.heap.get? b = some o) → (∃ ps, s'.heap.get? P = some (tabObj ps)) → s'.os = s.os → s'.gens = s.gens → R (.ok (.ret (.bool true))) s') :
    codeAny (model prog w) A (.call (.ref a) ⟨[.ref l], []⟩) R s := by
  obtain ⟨ad, od, pmd, cdd, docd, hmd, hod, hdd, hcdd⟩ := G.drawn
  refine c_callC (D := hLed s.heap) (x := "script") (W' := [P]) (fun _ _ e => e) hle (fun b hb => by rw [List.mem_singleton] at hb; subst hb; exact hPh) G ho hdata hcd hR.d rfl rfl ?_ rfl rfl rfl
  intro s1 D1 F1 hx1 hcells
  have hR1 : Room (A.deeper (envOfC "law" (fScope (fnAt 8)) s.heap.objs.size a (.ref c))) 40 := hR.deeper
  generalize (A.deeper (envOfC "law" (fScope (fnAt 8)) s.heap.objs.size a (.ref c))) = A1 at hR1
  have C1 : Cells s.heap.objs.size (fun _ => none) D1 := fun (i : Nat) (h1 : (1 : Nat) ≤ i) (h2 : i ≤ (11 : Nat)) => by
    have : i = 1 ∨ i = 2 ∨ i = 3 ∨ i = 4 ∨ i = 5 ∨ i = 6 ∨ i = 7 ∨ i = 8 ∨ i = 9 ∨ i = 10 ∨ i = 11 := by omega
    rcases this with rfl | rfl | rfl | rfl | rfl | rfl | rfl | rfl | rfl | rfl | rfl
    · exact (hcells "names" _ rfl).1
    · exact (hcells "shut" _ rfl).1
    · exact (hcells "x" _ rfl).1
    · exact (hcells "told" _ rfl).1
    · exact (hcells "done" _ rfl).1
    · exact (hcells "knots" _ rfl).1
    · exact (hcells "reach" _ rfl).1
    · exact (hcells "asked" _ rfl).1
    · exact (hcells "begun" _ rfl).1
    · exact (hcells "edges" _ rfl).1
    · exact (hcells "values" _ rfl).1
  have hc0 : ∀ i, 1 ≤ i → i ≤ 11 → s.heap.get? (s.heap.objs.size + i) = none := fun i _ _ => get?_ge (Nat.le_add_right _ _)
  have hl1 : s1.heap.IsList l vs.toArray := hl.at fun o e => F1.get (hx1 _ o e)
  refine law_start (hR := hR1.less (by decide)) G hbm hC hPh (hx1 _ _ hP) hmd hod hdd hcdd F1 C1 hc0 hl1 hi hz fun k adF oL kL D2 s2 hL ha hcd2 hPk hK X F2 => ?_
  rw [← ha, ← hcd2]
  rw [← hL] at F2 ⊢
  refine law_loop G hK hR1 F2 X (J0 hK.P) fun t ad2 oL2 kL2 D3 s3 F3 X3 hJ => ?_
  refine law_knot G hK hR1 F3 X3 hJ fun D4 s4 F4 kp4 hI4 => ?_
  refine law_ret G hK hR1 F4 X3 hJ kp4 hI4 fun D5 s5 F5 hT5 => ?_
  obtain ⟨ps, e⟩ := hT5
  exact hQ s5 (fun b o hb e => F5.tr.keep b o (by simpa using hb) e) ⟨ps, F5.get (hPk ▸ e)⟩ F5.tr.os F5.tr.gens
end
end Mine
end

section
open PySem PySem.W PyProof.Rows
set_option Elab.async false
set_option maxRecDepth 100000
namespace Mine
section
variable {h : Heap} {tabs : List (Addr × Addr)} {mg mb : Str → Option Value} {p : Program} {loose : List Str} {mean : ExcName → Option Value}
theorem ghost_rec {cd : Value} {q : Str} (hT : TabsAt tabs h) (x : h.CodeRec cd q) : (ghostOf h tabs).CodeRec cd q := by
  obtain ⟨c, o, vs, t, e, e1, e2, e3⟩ := x
  refine ⟨c, o, vs, t, e, ghost_get hT e1 (fun q => ?_), e2, e3⟩
  rw [q] at e2
  injection e2 with e2
  rw [← e2] at e3
  simp at e3
theorem ghost_func {a : Addr} {o : Obj} {fd : FuncData} (hT : TabsAt tabs h) (e : h.get? a = some o) (hd : o.data = .func fd) : (ghostOf h tabs).get? a = some o :=
  ghost_get hT e fun q => by rw [q] at hd; cases hd
theorem fnIs_of (hT : TabsAt tabs h) (T : Top p loose mean mg mb h) {d : DefRec} {name : Str} {i : Nat} (hr : (recsOf p).find? (fun e => e.name == name) = some d)
    (h1 : d.params = fParams (fnAt i)) (h2 : d.body = fBody (fnAt i)) (h3 : d.scope = fScope (fnAt i)) : FnIs (ghostOf h tabs) mg name i := by
  have hn : d.name = name := beq_iff_eq.mp (List.find?_some (p := fun e : DefRec => e.name == name) hr)
  obtain ⟨a, o, pm, cd, doc, e1, e2, e3, e4⟩ := T.fn d (List.mem_of_find?_eq_some hr)
  rw [hn, h1, h2, h3] at e3
  rw [hn] at e1 e4
  exact ⟨a, o, pm, cd, doc, e1, ghost_func hT e2 e3, e3, ghost_rec hT e4⟩
theorem glo_of (hT : TabsAt tabs h) (T : Top p loose mean mg mb h) (hi : importsNone p = true)
    (hm : ∀ x ∈ (["len", "min", "list", "range", "enumerate", "all"] : List Str), x ∉ startupNames ∧ x ∉ loose ∧ x ∉ (recsOf p).map (·.name) ∧ x ∉ (litsOf p).map (·.1) ∧ x ∉ (clssOf p loose).map (·.name))
    (hx : valOf p "MAXINT" = some (.int 9223372036854775807))
    (f2 : FnIs (ghostOf h tabs) mg "traverse" 2) (f4 : FnIs (ghostOf h tabs) mg "_law_drawn" 4) (f5 : FnIs (ghostOf h tabs) mg "_law_walked" 5) (f6 : FnIs (ghostOf h tabs) mg "_law_said" 6) (f7 : FnIs (ghostOf h tabs) mg "_law_once" 7) :
    Glo (ghostOf h tabs) mg mb where
  g := ghost_ns hT T.g
  b := ghost_ns hT T.b
  lim := let ⟨mc, a, r⟩ := T.nolimit; ⟨mc, ghost_ns hT a, r⟩
  mods := let ⟨mm, a, _⟩ := (T.seer hi).mods; let ⟨o, _, _, e, _⟩ := ghost_ns hT a; ⟨o, e⟩
  blt := T.builtins
  miss := fun x hx => let ⟨a, b, c, d, e⟩ := hm x hx; T.free x a b c d e
  maxint := by
    obtain ⟨v, e, r⟩ := T.const _ _ hx
    cases r default with
    | int i t => exact ⟨t, e⟩
  trv := f2
  drawn := f4
  walked := f5
  said := f6
  once := f7
theorem bmain_of (hT : TabsAt tabs h) (T : Top p loose mean mg mb h) : ∃ bm o, mg "__builtins__" = some (.ref bm) ∧ bm ≠ builtinsNs ∧ bm ≠ mainGlobals ∧ (ghostOf h tabs).get? bm = some o ∧ o.cls = .type "module" ∧ o.dict = some builtinsNs ∧ o.data = .plain := by
  obtain ⟨bm, ob, b1, b2, b3, b4, b5, b6⟩ := T.bmain
  refine ⟨bm, ob, b1, b2, fun q => ?_, ghost_get hT b3 (fun q => by rw [q] at b4; cases b4), b4, b5, b6⟩
  obtain ⟨o, es, ep, e, hd, _⟩ := T.g
  rw [q, e] at b3; cases b3; rw [hd] at b6; cases b6
end
theorem tab_at {h : Heap} {mg mb : Str → Option Value} {p : Program} {loose : List Str} {mean : ExcName → Option Value} (T : Top p loose mean mg mb h) {d : DefRec} {name : Str} {fa : Addr} {o : Obj} {fd : FuncData} (hr : (recsOf p).find? (fun e => e.name == name) = some d)
    (hmg : mg name = some (.ref fa)) (ho : h.get? fa = some o) (hd : o.data = .func fd) : ∃ c P, fd.code = .ref c ∧ TabsAt [(c, P)] h := by
  have hn : d.name = name := beq_iff_eq.mp (List.find?_some (p := fun e : DefRec => e.name == name) hr)
  obtain ⟨a, o', fd', c, P, e1, e2, e3, e4, e5, e6⟩ := T.tab d (List.mem_of_find?_eq_some hr)
  rw [hn, hmg] at e1
  cases e1
  rw [ho] at e2
  cases e2
  rw [hd] at e3
  cases e3
  exact ⟨c, P, e4, fun q hq => by rw [List.mem_singleton] at hq; subst hq; exact ⟨CodeHd.of e5 e6, e6.2⟩⟩
/-- the part of the text that the law reaches -/
def lawView : Program := { PySem.Challenge.pw_qb0001_01 with main := { PySem.Challenge.pw_qb0001_01.main with body := [fnAt 1, fnAt 2, fnAt 4, fnAt 5, fnAt 6, fnAt 7, fnAt 8] } }
theorem post_ok (a b : List WData) : PySem.Challenge.rw_qb0001_01.row.claim.post a (WData.bool true) b = true := by kernel_rfl
/-- the law, called by the claim's caller -/
theorem law_run {prog : Program} {w : World} {s : Shared} {mg mb : Str → Option Value} {c P a l : Addr} {o : Obj} {pm doc : Value} {vs : List Value} {ns : List Int} {R : Result → Shared → Prop} (hT : TabsAt [(c, P)] s.heap) (G : Glo (ghostOf s.heap [(c, P)]) mg mb)
    (hbm : ∃ bm o, mg "__builtins__" = some (.ref bm) ∧ bm ≠ builtinsNs ∧ bm ≠ mainGlobals ∧ (ghostOf s.heap [(c, P)]).get? bm = some o ∧ o.cls = .type "module" ∧ o.dict = some builtinsNs ∧ o.data = .plain)
    (ho : s.heap.get? a = some o) (hdata : o.data = .func (PySem.Calls.docDef "law" (fParams (fnAt 8)) (fBody (fnAt 8)) (fScope (fnAt 8)) pm (.ref c) doc)) (hcd : s.heap.CodeRec (.ref c) "law")
    (hl : s.heap.IsList l vs.toArray) (hi : IntsAre vs ns) (hz : vs.length ≤ 1000)
    (hQ : ∀ s', (∀ b o, (ghostOf s.heap [(c, P)]).get? b = some o → s'.heap.get? b = some o) → GrownAll [(c, P)] s'.heap → s'.os = s.os → s'.gens = s.gens → R (.ok (.ret (.bool true))) s') :
    codeAny (model prog w) callerA (.call (.ref a) ⟨[.ref l], []⟩) R s := by
  have hC : CodeHd (ghostOf s.heap [(c, P)]) c P := (ghost_code hT).1
  have hPh : (ghostOf s.heap [(c, P)]).get? P = none := hideAll_none _ (by simp)
  refine law_ok G (A := callerA) ⟨rfl, by decide, by decide⟩ hbm hC hPh (ghost_func hT ho hdata) hdata (ghost_rec hT hcd) (fun b o e => of_hideAll _ e) (hT (c, P) (by simp)).2 hl hi hz fun s' h1 h2 h3 h4 => ?_
  refine hQ s' (fun b o e => h1 b o (fun q => by rw [q, hPh] at e; cases e) (of_hideAll _ e)) ⟨?_, trivial⟩ h3 h4
  exact h2
end Mine
end

open PySem PySem.W PyProof.Rows
open Mine in
set_option maxRecDepth 100000 in
set_option maxHeartbeats 8000000 in
theorem PySem.Challenge.cw_qb0001_01_holds : PySem.Challenge.rw_qb0001_01.Holds := by
  refine holds_law ?ok fun said => ?_
  case ok =>
    unfold OpenLaw.wellSaid OpenRow.wellSaid OpenRow.partSaid looksOpen
    repeat (with_reducible refine look_both ?_ ?_)
    all_goals decide +kernel
  refine holds_open (q := lawView) (loose := []) (Xt := fun s => xlAt lawView [] s && recOk (RowW.records PySem.Challenge.rw_qb0001_01.row.toRowW) s) (XP := XL lawView []) (Yf := Hook.obs Hook.none) (Ya := Hook.val Hook.none) (YP := Hook.says Hook.none) (N := 880)
    ?hl (Hook.of Hook.none) (Hook.keeps Hook.none) (fun s e => xl_of s (Bool.and_eq_true_iff.mp e).1) XL.keeps (by rfl) (by rfl) (by rfl) (fun s e => recFacts_of (Bool.and_eq_true_iff.mp e).2) (by rfl) (by assumption) (by decide +kernel) ⟨rfl, rfl, rfl, rfl, rfl, by decide +kernel⟩ ?hw ?hc
  case hl => intro w; kernel_rfl
  case hw => w_witness2
  intro w s₀ s₁ mg mb G Y fa o pm cd doc dV kV ho hdat hcd hD hmg hg args vals as hpre hlay hrd hwl hlo
  refine Ground.open G ?_
  intro T B D TE TW
  clear G Y B TE TW D
  have hkV : kV = .none := Dflts.noKw hD
  have hdV : dV = .none := hD.pos.elim (·.2) fun y => absurd rfl y.1
  subst hkV
  subst hdV
  obtain ⟨c, P, he, hT⟩ := tab_at T (name := "law") rfl hmg ho hdat
  have he' : cd = .ref c := he
  subst he'
  have hdat' : o.data = .func (PySem.Calls.docDef "law" (fParams (fnAt 8)) (fBody (fnAt 8)) (fScope (fnAt 8)) pm (.ref c) doc) := hdat
  have hcd' : s₁.heap.CodeRec (.ref c) "law" := hcd
  have f2 : FnIs (ghostOf s₁.heap [(c, P)]) mg "traverse" 2 := fnIs_of hT T (name := "traverse") (i := 2) rfl rfl rfl rfl
  have f4 : FnIs (ghostOf s₁.heap [(c, P)]) mg "_law_drawn" 4 := fnIs_of hT T (name := "_law_drawn") (i := 4) rfl rfl rfl rfl
  have f5 : FnIs (ghostOf s₁.heap [(c, P)]) mg "_law_walked" 5 := fnIs_of hT T (name := "_law_walked") (i := 5) rfl rfl rfl rfl
  have f6 : FnIs (ghostOf s₁.heap [(c, P)]) mg "_law_said" 6 := fnIs_of hT T (name := "_law_said") (i := 6) rfl rfl rfl rfl
  have f7 : FnIs (ghostOf s₁.heap [(c, P)]) mg "_law_once" 7 := fnIs_of hT T (name := "_law_once") (i := 7) rfl rfl rfl rfl
  have GG : Glo (ghostOf s₁.heap [(c, P)]) mg mb := glo_of hT T (by decide +kernel) (by decide +kernel) rfl f2 f4 f5 f6 f7
  have hbm := bmain_of hT T
  clear hdat hcd hD hmg f2 f4 f5 f6 f7 T
  wrow_args hpre hlay hrd hwl hlo
  rename Heap.IsList _ _ _ => hL
  rename IntsAre _ _ => hI
  rename ¬ _ < _ => hz
  refine enter_call ?_
  refine kn_post hT (fun _ _ => rfl) ?_
  refine law_run hT GG hbm ho hdat' hcd' hL hI (by have := hI.length; omega) fun s' h1 h2 h3 h4 => ?_
  refine ⟨⟨.inl ⟨.bool true, .bool true, [], rfl, fun _ => rfl, .bool true, post_ok _ _, fun _ => ⟨List.nodup_nil, fun _ h => nomatch h⟩⟩, h1, h3, ?_⟩, h2⟩
  rw [h4, hg]
