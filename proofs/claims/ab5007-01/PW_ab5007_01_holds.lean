import PyProof.Rows.All
import Wide.All
import OpenK.AllK
import Wide.FinOn
import PySem.Challenge.RW_ab5007_01
set_option Elab.async false
set_option linter.all false
set_option maxRecDepth 100000
set_option maxHeartbeats 8000000
set_option rowWalk.seconds 1700
set_option pp.deepTerms false
set_option pp.deepTerms.threshold 3
set_option pp.proofs.threshold 0
namespace Mine
open PySem PySem.W PyProof.Rows
open_top hd for PySem.Challenge.rw_ab5007_01
end Mine
namespace Mine
open PySem PySem.W PyProof.Rows
/-! items: nine of them, by their numbers -/
def dat (k : Fin 9) : PyData := match k.val with
  | 0 => .int 0 | 1 => .int 1 | 2 => .int 2 | 3 => .int 3 | 4 => .int 4
  | 5 => .str (Str.ofString "a") | 6 => .str (Str.ofString "b")
  | 7 => .tuple [.int 1, .str (Str.ofString "a")] | _ => .tuple [.int 2]
theorem dat_eqv (a b : Fin 9) : PyData.eqv (dat a) (dat b) = decide (a = b) := by revert a b; decide +kernel
theorem dat_lay (a : Fin 9) : (dat a).canLay0 = true := by revert a; decide +kernel
theorem dat_depth (a : Fin 9) : (dat a).depth ≤ 1 := by revert a; decide +kernel
def ItemAt (h : Heap) (v : Value) (k : Fin 9) : Prop := ∃ as, Reads h v (dat k) as

theorem value_isInt_str {i : Int} {x : Str} {t : Tok} (h : Value.isInt i (.str x t) = true) : False := by simp [Value.isInt] at h
def mixIs : Int ⊕ Str → Value → Bool
  | .inl i, v => Value.isInt i v
  | .inr x, v => Value.isStrOf x v
theorem mix_shape {k : Int ⊕ Str} {v : Value} (h : mixIs k v = true) : (∃ i t, k = .inl i ∧ v = .int i t) ∨ ∃ x t, k = .inr x ∧ v = .str x t := by
  cases k with
  | inl i => obtain ⟨t, rfl⟩ := Value.isInt_shape h; exact .inl ⟨i, t, rfl, rfl⟩
  | inr x => obtain ⟨t, rfl⟩ := Value.isStrOf_shape h; exact .inr ⟨x, t, rfl, rfl⟩
section
variable {prog : Program} {w : World} {A : Around} {E : Value → Shared → Prop} {s : Shared}
theorem eqBool_int_str {i : Int} {t : Tok} {x : Str} {u : Tok} {Q : Bool → Shared → Prop} (h : Q false s) : wpAny (model prog w) A (eqBool (.int i t) (.str x u)) Q E s := by
  unfold eqBool
  try with_reducible refine wpAny_holding ?_
  show wpAny _ _ (if (Value.int i t == Value.str x u) = true then _ else _) Q E s
  rw [if_neg (by simp)]
  exact wpAny_bind (m := richCompare _ _ _) (EqMixed.eq_int_str (wpAny_truthy_bool h))
theorem eqBool_str_int {i : Int} {t : Tok} {x : Str} {u : Tok} {Q : Bool → Shared → Prop} (h : Q false s) : wpAny (model prog w) A (eqBool (.str x u) (.int i t)) Q E s := by
  unfold eqBool
  try with_reducible refine wpAny_holding ?_
  show wpAny _ _ (if (Value.str x u == Value.int i t) = true then _ else _) Q E s
  rw [if_neg (by simp)]
  exact wpAny_bind (m := richCompare _ _ _) (EqMixed.eq_str_int (wpAny_truthy_bool h))
end
theorem beq_inl (i j : Int) : (i == j) = decide ((Sum.inl i : Int ⊕ Str) = Sum.inl j) := by by_cases e : i = j <;> simp [e]
theorem dec_inr (x y : Str) : decide (x = y) = decide ((Sum.inr x : Int ⊕ Str) = Sum.inr y) := by by_cases e : x = y <;> simp [e]
theorem readsAll_one {h : Heap} {l : List Value} {x : PyData} {as : List Addr} (r : ReadsAll h l [x] as) : ∃ u as, l = [u] ∧ Reads h u x as := by
  cases r with
  | cons r1 r2 => cases r2; exact ⟨_, _, rfl, r1⟩
theorem readsAll_two {h : Heap} {l : List Value} {x y : PyData} {as : List Addr} (r : ReadsAll h l [x, y] as) : ∃ u v as bs, l = [u, v] ∧ Reads h u x as ∧ Reads h v y bs := by
  cases r with
  | cons r1 r2 => cases r2 with
    | cons r3 r4 => cases r4; exact ⟨_, _, _, _, rfl, r1, r3⟩
theorem eqBool_mix {prog : Program} {w : World} {A : Around} {E : Value → Shared → Prop} {s : Shared} {a b : Int ⊕ Str} {u v : Value} {Q : Bool → Shared → Prop} (hu : mixIs a u = true) (hv : mixIs b v = true) (h : Q (decide (a = b)) s) :
    wpAny (model prog w) A (PySem.eqBool u v) Q E s := by
  rcases mix_shape hu with ⟨i, t, rfl, rfl⟩ | ⟨x, t, rfl, rfl⟩ <;> rcases mix_shape hv with ⟨j, t', rfl, rfl⟩ | ⟨y, t', rfl, rfl⟩
  · exact wpAny_eqBool_int (by rw [beq_inl]; exact h)
  · exact eqBool_int_str (by simpa using h)
  · exact eqBool_str_int (by simpa using h)
  · exact wpAny_eqBool_str (by rw [dec_inr]; exact h)
def mixKind (prog : Program) (w : World) : KeyKind prog w (Int ⊕ Str) where
  is := mixIs
  hash := fun k => match k with | .inl i => hashInt i | .inr x => hashStr w x
  inj := fun v a b ha hb => by
    rcases mix_shape ha with ⟨i, t, rfl, rfl⟩ | ⟨x, t, rfl, rfl⟩ <;> rcases mix_shape hb with ⟨j, u, rfl, e⟩ | ⟨y, u, rfl, e⟩ <;> cases e <;> rfl
  byValue := fun k v h => by rcases mix_shape h with ⟨i, t, rfl, rfl⟩ | ⟨x, t, rfl, rfl⟩ <;> rfl
  pyHash := fun hv h => by
    rcases mix_shape hv with ⟨i, t, rfl, rfl⟩ | ⟨x, t, rfl, rfl⟩
    · exact wpAny_pyHash_int h
    · exact wpAny_pyHash_str h
  eqBool := fun hu hv h => eqBool_mix hu hv h
  «strs» := fun k x t v h => by
    rcases mix_shape h with ⟨i, u, rfl, e⟩ | ⟨y, u, rfl, e⟩
    · cases e
    · cases e; cases v <;> simp [mixIs, Value.isStrOf, Value.isStr]
def keyOf (k : Fin 9) : (Int ⊕ Str) ⊕ List (Int ⊕ Str) := match k.val with
  | 0 => .inl (.inl 0) | 1 => .inl (.inl 1) | 2 => .inl (.inl 2) | 3 => .inl (.inl 3) | 4 => .inl (.inl 4)
  | 5 => .inl (.inr (Str.ofString "a")) | 6 => .inl (.inr (Str.ofString "b"))
  | 7 => .inr [.inl 1, .inr (Str.ofString "a")] | _ => .inr [.inl 2]
def ih (prog : Program) (w : World) (k : Fin 9) : Int := match keyOf k with
  | .inl f => (mixKind prog w).hash f
  | .inr ks => tupleKeyHash (mixKind prog w) ks
theorem item_kinds (prog : Program) (w : World) {h : Heap} {v : Value} {k : Fin 9} (x : ItemAt h v k) :
    (∃ f, keyOf k = .inl f ∧ mixIs f v = true) ∨ ∃ ks a, keyOf k = .inr ks ∧ v = .ref a ∧ IsTupleKey (mixKind prog w) h ks a := by
  obtain ⟨as, r⟩ := x
  obtain ⟨k, hk⟩ := k
  have : k = 0 ∨ k = 1 ∨ k = 2 ∨ k = 3 ∨ k = 4 ∨ k = 5 ∨ k = 6 ∨ k = 7 ∨ k = 8 := by omega
  rcases this with rfl | rfl | rfl | rfl | rfl | rfl | rfl | rfl | rfl
  · cases r; exact .inl ⟨_, rfl, by simp [mixIs, Value.isInt]⟩
  · cases r; exact .inl ⟨_, rfl, by simp [mixIs, Value.isInt]⟩
  · cases r; exact .inl ⟨_, rfl, by simp [mixIs, Value.isInt]⟩
  · cases r; exact .inl ⟨_, rfl, by simp [mixIs, Value.isInt]⟩
  · cases r; exact .inl ⟨_, rfl, by simp [mixIs, Value.isInt]⟩
  · cases r; exact .inl ⟨_, rfl, by simp [mixIs, Value.isStrOf]⟩
  · cases r; exact .inl ⟨_, rfl, by simp [mixIs, Value.isStrOf]⟩
  · cases r with
    | tuple h1 h2 h3 h4 =>
      refine .inr ⟨_, _, rfl, rfl, _, _, _, h1, h2, h3, ?_⟩
      obtain ⟨u, v, _, _, e, r1, r2⟩ := readsAll_two h4
      rw [e]; cases r1; cases r2
      exact .cons (by simp [mixKind, mixIs, Value.isInt]) (.cons (by simp [mixKind, mixIs, Value.isStrOf]) .nil)
  · cases r with
    | tuple h1 h2 h3 h4 =>
      refine .inr ⟨_, _, rfl, rfl, _, _, _, h1, h2, h3, ?_⟩
      obtain ⟨u, _, e, r1⟩ := readsAll_one h4
      rw [e]; cases r1
      exact .cons (by simp [mixKind, mixIs, Value.isInt]) .nil
section
variable {prog : Program} {w : World} {A : Around} {E : Value → Shared → Prop} {s : Shared}
theorem pyHash_item {v : Value} {k : Fin 9} {Q : Int → Shared → Prop} (hu : A.units < cLine) (x : ItemAt s.heap v k) (h : ∀ tk, Q (ih prog w k) { s with toks := tk }) : wpAny (model prog w) A (pyHash v) Q E s := by
  rcases item_kinds prog w x with ⟨f, e, hf⟩ | ⟨ks, a, e, rfl, hk⟩
  · exact (mixKind prog w).pyHash hf (by have := h (s.toks + 1); unfold ih at this; rw [e] at this; exact this)
  · exact wpAny_pyHash_tuple hu hk (by have := h (s.toks + (ks.length + 1)); unfold ih at this; rw [e] at this; exact this)
theorem eqBool_item {u v : Value} {a b : Fin 9} {Q : Bool → Shared → Prop} (hu : A.units + 1 < cLine) (x : ItemAt s.heap u a) (y : ItemAt s.heap v b) (h : Q (decide (a = b)) s) : wpAny (model prog w) A (eqBool u v) Q E s := by
  obtain ⟨as, rx⟩ := x
  obtain ⟨bs, ry⟩ := y
  refine SeqAt.eqBoolOverData prog w A E s u v _ _ _ _ Q rx ry (dat_lay a) (dat_lay b) ?_ (by rw [dat_eqv]; exact h)
  have := Nat.min_le_left (dat a).depth (dat b).depth
  have := dat_depth a
  omega
theorem quiet_item {v : Value} {k : Fin 9} {Q : Bool → Shared → Prop} (x : ItemAt s.heap v k) (h : Q true s) : wpAny (model prog w) A (eqIsQuiet 8 v) Q E s := by
  rcases item_kinds prog w x with ⟨f, e, hf⟩ | ⟨ks, a, e, rfl, hk⟩
  · rw [eqIsQuiet_byValue 8 ((mixKind prog w).byValue f v hf)]; exact wpAny_pure h
  · exact wpAny_eqIsQuiet_tuple hk h
end
theorem item_keep {h h' : Heap} {v : Value} {k : Fin 9} (x : ItemAt h v k) (hk : ∀ b o, h.get? b = some o → o.cls = .type "tuple" → h'.get? b = some o) : ItemAt h' v k := by
  obtain ⟨as, r⟩ := x
  obtain ⟨k, hk9⟩ := k
  have : k = 0 ∨ k = 1 ∨ k = 2 ∨ k = 3 ∨ k = 4 ∨ k = 5 ∨ k = 6 ∨ k = 7 ∨ k = 8 := by omega
  rcases this with rfl | rfl | rfl | rfl | rfl | rfl | rfl | rfl | rfl
  · cases r; exact ⟨_, .int _ _⟩
  · cases r; exact ⟨_, .int _ _⟩
  · cases r; exact ⟨_, .int _ _⟩
  · cases r; exact ⟨_, .int _ _⟩
  · cases r; exact ⟨_, .int _ _⟩
  · cases r; exact ⟨_, .str _ _⟩
  · cases r; exact ⟨_, .str _ _⟩
  · cases r with
    | tuple h1 h2 h3 h4 =>
      refine ⟨_, .tuple (hk _ _ h1 h2) h2 h3 (as := [] ++ ([] ++ [])) ?_⟩
      obtain ⟨u, v, _, _, e, r1, r2⟩ := readsAll_two h4
      rw [e]; cases r1; cases r2
      exact .cons (.int _ _) (.cons (.str _ _) .nil)
  · cases r with
    | tuple h1 h2 h3 h4 =>
      refine ⟨_, .tuple (hk _ _ h1 h2) h2 h3 (as := [] ++ []) ?_⟩
      obtain ⟨u, _, e, r1⟩ := readsAll_one h4
      rw [e]; cases r1
      exact .cons (.int _ _) .nil
theorem item_inj {h : Heap} {v : Value} {a b : Fin 9} (x : ItemAt h v a) (y : ItemAt h v b) : a = b := by
  obtain ⟨as, r⟩ := x
  obtain ⟨bs, q⟩ := y
  have e := SeqAt.Reads.unique _ _ _ _ _ (dat_lay a) r q
  have := dat_eqv a b
  rw [← e] at this
  rw [SeqAt.eqv_refl _ (dat_lay a)] at this
  exact of_decide_eq_true this.symm
end Mine
namespace Mine
open PySem PySem.W PyProof.Rows
/-- the entries of a dict that holds items under None -/
inductive Rep (prog : Program) (w : World) (h : Heap) : List DictEntry → List (Fin 9) → Prop
  | nil : Rep prog w h [] []
  | cons {key : Value} {k : Fin 9} {es : List DictEntry} {l : List (Fin 9)} : ItemAt h key k → Rep prog w h es l → Rep prog w h (⟨ih prog w k, key, .none⟩ :: es) (k :: l)
section
variable {prog : Program} {w : World} {h h' : Heap} {es es' : List DictEntry} {l l' : List (Fin 9)}
theorem Rep.length (r : Rep prog w h es l) : es.length = l.length := by induction r with | nil => rfl | cons _ _ ih => simp [ih]
theorem Rep.keep (r : Rep prog w h es l) (hk : ∀ b o, h.get? b = some o → o.cls = .type "tuple" → h'.get? b = some o) : Rep prog w h' es l := by
  induction r with
  | nil => exact .nil
  | cons a _ ih => exact .cons (item_keep a hk) ih
theorem Rep.append (r : Rep prog w h es l) (r' : Rep prog w h es' l') : Rep prog w h (es ++ es') (l ++ l') := by
  induction r with
  | nil => exact r'
  | cons a _ ih => exact .cons a ih
theorem Rep.get (r : Rep prog w h es l) : ∀ {i : Nat} {e : DictEntry}, es[i]? = some e → ∃ k, l[i]? = some k ∧ e.hash = ih prog w k ∧ ItemAt h e.key k ∧ e.val = .none := by
  induction r with
  | nil => intro i e he; simp at he
  | cons a _ ih =>
    intro i e he
    cases i with
    | zero => simp at he; subst he; exact ⟨_, rfl, rfl, a, rfl⟩
    | succ j => simp at he; exact ih (by simpa using he)
theorem Rep.get' (r : Rep prog w h es l) {i : Nat} {k : Fin 9} (hk : l[i]? = some k) : ∃ e, es[i]? = some e ∧ e.hash = ih prog w k ∧ ItemAt h e.key k ∧ e.val = .none := by
  have hi : i < l.length := by rcases Nat.lt_or_ge i l.length with q | q; exact q; rw [List.getElem?_eq_none q] at hk; cases hk
  have he : es[i]? = some (es[i]'(by rw [r.length]; exact hi)) := by simp
  obtain ⟨k', a, b⟩ := r.get he
  rw [hk] at a; cases a
  exact ⟨_, he, b⟩
theorem Rep.erase (r : Rep prog w h es l) (i : Nat) : Rep prog w h (es.eraseIdx i) (l.eraseIdx i) := by
  induction r generalizing i with
  | nil => exact .nil
  | cons a r ih => cases i with
    | zero => exact r
    | succ j => exact .cons a (ih j)
theorem Rep.dropLast (r : Rep prog w h es l) : Rep prog w h es.dropLast l.dropLast := by
  induction r with
  | nil => exact .nil
  | cons a r ih => cases r with
    | nil => exact .nil
    | cons b r => exact .cons a ih
end
theorem erase_filter {l : List (Fin 9)} (hn : l.Nodup) : ∀ {i : Nat} {k : Fin 9}, l[i]? = some k → l.eraseIdx i = l.filter (fun x => decide (x ≠ k)) := by
  induction l with
  | nil => intro i k h; simp at h
  | cons a l ih =>
    rw [List.nodup_cons] at hn
    intro i k h
    cases i with
    | zero =>
      simp at h; subst h
      simp only [List.eraseIdx_zero, List.tail_cons, ne_eq, not_true_eq_false, decide_false, Bool.false_eq_true, not_false_eq_true, List.filter_cons_of_neg]
      rw [List.filter_eq_self.mpr]
      intro x hx
      simp only [decide_not, Bool.not_eq_eq_eq_not, Bool.not_true, decide_eq_false_iff_not]
      exact fun e => hn.1 (e ▸ hx)
    | succ j =>
      have h' : l[j]? = some k := by simpa using h
      have hm := List.mem_of_getElem? h'
      have : a ≠ k := fun e => hn.1 (e ▸ hm)
      simp [ih hn.2 h', this]
theorem get_unique {l : List (Fin 9)} (hn : l.Nodup) {i j : Nat} {k : Fin 9} (hi : l[i]? = some k) (hj : l[j]? = some k) : i = j :=
  (List.getElem?_inj (List.getElem?_eq_some_iff.mp hi).1 hn).mp (hi.trans hj.symm)
section
variable {prog : Program} {w : World} {A : Around} {E : Value → Shared → Prop} {s : Shared} {d : Addr} {v : Value} {k : Fin 9} {es : List DictEntry} {l : List (Fin 9)} {n : Nat}
/-- the outcome of a search for k in l -/
def Hit (l : List (Fin 9)) (k : Fin 9) : Option Nat → Prop
  | none => k ∉ l
  | some i => l[i]? = some k
def Left (l : List (Fin 9)) (k : Fin 9) (rest : List Nat) : Option Nat → Prop
  | none => k ∉ l ∨ ∃ j ∈ rest, l[j]? = some k
  | some j => l[j]? = some k ∧ j ∉ rest
theorem tells_items {stored : List Value} {Q : Bool → Shared → Prop} (hv : ItemAt s.heap v k) (hst : ∀ u ∈ stored, ∃ k', ItemAt s.heap u k') (h : Q false s) : wpAny (model prog w) A (tableMayTell v stored) Q E s := by
  unfold tableMayTell
  split
  · exact wpAny_pure h
  · refine wpAny_bind (quiet_item hv ?_)
    simp only [Bool.not_true, Bool.false_eq_true, if_false]
    refine wpAny_bind ?_
    refine wpAny_forIn_list _ (fun rest r s' => s' = s ∧ r = (none, ()) ∧ ∀ u ∈ rest, ∃ k', ItemAt s.heap u k') _ ?_ ?_ _ _ ⟨rfl, rfl, hst⟩
    · rintro x rest r s' ⟨rfl, rfl, hr⟩
      obtain ⟨k', hx⟩ := hr x List.mem_cons_self
      refine wpAny_bind (quiet_item hx ?_)
      simp only [Bool.not_true, Bool.false_eq_true, if_false]
      exact wpAny_pure ⟨rfl, rfl, fun u hu => hr u (List.mem_cons_of_mem _ hu)⟩
    · rintro r s' ⟨rfl, rfl, _⟩
      exact wpAny_pure h
theorem reads_str_tok {h : Heap} {x : Str} {t u : Tok} {dd : PyData} {as : List Addr} (r : Reads h (.str x t) dd as) : Reads h (.str x u) dd [] := by cases r; exact .str _ _
theorem isStr_item {h : Heap} {x : Str} {t : Tok} {u : Value} {k' : Fin 9} (hv : ItemAt h (.str x t) k) (hu : ItemAt h u k') (e : u.isStr x = true) : k' = k := by
  cases u <;> simp [Value.isStr] at e
  subst e
  obtain ⟨as, r⟩ := hv
  obtain ⟨bs, q⟩ := hu
  exact item_inj ⟨_, reads_str_tok q⟩ ⟨_, r⟩
theorem isStr_item' {h : Heap} {x : Str} {t : Tok} {u : Value} (hv : ItemAt h (.str x t) k) (hu : ItemAt h u k) : u.isStr x = true := by
  obtain ⟨as, r⟩ := hv
  obtain ⟨bs, q⟩ := hu
  cases hq : dat k <;> rw [hq] at q r <;> cases r
  cases q
  simp [Value.isStr]
theorem places_mem {h : Int} {i : Nat} (hi : i ∈ placesWithHash es.toArray.size (fun i => (es.toArray)[i]?.map (·.hash)) h) : i < es.length := by
  unfold placesWithHash at hi
  simpa using List.mem_range.mp (List.mem_filter.mp hi).1
theorem places_nodup {h : Int} : (placesWithHash es.toArray.size (fun i => (es.toArray)[i]?.map (·.hash)) h).Nodup := by
  unfold placesWithHash
  exact List.Nodup.sublist List.filter_sublist List.nodup_range
theorem dictFind_item {Q : Option Nat → Shared → Prop} (hu : A.units + 1 < cLine) (hv : ItemAt s.heap v k) (hd : s.heap.get? d = some (dictOf es n)) (hr : Rep prog w s.heap es l) (hn : l.Nodup)
    (h : ∀ r, Hit l k r → Q r s) : wpAny (model prog w) A (dictFind d v (ih prog w k)) Q E s := by
  unfold dictFind
  try with_reducible refine wpAny_holding ?_
  refine wpAny_bind (wpAny_dictEntries hd rfl ?_)
  dsimp only
  have start : ∀ t : Option Nat, t = none → Left l k (placesWithHash es.toArray.size (fun i => (es.toArray)[i]?.map (·.hash)) (ih prog w k)) t := by
    rintro t rfl
    by_cases hm : k ∈ l
    · obtain ⟨j, hj, hjk⟩ := List.mem_iff_getElem.mp hm
      have hj' : l[j]? = some k := by rw [List.getElem?_eq_getElem hj, hjk]
      obtain ⟨e, he, hh, _⟩ := hr.get' hj'
      refine .inr ⟨j, ?_, hj'⟩
      unfold placesWithHash
      refine List.mem_filter.mpr ⟨List.mem_range.mpr (by rw [List.size_toArray, hr.length]; exact hj), ?_⟩
      have : es.toArray[j]? = some e := by simpa using he
      simp [this, hh]
    · exact .inl hm
  have fin : ∀ t : Option Nat, Left l k [] t → Hit l k t := by
    intro t ht
    cases t with
    | none => rcases ht with q | ⟨j, q, _⟩; exact q; cases q
    | some j => exact ht.1
  have step : ∀ (x : Nat) (rest : List Nat) (t : Option Nat), x ∉ rest → Left l k (x :: rest) t → l[x]? ≠ some k → Left l k rest t := by
    intro x rest t hx ht hne
    cases t with
    | none =>
      rcases ht with q | ⟨j, q, hj⟩
      · exact .inl q
      · rcases List.mem_cons.mp q with rfl | q
        · exact absurd hj hne
        · exact .inr ⟨j, q, hj⟩
    | some j => exact ⟨ht.1, fun q => ht.2 (.tail _ q)⟩
  have hkeys : ∀ e ∈ es, ∃ k', e.hash = ih prog w k' ∧ ItemAt s.heap e.key k' := fun e he => by
    obtain ⟨i, hi, rfl⟩ := List.mem_iff_getElem.mp he
    obtain ⟨k', _, a, b, _⟩ := hr.get (i := i) (e := es[i]) (by simp)
    exact ⟨k', a, b⟩
  have hst : ∀ u ∈ (placesWithHash es.toArray.size (fun i => (es.toArray)[i]?.map (·.hash)) (ih prog w k)).filterMap (fun i => (es.toArray)[i]?.map (·.key)), ∃ k', ItemAt s.heap u k' := by
    intro u hu
    obtain ⟨i, _, hi⟩ := List.mem_filterMap.mp hu
    cases hei : (es.toArray)[i]? with
    | none => rw [hei] at hi; cases hi
    | some e =>
      rw [hei] at hi
      obtain rfl : e.key = u := by simpa using hi
      obtain ⟨k', _, b⟩ := hkeys e (by simpa using Array.mem_of_getElem? hei)
      exact ⟨k', b⟩
  have plain : wpAny (model prog w) A (dictWalkPlain d v (ih prog w k) es.toArray (placesWithHash es.toArray.size (fun i => (es.toArray)[i]?.map (·.hash)) (ih prog w k))) Q E s := by
    unfold dictWalkPlain
    refine wpAny_bind ?_
    refine wpAny_forIn_list _ (fun rest b s' => s' = s ∧ b = (none, ()) ∧ rest.Nodup ∧ (∀ i ∈ rest, i < es.length) ∧ Left l k rest none) _ ?_ ?_ _ _ ⟨rfl, rfl, places_nodup, fun i hi => places_mem hi, start _ rfl⟩
    · rintro x rest b s' ⟨rfl, rfl, hnd, hlt, hL⟩
      rw [List.nodup_cons] at hnd
      have hx : x < es.length := hlt x (.head _)
      have hex : es[x]? = some es[x] := by simp
      obtain ⟨k', hk', hh', hi', _⟩ := hr.get hex
      have hea : es.toArray[x]? = some es[x] := by simp
      simp only [hea]
      have skip : k' ≠ k → Left l k rest none := fun hne => step x rest none hnd.1 hL (by rw [hk']; simpa using hne)
      by_cases hh : (es[x].hash == ih prog w k) = true
      · rw [if_pos hh]
        refine wpAny_bind (wpAny_dictEpoch hd rfl (wpAny_bind (eqBool_item hu hi' hv (wpAny_bind (wpAny_dictEpoch hd rfl ?_)))))
        show wpAny _ _ (if (n != n) = true then _ else _) _ E _
        rw [if_neg (by simp)]
        by_cases hkk : k' = k
        · rw [decide_eq_true hkk]
          exact wpAny_bind (wpAny_rule (wpAny_pure (wpAny_pure (h _ (by show l[x]? = some k; rw [hk', hkk])))))
        · rw [decide_eq_false hkk]
          exact wpAny_bind (wpAny_rule (wpAny_pure ⟨rfl, rfl, hnd.2, fun i hi => hlt i (.tail _ hi), skip hkk⟩))
      · rw [if_neg hh]
        refine wpAny_pure ⟨rfl, rfl, hnd.2, fun i hi => hlt i (.tail _ hi), skip fun e => hh ?_⟩
        rw [hh', e]; simp
    · rintro b s' ⟨rfl, rfl, _, _, hL⟩
      exact wpAny_pure (h _ (fin _ hL))
  have tail : ∀ (x : Str) (t : Tok), v = .str x t → wpAny (model prog w) A (foundByValue d v es.toArray x) Q E s := by
    rintro x t rfl
    unfold foundByValue
    cases hf : es.toArray.findIdx? (fun e => e.key.isStr x) with
    | none =>
      refine wpAny_pure (h none ?_)
      intro hm
      obtain ⟨j, hj, hjk⟩ := List.mem_iff_getElem.mp hm
      obtain ⟨e, he, _, hi, _⟩ := hr.get' (i := j) (k := k) (by rw [List.getElem?_eq_getElem hj, hjk])
      have := Array.findIdx?_eq_none_iff.mp hf e (by simpa using List.mem_of_getElem? he)
      rw [isStr_item' hv hi] at this
      cases this
    | some i =>
      obtain ⟨hlt, hi, _⟩ := Array.findIdx?_eq_some_iff_getElem.mp hf
      have hlt' : i < es.length := by simpa using hlt
      have hex : es[i]? = some es[i] := by simp
      obtain ⟨k', hk', hh', hi', _⟩ := hr.get hex
      have hea : es.toArray[i]? = some es[i] := by simp
      have hkk : k' = k := isStr_item hv hi' (by simpa using hi)
      simp only [hea]
      refine wpAny_bind (wpAny_dictEpoch hd rfl (wpAny_bind (eqBool_item hu hi' hv (wpAny_bind (wpAny_dictEpoch hd rfl ?_)))))
      show wpAny _ _ (if (n != n) = true then _ else _) _ E _
      rw [if_neg (by simp), decide_eq_true hkk]
      exact wpAny_bind (wpAny_rule (wpAny_pure (h _ (by show l[i]? = some k; rw [hk', hkk]))))
  have hanyf : (es.toArray.any fun e => e.key == v && e.hash != ih prog w k) = false := by
    rw [Bool.eq_false_iff]
    intro hc
    obtain ⟨i, hi, hc⟩ := Array.any_eq_true.mp hc
    have hi' : i < es.length := by simpa using hi
    obtain ⟨k', a, b⟩ := hkeys es[i] (List.getElem_mem hi')
    simp only [List.getElem_toArray, Bool.and_eq_true, beq_iff_eq, bne_iff_ne, ne_eq] at hc
    obtain ⟨c1, c2⟩ := hc
    rw [c1] at b
    exact c2 (by rw [a, item_inj b hv])
  rcases item_kinds prog w hv with ⟨f, _, hf⟩ | ⟨ks, a, _, rfl, _⟩
  · rcases mix_shape hf with ⟨i, t, _, rfl⟩ | ⟨x, t, _, rfl⟩
    · dsimp only
      by_cases hall : ((Value.int i t :: (placesWithHash es.toArray.size (fun i => (es.toArray)[i]?.map (·.hash)) (ih prog w k)).filterMap (fun i => (es.toArray)[i]?.map (·.key))).all carriedByValue) = true
      · rw [if_pos hall]; exact plain
      · rw [if_neg hall]
        by_cases hone : (((placesWithHash es.toArray.size (fun i => (es.toArray)[i]?.map (·.hash)) (ih prog w k)).filterMap (fun i => (es.toArray)[i]?.map (·.key))) == [Value.int i t]) = true <;>
        (first | rw [if_pos hone] | rw [if_neg hone]) <;> (first | refine wpAny_bind (wpAny_pure ?_) | refine wpAny_bind (tells_items hv hst ?_)) <;> (
          rw [if_neg (by simp)]
          refine wpAny_bind ?_
          refine wpAny_forIn_list _ (fun rest b s' => s' = s ∧ b.1 = none ∧ rest.Nodup ∧ (∀ i ∈ rest, i < es.length) ∧ Left l k rest b.2) _ ?_ ?_ _ _ ⟨rfl, rfl, places_nodup, fun i hi => places_mem hi, start _ rfl⟩
          · rintro x rest ⟨b1, b2⟩ s' ⟨rfl, hb, hnd, hlt, hL⟩
            dsimp only at hb hL
            subst hb
            rw [List.nodup_cons] at hnd
            have hx : x < es.length := hlt x (.head _)
            have hex : es[x]? = some es[x] := by simp
            obtain ⟨k', hk', hh', hi', _⟩ := hr.get hex
            have hea : es.toArray[x]? = some es[x] := by simp
            simp only [hea]
            have skip : k' ≠ k → Left l k rest b2 := fun hne => step x rest b2 hnd.1 hL (by rw [hk']; simpa using hne)
            by_cases hh : (es[x].hash == ih prog w k) = true
            · rw [if_pos hh]
              refine wpAny_bind (wpAny_dictEpoch hd rfl (wpAny_bind (eqBool_item hu hi' hv (wpAny_bind (wpAny_dictEpoch hd rfl ?_)))))
              show wpAny _ _ (if (n != n) = true then _ else _) _ E _
              rw [if_neg (by simp)]
              by_cases hkk : k' = k
              · rw [decide_eq_true hkk]
                have hxk : l[x]? = some k := by rw [hk', hkk]
                cases b2 with
                | some j => exact absurd (get_unique hn hxk hL.1) (fun e => hL.2 (e ▸ List.Mem.head _))
                | none =>
                  simp only [if_true, Option.isSome_none, Bool.false_eq_true, if_false]
                  refine wpAny_bind (wpAny_rule ?_)
                  split
                  · exact wpAny_pure (wpAny_pure (h _ hxk))
                  · exact wpAny_pure ⟨rfl, rfl, hnd.2, fun i hi => hlt i (.tail _ hi), hxk, hnd.1⟩
              · rw [decide_eq_false hkk]
                simp only [Bool.false_eq_true, if_false]
                refine wpAny_bind (wpAny_rule ?_)
                first | rw [if_neg (by simp)] | skip
                exact wpAny_pure ⟨rfl, rfl, hnd.2, fun i hi => hlt i (.tail _ hi), skip hkk⟩
            · rw [if_neg hh]
              refine wpAny_pure ⟨rfl, rfl, hnd.2, fun i hi => hlt i (.tail _ hi), skip fun e => hh ?_⟩
              rw [hh', e]; simp
          · rintro ⟨b1, b2⟩ s' ⟨rfl, hb, _, _, hL⟩
            dsimp only at hb hL
            subst hb
            exact wpAny_pure (h _ (fin _ hL)))
    · dsimp only
      by_cases hs : (es.toArray.all fun e => isExactStrKey e.key) = true
      · rw [if_pos hs]; exact tail x t rfl
      · rw [if_neg hs]
        by_cases hall : ((Value.str x t :: (placesWithHash es.toArray.size (fun i => (es.toArray)[i]?.map (·.hash)) (ih prog w k)).filterMap (fun i => (es.toArray)[i]?.map (·.key))).all carriedByValue) = true
        · rw [if_pos hall]; exact plain
        · rw [if_neg hall]
          by_cases hone : (((placesWithHash es.toArray.size (fun i => (es.toArray)[i]?.map (·.hash)) (ih prog w k)).filterMap (fun i => (es.toArray)[i]?.map (·.key))) == [Value.str x t]) = true <;>
          (first | rw [if_pos hone] | rw [if_neg hone]) <;> (first | refine wpAny_bind (wpAny_pure ?_) | refine wpAny_bind (tells_items hv hst ?_)) <;> (
            rw [if_neg (by simp)]
            refine wpAny_bind ?_
            refine wpAny_forIn_list _ (fun rest b s' => s' = s ∧ b.1 = none ∧ rest.Nodup ∧ (∀ i ∈ rest, i < es.length) ∧ Left l k rest b.2) _ ?_ ?_ _ _ ⟨rfl, rfl, places_nodup, fun i hi => places_mem hi, start _ rfl⟩
            · rintro x rest ⟨b1, b2⟩ s' ⟨rfl, hb, hnd, hlt, hL⟩
              dsimp only at hb hL
              subst hb
              rw [List.nodup_cons] at hnd
              have hx : x < es.length := hlt x (.head _)
              have hex : es[x]? = some es[x] := by simp
              obtain ⟨k', hk', hh', hi', _⟩ := hr.get hex
              have hea : es.toArray[x]? = some es[x] := by simp
              simp only [hea]
              have skip : k' ≠ k → Left l k rest b2 := fun hne => step x rest b2 hnd.1 hL (by rw [hk']; simpa using hne)
              by_cases hh : (es[x].hash == ih prog w k) = true
              · rw [if_pos hh]
                refine wpAny_bind (wpAny_dictEpoch hd rfl (wpAny_bind (eqBool_item hu hi' hv (wpAny_bind (wpAny_dictEpoch hd rfl ?_)))))
                show wpAny _ _ (if (n != n) = true then _ else _) _ E _
                rw [if_neg (by simp)]
                by_cases hkk : k' = k
                · rw [decide_eq_true hkk]
                  have hxk : l[x]? = some k := by rw [hk', hkk]
                  cases b2 with
                  | some j => exact absurd (get_unique hn hxk hL.1) (fun e => hL.2 (e ▸ List.Mem.head _))
                  | none =>
                    simp only [if_true, Option.isSome_none, Bool.false_eq_true, if_false]
                    refine wpAny_bind (wpAny_rule ?_)
                    split
                    · exact wpAny_pure (wpAny_pure (h _ hxk))
                    · exact wpAny_pure ⟨rfl, rfl, hnd.2, fun i hi => hlt i (.tail _ hi), hxk, hnd.1⟩
                · rw [decide_eq_false hkk]
                  simp only [Bool.false_eq_true, if_false]
                  refine wpAny_bind (wpAny_rule ?_)
                  first | rw [if_neg (by simp)] | skip
                  exact wpAny_pure ⟨rfl, rfl, hnd.2, fun i hi => hlt i (.tail _ hi), skip hkk⟩
              · rw [if_neg hh]
                refine wpAny_pure ⟨rfl, rfl, hnd.2, fun i hi => hlt i (.tail _ hi), skip fun e => hh ?_⟩
                rw [hh', e]; simp
            · rintro ⟨b1, b2⟩ s' ⟨rfl, hb, _, _, hL⟩
              dsimp only at hb hL
              subst hb
              exact wpAny_pure (h _ (fin _ hL)))
  · dsimp only
    by_cases hall : ((Value.ref a :: (placesWithHash es.toArray.size (fun i => (es.toArray)[i]?.map (·.hash)) (ih prog w k)).filterMap (fun i => (es.toArray)[i]?.map (·.key))).all carriedByValue) = true
    · rw [if_pos hall]; exact plain
    · rw [if_neg hall]
      rw [if_neg (by rw [hanyf]; simp)]
      by_cases hone : (((placesWithHash es.toArray.size (fun i => (es.toArray)[i]?.map (·.hash)) (ih prog w k)).filterMap (fun i => (es.toArray)[i]?.map (·.key))) == [Value.ref a]) = true <;>
      (first | rw [if_pos hone] | rw [if_neg hone]) <;> (first | refine wpAny_bind (wpAny_pure ?_) | refine wpAny_bind (tells_items hv hst ?_)) <;> (
        rw [if_neg (by simp)]
        refine wpAny_bind ?_
        refine wpAny_forIn_list _ (fun rest b s' => s' = s ∧ b.1 = none ∧ rest.Nodup ∧ (∀ i ∈ rest, i < es.length) ∧ Left l k rest b.2) _ ?_ ?_ _ _ ⟨rfl, rfl, places_nodup, fun i hi => places_mem hi, start _ rfl⟩
        · rintro x rest ⟨b1, b2⟩ s' ⟨rfl, hb, hnd, hlt, hL⟩
          dsimp only at hb hL
          subst hb
          rw [List.nodup_cons] at hnd
          have hx : x < es.length := hlt x (.head _)
          have hex : es[x]? = some es[x] := by simp
          obtain ⟨k', hk', hh', hi', _⟩ := hr.get hex
          have hea : es.toArray[x]? = some es[x] := by simp
          simp only [hea]
          have skip : k' ≠ k → Left l k rest b2 := fun hne => step x rest b2 hnd.1 hL (by rw [hk']; simpa using hne)
          by_cases hh : (es[x].hash == ih prog w k) = true
          · rw [if_pos hh]
            refine wpAny_bind (wpAny_dictEpoch hd rfl (wpAny_bind (eqBool_item hu hi' hv (wpAny_bind (wpAny_dictEpoch hd rfl ?_)))))
            show wpAny _ _ (if (n != n) = true then _ else _) _ E _
            rw [if_neg (by simp)]
            by_cases hkk : k' = k
            · rw [decide_eq_true hkk]
              have hxk : l[x]? = some k := by rw [hk', hkk]
              cases b2 with
              | some j => exact absurd (get_unique hn hxk hL.1) (fun e => hL.2 (e ▸ List.Mem.head _))
              | none =>
                simp only [if_true, Option.isSome_none, Bool.false_eq_true, if_false]
                refine wpAny_bind (wpAny_rule ?_)
                split
                · exact wpAny_pure (wpAny_pure (h _ hxk))
                · exact wpAny_pure ⟨rfl, rfl, hnd.2, fun i hi => hlt i (.tail _ hi), hxk, hnd.1⟩
            · rw [decide_eq_false hkk]
              simp only [Bool.false_eq_true, if_false]
              refine wpAny_bind (wpAny_rule ?_)
              first | rw [if_neg (by simp)] | skip
              exact wpAny_pure ⟨rfl, rfl, hnd.2, fun i hi => hlt i (.tail _ hi), skip hkk⟩
          · rw [if_neg hh]
            refine wpAny_pure ⟨rfl, rfl, hnd.2, fun i hi => hlt i (.tail _ hi), skip fun e => hh ?_⟩
            rw [hh', e]; simp
        · rintro ⟨b1, b2⟩ s' ⟨rfl, hb, _, _, hL⟩
          dsimp only at hb hL
          subst hb
          exact wpAny_pure (h _ (fin _ hL)))
end
end Mine
namespace Mine
open PySem PySem.W PyProof.Rows
def addL (l : List (Fin 9)) (k : Fin 9) : List (Fin 9) := if k ∈ l then l else l ++ [k]
def delL (l : List (Fin 9)) (k : Fin 9) : List (Fin 9) := l.filter fun x => decide (x ≠ k)
theorem addL_nodup {l : List (Fin 9)} {k : Fin 9} (hn : l.Nodup) : (addL l k).Nodup := by
  unfold addL; split
  · exact hn
  · rename_i h
    rw [List.nodup_append]
    exact ⟨hn, by simp, fun a ha b hb => by simp at hb; subst hb; exact fun e => h (e ▸ ha)⟩
theorem delL_nodup {l : List (Fin 9)} {k : Fin 9} (hn : l.Nodup) : (delL l k).Nodup := List.Nodup.sublist List.filter_sublist hn
theorem nodup_le {l : List (Fin 9)} (hn : l.Nodup) : l.length ≤ 9 := by
  have h := List.Nodup.length_le_of_subset (l₁ := l) (l₂ := [0, 1, 2, 3, 4, 5, 6, 7, 8]) hn (fun x _ => (by decide : ∀ x : Fin 9, x ∈ [0, 1, 2, 3, 4, 5, 6, 7, 8]) x)
  simpa using h
/-- d bears the items l -/
structure DictIs (prog : Program) (w : World) (h : Heap) (d : Addr) (es : List DictEntry) (n : Nat) (l : List (Fin 9)) : Prop where
  get : h.get? d = some (dictOf es n)
  rep : Rep prog w h es l
  nd : l.Nodup
section
variable {prog : Program} {w : World} {A : Around} {E : Value → Shared → Prop} {s : Shared} {d : Addr} {v : Value} {k : Fin 9} {es : List DictEntry} {l : List (Fin 9)} {n : Nat}
theorem DictIs.typeIs (D : DictIs prog w s.heap d es n l) : s.TypeIs (.ref d) "dict" := ⟨_, D.get, rfl⟩
theorem DictIs.size (D : DictIs prog w s.heap d es n l) : es.length ≤ 9 := by rw [D.rep.length]; exact nodup_le D.nd
theorem line9 {m : Nat} (h : m ≤ 10) : m ≤ sizeLine := Nat.le_trans h (by decide)
theorem tuples_same {h h' : Heap} (hd : h.get? d = some (dictOf es n)) (hs : Heap.SameBut d h h') : ∀ b o, h.get? b = some o → o.cls = .type "tuple" → h'.get? b = some o := fun b o e c => by
  by_cases hb : b = d
  · subst hb; rw [hd] at e; cases e; simp at c
  · exact (hs.2 b hb).trans e
theorem dictGet_item {Q : Option Value → Shared → Prop} (hu : A.units + 1 < cLine) (hv : ItemAt s.heap v k) (D : DictIs prog w s.heap d es n l)
    (h : ∀ tk, Q (if k ∈ l then some .none else none) { s with toks := tk }) : wpAny (model prog w) A (dictGet d v) Q E s := by
  unfold dictGet
  try with_reducible refine wpAny_holding ?_
  refine wpAny_bind (pyHash_item (by omega) hv fun tk => wpAny_bind (dictFind_item (s := { s with toks := tk }) hu hv D.get D.rep D.nd fun r hr => ?_))
  cases r with
  | none => have := h tk; rw [if_neg hr] at this; exact wpAny_pure this
  | some i =>
    have := h tk
    rw [if_pos (List.mem_of_getElem? hr)] at this
    obtain ⟨e, he, _, _, hev⟩ := D.rep.get' hr
    refine wpAny_bind (wpAny_dictEntries (s := { s with toks := tk }) D.get rfl ?_)
    have hea : es.toArray[i]? = some e := by simpa using he
    rw [hea]
    refine wpAny_pure ?_
    show Q (some e.val) _
    rw [hev]; exact this
theorem contains_item {Q : Bool → Shared → Prop} (hu : A.units + 2 < cLine) (hv : ItemAt s.heap v k) (hd : (d == sysModules) = false) (D : DictIs prog w s.heap d es n l)
    (h : ∀ tk, Q (decide (k ∈ l)) { s with toks := tk }) : wpAny (model prog w) A (contains (.ref d) v) Q E s := by
  unfold contains
  try with_reducible refine wpAny_holding ?_
  refine wpAny_bind (wpAny_specialOf D.typeIs slot_dict_contains.lookup ?_)
  show wpAny _ _ (if (some (Value.builtin "dict.__contains__") == some Value.none) = true then _ else _) _ E s
  rw [if_neg (by rw [beq_builtin_none]; exact Bool.false_ne_true)]
  refine wpAny_bind (wpAny_callSpecialUnlessNone?_slot (name := Str.ofString "__contains__") D.typeIs slot_dict_contains
    (wpAny_call_entry slot_dict_contains D.typeIs entry_dict_contains ?_ (args_dict_contains _ _)))
  show wpAny _ _ (dictGet d v >>= _) _ _ s
  refine wpAny_bind (dictGet_item (by show A.units + 1 + 1 < cLine; omega) hv D fun tk => ?_)
  have := h tk
  by_cases hm : k ∈ l
  · rw [if_pos hm]
    rw [decide_eq_true hm] at this
    show wpAny _ _ (ret (.bool true)) _ _ _
    exact wpAny_pure ⟨_, rfl, wpAny_truthy_bool this⟩
  · rw [if_neg hm]
    rw [decide_eq_false hm] at this
    show wpAny _ _ (Builtin.Dict.pendingKey? d v >>= _) _ _ _
    exact wpAny_bind (wpAny_pendingKey_other hd (wpAny_pure ⟨_, rfl, wpAny_truthy_bool this⟩))
theorem in_item {Q : Value → Shared → Prop} (hu : A.units + 2 < cLine) (hv : ItemAt s.heap v k) (hd : (d == sysModules) = false) (D : DictIs prog w s.heap d es n l)
    (h : ∀ tk, Q (.bool (decide (k ∈ l))) { s with toks := tk }) : wpAny (model prog w) A (compareOp .In v (.ref d)) Q E s := by
  show wpAny _ _ (do return .bool (← contains (.ref d) v)) Q E s
  exact wpAny_bind (contains_item hu hv hd D fun tk => wpAny_pure (h tk))
theorem notIn_item {Q : Value → Shared → Prop} (hu : A.units + 2 < cLine) (hv : ItemAt s.heap v k) (hd : (d == sysModules) = false) (D : DictIs prog w s.heap d es n l)
    (h : ∀ tk, Q (.bool (!decide (k ∈ l))) { s with toks := tk }) : wpAny (model prog w) A (compareOp .NotIn v (.ref d)) Q E s := by
  show wpAny _ _ (do return .bool !(← contains (.ref d) v)) Q E s
  exact wpAny_bind (contains_item hu hv hd D fun tk => wpAny_pure (h tk))
/-- what a change of d leaves: its new content, of the same keys (and those of vk) -/
def Now (prog : Program) (w : World) (d : Addr) (es : List DictEntry) (l l' : List (Fin 9)) (vk : List (Value × Fin 9)) (h h' : Heap) : Prop :=
  Heap.SameBut d h h' ∧ ∃ es' n', h'.get? d = some (dictOf es' n') ∧ l'.Nodup ∧ ∀ g, (∀ p ∈ vk, ItemAt g p.1 p.2) → Rep prog w g es l → Rep prog w g es' l'
theorem now_update {f : Array DictEntry → Array DictEntry} {es' : List DictEntry} {l' : List (Fin 9)} {vk : List (Value × Fin 9)} (D : DictIs prog w s.heap d es n l) (hf : f es.toArray = es'.toArray) (hn : l'.Nodup)
    (hr : ∀ g, (∀ p ∈ vk, ItemAt g p.1 p.2) → Rep prog w g es l → Rep prog w g es' l') : Now prog w d es l l' vk s.heap (s.heap.update d (Obj.mapDictKeys f)) := by
  refine ⟨Heap.SameBut.update .., es', n + 1, ?_, hn, hr⟩
  have := Heap.get?_update_self (Obj.mapDictKeys f) D.get rfl
  rw [this]
  show some (Obj.mk _ _ (.dict (f es.toArray) (n + 1)) _) = _
  rw [hf]
theorem dictSet_item {Q : Unit → Shared → Prop} (hu : A.units + 1 < cLine) (hv : ItemAt s.heap v k) (D : DictIs prog w s.heap d es n l)
    (h : ∀ h' tk, Now prog w d es l (addL l k) [(v, k)] s.heap h' → Q () { s with heap := h', toks := tk }) : wpAny (model prog w) A (dictSet d v .none) Q E s := by
  unfold dictSet
  try with_reducible refine wpAny_holding ?_
  refine wpAny_bind (pyHash_item (by omega) hv fun tk => ?_)
  unfold dictSetHashed
  try with_reducible refine wpAny_holding ?_
  refine wpAny_bind (dictFind_item (s := { s with toks := tk }) hu hv D.get D.rep D.nd fun r hr => ?_)
  have hsz := D.size
  cases r with
  | none =>
    have e : addL l k = l ++ [k] := if_neg hr
    refine wpAny_bind (wpAny_rule (wpAny_updateDictKeys (hz := line9 (by simp; omega)) (s := { s with toks := tk }) D.get rfl (h _ tk ?_)))
    refine now_update D (es' := es ++ [⟨ih prog w k, v, .none⟩]) (by simp) (addL_nodup D.nd) fun g hg hr => ?_
    rw [e]; exact hr.append (.cons (hg _ (.head _)) .nil)
  | some i =>
    have e : addL l k = l := if_pos (List.mem_of_getElem? hr)
    obtain ⟨en, he, _, _, hev⟩ := D.rep.get' hr
    refine wpAny_bind (wpAny_rule (wpAny_bind (wpAny_updateDict (s := { s with toks := tk }) D.get rfl (wpAny_point (h _ tk ?_)))))
    have hs := Heap.SameBut.update (h := s.heap) (a := d) (f := Obj.mapDict (·.modify i fun e => { e with val := .none }))
    rw [e]
    refine ⟨hs, es, n, ?_, D.nd, fun _ _ hr => hr⟩
    have := Heap.get?_update_self (Obj.mapDict (·.modify i fun e => { e with val := .none })) D.get rfl
    rw [this]
    show some (Obj.mk _ _ (.dict (es.toArray.modify i fun e => { e with val := .none }) n) _) = _
    have hm : es.toArray.modify i (fun e => { e with val := .none }) = es.toArray := by
      apply Array.ext
      · simp
      · intro j h1 h2
        rw [Array.getElem_modify]
        split
        · rename_i hij
          subst hij
          have : es[i]'(by simpa using h2) = en := by
            have := List.getElem?_eq_getElem (l := es) (i := i) (by simpa using h2)
            rw [he] at this; exact (Option.some.inj this).symm
          simp only [List.getElem_toArray, this]
          obtain ⟨a, b, c⟩ := en
          simp only at hev; subst hev; rfl
        · rfl
    rw [hm]
theorem setItem_item {Q : Unit → Shared → Prop} (hu : A.units + 2 < cLine) (hv : ItemAt s.heap v k) (D : DictIs prog w s.heap d es n l)
    (h : ∀ h' tk, Now prog w d es l (addL l k) [(v, k)] s.heap h' → Q () { s with heap := h', toks := tk }) : wpAny (model prog w) A (setItem (.ref d) v .none) Q E s := by
  unfold setItem
  try with_reducible refine wpAny_holding ?_
  refine wpAny_bind (wpAny_sequenceKey D.typeIs (by decide) ?_)
  refine wpAny_bind (wpAny_callSpecial?_slot (name := Str.ofString "__setitem__") D.typeIs slot_dict_setitem
    (wpAny_call_entry slot_dict_setitem D.typeIs entry_dict_setitem ?_ (args_dict_setitem _ _ _)))
  show wpAny _ _ (Builtin.Dict.notOrdered "__setitem__" ⟨[.ref d, v, .none], []⟩ >>= _) _ _ s
  refine wpAny_bind (wpAny_notOrdered_dict D.typeIs ?_)
  show wpAny _ _ (dictSet d v .none >>= _) _ _ s
  exact wpAny_bind (dictSet_item (by show A.units + 1 + 1 < cLine; omega) hv D fun h' tk hN => wpAny_pure ⟨.none, rfl, wpAny_pure (h h' tk hN)⟩)
theorem takeOut_item {Q : Option DictEntry → Shared → Prop} (hu : A.units + 1 < cLine) (hv : ItemAt s.heap v k) (D : DictIs prog w s.heap d es n l)
    (h0 : k ∉ l → ∀ tk, Q none { s with toks := tk })
    (h1 : k ∈ l → ∀ e h' tk, e.val = .none → Now prog w d es l (delL l k) [] s.heap h' → Q (some e) { s with heap := h', toks := tk }) : wpAny (model prog w) A (Builtin.Dict.takeOut d v) Q E s := by
  unfold Builtin.Dict.takeOut
  try with_reducible refine wpAny_holding ?_
  refine wpAny_bind (pyHash_item (by omega) hv fun tk => ?_)
  refine wpAny_bind (dictFind_item (s := { s with toks := tk }) hu hv D.get D.rep D.nd fun r hr => ?_)
  cases r with
  | none => exact wpAny_pure (h0 hr tk)
  | some i =>
    obtain ⟨en, he, _, _, hev⟩ := D.rep.get' hr
    have hea : es.toArray[i]? = some en := by simpa using he
    refine wpAny_bind (wpAny_dictEntries (s := { s with toks := tk }) D.get rfl ?_)
    rw [hea]
    have hlt : i < es.length := by rcases Nat.lt_or_ge i es.length with q | q; exact q; rw [List.getElem?_eq_none q] at he; cases he
    have hsz := D.size
    refine wpAny_bind (wpAny_updateDictKeys (hz := line9 (by simp; omega)) (s := { s with toks := tk }) D.get rfl (wpAny_pure (h1 (List.mem_of_getElem? hr) _ _ tk hev ?_)))
    refine now_update D (es' := es.eraseIdx i) ?_ (delL_nodup D.nd) fun g _ hr' => ?_
    · unfold Array.eraseIdxIfInBounds
      rw [dif_pos (by simpa using hlt)]
      simp
    · unfold delL
      rw [← erase_filter D.nd hr]
      exact hr'.erase i
theorem delItem_item {Q : Unit → Shared → Prop} (hu : A.units + 2 < cLine) (hh : A.handled = none) (hv : ItemAt s.heap v k) (hd : (d == sysModules) = false) (D : DictIs prog w s.heap d es n l)
    (h0 : k ∉ l → ∀ h' e tk, Heap.NewExc s.heap h' e "KeyError" → E (.ref e) { s with heap := h', toks := tk })
    (h1 : k ∈ l → ∀ h' tk, Now prog w d es l (delL l k) [] s.heap h' → Q () { s with heap := h', toks := tk }) : wpAny (model prog w) A (delItem (.ref d) v) Q E s := by
  refine wpAny_delItem_slot D.typeIs (by decide) F.slot_dict_delitem ?_
  refine wpAny_call_entry F.slot_dict_delitem D.typeIs F.entry_dict_delitem ?_ (F.args_dict_delitem_2 _ _)
  unfold Builtin.«dict.__delitem__»
  refine wpAny_bind ?_
  unfold Builtin.Dict.dictSlotArgs
  refine wpAny_bind (wpAny_notOrdered_dict D.typeIs ?_)
  show wpAny _ _ (pure (Value.ref d, v)) _ _ s
  refine wpAny_pure ?_
  show wpAny _ _ (Builtin.Dict.takeOut d v >>= _) _ _ s
  refine wpAny_bind (takeOut_item (by show A.units + 1 + 1 < cLine; omega) hv D (fun hk tk => ?_) fun hk e h' tk _ hN => ?_)
  · show wpAny _ _ (Builtin.Dict.missedRemoval d v >>= _) _ _ _
    refine wpAny_bind (wpAny_missedRemoval_other hd ?_)
    exact wpAny_bind (wpAny_rule (wpAny_raise_newExc (A := A.in1) plainExc_KeyError hh fun h' e hx => h0 hk h' e tk hx))
  · exact wpAny_bind (wpAny_letGo (wpAny_pure ⟨.none, rfl, h1 hk h' tk hN⟩))
theorem pop_item {Q : Value → Shared → Prop} (hu : A.units + 2 < cLine) (hv : ItemAt s.heap v k) (hd : (d == sysModules) = false) (D : DictIs prog w s.heap d es n l)
    (h : ∀ h' tk, Now prog w d es l (delL l k) [] s.heap h' → Q .none { s with heap := h', toks := tk }) : wpAny (model prog w) A (call (.builtin "dict.pop") [.ref d, v, .none]) Q E s := by
  refine wpAny_call_entry F.slot_dict_pop D.typeIs F.entry_dict_pop ?_ (F.args_dict_pop_3 _ _ _)
  have miss : k ∉ l → Now prog w d es l (delL l k) [] s.heap s.heap := fun hk => by
    have e : delL l k = l := by
      unfold delL
      rw [List.filter_eq_self]
      intro x hx
      exact decide_eq_true fun e => hk (e ▸ hx)
    rw [e]; exact ⟨.refl .., es, n, D.get, D.nd, fun _ _ hr => hr⟩
  unfold Builtin.«dict.pop»
  refine wpAny_bind ?_
  unfold Builtin.Dict.keyAndDefault
  refine wpAny_bind (wpAny_notOrdered_dict D.typeIs ?_)
  show wpAny _ _ (pure (d, v, some Value.none)) _ _ s
  refine wpAny_pure ?_
  dsimp only
  split
  · refine wpAny_bind (wpAny_pure ?_)
    rw [if_neg (by simp)]
    refine wpAny_bind (takeOut_item (by show A.units + 1 + 1 < cLine; omega) hv D (fun hk tk => ?_) fun hk e h' tk he hN => ?_)
    · rw [if_pos (by rfl)]
      exact wpAny_bind (wpAny_missedRemoval_other hd (wpAny_bind (wpAny_rule (wpAny_pure ⟨.none, rfl, h _ tk (miss hk)⟩))))
    · rw [if_neg (by simp)]
      exact wpAny_bind (wpAny_letGo (wpAny_pure ⟨e.val, rfl, by rw [he]; exact h h' tk hN⟩))
  · refine wpAny_bind (wpAny_dictEntries D.get rfl (wpAny_bind (wpAny_pure ?_)))
    split
    · rename_i hemp
      have hl : l = [] := by
        have := D.rep.length
        have he : es = [] := by simpa using hemp
        rw [he] at this
        exact List.length_eq_zero_iff.mp this.symm
      have hk : k ∉ l := by rw [hl]; simp
      refine wpAny_bind (wpAny_rule (wpAny_bind (wpAny_pure ?_)))
      rw [if_pos (by rfl)]
      exact wpAny_bind (wpAny_missedRemoval_other hd (wpAny_bind (wpAny_rule (wpAny_pure ⟨.none, rfl, h _ s.toks (miss hk)⟩))))
    · refine wpAny_bind (takeOut_item (by show A.units + 1 + 1 < cLine; omega) hv D (fun hk tk => ?_) fun hk e h' tk he hN => ?_)
      · rw [if_pos (by rfl)]
        exact wpAny_bind (wpAny_missedRemoval_other hd (wpAny_bind (wpAny_rule (wpAny_pure ⟨.none, rfl, h _ tk (miss hk)⟩))))
      · rw [if_neg (by simp)]
        exact wpAny_bind (wpAny_letGo (wpAny_pure ⟨e.val, rfl, by rw [he]; exact h h' tk hN⟩))
theorem clear_item {Q : Value → Shared → Prop} (D : DictIs prog w s.heap d es n l)
    (h : ∀ h', Now prog w d es l [] [] s.heap h' → Q .none { s with heap := h' }) : wpAny (model prog w) A (call (.builtin "dict.clear") [.ref d]) Q E s := by
  refine wpAny_call_entry F.slot_dict_clear D.typeIs F.entry_dict_clear ?_ (F.args_dict_clear_1 _)
  unfold Builtin.«dict.clear»
  refine wpAny_bind ?_
  unfold Builtin.Dict.noArgs
  refine wpAny_bind (wpAny_notOrdered_dict D.typeIs ?_)
  show wpAny _ _ (pure d) _ _ s
  refine wpAny_pure ?_
  refine wpAny_bind (wpAny_dictEntries D.get rfl ?_)
  refine wpAny_bind ?_
  unfold bearsInstanceDictMark
  refine wpAny_bind (wpAny_load D.get (wpAny_pure ?_))
  have hsz := D.size
  refine wpAny_bind (wpAny_updateDictKeys (hz := line9 (by simp; omega)) D.get rfl ?_)
  have hnew := now_update (f := fun _ => #[]) (es' := []) (l' := []) (vk := []) D rfl List.nodup_nil fun _ _ _ => .nil
  split
  · exact wpAny_bind (wpAny_letGo (wpAny_pure ⟨.none, rfl, h _ hnew⟩))
  · exact wpAny_bind (wpAny_pure (wpAny_pure ⟨.none, rfl, h _ hnew⟩))
/-- popitem of a dict that holds something: its last key comes in a new pair -/
theorem popitem_item {Q : Value → Shared → Prop} (hd : (d == sysModules) = false) (D : DictIs prog w s.heap d es n l) {l₀ : List (Fin 9)} (hl : l = l₀ ++ [k])
    (h : ∀ h₁ v, Now prog w d es l l₀ [] s.heap h₁ → (∀ g, Rep prog w g es l → ItemAt g v k) → Q (.ref h₁.objs.size) { s with heap := h₁.push { cls := .type "tuple", data := .seq #[v, .none] } }) :
    wpAny (model prog w) A (call (.builtin "dict.popitem") [.ref d]) Q E s := by
  refine wpAny_call_entry F.slot_dict_popitem D.typeIs F.entry_dict_popitem ?_ (F.args_dict_popitem_1 _)
  unfold Builtin.«dict.popitem»
  refine wpAny_bind ?_
  unfold Builtin.Dict.noArgs
  refine wpAny_bind (wpAny_notOrdered_dict D.typeIs ?_)
  show wpAny _ _ (pure d) _ _ s
  refine wpAny_pure ?_
  refine wpAny_bind ?_
  unfold Builtin.Dict.showsAll
  rw [if_neg (by rw [hd]; simp)]
  refine wpAny_pure ?_
  refine wpAny_bind (wpAny_dictEntries D.get rfl ?_)
  have hsz := D.size
  have hlen := D.rep.length
  have hll : l.length = l₀.length + 1 := by rw [hl]; simp
  have hlast : l[es.length - 1]? = some k := by
    rw [hlen, hl]; simp
  obtain ⟨e, he, _, hi, hev⟩ := D.rep.get' hlast
  have hb : es.toArray.back? = some e := by
    rw [List.back?_toArray, List.getLast?_eq_getElem?]; exact he
  rw [hb]
  dsimp only
  refine wpAny_bind (wpAny_updateDictKeys (hz := line9 (by simp; omega)) (hf := by simp; omega) D.get rfl ?_)
  have hnew := now_update (f := (·.pop)) (es' := es.dropLast) (l' := l₀) (vk := []) D (by simp) (by have := D.nd; rw [hl] at this; exact (List.nodup_append.mp this).1) fun g _ hr => by have := hr.dropLast; rw [hl] at this; simpa using this
  unfold newTuple
  refine wpAny_bind (wpAny_newObj_type ?_ (by show _ ≤ sizeLine; exact line9 (by simp)))
  refine wpAny_pure ⟨_, rfl, ?_⟩
  have := h _ e.key hnew fun g hr => by
    obtain ⟨k', hk', _, hi', _⟩ := hr.get he
    rw [hlast] at hk'; cases hk'; exact hi'
  rw [hev]
  exact this
theorem popitem_empty {Q : Value → Shared → Prop} (hh : A.handled = none) (hd : (d == sysModules) = false) (D : DictIs prog w s.heap d es n [])
    (h : ∀ h' e tk, Heap.NewExc s.heap h' e "KeyError" → E (.ref e) { s with heap := h', toks := tk }) :
    wpAny (model prog w) A (call (.builtin "dict.popitem") [.ref d]) Q E s := by
  refine wpAny_call_entry F.slot_dict_popitem D.typeIs F.entry_dict_popitem ?_ (F.args_dict_popitem_1 _)
  unfold Builtin.«dict.popitem»
  refine wpAny_bind ?_
  unfold Builtin.Dict.noArgs
  refine wpAny_bind (wpAny_notOrdered_dict D.typeIs ?_)
  show wpAny _ _ (pure d) _ _ s
  refine wpAny_pure ?_
  refine wpAny_bind ?_
  unfold Builtin.Dict.showsAll
  rw [if_neg (by rw [hd]; simp)]
  refine wpAny_pure ?_
  refine wpAny_bind (wpAny_dictEntries D.get rfl ?_)
  have he : es = [] := List.length_eq_zero_iff.mp (by simpa using D.rep.length)
  subst he
  refine wpAny_bind (wpAny_rule ?_)
  exact wpAny_raiseErrorWords plainExc_KeyError (A := A.in1) hh fun h' tk e hx => h h' e tk hx
end
end Mine
namespace Mine
open PySem PySem.W PySem.Calls PyProof.Rows
section
variable {prog : Program} {w : World} {A : Around} {E : Value → Shared → Prop} {s : Shared} {d : Addr} {es : List DictEntry} {n : Nat}
abbrev keyIt (d : Addr) (i m n : Nat) : Obj := { cls := .type "dict_keyiterator", data := .fields #[.ref d, .int i 0, .int m 0, .int n 0] }
theorem dict_typeIs (hd : s.heap.get? d = some (dictOf es n)) : s.TypeIs (.ref d) "dict" := ⟨_, hd, rfl⟩
theorem pyIter_d {Q : Value → Shared → Prop} (lo : (d == sysModules) = false) (hd : s.heap.get? d = some (dictOf es n))
    (hQ : Q (.ref s.heap.objs.size) { s with heap := s.heap.push (keyIt d 0 es.length n) }) : wpAny (model prog w) A (pyIter (.ref d)) Q E s := by
  have hT := dict_typeIs hd
  refine wpAny_pyIter_slot hT F.slot_dict_iter (wpAny_call_entry F.slot_dict_iter hT F.entry_dict_iter ?_ (F.args_dict_iter_1 _))
  unfold Builtin.«dict.__iter__»
  refine wpAny_bind ?_
  unfold Builtin.Dict.dictSlotNone
  refine wpAny_bind (wpAny_notOrdered_dict hT ?_)
  show wpAny _ _ (pure (Value.ref d)) _ _ s
  refine wpAny_pure ?_
  show wpAny _ _ (Builtin.Dict.showsAll d >>= _) _ _ s
  unfold Builtin.Dict.showsAll
  rw [if_neg (by rw [lo]; exact Bool.false_ne_true)]
  refine wpAny_bind (wpAny_pure ?_)
  refine wpAny_bind (wpAny_dictEntries hd rfl ?_)
  refine wpAny_bind (wpAny_dictEpoch hd rfl ?_)
  refine wpAny_bind (wpAny_newObj_type (wpAny_pure ⟨_, rfl, "dict_keyiterator", _, ⟨_, Heap.get?_push_size _ rfl, rfl⟩, F.slot_dict_keyiterator_next.lookup, ?_⟩))
  simpa [rawInt, keyIt] using hQ
theorem next_item {it : Addr} {i : Nat} {e : DictEntry} {Q : Option Value → Shared → Prop} (hit : s.heap.IsKeyIter it d i es.length n) (hdd : s.heap.get? d = some (dictOf es n)) (hx : es[i]? = some e)
    (hQ : ∀ h', h'.IsKeyIter it d (i + 1) es.length n → Heap.SameBut it s.heap h' → Q (some e.key) { s with heap := h' }) : wpAny (model prog w) A (pyNext (.ref it)) Q E s := by
  obtain ⟨o, ho, hc, hd⟩ := id hit
  unfold pyNext
  refine wpAny_bind (wpAny_attempt (wpAny_callSpecial?_slot (name := Str.ofString "__next__") hit.typeIs F.slot_dict_keyiterator_next
    (wpAny_call_entry F.slot_dict_keyiterator_next hit.typeIs F.entry_dict_keyiterator_next ?_ (F.args_dict_keyiterator_next_1 _))))
  refine wpAny_bind (wpAny_pure ?_)
  refine wpAny_bind ?_
  refine wpAny_bind ?_
  first | refine wpAny_bind (wpAny_typeNameOfWhole_keyiter hit.typeIs (wpAny_pure ?_)) | refine wpAny_bind (wpAny_typeNameOf_keyiter hit.typeIs (wpAny_pure ?_))
  refine wpAny_bind (wpAny_fieldsOf ho hd ?_)
  have hown : Builtin.Dict_items.ownsTuple "dict_keyiterator" = false := by decide
  simp only [hown, Bool.false_eq_true, if_false]
  show wpAny _ _ (if (Value.ref d == Value.none) = true then _ else _) _ _ s
  rw [if_neg (show ¬ ((Value.ref d == Value.none) = true) from Bool.false_ne_true)]
  refine wpAny_bind (wpAny_pure ?_)
  refine wpAny_bind (wpAny_dictEntries hdd rfl ?_)
  rw [if_neg (by simp)]
  refine wpAny_bind (wpAny_pure ?_)
  refine wpAny_bind (wpAny_dictEpoch hdd rfl ?_)
  rw [if_neg (by simp)]
  refine wpAny_pure ?_
  have hea : es.toArray[i]? = some e := by simpa using hx
  simp only [show ¬ ((i : Int) < 0) from by omega, if_false, Int.toNat_natCast, hea]
  refine wpAny_bind ?_
  first | refine wpAny_bind (wpAny_typeNameOfWhole_keyiter hit.typeIs (wpAny_pure ?_)) | refine wpAny_bind (wpAny_typeNameOf_keyiter hit.typeIs (wpAny_pure ?_))
  refine wpAny_bind (wpAny_isOneOf_keyiter hit.typeIs ?_)
  show wpAny _ _ (setField (.ref it) 1 (rawInt ((i : Int) + 1)) >>= _) _ _ s
  refine wpAny_bind (wpAny_setField ho hd (by simp) ?_)
  have hit' : (s.heap.update it (Obj.mapFields (·.setIfInBounds 1 (rawInt ((i : Int) + 1))))).IsKeyIter it d (i + 1) es.length n :=
    ⟨_, Heap.get?_update_self _ ho (Obj.isFreed_of_fields (Obj.data_mapFields hd _)), (Obj.cls_mapFields ..).trans hc, by rw [Obj.data_mapFields hd]; simp [rawInt]⟩
  refine wpAny_bind (wpAny_holding ?_)
  refine wpAny_bind (wpAny_isOneOf_keyiter (s := { s with heap := s.heap.update it (Obj.mapFields (·.setIfInBounds 1 (rawInt ((i : Int) + 1)))) }) hit'.typeIs ?_)
  show wpAny _ _ (pure e.key) _ _ _
  exact wpAny_pure (wpAny_pure ⟨_, rfl, wpAny_pure (hQ _ hit' (Heap.SameBut.update ..))⟩)
theorem next_end {it : Addr} {Q : Option Value → Shared → Prop} (hh : A.handled = none) (hit : s.heap.IsKeyIter it d es.length es.length n) (hdd : s.heap.get? d = some (dictOf es n))
    (hQ : ∀ h', Heap.ExtBut it s.heap h' → Q none { s with heap := h' }) : wpAny (model prog w) A (pyNext (.ref it)) Q E s := by
  obtain ⟨o, ho, hc, hd⟩ := id hit
  unfold pyNext
  refine wpAny_bind (wpAny_attempt (wpAny_callSpecial?_slot (name := Str.ofString "__next__") hit.typeIs F.slot_dict_keyiterator_next
    (wpAny_call_entry F.slot_dict_keyiterator_next hit.typeIs F.entry_dict_keyiterator_next ?_ (F.args_dict_keyiterator_next_1 _))))
  refine wpAny_bind (wpAny_pure ?_)
  refine wpAny_bind ?_
  refine wpAny_bind ?_
  first | refine wpAny_bind (wpAny_typeNameOfWhole_keyiter hit.typeIs (wpAny_pure ?_)) | refine wpAny_bind (wpAny_typeNameOf_keyiter hit.typeIs (wpAny_pure ?_))
  refine wpAny_bind (wpAny_fieldsOf ho hd ?_)
  have hown : Builtin.Dict_items.ownsTuple "dict_keyiterator" = false := by decide
  simp only [hown, Bool.false_eq_true, if_false]
  show wpAny _ _ (if (Value.ref d == Value.none) = true then _ else _) _ _ s
  rw [if_neg (show ¬ ((Value.ref d == Value.none) = true) from Bool.false_ne_true)]
  refine wpAny_bind (wpAny_pure ?_)
  refine wpAny_bind (wpAny_dictEntries hdd rfl ?_)
  rw [if_neg (by simp)]
  refine wpAny_bind (wpAny_pure ?_)
  refine wpAny_bind (wpAny_dictEpoch hdd rfl ?_)
  rw [if_neg (by simp)]
  refine wpAny_pure ?_
  have hea : es.toArray[es.length]? = none := by simp
  simp only [show ¬ ((es.length : Int) < 0) from by omega, if_false, Int.toNat_natCast, hea]
  refine wpAny_bind ?_
  first | refine wpAny_bind (wpAny_typeNameOfWhole_keyiter hit.typeIs (wpAny_pure ?_)) | refine wpAny_bind (wpAny_typeNameOf_keyiter hit.typeIs (wpAny_pure ?_))
  show wpAny _ _ (setField (.ref it) 0 .none >>= _) _ _ s
  refine wpAny_bind (wpAny_setField ho hd (by simp) ?_)
  show wpAny _ _ (newExc (.type "StopIteration") [] >>= _) _ _ _
  refine wpAny_bind ?_
  simp only [newExc, newTuple]
  refine wpAny_bind (wpAny_newObj_type ?_ (by size_fits))
  refine wpAny_bind (m := firstArgMember _ _) (wpAny_of_eq (a := Value.none) (by first | rfl | (simp only [firstArgMember]; rfl)) ?_)
  refine wpAny_newObj_type ?_ (by size_fits)
  simp only [raiseNew]
  refine wpAny_bind (wpAny_handled ?_)
  rw [show A.in1.handled = none from hh]
  refine wpAny_bind (wpAny_pure (wpAny_throw ?_))
  refine wpAny_bind (wpAny_isInstance (T := "StopIteration") (b := true) ⟨_, Heap.get?_push_size _ rfl, rfl⟩ isSubtype_stop ?_)
  exact wpAny_pure (hQ _ (((Heap.SameBut.update ..).extBut.push _).push _))
/-- the walk over the keys of a dict that stays as it is -/
theorem walk_keys (hh : A.handled = none) (I d : Addr) (hne : d ≠ I) (es : List DictEntry) (n : Nat) :
    Walks prog w A I [I, d] [I] es.length (fun i v => ∃ e, es[i]? = some e ∧ v = e.key) (fun i h => h.IsKeyIter I d i es.length n ∧ h.get? d = some (dictOf es n)) where
  sub := fun b hb => by simp at hb; simp [hb]
  frame := fun _ _ _ st hk => ⟨st.1.at fun o e => hk I (by simp) o e, hk d (by simp) _ st.2⟩
  item := fun i s Q E hi st hQ => by
    have hx : es[i]? = some es[i] := by simp
    refine next_item st.1 st.2 hx fun h' hit' hs' => ?_
    exact hQ _ h' s.toks ⟨_, hx, rfl⟩ ⟨hit', (hs'.2 d hne).trans st.2⟩ fun b o hb e => hs'.extBut b o (fun h => hb (by simp [h])) e
  done := fun s Q E st hQ => next_end hh st.1 st.2 fun h' he' => hQ h' s.toks fun b o hb e => he' b o (fun h => hb (by simp [h])) e
  self := fun _ _ _ _ st hQ => wpAny_pyIter_keyiter st.1 hQ
theorem iter_d {Q : Value → Shared → Prop} (lo : (d == sysModules) = false) (hd : s.heap.get? d = some (dictOf es n))
    (hQ : Q (.ref s.heap.objs.size) { s with heap := s.heap.push (keyIt d 0 es.length n) }) : wpAny (model prog w) A (call (.builtin "iter") [.ref d]) Q E s := by
  refine call_function_entry (by decide +kernel) (by decide +kernel) kdk_entry_iter (kdk_args_iter _) ?_
  unfold Builtin.«iter»
  refine wpAny_bind (m := someArgs "iter" 1 2 _) (wpAny_of_eq (a := [Value.ref d]) (by first | rfl | kernel_rfl!) ?_)
  show wpAny _ _ (pyIter (.ref d) >>= _) _ _ _
  exact wpAny_bind (pyIter_d lo hd (wpAny_pure ⟨_, rfl, hQ⟩))
theorem src_d (lo : (d == sysModules) = false) : KdlSrc prog w "dict" d d es.length (fun i v => ∃ e, es[i]? = some e ∧ v = e.key) (fun h => h.get? d = some (dictOf es n)) where
  type := fun s hm => dict_typeIs (s := s) hm
  there := fun _ hm => ⟨Heap.lt_size hm, Heap.lt_size hm⟩
  keep := fun _ _ hm hk => hk d (.inl rfl) _ hm
  notList := by decide
  notTuple := by decide
  hint := fun _ _ _ s hm hq => kdl_hint_dict (dict_typeIs hm) hq
  iter := fun _ _ hh hm => ⟨_, _, (fun _ _ hq => pyIter_d lo hm hq), walk_keys hh _ d (Nat.ne_of_lt (Heap.lt_size hm)) es n, ⟨⟨_, Heap.get?_push_size _ rfl, rfl, rfl⟩, Heap.get?_push_of_some _ hm⟩⟩
/-- list(d): the keys in a new list -/
theorem list_d {Q : Value → Shared → Prop} (hh : A.handled = none) (lo : (d == sysModules) = false) (hd : s.heap.get? d = some (dictOf es n)) (hz : es.length ≤ 9)
    (hQ : ∀ h' tk c, (∀ b o, s.heap.get? b = some o → h'.get? b = some o) → h'.get? s.heap.objs.size = some { cls := .type "list", dict := none, data := .seq (es.map (·.key)).toArray c, slots := #[] } →
      Q (.ref s.heap.objs.size) { s with heap := h', toks := tk }) : wpAny (model prog w) A (call (.type "list") [.ref d]) Q E s := by
  refine kdl_call (src_d (n := n) lo) hh hd (line9 (by omega)) fun h' tk acc' c' hk hS hI => ?_
  have : acc' = (es.map (·.key)).toArray := by
    apply Array.ext
    · rw [hI.1]; simp
    · intro i h1 h2
      obtain ⟨e, he, hv⟩ := hI.2 i acc'[i] (by simp)
      rw [hv]
      simp only [List.size_toArray, List.length_map] at h2
      have : es[i]? = some es[i] := by simp
      rw [this] at he; cases he
      simp
  rw [this] at hS
  exact hQ h' tk c' hk hS
end
end Mine
namespace Mine
open PySem PySem.W PySem.Calls PyProof.Rows
def sameL (a b : List (Fin 9)) : Bool := a.length == b.length && a.all fun x => decide (x ∈ b)
section
variable {prog : Program} {w : World} {A : Around} {E : Value → Shared → Prop} {s : Shared} {d d' : Addr} {es es' : List DictEntry} {n n' : Nat} {l l' : List (Fin 9)}
theorem len_d {Q : Value → Shared → Prop} (lo : (d == sysModules) = false) (D : DictIs prog w s.heap d es n l)
    (h : ∀ t tk, Q (.int l.length t) { s with toks := tk }) : wpAny (model prog w) A (call (.builtin "len") [.ref d]) Q E s := by
  have hz : l.length ≤ 9 := nodup_le D.nd
  refine call_function_entry kind_len plain_len entry_len (args_len1 _) ?_
  unfold Builtin.«len»
  refine wpAny_bind (m := oneArg "len" _) (wpAny_pure ?_)
  refine wpAny_bind (m := callSpecial? (.ref d) (Str.ofString "__len__")) (wpAny_callSpecial?_slot (name := Str.ofString "__len__") D.typeIs F.slot_dict_len
    (wpAny_call_entry F.slot_dict_len D.typeIs F.entry_dict_len ?_ (F.args_dict_len_1 _)))
  show wpAny _ _ (dictSize d >>= _) _ _ s
  unfold dictSize
  refine wpAny_bind (wpAny_bind (wpAny_dictEntries D.get rfl (wpAny_pure ?_)))
  show wpAny _ _ (Builtin.Dict.pendingCount d >>= _) _ _ s
  refine wpAny_bind (wpAny_pendingCount_other lo ?_)
  have e1 : ((es.toArray.size : Int) + ((0 : Nat) : Int)) = (l.length : Int) := by simp [D.rep.length]
  rw [e1]
  refine wpAny_ret_mkInt ?_
  show wpAny _ _ _ _ _ { s with toks := s.toks + 1 }
  refine wpAny_bind (wpAny_holding (wpAny_pure ?_))
  refine wpAny_bind (wpAny_letGo ?_)
  show wpAny _ _ (if ((l.length : Nat) : Int) < 0 then _ else _) _ _ _
  rw [if_neg (by omega)]
  show wpAny _ _ (if ((l.length : Nat) : Int) ≥ 2 ^ 63 then _ else _) _ _ _
  rw [if_neg (by omega)]
  exact wpAny_bind (wpAny_mkInt (wpAny_pure ⟨_, rfl, h _ _⟩))
theorem samePairs_item {nm : String} {Q : Bool → Shared → Prop} (hu : A.units + 1 < cLine) (lo : (d == sysModules) = false) (lo' : (d' == sysModules) = false)
    (D : DictIs prog w s.heap d es n l) (D' : DictIs prog w s.heap d' es' n' l') (h : Q (sameL l l') s) : wpAny (model prog w) A (Builtin.Dict.samePairs nm d d') Q E s := by
  unfold Builtin.Dict.samePairs Builtin.Dict.showsAll
  rw [if_neg (show ¬ (d == sysModules) = true by rw [lo]; exact Bool.false_ne_true), if_neg (show ¬ (d' == sysModules) = true by rw [lo']; exact Bool.false_ne_true)]
  refine wpAny_bind (wpAny_pure (wpAny_bind (wpAny_pure ?_)))
  refine wpAny_bind (wpAny_dictEntries D.get rfl ?_)
  dsimp only
  refine wpAny_bind (wpAny_dictEntries D'.get rfl ?_)
  have e1 := D.rep.length
  have e2 := D'.rep.length
  by_cases hsz : es.length = es'.length
  case neg =>
    rw [if_pos (by simpa using hsz)]
    have hbf : sameL l l' = false := by
      unfold sameL
      have : (l.length == l'.length) = false := by simp; omega
      rw [this, Bool.false_and]
    rw [hbf] at h
    exact wpAny_bind (wpAny_rule (wpAny_pure h))
  case pos =>
    have hbt : sameL l l' = l.all fun x => decide (x ∈ l') := by
      unfold sameL
      have : (l.length == l'.length) = true := by simp; omega
      rw [this, Bool.true_and]
    rw [hbt] at h
    rw [if_neg (by simpa using hsz)]
    refine wpAny_bind (wpAny_dictEpoch D.get rfl ?_)
    refine wpAny_bind ?_
    rw [Std.Legacy.Range.forIn_eq_forIn_range']
    simp only [Std.Legacy.Range.size, Nat.sub_zero, Nat.add_sub_cancel, Nat.div_one]
    refine wpAny_forIn_list _
      (fun rest q s' => s' = s ∧ q = (none, ()) ∧ ∃ i, rest = List.range' i (es.length - i) ∧ i ≤ es.length ∧ (l.take i).all (fun x => decide (x ∈ l')) = true)
      _ ?_ ?_ _ _ ⟨rfl, rfl, 0, by simp, Nat.zero_le _, by simp⟩
    · rintro x rest q s' ⟨rfl, rfl, i, hr, hi, hpre⟩
      have hlt : i < es.length := by
        rcases Nat.lt_or_ge i es.length with h | h
        · exact h
        · rw [Nat.sub_eq_zero_of_le h] at hr; simp at hr
      obtain ⟨rfl, hrest⟩ : x = i ∧ rest = List.range' (i + 1) (es.length - (i + 1)) := by
        have e : es.length - i = (es.length - (i + 1)) + 1 := by omega
        rw [e, List.range'_succ] at hr
        injection hr with h1 h2
        exact ⟨h1, h2⟩
      have hex : es[x]? = some es[x] := by simp
      obtain ⟨k, hk, hh, hi', hev⟩ := D.rep.get hex
      have hea : es.toArray[x]? = some es[x] := by simp
      refine wpAny_bind (wpAny_dictEntries D.get rfl ?_)
      rw [hea]
      show wpAny _ _ (holding [es[x].key, es[x].val] _ >>= _) _ _ _
      rw [hh]
      refine wpAny_bind (wpAny_holding (wpAny_bind (dictFind_item hu hi' D'.get D'.rep D'.nd fun r hr' => ?_)))
      cases r with
      | none =>
        refine wpAny_pure ?_
        show wpAny _ _ (if (!false) = true then _ else _) _ _ _
        rw [if_pos (by decide)]
        refine wpAny_pure (wpAny_pure ?_)
        have : (l.all fun x => decide (x ∈ l')) = false := by
          rw [List.all_eq_false]
          exact ⟨k, List.mem_of_getElem? hk, by have q : k ∉ l' := hr'; simpa using q⟩
        rw [this] at h; exact h
      | some j =>
        obtain ⟨f, hf, _, _, hfv⟩ := D'.rep.get' hr'
        have hfa : es'.toArray[j]? = some f := by simpa using hf
        refine wpAny_bind (wpAny_dictEntries D'.get rfl ?_)
        rw [hfa]
        rw [hev]
        show wpAny _ _ (holding [f.val] (eqBool Value.none f.val)) _ _ _
        rw [hfv]
        refine wpAny_holding (SeqAt.EqAt.same (A := A) (s := s') Value.none prog w _ _ ?_)
        show wpAny _ _ (if (!true) = true then _ else _) _ _ _
        rw [if_neg (by decide)]
        refine wpAny_bind (wpAny_dictEpoch D.get rfl ?_)
        rw [if_neg (by simp)]
        refine wpAny_pure ⟨rfl, rfl, x + 1, hrest, hlt, ?_⟩
        rw [List.take_add_one, hk]
        simp only [Option.toList_some, List.all_append, hpre, List.all_cons, List.all_nil, Bool.and_true, Bool.true_and]
        exact decide_eq_true (List.mem_of_getElem? hr')
    · rintro q s' ⟨rfl, rfl, i, hr, hi, hpre⟩
      have hin : i = es.length := by
        rcases Nat.lt_or_ge i es.length with h | h
        · have e : es.length - i = (es.length - (i + 1)) + 1 := by omega
          rw [e, List.range'_succ] at hr; exact nomatch hr
        · exact Nat.le_antisymm hi h
      rw [hin, e1, List.take_length] at hpre
      rw [hpre] at h
      exact wpAny_pure h
theorem eq_d {Q : Value → Shared → Prop} (hu : A.units + 2 < cLine) (lo : (d == sysModules) = false) (lo' : (d' == sysModules) = false)
    (D : DictIs prog w s.heap d es n l) (D' : DictIs prog w s.heap d' es' n' l') (h : Q (.bool (sameL l l')) s) : wpAny (model prog w) A (compareOp .Eq (.ref d) (.ref d')) Q E s := by
  refine wpAny_richCompare_same_room (op := .Eq) D.typeIs D'.typeIs F.slot_dict_eq (wpAny_call_entry F.slot_dict_eq D.typeIs F.entry_dict_eq ?_ (F.args_dict_eq_2 _ _)) (by omega)
  show wpAny _ _ (Builtin.Dict.dictSlotArgs "__eq__" ⟨[.ref d, .ref d'], []⟩ >>= _) _ _ s
  refine wpAny_bind ?_
  unfold Builtin.Dict.dictSlotArgs
  refine wpAny_bind (wpAny_notOrdered_dict D.typeIs ?_)
  show wpAny _ _ (pure (Value.ref d, Value.ref d')) _ _ s
  refine wpAny_pure ?_
  refine wpAny_bind (wpAny_isInstance (T := "dict") D'.typeIs F.sub_dict_dict ?_)
  simp only [Bool.not_true, Bool.false_eq_true, if_false]
  refine wpAny_bind (wpAny_pure (wpAny_bind (wpAny_pure ?_)))
  refine wpAny_bind (samePairs_item (by show A.units + 1 + 1 < cLine; omega) lo lo' D D' ?_)
  refine wpAny_pure ⟨_, rfl, ?_, ?_⟩
  · exact fun x => nomatch x
  · simpa using h
end
/-! dict() -/
theorem mro_dict : mroOf (.type "dict") = pure [.type "dict", .type "object"] := by rw [mroOf_type]; kernel_rfl
theorem lookup_dict_new : typeLookup (.type "dict") "__new__" = pure (some (.builtin "dict.__new__")) := by rw [typeLookup_type, builtinLookup_eq_fast]; kernel_rfl
theorem called_dict : TypeCalled "dict" "dict.__new__" "dict.__init__" :=
  ⟨by decide +kernel, by decide +kernel, ⟨_, _, mro_dict⟩, madeBy_type mro_dict lookup_dict_new (by decide +kernel), by decide +kernel, by rw [isSubtype_type]; kernel_rfl, F.slot_dict_init⟩
theorem typeCall_dict_0 : checkTypeCall "dict" ⟨[], []⟩ = pure () := by kernel_rfl
theorem newCall_dict_0 : checkBuiltinCall "dict.__new__" ⟨[.type "dict"], []⟩ = pure () := by kernel_rfl
theorem entry_dict_new : entryFor table "dict.__new__" = some Builtin.«dict.__new__» := entryFor_of_tree (by kernel_rfl)
theorem plain_dict_new : plainId "dict.__new__" = true := by decide +kernel
theorem isType_dict : isType (.type "dict") = pure true := by first | rfl | kernel_rfl
section
variable {prog : Program} {w : World} {A : Around} {E : Value → Shared → Prop} {s : Shared}
theorem code_dict_new {Q₁ : Value → Shared → Prop}
    (h : Q₁ (.ref s.heap.objs.size) { s with heap := s.heap.push { cls := .type "dict", data := .dict #[] } }) :
    codeAny (model prog w) A (.call (.builtin "dict.__new__") ⟨[.type "dict"], []⟩) (wants Q₁ E) s := by
  refine codeAny_of_tree ?_
  show wpAny _ A.in1 (do checkBuiltinCall "dict.__new__" ⟨[.type "dict"], []⟩; again (.builtin "dict.__new__" ⟨[.type "dict"], []⟩)) _ _ s
  refine wpAny_bind (wpAny_of_eq newCall_dict_0 (wpAny_pure ⟨plainId_quiet plain_dict_new _, codeAny_builtin entry_dict_new ?_⟩))
  rw [Around.under_plainId plain_dict_new _]
  unfold Builtin.«dict.__new__»
  dsimp only
  have hsub := F.sub_dict_dict
  have hm := mro_dict
  have ht := isType_dict
  simp only [ht, hsub, hm]
  refine wpAny_bind (wpAny_pure ?_)
  simp only [Bool.not_true, Bool.false_eq_true, if_false]
  refine wpAny_bind (wpAny_pure ?_)
  simp only [Bool.not_true, Bool.false_eq_true, if_false]
  refine wpAny_bind (wpAny_pure ?_)
  rw [if_neg (by decide)]
  exact wpAny_bind (wpAny_newObj_type (wpAny_pure h))
theorem call_dict_0 {Q : Value → Shared → Prop} (h : Q (.ref s.heap.objs.size) { s with heap := s.heap.push { cls := .type "dict", data := .dict #[] } }) :
    wpAny (model prog w) A (call (.type "dict") []) Q E s := by
  refine callType_codes (Q₁ := fun obj s₁ => obj = .ref s.heap.objs.size ∧ s₁ = { s with heap := s.heap.push { cls := .type "dict", data := .dict #[] } }) called_dict typeCall_dict_0 F.entry_dict_init
    (code_dict_new ⟨rfl, rfl⟩) fun obj s₁ h₁ => ?_
  obtain ⟨rfl, rfl⟩ := h₁
  have hT : Shared.TypeIs { s with heap := s.heap.push { cls := .type "dict", data := .dict #[] } } (.ref s.heap.objs.size) "dict" := ⟨_, Heap.get?_push_size _ rfl, rfl⟩
  refine ⟨hT, F.args_dict_init_1 _, ?_⟩
  unfold Builtin.«dict.__init__» Builtin.Dict.selfAndRest
  refine wpAny_bind (wpAny_bind (wpAny_notOrdered_dict hT ?_))
  dsimp only
  refine wpAny_bind (wpAny_pure (wpAny_pure ?_))
  unfold Builtin.Dict.updateCommon Builtin.Dict.addKeywords
  dsimp only
  rw [List.forIn_nil]
  exact wpAny_bind (wpAny_bind (wpAny_pure (wpAny_pure (wpAny_pure ⟨rfl, h⟩))))
end
end Mine
namespace Mine
open PySem PySem.W PySem.Calls PyProof.Rows
/-- room for k more frames -/
def Room (A : Around) (k : Nat) : Prop := A.depth + 2 * k < recursionLimit ∧ A.units + 20 * k < cLine
theorem Room.mono {A : Around} {j k : Nat} (r : Room A k) (h : j ≤ k) : Room A j := ⟨by have := r.1; omega, by have := r.2; omega⟩
theorem Room.deeper {A : Around} {k : Nat} {env : Env} (r : Room A (k + 1)) : Room (A.deeper env) k := ⟨by have := r.1; show A.depth + 1 + 2 * k < _; omega, by have := r.2; show A.units + 3 + 20 * k < _; omega⟩
theorem Room.make {A : Around} {k : Nat} {C : Addr} {vals : List Value} (r : Room A (k + 1)) : Room (A.under (.builtin "type.__call__" ⟨.ref C :: vals, []⟩)) k :=
  ⟨by have := r.1; rw [depth_under_make]; omega, by have := r.2; rw [units_under_make]; omega⟩
theorem Room.in1 {A : Around} {k : Nat} (r : Room A (k + 1)) : Room A.in1 k := ⟨by have := r.1; show A.depth + 2 * k < _; omega, by have := r.2; show A.units + 1 + 20 * k < _; omega⟩
theorem Room.depth {A : Around} {k : Nat} (r : Room A k) : A.depth < recursionLimit := by have := r.1; omega
theorem Room.units {A : Around} {k j : Nat} (r : Room A (k + 1)) (h : j < 20 := by decide) : A.units + j < cLine := by have := r.2; omega
/-- where a def may be called: the world below, the frames -/
structure Cx (w : World) (A : Around) (base : Heap) (frs : List Env) (mean : ExcName → Option Value) (mg mb : Str → Option Value) (h : Heap) (k : Nat) : Prop where
  stays : base.StaysIn h
  kin : (hd.heap_39 w.params).In base
  top : Top hd.view_39 (looseW hd.view_39 []) mean mg mb base
  frames : h.FunFrames base frs
  stack : A.frames = some frs
  handled : A.handled = none
  room : Room A k
/-- all but D stays -/
def Chg (D : List Addr) (h h' : Heap) : Prop := ∀ b o, b ∉ D → h.get? b = some o → h'.get? b = some o
theorem Chg.refl (D : List Addr) (h : Heap) : Chg D h h := fun _ _ _ e => e
theorem Chg.trans {D : List Addr} {h h' h'' : Heap} (x : Chg D h h') (y : Chg D h' h'') : Chg D h h'' := fun b o n e => y b o n (x b o n e)
theorem Chg.mono {D D' : List Addr} {h h' : Heap} (x : Chg D h h') (s : ∀ b ∈ D, b ∈ D') : Chg D' h h' := fun b o n e => x b o (fun q => n (s b q)) e
section
variable {prog : Program} {w : World} {A : Around} {base g h h' : Heap} {frs : List Env} {mean : ExcName → Option Value} {mg mb : Str → Option Value} {k : Nat} {s : Shared}
  {L : Addr} {m : Str → Option Value} {news : List (Addr × Obj)} {D : List Addr}
theorem Fr.chg (F : Fr g L h m) (c : Chg D h h') (hD : ∀ a ∈ D, g.get? a = none ∧ a ≠ L) : Fr g L h' m := by
  obtain ⟨oL, a1, a2, hoL, a3⟩ := F.ns
  refine ⟨⟨oL, a1, a2, c L oL (fun q => (hD L q).2 rfl) hoL, a3⟩, fun b x e => c b x (fun q => ?_) (F.keep b x e), F.above⟩
  rw [(hD b q).1] at e; cases e
theorem News.chg (N : News g L h news) (c : Chg D h h') (hD : ∀ p ∈ news, p.1 ∉ D) : News g L h' news := fun p hp => ⟨c _ _ (hD p hp) (N p hp).1, (N p hp).2⟩
theorem News.app {n₁ n₂ : List (Addr × Obj)} (N₁ : News g L h n₁) (N₂ : News g L h n₂) : News g L h (n₁ ++ n₂) := fun p hp => (List.mem_append.mp hp).elim (N₁ p) (N₂ p)
theorem News.add {a : Addr} {o : Obj} (N : News g L h news) (h1 : h.get? a = some o) (h2 : a ≠ L) (h3 : g.get? a = none) : News g L h ((a, o) :: news) := fun p hp => by
  rcases List.mem_cons.mp hp with rfl | hp
  · exact ⟨h1, h2, h3⟩
  · exact N p hp
theorem Cx.inner {qual : Str} {scope : Scope} {f : Addr} {cdv : Value} {h₀ : Heap} (C : Cx w A base frs mean mg mb h₀ (k + 1)) (B : Below A base frs g) (F : Fr g L h m) (hk : scope.kind = .function := by rfl) :
    Cx w (A.deeper (envOf qual scope L f cdv)) base (envOf qual scope L f cdv :: frs) mean mg mb h k where
  stays := fun b o e => F.keep b o (B.stays b o e)
  kin := C.kin
  top := C.top
  frames := (B.push (name := qual) (a := f) (cd := cdv) F hk).frames
  stack := Around.frames_deeper C.stack
  handled := C.handled
  room := C.room.deeper
theorem frames_lt {l : List Env} (hl : h.FunFrames base l) {b : Addr} (hb : b ∈ l.filterMap (·.frame)) : base.get? b = none := (hl.mem hb).1
/-- a def is entered -/
theorem enterM (C : Cx w A base frs mean mg mb s.heap k) (D : List Addr) (hD : ∀ a ∈ D, base.get? a = none ∧ a ∉ frs.filterMap (·.frame))
    {R : Result → Shared → Prop} {name qual : Str} {params : Arguments} {body : List Stmt} {scope : Scope} {dV kV doc pm cdv ct oc : Value} {an od : Option Addr} {osl : Array (Option Value)} {f : Addr} {args : Args} {binds : List (Str × Value)}
    (ho : (hd.heap_39 w.params).lookup f = some ⟨oc, od, .func (fnOf name qual params body scope dV kV doc pm an cdv ct), osl⟩) (hcd : codeIn (hd.heap_39 w.params) cdv qual = true)
    (hbind : BindsTo s (fnOf name qual params body scope dV kV doc pm an cdv ct) args binds) (hloc : ∀ y ∈ binds, scope.names.lookup y.1 = some .local)
    (h : ∀ g L h₁, (∀ b o, s.heap.get? b = some o → b ∉ D → g.get? b = some o) → (∀ a ∈ D, g.get? a = none) → (∀ b o, s.heap.get? b = some o → h₁.get? b = some o ∧ b < L) →
      Fr g L h₁ (fun y => binds.reverse.lookup y) → Below A base frs g → (hd.heap_39 w.params).In g → Top hd.view_39 (looseW hd.view_39 []) mean mg mb g →
      wpAny (model prog w) (A.deeper (envOf qual scope L f cdv)) (execs body (envOf qual scope L f cdv))
        (fun fl s' => R (.ok (.ret (match fl with | .ret v => v | _ => .none))) s')
        (fun e s' => wpAny (model prog w) (A.deeper (envOf qual scope L f cdv)) (leaving (envOf qual scope L f cdv) e) (fun _ s'' => R (.error e) s'') (fun e' s'' => R (.error e') s'') s')
        { s with heap := h₁, toks := s.toks + binds.length })
    (hco : scope.isCoroutine = false := by rfl) (hgen : scope.isGenerator = false := by rfl) (hk : scope.kind = .function := by rfl)
    (hcell : ∀ x ∈ scope.names, x.2 ≠ .cell := by decide) : codeAny (model prog w) A (.call (.ref f) args) R s := by
  have X : (hd.heap_39 w.params).In s.heap := C.kin.keeps C.stays
  refine codeAny_call_def (fd := fnOf name qual params body scope dV kV doc pm an cdv ct) (body := body) (binds := binds) C.room.depth (X _ _ ho) rfl (C.top.nolimit.keeps C.stays) (codeRec_of X hcd) rfl hbind hcell hloc (fun h₁ hns hk₁ => ?_) hco hgen hk
  have st : base.StaysIn (hideAll s.heap D) := fun b o e => hideAll_get _ (C.stays b o e) fun q => by rw [(hD b q).1] at e; cases e
  exact h (hideAll s.heap D) s.heap.objs.size h₁ (fun b o e n => hideAll_get _ e n) (fun a ha => hideAll_none _ ha) (fun b o e => ⟨hk₁ b o e, Heap.lt_size e⟩)
    ⟨hns, fun b o e => hk₁ b o (of_hideAll _ e), Nat.le_of_eq (hideAll_size _ _)⟩
    ⟨C.stack, st, funFrames_hideAll C.frames fun env he a ha hf => (hD a ha).2 (List.mem_filterMap.mpr ⟨env, he, hf⟩)⟩ (C.kin.keeps st) (C.top.keeps st)
end
end Mine
namespace Mine
open PySem PySem.W PySem.Calls PyProof.Rows
/-- the entries es bear the items l, by ti's tuples; d is no table of the interpreter's -/
structure Bears (prog : Program) (w : World) (ti : Heap) (d : Addr) (es : List DictEntry) (l : List (Fin 9)) : Prop where
  rep : Rep prog w ti es l
  nd : l.Nodup
  lo : (d == sysModules) = false
/-- the tuples of ti stand in h -/
def TupIn (ti h : Heap) : Prop := ∀ b o, ti.get? b = some o → o.cls = .type "tuple" → h.get? b = some o
theorem TupIn.refl (h : Heap) : TupIn h h := fun _ _ e _ => e
theorem TupIn.trans {a b c : Heap} (x : TupIn a b) (y : TupIn b c) : TupIn a c := fun p o e q => y p o (x p o e q) q
theorem TupIn.up {ti g h : Heap} {L : Addr} {m : Str → Option Value} (x : TupIn ti g) (F : Fr g L h m) : TupIn ti h := fun b o e q => F.keep b o (x b o e q)
theorem TupIn.item {ti h : Heap} {v : Value} {k : Fin 9} (x : TupIn ti h) (i : ItemAt ti v k) : ItemAt h v k := item_keep i x
section
variable {prog : Program} {w : World} {A : Around} {E : Value → Shared → Prop} {s : Shared} {ti g h h' : Heap} {L d : Addr} {m : Str → Option Value} {news : List (Addr × Obj)} {u : Obj → List (Addr × Obj)}
  {es : List DictEntry} {n : Nat} {l l' : List (Fin 9)} {v : Value} {k : Fin 9}
theorem Bears.dict (x : Bears prog w ti d es l) (Ti : TupIn ti h) (hd : h.get? d = some (dictOf es n)) : DictIs prog w h d es n l := ⟨hd, x.rep.keep Ti, x.nd⟩
theorem now_K {vk : List (Value × Fin 9)} (F : Fr g L h m) (N : News g L h news) (U : UpdF d (dictOf es n) news u) (x : Bears prog w ti d es l) (hv : ∀ p ∈ vk, ItemAt ti p.1 p.2) (hN : Now prog w d es l l' vk h h') :
    ∃ es' n', Fr g L h' m ∧ News g L h' (u (dictOf es' n')) ∧ Bears prog w ti d es' l' := by
  obtain ⟨pre, post, hl, hu, a, b⟩ := U.split
  have hm : (d, dictOf es n) ∈ news := by rw [hl]; exact List.mem_append_right _ (.head _)
  obtain ⟨hs, es', n', hg, hnd, hr⟩ := hN
  exact ⟨es', n', F.change hs (N _ hm).2.1 (N _ hm).2.2, hu (dictOf es' n') ▸ (show News g L h (pre ++ (d, dictOf es n) :: post) from hl ▸ N).setIn a b hs hg, hr ti hv x.rep, hnd, x.lo⟩
theorem notIn_K {Q : Value → Shared → Prop} (Ti : TupIn ti s.heap) (hd : s.heap.get? d = some (dictOf es n)) (x : Bears prog w ti d es l) (hv : ItemAt ti v k) (hu : A.units + 2 < cLine)
    (h : ∀ tk, Q (.bool (!decide (k ∈ l))) { s with toks := tk }) : wpAny (model prog w) A (compareOp .NotIn v (.ref d)) Q E s := notIn_item hu (Ti.item hv) x.lo (x.dict Ti hd) h
theorem in_K' {Q : Value → Shared → Prop} (Ti : TupIn ti s.heap) (hd : s.heap.get? d = some (dictOf es n)) (x : Bears prog w ti d es l) (hv : ItemAt ti v k) (hu : A.units + 2 < cLine)
    (h : ∀ tk, Q (.bool (decide (k ∈ l))) { s with toks := tk }) : wpAny (model prog w) A (compareOp .In v (.ref d)) Q E s := in_item hu (Ti.item hv) x.lo (x.dict Ti hd) h
theorem setItem_K' {Q : Unit → Shared → Prop} (Ti : TupIn ti s.heap) (F : Fr g L s.heap m) (N : News g L s.heap news) (U : UpdF d (dictOf es n) news u) (x : Bears prog w ti d es l) (hv : ItemAt ti v k) (hu : A.units + 2 < cLine)
    (h : ∀ h' es' n' tk, Fr g L h' m → News g L h' (u (dictOf es' n')) → Bears prog w ti d es' (addL l k) → Q () { s with heap := h', toks := tk }) : wpAny (model prog w) A (setItem (.ref d) v .none) Q E s := by
  have hd : s.heap.get? d = some (dictOf es n) := by obtain ⟨pre, post, hl, _⟩ := U.split; exact (N (d, dictOf es n) (by rw [hl]; simp)).1
  refine setItem_item hu (Ti.item hv) (x.dict Ti hd) fun h' tk hN => ?_
  obtain ⟨es', n', F', N', x'⟩ := now_K F N U x (fun p hp => by rw [List.mem_singleton.mp hp]; exact hv) hN
  exact h h' es' n' tk F' N' x'
theorem pop_K' {Q : Value → Shared → Prop} (Ti : TupIn ti s.heap) (F : Fr g L s.heap m) (N : News g L s.heap news) (U : UpdF d (dictOf es n) news u) (x : Bears prog w ti d es l) (hv : ItemAt ti v k) (hu : A.units + 2 < cLine)
    (h : ∀ h' es' n' tk, Fr g L h' m → News g L h' (u (dictOf es' n')) → Bears prog w ti d es' (delL l k) → Q .none { s with heap := h', toks := tk }) : wpAny (model prog w) A (call (.builtin "dict.pop") [.ref d, v, .none]) Q E s := by
  have hd : s.heap.get? d = some (dictOf es n) := by obtain ⟨pre, post, hl, _⟩ := U.split; exact (N (d, dictOf es n) (by rw [hl]; simp)).1
  refine pop_item hu (Ti.item hv) x.lo (x.dict Ti hd) fun h' tk hN => ?_
  obtain ⟨es', n', F', N', x'⟩ := now_K (vk := []) F N U x (fun p hp => by simp at hp) hN
  exact h h' es' n' tk F' N' x'
theorem clear_K' {Q : Value → Shared → Prop} (Ti : TupIn ti s.heap) (F : Fr g L s.heap m) (N : News g L s.heap news) (U : UpdF d (dictOf es n) news u) (x : Bears prog w ti d es l)
    (h : ∀ h' es' n', Fr g L h' m → News g L h' (u (dictOf es' n')) → Bears prog w ti d es' [] → Q .none { s with heap := h' }) : wpAny (model prog w) A (call (.builtin "dict.clear") [.ref d]) Q E s := by
  have hd : s.heap.get? d = some (dictOf es n) := by obtain ⟨pre, post, hl, _⟩ := U.split; exact (N (d, dictOf es n) (by rw [hl]; simp)).1
  refine clear_item (x.dict Ti hd) fun h' hN => ?_
  obtain ⟨es', n', F', N', x'⟩ := now_K (vk := []) F N U x (fun p hp => by simp at hp) hN
  exact h h' es' n' F' N' x'
theorem delItem_K' {Q : Unit → Shared → Prop} (hh : A.handled = none) (Ti : TupIn ti s.heap) (F : Fr g L s.heap m) (N : News g L s.heap news) (U : UpdF d (dictOf es n) news u) (x : Bears prog w ti d es l) (hv : ItemAt ti v k) (hu : A.units + 2 < cLine)
    (h0 : k ∉ l → ∀ h' e tk, Heap.NewExc s.heap h' e "KeyError" → E (.ref e) { s with heap := h', toks := tk })
    (h : k ∈ l → ∀ h' es' n' tk, Fr g L h' m → News g L h' (u (dictOf es' n')) → Bears prog w ti d es' (delL l k) → Q () { s with heap := h', toks := tk }) : wpAny (model prog w) A (delItem (.ref d) v) Q E s := by
  have hd : s.heap.get? d = some (dictOf es n) := by obtain ⟨pre, post, hl, _⟩ := U.split; exact (N (d, dictOf es n) (by rw [hl]; simp)).1
  refine delItem_item hu hh (Ti.item hv) x.lo (x.dict Ti hd) h0 fun hk h' tk hN => ?_
  obtain ⟨es', n', F', N', x'⟩ := now_K (vk := []) F N U x (fun p hp => by simp at hp) hN
  exact h hk h' es' n' tk F' N' x'
end
/-- x is a Set that bears the items l -/
structure SetIs (prog : Program) (w : World) (ti h : Heap) (x dx d : Addr) (l : List (Fin 9)) : Prop where
  obj : h.get? x = some (instObj 275 dx)
  attrs : ∃ t n, h.get? dx = some (dictOf [⟨PyData.keyHash w.params (Str.ofString "items"), .str (Str.ofString "items") t, .ref d⟩] n)
  dict : ∃ es ep, h.get? d = some (dictOf es ep) ∧ Bears prog w ti d es l
section
variable {prog : Program} {w : World} {ti ti' h h' : Heap} {x dx d : Addr} {l : List (Fin 9)}
theorem SetIs.ne (S : SetIs prog w ti h x dx d l) : x ≠ dx ∧ x ≠ d ∧ dx ≠ d := by
  obtain ⟨hx, ⟨t, n, hdx⟩, es, ep, hd, hb⟩ := S
  refine ⟨fun e => ?_, fun e => ?_, fun e => ?_⟩
  · rw [e, hdx] at hx; injection hx with hx; injection hx with a; cases a
  · rw [e, hd] at hx; injection hx with hx; injection hx with a; cases a
  · rw [e, hd] at hdx
    injection hdx with hdx
    injection hdx with _ _ hdx
    injection hdx with hdx
    have : es = [⟨PyData.keyHash w.params (Str.ofString "items"), .str (Str.ofString "items") t, .ref d⟩] := by
      have := congrArg Array.toList hdx; simpa using this
    rw [this] at hb
    obtain ⟨_, _, _, _, hv⟩ := hb.rep.get (i := 0) rfl
    cases hv
/-- a Set stays where its three objects stay -/
theorem SetIs.keep (S : SetIs prog w ti h x dx d l) (c : ∀ b o, b ∈ [x, dx, d] → h.get? b = some o → h'.get? b = some o) : SetIs prog w ti h' x dx d l :=
  ⟨c _ _ (by simp) S.obj, let ⟨t, n, e⟩ := S.attrs; ⟨t, n, c _ _ (by simp) e⟩, let ⟨es, ep, e, b⟩ := S.dict; ⟨es, ep, c _ _ (by simp) e, b⟩⟩
theorem SetIs.up (S : SetIs prog w ti h x dx d l) (T : TupIn ti ti') : SetIs prog w ti' h x dx d l :=
  ⟨S.obj, S.attrs, let ⟨es, ep, e, b⟩ := S.dict; ⟨es, ep, e, b.rep.keep T, b.nd, b.lo⟩⟩
end
theorem InstAt.of_g {g h : Heap} {L x C dx : Addr} {m : Str → Option Value} {od : Obj} {sl : Array (Option Value)} (F : Fr g L h m) (h1 : g.get? x = some ⟨.ref C, some dx, .plain, sl⟩) (h2 : g.get? dx = some od) :
    InstAt h x ⟨.ref C, some dx, .plain, sl⟩ C (some od) := ⟨F.keep _ _ h1, rfl, rfl, F.keep _ _ h2⟩
/-- d may be changed by the calls from here -/
def Own (base : Heap) (frs : List Env) (d : Addr) : Prop := base.get? d = none ∧ d ∉ frs.filterMap (·.frame)
theorem Own.of_news {A : Around} {base g h : Heap} {frs : List Env} {L d f : Addr} {o : Obj} {news : List (Addr × Obj)} {qual : Str} {scope : Scope} {cdv : Value} (B : Below A base frs g) (N : News g L h news) (hm : (d, o) ∈ news) :
    Own base (envOf qual scope L f cdv :: frs) d := by
  obtain ⟨_, hL, hg⟩ := N _ hm
  refine ⟨?_, ?_⟩
  · cases e : base.get? d with
    | none => rfl
    | some o' => rw [B.stays d o' e] at hg; cases hg
  · intro hf
    rw [List.filterMap_cons] at hf
    rcases List.mem_cons.mp hf with e | hf
    · exact hL e
    · obtain ⟨_, o', ho', _⟩ := B.frames.mem hf
      rw [ho'] at hg; cases hg
end Mine
namespace Mine
open PySem PySem.W PySem.Calls PyProof.Rows
abbrev setAttrs (w : World) (t : Tok) (n : Nat) (d : Addr) : Obj := dictOf [⟨PyData.keyHash w.params (Str.ofString "items"), .str (Str.ofString "items") t, .ref d⟩] n
section
variable {prog : Program} {w : World} {A : Around} {base ti g h h' : Heap} {frs : List Env} {mean : ExcName → Option Value} {mg mb : Str → Option Value} {s : Shared} {k : Nat}
  {x dx d y dy e : Addr} {l l' : List (Fin 9)} {L : Addr} {m : Str → Option Value} {news : List (Addr × Obj)} {D : List Addr} {es : List DictEntry} {n t : Nat}
theorem chg_of (hg : ∀ b o, h.get? b = some o → b ∉ D → g.get? b = some o) (F : Fr g L h' m) : Chg D h h' := fun b o q a => F.keep b o (hg b o a q)
theorem setIs_of (F : Fr g L h m) (N : News g L h news) (gx : g.get? x = some (instObj 275 dx)) (gdx : g.get? dx = some (setAttrs w t n d)) {ep : Nat} (hm : (d, dictOf es ep) ∈ news) (Bd : Bears prog w ti d es l) : SetIs prog w ti h x dx d l :=
  ⟨F.keep _ _ gx, ⟨t, n, F.keep _ _ gdx⟩, es, ep, N.get hm, Bd⟩
theorem setIs_new (N : News g L h news) (hx : (x, instObj 275 dx) ∈ news) (hdx : (dx, setAttrs w t n d) ∈ news) {ep : Nat} (hm : (d, dictOf es ep) ∈ news) (Bd : Bears prog w ti d es l) : SetIs prog w ti h x dx d l :=
  ⟨N.get hx, ⟨t, n, N.get hdx⟩, es, ep, N.get hm, Bd⟩
theorem SetIs.off (S : SetIs prog w ti h x dx d l) (S' : SetIs prog w ti h y dy e l') : y ≠ d ∧ dy ≠ d := by
  obtain ⟨hx, ⟨t, n, hdx⟩, es, ep, hd, hb⟩ := S
  obtain ⟨hy, ⟨t', n', hdy⟩, es', ep', he, hb'⟩ := S'
  refine ⟨fun q => ?_, fun q => ?_⟩
  · rw [q, hd] at hy; injection hy with hy; injection hy with a; cases a
  · rw [q, hd] at hdy
    injection hdy with hdy
    injection hdy with _ _ hdy
    injection hdy with hdy
    have : es = [⟨PyData.keyHash w.params (Str.ofString "items"), .str (Str.ofString "items") t', .ref e⟩] := by
      have := congrArg Array.toList hdy; simpa using this
    rw [this] at hb
    obtain ⟨_, _, _, _, hv⟩ := hb.rep.get (i := 0) rfl
    cases hv
theorem SetIs.noTup (S : SetIs prog w ti h x dx d l) (Ti : TupIn ti h) : ∀ b o, ti.get? b = some o → o.cls = .type "tuple" → b ≠ d := fun b o q c a => by
  obtain ⟨_, _, es, ep, hd, _⟩ := S
  have := Ti b o q c
  rw [a, hd] at this; injection this with this
  rw [← this] at c; simp at c
/-- what a def has of a Set that it only reads -/
structure Reads1 (prog : Program) (w : World) (ti g : Heap) (x dx d : Addr) (l : List (Fin 9)) (t n ep : Nat) (es : List DictEntry) : Prop where
  gx : g.get? x = some (instObj 275 dx)
  gdx : g.get? dx = some (setAttrs w t n d)
  gd : g.get? d = some (dictOf es ep)
  bd : Bears prog w ti d es l
theorem SetIs.reads (S : SetIs prog w ti h x dx d l) (hg : ∀ b o, h.get? b = some o → b ∉ D → g.get? b = some o) (hD : ∀ b ∈ D, b ≠ x ∧ b ≠ dx ∧ b ≠ d) : ∃ t n ep es, Reads1 prog w ti g x dx d l t n ep es := by
  obtain ⟨hx, ⟨t, n, hdx⟩, es, ep, hd, hb⟩ := S
  exact ⟨t, n, ep, es, hg _ _ hx fun q => (hD _ q).1 rfl, hg _ _ hdx fun q => (hD _ q).2.1 rfl, hg _ _ hd fun q => (hD _ q).2.2 rfl, hb⟩
theorem Reads1.set (r : ∃ t n ep es, Reads1 prog w ti g x dx d l t n ep es) (F : Fr g L h m) : SetIs prog w ti h x dx d l :=
  let ⟨t, n, ep, es, a, b, c, b'⟩ := r
  ⟨F.keep _ _ a, ⟨t, n, F.keep _ _ b⟩, es, ep, F.keep _ _ c, b'⟩
/-- a def is entered that changes nothing -/
theorem enter0 (C : Cx w A base frs mean mg mb s.heap k) (Ti : TupIn ti s.heap)
    {R : Result → Shared → Prop} {name qual : Str} {params : Arguments} {body : List Stmt} {scope : Scope} {dV kV doc pm cdv ct oc : Value} {an od : Option Addr} {osl : Array (Option Value)} {f : Addr} {args : Args} {binds : List (Str × Value)}
    (ho : (hd.heap_39 w.params).lookup f = some ⟨oc, od, .func (fnOf name qual params body scope dV kV doc pm an cdv ct), osl⟩) (hcd : codeIn (hd.heap_39 w.params) cdv qual = true)
    (hbind : BindsTo s (fnOf name qual params body scope dV kV doc pm an cdv ct) args binds) (hloc : ∀ y ∈ binds, scope.names.lookup y.1 = some .local)
    (h : ∀ g L h₁, (∀ b o, s.heap.get? b = some o → b ∉ ([] : List Addr) → g.get? b = some o) → TupIn ti g →
      Fr g L h₁ (fun y => binds.reverse.lookup y) → News g L h₁ [] → Below A base frs g → (hd.heap_39 w.params).In g → Top hd.view_39 (looseW hd.view_39 []) mean mg mb g →
      wpAny (model prog w) (A.deeper (envOf qual scope L f cdv)) (execs body (envOf qual scope L f cdv))
        (fun fl s' => R (.ok (.ret (match fl with | .ret v => v | _ => .none))) s')
        (fun e s' => wpAny (model prog w) (A.deeper (envOf qual scope L f cdv)) (leaving (envOf qual scope L f cdv) e) (fun _ s'' => R (.error e) s'') (fun e' s'' => R (.error e') s'') s')
        { s with heap := h₁, toks := s.toks + binds.length })
    (hco : scope.isCoroutine = false := by rfl) (hgen : scope.isGenerator = false := by rfl) (hk : scope.kind = .function := by rfl)
    (hcell : ∀ x ∈ scope.names, x.2 ≠ .cell := by decide) : codeAny (model prog w) A (.call (.ref f) args) R s :=
  enterM C [] (fun _ h => by simp at h) ho hcd hbind hloc (fun g L h₁ hg _ _ F B X T => h g L h₁ hg (fun b o e c => hg b o (Ti b o e c) (by simp)) F (fun _ h => by simp at h) B X T) hco hgen hk hcell
/-- a def is entered that changes the one Set x -/
theorem enter1 (C : Cx w A base frs mean mg mb s.heap k) (Ti : TupIn ti s.heap) (S : SetIs prog w ti s.heap x dx d l) (O : Own base frs d)
    {R : Result → Shared → Prop} {name qual : Str} {params : Arguments} {body : List Stmt} {scope : Scope} {dV kV doc pm cdv ct oc : Value} {an od : Option Addr} {osl : Array (Option Value)} {f : Addr} {args : Args} {binds : List (Str × Value)}
    (ho : (hd.heap_39 w.params).lookup f = some ⟨oc, od, .func (fnOf name qual params body scope dV kV doc pm an cdv ct), osl⟩) (hcd : codeIn (hd.heap_39 w.params) cdv qual = true)
    (hbind : BindsTo s (fnOf name qual params body scope dV kV doc pm an cdv ct) args binds) (hloc : ∀ y ∈ binds, scope.names.lookup y.1 = some .local)
    (h : ∀ g L h₁ t n es ep, (∀ b o, s.heap.get? b = some o → b ∉ [d] → g.get? b = some o) → TupIn ti g → g.get? x = some (instObj 275 dx) → g.get? dx = some (setAttrs w t n d) → Bears prog w ti d es l →
      Fr g L h₁ (fun y => binds.reverse.lookup y) → News g L h₁ [(d, dictOf es ep)] → Below A base frs g → (hd.heap_39 w.params).In g → Top hd.view_39 (looseW hd.view_39 []) mean mg mb g →
      wpAny (model prog w) (A.deeper (envOf qual scope L f cdv)) (execs body (envOf qual scope L f cdv))
        (fun fl s' => R (.ok (.ret (match fl with | .ret v => v | _ => .none))) s')
        (fun e s' => wpAny (model prog w) (A.deeper (envOf qual scope L f cdv)) (leaving (envOf qual scope L f cdv) e) (fun _ s'' => R (.error e) s'') (fun e' s'' => R (.error e') s'') s')
        { s with heap := h₁, toks := s.toks + binds.length })
    (hco : scope.isCoroutine = false := by rfl) (hgen : scope.isGenerator = false := by rfl) (hk : scope.kind = .function := by rfl)
    (hcell : ∀ x ∈ scope.names, x.2 ≠ .cell := by decide) : codeAny (model prog w) A (.call (.ref f) args) R s := by
  obtain ⟨_, ne2, ne3⟩ := S.ne
  have nt := S.noTup Ti
  obtain ⟨hx, ⟨t, n, hdx⟩, es, ep, hd, Bd⟩ := S
  refine enterM C [d] (fun a ha => by rw [List.mem_singleton.mp ha]; exact O) ho hcd hbind hloc (fun g L h₁ hg hn hk F B X T => ?_) hco hgen hk hcell
  exact h g L h₁ t n es ep hg (fun b o e c => hg b o (Ti b o e c) (by simpa using nt b o e c)) (hg _ _ hx (by simpa using ne2)) (hg _ _ hdx (by simpa using ne3)) Bd F
    (News.add (fun _ h => by simp at h) (hk _ _ hd).1 (Nat.ne_of_lt (hk _ _ hd).2) (hn d (by simp))) B X T
end
end Mine
namespace Mine
open PySem PySem.W PySem.Calls PyProof.Rows
/-- where a turn of a loop may end -/
def TurnM (g : Heap) (L : Addr) (pre : List (Addr × Obj)) (Jn : (Str → Option Value) → List (Addr × Obj) → Prop) (s : Shared) (Q : Flow → Shared → Prop) (f : Flow) (s' : Shared) : Prop :=
  match f with
  | .ret v => Q (.ret v) s'
  | .brk => Q .next s'
  | _ => ∃ h' tk m₂ news₂, s' = { s with heap := h', toks := tk } ∧ Fr g L h' m₂ ∧ News g L h' (pre ++ news₂) ∧ (∀ p ∈ news₂, ∀ q ∈ pre, p.1 ≠ q.1) ∧ Jn m₂ news₂
theorem TurnM.intro {g h' : Heap} {L : Addr} {pre news₂ : List (Addr × Obj)} {Jn : (Str → Option Value) → List (Addr × Obj) → Prop} {s : Shared} {Q : Flow → Shared → Prop} {m₂ : Str → Option Value} {tk : Nat}
    (F : Fr g L h' m₂) (N : News g L h' (pre ++ news₂)) (off : ∀ p ∈ news₂, ∀ q ∈ pre, p.1 ≠ q.1) (hJ : Jn m₂ news₂) : TurnM g L pre Jn s Q .next { s with heap := h', toks := tk } := ⟨h', tk, m₂, news₂, rfl, F, N, off, hJ⟩
theorem take_addL {l : List (Fin 9)} (hn : l.Nodup) {j : Nat} {k : Fin 9} (h : l[j]? = some k) : addL (l.take j) k = l.take (j + 1) := by
  rw [List.take_add_one, h, addL, if_neg]
  · rfl
  · intro hm
    obtain ⟨i, hi, e⟩ := List.mem_iff_getElem.mp hm
    have hi' : i < j := by rw [List.length_take] at hi; omega
    have e' : l[i]? = some k := by rw [← e, List.getElem_take]; exact List.getElem?_eq_getElem _
    exact absurd (get_unique hn e' h) (Nat.ne_of_lt hi')
theorem take_foldl {α β : Type} (f : β → α → β) (b : β) (l : List α) {j : Nat} {k : α} (h : l[j]? = some k) : (l.take (j + 1)).foldl f b = f ((l.take j).foldl f b) k := by
  rw [List.take_add_one, h]; simp
theorem map_if (x : Str) (m : Str → Option Value) : m = fun z => if z = x then m z else m z := by funext z; split <;> rfl
theorem map_item {x : Str} {v : Value} {u m : Str → Option Value} : (fun z => if z = x then some v else (fun z => if z = x then u z else m z) z) = fun z => if z = x then (fun _ => some v) z else m z := by funext z; by_cases h : z = x <;> simp [h]
/-- new objects of a call: nothing stood there -/
def Fresh (h : Heap) (l : List Addr) : Prop := ∀ a ∈ l, h.get? a = none
theorem Fresh.nil (h : Heap) : Fresh h [] := fun _ h => by simp at h
theorem Fresh.cons {h₀ g h : Heap} {L a : Addr} {o : Obj} {news : List (Addr × Obj)} {l : List Addr} {D : List Addr} (hg : ∀ b o, h₀.get? b = some o → b ∉ D → g.get? b = some o) (N : News g L h news) (hm : (a, o) ∈ news) (hD : a ∉ D) (r : Fresh h₀ l) : Fresh h₀ (a :: l) := fun b hb => by
  rcases List.mem_cons.mp hb with rfl | hb
  · refine Option.eq_none_iff_forall_ne_some.mpr fun o' e => ?_
    have := hg _ _ e hD
    rw [(N _ hm).2.2] at this; cases this
  · exact r b hb
section
variable {prog : Program} {w : World} {A : Around} {E : Value → Shared → Prop} {g : Heap} {s : Shared} {env : Env} {x : Str} {body : List Stmt} {Q : Flow → Shared → Prop} {m₀ : Str → Option Value} {news₀ : List (Addr × Obj)}
theorem loopM {I : Addr} {fp : List Addr} {n : Nat} {P : Nat → Value → Prop} {St : Nat → Heap → Prop} {kp : List (Addr × Obj)} (J : Nat → (Str → Option Value) → List (Addr × Obj) → Prop)
    (W : Walks prog w A I fp [I] n P St) (hb : ∀ b ∈ fp, b = I ∨ (∃ q, g.get? b = some q) ∨ b ∈ kp.map (·.1)) (hkI : ∀ p ∈ kp, p.1 ∈ fp ∧ p.1 ≠ I) (hst : St 0 s.heap)
    (hso : ∀ i h, St i h → (∃ o, h.get? I = some o) ∧ ∀ p ∈ kp, h.get? p.1 = some p.2)
    {oI : Obj} (F : Fr g env.locals s.heap m₀) (N : News g env.locals s.heap ((I, oI) :: (kp ++ news₀))) (hI : ∀ p ∈ news₀, p.1 ≠ I) (hk : ∀ p ∈ news₀, ∀ q ∈ kp, p.1 ≠ q.1) (h0 : J 0 m₀ news₀)
    (turn : ∀ i v m₁ news₁ h tk oI, i < n → P i v → J i m₁ news₁ → (∀ p ∈ news₁, @Ne Nat p.1 I) → (∀ p ∈ news₁, ∀ q ∈ kp, p.1 ≠ q.1) → Fr g env.locals h (fun y => if y = x then some v else m₁ y) → News g env.locals h ((I, oI) :: (kp ++ news₁)) →
      wpAny (model prog w) A (execs body env) (TurnM g env.locals ((I, oI) :: kp) (J (i + 1)) s Q) E { s with heap := h, toks := tk })
    (done : ∀ m₁ news₁ h tk, J n m₁ news₁ → Fr g env.locals h m₁ → News g env.locals h news₁ → Q .next { s with heap := h, toks := tk }) :
    LoopAtV prog w A g env x body Q E (.ref I) s := by
  have NI := N (I, oI) (.head _)
  have hL : env.locals ∉ fp := fun q => by
    rcases hb _ q with e | ⟨o, e⟩ | e
    · exact NI.2.1 e.symm
    · exact absurd (Nat.lt_of_lt_of_le (Heap.lt_size e) F.above) (Nat.lt_irrefl _)
    · obtain ⟨p, hp, e⟩ := List.mem_map.mp e
      exact (N p (.tail _ (List.mem_append_left _ hp))).2.1 e
  have kfresh : ∀ p ∈ kp, p.1 ≠ env.locals ∧ g.get? p.1 = none := fun p hp => (N p (.tail _ (List.mem_append_left _ hp))).2
  refine ⟨I, fp, [I], n, P, St, m₀, news₀, fun i m nw => J i m nw ∧ ∀ p ∈ nw, ∀ q ∈ kp, p.1 ≠ q.1, rfl, W, hL, fun b hb' => by rw [List.mem_singleton.mp hb']; exact NI.2.2, fun p hp q => hI p hp (List.mem_singleton.mp q), hst, F,
    fun p hp => N p (.tail _ (List.mem_append_right _ hp)), ⟨h0, hk⟩, ?_, ?_⟩
  · rintro i v m₁ news₁ s₁ own ⟨h, tk, rfl⟩ hi hP ⟨hJ, hkn⟩ hoff hown hget hall hst₁ F₁ N₁
    obtain ⟨⟨o₁, ho₁⟩, hkp⟩ := hso _ _ hst₁
    have hoffI : ∀ p ∈ news₁, p.1 ≠ I := fun p hp e => hoff p hp (by rw [e]; simp)
    have hownE : ∀ p ∈ own, p ∈ (I, o₁) :: kp := fun p hp => by
      have e := hget p hp
      have hg0 : g.get? p.1 = none := (N₁ p (List.mem_append_left _ hp)).2.2
      rcases hb _ (hown p hp) with q | ⟨o, q⟩ | q
      · obtain ⟨a, b⟩ := p
        dsimp only at q e
        subst q
        rw [ho₁] at e; cases e
        exact .head _
      · rw [q] at hg0; cases hg0
      · obtain ⟨r, hr, q⟩ := List.mem_map.mp q
        obtain ⟨a, b⟩ := p
        obtain ⟨a', b'⟩ := r
        dsimp only at q e
        subst q
        have := hkp _ hr
        rw [this] at e; cases e
        exact .tail _ hr
    have N₂ : News g env.locals h ((I, o₁) :: (kp ++ news₁)) := fun p hp => by
      rcases List.mem_cons.mp hp with rfl | hp
      · exact ⟨ho₁, NI.2⟩
      · rcases List.mem_append.mp hp with hp | hp
        · exact ⟨hkp p hp, kfresh p hp⟩
        · exact N₁ p (List.mem_append_right _ hp)
    refine wpAny_mono (turn i v m₁ news₁ h tk o₁ hi hP hJ hoffI hkn F₁ N₂) (fun f s₂ p => ?_) fun _ _ e => e
    have fin : TurnM g env.locals ((I, o₁) :: kp) (J (i + 1)) s Q .next s₂ → LoopStepU g env.locals [I] own (fun m nw => J (i + 1) m nw ∧ ∀ p ∈ nw, ∀ q ∈ kp, p.1 ≠ q.1) { s with heap := h, toks := tk } .next s₂ := by
      rintro ⟨h', tk', m₂, news₂, rfl, F₃, N₃, hoff₃, hJ₃⟩
      refine ⟨rfl, h', tk', m₂, news₂, rfl, F₃, fun p hp => ?_, fun p hp q => hoff₃ p hp (I, o₁) (.head _) (List.mem_singleton.mp q), hJ₃, fun p hp q hq => hoff₃ p hp q (.tail _ hq)⟩
      rcases List.mem_append.mp hp with hp | hp
      · exact N₃ p (List.mem_append_left _ (hownE p hp))
      · exact N₃ p (List.mem_append_right _ hp)
    cases f with
    | ret v => exact .ret p
    | brk => exact .brk p
    | next => exact .next (fin p)
    | cont => exact .cont (fin p)
  · rintro h' tk m' news' F' N' _ ⟨hJ, _⟩
    exact done m' news' h' tk hJ F' N'
theorem dictMethod_M {d : Addr} {es : List DictEntry} {n : Nat} {name : Str} {id : String} {pl : Sem Bool} {Q : Value × List Value → Shared → Prop} (hd : s.heap.get? d = some (dictOf es n)) (slot : Slot "dict" name id)
    (hty : typeOf (.builtin id) = pure (.type "method_descriptor")) (h : Q (.builtin id, [.ref d]) s) : wpAny (model prog w) A (getMethod (.ref d) name pl) Q E s :=
  getMethod_builtin ⟨_, hd, rfl⟩ PySem.F.plainAttrs_dict slot hty (fun b e => by injection e with e; subst e; exact ⟨_, hd, rfl⟩) h
theorem low_mods {a : Addr} (T : g.NoLimit) (ha : g.objs.size ≤ a) : (a == sysModules) = false := by
  obtain ⟨mc, ⟨o, es, ep, ho, _⟩, _⟩ := T
  have h1 : cStatics < a := Nat.lt_of_lt_of_le (Heap.lt_size ho) ha
  have h2 : sysModules < cStatics := by decide
  exact beq_eq_false_iff_ne.mpr (Nat.ne_of_gt (Nat.lt_trans h2 h1))
theorem newDict_M {L : Addr} {m : Str → Option Value} {news : List (Addr × Obj)} {Q : Value → Shared → Prop} (F : Fr g L s.heap m) (N : News g L s.heap news) (T : g.NoLimit)
    (h : ∀ d h', Fr g L h' m → News g L h' ((d, dictOf [] 0) :: news) → (∀ p ∈ news, p.1 < d) → L < d → (d == sysModules) = false → Q (.ref d) { s with heap := h' }) : wpAny (model prog w) A (call (.type "dict") []) Q E s :=
  call_dict_0 (h _ _ (F.push _) (News.push F N _) (fun p hp => Heap.lt_size (N p hp).1) F.ns.lt (low_mods T (Nat.le_of_lt (Nat.lt_of_le_of_lt F.above F.ns.lt))))
theorem iter_M {d : Addr} {es : List DictEntry} {n : Nat} {L : Addr} {m : Str → Option Value} {news : List (Addr × Obj)} {Q : Value → Shared → Prop} (F : Fr g L s.heap m) (N : News g L s.heap news) (hd : s.heap.get? d = some (dictOf es n)) (lo : (d == sysModules) = false)
    (h : ∀ I h', Fr g L h' m → News g L h' ((I, keyIt d 0 es.length n) :: news) → (∀ p ∈ news, @Ne Nat p.1 I) → Q (.ref I) { s with heap := h' }) : wpAny (model prog w) A (call (.builtin "iter") [.ref d]) Q E s :=
  iter_d lo hd (h _ _ (F.push _) (News.push F N _) fun p hp => Nat.ne_of_lt (Heap.lt_size (N p hp).1))
theorem is_other_M {x y dx dy : Addr} {Q : Value → Shared → Prop} (hxy : x ≠ y) (hx : s.heap.get? x = some (instObj 275 dx)) (hy : s.heap.get? y = some (instObj 275 dy)) (h : Q (.bool false) s) : wpAny (model prog w) A (compareOp .Is (.ref x) (.ref y)) Q E s := by
  show wpAny _ _ (do return .bool (← isSame (.ref x) (.ref y))) Q E s
  exact wpAny_bind (wpAny_isSame_ref_other hxy hx hy (by simp) (wpAny_pure h))
theorem is_self_M {x : Addr} {Q : Value → Shared → Prop} (h : Q (.bool true) s) : wpAny (model prog w) A (compareOp .Is (.ref x) (.ref x)) Q E s := by
  show wpAny _ _ (do return .bool (← isSame (.ref x) (.ref x))) Q E s
  exact wpAny_bind (wpAny_isSame_ref_self (wpAny_pure h))
/-- over the keys of a dict that g holds -/
theorem loop_keys {I d : Addr} {es : List DictEntry} {n : Nat} (J : Nat → (Str → Option Value) → List (Addr × Obj) → Prop) (hh : A.handled = none) (hd : g.get? d = some (dictOf es n))
    (F : Fr g env.locals s.heap m₀) (N : News g env.locals s.heap ((I, keyIt d 0 es.length n) :: news₀)) (hI : ∀ p ∈ news₀, p.1 ≠ I) (h0 : J 0 m₀ news₀)
    (turn : ∀ i e m₁ news₁ h tk oI, es[i]? = some e → J i m₁ news₁ → (∀ p ∈ news₁, @Ne Nat p.1 I) → Fr g env.locals h (fun y => if y = x then some e.key else m₁ y) → News g env.locals h ((I, oI) :: news₁) →
      wpAny (model prog w) A (execs body env) (TurnM g env.locals [(I, oI)] (J (i + 1)) s Q) E { s with heap := h, toks := tk })
    (done : ∀ m₁ news₁ h tk, J es.length m₁ news₁ → Fr g env.locals h m₁ → News g env.locals h news₁ → Q .next { s with heap := h, toks := tk }) :
    LoopAtV prog w A g env x body Q E (.ref I) s := by
  have NI := N _ (.head _)
  have hne : d ≠ I := fun e => by have := NI.2.2; rw [← e, hd] at this; cases this
  refine loopM (kp := []) J (walk_keys hh I d hne es n) (fun b hb => ?_) (fun _ h => by simp at h) ⟨⟨_, NI.1, rfl, rfl⟩, F.keep _ _ hd⟩ (fun i h st => ⟨let ⟨o, ho, _⟩ := st.1; ⟨o, ho⟩, fun _ h => by simp at h⟩) F N hI (fun _ _ _ h => by simp at h) h0 ?_ done
  · simp at hb
    rcases hb with rfl | rfl
    · exact .inl rfl
    · exact .inr (.inl ⟨_, hd⟩)
  · rintro i v m₁ news₁ h tk oI _ ⟨e, he, rfl⟩ hJ hoff _ F₁ N₁
    exact turn i e m₁ news₁ h tk oI he hJ hoff F₁ N₁
theorem push_off {L : Addr} {news : List (Addr × Obj)} (N : News g L s.heap news) : ∀ p ∈ news, p.1 ≠ s.heap.objs.size := fun p hp => Nat.ne_of_lt (Heap.lt_size (N p hp).1)
/-- for x in d, d a dict that g holds -/
theorem for_keys {d : Addr} {es : List DictEntry} {n : Nat} (J : Nat → (Str → Option Value) → List (Addr × Obj) → Prop) (hh : A.handled = none) (lo : (d == sysModules) = false) (hd : g.get? d = some (dictOf es n))
    (F : Fr g env.locals s.heap m₀) (N : News g env.locals s.heap news₀) (h0 : J 0 m₀ news₀)
    (turn : ∀ I i e m₁ news₁ h tk oI, es[i]? = some e → J i m₁ news₁ → (∀ p ∈ news₁, @Ne Nat p.1 I) → Fr g env.locals h (fun y => if y = x then some e.key else m₁ y) → News g env.locals h ((I, oI) :: news₁) →
      wpAny (model prog w) A (execs body env) (TurnM g env.locals [(I, oI)] (J (i + 1)) s Q) E { s with heap := h, toks := tk })
    (done : ∀ m₁ news₁ h tk, J es.length m₁ news₁ → Fr g env.locals h m₁ → News g env.locals h news₁ → Q .next { s with heap := h, toks := tk }) :
    wpAny (model prog w) A (pyIter (.ref d)) (fun it s₂ => LoopAtV prog w A g env x body Q E it s₂) E s :=
  pyIter_d lo (F.keep _ _ hd) (loop_keys J hh hd (F.push _) (News.push F N _) (push_off N) h0 (fun i e m₁ news₁ h tk oI he hJ ho F₁ N₁ => turn _ i e m₁ news₁ h tk oI he hJ ho F₁ N₁) done)
/-- for x in l, l a list that g holds -/
theorem for_listG {l : Addr} {vs : List Value} {n : Nat} (J : Nat → (Str → Option Value) → List (Addr × Obj) → Prop) (hh : A.handled = none) (hd : g.get? l = some (listOf vs.toArray n))
    (F : Fr g env.locals s.heap m₀) (N : News g env.locals s.heap news₀) (h0 : J 0 m₀ news₀)
    (turn : ∀ I i v m₁ news₁ h tk oI, vs[i]? = some v → J i m₁ news₁ → (∀ p ∈ news₁, @Ne Nat p.1 I) → Fr g env.locals h (fun y => if y = x then some v else m₁ y) → News g env.locals h ((I, oI) :: news₁) →
      wpAny (model prog w) A (execs body env) (TurnM g env.locals [(I, oI)] (J (i + 1)) s Q) E { s with heap := h, toks := tk })
    (done : ∀ m₁ news₁ h tk, J vs.length m₁ news₁ → Fr g env.locals h m₁ → News g env.locals h news₁ → Q .next { s with heap := h, toks := tk }) :
    wpAny (model prog w) A (pyIter (.ref l)) (fun it s₂ => LoopAtV prog w A g env x body Q E it s₂) E s := by
  have hl : s.heap.IsList l vs.toArray := ⟨_, F.keep _ _ hd, rfl, n, rfl⟩
  have hne : l ≠ s.heap.objs.size := Nat.ne_of_lt (Heap.lt_size (F.keep _ _ hd))
  refine wpAny_pyIter_list hl ?_
  have hsz : vs.toArray.size = vs.length := by simp
  refine loopM (kp := []) J (hsz ▸ Walks.list hh s.heap.objs.size l hne vs.toArray) (fun b hb => ?_) (fun _ h => by simp at h) ⟨⟨_, Heap.get?_push_size _ rfl, rfl, rfl⟩, hl.at fun o e => Heap.get?_push_of_some _ e⟩
    (fun i h st => ⟨let ⟨o, ho, _⟩ := st.1; ⟨o, ho⟩, fun _ h => by simp at h⟩) (F.push _) (News.push F N _) (push_off N) (fun _ _ _ h => by simp at h) h0 ?_ done
  · simp at hb
    rcases hb with rfl | rfl
    · exact .inl rfl
    · exact .inr (.inl ⟨_, hd⟩)
  · rintro i v m₁ news₁ h tk oI _ he hJ hoff _ F₁ N₁
    exact turn _ i v m₁ news₁ h tk oI (by simpa using he) hJ hoff F₁ N₁
/-- for x in l, l a new list of the frame's own that stands by itself -/
theorem for_listN {l : Addr} {vs : List Value} {n : Nat} (J : Nat → (Str → Option Value) → List (Addr × Obj) → Prop) (hh : A.handled = none)
    (F : Fr g env.locals s.heap m₀) (N : News g env.locals s.heap ((l, listOf vs.toArray n) :: news₀)) (hl0 : ∀ p ∈ news₀, p.1 ≠ l) (h0 : J 0 m₀ news₀)
    (turn : ∀ I i v m₁ news₁ h tk oI, vs[i]? = some v → J i m₁ news₁ → @Ne Nat l I → (∀ p ∈ news₁, @Ne Nat p.1 I) → (∀ p ∈ news₁, @Ne Nat p.1 l) → Fr g env.locals h (fun y => if y = x then some v else m₁ y) → News g env.locals h ((I, oI) :: (l, listOf vs.toArray n) :: news₁) →
      wpAny (model prog w) A (execs body env) (TurnM g env.locals [(I, oI), (l, listOf vs.toArray n)] (J (i + 1)) s Q) E { s with heap := h, toks := tk })
    (done : ∀ m₁ news₁ h tk, J vs.length m₁ news₁ → Fr g env.locals h m₁ → News g env.locals h news₁ → Q .next { s with heap := h, toks := tk }) :
    wpAny (model prog w) A (pyIter (.ref l)) (fun it s₂ => LoopAtV prog w A g env x body Q E it s₂) E s := by
  have Nl := N _ (.head _)
  have hl : s.heap.IsList l vs.toArray := ⟨_, Nl.1, rfl, n, rfl⟩
  have hne : l ≠ s.heap.objs.size := Nat.ne_of_lt (Heap.lt_size Nl.1)
  have W := Walks.list (prog := prog) (w := w) hh s.heap.objs.size l hne vs.toArray
  have hsz : vs.toArray.size = vs.length := by simp
  have W' : Walks prog w A s.heap.objs.size [s.heap.objs.size, l] [s.heap.objs.size] vs.length (fun i v => vs.toArray[i]? = some v) (fun i h => h.IsListIter s.heap.objs.size l i ∧ h.get? l = some (listOf vs.toArray n)) :=
    { sub := W.sub
      frame := fun i h h' st hk => ⟨st.1.at fun o e => hk _ (by simp) o e, hk l (by simp) _ st.2⟩
      item := fun i s' Q' E' hi st hQ => by
        have hl' : s'.heap.IsList l vs.toArray := ⟨_, st.2, rfl, n, rfl⟩
        refine wpAny_pyNext_list_item st.1 hl' (x := vs[i]) (by simp [hi]) fun h' hit' hs' => ?_
        exact hQ _ h' s'.toks (by simp [hi]) ⟨hit', (hs'.2 l hne).trans st.2⟩ fun b o hb e => hs'.extBut b o (fun h => hb (by simp [h])) e
      done := fun s' Q' E' st hQ => by
        have hl' : s'.heap.IsList l vs.toArray := ⟨_, st.2, rfl, n, rfl⟩
        exact wpAny_pyNext_list_end hh st.1 hl' (by simp) fun h' he' => hQ h' s'.toks fun b o hb e => he' b o (fun h => hb (by simp [h])) e
      self := fun _ _ _ _ st hQ => wpAny_pyIter_listiter st.1 hQ }
  refine wpAny_pyIter_list hl ?_
  refine loopM (kp := [(l, listOf vs.toArray n)]) J W' (fun b hb => ?_) (fun p h => ?_) ⟨⟨_, Heap.get?_push_size _ rfl, rfl, rfl⟩, Heap.get?_push_of_some _ Nl.1⟩
    (fun i h st => ⟨let ⟨o, ho, _⟩ := st.1; ⟨o, ho⟩, fun p hp => by rw [List.mem_singleton.mp hp]; exact st.2⟩) (F.push _) (News.push F N _) (fun p hp => push_off N p (.tail _ hp)) (fun p hp q hq => by rw [List.mem_singleton.mp hq]; exact hl0 p hp) h0 ?_ done
  · simp at hb
    rcases hb with rfl | rfl
    · exact .inl rfl
    · exact .inr (.inr (by simp))
  · rw [List.mem_singleton.mp h]; exact ⟨by simp, hne⟩
  · rintro i v m₁ news₁ h tk oI _ he hJ hoff hk F₁ N₁
    exact turn _ i v m₁ news₁ h tk oI (by simpa using he) hJ hne hoff (fun p hp => hk p hp _ (.head _)) F₁ N₁
end
end Mine
namespace Mine
open PySem PySem.W PySem.Calls PyProof.Rows
set_option hygiene false in
local macro_rules | `(tactic| k_inst) => `(tactic| (refine' InstAt.of_g ?F ?a ?b; (case F => k_asm); (case a => first | assumption | exact Reads1.gx (by assumption)); (case b => first | assumption | exact Reads1.gdx (by assumption))))
set_option hygiene false in
local macro_rules | `(tactic| k_units) => `(tactic| exact Room.units (Room.deeper (Cx.room (by assumption))))
set_option hygiene false in
local macro_rules | `(tactic| walk_at "compareOp NotIn") => `(tactic| (k_here; (with_reducible show wpAny _ _ (compareOp CmpOp.NotIn _ (Value.ref _)) _ _ _); refine' notIn_K ?T ?m ?B ?v ?u ?_; (case T => exact TupIn.up (by assumption) (by k_asm)); (case m => first | exact News.get (by k_asm) (by k_mem) | exact Fr.keep (by k_asm) _ _ (Reads1.gd (by assumption))); (case B => first | assumption | exact Reads1.bd (by assumption)); (case v => assumption); (case u => k_units); intro tk'))
set_option hygiene false in
local macro_rules | `(tactic| walk_at "compareOp In") => `(tactic| (k_here; (with_reducible show wpAny _ _ (compareOp CmpOp.In _ (Value.ref _)) _ _ _); refine' in_K' ?T ?m ?B ?v ?u ?_; (case T => exact TupIn.up (by assumption) (by k_asm)); (case m => first | exact News.get (by k_asm) (by k_mem) | exact Fr.keep (by k_asm) _ _ (Reads1.gd (by assumption))); (case B => first | assumption | exact Reads1.bd (by assumption)); (case v => assumption); (case u => k_units); intro tk'))
set_option hygiene false in
local macro_rules | `(tactic| walk_at "setItem ref") => `(tactic| (k_here; (with_reducible show wpAny _ _ (setItem (Value.ref _) _ Value.none) _ _ _); refine' setItem_K' ?T ?F ?N ?U ?x ?v ?u ?_; (case T => exact TupIn.up (by assumption) (by k_asm)); (case F => k_asm); (case N => k_asm); (case U => k_updF); (case x => assumption); (case v => assumption); (case u => k_units); intro h' es' n' tk' F' N' x'; (try dsimp only at N'); (try k_sweep)))
set_option hygiene false in
local macro_rules | `(tactic| walk_at "call builtin:dict.pop") => `(tactic| (k_here; (with_reducible show wpAny _ _ (call (Value.builtin "dict.pop") [Value.ref _, _, Value.none]) _ _ _); refine' pop_K' ?T ?F ?N ?U ?x ?v ?u ?_; (case T => exact TupIn.up (by assumption) (by k_asm)); (case F => k_asm); (case N => k_asm); (case U => k_updF); (case x => assumption); (case v => assumption); (case u => k_units); intro h' es' n' tk' F' N' x'; (try dsimp only at N'); (try k_sweep)))
set_option hygiene false in
local macro_rules | `(tactic| walk_at "call builtin:dict.clear") => `(tactic| (k_here; (with_reducible show wpAny _ _ (call (Value.builtin "dict.clear") [Value.ref _]) _ _ _); refine' clear_K' ?T ?F ?N ?U ?x ?_; (case T => exact TupIn.up (by assumption) (by k_asm)); (case F => k_asm); (case N => k_asm); (case U => k_updF); (case x => assumption); intro h' es' n' F' N' x'; (try dsimp only at N'); (try k_sweep)))
set_option hygiene false in
local macro_rules | `(tactic| walk_at "getMethod ref") => `(tactic| (k_here; (with_reducible show wpAny _ _ (getMethod (Value.ref _) (PySem.Str.ofString "pop") _) _ _ _); refine' dictMethod_M ?m PySem.F.slot_dict_pop PySem.F.type_dict_pop ?_; (case m => first | exact News.get (by k_asm) (by k_mem) | exact Fr.keep (by k_asm) _ _ (Reads1.gd (by assumption)))))
set_option hygiene false in
local macro_rules | `(tactic| walk_at "getMethod ref") => `(tactic| (k_here; (with_reducible show wpAny _ _ (getMethod (Value.ref _) (PySem.Str.ofString "popitem") _) _ _ _); refine' dictMethod_M ?m PySem.F.slot_dict_popitem PySem.F.type_dict_popitem ?_; (case m => first | exact News.get (by k_asm) (by k_mem) | exact Fr.keep (by k_asm) _ _ (Reads1.gd (by assumption)))))
set_option hygiene false in
local macro_rules | `(tactic| walk_at "getMethod ref") => `(tactic| (k_here; (with_reducible show wpAny _ _ (getMethod (Value.ref _) (PySem.Str.ofString "clear") _) _ _ _); refine' dictMethod_M ?m PySem.F.slot_dict_clear PySem.F.type_dict_clear ?_; (case m => first | exact News.get (by k_asm) (by k_mem) | exact Fr.keep (by k_asm) _ _ (Reads1.gd (by assumption)))))
set_option hygiene false in
local macro_rules | `(tactic| walk_at "call type:dict nil nil") => `(tactic| (k_here; refine' newDict_M ?F ?N ?T ?_; (case F => k_asm); (case N => k_asm); (case T => exact (by assumption : Top _ _ _ _ _ _).nolimit); intro d' h' F' N' l1 l2 lo'; (try k_lt l1); (try k_sweep)))
section
open PySem PySem.W PySem.Calls PyProof.Rows
theorem offF1 : True := by
  w_top off
  trivial
theorem fillF1 : (hd.heap_39, PySem.Challenge.rw_ab5007_01) = (hd.heap_39, PySem.Challenge.rw_ab5007_01) := by k_fill; rfl
section
variable {prog : Program} {w : World} {A : Around} {E : Value → Shared → Prop} {base ti g : Heap} {frs : List Env} {mean : ExcName → Option Value} {mg mb : Str → Option Value} {s : Shared} {k : Nat}
  {x dx d : Addr} {l : List (Fin 9)} {v : Value} {i : Fin 9} {R : Result → Shared → Prop}
theorem add_code (C : Cx w A base frs mean mg mb s.heap (k + 2)) (Ti : TupIn ti s.heap) (S : SetIs prog w ti s.heap x dx d l) (O : Own base frs d) (hv : ItemAt ti v i)
    (hR : ∀ h' tk, Chg [d] s.heap h' → SetIs prog w ti h' x dx d (addL l i) → R (.ok (.ret .none)) { s with heap := h', toks := tk }) :
    codeAny (model prog w) A (.call (.ref 36) ⟨[.ref x, v], []⟩) R s := by
  refine enter1 C Ti S O (by k_is) (by k_is) (BindsTo.of_eq rfl) (locs rfl) fun g L h₁ t n es ep hg Tg gx gdx Bd F N B X T => ?_
  dsimp only
  k_steps
  · have e : addL l i = l := by rw [addL, if_pos (by assumption)]
    rw [e] at hR
    exact hR _ _ (chg_of hg (by k_asm)) (setIs_of (by k_asm) (by k_asm) gx gdx (by k_mem) (by assumption))
  · exact hR _ _ (chg_of hg (by k_asm)) (setIs_of (by k_asm) (by k_asm) gx gdx (by k_mem) (by assumption))
theorem discard_code (C : Cx w A base frs mean mg mb s.heap (k + 2)) (Ti : TupIn ti s.heap) (S : SetIs prog w ti s.heap x dx d l) (O : Own base frs d) (hv : ItemAt ti v i)
    (hR : ∀ h' tk, Chg [d] s.heap h' → SetIs prog w ti h' x dx d (delL l i) → R (.ok (.ret .none)) { s with heap := h', toks := tk }) :
    codeAny (model prog w) A (.call (.ref 50) ⟨[.ref x, v], []⟩) R s := by
  refine enter1 C Ti S O (by k_is) (by k_is) (BindsTo.of_eq rfl) (locs rfl) fun g L h₁ t n es ep hg Tg gx gdx Bd F N B X T => ?_
  dsimp only
  k_steps
  exact hR _ _ (chg_of hg (by k_asm)) (setIs_of (by k_asm) (by k_asm) gx gdx (by k_mem) (by assumption))
theorem clear_code (C : Cx w A base frs mean mg mb s.heap (k + 2)) (Ti : TupIn ti s.heap) (S : SetIs prog w ti s.heap x dx d l) (O : Own base frs d)
    (hR : ∀ h' tk, Chg [d] s.heap h' → SetIs prog w ti h' x dx d [] → R (.ok (.ret .none)) { s with heap := h', toks := tk }) :
    codeAny (model prog w) A (.call (.ref 211) ⟨[.ref x], []⟩) R s := by
  refine enter1 C Ti S O (by k_is) (by k_is) (BindsTo.of_eq rfl) (locs rfl) fun g L h₁ t n es ep hg Tg gx gdx Bd F N B X T => ?_
  dsimp only
  k_steps
  exact hR _ _ (chg_of hg (by k_asm)) (setIs_of (by k_asm) (by k_asm) gx gdx (by k_mem) (by assumption))
end
end
section
open PySem PySem.W PySem.Calls PyProof.Rows
theorem offF2 : True := by
  w_top off
  trivial
section
variable {prog : Program} {w : World} {A : Around} {E : Value → Shared → Prop} {base ti g h h' h₀ : Heap} {frs : List Env} {mean : ExcName → Option Value} {mg mb : Str → Option Value} {s : Shared} {k : Nat}
  {x dx d y dy e f L : Addr} {l l' : List (Fin 9)} {v : Value} {i : Fin 9} {R : Result → Shared → Prop} {m : Str → Option Value} {news : List (Addr × Obj)} {u : Obj → List (Addr × Obj)} {es : List DictEntry} {n n₁ t : Nat}
  {qual : Str} {scope : Scope} {cdv : Value} {Q : Value → Shared → Prop}
theorem use1 (F : Fr g L h m) (N : News g L h news) (U : UpdF d (dictOf es n) news u) (c : Chg [d] h h') (S : SetIs prog w ti h' x dx d l') : ∃ es' n', Fr g L h' m ∧ News g L h' (u (dictOf es' n')) ∧ Bears prog w ti d es' l' := by
  obtain ⟨pre, post, hl, hu, a, b⟩ := U.split
  have hm : (d, dictOf es n) ∈ news := by rw [hl]; exact List.mem_append_right _ (.head _)
  obtain ⟨_, _, es', n', hd, Bd⟩ := S
  refine ⟨es', n', Fr.chg F c (fun a ha => by rw [List.mem_singleton.mp ha]; exact ⟨(N _ hm).2.2, (N _ hm).2.1⟩), ?_, Bd⟩
  rw [hu]
  intro p hp
  rcases List.mem_append.mp hp with q | q
  · have P := N p (by rw [hl]; exact List.mem_append_left _ q)
    exact ⟨c _ _ (by simpa using a p q) P.1, P.2⟩
  · rcases List.mem_cons.mp q with rfl | q
    · exact ⟨hd, (N _ hm).2⟩
    · have P := N p (by rw [hl]; exact List.mem_append_right _ (.tail _ q))
      exact ⟨c _ _ (by simpa using b p q) P.1, P.2⟩
theorem upd_mem (U : UpdF d (dictOf es n) news u) : (d, dictOf es n) ∈ news := by obtain ⟨pre, post, hl, _⟩ := U.split; rw [hl]; simp
theorem add_K (C : Cx w A base frs mean mg mb h₀ (k + 3)) (B : Below A base frs g) (F : Fr g L s.heap m) (N : News g L s.heap news) (U : UpdF d (dictOf es n) news u) (Ti : TupIn ti s.heap)
    (hx : s.heap.get? x = some (instObj 275 dx)) (hdx : s.heap.get? dx = some (setAttrs w t n₁ d)) (Bd : Bears prog w ti d es l) (hv : ItemAt ti v i)
    (h : ∀ h' es' n' tk, Fr g L h' m → News g L h' (u (dictOf es' n')) → Bears prog w ti d es' (addL l i) → Q .none { s with heap := h', toks := tk }) (hk : scope.kind = .function := by rfl) :
    wpAny (model prog w) (A.deeper (envOf qual scope L f cdv)) (call (.ref 36) [.ref x, v]) Q E s :=
  wpAny_call (add_code (k := k) (C.inner B F hk) Ti ⟨hx, ⟨_, _, hdx⟩, _, _, N.get (upd_mem U), Bd⟩ (Own.of_news B N (upd_mem U)) hv fun h' tk c S => by
    obtain ⟨es', n', F', N', x'⟩ := use1 F N U c S
    exact h h' es' n' tk F' N' x')
theorem discard_K (C : Cx w A base frs mean mg mb h₀ (k + 3)) (B : Below A base frs g) (F : Fr g L s.heap m) (N : News g L s.heap news) (U : UpdF d (dictOf es n) news u) (Ti : TupIn ti s.heap)
    (hx : s.heap.get? x = some (instObj 275 dx)) (hdx : s.heap.get? dx = some (setAttrs w t n₁ d)) (Bd : Bears prog w ti d es l) (hv : ItemAt ti v i)
    (h : ∀ h' es' n' tk, Fr g L h' m → News g L h' (u (dictOf es' n')) → Bears prog w ti d es' (delL l i) → Q .none { s with heap := h', toks := tk }) (hk : scope.kind = .function := by rfl) :
    wpAny (model prog w) (A.deeper (envOf qual scope L f cdv)) (call (.ref 50) [.ref x, v]) Q E s :=
  wpAny_call (discard_code (k := k) (C.inner B F hk) Ti ⟨hx, ⟨_, _, hdx⟩, _, _, N.get (upd_mem U), Bd⟩ (Own.of_news B N (upd_mem U)) hv fun h' tk c S => by
    obtain ⟨es', n', F', N', x'⟩ := use1 F N U c S
    exact h h' es' n' tk F' N' x')
theorem Cx.make {C : Addr} {vals : List Value} (c : Cx w A base frs mean mg mb h (k + 1)) : Cx w (A.under (.builtin "type.__call__" ⟨.ref C :: vals, []⟩)) base frs mean mg mb h k :=
  ⟨c.stays, c.kin, c.top, c.frames, c.stack, c.handled, c.room.make⟩
theorem init0_code (C : Cx w A base frs mean mg mb s.heap (k + 2)) (hx : s.heap.get? x = some (instObj 275 dx)) (hdx : s.heap.get? dx = some (dictOf [] 0)) (Ox : Own base frs x) (O : Own base frs dx) (hne : dx < x)
    (hR : ∀ h' tk d, Chg [dx] s.heap h' → s.heap.get? d = none → SetIs prog w ti h' x dx d [] → R (.ok (.ret .none)) { s with heap := h', toks := tk }) :
    codeAny (model prog w) A (.call (.ref 29) ⟨[.ref x], []⟩) R s := by
  refine enterM C [x, dx] (fun a ha => by rcases List.mem_cons.mp ha with rfl | ha; exact Ox; rw [List.mem_singleton.mp ha]; exact O) (by k_is) (by k_is) (binds_K (C.kin.keeps C.stays) rfl (by k_is) rfl rfl rfl) (locs rfl) fun g L h₁ hg hn hk F B X T => ?_
  have N : News g L h₁ [(x, instObj 275 dx), (dx, dictOf [] 0)] := News.add (News.add (fun _ h => by simp at h) (hk _ _ hdx).1 (Nat.ne_of_lt (hk _ _ hdx).2) (hn dx (by simp))) (hk _ _ hx).1 (Nat.ne_of_lt (hk _ _ hx).2) (hn x (by simp))
  replace hne := ltN hne
  dsimp only
  k_steps
  rename News _ _ _ _ => N'
  rename Fr _ _ _ _ => F'
  rename ((_ == sysModules) = false) => lo
  rename (L < _) => l2
  refine hR _ _ _ (fun b o hb e => ?_) ?_ (setIs_new N' (by k_mem) (by k_mem) (by k_mem) ⟨.nil, List.nodup_nil, lo⟩)
  · by_cases q : b = x
    · subst q; rw [hx] at e; cases e; exact N'.get (by k_mem)
    · exact F'.keep _ _ (hg _ _ e (by simp at hb ⊢; exact ⟨q, hb⟩))
  · refine Option.eq_none_iff_forall_ne_some.mpr fun o e => ?_
    exact absurd (Nat.lt_trans l2 (hk _ _ e).2) (Nat.lt_irrefl _)
/-- Set(): a new one, empty -/
theorem new0_K (C : Cx w A base frs mean mg mb h₀ (k + 4)) (B : Below A base frs g) (_T : TupIn ti s.heap) (X : (hd.heap_39 w.params).In g) (F : Fr g L s.heap m) (N : News g L s.heap news)
    (h : ∀ h' x dx d t n ep tk, Fr g L h' m → News g L h' ((x, instObj 275 dx) :: (dx, setAttrs w t n d) :: (d, dictOf [] ep) :: news) → (∀ p ∈ news, @Ne Nat p.1 x ∧ @Ne Nat p.1 dx ∧ @Ne Nat p.1 d) → @Ne Nat x dx → @Ne Nat x d → @Ne Nat dx d →
      Bears prog w ti d [] [] → Q (.ref x) { s with heap := h', toks := tk }) (hk : scope.kind = .function := by rfl) :
    wpAny (model prog w) (A.deeper (envOf qual scope L f cdv)) (call (.ref 275) []) Q E s := by
  refine call_cls F X N (by k_is) (by k_is) (by k_is) fun x dx h₁ F₁ N₁ l1 l2 => ?_
  have C' := (C.inner (qual := qual) (scope := scope) (f := f) (cdv := cdv) B F₁ hk)
  have hx := N₁ (x, instObj 275 dx) (by simp)
  have hdx := N₁ (dx, dictOf [] 0) (by simp)
  refine init0_code (ti := ti) (k := k) C'.make hx.1 hdx.1 (Own.of_news B N₁ (by simp : (x, instObj 275 dx) ∈ _)) (Own.of_news B N₁ (by simp : (dx, dictOf [] 0) ∈ _)) l2 fun h' tk d c hd S => ⟨rfl, ?_⟩
  obtain ⟨e1, e2, e3⟩ := S.ne
  obtain ⟨sx, ⟨t, n, sdx⟩, es, ep, sd, Bd⟩ := S
  have he : es = [] := List.length_eq_zero_iff.mp (by simpa using Bd.rep.length)
  subst he
  have F' : Fr g L h' m := Fr.chg F₁ c fun a ha => by rw [List.mem_singleton.mp ha]; exact ⟨hdx.2.2, hdx.2.1⟩
  have hd' : h₁.get? d = none := hd
  have N' : News g L h' news := fun p hp => by
    have P := N₁ p (.tail _ (.tail _ hp))
    exact ⟨c _ _ (by simpa using Nat.ne_of_lt (l1 p hp)) P.1, P.2⟩
  have hdL : d ≠ L := fun q => by obtain ⟨o, _, _, ho, _⟩ := F₁.ns; rw [← q, hd'] at ho; cases ho
  have hdg : g.get? d = none := Option.eq_none_iff_forall_ne_some.mpr fun o q => by have := F₁.keep _ _ q; rw [hd'] at this; cases this
  have N₂ : News g L h' ((x, instObj 275 dx) :: (dx, setAttrs w t n d) :: (d, dictOf [] ep) :: news) :=
    News.add (News.add (News.add N' sd hdL hdg) sdx hdx.2.1 hdx.2.2) sx hx.2.1 hx.2.2
  refine h h' x dx d t n ep tk F' N₂ (fun p hp => ⟨Nat.ne_of_lt (Nat.lt_trans (l1 p hp) l2), Nat.ne_of_lt (l1 p hp), fun q => ?_⟩) e1 e2 e3 Bd
  have P := N₁ p (.tail _ (.tail _ hp))
  rw [q, hd'] at P; cases P.1
end
end
set_option hygiene false in
local macro_rules | `(tactic| walk_at "call ref") => `(tactic| (k_here; (with_reducible show wpAny _ _ (call (Value.ref 275) _ _) _ _ _); (try dsimp only [List.nil_append, List.cons_append]); refine' new0_K ?C ?B ?T ?X ?F ?N ?_; (case T => exact TupIn.up (by assumption) (by k_asm)); (case C => assumption); (case B => assumption); (case X => assumption); (case F => k_asm); (case N => k_asm); intro h' x' dx' d' t' n' ep' tk' F' N' off' e1' e2' e3' Bd'; (try simp only [List.mem_cons, List.not_mem_nil, or_false, forall_eq_or_imp, forall_eq, false_implies, implies_true] at off'); (try k_sweep)))
set_option hygiene false in
local macro_rules | `(tactic| walk_at "call ref") => `(tactic| (k_here; (with_reducible show wpAny _ _ (call (Value.ref 36) _ _) _ _ _); (try dsimp only [List.nil_append, List.cons_append]); refine' add_K ?C ?B ?F ?N ?U ?T ?x ?dx ?b ?v ?_; (case C => assumption); (case B => assumption); (case F => k_asm); (case N => k_asm); (case x => first | exact News.get (by k_asm) (by k_mem) | exact Fr.keep (by k_asm) _ _ (by assumption)); (case dx => first | exact News.get (by k_asm) (by k_mem) | exact Fr.keep (by k_asm) _ _ (by assumption)); (case U => k_updF); (case T => exact TupIn.up (by assumption) (by k_asm)); (case b => assumption); (case v => assumption); intro h' es' n' tk' F' N' x'; (try dsimp only at N'); (try k_sweep)))
section
open PySem PySem.W PySem.Calls PyProof.Rows
theorem offF3 : True := by
  w_top off
  trivial
section
variable {prog : Program} {w : World} {A : Around} {E : Value → Shared → Prop} {base ti g h h' h₀ : Heap} {frs : List Env} {mean : ExcName → Option Value} {mg mb : Str → Option Value} {s : Shared} {k : Nat}
  {x dx d y dy e f L : Addr} {l l' : List (Fin 9)} {v : Value} {i : Fin 9} {R : Result → Shared → Prop} {m : Str → Option Value} {news : List (Addr × Obj)} {u : Obj → List (Addr × Obj)} {es : List DictEntry} {n n₁ t : Nat}
  {qual : Str} {scope : Scope} {cdv : Value} {Q : Value → Shared → Prop}
theorem clone_code (C : Cx w A base frs mean mg mb s.heap (k + 4)) (Ti : TupIn ti s.heap) (S : SetIs prog w ti s.heap x dx d l)
    (hR : ∀ h' tk y dy e, Chg [] s.heap h' → Fresh s.heap [y, dy, e] → SetIs prog w ti h' y dy e l → R (.ok (.ret (.ref y))) { s with heap := h', toks := tk }) :
    codeAny (model prog w) A (.call (.ref 64) ⟨[.ref x], []⟩) R s := by
  refine enter0 C Ti (by k_is) (by k_is) (BindsTo.of_eq rfl) (locs rfl) fun g L h₁ hg Tg F N B X T => ?_
  obtain ⟨t, n, ep, es, Rx⟩ := S.reads hg (by simp)
  dsimp only
  k_steps
  rename News _ _ _ _ => N1
  rename Fr _ _ _ _ => F1
  have Bd0 := Bd'
  refine for_keys (fun j m₁ news₁ => ∃ (u : Str → Option Value) (es1 : List DictEntry) (n1 : Nat), (m₁ = fun z => if z = Str.ofString "item" then u z else if z = Str.ofString "obj" then some (.ref x') else List.lookup z [(Str.ofString "self", Value.ref x)]) ∧
    news₁ = [(x', instObj 275 dx'), (dx', setAttrs w t' n' d'), (d', dictOf es1 n1)] ∧ Bears prog w ti d' es1 (l.take j)) C.handled Rx.bd.lo Rx.gd F1 N1 ⟨fun z => if z = Str.ofString "obj" then some (.ref x') else List.lookup z [(Str.ofString "self", Value.ref x)], [], ep', ?_, rfl, by simpa using Bd0⟩ ?_ ?_
  · funext z; by_cases h : z = Str.ofString "item" <;> simp [h]
  · rintro I j en m₁ news₁ h tk oI hen ⟨u, es1, n1, rfl, rfl, Bd⟩ hoff F2 N2
    obtain ⟨kk, hkk, _, hv, _⟩ := Rx.bd.rep.get hen
    simp only [List.mem_cons, List.not_mem_nil, or_false, forall_eq_or_imp, forall_eq] at hoff
    obtain ⟨o1, o2, o3⟩ := hoff
    change Fr g L _ _ at F2
    change News g L _ _ at N2
    clear F1 N1 Bd0 Bd'
    k_steps
    rename News _ _ _ _ => N3
    rename Fr _ _ _ _ => F3
    refine TurnM.intro F3 N3 ?_ ⟨fun _ => some en.key, _, _, ?_, rfl, ?_⟩
    · simp only [List.mem_cons, List.not_mem_nil, or_false, forall_eq_or_imp, forall_eq]; exact ⟨o1, o2, o3⟩
    · funext z; by_cases h : z = Str.ofString "item" <;> simp [h]
    · rw [← take_addL Rx.bd.nd hkk]; assumption
  · rintro m₁ news₁ h tk ⟨u, es1, n1, rfl, rfl, Bd⟩ F2 N2
    clear F1 N1 Bd0 Bd'
    change Fr g L _ _ at F2
    change News g L _ _ at N2
    k_steps
    rw [Rx.bd.rep.length, List.take_length] at Bd
    exact hR _ _ x' dx' d' (chg_of hg F2) (Fresh.cons hg N2 (by k_mem) (by simp) (Fresh.cons hg N2 (by k_mem) (by simp) (Fresh.cons hg N2 (by k_mem) (by simp) (Fresh.nil _)))) (setIs_new N2 (by k_mem) (by k_mem) (by k_mem) Bd)
end
end
set_option hygiene false in
local macro_rules | `(tactic| walk_at "call builtin:iter") => `(tactic| (k_here; (with_reducible show wpAny _ _ (call (Value.builtin "iter") [Value.ref _]) _ _ _); refine' iter_M ?F ?N ?m ?l ?_; (case F => k_asm); (case N => k_asm); (case m => first | exact News.get (by k_asm) (by k_mem) | exact Fr.keep (by k_asm) _ _ (Reads1.gd (by assumption))); (case l => first | exact Bears.lo (by assumption) | exact Bears.lo (Reads1.bd (by assumption))); intro I' h' F' N' off'; (try k_sweep)))
section
open PySem PySem.W PySem.Calls PyProof.Rows
theorem offF4 : True := by
  w_top off
  trivial
section
variable {prog : Program} {w : World} {A : Around} {E : Value → Shared → Prop} {base ti g h h' h₀ : Heap} {frs : List Env} {mean : ExcName → Option Value} {mg mb : Str → Option Value} {s : Shared} {k : Nat}
  {x dx d y dy e f L : Addr} {l l' : List (Fin 9)} {v : Value} {i : Fin 9} {R : Result → Shared → Prop} {m : Str → Option Value} {news : List (Addr × Obj)} {u : Obj → List (Addr × Obj)} {es : List DictEntry} {n n₁ t ep : Nat}
  {qual : Str} {scope : Scope} {cdv : Value} {Q : Value → Shared → Prop}
theorem iter_code (C : Cx w A base frs mean mg mb s.heap (k + 2)) (Ti : TupIn ti s.heap) (hx : s.heap.get? x = some (instObj 275 dx)) (hdx : s.heap.get? dx = some (setAttrs w t n d)) (hd : s.heap.get? d = some (dictOf es ep)) (Bd : Bears prog w ti d es l)
    (hR : ∀ h' tk I, Chg [] s.heap h' → Fresh s.heap [I] → h'.get? I = some (keyIt d 0 es.length ep) → R (.ok (.ret (.ref I))) { s with heap := h', toks := tk }) :
    codeAny (model prog w) A (.call (.ref 237) ⟨[.ref x], []⟩) R s := by
  refine enter0 C Ti (by k_is) (by k_is) (BindsTo.of_eq rfl) (locs rfl) fun g L h₁ hg Tg F N B X T => ?_
  have Rx : Reads1 prog w ti g x dx d l t n ep es := ⟨hg _ _ hx (by simp), hg _ _ hdx (by simp), hg _ _ hd (by simp), Bd⟩
  dsimp only
  k_steps
  exact hR _ _ _ (chg_of hg (by k_asm)) (Fresh.cons hg N' (by k_mem) (by simp) (Fresh.nil _)) (N'.get (by k_mem))
/-- iter(y), y a Set that g holds -/
theorem pyIter_set (C : Cx w A base frs mean mg mb h₀ (k + 3)) (B : Below A base frs g) (X : (hd.heap_39 w.params).In g) (Ti : TupIn ti s.heap) (F : Fr g L s.heap m) (N : News g L s.heap news) (Rx : Reads1 prog w ti g y dy e l t n ep es)
    (h : ∀ h' I tk, Fr g L h' m → News g L h' ((I, keyIt e 0 es.length ep) :: news) → (∀ p ∈ news, @Ne Nat p.1 I) → Q (.ref I) { s with heap := h', toks := tk }) (hk : scope.kind = .function := by rfl) :
    wpAny (model prog w) (A.deeper (envOf qual scope L f cdv)) (pyIter (.ref y)) Q E s := by
  refine owit_iter F X (InstAt.of_g F Rx.gx Rx.gdx) (by k_is) (by k_is) (wpAny_call (iter_code (k := k) (ti := ti) (C.inner B F hk) Ti (F.keep _ _ Rx.gx) (F.keep _ _ Rx.gdx) (F.keep _ _ Rx.gd) Rx.bd fun h' tk I c hf hI => ?_))
  have F' : Fr g L h' m := Fr.chg F c (fun a ha => by simp at ha)
  have hIs : s.heap.get? I = none := hf I (.head _)
  have hIg : g.get? I = none := Option.eq_none_iff_forall_ne_some.mpr fun o q => by have := F.keep _ _ q; rw [hIs] at this; cases this
  have hIL : I ≠ L := fun q => by obtain ⟨o, _, _, ho, _⟩ := F.ns; rw [← q, hIs] at ho; cases ho
  have N' : News g L h' ((I, keyIt e 0 es.length ep) :: news) := News.add (News.chg N c (fun p _ => by simp)) hI hIL hIg
  have hT : Shared.TypeIs { s with heap := h', toks := tk } (.ref I) "dict_keyiterator" := ⟨_, hI, rfl⟩
  show OwitIt _ _ _ _ _ _
  unfold OwitIt
  refine wpAny_specialOf (name := Str.ofString "__next__") hT PySem.F.slot_dict_keyiterator_next.lookup ?_
  exact h h' I tk F' N' fun p hp q => by have := (N p hp).1; rw [show p.1 = I from q, hIs] at this; cases this
/-- for z in y, y a Set that g holds -/
theorem for_set {z : Str} {body : List Stmt} {m₀ : Str → Option Value} {news₀ : List (Addr × Obj)} {QF : Flow → Shared → Prop} (J : Nat → (Str → Option Value) → List (Addr × Obj) → Prop)
    (C : Cx w A base frs mean mg mb h₀ (k + 3)) (B : Below A base frs g) (X : (hd.heap_39 w.params).In g) (Ti : TupIn ti s.heap) (Rx : Reads1 prog w ti g y dy e l t n ep es) (F : Fr g L s.heap m₀) (N : News g L s.heap news₀) (h0 : J 0 m₀ news₀)
    (turn : ∀ I i en m₁ news₁ h tk oI, es[i]? = some en → J i m₁ news₁ → (∀ p ∈ news₁, @Ne Nat p.1 I) → Fr g L h (fun y => if y = z then some en.key else m₁ y) → News g L h ((I, oI) :: news₁) →
      wpAny (model prog w) (A.deeper (envOf qual scope L f cdv)) (execs body (envOf qual scope L f cdv)) (TurnM g L [(I, oI)] (J (i + 1)) s QF) E { s with heap := h, toks := tk })
    (done : ∀ m₁ news₁ h tk, J es.length m₁ news₁ → Fr g L h m₁ → News g L h news₁ → QF .next { s with heap := h, toks := tk }) (hk : scope.kind = .function := by rfl) :
    wpAny (model prog w) (A.deeper (envOf qual scope L f cdv)) (pyIter (.ref y)) (fun it s₂ => LoopAtV prog w (A.deeper (envOf qual scope L f cdv)) g (envOf qual scope L f cdv) z body QF E it s₂) E s :=
  pyIter_set C B X Ti F N Rx (fun h' I tk F' N' off => loop_keys (env := envOf qual scope L f cdv) J C.handled Rx.gd F' N' off h0 (fun i e m₁ news₁ h tk oI he hJ ho F₁ N₁ => turn _ i e m₁ news₁ h tk oI he hJ ho F₁ N₁) done) hk
theorem contains_plain : plainId "proto.contains_iter" = true := by decide +kernel
theorem contains_entry : entryFor table "proto.contains_iter" = some Builtin.«proto.contains_iter» := entryFor_of_tree (by kernel_rfl)
theorem contains_code {I : Addr} (hh : A.handled = none) (hu : A.units + 3 < cLine) (hne : d ≠ I) (hIt : ∀ b o, ti.get? b = some o → o.cls = .type "tuple" → b ≠ I) (Bd : Bears prog w ti d es l) (hv : ItemAt ti v i) :
    ∀ j p, p + j = es.length → ∀ (s : Shared) (R : Result → Shared → Prop), TupIn ti s.heap → s.heap.IsKeyIter I d p es.length n → s.heap.get? d = some (dictOf es n) →
      (∀ h' tk, Chg [I] s.heap h' → R (.ok (.ret (.bool (decide (i ∈ l.drop p))))) { s with heap := h', toks := tk }) → codeAny (model prog w) A (.builtin "proto.contains_iter" ⟨[.ref I, v], []⟩) R s := by
  intro j
  induction j with
  | zero =>
    intro p hp s R Ti hit hd hR
    refine codeAny_builtin contains_entry ?_
    rw [Around.under_plainId contains_plain _]
    unfold Builtin.«proto.contains_iter»
    dsimp only
    have hpl : p = es.length := by omega
    subst hpl
    refine wpAny_bind (next_end (A := A.in1) hh hit hd fun h' he => ?_)
    have := hR h' s.toks fun b o hb e => he b o (by simpa using hb) e
    rw [decide_eq_false (by rw [Bd.rep.length]; simp)] at this
    exact wpAny_bind (wpAny_rule (wpAny_pure this))
  | succ j ih =>
    intro p hp s R Ti hit hd hR
    have hlt : p < es.length := by omega
    have hex : es[p]? = some es[p] := by simp
    obtain ⟨kk, hkk, _, hi, _⟩ := Bd.rep.get hex
    have hdr : l.drop p = kk :: l.drop (p + 1) := by
      have hpl : p < l.length := by rw [← Bd.rep.length]; exact hlt
      rw [List.drop_eq_getElem_cons hpl]
      rw [List.getElem?_eq_getElem hpl] at hkk
      rw [Option.some.inj hkk]
    refine codeAny_builtin contains_entry ?_
    rw [Around.under_plainId contains_plain _]
    unfold Builtin.«proto.contains_iter»
    dsimp only
    refine wpAny_bind (next_item hit hd hex fun h' hit' hs => ?_)
    have Ti' : TupIn ti h' := fun b o e c => (hs.2 b (hIt b o e c)).trans (Ti b o e c)
    refine wpAny_bind (eqBool_item (by show A.units + 1 + 1 < cLine; omega) (Ti'.item hi) (Ti'.item hv) ?_)
    have c1 : Chg [I] s.heap h' := fun b o hb e => (hs.2 b (by simpa using hb)).trans e
    by_cases hk : kk = i
    · rw [decide_eq_true hk]
      refine wpAny_bind (wpAny_rule (wpAny_pure ?_))
      have := hR h' s.toks c1
      rw [hdr, decide_eq_true (by rw [hk]; exact List.mem_cons_self)] at this
      exact this
    · rw [decide_eq_false hk]
      refine wpAny_pure ⟨plainId_quiet contains_plain _, ih (p + 1) (by omega) _ R Ti' hit' ((hs.2 d hne).trans hd) fun h'' tk c => ?_⟩
      have := hR h'' tk (c1.trans c)
      rw [hdr] at this
      have e : decide (i ∈ kk :: l.drop (p + 1)) = decide (i ∈ l.drop (p + 1)) := by
        by_cases q : i ∈ l.drop (p + 1)
        · simp [q]
        · have : i ≠ kk := fun a => hk a.symm
          simp [q, this]
      rw [e] at this
      exact this
/-- v in y, y a Set that g holds -/
theorem contains_set (C : Cx w A base frs mean mg mb h₀ (k + 3)) (B : Below A base frs g) (X : (hd.heap_39 w.params).In g) (Tg : TupIn ti g) (F : Fr g L s.heap m) (N : News g L s.heap news) (Rx : Reads1 prog w ti g y dy e l t n ep es) (hv : ItemAt ti v i) {Q : Bool → Shared → Prop}
    (h : ∀ h' tk, Fr g L h' m → News g L h' news → Q (decide (i ∈ l)) { s with heap := h', toks := tk }) (hk : scope.kind = .function := by rfl) :
    wpAny (model prog w) (A.deeper (envOf qual scope L f cdv)) (contains (.ref y) v) Q E s := by
  have X' : (hd.heap_39 w.params).In s.heap := X.keeps F.keep
  have I := InstAt.of_g F Rx.gx Rx.gdx
  unfold contains
  try with_reducible refine wpAny_holding ?_
  dsimp only [stdlibNamesSay?_ref]
  have look : Looks (model prog w) s.heap (specialOf (.ref y) "__contains__") none := I.type.andThen (looks_findIn X' (by k_is))
  refine wpAny_bind (look.here ?_)
  rw [if_neg (by decide)]
  refine wpAny_bind ?_
  unfold callSpecialUnlessNone?
  refine wpAny_bind (look.here (wpAny_pure ?_))
  dsimp only
  refine wpAny_bind (wpAny_rule ?_)
  refine wpAny_bind (wpAny_tryCatch (pyIter_set C B X (Tg.up F) F N Rx (fun h' I tk F' N' off => ?_) hk))
  have NI := N' _ (.head _)
  refine wpAny_bind (wpAny_runValue (contains_code (A := A.deeper (envOf qual scope L f cdv)) (l := l) (es := es) (n := ep) C.handled (C.room.deeper.units) (fun q => ?_) (fun b o q c r => ?_) Rx.bd hv es.length 0 (by omega) _ _ ?_ ⟨_, NI.1, rfl, rfl⟩ (F'.keep _ _ Rx.gd) fun h'' tk' c => ?_))
  · have := NI.2.2; rw [← q, Rx.gd] at this; cases this
  · have := Tg.up F' b o q c
    rw [r, NI.1] at this; injection this with this
    rw [← this] at c; simp at c
  · exact Tg.up F'
  · have F'' : Fr g L h'' m := Fr.chg F' c fun a ha => by rw [List.mem_singleton.mp ha]; exact ⟨NI.2.2, NI.2.1⟩
    have N'' : News g L h'' news := News.chg (fun p hp => N' p (.tail _ hp)) c fun p hp => by simpa using off p hp
    rw [List.drop_zero]
    exact wpAny_pure (h h'' tk' F'' N'')
theorem notIn_set (C : Cx w A base frs mean mg mb h₀ (k + 3)) (B : Below A base frs g) (X : (hd.heap_39 w.params).In g) (Tg : TupIn ti g) (F : Fr g L s.heap m) (N : News g L s.heap news) (Rx : Reads1 prog w ti g y dy e l t n ep es) (hv : ItemAt ti v i)
    (h : ∀ h' tk, Fr g L h' m → News g L h' news → Q (.bool (!decide (i ∈ l))) { s with heap := h', toks := tk }) (hk : scope.kind = .function := by rfl) :
    wpAny (model prog w) (A.deeper (envOf qual scope L f cdv)) (compareOp .NotIn v (.ref y)) Q E s := by
  show wpAny _ _ (do return .bool !(← contains (.ref y) v)) Q E s
  exact wpAny_bind (contains_set C B X Tg F N Rx hv (fun h' tk F' N' => wpAny_pure (h h' tk F' N')) hk)
end
end
set_option hygiene false in
local macro_rules | `(tactic| walk_at "exec For Name Name cons nil") => `(tactic| (k_here; (with_reducible rename Fr _ _ _ _ => lF'); (with_unfolding_all refine' For_invVF lF' ?k1 ?k2 ?_; (case k1 => exact rfl); (case k2 => exact rfl); k_whole)))
set_option hygiene false in
local macro_rules | `(tactic| walk_at "compareOp Is ref ref") => `(tactic| (k_here; first | with_reducible refine is_self_M ?_ | (refine' is_other_M ?n ?x ?y ?_; (case n => first | assumption | exact Ne.symm (by assumption)); (case x => first | exact News.get (by k_asm) (by k_mem) | exact Fr.keep (by k_asm) _ _ (by first | assumption | exact Reads1.gx (by assumption))); (case y => first | exact News.get (by k_asm) (by k_mem) | exact Fr.keep (by k_asm) _ _ (by first | assumption | exact Reads1.gx (by assumption))))))
section
open PySem PySem.W PySem.Calls PyProof.Rows
theorem offF5 : True := by
  w_top off
  trivial
section
variable {prog : Program} {w : World} {A : Around} {E : Value → Shared → Prop} {base ti g h h' h₀ : Heap} {frs : List Env} {mean : ExcName → Option Value} {mg mb : Str → Option Value} {s : Shared} {k : Nat}
  {x dx d y dy e f L : Addr} {l l' : List (Fin 9)} {v : Value} {i : Fin 9} {R : Result → Shared → Prop} {m : Str → Option Value} {news : List (Addr × Obj)} {u : Obj → List (Addr × Obj)} {es : List DictEntry} {n n₁ t ep : Nat}
  {qual : Str} {scope : Scope} {cdv : Value} {Q : Value → Shared → Prop}
theorem union_update_code (C : Cx w A base frs mean mg mb s.heap (k + 4)) (Ti : TupIn ti s.heap) (S : SetIs prog w ti s.heap x dx d l) (O : Own base frs d) (S' : SetIs prog w ti s.heap y dy e l') (hxy : x ≠ y) (hde : d ≠ e)
    (hR : ∀ h' tk, Chg [d] s.heap h' → SetIs prog w ti h' x dx d (l'.foldl addL l) → R (.ok (.ret .none)) { s with heap := h', toks := tk }) :
    codeAny (model prog w) A (.call (.ref 78) ⟨[.ref x, .ref y], []⟩) R s := by
  refine enter1 C Ti S O (by k_is) (by k_is) (BindsTo.of_eq rfl) (locs rfl) fun g L h₁ t n es ep hg Tg gx gdx Bd F N B X T => ?_
  obtain ⟨t2, n2, ep2, es2, Rx⟩ := S'.reads hg (fun b hb => by rw [List.mem_singleton.mp hb]; exact ⟨(S.off S').1.symm, (S.off S').2.symm, hde⟩)
  dsimp only
  k_steps
  rename News _ _ _ _ => N1
  rename Fr _ _ _ _ => F1
  refine for_set (fun j m₁ news₁ => ∃ (u : Str → Option Value) (es1 : List DictEntry) (n1 : Nat), (m₁ = fun z => if z = Str.ofString "item" then u z else List.lookup z [(Str.ofString "other", Value.ref y), (Str.ofString "self", Value.ref x)]) ∧
    news₁ = [(d, dictOf es1 n1)] ∧ Bears prog w ti d es1 ((l'.take j).foldl addL l)) C B X (Tg.up F1) Rx F1 N1 ⟨_, es, ep, map_if _ _, rfl, by simpa using Bd⟩ ?_ ?_
  · rintro I j en m₁ news₁ h tk oI hen ⟨u, es1, n1, rfl, rfl, Bd1⟩ hoff F2 N2
    obtain ⟨kk, hkk, _, hv, _⟩ := Rx.bd.rep.get hen
    simp only [List.mem_cons, List.not_mem_nil, or_false, forall_eq_or_imp, forall_eq] at hoff
    clear F1 N1 Bd
    k_steps
    rename News _ _ _ _ => N3
    rename Fr _ _ _ _ => F3
    refine TurnM.intro F3 N3 ?_ ⟨_, _, _, map_item, rfl, ?_⟩
    · simp only [List.mem_cons, List.not_mem_nil, or_false, forall_eq_or_imp, forall_eq]; exact hoff
    · rw [take_foldl _ _ _ hkk]; assumption
  · rintro m₁ news₁ h tk ⟨u, es1, n1, rfl, rfl, Bd1⟩ F2 N2
    clear F1 N1 Bd
    k_steps
    rw [Rx.bd.rep.length, List.take_length] at Bd1
    exact hR _ _ (chg_of hg F2) (setIs_of F2 N2 gx gdx (by k_mem) Bd1)
end
end
section
open PySem PySem.W PySem.Calls PyProof.Rows
def intL (a b : List (Fin 9)) : List (Fin 9) := a.filter fun x => decide (x ∈ b)
def difL (a b : List (Fin 9)) : List (Fin 9) := a.filter fun x => !decide (x ∈ b)
def uniL (a b : List (Fin 9)) : List (Fin 9) := a ++ difL b a
def symL (a b : List (Fin 9)) : List (Fin 9) := difL a b ++ difL b a
theorem foldl_addL : ∀ {b a : List (Fin 9)}, b.Nodup → b.foldl addL a = uniL a b := by
  intro b
  induction b with
  | nil => intro a _; simp [uniL, difL]
  | cons k b ih =>
    intro a hn
    have hk := (List.nodup_cons.mp hn).1
    rw [List.foldl_cons, ih (List.nodup_cons.mp hn).2]
    unfold uniL difL addL
    by_cases h : k ∈ a
    · rw [if_pos h, List.filter_cons, if_neg (by simp [h])]
    · rw [if_neg h, List.filter_cons, if_pos (by simp [h])]
      have : b.filter (fun x => !decide (x ∈ a ++ [k])) = b.filter fun x => !decide (x ∈ a) := by
        refine List.filter_congr fun x hx => ?_
        have : x ≠ k := fun e => hk (e ▸ hx)
        simp [this]
      rw [this]; simp
theorem foldl_delL : ∀ {b a : List (Fin 9)}, b.foldl delL a = difL a b := by
  intro b
  induction b with
  | nil => intro a; exact (List.filter_eq_self.mpr fun x _ => by simp).symm
  | cons k b ih =>
    intro a
    rw [List.foldl_cons, ih]
    unfold difL delL
    rw [List.filter_filter]
    refine List.filter_congr fun x _ => ?_
    by_cases h : x = k <;> simp [h]
theorem intL_self (a : List (Fin 9)) : intL a a = a := by
  unfold intL
  refine List.filter_eq_self.mpr fun x hx => by simp [hx]
theorem difL_self (a : List (Fin 9)) : difL a a = [] := by
  unfold difL
  refine List.filter_eq_nil_iff.mpr fun x hx => by simp [hx]
theorem uniL_self (a : List (Fin 9)) : uniL a a = a := by unfold uniL; rw [difL_self, List.append_nil]
theorem symL_self (a : List (Fin 9)) : symL a a = [] := by unfold symL; rw [difL_self]; rfl
theorem sym_eq (a b : List (Fin 9)) : difL (uniL a b) (intL a b) = symL a b := by
  unfold symL uniL difL intL
  rw [List.filter_append]
  congr 1
  · refine List.filter_congr fun x hx => ?_
    simp only [List.mem_filter, decide_eq_true_eq]
    by_cases h : x ∈ b <;> simp [h, hx]
  · rw [List.filter_eq_self]
    intro x hx
    rw [List.mem_filter] at hx
    simp only [Bool.not_eq_true', decide_eq_false_iff_not] at hx
    simp only [List.mem_filter, decide_eq_true_eq]
    simp [hx.2]
theorem int_nodup {a b : List (Fin 9)} (h : a.Nodup) : (intL a b).Nodup := h.filter _
theorem dif_nodup {a b : List (Fin 9)} (h : a.Nodup) : (difL a b).Nodup := h.filter _
theorem int_step {a b : List (Fin 9)} {j : Nat} {k : Fin 9} (hn : a.Nodup) (h : a[j]? = some k) :
    (if k ∈ b then intL (a.take j) b ++ a.drop j else delL (intL (a.take j) b ++ a.drop j) k) = intL (a.take (j + 1)) b ++ a.drop (j + 1) ∧ k ∈ intL (a.take j) b ++ a.drop j := by
  have hj : j < a.length := by
    by_cases q : j < a.length
    · exact q
    · rw [List.getElem?_eq_none (by omega)] at h; cases h
  have hd : a.drop j = k :: a.drop (j + 1) := by
    rw [List.drop_eq_getElem_cons hj]
    rw [List.getElem?_eq_getElem hj] at h
    rw [Option.some.inj h]
  have ht : a.take (j + 1) = a.take j ++ [k] := by rw [List.take_add_one, h]; rfl
  have hnk : k ∉ a.take j ∧ k ∉ a.drop (j + 1) := by
    have e : a = a.take j ++ k :: a.drop (j + 1) := by rw [← hd, List.take_append_drop]
    rw [e] at hn
    have := List.nodup_append.mp hn
    refine ⟨fun q => (this.2.2 k q k (List.mem_cons_self)) rfl, (List.nodup_cons.mp this.2.1).1⟩
  refine ⟨?_, by rw [hd]; simp⟩
  rw [ht, hd]
  unfold intL delL
  by_cases hb : k ∈ b
  · rw [if_pos hb, List.filter_append]
    simp [hb]
  · rw [if_neg hb, List.filter_append, List.filter_append]
    have e1 : (List.filter (fun x => decide (x ∈ b)) (a.take j)).filter (fun x => decide (x ≠ k)) = List.filter (fun x => decide (x ∈ b)) (a.take j) :=
      List.filter_eq_self.mpr fun x hx => by
        have : x ≠ k := fun e => hnk.1 (e ▸ (List.mem_filter.mp hx).1)
        simp [this]
    have e2 : (k :: a.drop (j + 1)).filter (fun x => decide (x ≠ k)) = a.drop (j + 1) := by
      rw [List.filter_cons, if_neg (by simp)]
      refine List.filter_eq_self.mpr fun x hx => by
        have : x ≠ k := fun e => hnk.2 (e ▸ hx)
        simp [this]
    rw [e1, e2]
    simp [hb]
section
variable {prog : Program} {w : World} {A : Around} {E : Value → Shared → Prop} {s : Shared} {g ti : Heap} {L d : Addr} {m : Str → Option Value} {news : List (Addr × Obj)} {es : List DictEntry} {n : Nat} {l : List (Fin 9)}
theorem Bears.le9 (x : Bears prog w ti d es l) : es.length ≤ 9 := by rw [x.rep.length]; exact nodup_le x.nd
/-- list(d) -/
theorem listM_K {Q : Value → Shared → Prop} (hh : A.handled = none) (F : Fr g L s.heap m) (N : News g L s.heap news) (hd : s.heap.get? d = some (dictOf es n)) (x : Bears prog w ti d es l)
    (h : ∀ D c h' tk, Fr g L h' m → News g L h' ((D, listOf (es.map (·.key)).toArray c) :: news) → (∀ q ∈ news, q.1 < D) → Q (.ref D) { s with heap := h', toks := tk }) : wpAny (model prog w) A (call (.type "list") [.ref d]) Q E s :=
  list_d hh x.lo hd x.le9 fun h' tk c hk hD => h _ c h' tk (F.keeps hk) (news_pushed F N hk hD rfl) fun q hq => Heap.lt_size (N q hq).1
end
end
set_option hygiene false in
local macro_rules | `(tactic| walk_at "call ref") => `(tactic| (k_here; (with_reducible show wpAny _ _ (call (Value.ref 50) _ _) _ _ _); (try dsimp only [List.nil_append, List.cons_append]); refine' discard_K ?C ?B ?F ?N ?U ?T ?x ?dx ?b ?v ?_; (case C => assumption); (case B => assumption); (case F => k_asm); (case N => k_asm); (case x => first | exact News.get (by k_asm) (by k_mem) | exact Fr.keep (by k_asm) _ _ (by assumption)); (case dx => first | exact News.get (by k_asm) (by k_mem) | exact Fr.keep (by k_asm) _ _ (by assumption)); (case U => k_updF); (case T => exact TupIn.up (by assumption) (by k_asm)); (case b => assumption); (case v => assumption); intro h' es' n' tk' F' N' x'; (try dsimp only at N'); (try k_sweep)))
set_option hygiene false in
local macro_rules | `(tactic| walk_at "compareOp NotIn") => `(tactic| (k_here; (with_reducible show wpAny _ _ (compareOp CmpOp.NotIn _ (Value.ref _)) _ _ _); refine' notIn_set ?C ?B ?X ?T ?F ?N ?Rx ?v ?_; (case Rx => assumption); (case C => assumption); (case B => assumption); (case X => assumption); (case T => assumption); (case F => k_asm); (case N => k_asm); (case v => assumption); intro h' tk' F' N'; (try k_sweep)))
set_option hygiene false in
local macro_rules | `(tactic| walk_at "delItem ref") => `(tactic| (k_here; (with_reducible show wpAny _ _ (delItem (Value.ref _) _) _ _ _); refine' delItem_K' ?hh ?T ?F ?N ?U ?x ?v ?u ?a ?b; (case hh => exact Cx.handled (by assumption)); (case T => exact TupIn.up (by assumption) (by k_asm)); (case F => k_asm); (case N => k_asm); (case U => k_updF); (case x => assumption); (case v => assumption); (case u => k_units); (case a => intro hk; first | exact absurd (by assumption) hk | skip); (case b => intro hk h' es' n' tk' F' N' x'; (try dsimp only at N'); (try k_sweep))))
set_option hygiene false in
local macro_rules | `(tactic| walk_at "call type:list") => `(tactic| (k_here; (with_reducible show wpAny _ _ (call (Value.type _) [Value.ref _]) _ _ _); refine' listM_K ?hh ?F ?N ?m ?B ?_; (case hh => exact Cx.handled (by assumption)); (case F => k_asm); (case N => k_asm); (case m => first | exact News.get (by k_asm) (by k_mem) | exact Fr.keep (by k_asm) _ _ (Reads1.gd (by assumption))); (case B => first | assumption | exact Reads1.bd (by assumption)); intro D' c' h' tk' F' N' l1; (try k_lt l1); (try k_sweep)))
section
open PySem PySem.W PySem.Calls PyProof.Rows
theorem offF6 : True := by
  w_top off
  trivial
section
variable {prog : Program} {w : World} {A : Around} {E : Value → Shared → Prop} {base ti g h h' h₀ : Heap} {frs : List Env} {mean : ExcName → Option Value} {mg mb : Str → Option Value} {s : Shared} {k : Nat}
  {x dx d y dy e f L : Addr} {l l' : List (Fin 9)} {v : Value} {i : Fin 9} {R : Result → Shared → Prop} {m : Str → Option Value} {news : List (Addr × Obj)} {u : Obj → List (Addr × Obj)} {es : List DictEntry} {n n₁ t ep : Nat}
  {qual : Str} {scope : Scope} {cdv : Value} {Q : Value → Shared → Prop}
theorem difference_update_code (C : Cx w A base frs mean mg mb s.heap (k + 4)) (Ti : TupIn ti s.heap) (S : SetIs prog w ti s.heap x dx d l) (O : Own base frs d) (S' : SetIs prog w ti s.heap y dy e l') (hxy : x ≠ y) (hde : d ≠ e)
    (hR : ∀ h' tk, Chg [d] s.heap h' → SetIs prog w ti h' x dx d (difL l l') → R (.ok (.ret .none)) { s with heap := h', toks := tk }) :
    codeAny (model prog w) A (.call (.ref 92) ⟨[.ref x, .ref y], []⟩) R s := by
  refine enter1 C Ti S O (by k_is) (by k_is) (BindsTo.of_eq rfl) (locs rfl) fun g L h₁ t n es ep hg Tg gx gdx Bd F N B X T => ?_
  obtain ⟨t2, n2, ep2, es2, Rx⟩ := S'.reads hg (fun b hb => by rw [List.mem_singleton.mp hb]; exact ⟨(S.off S').1.symm, (S.off S').2.symm, hde⟩)
  dsimp only
  k_steps
  rename News _ _ _ _ => N1
  rename Fr _ _ _ _ => F1
  refine for_set (fun j m₁ news₁ => ∃ (u : Str → Option Value) (es1 : List DictEntry) (n1 : Nat), (m₁ = fun z => if z = Str.ofString "item" then u z else List.lookup z [(Str.ofString "other", Value.ref y), (Str.ofString "self", Value.ref x)]) ∧
    news₁ = [(d, dictOf es1 n1)] ∧ Bears prog w ti d es1 ((l'.take j).foldl delL l)) C B X (Tg.up F1) Rx F1 N1 ⟨_, es, ep, map_if _ _, rfl, by simpa using Bd⟩ ?_ ?_
  · rintro I j en m₁ news₁ h tk oI hen ⟨u, es1, n1, rfl, rfl, Bd1⟩ hoff F2 N2
    obtain ⟨kk, hkk, _, hv, _⟩ := Rx.bd.rep.get hen
    simp only [List.mem_cons, List.not_mem_nil, or_false, forall_eq_or_imp, forall_eq] at hoff
    clear F1 N1 Bd
    k_steps
    rename News _ _ _ _ => N3
    rename Fr _ _ _ _ => F3
    refine TurnM.intro F3 N3 ?_ ⟨_, _, _, map_item, rfl, ?_⟩
    · simp only [List.mem_cons, List.not_mem_nil, or_false, forall_eq_or_imp, forall_eq]; exact hoff
    · rw [take_foldl _ _ _ hkk]; assumption
  · rintro m₁ news₁ h tk ⟨u, es1, n1, rfl, rfl, Bd1⟩ F2 N2
    clear F1 N1 Bd
    k_steps
    rw [Rx.bd.rep.length, List.take_length, foldl_delL] at Bd1
    exact hR _ _ (chg_of hg F2) (setIs_of F2 N2 gx gdx (by k_mem) Bd1)
theorem difference_update_self (C : Cx w A base frs mean mg mb s.heap (k + 4)) (Ti : TupIn ti s.heap) (S : SetIs prog w ti s.heap x dx d l) (O : Own base frs d)
    (hR : ∀ h' tk, Chg [d] s.heap h' → SetIs prog w ti h' x dx d [] → R (.ok (.ret .none)) { s with heap := h', toks := tk }) :
    codeAny (model prog w) A (.call (.ref 92) ⟨[.ref x, .ref x], []⟩) R s := by
  refine enter1 C Ti S O (by k_is) (by k_is) (BindsTo.of_eq rfl) (locs rfl) fun g L h₁ t n es ep hg Tg gx gdx Bd F N B X T => ?_
  dsimp only
  k_steps
  exact hR _ _ (chg_of hg (by k_asm)) (setIs_of (by k_asm) (by k_asm) gx gdx (by k_mem) (by assumption))
theorem symmetric_difference_update_self (C : Cx w A base frs mean mg mb s.heap (k + 4)) (Ti : TupIn ti s.heap) (S : SetIs prog w ti s.heap x dx d l) (O : Own base frs d)
    (hR : ∀ h' tk, Chg [d] s.heap h' → SetIs prog w ti h' x dx d [] → R (.ok (.ret .none)) { s with heap := h', toks := tk }) :
    codeAny (model prog w) A (.call (.ref 99) ⟨[.ref x, .ref x], []⟩) R s := by
  refine enter1 C Ti S O (by k_is) (by k_is) (BindsTo.of_eq rfl) (locs rfl) fun g L h₁ t n es ep hg Tg gx gdx Bd F N B X T => ?_
  dsimp only
  k_steps
  exact hR _ _ (chg_of hg (by k_asm)) (setIs_of (by k_asm) (by k_asm) gx gdx (by k_mem) (by assumption))
theorem union_update_self (C : Cx w A base frs mean mg mb s.heap (k + 4)) (Ti : TupIn ti s.heap) (S : SetIs prog w ti s.heap x dx d l)
    (hR : ∀ h' tk, Chg [] s.heap h' → SetIs prog w ti h' x dx d l → R (.ok (.ret .none)) { s with heap := h', toks := tk }) :
    codeAny (model prog w) A (.call (.ref 78) ⟨[.ref x, .ref x], []⟩) R s := by
  refine enter0 C Ti (by k_is) (by k_is) (BindsTo.of_eq rfl) (locs rfl) fun g L h₁ hg Tg F N B X T => ?_
  obtain ⟨t, n, ep, es, Rx⟩ := S.reads hg (by simp)
  dsimp only
  k_steps
  exact hR _ _ (chg_of hg (by k_asm)) (Reads1.set ⟨_, _, _, _, Rx⟩ (by k_asm))
theorem intersection_update_self (C : Cx w A base frs mean mg mb s.heap (k + 4)) (Ti : TupIn ti s.heap) (S : SetIs prog w ti s.heap x dx d l)
    (hR : ∀ h' tk, Chg [] s.heap h' → SetIs prog w ti h' x dx d l → R (.ok (.ret .none)) { s with heap := h', toks := tk }) :
    codeAny (model prog w) A (.call (.ref 85) ⟨[.ref x, .ref x], []⟩) R s := by
  refine enter0 C Ti (by k_is) (by k_is) (BindsTo.of_eq rfl) (locs rfl) fun g L h₁ hg Tg F N B X T => ?_
  obtain ⟨t, n, ep, es, Rx⟩ := S.reads hg (by simp)
  dsimp only
  k_steps
  exact hR _ _ (chg_of hg (by k_asm)) (Reads1.set ⟨_, _, _, _, Rx⟩ (by k_asm))
end
end
end Mine
namespace Mine
open PySem PySem.W PySem.Calls PyProof.Rows
set_option hygiene false in
local macro_rules | `(tactic| k_inst) => `(tactic| (refine' InstAt.of_g ?F ?a ?b; (case F => k_asm); (case a => first | assumption | exact Reads1.gx (by assumption)); (case b => first | assumption | exact Reads1.gdx (by assumption))))
set_option hygiene false in
local macro_rules | `(tactic| k_units) => `(tactic| exact Room.units (Room.deeper (Cx.room (by assumption))))
set_option hygiene false in
local macro_rules | `(tactic| walk_at "compareOp NotIn") => `(tactic| (k_here; (with_reducible show wpAny _ _ (compareOp CmpOp.NotIn _ (Value.ref _)) _ _ _); refine' notIn_K ?T ?m ?B ?v ?u ?_; (case T => exact TupIn.up (by assumption) (by k_asm)); (case m => first | exact News.get (by k_asm) (by k_mem) | exact Fr.keep (by k_asm) _ _ (Reads1.gd (by assumption))); (case B => first | assumption | exact Reads1.bd (by assumption)); (case v => assumption); (case u => k_units); intro tk'))
set_option hygiene false in
local macro_rules | `(tactic| walk_at "compareOp In") => `(tactic| (k_here; (with_reducible show wpAny _ _ (compareOp CmpOp.In _ (Value.ref _)) _ _ _); refine' in_K' ?T ?m ?B ?v ?u ?_; (case T => exact TupIn.up (by assumption) (by k_asm)); (case m => first | exact News.get (by k_asm) (by k_mem) | exact Fr.keep (by k_asm) _ _ (Reads1.gd (by assumption))); (case B => first | assumption | exact Reads1.bd (by assumption)); (case v => assumption); (case u => k_units); intro tk'))
set_option hygiene false in
local macro_rules | `(tactic| walk_at "setItem ref") => `(tactic| (k_here; (with_reducible show wpAny _ _ (setItem (Value.ref _) _ Value.none) _ _ _); refine' setItem_K' ?T ?F ?N ?U ?x ?v ?u ?_; (case T => exact TupIn.up (by assumption) (by k_asm)); (case F => k_asm); (case N => k_asm); (case U => k_updF); (case x => assumption); (case v => assumption); (case u => k_units); intro h' es' n' tk' F' N' x'; (try dsimp only at N'); (try k_sweep)))
set_option hygiene false in
local macro_rules | `(tactic| walk_at "call builtin:dict.pop") => `(tactic| (k_here; (with_reducible show wpAny _ _ (call (Value.builtin "dict.pop") [Value.ref _, _, Value.none]) _ _ _); refine' pop_K' ?T ?F ?N ?U ?x ?v ?u ?_; (case T => exact TupIn.up (by assumption) (by k_asm)); (case F => k_asm); (case N => k_asm); (case U => k_updF); (case x => assumption); (case v => assumption); (case u => k_units); intro h' es' n' tk' F' N' x'; (try dsimp only at N'); (try k_sweep)))
set_option hygiene false in
local macro_rules | `(tactic| walk_at "call builtin:dict.clear") => `(tactic| (k_here; (with_reducible show wpAny _ _ (call (Value.builtin "dict.clear") [Value.ref _]) _ _ _); refine' clear_K' ?T ?F ?N ?U ?x ?_; (case T => exact TupIn.up (by assumption) (by k_asm)); (case F => k_asm); (case N => k_asm); (case U => k_updF); (case x => assumption); intro h' es' n' F' N' x'; (try dsimp only at N'); (try k_sweep)))
set_option hygiene false in
local macro_rules | `(tactic| walk_at "getMethod ref") => `(tactic| (k_here; (with_reducible show wpAny _ _ (getMethod (Value.ref _) (PySem.Str.ofString "pop") _) _ _ _); refine' dictMethod_M ?m PySem.F.slot_dict_pop PySem.F.type_dict_pop ?_; (case m => first | exact News.get (by k_asm) (by k_mem) | exact Fr.keep (by k_asm) _ _ (Reads1.gd (by assumption)))))
set_option hygiene false in
local macro_rules | `(tactic| walk_at "getMethod ref") => `(tactic| (k_here; (with_reducible show wpAny _ _ (getMethod (Value.ref _) (PySem.Str.ofString "popitem") _) _ _ _); refine' dictMethod_M ?m PySem.F.slot_dict_popitem PySem.F.type_dict_popitem ?_; (case m => first | exact News.get (by k_asm) (by k_mem) | exact Fr.keep (by k_asm) _ _ (Reads1.gd (by assumption)))))
set_option hygiene false in
local macro_rules | `(tactic| walk_at "getMethod ref") => `(tactic| (k_here; (with_reducible show wpAny _ _ (getMethod (Value.ref _) (PySem.Str.ofString "clear") _) _ _ _); refine' dictMethod_M ?m PySem.F.slot_dict_clear PySem.F.type_dict_clear ?_; (case m => first | exact News.get (by k_asm) (by k_mem) | exact Fr.keep (by k_asm) _ _ (Reads1.gd (by assumption)))))
set_option hygiene false in
local macro_rules | `(tactic| walk_at "call type:dict nil nil") => `(tactic| (k_here; refine' newDict_M ?F ?N ?T ?_; (case F => k_asm); (case N => k_asm); (case T => exact (by assumption : Top _ _ _ _ _ _).nolimit); intro d' h' F' N' l1 l2 lo'; (try k_lt l1); (try k_sweep)))
set_option hygiene false in
local macro_rules | `(tactic| walk_at "call ref") => `(tactic| (k_here; (with_reducible show wpAny _ _ (call (Value.ref 275) _ _) _ _ _); (try dsimp only [List.nil_append, List.cons_append]); refine' new0_K ?C ?B ?T ?X ?F ?N ?_; (case T => exact TupIn.up (by assumption) (by k_asm)); (case C => assumption); (case B => assumption); (case X => assumption); (case F => k_asm); (case N => k_asm); intro h' x' dx' d' t' n' ep' tk' F' N' off' e1' e2' e3' Bd'; (try simp only [List.mem_cons, List.not_mem_nil, or_false, forall_eq_or_imp, forall_eq, false_implies, implies_true] at off'); (try k_sweep)))
set_option hygiene false in
local macro_rules | `(tactic| walk_at "call ref") => `(tactic| (k_here; (with_reducible show wpAny _ _ (call (Value.ref 36) _ _) _ _ _); (try dsimp only [List.nil_append, List.cons_append]); refine' add_K ?C ?B ?F ?N ?U ?T ?x ?dx ?b ?v ?_; (case C => assumption); (case B => assumption); (case F => k_asm); (case N => k_asm); (case x => first | exact News.get (by k_asm) (by k_mem) | exact Fr.keep (by k_asm) _ _ (by assumption)); (case dx => first | exact News.get (by k_asm) (by k_mem) | exact Fr.keep (by k_asm) _ _ (by assumption)); (case U => k_updF); (case T => exact TupIn.up (by assumption) (by k_asm)); (case b => assumption); (case v => assumption); intro h' es' n' tk' F' N' x'; (try dsimp only at N'); (try k_sweep)))
set_option hygiene false in
local macro_rules | `(tactic| walk_at "call builtin:iter") => `(tactic| (k_here; (with_reducible show wpAny _ _ (call (Value.builtin "iter") [Value.ref _]) _ _ _); refine' iter_M ?F ?N ?m ?l ?_; (case F => k_asm); (case N => k_asm); (case m => first | exact News.get (by k_asm) (by k_mem) | exact Fr.keep (by k_asm) _ _ (Reads1.gd (by assumption))); (case l => first | exact Bears.lo (by assumption) | exact Bears.lo (Reads1.bd (by assumption))); intro I' h' F' N' off'; (try k_sweep)))
set_option hygiene false in
local macro_rules | `(tactic| walk_at "exec For Name Name cons nil") => `(tactic| (k_here; (with_reducible rename Fr _ _ _ _ => lF'); (with_unfolding_all refine' For_invVF lF' ?k1 ?k2 ?_; (case k1 => exact rfl); (case k2 => exact rfl); k_whole)))
set_option hygiene false in
local macro_rules | `(tactic| walk_at "compareOp Is ref ref") => `(tactic| (k_here; first | with_reducible refine is_self_M ?_ | (refine' is_other_M ?n ?x ?y ?_; (case n => first | assumption | exact Ne.symm (by assumption)); (case x => first | exact News.get (by k_asm) (by k_mem) | exact Fr.keep (by k_asm) _ _ (by first | assumption | exact Reads1.gx (by assumption))); (case y => first | exact News.get (by k_asm) (by k_mem) | exact Fr.keep (by k_asm) _ _ (by first | assumption | exact Reads1.gx (by assumption))))))
set_option hygiene false in
local macro_rules | `(tactic| walk_at "call ref") => `(tactic| (k_here; (with_reducible show wpAny _ _ (call (Value.ref 50) _ _) _ _ _); (try dsimp only [List.nil_append, List.cons_append]); refine' discard_K ?C ?B ?F ?N ?U ?T ?x ?dx ?b ?v ?_; (case C => assumption); (case B => assumption); (case F => k_asm); (case N => k_asm); (case x => first | exact News.get (by k_asm) (by k_mem) | exact Fr.keep (by k_asm) _ _ (by assumption)); (case dx => first | exact News.get (by k_asm) (by k_mem) | exact Fr.keep (by k_asm) _ _ (by assumption)); (case U => k_updF); (case T => exact TupIn.up (by assumption) (by k_asm)); (case b => assumption); (case v => assumption); intro h' es' n' tk' F' N' x'; (try dsimp only at N'); (try k_sweep)))
set_option hygiene false in
local macro_rules | `(tactic| walk_at "compareOp NotIn") => `(tactic| (k_here; (with_reducible show wpAny _ _ (compareOp CmpOp.NotIn _ (Value.ref _)) _ _ _); refine' notIn_set ?C ?B ?X ?T ?F ?N ?Rx ?v ?_; (case Rx => assumption); (case C => assumption); (case B => assumption); (case X => assumption); (case T => assumption); (case F => k_asm); (case N => k_asm); (case v => assumption); intro h' tk' F' N'; (try k_sweep)))
set_option hygiene false in
local macro_rules | `(tactic| walk_at "delItem ref") => `(tactic| (k_here; (with_reducible show wpAny _ _ (delItem (Value.ref _) _) _ _ _); refine' delItem_K' ?hh ?T ?F ?N ?U ?x ?v ?u (fun hk => absurd ?m hk) ?_; (case hh => (rename Cx _ _ _ _ _ _ _ _ _ => cX; exact cX.handled)); (case T => exact TupIn.up (by assumption) (by k_asm)); (case F => k_asm); (case N => k_asm); (case U => k_updF); (case x => assumption); (case v => assumption); (case u => k_units); (case m => assumption); intro hk h' es' n' tk' F' N' x'; (try dsimp only at N'); (try k_sweep)))
set_option hygiene false in
local macro_rules | `(tactic| walk_at "call type:list") => `(tactic| (k_here; (with_reducible show wpAny _ _ (call (Value.type _) [Value.ref _]) _ _ _); refine' listM_K ?hh ?F ?N ?m ?B ?_; (case hh => (rename Cx _ _ _ _ _ _ _ _ _ => cX; exact cX.handled)); (case F => k_asm); (case N => k_asm); (case m => first | exact News.get (by k_asm) (by k_mem) | exact Fr.keep (by k_asm) _ _ (Reads1.gd (by assumption))); (case B => first | assumption | exact Reads1.bd (by assumption)); intro D' c' h' tk' F' N' l1; (try k_lt l1); (try k_sweep)))
set_option hygiene false in
local macro_rules | `(tactic| walk_at "delItem ref") => `(tactic| (k_here; (with_reducible show wpAny _ _ (delItem (Value.ref _) _) _ _ _); refine' delItem_K' ?hh ?T ?F ?N ?U ?x ?v ?u ?_ (fun hk => absurd hk ?m); (case hh => (rename Cx _ _ _ _ _ _ _ _ _ => cX; exact cX.handled)); (case T => exact TupIn.up (by assumption) (by k_asm)); (case F => k_asm); (case N => k_asm); (case U => k_updF); (case x => assumption); (case v => assumption); (case u => k_units); (case m => assumption); intro hk h' e' tk' NE'))
section
open PySem PySem.W PySem.Calls PyProof.Rows
theorem offF7 : True := by
  w_top off
  trivial
section
variable {prog : Program} {w : World} {A : Around} {E : Value → Shared → Prop} {base ti g h h' h₀ : Heap} {frs : List Env} {mean : ExcName → Option Value} {mg mb : Str → Option Value} {s : Shared} {k : Nat}
  {x dx d y dy e f L z dz c : Addr} {l l' l'' : List (Fin 9)} {v : Value} {i : Fin 9} {R : Result → Shared → Prop} {m : Str → Option Value} {news : List (Addr × Obj)} {u : Obj → List (Addr × Obj)} {es : List DictEntry} {n n₁ t ep : Nat}
  {qual : Str} {scope : Scope} {cdv : Value} {Q : Value → Shared → Prop}
theorem intersection_update_code (C : Cx w A base frs mean mg mb s.heap (k + 4)) (Ti : TupIn ti s.heap) (S : SetIs prog w ti s.heap x dx d l) (O : Own base frs d) (S' : SetIs prog w ti s.heap y dy e l') (hxy : x ≠ y) (hde : d ≠ e)
    (hR : ∀ h' tk, Chg [d] s.heap h' → SetIs prog w ti h' x dx d (intL l l') → R (.ok (.ret .none)) { s with heap := h', toks := tk }) :
    codeAny (model prog w) A (.call (.ref 85) ⟨[.ref x, .ref y], []⟩) R s := by
  refine enter1 C Ti S O (by k_is) (by k_is) (BindsTo.of_eq rfl) (locs rfl) fun g L h₁ t n es ep hg Tg gx gdx Bd F N B X T => ?_
  obtain ⟨t2, n2, ep2, es2, Rx⟩ := S'.reads hg (fun b hb => by rw [List.mem_singleton.mp hb]; exact ⟨(S.off S').1.symm, (S.off S').2.symm, hde⟩)
  dsimp only
  k_steps
  rename News _ _ _ _ => N1
  rename Fr _ _ _ _ => F1
  have Bd0 := Bd
  refine for_listN (fun j m₁ news₁ => ∃ (u : Str → Option Value) (es1 : List DictEntry) (n1 : Nat), (m₁ = fun z => if z = Str.ofString "item" then u z else List.lookup z [(Str.ofString "other", Value.ref y), (Str.ofString "self", Value.ref x)]) ∧
    news₁ = [(d, dictOf es1 n1)] ∧ Bears prog w ti d es1 (intL (l.take j) l' ++ l.drop j)) C.handled F1 N1 (fun p hp => by rw [List.mem_singleton.mp hp]; exact Nat.ne_of_lt l1) ⟨_, es, ep, map_if _ _, rfl, by simpa [intL] using Bd⟩ ?_ ?_
  · rintro I j v m₁ news₁ h tk oI hen ⟨u, es1, n1, rfl, rfl, Bd1⟩ hlI hoff hoff2 F2 N2
    rw [List.getElem?_map] at hen
    obtain ⟨en, hen2, rfl⟩ := Option.map_eq_some_iff.mp hen
    obtain ⟨kk, hkk, _, hv, _⟩ := Bd0.rep.get hen2
    obtain ⟨st, stm⟩ := int_step (b := l') Bd0.nd hkk
    simp only [List.mem_cons, List.not_mem_nil, or_false, forall_eq_or_imp, forall_eq] at hoff hoff2
    change Fr g L _ _ at F2
    change News g L _ _ at N2
    clear F1 N1 Bd
    k_steps
    · rename News _ _ _ _ => N3
      rename Fr _ _ _ _ => F3
      refine TurnM.intro (pre := [_, _]) F3 N3 ?_ ⟨_, _, _, map_item, rfl, ?_⟩
      · simp only [List.mem_cons, List.not_mem_nil, or_false, forall_eq_or_imp, forall_eq]; exact ⟨hoff, hoff2⟩
      · rw [← st, if_pos (by assumption)]; assumption
    · rename News _ _ _ _ => N3
      rename Fr _ _ _ _ => F3
      refine TurnM.intro (pre := [_, _]) F3 N3 ?_ ⟨_, _, _, map_item, rfl, ?_⟩
      · simp only [List.mem_cons, List.not_mem_nil, or_false, forall_eq_or_imp, forall_eq]; exact ⟨hoff, hoff2⟩
      · rw [← st, if_neg (by assumption)]; assumption
  · rintro m₁ news₁ h tk ⟨u, es1, n1, rfl, rfl, Bd1⟩ F2 N2
    change Fr g L _ _ at F2
    change News g L _ _ at N2
    clear F1 N1 Bd
    k_steps
    rw [List.length_map, Bd0.rep.length, List.take_length, List.drop_length, List.append_nil] at Bd1
    exact hR _ _ (chg_of hg F2) (setIs_of F2 N2 gx gdx (by k_mem) Bd1)
end
end
section
open PySem PySem.W PySem.Calls PyProof.Rows
theorem offF8 : True := by
  w_top off
  trivial
section
variable {prog : Program} {w : World} {A : Around} {E : Value → Shared → Prop} {base ti g h h' h₀ : Heap} {frs : List Env} {mean : ExcName → Option Value} {mg mb : Str → Option Value} {s : Shared} {k : Nat}
  {x dx d y dy e f L z dz c : Addr} {l l' l'' : List (Fin 9)} {v : Value} {i : Fin 9} {R : Result → Shared → Prop} {m : Str → Option Value} {news : List (Addr × Obj)} {u : Obj → List (Addr × Obj)} {es : List DictEntry} {n n₁ t ep : Nat}
  {qual : Str} {scope : Scope} {cdv : Value} {Q : Value → Shared → Prop}
theorem ne_ng {o o' : Obj} {a b : Addr} (N : News g L h news) (hm : (a, o) ∈ news) (hg : g.get? b = some o') : a ≠ b := fun q => by have := (N _ hm).2.2; rw [show (a, o).1 = b from q, hg] at this; cases this
theorem Reads1.set1 {n₁ : Nat} (r : Reads1 prog w ti g x dx d l t n₁ ep es) (F : Fr g L h m) : SetIs prog w ti h x dx d l := Reads1.set ⟨_, _, _, _, r⟩ F
/-- a call that changes the one Set x -/
theorem upd_K {addr : Addr} {args : List Value} {lr : List (Fin 9)} (F : Fr g L s.heap m) (N : News g L s.heap news) (U : UpdF d (dictOf es n) news u)
    (code : ∀ {R : Result → Shared → Prop}, (∀ h' tk, Chg [d] s.heap h' → SetIs prog w ti h' x dx d lr → R (.ok (.ret .none)) { s with heap := h', toks := tk }) → codeAny (model prog w) A (.call (.ref addr) ⟨args, []⟩) R s)
    (h : ∀ h' es' n' tk, Fr g L h' m → News g L h' (u (dictOf es' n')) → Bears prog w ti d es' lr → Q .none { s with heap := h', toks := tk }) :
    wpAny (model prog w) A (call (.ref addr) args) Q E s :=
  wpAny_call (code fun h' tk c S => by
    obtain ⟨es', n', F', N', x'⟩ := use1 F N U c S
    exact h h' es' n' tk F' N' x')
/-- a call that makes one new Set -/
theorem new_K {addr : Addr} {args : List Value} {lr : List (Fin 9)} (F : Fr g L s.heap m) (N : News g L s.heap news)
    (code : ∀ {R : Result → Shared → Prop}, (∀ h' tk z dz e, Chg [] s.heap h' → Fresh s.heap [z, dz, e] → SetIs prog w ti h' z dz e lr → R (.ok (.ret (.ref z))) { s with heap := h', toks := tk }) → codeAny (model prog w) A (.call (.ref addr) ⟨args, []⟩) R s)
    (h : ∀ h' x dx d t n es ep tk, Fr g L h' m → News g L h' ((x, instObj 275 dx) :: (dx, setAttrs w t n d) :: (d, dictOf es ep) :: news) → (∀ p ∈ news, @Ne Nat p.1 x ∧ @Ne Nat p.1 dx ∧ @Ne Nat p.1 d) → @Ne Nat x dx → @Ne Nat x d → @Ne Nat dx d →
      Bears prog w ti d es lr → Q (.ref x) { s with heap := h', toks := tk }) :
    wpAny (model prog w) A (call (.ref addr) args) Q E s :=
  wpAny_call (code fun h' tk z dz e c hf S => by
    obtain ⟨e1, e2, e3⟩ := S.ne
    obtain ⟨sx, ⟨t, n, sdx⟩, es, ep, sd, Bd⟩ := S
    have hs : ∀ a ∈ [z, dz, e], s.heap.get? a = none ∧ a ≠ L ∧ g.get? a = none ∧ ∀ p ∈ news, p.1 ≠ a := fun a ha => by
      refine ⟨hf a ha, fun q => ?_, Option.eq_none_iff_forall_ne_some.mpr fun o q => ?_, fun p hp q => ?_⟩
      · obtain ⟨o, _, _, ho, _⟩ := F.ns; rw [← q, hf a ha] at ho; cases ho
      · have := F.keep _ _ q; rw [hf a ha] at this; cases this
      · have := (N p hp).1; rw [q, hf a ha] at this; cases this
    have F' : Fr g L h' m := Fr.chg F c fun a ha => by simp at ha
    have N' : News g L h' news := News.chg N c fun p _ => by simp
    obtain ⟨_, a2, a3, a4⟩ := hs z (by simp)
    obtain ⟨_, b2, b3, b4⟩ := hs dz (by simp)
    obtain ⟨_, c2, c3, c4⟩ := hs e (by simp)
    exact h h' z dz e t n es ep tk F' (News.add (News.add (News.add N' sd c2 c3) sdx b2 b3) sx a2 a3) (fun p hp => ⟨a4 p hp, b4 p hp, c4 p hp⟩) e1 e2 e3 Bd)
end
section
variable {prog : Program} {w : World} {A : Around} {base ti : Heap} {frs : List Env} {mean : ExcName → Option Value} {mg mb : Str → Option Value} {s : Shared} {k : Nat}
  {x dx d y dy e : Addr} {l l' : List (Fin 9)} {R : Result → Shared → Prop}
theorem SetIs.nodup (S : SetIs prog w ti s.heap x dx d l) : l.Nodup := let ⟨_, _, _, b⟩ := S.dict; b.nd
theorem union_update_code' (C : Cx w A base frs mean mg mb s.heap (k + 4)) (Ti : TupIn ti s.heap) (S : SetIs prog w ti s.heap x dx d l) (O : Own base frs d) (S' : SetIs prog w ti s.heap y dy e l') (hxy : x ≠ y) (hde : d ≠ e)
    (hR : ∀ h' tk, Chg [d] s.heap h' → SetIs prog w ti h' x dx d (uniL l l') → R (.ok (.ret .none)) { s with heap := h', toks := tk }) :
    codeAny (model prog w) A (.call (.ref 78) ⟨[.ref x, .ref y], []⟩) R s :=
  union_update_code C Ti S O S' hxy hde fun h' tk c r => hR h' tk c (foldl_addL S'.nodup ▸ r)
end
section
variable {prog : Program} {w : World} {ti g h : Heap} {s : Shared} {L z dz e : Addr} {m : Str → Option Value} {news : List (Addr × Obj)} {t n ep tk : Nat} {es : List DictEntry} {lr : List (Fin 9)} {R : Result → Shared → Prop} {h' : Heap}
theorem new_R (hg : ∀ b o, s.heap.get? b = some o → b ∉ ([] : List Addr) → g.get? b = some o) (F : Fr g L h' m) (N : News g L h' ((z, instObj 275 dz) :: (dz, setAttrs w t n e) :: (e, dictOf es ep) :: news)) (Bd : Bears prog w ti e es lr)
    (hR : ∀ h' tk z dz e, Chg [] s.heap h' → Fresh s.heap [z, dz, e] → SetIs prog w ti h' z dz e lr → R (.ok (.ret (.ref z))) { s with heap := h', toks := tk }) : R (.ok (.ret (.ref z))) { s with heap := h', toks := tk } :=
  hR _ _ _ _ _ (chg_of hg F) (Fresh.cons hg N (.head _) (by simp) (Fresh.cons hg N (.tail _ (.head _)) (by simp) (Fresh.cons hg N (.tail _ (.tail _ (.head _))) (by simp) (Fresh.nil _)))) (setIs_new N (.head _) (.tail _ (.head _)) (.tail _ (.tail _ (.head _))) Bd)
end
section
variable {prog : Program} {w : World} {A : Around} {E : Value → Shared → Prop} {base ti g h h' h₀ : Heap} {frs : List Env} {mean : ExcName → Option Value} {mg mb : Str → Option Value} {s : Shared} {k : Nat}
  {x dx d y dy e f L z dz c : Addr} {l l' l'' : List (Fin 9)} {v : Value} {i : Fin 9} {R : Result → Shared → Prop} {m : Str → Option Value} {news : List (Addr × Obj)} {u : Obj → List (Addr × Obj)} {es : List DictEntry} {n n₁ t ep : Nat}
  {qual : Str} {scope : Scope} {cdv : Value} {Q : Value → Shared → Prop}
theorem clone_K (C : Cx w A base frs mean mg mb h₀ (k + 4 + 1)) (B : Below A base frs g) (F : Fr g L s.heap m) (N : News g L s.heap news) (Ti : TupIn ti s.heap) (S : SetIs prog w ti s.heap x dx d l)
    (h : ∀ h' x dx d t n es ep tk, Fr g L h' m → News g L h' ((x, instObj 275 dx) :: (dx, setAttrs w t n d) :: (d, dictOf es ep) :: news) → (∀ p ∈ news, @Ne Nat p.1 x ∧ @Ne Nat p.1 dx ∧ @Ne Nat p.1 d) → @Ne Nat x dx → @Ne Nat x d → @Ne Nat dx d →
      Bears prog w ti d es l → Q (.ref x) { s with heap := h', toks := tk }) (hk : scope.kind = .function := by rfl) :
    wpAny (model prog w) (A.deeper (envOf qual scope L f cdv)) (call (.ref 64) [.ref x]) Q E s := new_K F N (clone_code (k := k) (C.inner B F hk) Ti S) h
theorem union_update_K (C : Cx w A base frs mean mg mb h₀ (k + 4 + 1)) (B : Below A base frs g) (F : Fr g L s.heap m) (N : News g L s.heap news) (U : UpdF d (dictOf es n) news u) (Ti : TupIn ti s.heap)
    (hx : s.heap.get? x = some (instObj 275 dx)) (hdx : s.heap.get? dx = some (setAttrs w t n₁ d)) (Bd : Bears prog w ti d es l) (S' : SetIs prog w ti s.heap y dy e l') (hxy : x ≠ y) (hde : d ≠ e)
    (h : ∀ h' es' n' tk, Fr g L h' m → News g L h' (u (dictOf es' n')) → Bears prog w ti d es' (uniL l l') → Q .none { s with heap := h', toks := tk }) (hk : scope.kind = .function := by rfl) :
    wpAny (model prog w) (A.deeper (envOf qual scope L f cdv)) (call (.ref 78) [.ref x, .ref y]) Q E s :=
  upd_K F N U (union_update_code' (k := k) (C.inner B F hk) Ti ⟨hx, ⟨_, _, hdx⟩, _, _, N.get (upd_mem U), Bd⟩ (Own.of_news B N (upd_mem U)) S' hxy hde) h
theorem intersection_update_K (C : Cx w A base frs mean mg mb h₀ (k + 4 + 1)) (B : Below A base frs g) (F : Fr g L s.heap m) (N : News g L s.heap news) (U : UpdF d (dictOf es n) news u) (Ti : TupIn ti s.heap)
    (hx : s.heap.get? x = some (instObj 275 dx)) (hdx : s.heap.get? dx = some (setAttrs w t n₁ d)) (Bd : Bears prog w ti d es l) (S' : SetIs prog w ti s.heap y dy e l') (hxy : x ≠ y) (hde : d ≠ e)
    (h : ∀ h' es' n' tk, Fr g L h' m → News g L h' (u (dictOf es' n')) → Bears prog w ti d es' (intL l l') → Q .none { s with heap := h', toks := tk }) (hk : scope.kind = .function := by rfl) :
    wpAny (model prog w) (A.deeper (envOf qual scope L f cdv)) (call (.ref 85) [.ref x, .ref y]) Q E s :=
  upd_K F N U (intersection_update_code (k := k) (C.inner B F hk) Ti ⟨hx, ⟨_, _, hdx⟩, _, _, N.get (upd_mem U), Bd⟩ (Own.of_news B N (upd_mem U)) S' hxy hde) h
theorem difference_update_K (C : Cx w A base frs mean mg mb h₀ (k + 4 + 1)) (B : Below A base frs g) (F : Fr g L s.heap m) (N : News g L s.heap news) (U : UpdF d (dictOf es n) news u) (Ti : TupIn ti s.heap)
    (hx : s.heap.get? x = some (instObj 275 dx)) (hdx : s.heap.get? dx = some (setAttrs w t n₁ d)) (Bd : Bears prog w ti d es l) (S' : SetIs prog w ti s.heap y dy e l') (hxy : x ≠ y) (hde : d ≠ e)
    (h : ∀ h' es' n' tk, Fr g L h' m → News g L h' (u (dictOf es' n')) → Bears prog w ti d es' (difL l l') → Q .none { s with heap := h', toks := tk }) (hk : scope.kind = .function := by rfl) :
    wpAny (model prog w) (A.deeper (envOf qual scope L f cdv)) (call (.ref 92) [.ref x, .ref y]) Q E s :=
  upd_K F N U (difference_update_code (k := k) (C.inner B F hk) Ti ⟨hx, ⟨_, _, hdx⟩, _, _, N.get (upd_mem U), Bd⟩ (Own.of_news B N (upd_mem U)) S' hxy hde) h
end
end
set_option hygiene false in
local macro_rules | `(tactic| walk_at "call ref") => `(tactic| (k_here; (with_reducible show wpAny _ _ (call (Value.ref 64) _ _) _ _ _); (try dsimp only [List.nil_append, List.cons_append]); refine' clone_K ?C ?B ?F ?N ?T ?S ?_; (case C => assumption); (case B => assumption); (case F => k_asm); (case N => k_asm); (case T => exact TupIn.up (by assumption) (by k_asm)); (case S => first | exact Reads1.set1 (by assumption) (by k_asm) | exact setIs_new (by k_asm) (by k_mem) (by k_mem) (by k_mem) (by assumption) | exact setIs_of (by k_asm) (by k_asm) (by assumption) (by assumption) (by k_mem) (by assumption)); intro h' x' dx' d' t' n' es' ep' tk' F' N' off' e1' e2' e3' Bd'; (try simp only [List.mem_cons, List.not_mem_nil, or_false, forall_eq_or_imp, forall_eq, false_implies, implies_true] at off'); (try k_sweep)))
set_option hygiene false in
local macro_rules | `(tactic| walk_at "call ref") => `(tactic| (k_here; (with_reducible show wpAny _ _ (call (Value.ref 78) _ _) _ _ _); (try dsimp only [List.nil_append, List.cons_append]); refine' union_update_K ?C ?B ?F ?N ?U ?T ?x ?dx ?b ?S' ?ne ?nd ?_; (case C => assumption); (case B => assumption); (case F => k_asm); (case N => k_asm); (case T => exact TupIn.up (by assumption) (by k_asm)); (case x => first | exact News.get (by k_asm) (by k_mem) | exact Fr.keep (by k_asm) _ _ (by assumption)); (case dx => first | exact News.get (by k_asm) (by k_mem) | exact Fr.keep (by k_asm) _ _ (by assumption)); (case U => k_updF); (case b => assumption); (case S' => first | exact Reads1.set1 (by assumption) (by k_asm) | exact setIs_new (by k_asm) (by k_mem) (by k_mem) (by k_mem) (by assumption) | exact setIs_of (by k_asm) (by k_asm) (by assumption) (by assumption) (by k_mem) (by assumption)); (case ne => first | assumption | exact ne_ng (by k_asm) (by k_mem) (Reads1.gx (by assumption)) | exact ne_ng (by k_asm) (by k_mem) (by assumption) | exact Ne.symm (ne_ng (by k_asm) (by k_mem) (by assumption)) | exact (by omega : @Ne Nat _ _)); (case nd => first | assumption | exact ne_ng (by k_asm) (by k_mem) (Reads1.gd (by assumption)) | exact ne_ng (by k_asm) (by k_mem) (by assumption) | exact (by omega : @Ne Nat _ _)); intro h' es' n' tk' F' N' x'; (try dsimp only at N'); (try k_sweep)))
set_option hygiene false in
local macro_rules | `(tactic| walk_at "call ref") => `(tactic| (k_here; (with_reducible show wpAny _ _ (call (Value.ref 85) _ _) _ _ _); (try dsimp only [List.nil_append, List.cons_append]); refine' intersection_update_K ?C ?B ?F ?N ?U ?T ?x ?dx ?b ?S' ?ne ?nd ?_; (case C => assumption); (case B => assumption); (case F => k_asm); (case N => k_asm); (case T => exact TupIn.up (by assumption) (by k_asm)); (case x => first | exact News.get (by k_asm) (by k_mem) | exact Fr.keep (by k_asm) _ _ (by assumption)); (case dx => first | exact News.get (by k_asm) (by k_mem) | exact Fr.keep (by k_asm) _ _ (by assumption)); (case U => k_updF); (case b => assumption); (case S' => first | exact Reads1.set1 (by assumption) (by k_asm) | exact setIs_new (by k_asm) (by k_mem) (by k_mem) (by k_mem) (by assumption) | exact setIs_of (by k_asm) (by k_asm) (by assumption) (by assumption) (by k_mem) (by assumption)); (case ne => first | assumption | exact ne_ng (by k_asm) (by k_mem) (Reads1.gx (by assumption)) | exact ne_ng (by k_asm) (by k_mem) (by assumption) | exact Ne.symm (ne_ng (by k_asm) (by k_mem) (by assumption)) | exact (by omega : @Ne Nat _ _)); (case nd => first | assumption | exact ne_ng (by k_asm) (by k_mem) (Reads1.gd (by assumption)) | exact ne_ng (by k_asm) (by k_mem) (by assumption) | exact (by omega : @Ne Nat _ _)); intro h' es' n' tk' F' N' x'; (try dsimp only at N'); (try k_sweep)))
set_option hygiene false in
local macro_rules | `(tactic| walk_at "call ref") => `(tactic| (k_here; (with_reducible show wpAny _ _ (call (Value.ref 92) _ _) _ _ _); (try dsimp only [List.nil_append, List.cons_append]); refine' difference_update_K ?C ?B ?F ?N ?U ?T ?x ?dx ?b ?S' ?ne ?nd ?_; (case C => assumption); (case B => assumption); (case F => k_asm); (case N => k_asm); (case T => exact TupIn.up (by assumption) (by k_asm)); (case x => first | exact News.get (by k_asm) (by k_mem) | exact Fr.keep (by k_asm) _ _ (by assumption)); (case dx => first | exact News.get (by k_asm) (by k_mem) | exact Fr.keep (by k_asm) _ _ (by assumption)); (case U => k_updF); (case b => assumption); (case S' => first | exact Reads1.set1 (by assumption) (by k_asm) | exact setIs_new (by k_asm) (by k_mem) (by k_mem) (by k_mem) (by assumption) | exact setIs_of (by k_asm) (by k_asm) (by assumption) (by assumption) (by k_mem) (by assumption)); (case ne => first | assumption | exact ne_ng (by k_asm) (by k_mem) (Reads1.gx (by assumption)) | exact ne_ng (by k_asm) (by k_mem) (by assumption) | exact Ne.symm (ne_ng (by k_asm) (by k_mem) (by assumption)) | exact (by omega : @Ne Nat _ _)); (case nd => first | assumption | exact ne_ng (by k_asm) (by k_mem) (Reads1.gd (by assumption)) | exact ne_ng (by k_asm) (by k_mem) (by assumption) | exact (by omega : @Ne Nat _ _)); intro h' es' n' tk' F' N' x'; (try dsimp only at N'); (try k_sweep)))
section
open PySem PySem.W PySem.Calls PyProof.Rows
theorem offF9 : True := by
  w_top off
  trivial
section
variable {prog : Program} {w : World} {A : Around} {E : Value → Shared → Prop} {base ti g h h' h₀ : Heap} {frs : List Env} {mean : ExcName → Option Value} {mg mb : Str → Option Value} {s : Shared} {k : Nat}
  {x dx d y dy e f L z dz c : Addr} {l l' l'' : List (Fin 9)} {v : Value} {i : Fin 9} {R : Result → Shared → Prop} {m : Str → Option Value} {news : List (Addr × Obj)} {u : Obj → List (Addr × Obj)} {es : List DictEntry} {n n₁ t ep : Nat}
  {qual : Str} {scope : Scope} {cdv : Value} {Q : Value → Shared → Prop}
theorem copy_code (C : Cx w A base frs mean mg mb s.heap (k + 5)) (Ti : TupIn ti s.heap) (S : SetIs prog w ti s.heap x dx d l)
    (hR : ∀ h' tk z dz e, Chg [] s.heap h' → Fresh s.heap [z, dz, e] → SetIs prog w ti h' z dz e l → R (.ok (.ret (.ref z))) { s with heap := h', toks := tk }) :
    codeAny (model prog w) A (.call (.ref 71) ⟨[.ref x], []⟩) R s := by
  refine enter0 C Ti (by k_is) (by k_is) (BindsTo.of_eq rfl) (locs rfl) fun g L h₁ hg Tg F N B X T => ?_
  obtain ⟨t, n, ep, es, Rx⟩ := S.reads hg (by simp)
  dsimp only
  k_steps
  exact new_R (s := s) hg (by assumption) (by assumption) (by assumption) hR
theorem union_code (C : Cx w A base frs mean mg mb s.heap (k + 5)) (Ti : TupIn ti s.heap) (S : SetIs prog w ti s.heap x dx d l) (S' : SetIs prog w ti s.heap y dy c l')
    (hR : ∀ h' tk z dz e, Chg [] s.heap h' → Fresh s.heap [z, dz, e] → SetIs prog w ti h' z dz e (uniL l l') → R (.ok (.ret (.ref z))) { s with heap := h', toks := tk }) :
    codeAny (model prog w) A (.call (.ref 106) ⟨[.ref x, .ref y], []⟩) R s := by
  refine enter0 C Ti (by k_is) (by k_is) (BindsTo.of_eq rfl) (locs rfl) fun g L h₁ hg Tg F N B X T => ?_
  obtain ⟨t, n, ep, es, Rx⟩ := S.reads hg (by simp)
  obtain ⟨t2, n2, ep2, es2, Ry⟩ := S'.reads hg (by simp)
  dsimp only
  k_steps
  exact new_R (s := s) hg (by assumption) (by assumption) (by assumption) hR
theorem union_K (C : Cx w A base frs mean mg mb h₀ (k + 5 + 1)) (B : Below A base frs g) (F : Fr g L s.heap m) (N : News g L s.heap news) (Ti : TupIn ti s.heap) (S : SetIs prog w ti s.heap x dx d l) (S' : SetIs prog w ti s.heap y dy e l')
    (h : ∀ h' x dx d t n es ep tk, Fr g L h' m → News g L h' ((x, instObj 275 dx) :: (dx, setAttrs w t n d) :: (d, dictOf es ep) :: news) → (∀ p ∈ news, @Ne Nat p.1 x ∧ @Ne Nat p.1 dx ∧ @Ne Nat p.1 d) → @Ne Nat x dx → @Ne Nat x d → @Ne Nat dx d →
      Bears prog w ti d es (uniL l l') → Q (.ref x) { s with heap := h', toks := tk }) (hk : scope.kind = .function := by rfl) :
    wpAny (model prog w) (A.deeper (envOf qual scope L f cdv)) (call (.ref 106) [.ref x, .ref y]) Q E s := new_K F N (union_code (k := k) (C.inner B F hk) Ti S S') h
theorem intersection_code (C : Cx w A base frs mean mg mb s.heap (k + 5)) (Ti : TupIn ti s.heap) (S : SetIs prog w ti s.heap x dx d l) (S' : SetIs prog w ti s.heap y dy c l')
    (hR : ∀ h' tk z dz e, Chg [] s.heap h' → Fresh s.heap [z, dz, e] → SetIs prog w ti h' z dz e (intL l l') → R (.ok (.ret (.ref z))) { s with heap := h', toks := tk }) :
    codeAny (model prog w) A (.call (.ref 113) ⟨[.ref x, .ref y], []⟩) R s := by
  refine enter0 C Ti (by k_is) (by k_is) (BindsTo.of_eq rfl) (locs rfl) fun g L h₁ hg Tg F N B X T => ?_
  obtain ⟨t, n, ep, es, Rx⟩ := S.reads hg (by simp)
  obtain ⟨t2, n2, ep2, es2, Ry⟩ := S'.reads hg (by simp)
  dsimp only
  k_steps
  exact new_R (s := s) hg (by assumption) (by assumption) (by assumption) hR
theorem intersection_K (C : Cx w A base frs mean mg mb h₀ (k + 5 + 1)) (B : Below A base frs g) (F : Fr g L s.heap m) (N : News g L s.heap news) (Ti : TupIn ti s.heap) (S : SetIs prog w ti s.heap x dx d l) (S' : SetIs prog w ti s.heap y dy e l')
    (h : ∀ h' x dx d t n es ep tk, Fr g L h' m → News g L h' ((x, instObj 275 dx) :: (dx, setAttrs w t n d) :: (d, dictOf es ep) :: news) → (∀ p ∈ news, @Ne Nat p.1 x ∧ @Ne Nat p.1 dx ∧ @Ne Nat p.1 d) → @Ne Nat x dx → @Ne Nat x d → @Ne Nat dx d →
      Bears prog w ti d es (intL l l') → Q (.ref x) { s with heap := h', toks := tk }) (hk : scope.kind = .function := by rfl) :
    wpAny (model prog w) (A.deeper (envOf qual scope L f cdv)) (call (.ref 113) [.ref x, .ref y]) Q E s := new_K F N (intersection_code (k := k) (C.inner B F hk) Ti S S') h
theorem difference_code (C : Cx w A base frs mean mg mb s.heap (k + 5)) (Ti : TupIn ti s.heap) (S : SetIs prog w ti s.heap x dx d l) (S' : SetIs prog w ti s.heap y dy c l')
    (hR : ∀ h' tk z dz e, Chg [] s.heap h' → Fresh s.heap [z, dz, e] → SetIs prog w ti h' z dz e (difL l l') → R (.ok (.ret (.ref z))) { s with heap := h', toks := tk }) :
    codeAny (model prog w) A (.call (.ref 120) ⟨[.ref x, .ref y], []⟩) R s := by
  refine enter0 C Ti (by k_is) (by k_is) (BindsTo.of_eq rfl) (locs rfl) fun g L h₁ hg Tg F N B X T => ?_
  obtain ⟨t, n, ep, es, Rx⟩ := S.reads hg (by simp)
  obtain ⟨t2, n2, ep2, es2, Ry⟩ := S'.reads hg (by simp)
  dsimp only
  k_steps
  exact new_R (s := s) hg (by assumption) (by assumption) (by assumption) hR
theorem difference_K (C : Cx w A base frs mean mg mb h₀ (k + 5 + 1)) (B : Below A base frs g) (F : Fr g L s.heap m) (N : News g L s.heap news) (Ti : TupIn ti s.heap) (S : SetIs prog w ti s.heap x dx d l) (S' : SetIs prog w ti s.heap y dy e l')
    (h : ∀ h' x dx d t n es ep tk, Fr g L h' m → News g L h' ((x, instObj 275 dx) :: (dx, setAttrs w t n d) :: (d, dictOf es ep) :: news) → (∀ p ∈ news, @Ne Nat p.1 x ∧ @Ne Nat p.1 dx ∧ @Ne Nat p.1 d) → @Ne Nat x dx → @Ne Nat x d → @Ne Nat dx d →
      Bears prog w ti d es (difL l l') → Q (.ref x) { s with heap := h', toks := tk }) (hk : scope.kind = .function := by rfl) :
    wpAny (model prog w) (A.deeper (envOf qual scope L f cdv)) (call (.ref 120) [.ref x, .ref y]) Q E s := new_K F N (difference_code (k := k) (C.inner B F hk) Ti S S') h
end
end
end Mine
namespace Mine
open PySem PySem.W PySem.Calls PyProof.Rows
set_option hygiene false in
local macro_rules | `(tactic| k_inst) => `(tactic| (refine' InstAt.of_g ?F ?a ?b; (case F => k_asm); (case a => first | assumption | exact Reads1.gx (by assumption)); (case b => first | assumption | exact Reads1.gdx (by assumption))))
set_option hygiene false in
local macro_rules | `(tactic| k_units) => `(tactic| exact Room.units (Room.deeper (Cx.room (by assumption))))
set_option hygiene false in
local macro_rules | `(tactic| walk_at "compareOp NotIn") => `(tactic| (k_here; (with_reducible show wpAny _ _ (compareOp CmpOp.NotIn _ (Value.ref _)) _ _ _); refine' notIn_K ?T ?m ?B ?v ?u ?_; (case T => exact TupIn.up (by assumption) (by k_asm)); (case m => first | exact News.get (by k_asm) (by k_mem) | exact Fr.keep (by k_asm) _ _ (Reads1.gd (by assumption))); (case B => first | assumption | exact Reads1.bd (by assumption)); (case v => assumption); (case u => k_units); intro tk'))
set_option hygiene false in
local macro_rules | `(tactic| walk_at "compareOp In") => `(tactic| (k_here; (with_reducible show wpAny _ _ (compareOp CmpOp.In _ (Value.ref _)) _ _ _); refine' in_K' ?T ?m ?B ?v ?u ?_; (case T => exact TupIn.up (by assumption) (by k_asm)); (case m => first | exact News.get (by k_asm) (by k_mem) | exact Fr.keep (by k_asm) _ _ (Reads1.gd (by assumption))); (case B => first | assumption | exact Reads1.bd (by assumption)); (case v => assumption); (case u => k_units); intro tk'))
set_option hygiene false in
local macro_rules | `(tactic| walk_at "setItem ref") => `(tactic| (k_here; (with_reducible show wpAny _ _ (setItem (Value.ref _) _ Value.none) _ _ _); refine' setItem_K' ?T ?F ?N ?U ?x ?v ?u ?_; (case T => exact TupIn.up (by assumption) (by k_asm)); (case F => k_asm); (case N => k_asm); (case U => k_updF); (case x => assumption); (case v => assumption); (case u => k_units); intro h' es' n' tk' F' N' x'; (try dsimp only at N'); (try k_sweep)))
set_option hygiene false in
local macro_rules | `(tactic| walk_at "call builtin:dict.pop") => `(tactic| (k_here; (with_reducible show wpAny _ _ (call (Value.builtin "dict.pop") [Value.ref _, _, Value.none]) _ _ _); refine' pop_K' ?T ?F ?N ?U ?x ?v ?u ?_; (case T => exact TupIn.up (by assumption) (by k_asm)); (case F => k_asm); (case N => k_asm); (case U => k_updF); (case x => assumption); (case v => assumption); (case u => k_units); intro h' es' n' tk' F' N' x'; (try dsimp only at N'); (try k_sweep)))
set_option hygiene false in
local macro_rules | `(tactic| walk_at "call builtin:dict.clear") => `(tactic| (k_here; (with_reducible show wpAny _ _ (call (Value.builtin "dict.clear") [Value.ref _]) _ _ _); refine' clear_K' ?T ?F ?N ?U ?x ?_; (case T => exact TupIn.up (by assumption) (by k_asm)); (case F => k_asm); (case N => k_asm); (case U => k_updF); (case x => assumption); intro h' es' n' F' N' x'; (try dsimp only at N'); (try k_sweep)))
set_option hygiene false in
local macro_rules | `(tactic| walk_at "getMethod ref") => `(tactic| (k_here; (with_reducible show wpAny _ _ (getMethod (Value.ref _) (PySem.Str.ofString "pop") _) _ _ _); refine' dictMethod_M ?m PySem.F.slot_dict_pop PySem.F.type_dict_pop ?_; (case m => first | exact News.get (by k_asm) (by k_mem) | exact Fr.keep (by k_asm) _ _ (Reads1.gd (by assumption)))))
set_option hygiene false in
local macro_rules | `(tactic| walk_at "getMethod ref") => `(tactic| (k_here; (with_reducible show wpAny _ _ (getMethod (Value.ref _) (PySem.Str.ofString "popitem") _) _ _ _); refine' dictMethod_M ?m PySem.F.slot_dict_popitem PySem.F.type_dict_popitem ?_; (case m => first | exact News.get (by k_asm) (by k_mem) | exact Fr.keep (by k_asm) _ _ (Reads1.gd (by assumption)))))
set_option hygiene false in
local macro_rules | `(tactic| walk_at "getMethod ref") => `(tactic| (k_here; (with_reducible show wpAny _ _ (getMethod (Value.ref _) (PySem.Str.ofString "clear") _) _ _ _); refine' dictMethod_M ?m PySem.F.slot_dict_clear PySem.F.type_dict_clear ?_; (case m => first | exact News.get (by k_asm) (by k_mem) | exact Fr.keep (by k_asm) _ _ (Reads1.gd (by assumption)))))
set_option hygiene false in
local macro_rules | `(tactic| walk_at "call type:dict nil nil") => `(tactic| (k_here; refine' newDict_M ?F ?N ?T ?_; (case F => k_asm); (case N => k_asm); (case T => exact (by assumption : Top _ _ _ _ _ _).nolimit); intro d' h' F' N' l1 l2 lo'; (try k_lt l1); (try k_sweep)))
set_option hygiene false in
local macro_rules | `(tactic| walk_at "call ref") => `(tactic| (k_here; (with_reducible show wpAny _ _ (call (Value.ref 275) _ _) _ _ _); (try dsimp only [List.nil_append, List.cons_append]); refine' new0_K ?C ?B ?T ?X ?F ?N ?_; (case T => exact TupIn.up (by assumption) (by k_asm)); (case C => assumption); (case B => assumption); (case X => assumption); (case F => k_asm); (case N => k_asm); intro h' x' dx' d' t' n' ep' tk' F' N' off' e1' e2' e3' Bd'; (try simp only [List.mem_cons, List.not_mem_nil, or_false, forall_eq_or_imp, forall_eq, false_implies, implies_true] at off'); (try k_sweep)))
set_option hygiene false in
local macro_rules | `(tactic| walk_at "call ref") => `(tactic| (k_here; (with_reducible show wpAny _ _ (call (Value.ref 36) _ _) _ _ _); (try dsimp only [List.nil_append, List.cons_append]); refine' add_K ?C ?B ?F ?N ?U ?T ?x ?dx ?b ?v ?_; (case C => assumption); (case B => assumption); (case F => k_asm); (case N => k_asm); (case x => first | exact News.get (by k_asm) (by k_mem) | exact Fr.keep (by k_asm) _ _ (by assumption)); (case dx => first | exact News.get (by k_asm) (by k_mem) | exact Fr.keep (by k_asm) _ _ (by assumption)); (case U => k_updF); (case T => exact TupIn.up (by assumption) (by k_asm)); (case b => assumption); (case v => assumption); intro h' es' n' tk' F' N' x'; (try dsimp only at N'); (try k_sweep)))
set_option hygiene false in
local macro_rules | `(tactic| walk_at "call builtin:iter") => `(tactic| (k_here; (with_reducible show wpAny _ _ (call (Value.builtin "iter") [Value.ref _]) _ _ _); refine' iter_M ?F ?N ?m ?l ?_; (case F => k_asm); (case N => k_asm); (case m => first | exact News.get (by k_asm) (by k_mem) | exact Fr.keep (by k_asm) _ _ (Reads1.gd (by assumption))); (case l => first | exact Bears.lo (by assumption) | exact Bears.lo (Reads1.bd (by assumption))); intro I' h' F' N' off'; (try k_sweep)))
set_option hygiene false in
local macro_rules | `(tactic| walk_at "exec For Name Name cons nil") => `(tactic| (k_here; (with_reducible rename Fr _ _ _ _ => lF'); (with_unfolding_all refine' For_invVF lF' ?k1 ?k2 ?_; (case k1 => exact rfl); (case k2 => exact rfl); k_whole)))
set_option hygiene false in
local macro_rules | `(tactic| walk_at "compareOp Is ref ref") => `(tactic| (k_here; first | with_reducible refine is_self_M ?_ | (refine' is_other_M ?n ?x ?y ?_; (case n => first | assumption | exact Ne.symm (by assumption)); (case x => first | exact News.get (by k_asm) (by k_mem) | exact Fr.keep (by k_asm) _ _ (by first | assumption | exact Reads1.gx (by assumption))); (case y => first | exact News.get (by k_asm) (by k_mem) | exact Fr.keep (by k_asm) _ _ (by first | assumption | exact Reads1.gx (by assumption))))))
set_option hygiene false in
local macro_rules | `(tactic| walk_at "call ref") => `(tactic| (k_here; (with_reducible show wpAny _ _ (call (Value.ref 50) _ _) _ _ _); (try dsimp only [List.nil_append, List.cons_append]); refine' discard_K ?C ?B ?F ?N ?U ?T ?x ?dx ?b ?v ?_; (case C => assumption); (case B => assumption); (case F => k_asm); (case N => k_asm); (case x => first | exact News.get (by k_asm) (by k_mem) | exact Fr.keep (by k_asm) _ _ (by assumption)); (case dx => first | exact News.get (by k_asm) (by k_mem) | exact Fr.keep (by k_asm) _ _ (by assumption)); (case U => k_updF); (case T => exact TupIn.up (by assumption) (by k_asm)); (case b => assumption); (case v => assumption); intro h' es' n' tk' F' N' x'; (try dsimp only at N'); (try k_sweep)))
set_option hygiene false in
local macro_rules | `(tactic| walk_at "compareOp NotIn") => `(tactic| (k_here; (with_reducible show wpAny _ _ (compareOp CmpOp.NotIn _ (Value.ref _)) _ _ _); refine' notIn_set ?C ?B ?X ?T ?F ?N ?Rx ?v ?_; (case Rx => assumption); (case C => assumption); (case B => assumption); (case X => assumption); (case T => assumption); (case F => k_asm); (case N => k_asm); (case v => assumption); intro h' tk' F' N'; (try k_sweep)))
set_option hygiene false in
local macro_rules | `(tactic| walk_at "delItem ref") => `(tactic| (k_here; (with_reducible show wpAny _ _ (delItem (Value.ref _) _) _ _ _); refine' delItem_K' ?hh ?T ?F ?N ?U ?x ?v ?u (fun hk => absurd ?m hk) ?_; (case hh => (rename Cx _ _ _ _ _ _ _ _ _ => cX; exact cX.handled)); (case T => exact TupIn.up (by assumption) (by k_asm)); (case F => k_asm); (case N => k_asm); (case U => k_updF); (case x => assumption); (case v => assumption); (case u => k_units); (case m => assumption); intro hk h' es' n' tk' F' N' x'; (try dsimp only at N'); (try k_sweep)))
set_option hygiene false in
local macro_rules | `(tactic| walk_at "call type:list") => `(tactic| (k_here; (with_reducible show wpAny _ _ (call (Value.type _) [Value.ref _]) _ _ _); refine' listM_K ?hh ?F ?N ?m ?B ?_; (case hh => (rename Cx _ _ _ _ _ _ _ _ _ => cX; exact cX.handled)); (case F => k_asm); (case N => k_asm); (case m => first | exact News.get (by k_asm) (by k_mem) | exact Fr.keep (by k_asm) _ _ (Reads1.gd (by assumption))); (case B => first | assumption | exact Reads1.bd (by assumption)); intro D' c' h' tk' F' N' l1; (try k_lt l1); (try k_sweep)))
set_option hygiene false in
local macro_rules | `(tactic| walk_at "delItem ref") => `(tactic| (k_here; (with_reducible show wpAny _ _ (delItem (Value.ref _) _) _ _ _); refine' delItem_K' ?hh ?T ?F ?N ?U ?x ?v ?u ?_ (fun hk => absurd hk ?m); (case hh => (rename Cx _ _ _ _ _ _ _ _ _ => cX; exact cX.handled)); (case T => exact TupIn.up (by assumption) (by k_asm)); (case F => k_asm); (case N => k_asm); (case U => k_updF); (case x => assumption); (case v => assumption); (case u => k_units); (case m => assumption); intro hk h' e' tk' NE'))
set_option hygiene false in
local macro_rules | `(tactic| walk_at "call ref") => `(tactic| (k_here; (with_reducible show wpAny _ _ (call (Value.ref 64) _ _) _ _ _); (try dsimp only [List.nil_append, List.cons_append]); refine' clone_K ?C ?B ?F ?N ?T ?S ?_; (case C => assumption); (case B => assumption); (case F => k_asm); (case N => k_asm); (case T => exact TupIn.up (by assumption) (by k_asm)); (case S => first | exact Reads1.set1 (by assumption) (by k_asm) | exact setIs_new (by k_asm) (by k_mem) (by k_mem) (by k_mem) (by assumption) | exact setIs_of (by k_asm) (by k_asm) (by assumption) (by assumption) (by k_mem) (by assumption)); intro h' x' dx' d' t' n' es' ep' tk' F' N' off' e1' e2' e3' Bd'; (try simp only [List.mem_cons, List.not_mem_nil, or_false, forall_eq_or_imp, forall_eq, false_implies, implies_true] at off'); (try k_sweep)))
set_option hygiene false in
local macro_rules | `(tactic| walk_at "call ref") => `(tactic| (k_here; (with_reducible show wpAny _ _ (call (Value.ref 78) _ _) _ _ _); (try dsimp only [List.nil_append, List.cons_append]); refine' union_update_K ?C ?B ?F ?N ?U ?T ?x ?dx ?b ?S' ?ne ?nd ?_; (case C => assumption); (case B => assumption); (case F => k_asm); (case N => k_asm); (case T => exact TupIn.up (by assumption) (by k_asm)); (case x => first | exact News.get (by k_asm) (by k_mem) | exact Fr.keep (by k_asm) _ _ (by assumption)); (case dx => first | exact News.get (by k_asm) (by k_mem) | exact Fr.keep (by k_asm) _ _ (by assumption)); (case U => k_updF); (case b => assumption); (case S' => first | exact Reads1.set1 (by assumption) (by k_asm) | exact setIs_new (by k_asm) (by k_mem) (by k_mem) (by k_mem) (by assumption) | exact setIs_of (by k_asm) (by k_asm) (by assumption) (by assumption) (by k_mem) (by assumption)); (case ne => first | assumption | exact ne_ng (by k_asm) (by k_mem) (Reads1.gx (by assumption)) | exact ne_ng (by k_asm) (by k_mem) (by assumption) | exact Ne.symm (ne_ng (by k_asm) (by k_mem) (by assumption)) | (show @Ne Nat _ _; omega)); (case nd => first | assumption | exact ne_ng (by k_asm) (by k_mem) (Reads1.gd (by assumption)) | exact ne_ng (by k_asm) (by k_mem) (by assumption) | (show @Ne Nat _ _; omega)); intro h' es' n' tk' F' N' x'; (try dsimp only at N'); (try k_sweep)))
set_option hygiene false in
local macro_rules | `(tactic| walk_at "call ref") => `(tactic| (k_here; (with_reducible show wpAny _ _ (call (Value.ref 85) _ _) _ _ _); (try dsimp only [List.nil_append, List.cons_append]); refine' intersection_update_K ?C ?B ?F ?N ?U ?T ?x ?dx ?b ?S' ?ne ?nd ?_; (case C => assumption); (case B => assumption); (case F => k_asm); (case N => k_asm); (case T => exact TupIn.up (by assumption) (by k_asm)); (case x => first | exact News.get (by k_asm) (by k_mem) | exact Fr.keep (by k_asm) _ _ (by assumption)); (case dx => first | exact News.get (by k_asm) (by k_mem) | exact Fr.keep (by k_asm) _ _ (by assumption)); (case U => k_updF); (case b => assumption); (case S' => first | exact Reads1.set1 (by assumption) (by k_asm) | exact setIs_new (by k_asm) (by k_mem) (by k_mem) (by k_mem) (by assumption) | exact setIs_of (by k_asm) (by k_asm) (by assumption) (by assumption) (by k_mem) (by assumption)); (case ne => first | assumption | exact ne_ng (by k_asm) (by k_mem) (Reads1.gx (by assumption)) | exact ne_ng (by k_asm) (by k_mem) (by assumption) | exact Ne.symm (ne_ng (by k_asm) (by k_mem) (by assumption)) | (show @Ne Nat _ _; omega)); (case nd => first | assumption | exact ne_ng (by k_asm) (by k_mem) (Reads1.gd (by assumption)) | exact ne_ng (by k_asm) (by k_mem) (by assumption) | (show @Ne Nat _ _; omega)); intro h' es' n' tk' F' N' x'; (try dsimp only at N'); (try k_sweep)))
set_option hygiene false in
local macro_rules | `(tactic| walk_at "call ref") => `(tactic| (k_here; (with_reducible show wpAny _ _ (call (Value.ref 92) _ _) _ _ _); (try dsimp only [List.nil_append, List.cons_append]); refine' difference_update_K ?C ?B ?F ?N ?U ?T ?x ?dx ?b ?S' ?ne ?nd ?_; (case C => assumption); (case B => assumption); (case F => k_asm); (case N => k_asm); (case T => exact TupIn.up (by assumption) (by k_asm)); (case x => first | exact News.get (by k_asm) (by k_mem) | exact Fr.keep (by k_asm) _ _ (by assumption)); (case dx => first | exact News.get (by k_asm) (by k_mem) | exact Fr.keep (by k_asm) _ _ (by assumption)); (case U => k_updF); (case b => assumption); (case S' => first | exact Reads1.set1 (by assumption) (by k_asm) | exact setIs_new (by k_asm) (by k_mem) (by k_mem) (by k_mem) (by assumption) | exact setIs_of (by k_asm) (by k_asm) (by assumption) (by assumption) (by k_mem) (by assumption)); (case ne => first | assumption | exact ne_ng (by k_asm) (by k_mem) (Reads1.gx (by assumption)) | exact ne_ng (by k_asm) (by k_mem) (by assumption) | exact Ne.symm (ne_ng (by k_asm) (by k_mem) (by assumption)) | (show @Ne Nat _ _; omega)); (case nd => first | assumption | exact ne_ng (by k_asm) (by k_mem) (Reads1.gd (by assumption)) | exact ne_ng (by k_asm) (by k_mem) (by assumption) | (show @Ne Nat _ _; omega)); intro h' es' n' tk' F' N' x'; (try dsimp only at N'); (try k_sweep)))
set_option hygiene false in
local macro_rules | `(tactic| walk_at "call ref") => `(tactic| (k_here; (with_reducible show wpAny _ _ (call (Value.ref 106) _ _) _ _ _); (try dsimp only [List.nil_append, List.cons_append]); refine' union_K ?C ?B ?F ?N ?T ?S ?S' ?_; (case C => assumption); (case B => assumption); (case F => k_asm); (case N => k_asm); (case T => exact TupIn.up (by assumption) (by k_asm)); (case S => first | exact Reads1.set1 (by assumption) (by k_asm) | exact setIs_new (by k_asm) (by k_mem) (by k_mem) (by k_mem) (by assumption) | exact setIs_of (by k_asm) (by k_asm) (by assumption) (by assumption) (by k_mem) (by assumption)); (case S' => first | exact Reads1.set1 (by assumption) (by k_asm) | exact setIs_new (by k_asm) (by k_mem) (by k_mem) (by k_mem) (by assumption) | exact setIs_of (by k_asm) (by k_asm) (by assumption) (by assumption) (by k_mem) (by assumption)); intro h' x' dx' d' t' n' es' ep' tk' F' N' off' e1' e2' e3' Bd'; (try simp only [List.mem_cons, List.not_mem_nil, or_false, forall_eq_or_imp, forall_eq, false_implies, implies_true] at off'); (try k_sweep)))
set_option hygiene false in
local macro_rules | `(tactic| walk_at "call ref") => `(tactic| (k_here; (with_reducible show wpAny _ _ (call (Value.ref 113) _ _) _ _ _); (try dsimp only [List.nil_append, List.cons_append]); refine' intersection_K ?C ?B ?F ?N ?T ?S ?S' ?_; (case C => assumption); (case B => assumption); (case F => k_asm); (case N => k_asm); (case T => exact TupIn.up (by assumption) (by k_asm)); (case S => first | exact Reads1.set1 (by assumption) (by k_asm) | exact setIs_new (by k_asm) (by k_mem) (by k_mem) (by k_mem) (by assumption) | exact setIs_of (by k_asm) (by k_asm) (by assumption) (by assumption) (by k_mem) (by assumption)); (case S' => first | exact Reads1.set1 (by assumption) (by k_asm) | exact setIs_new (by k_asm) (by k_mem) (by k_mem) (by k_mem) (by assumption) | exact setIs_of (by k_asm) (by k_asm) (by assumption) (by assumption) (by k_mem) (by assumption)); intro h' x' dx' d' t' n' es' ep' tk' F' N' off' e1' e2' e3' Bd'; (try simp only [List.mem_cons, List.not_mem_nil, or_false, forall_eq_or_imp, forall_eq, false_implies, implies_true] at off'); (try k_sweep)))
set_option hygiene false in
local macro_rules | `(tactic| walk_at "call ref") => `(tactic| (k_here; (with_reducible show wpAny _ _ (call (Value.ref 120) _ _) _ _ _); (try dsimp only [List.nil_append, List.cons_append]); refine' difference_K ?C ?B ?F ?N ?T ?S ?S' ?_; (case C => assumption); (case B => assumption); (case F => k_asm); (case N => k_asm); (case T => exact TupIn.up (by assumption) (by k_asm)); (case S => first | exact Reads1.set1 (by assumption) (by k_asm) | exact setIs_new (by k_asm) (by k_mem) (by k_mem) (by k_mem) (by assumption) | exact setIs_of (by k_asm) (by k_asm) (by assumption) (by assumption) (by k_mem) (by assumption)); (case S' => first | exact Reads1.set1 (by assumption) (by k_asm) | exact setIs_new (by k_asm) (by k_mem) (by k_mem) (by k_mem) (by assumption) | exact setIs_of (by k_asm) (by k_asm) (by assumption) (by assumption) (by k_mem) (by assumption)); intro h' x' dx' d' t' n' es' ep' tk' F' N' off' e1' e2' e3' Bd'; (try simp only [List.mem_cons, List.not_mem_nil, or_false, forall_eq_or_imp, forall_eq, false_implies, implies_true] at off'); (try k_sweep)))
section
open PySem PySem.W PySem.Calls PyProof.Rows
theorem offF10 : True := by
  w_top off
  trivial
section
variable {prog : Program} {w : World} {A : Around} {E : Value → Shared → Prop} {base ti g h h' h₀ : Heap} {frs : List Env} {mean : ExcName → Option Value} {mg mb : Str → Option Value} {s : Shared} {k : Nat}
  {x dx d y dy e f L z dz c : Addr} {l l' l'' : List (Fin 9)} {v : Value} {i : Fin 9} {R : Result → Shared → Prop} {m : Str → Option Value} {news : List (Addr × Obj)} {u : Obj → List (Addr × Obj)} {es : List DictEntry} {n n₁ t ep : Nat}
  {qual : Str} {scope : Scope} {cdv : Value} {Q : Value → Shared → Prop}
theorem symmetric_difference_update_code (C : Cx w A base frs mean mg mb s.heap (k + 6)) (Ti : TupIn ti s.heap) (S : SetIs prog w ti s.heap x dx d l) (O : Own base frs d) (S' : SetIs prog w ti s.heap y dy e l') (hxy : x ≠ y) (hde : d ≠ e)
    (hR : ∀ h' tk, Chg [d] s.heap h' → SetIs prog w ti h' x dx d (symL l l') → R (.ok (.ret .none)) { s with heap := h', toks := tk }) :
    codeAny (model prog w) A (.call (.ref 99) ⟨[.ref x, .ref y], []⟩) R s := by
  refine enter1 C Ti S O (by k_is) (by k_is) (BindsTo.of_eq rfl) (locs rfl) fun g L h₁ t n es ep hg Tg gx gdx Bd F N B X T => ?_
  obtain ⟨t2, n2, ep2, es2, Rx⟩ := S'.reads hg (fun b hb => by rw [List.mem_singleton.mp hb]; exact ⟨(S.off S').1.symm, (S.off S').2.symm, hde⟩)
  dsimp only
  k_steps
  rename News _ _ _ _ => N2
  rename Fr _ _ _ _ => F2
  rename Bears _ _ _ d _ _ => B2
  rw [sym_eq] at B2
  exact hR _ _ (chg_of hg F2) (setIs_of F2 N2 gx gdx (by k_mem) B2)
theorem symmetric_difference_update_K (C : Cx w A base frs mean mg mb h₀ (k + 6 + 1)) (B : Below A base frs g) (F : Fr g L s.heap m) (N : News g L s.heap news) (U : UpdF d (dictOf es n) news u) (Ti : TupIn ti s.heap)
    (hx : s.heap.get? x = some (instObj 275 dx)) (hdx : s.heap.get? dx = some (setAttrs w t n₁ d)) (Bd : Bears prog w ti d es l) (S' : SetIs prog w ti s.heap y dy e l') (hxy : x ≠ y) (hde : d ≠ e)
    (h : ∀ h' es' n' tk, Fr g L h' m → News g L h' (u (dictOf es' n')) → Bears prog w ti d es' (symL l l') → Q .none { s with heap := h', toks := tk }) (hk : scope.kind = .function := by rfl) :
    wpAny (model prog w) (A.deeper (envOf qual scope L f cdv)) (call (.ref 99) [.ref x, .ref y]) Q E s :=
  upd_K F N U (symmetric_difference_update_code (k := k) (C.inner B F hk) Ti ⟨hx, ⟨_, _, hdx⟩, _, _, N.get (upd_mem U), Bd⟩ (Own.of_news B N (upd_mem U)) S' hxy hde) h
end
end
set_option hygiene false in
local macro_rules | `(tactic| walk_at "call ref") => `(tactic| (k_here; (with_reducible show wpAny _ _ (call (Value.ref 99) _ _) _ _ _); (try dsimp only [List.nil_append, List.cons_append]); refine' symmetric_difference_update_K ?C ?B ?F ?N ?U ?T ?x ?dx ?b ?S' ?ne ?nd ?_; (case C => assumption); (case B => assumption); (case F => k_asm); (case N => k_asm); (case T => exact TupIn.up (by assumption) (by k_asm)); (case x => first | exact News.get (by k_asm) (by k_mem) | exact Fr.keep (by k_asm) _ _ (by assumption)); (case dx => first | exact News.get (by k_asm) (by k_mem) | exact Fr.keep (by k_asm) _ _ (by assumption)); (case U => k_updF); (case b => assumption); (case S' => first | exact Reads1.set1 (by assumption) (by k_asm) | exact setIs_new (by k_asm) (by k_mem) (by k_mem) (by k_mem) (by assumption) | exact setIs_of (by k_asm) (by k_asm) (by assumption) (by assumption) (by k_mem) (by assumption)); (case ne => first | assumption | exact ne_ng (by k_asm) (by k_mem) (Reads1.gx (by assumption)) | exact ne_ng (by k_asm) (by k_mem) (by assumption) | exact Ne.symm (ne_ng (by k_asm) (by k_mem) (by assumption)) | (show @Ne Nat _ _; omega)); (case nd => first | assumption | exact ne_ng (by k_asm) (by k_mem) (Reads1.gd (by assumption)) | exact ne_ng (by k_asm) (by k_mem) (by assumption) | (show @Ne Nat _ _; omega)); intro h' es' n' tk' F' N' x'; (try dsimp only at N'); (try k_sweep)))
section
open PySem PySem.W PySem.Calls PyProof.Rows
theorem offF11 : True := by
  w_top off
  trivial
section
variable {prog : Program} {w : World} {A : Around} {E : Value → Shared → Prop} {base ti g h h' h₀ : Heap} {frs : List Env} {mean : ExcName → Option Value} {mg mb : Str → Option Value} {s : Shared} {k : Nat}
  {x dx d y dy e f L z dz c : Addr} {l l' l'' : List (Fin 9)} {v : Value} {i : Fin 9} {R : Result → Shared → Prop} {m : Str → Option Value} {news : List (Addr × Obj)} {u : Obj → List (Addr × Obj)} {es : List DictEntry} {n n₁ t ep : Nat}
  {qual : Str} {scope : Scope} {cdv : Value} {Q : Value → Shared → Prop}
theorem symmetric_difference_code (C : Cx w A base frs mean mg mb s.heap (k + 7)) (Ti : TupIn ti s.heap) (S : SetIs prog w ti s.heap x dx d l) (S' : SetIs prog w ti s.heap y dy c l')
    (hR : ∀ h' tk z dz e, Chg [] s.heap h' → Fresh s.heap [z, dz, e] → SetIs prog w ti h' z dz e (symL l l') → R (.ok (.ret (.ref z))) { s with heap := h', toks := tk }) :
    codeAny (model prog w) A (.call (.ref 127) ⟨[.ref x, .ref y], []⟩) R s := by
  refine enter0 C Ti (by k_is) (by k_is) (BindsTo.of_eq rfl) (locs rfl) fun g L h₁ hg Tg F N B X T => ?_
  obtain ⟨t, n, ep, es, Rx⟩ := S.reads hg (by simp)
  obtain ⟨t2, n2, ep2, es2, Ry⟩ := S'.reads hg (by simp)
  dsimp only
  k_steps
  exact new_R (s := s) hg (by assumption) (by assumption) (by assumption) hR
theorem symmetric_difference_K (C : Cx w A base frs mean mg mb h₀ (k + 7 + 1)) (B : Below A base frs g) (F : Fr g L s.heap m) (N : News g L s.heap news) (Ti : TupIn ti s.heap) (S : SetIs prog w ti s.heap x dx d l) (S' : SetIs prog w ti s.heap y dy e l')
    (h : ∀ h' x dx d t n es ep tk, Fr g L h' m → News g L h' ((x, instObj 275 dx) :: (dx, setAttrs w t n d) :: (d, dictOf es ep) :: news) → (∀ p ∈ news, @Ne Nat p.1 x ∧ @Ne Nat p.1 dx ∧ @Ne Nat p.1 d) → @Ne Nat x dx → @Ne Nat x d → @Ne Nat dx d →
      Bears prog w ti d es (symL l l') → Q (.ref x) { s with heap := h', toks := tk }) (hk : scope.kind = .function := by rfl) :
    wpAny (model prog w) (A.deeper (envOf qual scope L f cdv)) (call (.ref 127) [.ref x, .ref y]) Q E s := new_K F N (symmetric_difference_code (k := k) (C.inner B F hk) Ti S S') h
end
end
set_option hygiene false in
local macro_rules | `(tactic| walk_at "call ref") => `(tactic| (k_here; (with_reducible show wpAny _ _ (call (Value.ref 127) _ _) _ _ _); (try dsimp only [List.nil_append, List.cons_append]); refine' symmetric_difference_K ?C ?B ?F ?N ?T ?S ?S' ?_; (case C => assumption); (case B => assumption); (case F => k_asm); (case N => k_asm); (case T => exact TupIn.up (by assumption) (by k_asm)); (case S => first | exact Reads1.set1 (by assumption) (by k_asm) | exact setIs_new (by k_asm) (by k_mem) (by k_mem) (by k_mem) (by assumption) | exact setIs_of (by k_asm) (by k_asm) (by assumption) (by assumption) (by k_mem) (by assumption)); (case S' => first | exact Reads1.set1 (by assumption) (by k_asm) | exact setIs_new (by k_asm) (by k_mem) (by k_mem) (by k_mem) (by assumption) | exact setIs_of (by k_asm) (by k_asm) (by assumption) (by assumption) (by k_mem) (by assumption)); intro h' x' dx' d' t' n' es' ep' tk' F' N' off' e1' e2' e3' Bd'; (try simp only [List.mem_cons, List.not_mem_nil, or_false, forall_eq_or_imp, forall_eq, false_implies, implies_true] at off'); (try k_sweep)))
section
open PySem PySem.W PySem.Calls PyProof.Rows
theorem offF12 : True := by
  w_top off
  trivial
section
variable {prog : Program} {w : World} {A : Around} {E : Value → Shared → Prop} {base ti g h h' h₀ : Heap} {frs : List Env} {mean : ExcName → Option Value} {mg mb : Str → Option Value} {s : Shared} {k : Nat}
  {x dx d y dy e f L z dz c : Addr} {l l' l'' : List (Fin 9)} {v : Value} {i : Fin 9} {R : Result → Shared → Prop} {m : Str → Option Value} {news : List (Addr × Obj)} {u : Obj → List (Addr × Obj)} {es : List DictEntry} {n n₁ t ep : Nat}
  {qual : Str} {scope : Scope} {cdv : Value} {Q : Value → Shared → Prop}
theorem or_code (C : Cx w A base frs mean mg mb s.heap (k + 8)) (Ti : TupIn ti s.heap) (S : SetIs prog w ti s.heap x dx d l) (S' : SetIs prog w ti s.heap y dy c l')
    (hR : ∀ h' tk z dz e, Chg [] s.heap h' → Fresh s.heap [z, dz, e] → SetIs prog w ti h' z dz e (uniL l l') → R (.ok (.ret (.ref z))) { s with heap := h', toks := tk }) :
    codeAny (model prog w) A (.call (.ref 134) ⟨[.ref x, .ref y], []⟩) R s := by
  refine enter0 C Ti (by k_is) (by k_is) (BindsTo.of_eq rfl) (locs rfl) fun g L h₁ hg Tg F N B X T => ?_
  obtain ⟨t, n, ep, es, Rx⟩ := S.reads hg (by simp)
  obtain ⟨t2, n2, ep2, es2, Ry⟩ := S'.reads hg (by simp)
  dsimp only
  k_steps
  exact new_R (s := s) hg (by assumption) (by assumption) (by assumption) hR
theorem and_code (C : Cx w A base frs mean mg mb s.heap (k + 8)) (Ti : TupIn ti s.heap) (S : SetIs prog w ti s.heap x dx d l) (S' : SetIs prog w ti s.heap y dy c l')
    (hR : ∀ h' tk z dz e, Chg [] s.heap h' → Fresh s.heap [z, dz, e] → SetIs prog w ti h' z dz e (intL l l') → R (.ok (.ret (.ref z))) { s with heap := h', toks := tk }) :
    codeAny (model prog w) A (.call (.ref 141) ⟨[.ref x, .ref y], []⟩) R s := by
  refine enter0 C Ti (by k_is) (by k_is) (BindsTo.of_eq rfl) (locs rfl) fun g L h₁ hg Tg F N B X T => ?_
  obtain ⟨t, n, ep, es, Rx⟩ := S.reads hg (by simp)
  obtain ⟨t2, n2, ep2, es2, Ry⟩ := S'.reads hg (by simp)
  dsimp only
  k_steps
  exact new_R (s := s) hg (by assumption) (by assumption) (by assumption) hR
theorem plus_code (C : Cx w A base frs mean mg mb s.heap (k + 8)) (Ti : TupIn ti s.heap) (S : SetIs prog w ti s.heap x dx d l) (S' : SetIs prog w ti s.heap y dy c l')
    (hR : ∀ h' tk z dz e, Chg [] s.heap h' → Fresh s.heap [z, dz, e] → SetIs prog w ti h' z dz e (uniL l l') → R (.ok (.ret (.ref z))) { s with heap := h', toks := tk }) :
    codeAny (model prog w) A (.call (.ref 148) ⟨[.ref x, .ref y], []⟩) R s := by
  refine enter0 C Ti (by k_is) (by k_is) (BindsTo.of_eq rfl) (locs rfl) fun g L h₁ hg Tg F N B X T => ?_
  obtain ⟨t, n, ep, es, Rx⟩ := S.reads hg (by simp)
  obtain ⟨t2, n2, ep2, es2, Ry⟩ := S'.reads hg (by simp)
  dsimp only
  k_steps
  exact new_R (s := s) hg (by assumption) (by assumption) (by assumption) hR
theorem minus_code (C : Cx w A base frs mean mg mb s.heap (k + 8)) (Ti : TupIn ti s.heap) (S : SetIs prog w ti s.heap x dx d l) (S' : SetIs prog w ti s.heap y dy c l')
    (hR : ∀ h' tk z dz e, Chg [] s.heap h' → Fresh s.heap [z, dz, e] → SetIs prog w ti h' z dz e (difL l l') → R (.ok (.ret (.ref z))) { s with heap := h', toks := tk }) :
    codeAny (model prog w) A (.call (.ref 155) ⟨[.ref x, .ref y], []⟩) R s := by
  refine enter0 C Ti (by k_is) (by k_is) (BindsTo.of_eq rfl) (locs rfl) fun g L h₁ hg Tg F N B X T => ?_
  obtain ⟨t, n, ep, es, Rx⟩ := S.reads hg (by simp)
  obtain ⟨t2, n2, ep2, es2, Ry⟩ := S'.reads hg (by simp)
  dsimp only
  k_steps
  exact new_R (s := s) hg (by assumption) (by assumption) (by assumption) hR
theorem xor_code (C : Cx w A base frs mean mg mb s.heap (k + 8)) (Ti : TupIn ti s.heap) (S : SetIs prog w ti s.heap x dx d l) (S' : SetIs prog w ti s.heap y dy c l')
    (hR : ∀ h' tk z dz e, Chg [] s.heap h' → Fresh s.heap [z, dz, e] → SetIs prog w ti h' z dz e (symL l l') → R (.ok (.ret (.ref z))) { s with heap := h', toks := tk }) :
    codeAny (model prog w) A (.call (.ref 162) ⟨[.ref x, .ref y], []⟩) R s := by
  refine enter0 C Ti (by k_is) (by k_is) (BindsTo.of_eq rfl) (locs rfl) fun g L h₁ hg Tg F N B X T => ?_
  obtain ⟨t, n, ep, es, Rx⟩ := S.reads hg (by simp)
  obtain ⟨t2, n2, ep2, es2, Ry⟩ := S'.reads hg (by simp)
  dsimp only
  k_steps
  exact new_R (s := s) hg (by assumption) (by assumption) (by assumption) hR
end
end
section
open PySem PySem.W PySem.Calls PyProof.Rows
theorem offF13 : True := by
  w_top off
  trivial
section
variable {prog : Program} {w : World} {A : Around} {E : Value → Shared → Prop} {base ti g h h' h₀ : Heap} {frs : List Env} {mean : ExcName → Option Value} {mg mb : Str → Option Value} {s : Shared} {k : Nat}
  {x dx d y dy e f L z dz c : Addr} {l l' l'' : List (Fin 9)} {v : Value} {i : Fin 9} {R : Result → Shared → Prop} {m : Str → Option Value} {news : List (Addr × Obj)} {u : Obj → List (Addr × Obj)} {es : List DictEntry} {n n₁ t ep : Nat}
  {qual : Str} {scope : Scope} {cdv : Value} {Q : Value → Shared → Prop}
theorem ior_code (C : Cx w A base frs mean mg mb s.heap (k + 7)) (Ti : TupIn ti s.heap) (S : SetIs prog w ti s.heap x dx d l) (O : Own base frs d) (S' : SetIs prog w ti s.heap y dy e l') (hxy : x ≠ y) (hde : d ≠ e)
    (hR : ∀ h' tk, Chg [d] s.heap h' → SetIs prog w ti h' x dx d (uniL l l') → R (.ok (.ret (.ref x))) { s with heap := h', toks := tk }) :
    codeAny (model prog w) A (.call (.ref 169) ⟨[.ref x, .ref y], []⟩) R s := by
  refine enter1 C Ti S O (by k_is) (by k_is) (BindsTo.of_eq rfl) (locs rfl) fun g L h₁ t n es ep hg Tg gx gdx Bd F N B X T => ?_
  obtain ⟨t2, n2, ep2, es2, Rx⟩ := S'.reads hg (fun b hb => by rw [List.mem_singleton.mp hb]; exact ⟨(S.off S').1.symm, (S.off S').2.symm, hde⟩)
  dsimp only
  k_steps
  rename News _ _ _ _ => N2
  rename Fr _ _ _ _ => F2
  exact hR _ _ (chg_of hg F2) (setIs_of F2 N2 gx gdx (by k_mem) (by assumption))
theorem iand_code (C : Cx w A base frs mean mg mb s.heap (k + 7)) (Ti : TupIn ti s.heap) (S : SetIs prog w ti s.heap x dx d l) (O : Own base frs d) (S' : SetIs prog w ti s.heap y dy e l') (hxy : x ≠ y) (hde : d ≠ e)
    (hR : ∀ h' tk, Chg [d] s.heap h' → SetIs prog w ti h' x dx d (intL l l') → R (.ok (.ret (.ref x))) { s with heap := h', toks := tk }) :
    codeAny (model prog w) A (.call (.ref 176) ⟨[.ref x, .ref y], []⟩) R s := by
  refine enter1 C Ti S O (by k_is) (by k_is) (BindsTo.of_eq rfl) (locs rfl) fun g L h₁ t n es ep hg Tg gx gdx Bd F N B X T => ?_
  obtain ⟨t2, n2, ep2, es2, Rx⟩ := S'.reads hg (fun b hb => by rw [List.mem_singleton.mp hb]; exact ⟨(S.off S').1.symm, (S.off S').2.symm, hde⟩)
  dsimp only
  k_steps
  rename News _ _ _ _ => N2
  rename Fr _ _ _ _ => F2
  exact hR _ _ (chg_of hg F2) (setIs_of F2 N2 gx gdx (by k_mem) (by assumption))
theorem iminus_code (C : Cx w A base frs mean mg mb s.heap (k + 7)) (Ti : TupIn ti s.heap) (S : SetIs prog w ti s.heap x dx d l) (O : Own base frs d) (S' : SetIs prog w ti s.heap y dy e l') (hxy : x ≠ y) (hde : d ≠ e)
    (hR : ∀ h' tk, Chg [d] s.heap h' → SetIs prog w ti h' x dx d (difL l l') → R (.ok (.ret (.ref x))) { s with heap := h', toks := tk }) :
    codeAny (model prog w) A (.call (.ref 190) ⟨[.ref x, .ref y], []⟩) R s := by
  refine enter1 C Ti S O (by k_is) (by k_is) (BindsTo.of_eq rfl) (locs rfl) fun g L h₁ t n es ep hg Tg gx gdx Bd F N B X T => ?_
  obtain ⟨t2, n2, ep2, es2, Rx⟩ := S'.reads hg (fun b hb => by rw [List.mem_singleton.mp hb]; exact ⟨(S.off S').1.symm, (S.off S').2.symm, hde⟩)
  dsimp only
  k_steps
  rename News _ _ _ _ => N2
  rename Fr _ _ _ _ => F2
  exact hR _ _ (chg_of hg F2) (setIs_of F2 N2 gx gdx (by k_mem) (by assumption))
theorem ixor_code (C : Cx w A base frs mean mg mb s.heap (k + 7)) (Ti : TupIn ti s.heap) (S : SetIs prog w ti s.heap x dx d l) (O : Own base frs d) (S' : SetIs prog w ti s.heap y dy e l') (hxy : x ≠ y) (hde : d ≠ e)
    (hR : ∀ h' tk, Chg [d] s.heap h' → SetIs prog w ti h' x dx d (symL l l') → R (.ok (.ret (.ref x))) { s with heap := h', toks := tk }) :
    codeAny (model prog w) A (.call (.ref 197) ⟨[.ref x, .ref y], []⟩) R s := by
  refine enter1 C Ti S O (by k_is) (by k_is) (BindsTo.of_eq rfl) (locs rfl) fun g L h₁ t n es ep hg Tg gx gdx Bd F N B X T => ?_
  obtain ⟨t2, n2, ep2, es2, Rx⟩ := S'.reads hg (fun b hb => by rw [List.mem_singleton.mp hb]; exact ⟨(S.off S').1.symm, (S.off S').2.symm, hde⟩)
  dsimp only
  k_steps
  rename News _ _ _ _ => N2
  rename Fr _ _ _ _ => F2
  exact hR _ _ (chg_of hg F2) (setIs_of F2 N2 gx gdx (by k_mem) (by assumption))
end
end
section
open PySem PySem.W PySem.Calls PyProof.Rows
theorem offF14 : True := by
  w_top off
  trivial
section
variable {prog : Program} {w : World} {A : Around} {E : Value → Shared → Prop} {base ti g h h' h₀ : Heap} {frs : List Env} {mean : ExcName → Option Value} {mg mb : Str → Option Value} {s : Shared} {k : Nat}
  {x dx d y dy e f L z dz c : Addr} {l l' l'' : List (Fin 9)} {v : Value} {i : Fin 9} {R : Result → Shared → Prop} {m : Str → Option Value} {news : List (Addr × Obj)} {u : Obj → List (Addr × Obj)} {es : List DictEntry} {n n₁ t ep : Nat}
  {qual : Str} {scope : Scope} {cdv : Value} {Q : Value → Shared → Prop}
theorem union_update_self_K (C : Cx w A base frs mean mg mb h₀ (k + 4 + 1)) (B : Below A base frs g) (F : Fr g L s.heap m) (N : News g L s.heap news) (U : UpdF d (dictOf es n) news u) (Ti : TupIn ti s.heap)
    (hx : s.heap.get? x = some (instObj 275 dx)) (hdx : s.heap.get? dx = some (setAttrs w t n₁ d)) (Bd : Bears prog w ti d es l)
    (h : ∀ h' es' n' tk, Fr g L h' m → News g L h' (u (dictOf es' n')) → Bears prog w ti d es' (l) → Q .none { s with heap := h', toks := tk }) (hk : scope.kind = .function := by rfl) :
    wpAny (model prog w) (A.deeper (envOf qual scope L f cdv)) (call (.ref 78) [.ref x, .ref x]) Q E s :=
  upd_K F N U (fun hR => union_update_self (k := k) (C.inner B F hk) Ti ⟨hx, ⟨_, _, hdx⟩, _, _, N.get (upd_mem U), Bd⟩ fun h' tk c S => hR h' tk (c.mono (fun _ q => by simp at q)) S) h
theorem intersection_update_self_K (C : Cx w A base frs mean mg mb h₀ (k + 4 + 1)) (B : Below A base frs g) (F : Fr g L s.heap m) (N : News g L s.heap news) (U : UpdF d (dictOf es n) news u) (Ti : TupIn ti s.heap)
    (hx : s.heap.get? x = some (instObj 275 dx)) (hdx : s.heap.get? dx = some (setAttrs w t n₁ d)) (Bd : Bears prog w ti d es l)
    (h : ∀ h' es' n' tk, Fr g L h' m → News g L h' (u (dictOf es' n')) → Bears prog w ti d es' (l) → Q .none { s with heap := h', toks := tk }) (hk : scope.kind = .function := by rfl) :
    wpAny (model prog w) (A.deeper (envOf qual scope L f cdv)) (call (.ref 85) [.ref x, .ref x]) Q E s :=
  upd_K F N U (fun hR => intersection_update_self (k := k) (C.inner B F hk) Ti ⟨hx, ⟨_, _, hdx⟩, _, _, N.get (upd_mem U), Bd⟩ fun h' tk c S => hR h' tk (c.mono (fun _ q => by simp at q)) S) h
theorem difference_update_self_K (C : Cx w A base frs mean mg mb h₀ (k + 4 + 1)) (B : Below A base frs g) (F : Fr g L s.heap m) (N : News g L s.heap news) (U : UpdF d (dictOf es n) news u) (Ti : TupIn ti s.heap)
    (hx : s.heap.get? x = some (instObj 275 dx)) (hdx : s.heap.get? dx = some (setAttrs w t n₁ d)) (Bd : Bears prog w ti d es l)
    (h : ∀ h' es' n' tk, Fr g L h' m → News g L h' (u (dictOf es' n')) → Bears prog w ti d es' ([]) → Q .none { s with heap := h', toks := tk }) (hk : scope.kind = .function := by rfl) :
    wpAny (model prog w) (A.deeper (envOf qual scope L f cdv)) (call (.ref 92) [.ref x, .ref x]) Q E s :=
  upd_K F N U (difference_update_self (k := k) (C.inner B F hk) Ti ⟨hx, ⟨_, _, hdx⟩, _, _, N.get (upd_mem U), Bd⟩ (Own.of_news B N (upd_mem U))) h
theorem symmetric_difference_update_self_K (C : Cx w A base frs mean mg mb h₀ (k + 4 + 1)) (B : Below A base frs g) (F : Fr g L s.heap m) (N : News g L s.heap news) (U : UpdF d (dictOf es n) news u) (Ti : TupIn ti s.heap)
    (hx : s.heap.get? x = some (instObj 275 dx)) (hdx : s.heap.get? dx = some (setAttrs w t n₁ d)) (Bd : Bears prog w ti d es l)
    (h : ∀ h' es' n' tk, Fr g L h' m → News g L h' (u (dictOf es' n')) → Bears prog w ti d es' ([]) → Q .none { s with heap := h', toks := tk }) (hk : scope.kind = .function := by rfl) :
    wpAny (model prog w) (A.deeper (envOf qual scope L f cdv)) (call (.ref 99) [.ref x, .ref x]) Q E s :=
  upd_K F N U (symmetric_difference_update_self (k := k) (C.inner B F hk) Ti ⟨hx, ⟨_, _, hdx⟩, _, _, N.get (upd_mem U), Bd⟩ (Own.of_news B N (upd_mem U))) h
end
section
variable {prog : Program} {w : World} {A : Around} {E : Value → Shared → Prop} {base ti g h h' h₀ : Heap} {frs : List Env} {mean : ExcName → Option Value} {mg mb : Str → Option Value} {s : Shared} {k : Nat}
  {x dx d y dy e f L z dz c : Addr} {l l' l'' : List (Fin 9)} {v : Value} {i : Fin 9} {R : Result → Shared → Prop} {m : Str → Option Value} {news : List (Addr × Obj)} {u : Obj → List (Addr × Obj)} {es : List DictEntry} {n n₁ t ep : Nat}
  {qual : Str} {scope : Scope} {cdv : Value} {Q : Value → Shared → Prop}

theorem update_code {vs : List Value} {is : List (Fin 9)} {nl : Nat} (C : Cx w A base frs mean mg mb s.heap (k + 4)) (Ti : TupIn ti s.heap) (S : SetIs prog w ti s.heap x dx d l) (O : Own base frs d) (hL : s.heap.get? y = some (listOf vs.toArray nl)) (hvs : ∀ (j : Nat) (v : Value), vs[j]? = some v → ∃ i, is[j]? = some i ∧ ItemAt ti v i) (hln : vs.length = is.length)
    (hR : ∀ h' tk, Chg [d] s.heap h' → SetIs prog w ti h' x dx d (is.foldl addL l) → R (.ok (.ret .none)) { s with heap := h', toks := tk }) :
    codeAny (model prog w) A (.call (.ref 204) ⟨[.ref x, .ref y], []⟩) R s := by
  have hyd : y ≠ d := fun q => by obtain ⟨es, ep, hd, _⟩ := S.dict; rw [q, hd] at hL; injection hL with hL; injection hL with _ _ hL; cases hL
  refine enter1 C Ti S O (by k_is) (by k_is) (BindsTo.of_eq rfl) (locs rfl) fun g L h₁ t n es ep hg Tg gx gdx Bd F N B X T => ?_
  have gL := hg _ _ hL (by simpa using hyd)
  dsimp only
  k_steps
  rename News _ _ _ _ => N1
  rename Fr _ _ _ _ => F1
  refine for_listG (fun j m₁ news₁ => ∃ (u : Str → Option Value) (es1 : List DictEntry) (n1 : Nat), (m₁ = fun z => if z = Str.ofString "item" then u z else List.lookup z [(Str.ofString "other", Value.ref y), (Str.ofString "self", Value.ref x)]) ∧
    news₁ = [(d, dictOf es1 n1)] ∧ Bears prog w ti d es1 ((is.take j).foldl addL l)) C.handled gL F1 N1 ⟨_, es, ep, map_if _ _, rfl, by simpa using Bd⟩ ?_ ?_
  · rintro I j v m₁ news₁ h tk oI hen ⟨u, es1, n1, rfl, rfl, Bd1⟩ hoff F2 N2
    obtain ⟨kk, hkk, hv⟩ := hvs _ _ hen
    simp only [List.mem_cons, List.not_mem_nil, or_false, forall_eq_or_imp, forall_eq] at hoff
    change Fr g L _ _ at F2
    change News g L _ _ at N2
    clear F1 N1 Bd
    k_steps
    rename News _ _ _ _ => N3
    rename Fr _ _ _ _ => F3
    refine TurnM.intro F3 N3 ?_ ⟨_, _, _, map_item, rfl, ?_⟩
    · simp only [List.mem_cons, List.not_mem_nil, or_false, forall_eq_or_imp, forall_eq]; exact hoff
    · rw [take_foldl _ _ _ hkk]; assumption
  · rintro m₁ news₁ h tk ⟨u, es1, n1, rfl, rfl, Bd1⟩ F2 N2
    change Fr g L _ _ at F2
    change News g L _ _ at N2
    clear F1 N1 Bd
    k_steps
    rw [hln, List.take_length] at Bd1
    exact hR _ _ (chg_of hg F2) (setIs_of F2 N2 gx gdx (by k_mem) Bd1)
end
end
set_option hygiene false in
local macro_rules | `(tactic| walk_at "call ref") => `(tactic| (k_here; (with_reducible show wpAny _ _ (call (Value.ref 78) _ _) _ _ _); (try dsimp only [List.nil_append, List.cons_append]); refine' union_update_self_K ?C ?B ?F ?N ?U ?T ?x ?dx ?b ?_; (case C => assumption); (case B => assumption); (case F => k_asm); (case N => k_asm); (case T => exact TupIn.up (by assumption) (by k_asm)); (case x => first | exact News.get (by k_asm) (by k_mem) | exact Fr.keep (by k_asm) _ _ (by assumption)); (case dx => first | exact News.get (by k_asm) (by k_mem) | exact Fr.keep (by k_asm) _ _ (by assumption)); (case U => k_updF); (case b => assumption);  intro h' es' n' tk' F' N' x'; (try dsimp only at N'); (try k_sweep)))
set_option hygiene false in
local macro_rules | `(tactic| walk_at "call ref") => `(tactic| (k_here; (with_reducible show wpAny _ _ (call (Value.ref 85) _ _) _ _ _); (try dsimp only [List.nil_append, List.cons_append]); refine' intersection_update_self_K ?C ?B ?F ?N ?U ?T ?x ?dx ?b ?_; (case C => assumption); (case B => assumption); (case F => k_asm); (case N => k_asm); (case T => exact TupIn.up (by assumption) (by k_asm)); (case x => first | exact News.get (by k_asm) (by k_mem) | exact Fr.keep (by k_asm) _ _ (by assumption)); (case dx => first | exact News.get (by k_asm) (by k_mem) | exact Fr.keep (by k_asm) _ _ (by assumption)); (case U => k_updF); (case b => assumption);  intro h' es' n' tk' F' N' x'; (try dsimp only at N'); (try k_sweep)))
set_option hygiene false in
local macro_rules | `(tactic| walk_at "call ref") => `(tactic| (k_here; (with_reducible show wpAny _ _ (call (Value.ref 92) _ _) _ _ _); (try dsimp only [List.nil_append, List.cons_append]); refine' difference_update_self_K ?C ?B ?F ?N ?U ?T ?x ?dx ?b ?_; (case C => assumption); (case B => assumption); (case F => k_asm); (case N => k_asm); (case T => exact TupIn.up (by assumption) (by k_asm)); (case x => first | exact News.get (by k_asm) (by k_mem) | exact Fr.keep (by k_asm) _ _ (by assumption)); (case dx => first | exact News.get (by k_asm) (by k_mem) | exact Fr.keep (by k_asm) _ _ (by assumption)); (case U => k_updF); (case b => assumption);  intro h' es' n' tk' F' N' x'; (try dsimp only at N'); (try k_sweep)))
set_option hygiene false in
local macro_rules | `(tactic| walk_at "call ref") => `(tactic| (k_here; (with_reducible show wpAny _ _ (call (Value.ref 99) _ _) _ _ _); (try dsimp only [List.nil_append, List.cons_append]); refine' symmetric_difference_update_self_K ?C ?B ?F ?N ?U ?T ?x ?dx ?b ?_; (case C => assumption); (case B => assumption); (case F => k_asm); (case N => k_asm); (case T => exact TupIn.up (by assumption) (by k_asm)); (case x => first | exact News.get (by k_asm) (by k_mem) | exact Fr.keep (by k_asm) _ _ (by assumption)); (case dx => first | exact News.get (by k_asm) (by k_mem) | exact Fr.keep (by k_asm) _ _ (by assumption)); (case U => k_updF); (case b => assumption);  intro h' es' n' tk' F' N' x'; (try dsimp only at N'); (try k_sweep)))
section
open PySem PySem.W PySem.Calls PyProof.Rows
theorem offF15 : True := by
  w_top off
  trivial
section
variable {prog : Program} {w : World} {A : Around} {E : Value → Shared → Prop} {base ti g h h' h₀ : Heap} {frs : List Env} {mean : ExcName → Option Value} {mg mb : Str → Option Value} {s : Shared} {k : Nat}
  {x dx d y dy e f L z dz c : Addr} {l l' l'' : List (Fin 9)} {v : Value} {i : Fin 9} {R : Result → Shared → Prop} {m : Str → Option Value} {news : List (Addr × Obj)} {u : Obj → List (Addr × Obj)} {es : List DictEntry} {n n₁ t ep : Nat}
  {qual : Str} {scope : Scope} {cdv : Value} {Q : Value → Shared → Prop}
theorem ior_self (C : Cx w A base frs mean mg mb s.heap (k + 7)) (Ti : TupIn ti s.heap) (S : SetIs prog w ti s.heap x dx d l) (O : Own base frs d)
    (hR : ∀ h' tk, Chg [d] s.heap h' → SetIs prog w ti h' x dx d (uniL l l) → R (.ok (.ret (.ref x))) { s with heap := h', toks := tk }) :
    codeAny (model prog w) A (.call (.ref 169) ⟨[.ref x, .ref x], []⟩) R s := by
  rw [uniL_self] at hR
  refine enter1 C Ti S O (by k_is) (by k_is) (BindsTo.of_eq rfl) (locs rfl) fun g L h₁ t n es ep hg Tg gx gdx Bd F N B X T => ?_
  dsimp only
  k_steps
  rename News _ _ _ _ => N2
  rename Fr _ _ _ _ => F2
  exact hR _ _ (chg_of hg F2) (setIs_of F2 N2 gx gdx (by k_mem) (by assumption))
theorem iand_self (C : Cx w A base frs mean mg mb s.heap (k + 7)) (Ti : TupIn ti s.heap) (S : SetIs prog w ti s.heap x dx d l) (O : Own base frs d)
    (hR : ∀ h' tk, Chg [d] s.heap h' → SetIs prog w ti h' x dx d (intL l l) → R (.ok (.ret (.ref x))) { s with heap := h', toks := tk }) :
    codeAny (model prog w) A (.call (.ref 176) ⟨[.ref x, .ref x], []⟩) R s := by
  rw [intL_self] at hR
  refine enter1 C Ti S O (by k_is) (by k_is) (BindsTo.of_eq rfl) (locs rfl) fun g L h₁ t n es ep hg Tg gx gdx Bd F N B X T => ?_
  dsimp only
  k_steps
  rename News _ _ _ _ => N2
  rename Fr _ _ _ _ => F2
  exact hR _ _ (chg_of hg F2) (setIs_of F2 N2 gx gdx (by k_mem) (by assumption))
theorem iminus_self (C : Cx w A base frs mean mg mb s.heap (k + 7)) (Ti : TupIn ti s.heap) (S : SetIs prog w ti s.heap x dx d l) (O : Own base frs d)
    (hR : ∀ h' tk, Chg [d] s.heap h' → SetIs prog w ti h' x dx d (difL l l) → R (.ok (.ret (.ref x))) { s with heap := h', toks := tk }) :
    codeAny (model prog w) A (.call (.ref 190) ⟨[.ref x, .ref x], []⟩) R s := by
  rw [difL_self] at hR
  refine enter1 C Ti S O (by k_is) (by k_is) (BindsTo.of_eq rfl) (locs rfl) fun g L h₁ t n es ep hg Tg gx gdx Bd F N B X T => ?_
  dsimp only
  k_steps
  rename News _ _ _ _ => N2
  rename Fr _ _ _ _ => F2
  exact hR _ _ (chg_of hg F2) (setIs_of F2 N2 gx gdx (by k_mem) (by assumption))
theorem ixor_self (C : Cx w A base frs mean mg mb s.heap (k + 7)) (Ti : TupIn ti s.heap) (S : SetIs prog w ti s.heap x dx d l) (O : Own base frs d)
    (hR : ∀ h' tk, Chg [d] s.heap h' → SetIs prog w ti h' x dx d (symL l l) → R (.ok (.ret (.ref x))) { s with heap := h', toks := tk }) :
    codeAny (model prog w) A (.call (.ref 197) ⟨[.ref x, .ref x], []⟩) R s := by
  rw [symL_self] at hR
  refine enter1 C Ti S O (by k_is) (by k_is) (BindsTo.of_eq rfl) (locs rfl) fun g L h₁ t n es ep hg Tg gx gdx Bd F N B X T => ?_
  dsimp only
  k_steps
  rename News _ _ _ _ => N2
  rename Fr _ _ _ _ => F2
  exact hR _ _ (chg_of hg F2) (setIs_of F2 N2 gx gdx (by k_mem) (by assumption))
end
end
section
open PySem PySem.W PySem.Calls PyProof.Rows
theorem offF16 : True := by
  w_top off
  trivial
section
variable {prog : Program} {w : World} {A : Around} {E : Value → Shared → Prop} {base ti g h h' h₀ : Heap} {frs : List Env} {mean : ExcName → Option Value} {mg mb : Str → Option Value} {s : Shared} {k : Nat}
  {x dx d y dy e f L z dz c : Addr} {l l' l'' : List (Fin 9)} {v : Value} {i : Fin 9} {R : Result → Shared → Prop} {m : Str → Option Value} {news : List (Addr × Obj)} {u : Obj → List (Addr × Obj)} {es : List DictEntry} {n n₁ t ep : Nat}
  {qual : Str} {scope : Scope} {cdv : Value} {Q : Value → Shared → Prop}

abbrev pairOf (v u : Value) : Obj := { cls := .type "tuple", data := .seq #[v, u] }
theorem popitem_K {l₀ : List (Fin 9)} {i : Fin 9} (F : Fr g L s.heap m) (N : News g L s.heap news) (U : UpdF d (dictOf es n) news u) (Ti : TupIn ti s.heap) (Bd : Bears prog w ti d es (l₀ ++ [i]))
    (h : ∀ h' es' n' T v, Fr g L h' m → News g L h' ((T, pairOf v .none) :: u (dictOf es' n')) → (∀ p ∈ u (dictOf es' n'), @LT.lt Nat _ p.1 T) → Bears prog w ti d es' l₀ → ItemAt ti v i → Q (.ref T) { s with heap := h' }) :
    wpAny (model prog w) A (call (.builtin "dict.popitem") [.ref d]) Q E s := by
  have hm := N.get (upd_mem U)
  refine popitem_item Bd.lo (Bd.dict Ti hm) rfl fun h₁ v hN hv => ?_
  obtain ⟨es', n', F', N', x'⟩ := now_K (vk := []) F N U Bd (fun p hp => by simp at hp) hN
  exact h _ es' n' _ v (F'.push _) (News.push F' N' _) (fun p hp => Heap.lt_size (N' p hp).1) x' (hv ti Bd.rep)
theorem lenM_K (F : Fr g L s.heap m) (Ti : TupIn ti s.heap) (hd : s.heap.get? d = some (dictOf es n)) (Bd : Bears prog w ti d es l)
    (h : ∀ t tk, Q (.int l.length t) { s with toks := tk }) : wpAny (model prog w) A (call (.builtin "len") [.ref d]) Q E s := len_d Bd.lo (Bd.dict Ti hd) h
theorem sub_list {value slice : PySem.Expr} {D : Addr} {vs : List Value} {at_ : Int} {u j n : Nat} {v : Value} (N : News g L s.heap news) (hm : (D, listOf vs.toArray n) ∈ news) (hx : vs[j]? = some v) (ha : at_ = (j : Int)) (hz : vs.length ≤ 100) (h : Q v s)
    (hs : subscripted slice false (.ref D) (.int at_ u) = operate [.ref D, .int at_ u] (getItem (.ref D) (.int at_ u)) := by with_unfolding_all rfl) :
    wpAny (model prog w) A (subscriptTail value slice (.ref D) (.int at_ u)) Q E s := by
  have hj : j < vs.length := by
    by_cases q : j < vs.length
    · exact q
    · rw [List.getElem?_eq_none (by omega)] at hx; cases hx
  refine tail_any (PySem.IsL.isList (n := n) (N _ hm).1).typeIs slot_list_getitem.lookup (wpAny_getItem_list (PySem.IsL.isList (n := n) (N _ hm).1) (by omega) (by omega) ?_ h) hs
  rw [ha]; simpa using hx
end
end
set_option hygiene false in
local macro_rules | `(tactic| walk_at "call builtin:dict.popitem") => `(tactic| (k_here; (with_reducible show wpAny _ _ (call (Value.builtin "dict.popitem") [Value.ref _]) _ _ _); refine' popitem_K ?F ?N ?U ?T ?x ?_; (case T => exact TupIn.up (by assumption) (by k_asm)); (case F => k_asm); (case N => k_asm); (case U => k_updF); (case x => assumption); intro h' es' n' T' v' F' N' l1 x' hv'; (try dsimp only at N' l1); (try k_lt l1); (try k_sweep)))
set_option hygiene false in
local macro_rules | `(tactic| walk_at "call builtin:len") => `(tactic| (k_here; (with_reducible show wpAny _ _ (call (Value.builtin "len") [Value.ref _]) _ _ _); refine' lenM_K ?F ?T ?m ?B ?_; (case F => k_asm); (case T => exact TupIn.up (by assumption) (by k_asm)); (case m => first | exact News.get (by k_asm) (by k_mem) | exact Fr.keep (by k_asm) _ _ (Reads1.gd (by assumption))); (case B => first | assumption | exact Reads1.bd (by assumption)); intro t' tk'))
set_option hygiene false in
local macro_rules | `(tactic| walk_at "assign Tuple") => `(tactic| (k_here; (with_reducible show wpAny _ _ (assign (Expr.Tuple _ _ _) _ (Value.ref _)) _ _ _); refine' unpackN_ ?k1 ?k2 ?k3 ?k4 ?k5 ?k6 ?_; (case k1 => k_asm); (case k2 => k_asm); (case k3 => exact News.isTup (by k_asm) (by k_mem)); (case k4 => (rename Cx _ _ _ _ _ _ _ _ _ => cX; exact cX.handled)); (case k5 => exact rfl); (case k6 => exact rfl); k_whole; intro h' F' N'; (try k_sweep)))
section
open PySem PySem.W PySem.Calls PyProof.Rows
theorem offF17 : True := by
  w_top off
  trivial
section
variable {prog : Program} {w : World} {A : Around} {E : Value → Shared → Prop} {base ti g h h' h₀ : Heap} {frs : List Env} {mean : ExcName → Option Value} {mg mb : Str → Option Value} {s : Shared} {k : Nat}
  {x dx d y dy e f L z dz c : Addr} {l l' l'' : List (Fin 9)} {v : Value} {i : Fin 9} {R : Result → Shared → Prop} {m : Str → Option Value} {news : List (Addr × Obj)} {u : Obj → List (Addr × Obj)} {es : List DictEntry} {n n₁ t ep : Nat}
  {qual : Str} {scope : Scope} {cdv : Value} {Q : Value → Shared → Prop}

theorem remove_code (C : Cx w A base frs mean mg mb s.heap (k + 2)) (Ti : TupIn ti s.heap) (S : SetIs prog w ti s.heap x dx d l) (O : Own base frs d) (hv : ItemAt ti v i) (hi : i ∈ l)
    (hR : ∀ h' tk, Chg [d] s.heap h' → SetIs prog w ti h' x dx d (delL l i) → R (.ok (.ret .none)) { s with heap := h', toks := tk }) :
    codeAny (model prog w) A (.call (.ref 43) ⟨[.ref x, v], []⟩) R s := by
  refine enter1 C Ti S O (by k_is) (by k_is) (BindsTo.of_eq rfl) (locs rfl) fun g L h₁ t n es ep hg Tg gx gdx Bd F N B X T => ?_
  dsimp only
  k_steps
  exact hR _ _ (chg_of hg (by k_asm)) (setIs_of (by k_asm) (by k_asm) gx gdx (by k_mem) (by assumption))
theorem pop_code {l₀ : List (Fin 9)} (C : Cx w A base frs mean mg mb s.heap (k + 2)) (Ti : TupIn ti s.heap) (S : SetIs prog w ti s.heap x dx d (l₀ ++ [i])) (O : Own base frs d)
    (hR : ∀ h' tk v, Chg [d] s.heap h' → SetIs prog w ti h' x dx d l₀ → ItemAt ti v i → R (.ok (.ret v)) { s with heap := h', toks := tk }) :
    codeAny (model prog w) A (.call (.ref 57) ⟨[.ref x], []⟩) R s := by
  refine enter1 C Ti S O (by k_is) (by k_is) (BindsTo.of_eq rfl) (locs rfl) fun g L h₁ t n es ep hg Tg gx gdx Bd F N B X T => ?_
  dsimp only
  k_steps
  exact hR _ _ _ (chg_of hg (by k_asm)) (setIs_of (by k_asm) (by k_asm) gx gdx (by k_mem) (by assumption)) (by assumption)
theorem len_code (C : Cx w A base frs mean mg mb s.heap (k + 2)) (Ti : TupIn ti s.heap) (S : SetIs prog w ti s.heap x dx d l)
    (hR : ∀ h' tk t, Chg [] s.heap h' → R (.ok (.ret (.int l.length t))) { s with heap := h', toks := tk }) :
    codeAny (model prog w) A (.call (.ref 230) ⟨[.ref x], []⟩) R s := by
  refine enter0 C Ti (by k_is) (by k_is) (BindsTo.of_eq rfl) (locs rfl) fun g L h₁ hg Tg F N B X T => ?_
  obtain ⟨t, n, ep, es, Rx⟩ := S.reads hg (by simp)
  dsimp only
  k_steps
  exact hR _ _ _ (chg_of hg (by k_asm))
theorem getitem_code {at_ : Int} {t₀ j : Nat} {kk : Fin 9} (C : Cx w A base frs mean mg mb s.heap (k + 2)) (Ti : TupIn ti s.heap) (S : SetIs prog w ti s.heap x dx d l) (hj : l[j]? = some kk) (ha : at_ = j ∨ at_ = (j : Int) - l.length)
    (hR : ∀ h' tk v, Chg [] s.heap h' → ItemAt ti v kk → R (.ok (.ret v)) { s with heap := h', toks := tk }) :
    codeAny (model prog w) A (.call (.ref 244) ⟨[.ref x, .int at_ t₀], []⟩) R s := by
  refine enter0 C Ti (by k_is) (by k_is) (BindsTo.of_eq rfl) (locs rfl) fun g L h₁ hg Tg F N B X T => ?_
  obtain ⟨t, n, ep, es, Rx⟩ := S.reads hg (by simp)
  have hl9 : l.length ≤ 9 := nodup_le Rx.bd.nd
  have hel := Rx.bd.rep.length
  obtain ⟨en, hen, _, hv, _⟩ := Rx.bd.rep.get' hj
  have hjl : j < l.length := by
    by_cases q : j < l.length
    · exact q
    · rw [List.getElem?_eq_none (by omega)] at hj; cases hj
  dsimp only
  k_steps
  · refine sub_list (by k_asm) (by k_mem) (j := j) (v := en.key) (by rw [List.getElem?_map, hen]; rfl) (by omega) (by rw [List.length_map]; omega) ?_
    exact hR _ _ _ (chg_of hg (by k_asm)) hv
  · refine sub_list (by k_asm) (by k_mem) (j := j) (v := en.key) (by rw [List.getElem?_map, hen]; rfl) (by omega) (by rw [List.length_map]; omega) ?_
    exact hR _ _ _ (chg_of hg (by k_asm)) hv
end
end
section
open PySem PySem.W PySem.Calls PyProof.Rows
theorem offF18 : True := by
  w_top off
  trivial
section
variable {prog : Program} {w : World} {A : Around} {E : Value → Shared → Prop} {base ti g h h' h₀ : Heap} {frs : List Env} {mean : ExcName → Option Value} {mg mb : Str → Option Value} {s : Shared} {k : Nat}
  {x dx d y dy e f L z dz c : Addr} {l l' l'' : List (Fin 9)} {v : Value} {i : Fin 9} {R : Result → Shared → Prop} {m : Str → Option Value} {news : List (Addr × Obj)} {u : Obj → List (Addr × Obj)} {es : List DictEntry} {n n₁ t ep : Nat}
  {qual : Str} {scope : Scope} {cdv : Value} {Q : Value → Shared → Prop}

theorem RaisedS.toSN {G : Heap} {l : List Env} {e t : Addr} {cls : Value} {vs : List Value} {news : List (Addr × Obj)} {h : Heap} (R : RaisedS base G l e cls t vs news h) : RaisedSN base G l e cls news h := by
  obtain ⟨⟨B, hB, a, hl, hfl, _⟩, _⟩ := R
  exact ⟨B, _, hB, a, hl, hfl⟩
/-- an exception under way: it has left the frames above frs; what stood in G stands, but for the frames' slots -/
def Flies (base G : Heap) (frs : List Env) (e : Addr) (cls : String) (h' : Heap) : Prop := RaisedSN base G frs e (.type cls) [] h' ∧ G.UpToSlots h'
theorem Flies.up {G G' : Heap} {cls : String} (r : Flies base G frs e cls h') (hg : ∀ b o, G'.get? b = some o → G.get? b = some o) : Flies base G' frs e cls h' := by
  obtain ⟨⟨B, a0, hB, a, hl, hfl⟩, u⟩ := r
  exact ⟨⟨B, a0, hB, fun b o e n => a b o (hg b o e) n, fun q hq => by simp at hq, hfl⟩, fun b o e n => u b o (hg b o e) n⟩
theorem RaisedSN.less {G : Heap} {l : List Env} {e : Addr} {cls : Value} {news : List (Addr × Obj)} {h : Heap} (R : RaisedSN base G l e cls news h) : RaisedSN base G l e cls [] h := by
  obtain ⟨B, a0, hB, a, hl, hfl⟩ := R
  exact ⟨B, a0, hB, a, fun q hq => by simp at hq, hfl⟩
section
variable {M : Model} {QU : Unit → Shared → Prop} {s' : Shared} {g₂ : Heap} {a : Addr} {cls : String} {vs : List Value} {name : Str} {cd : Value} {outer : List Env}
theorem leave_raiseM (K : Below A base outer g) (F : Fr g L h m) (hx : Heap.MadeExcOf h s'.heap e (.type cls) vs)
    (hQ : ∀ h', Flies base g outer e cls h' → QU () { s' with heap := h' }) (hk : scope.kind = .function := by rfl) :
    wpAny M (A.deeper (envOf name scope L a cd)) (leaving (envOf name scope L a cd) (.ref e)) QU E s' :=
  leave_raiseS (news := []) K hx F (fun _ h => by simp at h) (fun h' t r _ u => hQ h' ⟨r.toSN, u⟩) hk
theorem leave_newM (K : Below A base outer g) (F : Fr g L h m) (hx : Heap.NewExc h s'.heap e cls)
    (hQ : ∀ h', Flies base g outer e cls h' → QU () { s' with heap := h' }) (hk : scope.kind = .function := by rfl) :
    wpAny M (A.deeper (envOf name scope L a cd)) (leaving (envOf name scope L a cd) (.ref e)) QU E s' :=
  leave_newS (news := []) K hx F (fun _ h => by simp at h) (fun h' r _ u => hQ h' ⟨r, u⟩) hk
theorem leave_onM (K : Below A base outer g) (F : Fr g L g₂ m) (R : Flies base g₂ (envOf name scope L a cd :: outer) e cls s'.heap)
    (hQ : ∀ h', Flies base g outer e cls h' → QU () { s' with heap := h' }) :
    wpAny M (A.deeper (envOf name scope L a cd)) (leaving (envOf name scope L a cd) (.ref e)) QU E s' :=
  leave_onSN K F R.1 R.2 fun h' r _ u => hQ h' ⟨r, u⟩
end
theorem isinst_list {vs : Array Value} {nl : Nat} (X : (hd.heap_39 w.params).In s.heap) (hy : s.heap.get? y = some (listOf vs nl)) (h : Q (.bool false) { s with toks := s.toks + 1 }) :
    wpAny (model prog w) A (call (.builtin "isinstance") [.ref y, .ref 275]) Q E s :=
  isn_call (P := fun h => ∃ o, h.get? y = some o ∧ o.cls = .type "list") X (fun M => kitAt_ty M _ ⟨_, hy, rfl⟩) (by k_not) (by intro e; cases e) ⟨_, hy, rfl⟩ (fun p k => list_cls p k) h
end
end
set_option hygiene false in
local macro_rules | `(tactic| walk_at "leaving ref") => `(tactic| (k_here; first
  | (refine' leave_raiseM ?k1 ?k2 (Heap.MadeExc.of (by assumption)) ?_; (case k1 => assumption); (case k2 => assumption); k_whole; intro h' fl')
  | (refine' leave_newM ?k1 ?k2 (by assumption) ?_; (case k1 => assumption); (case k2 => assumption); k_whole; intro h' fl')
  | (refine' leave_onM ?k1 ?k2 (by assumption) ?_; (case k1 => assumption); (case k2 => assumption); k_whole; intro h' fl')))
set_option hygiene false in
local macro_rules | `(tactic| walk_at "call builtin:isinstance") => `(tactic| (k_here; (with_reducible show wpAny _ _ (call _ [Value.ref _, Value.ref 275]) _ _ _); refine' isinst_list ?X ?y ?_; (case X => k_in); (case y => exact Fr.keep (by k_asm) _ _ (by assumption)); k_whole))
set_option hygiene false in
local macro_rules | `(tactic| walk_at "exec Raise some none") => `(tactic| (k_here; (with_reducible show wpAny _ _ (exec (Stmt.Raise (some (Expr.Call (Expr.Name ("ValueError" : Str) _) (_ :: _) [] _)) none _) _) _ _ _); (with_reducible rename Fr _ _ _ _ => kF); refine' Raise_madeB PySem.F.excCall_ValueError PySem.F.excRaise_ValueError ?hh (name_B kF ?k1 ?k2 ?k3 ?k4 ?k5 ⟨rfl, ?_⟩); (case hh => (rename Cx _ _ _ _ _ _ _ _ _ => cX; exact cX.handled)); (case k1 => k_asm); (case k2 => k_asm); (case k3 => k_is); (case k4 => boot_by_name); (case k5 => decide)))
set_option hygiene false in
local macro_rules | `(tactic| walk_at "exec Raise some none") => `(tactic| (k_here; (with_reducible show wpAny _ _ (exec (Stmt.Raise (some (Expr.Call (Expr.Name ("IndexError" : Str) _) (_ :: _) [] _)) none _) _) _ _ _); (with_reducible rename Fr _ _ _ _ => kF); refine' Raise_madeB PySem.F.excCall_IndexError PySem.F.excRaise_IndexError ?hh (name_B kF ?k1 ?k2 ?k3 ?k4 ?k5 ⟨rfl, ?_⟩); (case hh => (rename Cx _ _ _ _ _ _ _ _ _ => cX; exact cX.handled)); (case k1 => k_asm); (case k2 => k_asm); (case k3 => k_is); (case k4 => boot_by_name); (case k5 => decide)))
section
open PySem PySem.W PySem.Calls PyProof.Rows
theorem offF19 : True := by
  w_top off
  trivial
section
variable {prog : Program} {w : World} {A : Around} {E : Value → Shared → Prop} {base ti g h h' h₀ : Heap} {frs : List Env} {mean : ExcName → Option Value} {mg mb : Str → Option Value} {s : Shared} {k : Nat}
  {x dx d y dy e f L z dz c : Addr} {l l' l'' : List (Fin 9)} {v : Value} {i : Fin 9} {R : Result → Shared → Prop} {m : Str → Option Value} {news : List (Addr × Obj)} {u : Obj → List (Addr × Obj)} {es : List DictEntry} {n n₁ t ep : Nat}
  {qual : Str} {scope : Scope} {cdv : Value} {Q : Value → Shared → Prop}

theorem union_update_err {nl : Nat} {vs : Array Value} (C : Cx w A base frs mean mg mb s.heap (k + 4)) (Ti : TupIn ti s.heap) (hy : s.heap.get? y = some (listOf vs nl))
    (hE : ∀ h' tk e, Flies base s.heap frs e "ValueError" h' → R (.error (.ref e)) { s with heap := h', toks := tk }) :
    codeAny (model prog w) A (.call (.ref 78) ⟨[.ref x, .ref y], []⟩) R s := by
  refine enter0 C Ti (by k_is) (by k_is) (BindsTo.of_eq rfl) (locs rfl) fun g L h₁ hg Tg F N B X T => ?_
  have gy := hg _ _ hy (by simp)
  dsimp only
  k_steps
  exact hE _ _ _ (fl'.up fun b o e => hg b o e (by simp))
end
end
section
open PySem PySem.W PySem.Calls PyProof.Rows
theorem offF20 : True := by
  w_top off
  trivial
section
variable {prog : Program} {w : World} {A : Around} {E : Value → Shared → Prop} {base ti g h h' h₀ : Heap} {frs : List Env} {mean : ExcName → Option Value} {mg mb : Str → Option Value} {s : Shared} {k : Nat}
  {x dx d y dy e f L z dz c : Addr} {l l' l'' : List (Fin 9)} {v : Value} {i : Fin 9} {R : Result → Shared → Prop} {m : Str → Option Value} {news : List (Addr × Obj)} {u : Obj → List (Addr × Obj)} {es : List DictEntry} {n n₁ t ep : Nat}
  {qual : Str} {scope : Scope} {cdv : Value} {Q : Value → Shared → Prop}
theorem intersection_update_err {nl : Nat} {vs : Array Value} (C : Cx w A base frs mean mg mb s.heap (k + 4)) (Ti : TupIn ti s.heap) (hy : s.heap.get? y = some (listOf vs nl))
    (hE : ∀ h' tk e, Flies base s.heap frs e "ValueError" h' → R (.error (.ref e)) { s with heap := h', toks := tk }) :
    codeAny (model prog w) A (.call (.ref 85) ⟨[.ref x, .ref y], []⟩) R s := by
  refine enter0 C Ti (by k_is) (by k_is) (BindsTo.of_eq rfl) (locs rfl) fun g L h₁ hg Tg F N B X T => ?_
  have gy := hg _ _ hy (by simp)
  dsimp only
  k_steps
  exact hE _ _ _ (fl'.up fun b o e => hg b o e (by simp))
theorem issubset_err {nl : Nat} {vs : Array Value} (C : Cx w A base frs mean mg mb s.heap (k + 4)) (Ti : TupIn ti s.heap) (hy : s.heap.get? y = some (listOf vs nl))
    (hE : ∀ h' tk e, Flies base s.heap frs e "ValueError" h' → R (.error (.ref e)) { s with heap := h', toks := tk }) :
    codeAny (model prog w) A (.call (.ref 258) ⟨[.ref x, .ref y], []⟩) R s := by
  refine enter0 C Ti (by k_is) (by k_is) (BindsTo.of_eq rfl) (locs rfl) fun g L h₁ hg Tg F N B X T => ?_
  have gy := hg _ _ hy (by simp)
  dsimp only
  k_steps
  exact hE _ _ _ (fl'.up fun b o e => hg b o e (by simp))
theorem isdisjoint_err {nl : Nat} {vs : Array Value} (C : Cx w A base frs mean mg mb s.heap (k + 4)) (Ti : TupIn ti s.heap) (hy : s.heap.get? y = some (listOf vs nl))
    (hE : ∀ h' tk e, Flies base s.heap frs e "ValueError" h' → R (.error (.ref e)) { s with heap := h', toks := tk }) :
    codeAny (model prog w) A (.call (.ref 272) ⟨[.ref x, .ref y], []⟩) R s := by
  refine enter0 C Ti (by k_is) (by k_is) (BindsTo.of_eq rfl) (locs rfl) fun g L h₁ hg Tg F N B X T => ?_
  have gy := hg _ _ hy (by simp)
  dsimp only
  k_steps
  exact hE _ _ _ (fl'.up fun b o e => hg b o e (by simp))
theorem getitem_err {at_ : Int} {t₀ : Nat} (C : Cx w A base frs mean mg mb s.heap (k + 2)) (Ti : TupIn ti s.heap) (S : SetIs prog w ti s.heap x dx d l) (ha : (l.length : Int) ≤ at_ ∨ at_ < -(l.length : Int))
    (hE : ∀ h' tk e, Flies base s.heap frs e "IndexError" h' → R (.error (.ref e)) { s with heap := h', toks := tk }) :
    codeAny (model prog w) A (.call (.ref 244) ⟨[.ref x, .int at_ t₀], []⟩) R s := by
  refine enter0 C Ti (by k_is) (by k_is) (BindsTo.of_eq rfl) (locs rfl) fun g L h₁ hg Tg F N B X T => ?_
  obtain ⟨t, n, ep, es, Rx⟩ := S.reads hg (by simp)
  have hl9 : l.length ≤ 9 := nodup_le Rx.bd.nd
  have hel := Rx.bd.rep.length
  dsimp only
  k_steps
  all_goals exact hE _ _ _ (fl'.up fun b o e => hg b o e (by simp))
theorem pop_err (C : Cx w A base frs mean mg mb s.heap (k + 2)) (Ti : TupIn ti s.heap) (S : SetIs prog w ti s.heap x dx d [])
    (hE : ∀ h' tk e, Flies base s.heap frs e "KeyError" h' → R (.error (.ref e)) { s with heap := h', toks := tk }) :
    codeAny (model prog w) A (.call (.ref 57) ⟨[.ref x], []⟩) R s := by
  refine enter0 C Ti (by k_is) (by k_is) (BindsTo.of_eq rfl) (locs rfl) fun g L h₁ hg Tg F N B X T => ?_
  obtain ⟨t, n, ep, es, Rx⟩ := S.reads hg (by simp)
  dsimp only
  k_steps
  refine popitem_empty C.handled Rx.bd.lo (Rx.bd.dict (Tg.up F) (F.keep _ _ Rx.gd)) fun h' e tk NE' => ?_
  k_steps
  exact hE _ _ _ (fl'.up fun b o e => hg b o e (by simp))
theorem union_update_err_K {nl : Nat} {vs : Array Value} (C : Cx w A base frs mean mg mb h₀ (k + 5)) (B : Below A base frs g) (F : Fr g L s.heap m) (Ti : TupIn ti s.heap) (hy : s.heap.get? y = some (listOf vs nl))
    (h : ∀ h' tk e, Flies base s.heap (envOf qual scope L f cdv :: frs) e "ValueError" h' → E (.ref e) { s with heap := h', toks := tk }) (hk : scope.kind = .function := by rfl) :
    wpAny (model prog w) (A.deeper (envOf qual scope L f cdv)) (call (.ref 78) [.ref x, .ref y]) Q E s :=
  wpAny_call (union_update_err (k := k) (C.inner B F hk) Ti hy h)
end
end
set_option hygiene false in
local macro_rules | `(tactic| walk_at "call ref") => `(tactic| (k_here; (with_reducible show wpAny _ _ (call (Value.ref 78) _ _) _ _ _); (try dsimp only [List.nil_append, List.cons_append]); refine' union_update_err_K ?C ?B ?F ?T ?y ?_; (case C => assumption); (case B => assumption); (case F => k_asm); (case T => exact TupIn.up (by assumption) (by k_asm)); (case y => exact Fr.keep (by k_asm) _ _ (by assumption)); k_whole; intro h' tk' e' fl'))
section
open PySem PySem.W PySem.Calls PyProof.Rows
theorem offF21 : True := by
  w_top off
  trivial
section
variable {prog : Program} {w : World} {A : Around} {E : Value → Shared → Prop} {base ti g h h' h₀ : Heap} {frs : List Env} {mean : ExcName → Option Value} {mg mb : Str → Option Value} {s : Shared} {k : Nat}
  {x dx d y dy e f L z dz c : Addr} {l l' l'' : List (Fin 9)} {v : Value} {i : Fin 9} {R : Result → Shared → Prop} {m : Str → Option Value} {news : List (Addr × Obj)} {u : Obj → List (Addr × Obj)} {es : List DictEntry} {n n₁ t ep : Nat}
  {qual : Str} {scope : Scope} {cdv : Value} {Q : Value → Shared → Prop}

theorem union_err {nl : Nat} {vs : Array Value} (C : Cx w A base frs mean mg mb s.heap (k + 5)) (Ti : TupIn ti s.heap) (S : SetIs prog w ti s.heap x dx d l) (hy : s.heap.get? y = some (listOf vs nl))
    (hE : ∀ h' tk e, Flies base s.heap frs e "ValueError" h' → R (.error (.ref e)) { s with heap := h', toks := tk }) :
    codeAny (model prog w) A (.call (.ref 106) ⟨[.ref x, .ref y], []⟩) R s := by
  refine enter0 C Ti (by k_is) (by k_is) (BindsTo.of_eq rfl) (locs rfl) fun g L h₁ hg Tg F N B X T => ?_
  obtain ⟨t, n, ep, es, Rx⟩ := S.reads hg (by simp)
  have gy := hg _ _ hy (by simp)
  dsimp only
  k_steps
  trace_state
  exact hE _ _ _ (Flies.up (by assumption) fun b o e => hg b o e (by simp))
end
end
section
open PySem PySem.W PySem.Calls PyProof.Rows
/-- e, held or under way, has no context yet -/
def CtxAt (base : Heap) (e : Addr) (cls fl : Value) (h : Heap) : Prop :=
  base.get? e = none ∧ ∃ oe vs T oT ts, h.get? e = some oe ∧ oe.cls = cls ∧ oe.data = .fields vs ∧ vs[1]? = some (.ref T) ∧ vs[2]? = some .none ∧ base.get? T = none ∧ T ≠ e ∧ h.get? T = some oT ∧ oT.data = .fields ts ∧ ts[3]? = some fl
section
variable {M : Model} {A : Around} {E : Value → Shared → Prop} {s : Shared}
theorem note_firstM {base : Heap} {env : Env} {outer : List Env} {L e : Addr} {oe : Obj} {vs : Array Value} {Q : Unit → Shared → Prop}
    (hfr : A.frames = some (env :: outer)) (hl : s.heap.FunFrames base (env :: outer)) (hf : env.frame = some L)
    (he : s.heap.get? e = some oe) (hkb : base.StaysIn s.heap) (hen : base.get? e = none) (hd : oe.data = .fields vs) (h1 : vs[1]? = some .none) (h2 : vs[2]? = some .none)
    (h : ∀ h', base.StaysIn h' → h'.FunFrames base (env :: outer) → CtxAt base e oe.cls (rawInt L) h' → s.heap.UpToSlots h' → Q () { s with heap := h' }) : wpAny M A (noteFrame (.ref e) env) Q E s := by
  have hsz : 1 < vs.size := (Array.getElem?_eq_some_iff.mp h1).1
  have hene : e ∉ (env :: outer).filterMap (·.frame) := fun hm => by
    obtain ⟨_, o, ho, hnf⟩ := hl.mem hm
    rw [he] at ho; injection ho with ho; subst ho; exact hnf vs hd
  unfold noteFrame
  simp only [hf]
  refine wpAny_bind (wpAny_field he hd h1 ?_)
  rw [if_neg (by decide)]
  refine wpAny_bind (wpAny_frameOf_fun hfr hl hf fun h₁ hs₁ => ?_)
  refine wpAny_bind (wpAny_entryPlaceOf fun pl hpl => ?_)
  unfold EntryCells.newEntry newFields
  refine wpAny_bind (wpAny_newObj_type ?_ (hpl.sizeOk5 _ _ _ _ _))
  generalize hob : ([Value.none, .ref L, .none, rawInt L, .none] ++ (if pl.isEmpty then List.replicate 6 Value.none else pl)).toArray = ts
  have hts : ts[3]? = some (rawInt L) := by rw [← hob]; first | (simp; done) | (rcases hpl with rfl | ⟨_, _, _, _, _, _, _, rfl⟩ <;> simp)
  have he₁ : h₁.get? e = some oe := (hs₁.2.1 e hene).trans he
  have kb₁ : base.StaysIn h₁ := fun b o hbo => (hs₁.2.1 b fun hm => by rw [(hl.mem hm).1] at hbo; cases hbo).trans (hkb b o hbo)
  have he₂ := Heap.get?_push_of_some (h := h₁) { cls := .type "traceback", dict := none, data := .fields ts } he₁
  refine wpAny_setField he₂ hd hsz ?_
  have hTe : h₁.objs.size ≠ e := Nat.ne_of_gt (Heap.lt_size he₁)
  have hd₃ := Obj.data_mapFields hd (·.setIfInBounds 1 (Value.ref h₁.objs.size))
  have he₃ := Heap.get?_update_self (Obj.mapFields (·.setIfInBounds 1 (Value.ref h₁.objs.size))) he₂ (Obj.isFreed_of_fields hd₃)
  have hT₃ := (Heap.get?_update_other (h₁.push { cls := .type "traceback", dict := none, data := .fields ts }) (Obj.mapFields (·.setIfInBounds 1 (Value.ref h₁.objs.size))) (Ne.symm hTe)).trans (Heap.get?_push_size h₁ rfl)
  have keep : ∀ b o, b ≠ e → h₁.get? b = some o → ((h₁.push { cls := .type "traceback", dict := none, data := .fields ts }).update e (Obj.mapFields (·.setIfInBounds 1 (Value.ref h₁.objs.size)))).get? b = some o := fun b o hbe hb => by
    rw [Heap.get?_update_other _ _ (Ne.symm hbe)]
    exact Heap.get?_push_of_some _ hb
  have noRecord : ∀ b o, s.heap.get? b = some o → (∀ vs, o.data ≠ .fields vs) → b ≠ e := fun b o hb hnf q => by
    rw [q, he] at hb; injection hb with hb; subst hb; exact hnf vs hd
  refine h _ (fun b o hbo => keep b o (fun q => by rw [q, hen] at hbo; cases hbo) (kb₁ b o hbo)) (hl.of_keeps fun b o hb hnf => ?_) ?_ fun b o hb hnf => ?_
  · obtain ⟨sl, hs⟩ := hs₁.2.2 b o hb
    exact ⟨_, keep b _ (noRecord b o hb hnf) hs, rfl⟩
  · exact ⟨hen, _, _, h₁.objs.size, _, _, he₃, Obj.cls_mapFields _ _, hd₃, by simp [hsz], by rw [Array.getElem?_setIfInBounds_ne (by decide)]; exact h2, kb₁.fresh, hTe, hT₃, rfl, hts⟩
  · obtain ⟨sl, hs⟩ := hs₁.2.2 b o hb
    exact ⟨sl, keep b _ (noRecord b o hb hnf) hs⟩
theorem landM {base : Heap} {l : List Env} {e : Addr} {cls fl : Value} {Q : Unit → Shared → Prop}
    (hkb : base.StaysIn s.heap) (hl : s.heap.FunFrames base l) (ht : CtxAt base e cls fl s.heap)
    (h : ∀ h', base.StaysIn h' → h'.FunFrames base l → CtxAt base e cls .none h' → s.heap.UpToSlots h' → Q () { s with heap := h' }) :
    wpAny M A (setFlight (.ref e) none) Q E s := by
  obtain ⟨hen, oe, vs, T, oT, ts, he, hcls, hd, h1, h2, hnT, hTe, hT, hdT, h3⟩ := ht
  have hsz3 : 3 < ts.size := (Array.getElem?_eq_some_iff.mp h3).1
  have other : ∀ b, b ≠ T → (s.heap.update T (Obj.mapFields (·.setIfInBounds 3 ((none : Option Addr).elim Value.none fun f => rawInt f)))).get? b = s.heap.get? b :=
    fun b hb => Heap.get?_update_other _ _ (Ne.symm hb)
  have noRecord : ∀ b o, s.heap.get? b = some o → (∀ vs, o.data ≠ .fields vs) → b ≠ T := fun b o hb hnf q => by
    rw [q, hT] at hb; injection hb with hb; subst hb; exact hnf ts hdT
  unfold setFlight
  refine wpAny_bind (wpAny_field he hd h1 ?_)
  rw [if_pos (show (Value.ref T != Value.none) = true from by simp)]
  refine wpAny_setField hT hdT hsz3 (h _ (fun b o hbo => (other b fun q => by rw [q, hnT] at hbo; cases hbo).trans (hkb b o hbo))
    (hl.of_keeps fun b o hb hnf => ⟨o, (other b (noRecord b o hb hnf)).trans hb, rfl⟩) ?_ fun b o hb hnf => ⟨o.slots, (other b (noRecord b o hb hnf)).trans hb⟩)
  exact ⟨hen, oe, vs, T, _, _, (other e (Ne.symm hTe)).trans he, hcls, hd, h1, h2, hnT, hTe, Heap.get?_update_self _ hT (Obj.isFreed_of_fields (Obj.data_mapFields hdT _)), Obj.data_mapFields hdT _, by simp [hsz3]⟩
end
end
section
open PySem PySem.W PySem.Calls PyProof.Rows
theorem unchain_plain : plainId "proto.unchain" = true := by decide +kernel
theorem unchain_entry : entryFor table "proto.unchain" = some Builtin.«proto.unchain» := entryFor_of_tree (by kernel_rfl)
/-- a new exception; its context may be set -/
def NewExcC (h h' : Heap) (e : Addr) (cls : Value) : Prop :=
  (∀ b o, h.get? b = some o → h'.get? b = some o) ∧ h.get? e = none ∧ ∃ ob vs t, h'.get? e = some ob ∧ ob.cls = cls ∧ ob.data = .fields vs ∧ vs[0]? = some t ∧ vs[1]? = some .none
section
variable {prog : Program} {w : World} {A : Around} {E : Value → Shared → Prop} {s : Shared} {env : Env} {X N I : String}
theorem Raise_classM {x : Str} {np pos : Pos} {Q : Flow → Shared → Prop} {e₀ : Addr} {o₀ : Obj} {vs₀ : Array Value} (hh : A.handled = some (.ref e₀)) (he₀ : s.heap.get? e₀ = some o₀) (hd₀ : o₀.data = .fields vs₀) (h2 : vs₀[2]? = some .none) (hc : ExcClass X N I)
    (hself : isSubtype (.type X) (.type X) = pure true)
    (hx : wpAny (model prog w) A (eval (.Name x np) env) (fun v s₁ => v = .type X ∧ s₁ = s) E s)
    (h : ∀ h' e, NewExcC s.heap h' e (.type X) → E (.ref e) { s with heap := h' }) :
    wpAny (model prog w) A (exec (.Raise (some (.Name x np)) none pos) env) Q E s := by
  show wpAny (model prog w) A (do standAt pos; raiseStmt env (some (do let v ← eval (.Name x np) env; standAt pos; pure v)) none) Q E s
  refine wpAny_bind (wpAny_standAt ?_)
  unfold raiseStmt
  dsimp only
  refine wpAny_bind (wpAny_bind (wpAny_mono hx (fun v s₁ h₁ => wpAny_bind (wpAny_standAt (wpAny_pure ?_))) fun _ _ e => e))
  obtain ⟨rfl, hs₁⟩ := h₁
  subst s₁
  refine wpAny_bind (wpAny_pure ?_)
  dsimp only
  refine wpAny_bind (wpAny_holding ?_)
  unfold excFromValue isExcClass
  refine wpAny_bind (wpAny_bind (wpAny_pure ?_))
  simp only [if_true]
  rw [hc.base]
  refine wpAny_pure ?_
  simp only [if_true]
  refine wpAny_bind (call_exc hc fun h' e hn => ?_)
  obtain ⟨ob, t, he, hcls, hd⟩ := hn.there
  have hT : ({ s with heap := h' } : Shared).TypeIs (.ref e) X := ⟨ob, he, hcls⟩
  refine wpAny_bind (wpAny_isInstance hT hc.base ?_)
  simp only [Bool.not_true, Bool.false_eq_true, if_false]
  refine wpAny_pure ?_
  first | (refine wpAny_bind (m := isType (.type X)) (wpAny_pure ?_)) | (refine wpAny_bind (wpAny_pure ?_))
  first | (rw [if_pos rfl]) | (simp only [if_true]) | dsimp only
  refine wpAny_bind (wpAny_holding ?_)
  unfold raisedFor
  first | (simp only [Bool.false_eq_true, if_false]) | (rw [if_neg (by decide)]) | skip
  first | (refine wpAny_bind (wpAny_typeOf hT ?_)) | (refine wpAny_bind ?_; refine wpAny_bind (wpAny_typeOf hT ?_))
  refine wpAny_bind (call_issubclass (issubclass_self hc hself) ?_)
  first | (refine wpAny_bind (wpAny_truthy_bool ?_)) | (refine wpAny_truthy_bool ?_) | (dsimp only [wants]; first | (refine wpAny_bind (wpAny_truthy_bool ?_)) | (refine wpAny_truthy_bool ?_))
  first | (rw [if_pos rfl]) | (simp only [if_true]) | skip
  refine wpAny_pure ?_
  unfold setFlight raiseNew
  refine wpAny_bind (wpAny_bind (wpAny_field (i := 1) (x := Value.none) he hd rfl ?_))
  rw [if_neg (by decide)]
  refine wpAny_pure (wpAny_bind (wpAny_handled ?_))
  rw [hh]
  dsimp only
  have hne : e₀ ≠ e := fun q => by rw [q, hn.new] at he₀; cases he₀
  have he₀' := hn.keeps _ _ he₀
  rw [if_pos (by simpa using hne)]
  refine wpAny_bind (wpAny_holding ?_)
  refine wpAny_runValue (codeAny_builtin unchain_entry ?_)
  rw [Around.under_plainId unchain_plain _]
  unfold Builtin.«proto.unchain»
  dsimp only
  refine wpAny_bind (wpAny_field (i := 2) (x := Value.none) he₀' hd₀ h2 ?_)
  rw [if_pos (by decide)]
  refine wpAny_pure ?_
  show wpAny _ _ (updateField e 2 (.ref e₀) >>= fun _ => throw (.ref e)) Q E _
  have hu : (updateField e 2 (.ref e₀) : Sem Unit) = setField (.ref e) 2 (.ref e₀) := by simp only [setField]
  rw [hu]
  refine wpAny_bind (wpAny_setField he hd (by simp) (wpAny_throw (h _ _ ⟨fun b o q => ?_, hn.new, ?_⟩)))
  · rw [Heap.get?_update_other _ _ (fun r : e = b => by rw [← r, hn.new] at q; cases q)]
    exact hn.keeps _ _ q
  · exact ⟨_, _, t, Heap.get?_update_self _ he (Obj.isFreed_of_fields (Obj.data_mapFields hd _)), (Obj.cls_mapFields _ _).trans hcls, Obj.data_mapFields hd _, by simp [Array.getElem?_setIfInBounds], by simp [Array.getElem?_setIfInBounds]⟩
end
section
variable {M : Model} {A : Around} {E : Value → Shared → Prop} {s' : Shared} {base g G h : Heap} {outer : List Env} {L a e : Addr} {m : Str → Option Value} {name : Str} {scope : Scope} {cd : Value} {Q : Unit → Shared → Prop} {cls : String}
/-- a first leaving, whatever the context of the new exception -/
theorem leave_newC (K : Below A base outer g) (hx : NewExcC h s'.heap e (.type cls)) (F : Fr g L h m)
    (hQ : ∀ h', Flies base g outer e cls h' → Q () { s' with heap := h' }) (hk : scope.kind = .function := by rfl) :
    wpAny M (A.deeper (envOf name scope L a cd)) (leaving (envOf name scope L a cd) (.ref e)) Q E s' := by
  have K' := K.push (name := name) (a := a) (cd := cd) F hk
  obtain ⟨hkeep, hnew, ob, vs, tp, he, hcls, hd, h0, h1⟩ := hx
  have hin : ∀ env ∈ (envOf name scope L a cd :: outer), ∀ b, env.frame = some b → b ∈ (envOf name scope L a cd :: outer).filterMap (·.frame) := fun env he b hb => List.mem_filterMap.mpr ⟨env, he, hb⟩
  have st : base.StaysIn (hideAll h ((envOf name scope L a cd :: outer).filterMap (·.frame))) := fun b o q => hideAll_get _ (K'.stays b o q) fun hm => by
    rw [(K'.frames.mem hm).1] at q; cases q
  have sg : ∀ b o, g.get? b = some o → b ∉ outer.filterMap (·.frame) → (hideAll h ((envOf name scope L a cd :: outer).filterMap (·.frame))).get? b = some o := fun b o q nm => hideAll_get _ (F.keep b o q) fun hm => by
    rcases kts_mem hm with z | z
    · rw [z, kts_self F] at q
      cases q
    · exact nm z
  have hen : (hideAll h ((envOf name scope L a cd :: outer).filterMap (·.frame))).get? e = none := by
    cases q : (hideAll h ((envOf name scope L a cd :: outer).filterMap (·.frame))).get? e with
    | none => rfl
    | some o => have := of_hideAll _ q; rw [hnew] at this; cases this
  refine wpAny_leaving_firstW (a0 := tp) K'.stack ((funFrames_hide K'.frames hin).of_keeps fun b o hb _ => ⟨o, hkeep b o hb, rfl⟩) rfl he (fun b o hb => hkeep b o (of_hideAll _ hb)) hen hd h1 h0 fun h' hL => ?_
  obtain ⟨k1, ⟨_, _, k2⟩, k3, k4⟩ := hL
  exact hQ h' ⟨⟨_, tp, st, sg, fun q hq => by simp at hq, k1, hen, k2, by rw [← hcls]; exact k3⟩, ((Heap.UpToSlots.of_keeps F.keep).trans (Heap.UpToSlots.of_keeps hkeep)).trans k4⟩
theorem Flies.turn {g' : Heap} (r : Flies base g' outer e cls h) (T : KtsTurn (outer.filterMap (·.frame)) g g') : Flies base g outer e cls h := by
  obtain ⟨⟨B, a0, hB, a, _, hfl⟩, u⟩ := r
  refine ⟨⟨B, a0, hB, fun b o q n => a b o (T.other b o q n) n, fun q hq => by simp at hq, hfl⟩, fun b o q n => ?_⟩
  obtain ⟨sl, hs⟩ := T.up q
  obtain ⟨sl', hs'⟩ := u b _ hs n
  exact ⟨sl', hs'⟩
end
section
variable {prog : Program} {w : World} {A₀ : Around} {E : Value → Shared → Prop} {s' : Shared} {base g G : Heap} {outer : List Env} {L a e : Addr} {m : Str → Option Value} {name : Str} {scope : Scope} {cd : Value}
  {b₀ : Stmt} {suite : List Stmt} {pos np : Pos} {rest : List ExceptHandler} {Q : Flow → Shared → Prop} {mean : ExcName → Option Value} {mg mb : Str → Option Value} {x : Str} {X T' : String}
/-- an exception that rose in this frame is caught here -/
theorem caught_newM (hx : Heap.NewExc G s'.heap e X) (F : Fr g L G m) (K : Below A₀ base outer g) (XB : (hd.heap_39 w.params).In base) (TB : Top hd.view_39 (looseW hd.view_39 []) mean mg mb base)
    (ex : nsIn (hd.heap_39 w.params) mainGlobals x = some none) (hv : bootBuiltins x = some (.type T')) (hn' : x ≠ "__name__")
    (hexc : isSubtype (.type T') (.type "BaseException") = pure true) (hnt : isSubtype (.type ((Manifest.find? T').elim "type" fun y => y.metatype)) (.type "tuple") = pure false) (hsub : isSubtype (.type X) (.type T') = pure true)
    (k : ∀ h' g' oe vs, KtsTurn (outer.filterMap (·.frame)) g g' → Fr g' L h' m → Below A₀ base outer g' → (hd.heap_39 w.params).In g' → Top hd.view_39 (looseW hd.view_39 []) mean mg mb g' → h'.get? e = some oe → oe.data = .fields vs → vs[2]? = some .none →
      wpAny (model prog w) ((A₀.deeper (envOf name scope L a cd)).mark (some (.ref e))) (execs (b₀ :: suite) (envOf name scope L a cd)) Q E { s' with heap := h' })
    (hk : scope.kind = .function := by rfl) (hxk : (envOf name scope L a cd).kindOf x = some .globalImplicit := by rfl) (hd' : (x == ("__debug__" : Str)) = false := by decide)
    (hE : PassesOwnAt (model prog w) ((A₀.deeper (envOf name scope L a cd)).mark (some (.ref e))) (A₀.deeper (envOf name scope L a cd)) (envOf name scope L a cd) E := by passes_own) :
    wpAny (model prog w) (A₀.deeper (envOf name scope L a cd)) (noteFrame (.ref e) (envOf name scope L a cd))
      (fun _ s₂ => wpAny (model prog w) (A₀.deeper (envOf name scope L a cd)) (setFlight (.ref e) none) (fun _ s₃ =>
        wpAny (model prog w) (A₀.deeper (envOf name scope L a cd)) (handleBy (.ref e) (envOf name scope L a cd) (.ExceptHandler (some (.Name x np)) none (b₀ :: suite) pos :: rest)) Q E s₃) E s₂) E s' := by
  have K' := K.push (name := name) (a := a) (cd := cd) F hk
  have hin : ∀ env ∈ (envOf name scope L a cd :: outer), ∀ b, env.frame = some b → b ∈ (envOf name scope L a cd :: outer).filterMap (·.frame) := fun env he b hb => List.mem_filterMap.mpr ⟨env, he, hb⟩
  have hBG : ∀ b o, G.get? b = some o → b ∉ (envOf name scope L a cd :: outer).filterMap (·.frame) → (hideAll G ((envOf name scope L a cd :: outer).filterMap (·.frame))).get? b = some o := fun b o q n => hideAll_get _ q n
  have hen : (hideAll G ((envOf name scope L a cd :: outer).filterMap (·.frame))).get? e = none := by
    cases q : (hideAll G ((envOf name scope L a cd :: outer).filterMap (·.frame))).get? e with
    | none => rfl
    | some o => have := of_hideAll _ q; rw [hx.new] at this; cases this
  obtain ⟨ob, tp, he, hcls, hd⟩ := hx.there
  have hsm := Heap.UpToSlots.of_keeps hx.keeps
  refine note_firstM K'.stack ((funFrames_hide K'.frames hin).of_keeps fun b o hb _ => ⟨o, hx.keeps b o hb, rfl⟩) rfl he (fun b o hb => hx.keeps b o (of_hideAll _ hb)) hen hd rfl rfl fun h₄ st₄ ff₄ c₄ sm₄ => ?_
  refine landM st₄ ff₄ c₄ fun h₅ st₅ ff₅ c₅ sm₅ => ?_
  obtain ⟨g₅, T₅, F₅, K₅⟩ := kts_ground K F hBG st₅ ((hsm.trans sm₄).trans sm₅)
  have X₅ := XB.keeps K₅.stays
  have P₅ := topRead_of (TB.keeps K₅.stays)
  obtain ⟨o₅, ho₅, hoc₅⟩ : ∃ o, h₅.get? e = some o ∧ o.cls = .type X := by
    obtain ⟨_, oe, _, _, _, _, q, c, _⟩ := c₅
    exact ⟨oe, q, c.trans hcls⟩
  refine wpAny_handleBy_builtin (X := X) (T := T') (b := true) hexc hnt hsub (name_B F₅ X₅ P₅ ex hv hn' ⟨rfl, ⟨o₅, ho₅, hoc₅⟩, ?_⟩ hk hxk hd')
  rw [if_pos rfl]
  refine landM st₅ ff₅ c₅ fun h₆ st₆ ff₆ c₆ sm₆ => ?_
  obtain ⟨g₆, T₆, F₆, K₆⟩ := kts_ground K F hBG st₆ (((hsm.trans sm₄).trans sm₅).trans sm₆)
  obtain ⟨_, oe, vs, _, _, _, q1, _, q2, _, q3, _⟩ := c₆
  exact wpAny_passesOwnAt hE (k h₆ g₆ oe vs T₆ F₆ K₆ (XB.keeps K₆.stays) (TB.keeps K₆.stays) q1 q2 q3)
end
end
section
open PySem PySem.W PySem.Calls PyProof.Rows
theorem offF22 : True := by
  w_top off
  trivial
section
variable {prog : Program} {w : World} {A : Around} {E : Value → Shared → Prop} {base ti g h h' h₀ : Heap} {frs : List Env} {mean : ExcName → Option Value} {mg mb : Str → Option Value} {s : Shared} {k : Nat}
  {x dx d y dy e f L z dz c : Addr} {l l' l'' : List (Fin 9)} {v : Value} {i : Fin 9} {R : Result → Shared → Prop} {m : Str → Option Value} {news : List (Addr × Obj)} {u : Obj → List (Addr × Obj)} {es : List DictEntry} {n n₁ t ep : Nat}
  {qual : Str} {scope : Scope} {cdv : Value} {Q : Value → Shared → Prop}

theorem remove_err (C : Cx w A base frs mean mg mb s.heap (k + 2)) (Ti : TupIn ti s.heap) (S : SetIs prog w ti s.heap x dx d l) (hv : ItemAt ti v i) (hi : i ∉ l)
    (hE : ∀ h' tk e, Flies base s.heap frs e "ValueError" h' → R (.error (.ref e)) { s with heap := h', toks := tk }) :
    codeAny (model prog w) A (.call (.ref 43) ⟨[.ref x, v], []⟩) R s := by
  refine enter0 C Ti (by k_is) (by k_is) (BindsTo.of_eq rfl) (locs rfl) fun g L h₁ hg Tg F N B X T => ?_
  obtain ⟨t, n, ep, es, Rx⟩ := S.reads hg (by simp)
  dsimp only
  k_steps
  refine delItem_item (Room.units (Room.deeper C.room)) C.handled ((Tg.up F).item hv) Rx.bd.lo (Rx.bd.dict (Tg.up F) (F.keep _ _ Rx.gd)) (fun _ h' e tk NE => ?_) fun hk => absurd hk hi
  k_steps
  refine caught_newM (T' := "KeyError") NE F B C.kin C.top (by k_is) (by boot_by_name) (by decide) kr_isExc_KeyError kr_notTuple_KeyError (by rw [isSubtype_type]; kernel_rfl) fun h₆ g₆ oe vs T₆ F₆ K₆ X₆ P₆ q1 q2 q3 => ?_
  k_steps
  refine Raise_classM (X := "ValueError") rfl q1 q2 q3 excClass_ValueError (by rw [isSubtype_type]; kernel_rfl) (name_B F₆ X₆ (topRead_of P₆) (by k_is) (by boot_by_name) (by decide) ⟨rfl, rfl⟩) fun h₇ e₂ NC => ?_
  dsimp only
  refine leave_newC K₆ NC F₆ fun h₈ fl => ?_
  exact hE _ _ _ ((fl.turn T₆).up fun b o e => hg b o e (by simp))
end
end
section
open PySem PySem.W PySem.Calls PyProof.Rows
section
variable {prog : Program} {w : World} {A : Around} {E : Value → Shared → Prop} {s : Shared} {R : Result → Shared → Prop}
theorem comp_items_loop {kp vp px pos : Pos} {vk : Nat} {iter : Expr} {x : Str} {scope : Scope} {I D d : Addr} {cenv : Env} {m : Str → Option Value} {es : List DictEntry} {n : Nat} {l : List (Fin 9)} {ti : Heap}
    (hh : A.handled = none) (hu : A.units + 1 < cLine) (hne : d ≠ I) (hx : cenv.kindOf x = some .local) (hk : cenv.scope.kind = .function) (hdb : (x == ("__debug__" : Str)) = false)
    (hDC : D ≠ cenv.locals) (hDI : D ≠ I) (hDd : D ≠ d) (hCI : cenv.locals ≠ I) (hCd : cenv.locals ≠ d)
    (hI : s.heap.IsKeyIter I d 0 es.length n) (hd : s.heap.get? d = some (dictOf es n)) (Bd : Bears prog w ti d es l) (loD : (D == sysModules) = false) (hD : s.heap.get? D = some (dictOf [] 0)) (hn : s.heap.Ns cenv.locals m)
    (hT : ∀ b o, ti.get? b = some o → o.cls = .type "tuple" → s.heap.get? b = some o ∧ b ≠ cenv.locals ∧ b ≠ I ∧ b ≠ D)
    (hR : ∀ h' tk m' es' n', h'.Ns cenv.locals m' → h'.get? D = some (dictOf es' n') → Bears prog w ti D es' l → (∀ b o, b ≠ cenv.locals → b ≠ I → b ≠ D → s.heap.get? b = some o → h'.get? b = some o) → R (.ok .next) { s with heap := h', toks := tk }) :
    codeAny (model prog w) A (.compLoop (.DictComp (.Name x kp) (.Constant .none vk vp) [⟨.Name x px, iter, [], 0⟩] scope pos) 0 (.ref I) (.ref D) cenv) R s := by
  have W := walk_keys (prog := prog) (w := w) hh I d hne es n
  have hp : (cenv.scope.kind == .class || (cenv.scope.kind == .module && cenv.locals != cenv.globals)) = false := by rw [hk]; rfl
  refine codeAny_compLoop_testsD
    (fun k s' => ∃ h' tk m' i es1 n1, s' = { s with heap := h', toks := tk } ∧ (h'.IsKeyIter I d i es.length n ∧ h'.get? d = some (dictOf es n)) ∧ h'.get? D = some (dictOf es1 n1) ∧ Bears prog w ti D es1 (l.take i) ∧ h'.Ns cenv.locals m' ∧ i ≤ es.length ∧ k = es.length + 1 - i ∧
      ∀ b o, b ≠ cenv.locals → b ≠ I → b ≠ D → s.heap.get? b = some o → h'.get? b = some o) ?_ (es.length + 1)
    ⟨s.heap, s.toks, m, 0, [], 0, rfl, ⟨hI, hd⟩, hD, ⟨.nil, List.nodup_nil, loD⟩, hn, Nat.zero_le _, rfl, fun _ _ _ _ _ e => e⟩
  rintro k s' ⟨H, tk, m', i, es1, n1, rfl, hst, hD', Bd', hn', hi, rfl, hkp⟩
  by_cases hlt : i < es.length
  · refine W.item i _ _ _ hlt hst fun v h₁ tk₁ hPv hst₁ hk₁ => ?_
    obtain ⟨en, hen, rfl⟩ := hPv
    obtain ⟨kk, hkk, _, hv, _⟩ := Bd.rep.get hen
    refine wpAny_assign_Name (wpAny_storeName_local hx (hn'.at' fun o e => hk₁ _ o (by simpa using hCI) e) (fun h₂ hn₂ hs₂ => ?_) hp)
    dsimp only at hn₂ hs₂ ⊢
    simp only [List.forIn_nil]
    refine wpAny_pure ?_
    rw [if_pos rfl]
    refine wpAny_Name (wpAny_loadName_local hk hx hn₂ (v := en.key) (by simp) ?_) hdb
    refine wpAny_Constant_none ?_
    have up₂ : ∀ b o, b ≠ cenv.locals → b ≠ I → H.get? b = some o → h₂.get? b = some o := fun b o hbC hbI e => hs₂.extBut b o hbC (hk₁ b o (by simpa using hbI) e)
    have T₂ : TupIn ti h₂ := fun b o e c => by
      obtain ⟨q1, q2, q3, q4⟩ := hT b o e c
      exact up₂ b o q2 q3 (hkp b o q2 q3 q4 q1)
    have hD₂ := up₂ _ _ hDC hDI hD'
    refine dictSet_item hu (T₂.item hv) (Bd'.dict T₂ hD₂) fun h₃ tk₃ hN => ?_
    obtain ⟨hs, es', n', hg, hnd, hr⟩ := hN
    refine ⟨es.length + 1 - (i + 1), by omega, h₃, tk₃, _, i + 1, es', n', rfl, ⟨hst₁.1.at fun o e => hs.extBut I o (Ne.symm hDI) (hs₂.extBut I o (Ne.symm hCI) e), hs.extBut d _ (Ne.symm hDd) (hs₂.extBut d _ (Ne.symm hCd) hst₁.2)⟩, hg, ?_, hn₂.sameBut hs (Ne.symm hDC), hlt, rfl,
      fun b o hbC hbI hbD e => hs.extBut b o hbD (up₂ b o hbC hbI (hkp b o hbC hbI hbD e))⟩
    have hr' := hr ti (fun p hp => by rw [List.mem_singleton.mp hp]; exact hv) Bd'.rep
    rw [take_addL Bd.nd hkk] at hr' hnd
    exact ⟨hr', hnd, loD⟩
  · have hin : i = es.length := by omega
    subst hin
    refine W.done _ _ _ hst fun h₁ tk₁ hk₁ => ?_
    refine hR h₁ tk₁ m' es1 n1 (hn'.at' fun o e => hk₁ _ o (by simpa using hCI) e) (hk₁ _ _ (by simpa using hDI) hD') ?_ fun b o hbC hbI hbD e => hk₁ b o (by simpa using hbI) (hkp b o hbC hbI hbD e)
    rw [Bd.rep.length, List.take_length] at Bd'
    exact Bd'
end
section
variable {prog : Program} {w : World} {A : Around} {E : Value → Shared → Prop} {base ti g h h' h₀ : Heap} {frs : List Env} {mean : ExcName → Option Value} {mg mb : Str → Option Value} {s : Shared} {k : Nat}
  {y dy e f L : Addr} {l : List (Fin 9)} {m : Str → Option Value} {news : List (Addr × Obj)} {es : List DictEntry} {n t ep : Nat} {qual : Str} {scope : Scope} {cdv : Value} {Q : Value → Shared → Prop}
theorem dictcomp_K {kp vp px ip pos : Pos} {vk : Nat} {x it : Str} {sc : Scope} (C : Cx w A base frs mean mg mb h₀ (k + 3)) (B : Below A base frs g) (X : (hd.heap_39 w.params).In g) (Tg : TupIn ti g) (F : Fr g L s.heap m) (N : News g L s.heap news) (Rx : Reads1 prog w ti g y dy e l t n ep es)
    (hit : m it = some (.ref y))
    (h : ∀ h' D es' n' tk, Fr g L h' m → News g L h' ((D, dictOf es' n') :: news) → (∀ p ∈ news, @Ne Nat p.1 D) → Bears prog w ti D es' l → Q (.ref D) { s with heap := h', toks := tk })
    (hk : scope.kind = .function := by rfl) (hitl : (envOf qual scope L f cdv).kindOf it = some .local := by rfl) (hitd : (it == ("__debug__" : Str)) = false := by decide) (hdb : (x == ("__debug__" : Str)) = false := by decide)
    (hclos : closureFor sc (envOf qual scope L f cdv) = pure [] := by rfl) (hcell : ∀ y ∈ sc.names, y.2 ≠ .cell := by decide) (hkind : sc.kind = .function := by rfl)
    (hnames : ∀ y ∈ sc.names, y.2 = .local → sc.names.lookup y.1 = some .local := by decide) (hx : sc.names.lookup x = some .local := by rfl) :
    wpAny (model prog w) (A.deeper (envOf qual scope L f cdv)) (eval (.DictComp (.Name x kp) (.Constant .none vk vp) [⟨.Name x px, .Name it ip, [], 0⟩] sc pos) (envOf qual scope L f cdv)) Q E s := by
  rw [arm_eval_DictComp]
  refine wpAny_comprehension_free (use := none) rfl (fun _ => rfl) hclos hkind hnames ?_
  refine wpAny_Name (wpAny_loadName_local hk hitl F.ns hit ?_) hitd
  refine pyIter_set C B X (Tg.up F) F N Rx (fun h₁ I tk F₁ N₁ off => ?_) hk
  have NI := N₁ _ (.head _)
  have hde : h₁.get? e = some (dictOf es ep) := F₁.keep _ _ Rx.gd
  have hne : e ≠ I := fun q => by have := NI.2.2; rw [← q, Rx.gd] at this; cases this
  refine wpAny_newObj_type (wpAny_newFunctionEnv hcell (by intro y hy; simp at hy) (fun h₂ hns₂ hsb₂ => ?_) hkind)
  dsimp only at hns₂ hsb₂ ⊢
  have hD0 : (h₁.push { cls := .type "dict", dict := none, data := .dict #[] }).get? h₁.objs.size = some (dictOf [] 0) := Heap.get?_push_size _ rfl
  generalize hH2 : h₁.push { cls := .type "dict", dict := none, data := .dict #[] } = H2 at hns₂ hsb₂ hD0 ⊢
  have hCs : H2.objs.size = h₁.objs.size + 1 := by rw [← hH2, Heap.size_push]
  have hDC : h₁.objs.size ≠ H2.objs.size := by rw [hCs]; exact Nat.ne_of_lt (Nat.lt_succ_self _)
  have below : ∀ b, b < h₁.objs.size → b ≠ H2.objs.size ∧ b ≠ h₁.objs.size := fun b hb => ⟨by rw [hCs]; exact Nat.ne_of_lt (Nat.lt_succ_of_lt hb), Nat.ne_of_lt hb⟩
  have old : ∀ b o, h₁.get? b = some o → h₂.get? b = some o := fun b o q => hsb₂.extBut b o (below b (Heap.lt_size q)).1 (Heap.get?_push_of_some _ (hH2 ▸ Heap.get?_push_of_some _ q))
  have hD₂ : h₂.get? h₁.objs.size = some (dictOf [] 0) := hsb₂.extBut _ _ hDC (Heap.get?_push_of_some _ hD0)
  have bI := below I (Heap.lt_size NI.1)
  have be := below e (Heap.lt_size hde)
  have NL := (C.top.keeps B.stays).nolimit
  have loD : (h₁.objs.size == sysModules) = false := low_mods NL (Nat.le_of_lt (Nat.lt_of_le_of_lt F₁.above F₁.ns.lt))
  have T₁ : TupIn ti h₁ := Tg.up F₁
  have loop : ∀ s₃ : Shared, s₃ = { s with heap := h₂, toks := tk + ([] : List (Str × Value)).length } → codeAny (model prog w) (A.deeper (envOf qual scope L f cdv))
      (.compLoop (.DictComp (.Name x kp) (.Constant .none vk vp) [⟨.Name x px, .Name it ip, [], 0⟩] sc pos) 0 (.ref I) (.ref h₁.objs.size) (compEnvC sc [] H2.objs.size (envOf qual scope L f cdv)))
      (compPost (model prog w) (A.deeper (envOf qual scope L f cdv)) E none Q (.ref h₁.objs.size) H2.objs.size) s₃ := by
    rintro s₃ rfl
    refine comp_items_loop (cenv := compEnvC sc [] H2.objs.size (envOf qual scope L f cdv)) (l := l) (ti := ti) (d := e) (es := es) (n := ep) C.handled (C.room.deeper.units) hne (lookup_relabel_local hx) (by simp [compEnvC, relabel, hkind]) hdb
      hDC (Ne.symm bI.2) (Ne.symm be.2) (Ne.symm bI.1) (Ne.symm be.1) ⟨_, old _ _ NI.1, rfl, rfl⟩ (old _ _ hde) Rx.bd loD hD₂ hns₂ (fun b o q c => ?_) fun h₃ tk₃ m₃ es₃ n₃ hn₃ hg₃ Bd₃ hk₃ => ?_
    · have q₁ := T₁ b o q c
      refine ⟨old b o q₁, (below b (Heap.lt_size q₁)).1, fun r => ?_, (below b (Heap.lt_size q₁)).2⟩
      rw [r, NI.1] at q₁; injection q₁ with q₁
      rw [← q₁] at c; simp at c
    · refine ⟨m₃, hn₃, fun h₄ hs₄ => ?_⟩
      have ch : Chg [I] h₁ h₄ := fun b o hb q => hs₄.extBut b o (below b (Heap.lt_size q)).1 (hk₃ b o (below b (Heap.lt_size q)).1 (by simpa using hb) (below b (Heap.lt_size q)).2 (old b o q))
      have F₄ : Fr g L h₄ m := Fr.chg F₁ ch fun a ha => by rw [List.mem_singleton.mp ha]; exact ⟨NI.2.2, NI.2.1⟩
      have N₄ : News g L h₄ news := News.chg (fun p hp => N₁ p (.tail _ hp)) ch fun p hp => by simpa using off p hp
      have fD : h₁.get? h₁.objs.size = none := Option.eq_none_iff_forall_ne_some.mpr fun o q => absurd (Heap.lt_size q) (Nat.lt_irrefl _)
      refine h h₄ _ es₃ n₃ tk₃ F₄ (News.add N₄ (hs₄.extBut _ _ hDC hg₃) (fun q => ?_) (Option.eq_none_iff_forall_ne_some.mpr fun o q => ?_)) (fun p hp q => ?_) Bd₃
      · obtain ⟨o, _, _, ho, _⟩ := F₁.ns; rw [← q, fD] at ho; cases ho
      · have := F₁.keep _ _ q; rw [fD] at this; cases this
      · have := (N₁ p (.tail _ hp)).1; rw [show p.1 = _ from q, fD] at this; cases this
  exact codeAny_compStart_dict (loop _ rfl) ((walk_keys (prog := prog) (w := w) (A := A.deeper (envOf qual scope L f cdv)) C.handled I e hne es ep).self 0 _ _ _ ⟨⟨_, old _ _ NI.1, rfl, rfl⟩, old _ _ hde⟩ (loop _ rfl))
end
end
section
open PySem PySem.W PySem.Calls PyProof.Rows
theorem offF23 : True := by
  w_top off
  trivial
section
variable {prog : Program} {w : World} {A : Around} {E : Value → Shared → Prop} {base ti g h h' h₀ : Heap} {frs : List Env} {mean : ExcName → Option Value} {mg mb : Str → Option Value} {s : Shared} {k : Nat}
  {x dx d y dy e f L z dz c : Addr} {l l' l'' : List (Fin 9)} {v : Value} {i : Fin 9} {R : Result → Shared → Prop} {m : Str → Option Value} {news : List (Addr × Obj)} {u : Obj → List (Addr × Obj)} {es : List DictEntry} {n n₁ t ep : Nat}
  {qual : Str} {scope : Scope} {cdv : Value} {Q : Value → Shared → Prop}

theorem issubset_code (C : Cx w A base frs mean mg mb s.heap (k + 4)) (Ti : TupIn ti s.heap) (S : SetIs prog w ti s.heap x dx d l) (S' : SetIs prog w ti s.heap y dy c l')
    (hR : ∀ h' tk, Chg [] s.heap h' → R (.ok (.ret (.bool (l.all fun i => decide (i ∈ l'))))) { s with heap := h', toks := tk }) :
    codeAny (model prog w) A (.call (.ref 258) ⟨[.ref x, .ref y], []⟩) R s := by
  refine enter0 C Ti (by k_is) (by k_is) (BindsTo.of_eq rfl) (locs rfl) fun g L h₁ hg Tg F N B X T => ?_
  obtain ⟨t, n, ep, es, Rx⟩ := S.reads hg (by simp)
  obtain ⟨t2, n2, ep2, es2, Ry⟩ := S'.reads hg (by simp)
  dsimp only
  k_steps
  rename News _ _ _ _ => N1
  rename Fr _ _ _ _ => F1
  refine for_keys (fun j m₁ news₁ => ∃ (u : Str → Option Value), (m₁ = fun z => if z = Str.ofString "item" then u z else List.lookup z [(Str.ofString "other", Value.ref y), (Str.ofString "self", Value.ref x)]) ∧
    news₁ = [] ∧ ∀ i ∈ l.take j, i ∈ l') C.handled Rx.bd.lo Rx.gd F1 N1 ⟨_, map_if _ _, rfl, by simp⟩ ?_ ?_
  · rintro I j en m₁ news₁ h tk oI hen ⟨u, rfl, rfl, hall⟩ hoff F2 N2
    obtain ⟨kk, hkk, _, hv, _⟩ := Rx.bd.rep.get hen
    change Fr g L _ _ at F2
    change News g L _ _ at N2
    clear F1 N1
    k_steps
    rotate_left
    · have hm : kk ∈ l := List.mem_of_getElem? hkk
      have hf : (l.all fun i => decide (i ∈ l')) = false := List.all_eq_false.mpr ⟨kk, hm, by simpa using (by assumption : ¬ kk ∈ l')⟩
      rw [hf] at hR
      exact hR _ _ (chg_of hg (by k_asm))
    · rename News _ _ _ _ => N3
      rename Fr _ _ _ _ => F3
      refine TurnM.intro (pre := [_]) F3 N3 (by simp) ⟨_, map_item, rfl, ?_⟩
      rw [List.take_add_one, hkk]
      intro i hi
      rcases List.mem_append.mp hi with q | q
      · exact hall i q
      · rw [show i = kk by simpa using q]; assumption
  · rintro m₁ news₁ h tk ⟨u, rfl, rfl, hall⟩ F2 N2
    change Fr g L _ _ at F2
    change News g L _ _ at N2
    clear F1 N1
    k_steps
    rw [Rx.bd.rep.length, List.take_length] at hall
    have hf : (l.all fun i => decide (i ∈ l')) = true := List.all_eq_true.mpr fun i hi => by simpa using hall i hi
    rw [hf] at hR
    exact hR _ _ (chg_of hg F2)
theorem issuperset_code (C : Cx w A base frs mean mg mb s.heap (k + 4)) (Ti : TupIn ti s.heap) (S : SetIs prog w ti s.heap x dx d l) (S' : SetIs prog w ti s.heap y dy c l')
    (hR : ∀ h' tk, Chg [] s.heap h' → R (.ok (.ret (.bool (l'.all fun i => decide (i ∈ l))))) { s with heap := h', toks := tk }) :
    codeAny (model prog w) A (.call (.ref 265) ⟨[.ref x, .ref y], []⟩) R s := by
  refine enter0 C Ti (by k_is) (by k_is) (BindsTo.of_eq rfl) (locs rfl) fun g L h₁ hg Tg F N B X T => ?_
  obtain ⟨t, n, ep, es, Rx⟩ := S.reads hg (by simp)
  obtain ⟨t2, n2, ep2, es2, Ry⟩ := S'.reads hg (by simp)
  dsimp only
  k_steps
  rename News _ _ _ _ => N1
  rename Fr _ _ _ _ => F1
  refine for_set (fun j m₁ news₁ => ∃ (u : Str → Option Value), (m₁ = fun z => if z = Str.ofString "item" then u z else List.lookup z [(Str.ofString "other", Value.ref y), (Str.ofString "self", Value.ref x)]) ∧
    news₁ = [] ∧ ∀ i ∈ l'.take j,  (i ∈ l)) C B X (Tg.up F1) Ry F1 N1 ⟨_, map_if _ _, rfl, by simp⟩ ?_ ?_
  · rintro I j en m₁ news₁ h tk oI hen ⟨u, rfl, rfl, hall⟩ hoff F2 N2
    obtain ⟨kk, hkk, _, hv, _⟩ := Ry.bd.rep.get hen
    clear F1 N1
    k_steps
    rotate_left
    · have hm : kk ∈ l' := List.mem_of_getElem? hkk
      have hf : (l'.all fun i => decide (i ∈ l)) = false := List.all_eq_false.mpr ⟨kk, hm, by simpa using (by assumption : ¬ kk ∈ l)⟩
      rw [hf] at hR
      exact hR _ _ (chg_of hg (by k_asm))
    · rename News _ _ _ _ => N3
      rename Fr _ _ _ _ => F3
      refine TurnM.intro (pre := [_]) F3 N3 (by simp) ⟨_, map_item, rfl, ?_⟩
      rw [List.take_add_one, hkk]
      intro i hi
      rcases List.mem_append.mp hi with q | q
      · exact hall i q
      · rw [show i = kk by simpa using q]; assumption
  · rintro m₁ news₁ h tk ⟨u, rfl, rfl, hall⟩ F2 N2
    clear F1 N1
    k_steps
    rw [Ry.bd.rep.length, List.take_length] at hall
    have hf : (l'.all fun i => decide (i ∈ l)) = true := List.all_eq_true.mpr fun i hi => by simpa using hall i hi
    rw [hf] at hR
    exact hR _ _ (chg_of hg F2)
theorem isdisjoint_code (C : Cx w A base frs mean mg mb s.heap (k + 4)) (Ti : TupIn ti s.heap) (S : SetIs prog w ti s.heap x dx d l) (S' : SetIs prog w ti s.heap y dy c l')
    (hR : ∀ h' tk, Chg [] s.heap h' → R (.ok (.ret (.bool (l'.all fun i => !decide (i ∈ l))))) { s with heap := h', toks := tk }) :
    codeAny (model prog w) A (.call (.ref 272) ⟨[.ref x, .ref y], []⟩) R s := by
  refine enter0 C Ti (by k_is) (by k_is) (BindsTo.of_eq rfl) (locs rfl) fun g L h₁ hg Tg F N B X T => ?_
  obtain ⟨t, n, ep, es, Rx⟩ := S.reads hg (by simp)
  obtain ⟨t2, n2, ep2, es2, Ry⟩ := S'.reads hg (by simp)
  dsimp only
  k_steps
  rename News _ _ _ _ => N1
  rename Fr _ _ _ _ => F1
  refine for_set (fun j m₁ news₁ => ∃ (u : Str → Option Value), (m₁ = fun z => if z = Str.ofString "item" then u z else List.lookup z [(Str.ofString "other", Value.ref y), (Str.ofString "self", Value.ref x)]) ∧
    news₁ = [] ∧ ∀ i ∈ l'.take j, ¬ (i ∈ l)) C B X (Tg.up F1) Ry F1 N1 ⟨_, map_if _ _, rfl, by simp⟩ ?_ ?_
  · rintro I j en m₁ news₁ h tk oI hen ⟨u, rfl, rfl, hall⟩ hoff F2 N2
    obtain ⟨kk, hkk, _, hv, _⟩ := Ry.bd.rep.get hen
    clear F1 N1
    k_steps
    · have hm : kk ∈ l' := List.mem_of_getElem? hkk
      have hf : (l'.all fun i => !decide (i ∈ l)) = false := List.all_eq_false.mpr ⟨kk, hm, by simpa using (by assumption :  kk ∈ l)⟩
      rw [hf] at hR
      exact hR _ _ (chg_of hg (by k_asm))
    · rename News _ _ _ _ => N3
      rename Fr _ _ _ _ => F3
      refine TurnM.intro (pre := [_]) F3 N3 (by simp) ⟨_, map_item, rfl, ?_⟩
      rw [List.take_add_one, hkk]
      intro i hi
      rcases List.mem_append.mp hi with q | q
      · exact hall i q
      · rw [show i = kk by simpa using q]; assumption
  · rintro m₁ news₁ h tk ⟨u, rfl, rfl, hall⟩ F2 N2
    clear F1 N1
    k_steps
    rw [Ry.bd.rep.length, List.take_length] at hall
    have hf : (l'.all fun i => !decide (i ∈ l)) = true := List.all_eq_true.mpr fun i hi => by simpa using hall i hi
    rw [hf] at hR
    exact hR _ _ (chg_of hg F2)
end
end
section
open PySem PySem.W PySem.Calls PyProof.Rows
theorem offF24 : True := by
  w_top off
  trivial
section
variable {prog : Program} {w : World} {A : Around} {E : Value → Shared → Prop} {base ti g h h' h₀ : Heap} {frs : List Env} {mean : ExcName → Option Value} {mg mb : Str → Option Value} {s : Shared} {k : Nat}
  {x dx d y dy e f L z dz c : Addr} {l l' l'' : List (Fin 9)} {v : Value} {i : Fin 9} {R : Result → Shared → Prop} {m : Str → Option Value} {news : List (Addr × Obj)} {u : Obj → List (Addr × Obj)} {es : List DictEntry} {n n₁ t ep : Nat}
  {qual : Str} {scope : Scope} {cdv : Value} {Q : Value → Shared → Prop}

theorem eq_code (C : Cx w A base frs mean mg mb s.heap (k + 4)) (Ti : TupIn ti s.heap) (S : SetIs prog w ti s.heap x dx d l) (S' : SetIs prog w ti s.heap y dy c l')
    (hR : ∀ h' tk, Chg [] s.heap h' → R (.ok (.ret (.bool (sameL l l')))) { s with heap := h', toks := tk }) :
    codeAny (model prog w) A (.call (.ref 216) ⟨[.ref x, .ref y], []⟩) R s := by
  refine enter0 C Ti (by k_is) (by k_is) (BindsTo.of_eq rfl) (locs rfl) fun g L h₁ hg Tg F N B X T => ?_
  obtain ⟨t, n, ep, es, Rx⟩ := S.reads hg (by simp)
  obtain ⟨t2, n2, ep2, es2, Ry⟩ := S'.reads hg (by simp)
  dsimp only
  k_steps
  refine dictcomp_K C B X Tg F N Ry (by rfl) fun h₂ D es' n' tk F₂ N₂ off Bd => ?_
  clear F N
  refine eq_d (Room.units C.room.deeper) Rx.bd.lo Bd.lo (Rx.bd.dict (Tg.up F₂) (F₂.keep _ _ Rx.gd)) (Bd.dict (Tg.up F₂) (N₂.get (.head _))) ?_
  k_steps
  exact hR _ _ (chg_of hg F₂)
theorem eq_K (C : Cx w A base frs mean mg mb h₀ (k + 5)) (B : Below A base frs g) (F : Fr g L s.heap m) (N : News g L s.heap news) (Ti : TupIn ti s.heap) (S : SetIs prog w ti s.heap x dx d l) (S' : SetIs prog w ti s.heap y dy c l')
    (h : ∀ h' tk, Fr g L h' m → News g L h' news → Q (.bool (sameL l l')) { s with heap := h', toks := tk }) (hk : scope.kind = .function := by rfl) :
    wpAny (model prog w) (A.deeper (envOf qual scope L f cdv)) (call (.ref 216) [.ref x, .ref y]) Q E s :=
  wpAny_call (eq_code (k := k) (C.inner B F hk) Ti S S' fun h' tk c => h h' tk (Fr.chg F c fun a ha => by simp at ha) (News.chg N c fun p _ => by simp))
end
end
set_option hygiene false in
local macro_rules | `(tactic| walk_at "call ref") => `(tactic| (k_here; (with_reducible show wpAny _ _ (call (Value.ref 216) _ _) _ _ _); (try dsimp only [List.nil_append, List.cons_append]); refine' eq_K ?C ?B ?F ?N ?T ?S ?S' ?_; (case C => assumption); (case B => assumption); (case F => k_asm); (case N => k_asm); (case T => exact TupIn.up (by assumption) (by k_asm)); (case S => first | exact Reads1.set1 (by assumption) (by k_asm) | exact setIs_new (by k_asm) (by k_mem) (by k_mem) (by k_mem) (by assumption) | exact setIs_of (by k_asm) (by k_asm) (by assumption) (by assumption) (by k_mem) (by assumption)); (case S' => first | exact Reads1.set1 (by assumption) (by k_asm) | exact setIs_new (by k_asm) (by k_mem) (by k_mem) (by k_mem) (by assumption) | exact setIs_of (by k_asm) (by k_asm) (by assumption) (by assumption) (by k_mem) (by assumption)); intro h' tk' F' N'; (try k_sweep)))
section
open PySem PySem.W PySem.Calls PyProof.Rows
theorem offF25 : True := by
  w_top off
  trivial
section
variable {prog : Program} {w : World} {A : Around} {E : Value → Shared → Prop} {base ti g h h' h₀ : Heap} {frs : List Env} {mean : ExcName → Option Value} {mg mb : Str → Option Value} {s : Shared} {k : Nat}
  {x dx d y dy e f L z dz c : Addr} {l l' l'' : List (Fin 9)} {v : Value} {i : Fin 9} {R : Result → Shared → Prop} {m : Str → Option Value} {news : List (Addr × Obj)} {u : Obj → List (Addr × Obj)} {es : List DictEntry} {n n₁ t ep : Nat}
  {qual : Str} {scope : Scope} {cdv : Value} {Q : Value → Shared → Prop}

theorem ne_code (C : Cx w A base frs mean mg mb s.heap (k + 5)) (Ti : TupIn ti s.heap) (S : SetIs prog w ti s.heap x dx d l) (S' : SetIs prog w ti s.heap y dy c l')
    (hR : ∀ h' tk, Chg [] s.heap h' → R (.ok (.ret (.bool (!sameL l l')))) { s with heap := h', toks := tk }) :
    codeAny (model prog w) A (.call (.ref 223) ⟨[.ref x, .ref y], []⟩) R s := by
  refine enter0 C Ti (by k_is) (by k_is) (BindsTo.of_eq rfl) (locs rfl) fun g L h₁ hg Tg F N B X T => ?_
  obtain ⟨t, n, ep, es, Rx⟩ := S.reads hg (by simp)
  obtain ⟨t2, n2, ep2, es2, Ry⟩ := S'.reads hg (by simp)
  dsimp only
  k_steps
  exact hR _ _ (chg_of hg (by k_asm))
end
end
section
open PySem PySem.W PySem.Calls PyProof.Rows
theorem offF26 : True := by
  w_top off
  trivial
section
variable {prog : Program} {w : World} {A : Around} {E : Value → Shared → Prop} {base ti g h h' h₀ : Heap} {frs : List Env} {mean : ExcName → Option Value} {mg mb : Str → Option Value} {s : Shared} {k : Nat}
  {x dx d y dy e f L z dz c : Addr} {l l' l'' : List (Fin 9)} {v : Value} {i : Fin 9} {R : Result → Shared → Prop} {m : Str → Option Value} {news : List (Addr × Obj)} {u : Obj → List (Addr × Obj)} {es : List DictEntry} {n n₁ t ep : Nat}
  {qual : Str} {scope : Scope} {cdv : Value} {Q : Value → Shared → Prop}

theorem init1_code {vs : List Value} {is : List (Fin 9)} {nl : Nat} (C : Cx w A base frs mean mg mb s.heap (k + 4)) (Ti : TupIn ti s.heap) (hx : s.heap.get? x = some (instObj 275 dx)) (hdx : s.heap.get? dx = some (dictOf [] 0)) (Ox : Own base frs x) (O : Own base frs dx) (hne : dx < x)
    (hL : s.heap.get? y = some (listOf vs.toArray nl)) (hvs : ∀ (j : Nat) (v : Value), vs[j]? = some v → ∃ i, is[j]? = some i ∧ ItemAt ti v i) (hln : vs.length = is.length)
    (hR : ∀ h' tk d, Chg [dx] s.heap h' → s.heap.get? d = none → SetIs prog w ti h' x dx d (is.foldl addL []) → R (.ok (.ret .none)) { s with heap := h', toks := tk }) :
    codeAny (model prog w) A (.call (.ref 29) ⟨[.ref x, .ref y], []⟩) R s := by
  refine enterM C [x, dx] (fun a ha => by rcases List.mem_cons.mp ha with rfl | ha; exact Ox; rw [List.mem_singleton.mp ha]; exact O) (by k_is) (by k_is) (binds_K (C.kin.keeps C.stays) rfl (by k_is) rfl rfl rfl) (locs rfl) fun g L h₁ hg hn hk F B X T => ?_
  have N : News g L h₁ [(x, instObj 275 dx), (dx, dictOf [] 0)] := News.add (News.add (fun _ h => by simp at h) (hk _ _ hdx).1 (Nat.ne_of_lt (hk _ _ hdx).2) (hn dx (by simp))) (hk _ _ hx).1 (Nat.ne_of_lt (hk _ _ hx).2) (hn x (by simp))
  replace hne := ltN hne
  have Tg : TupIn ti g := fun b o q c => hg b o (Ti b o q c) (by
    have q' := Ti b o q c
    simp only [List.mem_cons, List.not_mem_nil, or_false, not_or]
    refine ⟨fun r => ?_, fun r => ?_⟩
    · rw [r, hx] at q'; injection q' with q'; rw [← q'] at c; simp at c
    · rw [r, hdx] at q'; injection q' with q'; rw [← q'] at c; simp at c)
  have gL : g.get? y = some (listOf vs.toArray nl) := hg _ _ hL (by
    simp only [List.mem_cons, List.not_mem_nil, or_false, not_or]
    refine ⟨fun r => ?_, fun r => ?_⟩
    · rw [r, hx] at hL; injection hL with hL; injection hL with a; cases a
    · rw [r, hdx] at hL; injection hL with hL; injection hL with _ _ hL; cases hL)
  dsimp only
  k_steps
  rename News _ _ _ _ => N0
  rename Fr _ _ _ _ => F1
  obtain ⟨t', n', N1⟩ : ∃ t' n', News g L _ [(d', dictOf [] 0), (x, instObj 275 dx), (dx, setAttrs w t' n' d')] := ⟨_, _, N0⟩
  clear N0
  obtain ⟨l1a, l1b⟩ := l1
  refine for_listG (fun j m₁ news₁ => ∃ (u : Str → Option Value) (es1 : List DictEntry) (n1 : Nat), (m₁ = fun z => if z = Str.ofString "item" then u z else List.lookup z [(Str.ofString "items", Value.ref y), (Str.ofString "self", Value.ref x)]) ∧
    news₁ = [(d', dictOf es1 n1), (x, instObj 275 dx), (dx, setAttrs w t' n' d')] ∧ Bears prog w ti d' es1 ((is.take j).foldl addL [])) C.handled gL F1 N1 ⟨_, [], 0, map_if _ _, rfl, ⟨.nil, List.nodup_nil, lo'⟩⟩ ?_ ?_
  · rintro I j v m₁ news₁ h tk oI hen ⟨u, es1, n1, rfl, rfl, Bd1⟩ hoff F2 N2
    obtain ⟨kk, hkk, hv⟩ := hvs _ _ hen
    simp only [List.mem_cons, List.not_mem_nil, or_false, forall_eq_or_imp, forall_eq] at hoff
    change Fr g L _ _ at F2
    change News g L _ _ at N2
    clear F1 N1
    k_steps
    rename News _ _ _ _ => N3
    rename Fr _ _ _ _ => F3
    refine TurnM.intro F3 N3 ?_ ⟨_, _, _, map_item, rfl, ?_⟩
    · simp only [List.mem_cons, List.not_mem_nil, or_false, forall_eq_or_imp, forall_eq]; exact hoff
    · rw [take_foldl _ _ _ hkk]; assumption
  · rintro m₁ news₁ h tk ⟨u, es1, n1, rfl, rfl, Bd1⟩ F2 N2
    change Fr g L _ _ at F2
    change News g L _ _ at N2
    clear F1 N1
    k_steps
    rw [hln, List.take_length] at Bd1
    refine hR _ _ _ (fun b o hb e => ?_) ?_ (setIs_new N2 (by k_mem) (by k_mem) (by k_mem) Bd1)
    · by_cases q : b = x
      · subst q; rw [hx] at e; cases e; exact N2.get (by k_mem)
      · exact F2.keep _ _ (hg _ _ e (by simp at hb ⊢; exact ⟨q, hb⟩))
    · refine Option.eq_none_iff_forall_ne_some.mpr fun o e => ?_
      exact absurd (Nat.lt_trans l2 (hk _ _ e).2) (Nat.lt_irrefl _)
/-- Set([..]): a new one of a list's items -/
theorem newL_K {vs : List Value} {is : List (Fin 9)} {nl : Nat} (C : Cx w A base frs mean mg mb h₀ (k + 6)) (B : Below A base frs g) (Tg : TupIn ti g) (X : (hd.heap_39 w.params).In g) (F : Fr g L s.heap m) (N : News g L s.heap news)
    (hL : (y, listOf vs.toArray nl) ∈ news) (hvs : ∀ (j : Nat) (v : Value), vs[j]? = some v → ∃ i, is[j]? = some i ∧ ItemAt ti v i) (hln : vs.length = is.length)
    (h : ∀ h' x dx d t n es ep tk, Fr g L h' m → News g L h' ((x, instObj 275 dx) :: (dx, setAttrs w t n d) :: (d, dictOf es ep) :: news) → (∀ p ∈ news, @Ne Nat p.1 x ∧ @Ne Nat p.1 dx ∧ @Ne Nat p.1 d) → @Ne Nat x dx → @Ne Nat x d → @Ne Nat dx d →
      Bears prog w ti d es (is.foldl addL []) → Q (.ref x) { s with heap := h', toks := tk }) (hk : scope.kind = .function := by rfl) :
    wpAny (model prog w) (A.deeper (envOf qual scope L f cdv)) (call (.ref 275) [.ref y]) Q E s := by
  refine call_cls F X N (by k_is) (by k_is) (by k_is) fun x dx h₁ F₁ N₁ l1 l2 => ?_
  have C' := (C.inner (qual := qual) (scope := scope) (f := f) (cdv := cdv) B F₁ hk)
  have hx := N₁ (x, instObj 275 dx) (by simp)
  have hdx := N₁ (dx, dictOf [] 0) (by simp)
  refine init1_code (ti := ti) (k := k) C'.make (Tg.up F₁) hx.1 hdx.1 (Own.of_news B N₁ (by simp : (x, instObj 275 dx) ∈ _)) (Own.of_news B N₁ (by simp : (dx, dictOf [] 0) ∈ _)) l2 (N₁ (y, listOf vs.toArray nl) (.tail _ (.tail _ hL))).1 hvs hln fun h' tk d c hd S => ⟨rfl, ?_⟩
  obtain ⟨e1, e2, e3⟩ := S.ne
  obtain ⟨sx, ⟨t, n, sdx⟩, es, ep, sd, Bd⟩ := S
  have F' : Fr g L h' m := Fr.chg F₁ c fun a ha => by rw [List.mem_singleton.mp ha]; exact ⟨hdx.2.2, hdx.2.1⟩
  have hd' : h₁.get? d = none := hd
  have N' : News g L h' news := fun p hp => by
    have P := N₁ p (.tail _ (.tail _ hp))
    exact ⟨c _ _ (by simpa using Nat.ne_of_lt (l1 p hp)) P.1, P.2⟩
  have hdL : d ≠ L := fun q => by obtain ⟨o, _, _, ho, _⟩ := F₁.ns; rw [← q, hd'] at ho; cases ho
  have hdg : g.get? d = none := Option.eq_none_iff_forall_ne_some.mpr fun o q => by have := F₁.keep _ _ q; rw [hd'] at this; cases this
  have N₂ : News g L h' ((x, instObj 275 dx) :: (dx, setAttrs w t n d) :: (d, dictOf es ep) :: news) :=
    News.add (News.add (News.add N' sd hdL hdg) sdx hdx.2.1 hdx.2.2) sx hx.2.1 hx.2.2
  refine h h' x dx d t n es ep tk F' N₂ (fun p hp => ⟨Nat.ne_of_lt (Nat.lt_trans (l1 p hp) l2), Nat.ne_of_lt (l1 p hp), fun q => ?_⟩) e1 e2 e3 Bd
  have P := N₁ p (.tail _ (.tail _ hp))
  rw [show p.1 = d from q, hd'] at P; cases P.1
end
end
section
open PySem PySem.W PySem.Calls PyProof.Rows
/-- all but D stays, but for the slots of the frames -/
def ChgS (D : List Addr) (frs : List Env) (h h' : Heap) : Prop :=
  ∀ b o, b ∉ D → h.get? b = some o → (b ∉ frs.filterMap (·.frame) → h'.get? b = some o) ∧ ∃ sl, h'.get? b = some { o with slots := sl }
theorem ChgS.of {D : List Addr} {frs : List Env} {h h' : Heap} (c : Chg D h h') : ChgS D frs h h' := fun b o n e => ⟨fun _ => c b o n e, o.slots, c b o n e⟩
theorem ChgS.trans {D : List Addr} {frs : List Env} {h h' h'' : Heap} (x : ChgS D frs h h') (y : ChgS D frs h' h'') : ChgS D frs h h'' := fun b o n e => by
  obtain ⟨a, sl, hs⟩ := x b o n e
  refine ⟨fun q => (y b o n (a q)).1 q, ?_⟩
  obtain ⟨_, sl', hs'⟩ := y b _ n hs
  exact ⟨sl', hs'⟩
theorem ChgS.mono {D D' : List Addr} {frs : List Env} {h h' : Heap} (x : ChgS D frs h h') (s : ∀ b ∈ D, b ∈ D') : ChgS D' frs h h' := fun b o n e => x b o (fun q => n (s b q)) e
section
variable {prog : Program} {w : World} {A A₀ : Around} {E : Value → Shared → Prop} {s s' : Shared} {base g g' G h h' : Heap} {outer frs : List Env} {L a e : Addr} {m : Str → Option Value} {name : Str} {scope : Scope} {cd : Value} {D : List Addr}
theorem chgS_of (hg : ∀ b o, h.get? b = some o → b ∉ D → g.get? b = some o) (T : KtsTurn (frs.filterMap (·.frame)) g g') (F : Fr g' L h' m) : ChgS D frs h h' := fun b o n e => by
  refine ⟨fun q => F.keep _ _ (T.other b o (hg b o e n) q), ?_⟩
  obtain ⟨sl, hs⟩ := T.up (hg b o e n)
  exact ⟨sl, F.keep _ _ hs⟩
theorem reground (K : Below A base outer g) (F : Fr g L h m) (c : ChgS D (envOf name scope L a cd :: outer) h h') (hD : ∀ b ∈ D, g.get? b = none ∧ b ≠ L) :
    ∃ g', KtsTurn (outer.filterMap (·.frame)) g g' ∧ Fr g' L h' m ∧ Below A base outer g' ∧ ∀ news, News g L h news → (∀ p ∈ news, p.1 ∉ D) → News g' L h' news := by
  have nD : ∀ b o, g.get? b = some o → b ∉ D := fun b o e q => by rw [(hD b q).1] at e; cases e
  have nL : ∀ b o, g.get? b = some o → b ≠ L := fun b o e q => by rw [q, kts_self F] at e; cases e
  obtain ⟨T, S⟩ := kts_turn_at (h := h') (fs := outer.filterMap (·.frame)) (g := g)
    (fun b hb => by
      obtain ⟨_, o, ho, _⟩ := K.frames.mem hb
      exact ⟨o, ho⟩)
    (fun b o e nm => (c b o (nD b o e) (F.keep b o e)).1 fun hm => by
      rcases kts_mem hm with z | z
      · exact nL b o e z
      · exact nm z)
    (fun b o e hm => (c b o (nD b o e) (F.keep b o e)).2)
  obtain ⟨oL, es, ep, hL, hLd, hLk, hLf⟩ := F.ns
  obtain ⟨_, sl, hL'⟩ := c L oL (fun q => (hD L q).2 rfl) hL
  refine ⟨_, T, ⟨⟨_, es, ep, hL', hLd, hLk, hLf⟩, S, by rw [T.size]; exact F.above⟩, ⟨K.stack, fun b o e => T.other b o (K.stays b o e) (fun hm => by
    rw [(K.frames.mem hm).1] at e
    cases e), K.frames.of_keeps fun b o e _ => ?_⟩, fun news N hn p hp => ?_⟩
  · obtain ⟨sl, hs⟩ := T.up e
    exact ⟨_, hs, rfl⟩
  · have P := N p hp
    refine ⟨(c p.1 p.2 (hn p hp) P.1).1 fun hm => ?_, P.2.1, T.none_ _ P.2.2⟩
    rcases kts_mem hm with z | z
    · exact P.2.1 z
    · obtain ⟨_, o, ho, _⟩ := K.frames.mem z
      rw [P.2.2] at ho; cases ho
variable {b₀ : Stmt} {suite : List Stmt} {pos np : Pos} {rest : List ExceptHandler} {Q : Flow → Shared → Prop} {mean : ExcName → Option Value} {mg mb : Str → Option Value} {x : Str} {X T' : String}
/-- an exception that a call left behind is caught in this frame -/
theorem caught_flyM (R : Flies base G (envOf name scope L a cd :: outer) e X s'.heap) (F : Fr g L G m) (K : Below A₀ base outer g) (XB : (hd.heap_39 w.params).In base) (TB : Top hd.view_39 (looseW hd.view_39 []) mean mg mb base)
    (ex : nsIn (hd.heap_39 w.params) mainGlobals x = some none) (hv : bootBuiltins x = some (.type T')) (hn' : x ≠ "__name__")
    (hexc : isSubtype (.type T') (.type "BaseException") = pure true) (hnt : isSubtype (.type ((Manifest.find? T').elim "type" fun y => y.metatype)) (.type "tuple") = pure false) (hsub : isSubtype (.type X) (.type T') = pure true)
    (k : ∀ h' g', KtsTurn (outer.filterMap (·.frame)) g g' → Fr g' L h' m → Below A₀ base outer g' → (hd.heap_39 w.params).In g' → Top hd.view_39 (looseW hd.view_39 []) mean mg mb g' →
      wpAny (model prog w) ((A₀.deeper (envOf name scope L a cd)).mark (some (.ref e))) (execs (b₀ :: suite) (envOf name scope L a cd)) Q E { s' with heap := h' })
    (hk : scope.kind = .function := by rfl) (hx : (envOf name scope L a cd).kindOf x = some .globalImplicit := by rfl) (hd : (x == ("__debug__" : Str)) = false := by decide)
    (hE : PassesOwnAt (model prog w) ((A₀.deeper (envOf name scope L a cd)).mark (some (.ref e))) (A₀.deeper (envOf name scope L a cd)) (envOf name scope L a cd) E := by passes_own) :
    wpAny (model prog w) (A₀.deeper (envOf name scope L a cd)) (noteFrame (.ref e) (envOf name scope L a cd))
      (fun _ s₂ => wpAny (model prog w) (A₀.deeper (envOf name scope L a cd)) (setFlight (.ref e) none) (fun _ s₃ =>
        wpAny (model prog w) (A₀.deeper (envOf name scope L a cd)) (handleBy (.ref e) (envOf name scope L a cd) (.ExceptHandler (some (.Name x np)) none (b₀ :: suite) pos :: rest)) Q E s₃) E s₂) E s' := by
  obtain ⟨⟨B, a0, hB, hBG, hl, hfl⟩, hsm⟩ := R
  refine wpAny_looks_onW (Around.frames_deeper K.stack) rfl hfl fun h₄ hheld₄ hsm₄ => ?_
  refine wpAny_landsW hheld₄ fun h₅ hheld hsm₅' => ?_
  have hsm₅ := hsm₄.trans hsm₅'
  obtain ⟨g₅, T₅, F₅, K₅⟩ := kts_ground K F hBG hheld.1 (hsm.trans hsm₅)
  have X₅ := XB.keeps K₅.stays
  have P₅ := topRead_of (TB.keeps K₅.stays)
  obtain ⟨ob, hob, hobc⟩ := hheld.there
  refine wpAny_handleBy_builtin (X := X) (T := T') (b := true) hexc hnt hsub (name_B F₅ X₅ P₅ ex hv hn' ⟨rfl, ⟨ob, hob, hobc⟩, ?_⟩ hk hx hd)
  refine lands_againW hheld fun h₆ hfl₆ hsm₆ => ?_
  obtain ⟨g₆, T₆, F₆, K₆⟩ := kts_ground K F hBG hfl₆.1 ((hsm.trans hsm₅).trans hsm₆)
  exact wpAny_passesOwnAt hE (k h₆ g₆ T₆ F₆ K₆ (XB.keeps K₆.stays) (TB.keeps K₆.stays))
end
end
section
open PySem PySem.W PySem.Calls PyProof.Rows
theorem offF27 : True := by
  w_top off
  trivial
section
variable {prog : Program} {w : World} {A : Around} {E : Value → Shared → Prop} {base ti g h h' h₀ : Heap} {frs : List Env} {mean : ExcName → Option Value} {mg mb : Str → Option Value} {s : Shared} {k : Nat}
  {x dx d y dy e f L z dz c : Addr} {l l' l'' : List (Fin 9)} {v : Value} {i : Fin 9} {R : Result → Shared → Prop} {m : Str → Option Value} {news : List (Addr × Obj)} {u : Obj → List (Addr × Obj)} {es : List DictEntry} {n n₁ t ep : Nat}
  {qual : Str} {scope : Scope} {cdv : Value} {Q : Value → Shared → Prop}

theorem Cx.in1 (c : Cx w A base frs mean mg mb h (k + 1)) : Cx w A.in1 base frs mean mg mb h k := ⟨c.stays, c.kin, c.top, c.frames, c.stack, c.handled, c.room.in1⟩
theorem frC0 (F : Fr g L h m) (c : Chg [] h h') : Fr g L h' m := Fr.chg F c fun a ha => by simp at ha
theorem newsC0 (N : News g L h news) (c : Chg [] h h') : News g L h' news := News.chg N c fun p _ => by simp
theorem getitem_K {at_ : Int} {t₀ j : Nat} {kk : Fin 9} (C : Cx w A base frs mean mg mb h₀ (k + 4)) (B : Below A base frs g) (F : Fr g L s.heap m) (N : News g L s.heap news) (Ti : TupIn ti s.heap) (S : SetIs prog w ti s.heap x dx d l) (hj : l[j]? = some kk) (ha : at_ = j ∨ at_ = (j : Int) - l.length)
    (h : ∀ h' tk v, Fr g L h' m → News g L h' news → ItemAt ti v kk → Q v { s with heap := h', toks := tk }) (hk : scope.kind = .function := by rfl) :
    wpAny (model prog w) (A.deeper (envOf qual scope L f cdv)).in1 (call (.ref 244) [.ref x, .int at_ t₀]) Q E s :=
  wpAny_call (getitem_code (k := k) (C.inner B F hk).in1 Ti S hj ha fun h' tk v c hv => h h' tk v (frC0 F c) (newsC0 N c) hv)
theorem getitem_err_K {at_ : Int} {t₀ : Nat} (C : Cx w A base frs mean mg mb h₀ (k + 4)) (B : Below A base frs g) (F : Fr g L s.heap m) (Ti : TupIn ti s.heap) (S : SetIs prog w ti s.heap x dx d l) (ha : (l.length : Int) ≤ at_ ∨ at_ < -(l.length : Int))
    (h : ∀ h' tk e, Flies base s.heap (envOf qual scope L f cdv :: frs) e "IndexError" h' → E (.ref e) { s with heap := h', toks := tk }) (hk : scope.kind = .function := by rfl) :
    wpAny (model prog w) (A.deeper (envOf qual scope L f cdv)).in1 (call (.ref 244) [.ref x, .int at_ t₀]) Q E s :=
  wpAny_call (getitem_err (k := k) (C.inner B F hk).in1 Ti S ha h)
theorem has_no_place_in {at_ : Int} {t₀ j : Nat} {kk : Fin 9} (C : Cx w A base frs mean mg mb s.heap (k + 4)) (Ti : TupIn ti s.heap) (S : SetIs prog w ti s.heap x dx d l) (hj : l[j]? = some kk) (ha : at_ = j ∨ at_ = (j : Int) - l.length)
    (hR : ∀ h' tk, Chg [] s.heap h' → R (.ok (.ret (.bool false))) { s with heap := h', toks := tk }) :
    codeAny (model prog w) A (.call (.ref 326) ⟨[.ref x, .int at_ t₀], []⟩) R s := by
  refine enter0 C Ti (by k_is) (by k_is) (BindsTo.of_eq rfl) (locs rfl) fun g L h₁ hg Tg F N B X T => ?_
  obtain ⟨t, n, ep, es, Rx⟩ := S.reads hg (by simp)
  dsimp only
  k_steps
  refine getitem_K C B F N (Tg.up F) (Rx.set1 F) hj ha fun h₂ tk v F₂ N₂ hv => ?_
  clear F N
  k_steps
  exact hR _ _ (chg_of hg (by k_asm))
theorem has_no_place_out {at_ : Int} {t₀ : Nat} (C : Cx w A base frs mean mg mb s.heap (k + 4)) (Ti : TupIn ti s.heap) (S : SetIs prog w ti s.heap x dx d l) (ha : (l.length : Int) ≤ at_ ∨ at_ < -(l.length : Int))
    (hR : ∀ h' tk, ChgS [] frs s.heap h' → R (.ok (.ret (.bool true))) { s with heap := h', toks := tk }) :
    codeAny (model prog w) A (.call (.ref 326) ⟨[.ref x, .int at_ t₀], []⟩) R s := by
  refine enter0 C Ti (by k_is) (by k_is) (BindsTo.of_eq rfl) (locs rfl) fun g L h₁ hg Tg F N B X T => ?_
  obtain ⟨t, n, ep, es, Rx⟩ := S.reads hg (by simp)
  dsimp only
  k_steps
  refine getitem_err_K C B F (Tg.up F) (Rx.set1 F) ha fun h₂ tk e fl => ?_
  k_steps
  refine caught_flyM (T' := "IndexError") fl F B C.kin C.top (by k_is) (by boot_by_name) (by decide) PySem.F.isExc_IndexError PySem.F.notTuple_IndexError (by rw [isSubtype_type]; kernel_rfl) fun h₆ g₆ T₆ F₆ K₆ X₆ P₆ => ?_
  k_steps
  exact hR _ _ (chgS_of hg T₆ F₆)
end
end
section
open PySem PySem.W PySem.Calls PyProof.Rows
theorem offF28 : True := by
  w_top off
  trivial
section
variable {prog : Program} {w : World} {A : Around} {E : Value → Shared → Prop} {base ti g h h' h₀ : Heap} {frs : List Env} {mean : ExcName → Option Value} {mg mb : Str → Option Value} {s : Shared} {k : Nat}
  {x dx d y dy e f L z dz c : Addr} {l l' l'' : List (Fin 9)} {v : Value} {i : Fin 9} {R : Result → Shared → Prop} {m : Str → Option Value} {news : List (Addr × Obj)} {u : Obj → List (Addr × Obj)} {es : List DictEntry} {n n₁ t ep : Nat}
  {qual : Str} {scope : Scope} {cdv : Value} {Q : Value → Shared → Prop}
theorem union_err_L {nl : Nat} {vs : Array Value} (C : Cx w A base frs mean mg mb h₀ (k + 6)) (B : Below A base frs g) (F : Fr g L s.heap m) (Ti : TupIn ti s.heap) (S : SetIs prog w ti s.heap x dx d l) (hy : s.heap.get? y = some (listOf vs nl))
    (h : ∀ h' tk e, Flies base s.heap (envOf qual scope L f cdv :: frs) e "ValueError" h' → E (.ref e) { s with heap := h', toks := tk }) (hk : scope.kind = .function := by rfl) :
    wpAny (model prog w) (A.deeper (envOf qual scope L f cdv)) (call (.ref 106) [.ref x, .ref y]) Q E s :=
  wpAny_call (union_err (k := k) (C.inner B F hk) Ti S hy h)
theorem intersection_update_err_L {nl : Nat} {vs : Array Value} (C : Cx w A base frs mean mg mb h₀ (k + 6)) (B : Below A base frs g) (F : Fr g L s.heap m) (Ti : TupIn ti s.heap) (hy : s.heap.get? y = some (listOf vs nl))
    (h : ∀ h' tk e, Flies base s.heap (envOf qual scope L f cdv :: frs) e "ValueError" h' → E (.ref e) { s with heap := h', toks := tk }) (hk : scope.kind = .function := by rfl) :
    wpAny (model prog w) (A.deeper (envOf qual scope L f cdv)) (call (.ref 85) [.ref x, .ref y]) Q E s :=
  wpAny_call (intersection_update_err (k := k + 1) (C.inner B F hk) Ti hy h)
theorem issubset_err_L {nl : Nat} {vs : Array Value} (C : Cx w A base frs mean mg mb h₀ (k + 6)) (B : Below A base frs g) (F : Fr g L s.heap m) (Ti : TupIn ti s.heap) (hy : s.heap.get? y = some (listOf vs nl))
    (h : ∀ h' tk e, Flies base s.heap (envOf qual scope L f cdv :: frs) e "ValueError" h' → E (.ref e) { s with heap := h', toks := tk }) (hk : scope.kind = .function := by rfl) :
    wpAny (model prog w) (A.deeper (envOf qual scope L f cdv)) (call (.ref 258) [.ref x, .ref y]) Q E s :=
  wpAny_call (issubset_err (k := k + 1) (C.inner B F hk) Ti hy h)
theorem isdisjoint_err_L {nl : Nat} {vs : Array Value} (C : Cx w A base frs mean mg mb h₀ (k + 6)) (B : Below A base frs g) (F : Fr g L s.heap m) (Ti : TupIn ti s.heap) (hy : s.heap.get? y = some (listOf vs nl))
    (h : ∀ h' tk e, Flies base s.heap (envOf qual scope L f cdv :: frs) e "ValueError" h' → E (.ref e) { s with heap := h', toks := tk }) (hk : scope.kind = .function := by rfl) :
    wpAny (model prog w) (A.deeper (envOf qual scope L f cdv)) (call (.ref 272) [.ref x, .ref y]) Q E s :=
  wpAny_call (isdisjoint_err (k := k + 1) (C.inner B F hk) Ti hy h)
end
end
set_option hygiene false in
local macro_rules | `(tactic| walk_at "call ref") => `(tactic| (k_here; (with_reducible show wpAny _ _ (call (Value.ref 106) _ _) _ _ _); (try dsimp only [List.nil_append, List.cons_append]); refine' union_err_L ?C ?B ?F ?T ?S ?y ?_; (case C => assumption); (case B => assumption); (case F => k_asm); (case T => exact TupIn.up (by assumption) (by k_asm)); (case S => first | exact Reads1.set1 (by assumption) (by k_asm) | exact setIs_new (by k_asm) (by k_mem) (by k_mem) (by k_mem) (by assumption) | exact setIs_of (by k_asm) (by k_asm) (by assumption) (by assumption) (by k_mem) (by assumption)); (case y => exact News.get (by k_asm) (by k_mem)); k_whole; intro h' tk' e' fl'))
set_option hygiene false in
local macro_rules | `(tactic| walk_at "call ref") => `(tactic| (k_here; (with_reducible show wpAny _ _ (call (Value.ref 85) _ _) _ _ _); (try dsimp only [List.nil_append, List.cons_append]); refine' intersection_update_err_L ?C ?B ?F ?T ?y ?_; (case C => assumption); (case B => assumption); (case F => k_asm); (case T => exact TupIn.up (by assumption) (by k_asm)); (case y => exact News.get (by k_asm) (by k_mem)); k_whole; intro h' tk' e' fl'))
set_option hygiene false in
local macro_rules | `(tactic| walk_at "call ref") => `(tactic| (k_here; (with_reducible show wpAny _ _ (call (Value.ref 258) _ _) _ _ _); (try dsimp only [List.nil_append, List.cons_append]); refine' issubset_err_L ?C ?B ?F ?T ?y ?_; (case C => assumption); (case B => assumption); (case F => k_asm); (case T => exact TupIn.up (by assumption) (by k_asm)); (case y => exact News.get (by k_asm) (by k_mem)); k_whole; intro h' tk' e' fl'))
set_option hygiene false in
local macro_rules | `(tactic| walk_at "call ref") => `(tactic| (k_here; (with_reducible show wpAny _ _ (call (Value.ref 272) _ _) _ _ _); (try dsimp only [List.nil_append, List.cons_append]); refine' isdisjoint_err_L ?C ?B ?F ?T ?y ?_; (case C => assumption); (case B => assumption); (case F => k_asm); (case T => exact TupIn.up (by assumption) (by k_asm)); (case y => exact News.get (by k_asm) (by k_mem)); k_whole; intro h' tk' e' fl'))
section
open PySem PySem.W PySem.Calls PyProof.Rows
theorem offF29 : True := by
  w_top off
  trivial
section
variable {prog : Program} {w : World} {A : Around} {E : Value → Shared → Prop} {base ti g h h' h₀ : Heap} {frs : List Env} {mean : ExcName → Option Value} {mg mb : Str → Option Value} {s : Shared} {k : Nat}
  {x dx d y dy e f L z dz c : Addr} {l l' l'' : List (Fin 9)} {v : Value} {i : Fin 9} {R : Result → Shared → Prop} {m : Str → Option Value} {news : List (Addr × Obj)} {u : Obj → List (Addr × Obj)} {es : List DictEntry} {n n₁ t ep : Nat}
  {qual : Str} {scope : Scope} {cdv : Value} {Q : Value → Shared → Prop}

theorem refused_code {kd : Int} {t₀ : Nat} (C : Cx w A base frs mean mg mb s.heap (k + 8)) (Ti : TupIn ti s.heap) (S : SetIs prog w ti s.heap x dx d l)
    (hR : ∀ h' tk, ChgS [] frs s.heap h' → R (.ok (.ret (.bool true))) { s with heap := h', toks := tk }) :
    codeAny (model prog w) A (.call (.ref 319) ⟨[.ref x, .int kd t₀], []⟩) R s := by
  refine enter0 C Ti (by k_is) (by k_is) (BindsTo.of_eq rfl) (locs rfl) fun g L h₁ hg Tg F N B X T => ?_
  obtain ⟨t, n, ep, es, Rx⟩ := S.reads hg (by simp)
  dsimp only
  k_steps
  all_goals (rename Fr _ _ _ _ => F0; refine caught_flyM (T' := "ValueError") fl' F0 B C.kin C.top (by k_is) (by boot_by_name) (by decide) PySem.F.isExc_ValueError PySem.F.notTuple_ValueError (by rw [isSubtype_type]; kernel_rfl) fun h₆ g₆ T₆ F₆ K₆ X₆ P₆ => ?_; clear F0; k_steps; exact hR _ _ (chgS_of hg T₆ F₆))
end
end
section
open PySem PySem.W PySem.Calls PyProof.Rows
section
variable {prog : Program} {w : World} {A : Around} {base g h h₀ : Heap} {frs : List Env} {mean : ExcName → Option Value} {mg mb : Str → Option Value} {k : Nat} {s : Shared}
  {L : Addr} {m : Str → Option Value} {news : List (Addr × Obj)} {env : Env}
theorem Cx.innerX (C : Cx w A base frs mean mg mb h₀ (k + 1)) (B : Below A base frs g) (F : Fr g L h m) (hf : env.frame = some L) (hk : env.scope.kind = .function) : Cx w (A.deeper env) base (env :: frs) mean mg mb h k where
  stays := fun b o e => F.keep b o (B.stays b o e)
  kin := C.kin
  top := C.top
  frames := (pushX B F hf hk).frames
  stack := Around.frames_deeper C.stack
  handled := C.handled
  room := C.room.deeper
theorem kts_memX {b : Addr} (hf : env.frame = some L) (hm : b ∈ (env :: frs).filterMap (·.frame)) : b = L ∨ b ∈ frs.filterMap (·.frame) := by
  rw [List.filterMap_cons, hf] at hm
  exact List.mem_cons.mp hm
/-- a def with cells is entered -/
theorem enterC (C : Cx w A base frs mean mg mb s.heap k) (D : List Addr) (hD : ∀ a ∈ D, base.get? a = none ∧ a ∉ frs.filterMap (·.frame))
    {R : Result → Shared → Prop} {name qual : Str} {params : Arguments} {body : List Stmt} {scope : Scope} {dV kV doc pm cdv ct oc : Value} {an od : Option Addr} {osl : Array (Option Value)} {f : Addr} {args : Args} {binds : List (Str × Value)}
    (ho : (hd.heap_39 w.params).lookup f = some ⟨oc, od, .func (fnOf name qual params body scope dV kV doc pm an cdv ct), osl⟩) (hcd : codeIn (hd.heap_39 w.params) cdv qual = true)
    (hbind : BindsTo s (fnOf name qual params body scope dV kV doc pm an cdv ct) args binds) (hkind : (binds.all fun y => scope.names.lookup y.1 == some .local || scope.names.lookup y.1 == some .cell) = true)
    (hnd : ((cellsFrom 0 scope.names []).map (·.1)).Nodup)
    (h : ∀ g L h₁ tk cells, (∀ b o, s.heap.get? b = some o → b ∉ D → g.get? b = some o) → (∀ a ∈ D, g.get? a = none) → (∀ b o, s.heap.get? b = some o → h₁.get? b = some o ∧ b < L) →
      Fr g L h₁ (bindL (envOfC qual scope L f cdv).kindOf binds fun _ => none) → News g L h₁ cells → CellsAre (bindC (envOfC qual scope L f cdv).kindOf binds fun _ => none) (cellsFrom (L + 1) scope.names []) cells → (∀ p ∈ cells, s.heap.get? p.1 = none) →
      Below A base frs g → (hd.heap_39 w.params).In g → Top hd.view_39 (looseW hd.view_39 []) mean mg mb g →
      wpAny (model prog w) (A.deeper (envOfC qual scope L f cdv)) (execs body (envOfC qual scope L f cdv))
        (fun fl s' => R (.ok (.ret (match fl with | .ret v => v | _ => .none))) s')
        (fun e s' => wpAny (model prog w) (A.deeper (envOfC qual scope L f cdv)) (leaving (envOfC qual scope L f cdv) e) (fun _ s'' => R (.error e) s'') (fun e' s'' => R (.error e') s'') s')
        { s with heap := h₁, toks := tk })
    (hco : scope.isCoroutine = false := by rfl) (hgen : scope.isGenerator = false := by rfl) (hk : scope.kind = .function := by rfl) : codeAny (model prog w) A (.call (.ref f) args) R s := by
  have X : (hd.heap_39 w.params).In s.heap := C.kin.keeps C.stays
  refine codeAny_call_function C.room.depth (X _ _ ho) rfl hco hgen rfl (codeRec_of X hcd) (hbind _ _ _ _ ?_)
  refine wpAny_newFunctionEnv_cells hk (kindsX hkind _) fun env' he s' x => ?_
  subst he
  refine ⟨(C.top.nolimit.keeps C.stays).keeps x.toInCall.keep, codeAny_func ?_⟩
  obtain ⟨h₁, tk, rfl, _⟩ := x.done
  have hk₁ := x.toInCall.keep
  obtain ⟨cells, NC, Y⟩ := Cl.news (h₀ := s.heap) (Nat.le_refl _) fun n c hm => ⟨x.cell n c (lookup_of_mem_nodup (cellsFrom_names scope.names 0 (s.heap.objs.size + 1) [] [] rfl ▸ hnd) hm), x.above n c hm⟩
  have st : base.StaysIn (hideAll s.heap D) := fun b o e => hideAll_get _ (C.stays b o e) fun q => by rw [(hD b q).1] at e; cases e
  exact h (hideAll s.heap D) s.heap.objs.size h₁ tk cells (fun b o e n => hideAll_get _ e n) (fun a ha => hideAll_none _ ha) (fun b o e => ⟨hk₁ b o e, Heap.lt_size e⟩)
    ⟨x.toInCall.ns, fun b o e => hk₁ b o (of_hideAll _ e), Nat.le_of_eq (hideAll_size _ _)⟩
    (fun p hp => ⟨(NC p hp).1, (NC p hp).2.1, by
      cases q : (hideAll s.heap D).get? p.1 with
      | none => rfl
      | some o => have := of_hideAll _ q; rw [(NC p hp).2.2] at this; cases this⟩) Y (fun p hp => (NC p hp).2.2)
    ⟨C.stack, st, funFrames_hideAll C.frames fun env he a ha hf => (hD a ha).2 (List.mem_filterMap.mpr ⟨env, he, hf⟩)⟩ (C.kin.keeps st) (C.top.keeps st)
end
end
section
open PySem PySem.W PySem.Calls PyProof.Rows
/-- the values vs are the items rl, by ti's tuples -/
inductive Row (ti : Heap) : List Value → List (Fin 9) → Prop
  | nil : Row ti [] []
  | cons {v vs i rl} : ItemAt ti v i → Row ti vs rl → Row ti (v :: vs) (i :: rl)
section
variable {ti ti' h : Heap} {vs ws : List Value} {rl sl : List (Fin 9)} {v : Value} {i : Fin 9}
theorem Row.length (r : Row ti vs rl) : vs.length = rl.length := by induction r with | nil => rfl | cons _ _ ih => simp [ih]
theorem Row.get (r : Row ti vs rl) : ∀ {j : Nat} {v : Value}, vs[j]? = some v → ∃ i, rl[j]? = some i ∧ ItemAt ti v i := by
  induction r with
  | nil => intro j v h; simp at h
  | cons a _ ih =>
    intro j v h
    cases j with
    | zero => simp at h; subst h; exact ⟨_, rfl, a⟩
    | succ j => simp at h; obtain ⟨i, hi, x⟩ := ih h; exact ⟨i, by simpa using hi, x⟩
theorem Row.append (r : Row ti vs rl) (q : Row ti ws sl) : Row ti (vs ++ ws) (rl ++ sl) := by
  induction r with
  | nil => exact q
  | cons a _ ih => exact .cons a ih
theorem Row.keep (r : Row ti vs rl) (T : TupIn ti ti') : Row ti' vs rl := by
  induction r with
  | nil => exact .nil
  | cons a _ ih => exact .cons (T.item a) ih
theorem Row.reverse (r : Row ti vs rl) : Row ti vs.reverse rl.reverse := by
  induction r with
  | nil => exact .nil
  | cons a _ ih => rw [List.reverse_cons, List.reverse_cons]; exact ih.append (.cons a .nil)
theorem Row.readsAll (r : Row ti vs rl) : ∃ as, ReadsAll ti vs (rl.map dat) as := by
  induction r with
  | nil => exact ⟨_, .nil⟩
  | cons a _ ih =>
    obtain ⟨as, q⟩ := ih
    obtain ⟨bs, p⟩ := a
    exact ⟨_, .cons p q⟩
noncomputable def itemP (ti : Heap) (c : Fin 9 → Bool) (v : Value) : Bool := open Classical in decide (∃ i, ItemAt ti v i ∧ c i = true)
theorem itemP_eq {c : Fin 9 → Bool} (x : ItemAt ti v i) : itemP ti c v = c i := by
  unfold itemP
  cases hc : c i with
  | true => simp only [decide_eq_true_eq]; exact ⟨i, x, hc⟩
  | false =>
    simp only [decide_eq_false_iff_not]
    rintro ⟨j, y, hj⟩
    rw [item_inj y x, hc] at hj; cases hj
theorem Row.filter (c : Fin 9 → Bool) (r : Row ti vs rl) : Row ti (vs.filter (itemP ti c)) (rl.filter c) := by
  induction r with
  | nil => exact .nil
  | @cons v vs i rl a _ ih =>
    rw [List.filter_cons, List.filter_cons, itemP_eq a]
    cases c i with
    | true => exact .cons a ih
    | false => exact ih
/-- r is a list in h of the row rl -/
def RowIs (ti h : Heap) (r : Addr) (rl : List (Fin 9)) : Prop := ∃ vs n, h.get? r = some (listOf vs.toArray n) ∧ Row ti vs rl
theorem RowIs.reads {r : Addr} (x : RowIs ti h r rl) (T : TupIn ti h) : ∃ as, Reads h (.ref r) (.list (rl.map dat)) as := by
  obtain ⟨vs, n, hr, q⟩ := x
  obtain ⟨as, p⟩ := (q.keep T).readsAll
  exact ⟨_, .list hr rfl rfl (by simpa using p)⟩
theorem lay_all (rl : List (Fin 9)) : PyData.canLayAll0 (rl.map dat) = true := by
  induction rl with
  | nil => rfl
  | cons i rl ih => simp [PyData.canLayAll0, dat_lay, ih]
theorem depth_all (rl : List (Fin 9)) : PyData.depthAll (rl.map dat) ≤ 1 := by
  induction rl with
  | nil => simp [PyData.depthAll]
  | cons i rl ih => simp only [List.map_cons, PyData.depthAll]; exact Nat.max_le.mpr ⟨dat_depth i, ih⟩
theorem any_dat (rl : List (Fin 9)) (k : Fin 9) : ((rl.map dat).any fun y => PyData.eqv y (dat k)) = decide (k ∈ rl) := by
  induction rl with
  | nil => simp
  | cons i rl ih =>
    rw [List.map_cons, List.any_cons, ih, dat_eqv]
    by_cases h : i = k
    · simp [h]
    · have : k ≠ i := fun e => h e.symm
      simp [h, this]
theorem eqv_rows (rl sl : List (Fin 9)) : PyData.eqv (.list (rl.map dat)) (.list (sl.map dat)) = decide (rl = sl) := by
  rw [PyData.eqv]
  induction rl generalizing sl with
  | nil => cases sl <;> simp [PyData.eqvAll]
  | cons i rl ih =>
    cases sl with
    | nil => simp [PyData.eqvAll]
    | cons k sl =>
      simp only [List.map_cons, PyData.eqvAll, ih, dat_eqv]
      by_cases h : i = k <;> simp [h]
end
section
variable {prog : Program} {w : World} {A : Around} {E : Value → Shared → Prop} {s : Shared} {ti : Heap} {r r' : Addr} {rl sl : List (Fin 9)} {v : Value} {k : Fin 9} {Q : Value → Shared → Prop}
theorem in_row (Ti : TupIn ti s.heap) (x : RowIs ti s.heap r rl) (hv : ItemAt ti v k) (hu : A.units + 2 < cLine) (h : Q (.bool (decide (k ∈ rl))) s) : wpAny (model prog w) A (compareOp .In v (.ref r)) Q E s := by
  obtain ⟨as, ra⟩ := x.reads Ti
  obtain ⟨bs, rb⟩ := Ti.item hv
  refine SeqAt.in_list_reads ra rb (lay_all _) (dat_lay _) ?_ (by rw [any_dat]; exact h)
  have := Nat.min_le_left (PyData.depthAll (rl.map dat)) (dat k).depth
  have := depth_all rl
  omega
theorem notIn_row (Ti : TupIn ti s.heap) (x : RowIs ti s.heap r rl) (hv : ItemAt ti v k) (hu : A.units + 2 < cLine) (h : Q (.bool (!decide (k ∈ rl))) s) : wpAny (model prog w) A (compareOp .NotIn v (.ref r)) Q E s := by
  obtain ⟨as, ra⟩ := x.reads Ti
  obtain ⟨bs, rb⟩ := Ti.item hv
  refine SeqAt.notIn_list_reads ra rb (lay_all _) (dat_lay _) ?_ (by rw [any_dat]; exact h)
  have := Nat.min_le_left (PyData.depthAll (rl.map dat)) (dat k).depth
  have := depth_all rl
  omega
theorem lay_row (rl : List (Fin 9)) : (PyData.list (rl.map dat)).canLay0 = true := by simp [PyData.canLay0, lay_all]
theorem depth_row (rl : List (Fin 9)) : (PyData.list (rl.map dat)).depth ≤ 2 := by have := depth_all rl; simp only [PyData.depth]; omega
theorem eq_row (Ti : TupIn ti s.heap) (x : RowIs ti s.heap r rl) (y : RowIs ti s.heap r' sl) (hu : A.units + 2 < cLine) (h : Q (.bool (decide (rl = sl))) s) : wpAny (model prog w) A (compareOp .Eq (.ref r) (.ref r')) Q E s := by
  obtain ⟨as, ra⟩ := x.reads Ti
  obtain ⟨bs, rb⟩ := y.reads Ti
  refine SeqAt.compareEq_reads ra rb (lay_row _) (lay_row _) ?_ (by rw [eqv_rows]; exact h)
  have := Nat.min_le_left (PyData.list (rl.map dat)).depth (PyData.list (sl.map dat)).depth
  have := depth_row rl
  omega
theorem ne_row (Ti : TupIn ti s.heap) (x : RowIs ti s.heap r rl) (y : RowIs ti s.heap r' sl) (hu : A.units + 2 < cLine) (h : Q (.bool (!decide (rl = sl))) s) : wpAny (model prog w) A (compareOp .NotEq (.ref r) (.ref r')) Q E s := by
  obtain ⟨as, ra⟩ := x.reads Ti
  obtain ⟨bs, rb⟩ := y.reads Ti
  refine SeqAt.compareNe_reads ra rb (lay_row _) (lay_row _) ?_ (by rw [eqv_rows]; exact h)
  have := Nat.min_le_left (PyData.list (rl.map dat)).depth (PyData.list (sl.map dat)).depth
  have := depth_row rl
  omega
end
end
section
open PySem PySem.W PySem.Calls PyProof.Rows
section
variable {prog : Program} {w : World} {A : Around} {E : Value → Shared → Prop} {s : Shared} {ti g : Heap} {L ra rb : Addr} {m : Str → Option Value} {news : List (Addr × Obj)} {vs : List Value} {al bl : List (Fin 9)} {na : Nat}
  {env : Env} {x it fr : Str} {px ep ip cp cp' fp pos : Pos} {sc : Scope} {cl : List (Str × Addr)} {op : CmpOp} {c : Fin 9 → Bool} {Q : Value → Shared → Prop} {cit cfr : Addr} {ofr : Obj}
theorem paired_eq {l₁ l₂ : List Value} (p : Paired (fun v y => y = v) l₁ l₂) : l₂ = l₁ := by
  induction p with
  | nil => rfl
  | cons e _ ih => rw [e, ih]
/-- [x for x in it if x op fr] over rows -/
theorem filtcomp (hh : A.handled = none) (hu : A.units + 2 < cLine) (F : Fr g L s.heap m) (N : News g L s.heap news) (Ti : TupIn ti s.heap)
    (hra : s.heap.get? ra = some (listOf vs.toArray na)) (Ra : Row ti vs al) (Rb : RowIs ti s.heap rb bl) (hz : vs.length ≤ 1000)
    (hev : ∀ {E : Value → Shared → Prop} {Q : Value → Shared → Prop}, Q (.ref ra) s → wpAny (model prog w) A (eval (.Name it ip) env) Q E s)
    (hfc : cl.lookup fr = some cfr) (hfm : s.heap.get? cfr = some ofr) (hfd : ofr.data = .cell (some (.ref rb)))
    (hop : ∀ {E : Value → Shared → Prop} {s' : Shared} {Q : Value → Shared → Prop} {v : Value} {k : Fin 9}, TupIn ti s'.heap → RowIs ti s'.heap rb bl → ItemAt ti v k → Q (.bool (c k)) s' → wpAny (model prog w) A (compareOp op v (.ref rb)) Q E s')
    (h : ∀ h' D n' tk vs', Fr g L h' m → News g L h' ((D, listOf vs'.toArray n') :: news) → (∀ p ∈ news, @Ne Nat p.1 D) → Row ti vs' (al.filter c) → Chg [] s.heap h' → Q (.ref D) { s with heap := h', toks := tk })
    (hclos : closureFor sc env = pure cl) (hfk : ∀ C, (compEnvC sc cl C env).kindOf fr = some .cell)
    (hdb : (x == ("__debug__" : Str)) = false := by decide) (hdf : (fr == ("__debug__" : Str)) = false := by decide)
    (hcell : ∀ y ∈ sc.names, y.2 ≠ .cell := by decide) (hkind : sc.kind = .function := by rfl)
    (hnames : ∀ y ∈ sc.names, y.2 = .local → sc.names.lookup y.1 = some .local := by decide) (hx : sc.names.lookup x = some .local := by rfl)
    (hs : ∀ x, foldedSetIterable (.Name it ip) env x = pure x := by intro _; rfl) (hmk : behindInMarks op (.Name fr fp) = false := by with_unfolding_all rfl) :
    wpAny (model prog w) A (eval (.ListComp (.Name x ep) [⟨.Name x px, .Name it ip, [.Compare (.Name x cp) [op] [.Name fr fp] cp'], 0⟩] sc pos) env) Q E s := by
  refine wpAny_ListComp_free (itemP ti c) (fun v y => y = v) hclos hcell hkind hnames hx (hev ?_) hs
  have hl : s.heap.IsList ra vs.toArray := ⟨_, hra, rfl, na, rfl⟩
  have hne : ra ≠ s.heap.objs.size := Nat.ne_of_lt (Heap.lt_size hra)
  have hsz : vs.toArray.size = vs.length := by simp
  refine wpAny_pyIter_list hl ?_
  refine ⟨s.heap.objs.size, _, _, _, _, _, rfl, Walks.list hh s.heap.objs.size ra hne vs.toArray, by rw [hsz]; have : sizeLine = sizeLine := rfl; exact Nat.le_trans hz (by decide), ⟨⟨_, Heap.get?_push_size _ rfl, rfl, rfl⟩, hl.at fun o e => Heap.get?_push_of_some _ e⟩, fun b hb => ?_, ⟨?_, ?_⟩, ?_⟩
  · simp only [Heap.size_push]
    rcases List.mem_cons.mp hb with rfl | hb
    · exact Nat.lt_succ_self _
    · rw [List.mem_singleton.mp hb]; exact Nat.lt_succ_of_lt (Heap.lt_size hra)
  · intro C i v s₃ m₃ E' _ hP hn hm hkp _
    have up : ∀ b o, s.heap.get? b = some o → s₃.heap.get? b = some o := fun b o e => hkp b o (by simpa using Nat.ne_of_lt (Heap.lt_size e)) (Heap.get?_push_of_some _ e)
    obtain ⟨k, _, hv⟩ := Ra.get (by simpa using hP : vs[i]? = some v)
    have T₃ : TupIn ti s₃.heap := fun b o e cc => up b o (Ti b o e cc)
    obtain ⟨ws, nb, hb, rb'⟩ := Rb
    refine wpAny_tests_one (wpAny_isTrue_Compare1 (wpAny_Name (wpAny_loadName_local (by simp [compEnvC, relabel, hkind]) (lookup_relabel_local hx) hn hm ?_) hdb) hmk)
    refine wpAny_Name (wpAny_loadName_cell (by simp [compEnvC, relabel, hkind]) (hfk C) hfc ⟨_, up _ _ hfm, hfd⟩ ?_) hdf
    refine hop T₃ ⟨ws, nb, up _ _ hb, rb'⟩ hv (wpAny_truthy_bool ⟨(itemP_eq hv).symm, ?_⟩)
    exact ⟨_, _, rfl, fun _ _ e => e⟩
  · intro C i v s₃ m₃ E' _ hP hp hn hm hkp _
    exact wpAny_Name (wpAny_loadName_local (by simp [compEnvC, relabel, hkind]) (lookup_relabel_local hx) hn hm ⟨rfl, ⟨_, _, rfl, fun _ _ e => e⟩⟩) hdb
  · intro D h' tk ys ws hD hl' hpl hlen hP hF hkp
    have hws : ws = vs := by
      apply List.ext_getElem?
      intro j
      rcases Nat.lt_or_ge j ws.length with q | q
      · have := hP j ws[j] (by simp [q])
        rw [List.getElem?_eq_getElem q, ← this]; simp
      · rw [List.getElem?_eq_none q, List.getElem?_eq_none (by rw [← hsz, ← hlen]; exact q)]
    subst hws
    have hys := paired_eq hF
    obtain ⟨n', hD'⟩ := hpl
    have e : listOf (ws.filter (itemP ti c)).toArray n' = { cls := .type "list", data := .seq ys n' } := by rw [← hys]
    have ch : Chg [] s.heap h' := fun b o _ e => hkp b o (by simpa using Nat.ne_of_lt (Heap.lt_size e)) (Heap.get?_push_of_some _ e)
    have fD : s.heap.get? D = none := Option.eq_none_iff_forall_ne_some.mpr fun o q => by have := Heap.get?_push_of_some { cls := .type "list_iterator", data := .fields #[.ref ra, .int 0 0] } q; rw [hD] at this; cases this
    refine h h' D n' tk _ (frC0 F ch) (News.add (newsC0 N ch) (e ▸ hD') (fun q => ?_) (Option.eq_none_iff_forall_ne_some.mpr fun o q => ?_)) (fun p hp q => ?_) (Ra.filter c) ch
    · obtain ⟨o, _, _, ho, _⟩ := F.ns; rw [← q, fD] at ho; cases ho
    · have := F.keep _ _ q; rw [fD] at this; cases this
    · have := (N p hp).1; rw [show p.1 = D from q, fD] at this; cases this
end
end
section
open PySem PySem.W PySem.Calls PyProof.Rows
theorem offF30 : True := by
  w_top off
  trivial
section
variable {prog : Program} {w : World} {A : Around} {E : Value → Shared → Prop} {base ti g h h' h₀ : Heap} {frs : List Env} {mean : ExcName → Option Value} {mg mb : Str → Option Value} {s : Shared} {k : Nat}
  {x dx d y dy e f L z dz c : Addr} {l l' l'' : List (Fin 9)} {v : Value} {i : Fin 9} {R : Result → Shared → Prop} {m : Str → Option Value} {news : List (Addr × Obj)} {u : Obj → List (Addr × Obj)} {es : List DictEntry} {n n₁ t ep : Nat}
  {qual : Str} {scope : Scope} {cdv : Value} {Q : Value → Shared → Prop}

def due (kd : Int) (a b : List (Fin 9)) : List (Fin 9) := if kd = 0 then uniL a b else if kd = 1 then intL a b else if kd = 2 then difL a b else symL a b
theorem due_code {kd : Int} {t₀ : Nat} {ra rb : Addr} {al bl : List (Fin 9)} (C : Cx w A base frs mean mg mb s.heap (k + 4)) (Ti : TupIn ti s.heap) (Ra : RowIs ti s.heap ra al) (Rb : RowIs ti s.heap rb bl) (ha : al.length ≤ 100) (hb : bl.length ≤ 100)
    (hR : ∀ h' tk D, Chg [] s.heap h' → Fresh s.heap [D] → RowIs ti h' D (due kd al bl) → R (.ok (.ret (.ref D))) { s with heap := h', toks := tk }) :
    codeAny (model prog w) A (.call (.ref 298) ⟨[.int kd t₀, .ref ra, .ref rb], []⟩) R s := by
  obtain ⟨va, na, sra, Ra⟩ := Ra
  obtain ⟨vb, nb, srb, Rb⟩ := Rb
  refine enterC C [] (fun _ h => by simp at h) (by k_is) (by k_is) (BindsTo.of_eq rfl) rfl (by decide +kernel) fun g L h₁ tk cells hg _ hk1 F N Y hcs B X T => ?_
  have Tg : TupIn ti g := fun b o e c => hg b o (Ti b o e c) (by simp)
  have gra := hg _ _ sra (by simp)
  have grb := hg _ _ srb (by simp)
  k_cells Y
  rename_i o1 o2 d1 d2
  replace d1 : o1.data = .cell (some (.ref rb)) := d1
  replace d2 : o2.data = .cell (some (.ref ra)) := d2
  replace F : Fr g L h₁ (fun z => if z = Str.ofString "kind" then some (.int kd t₀) else none) := F
  replace N : News g L h₁ [(L + 1 + 1, o1), (L + 1, o2)] := N
  clear hcs hk1
  k_steps
  · refine filtcomp (c := (fun i => !decide (i ∈ al))) C.handled (Room.units C.room.deeper) F N (Tg.up F) (F.keep _ _ grb) Rb ⟨_, _, F.keep _ _ gra, Ra⟩ (by rw [Row.length Rb]; omega)
      (fun hQ => nameX_C N rfl (by k_mem) d1 hQ) (cfr := L + 1) rfl (N.get (by k_mem)) d2 (fun T' R' v' q => notIn_row T' R' v' (Room.units C.room.deeper) q)
      (fun h2 D2 n2 tk2 vs2 F2 N2 off2 Row2 c2 => ?_) rfl (fun _ => rfl)
    clear F N
    refine add_lists F2 N2 ⟨_, F2.keep _ _ gra, rfl, _, rfl⟩ ⟨_, N2.get (.head _), rfl, _, rfl⟩ (fun h3 F3 N3 => ?_) (by have := Row.length Ra; have := Row.length Rb; have := Row2.length; have := List.length_filter_le (fun i => !decide (i ∈ al)) bl; exact Nat.le_trans (by omega : _ ≤ 400) (by decide))
    refine hR _ _ _ (chg_of hg F3) (Fresh.cons hg N3 (.head _) (by simp) (Fresh.nil _)) ⟨_, _, N3.get (.head _), ?_⟩
    rw [due, if_pos (by assumption)]
    exact Ra.append Row2
  · refine filtcomp (c := (fun i => decide (i ∈ bl))) C.handled (Room.units C.room.deeper) F N (Tg.up F) (F.keep _ _ gra) Ra ⟨_, _, F.keep _ _ grb, Rb⟩ (by rw [Row.length Ra]; omega)
      (fun hQ => nameX_C N rfl (by k_mem) d2 hQ) (cfr := L + 1 + 1) rfl (N.get (by k_mem)) d1 (fun T' R' v' q => in_row T' R' v' (Room.units C.room.deeper) q)
      (fun h2 D2 n2 tk2 vs2 F2 N2 off2 Row2 c2 => ?_) rfl (fun _ => rfl)
    clear F N
    refine hR _ _ _ (chg_of hg F2) (Fresh.cons hg N2 (.head _) (by simp) (Fresh.nil _)) ⟨_, _, N2.get (.head _), ?_⟩
    rw [due, if_neg (by assumption), if_pos (by assumption)]
    exact Row2
  · refine filtcomp (c := (fun i => !decide (i ∈ bl))) C.handled (Room.units C.room.deeper) F N (Tg.up F) (F.keep _ _ gra) Ra ⟨_, _, F.keep _ _ grb, Rb⟩ (by rw [Row.length Ra]; omega)
      (fun hQ => nameX_C N rfl (by k_mem) d2 hQ) (cfr := L + 1 + 1) rfl (N.get (by k_mem)) d1 (fun T' R' v' q => notIn_row T' R' v' (Room.units C.room.deeper) q)
      (fun h2 D2 n2 tk2 vs2 F2 N2 off2 Row2 c2 => ?_) rfl (fun _ => rfl)
    clear F N
    refine hR _ _ _ (chg_of hg F2) (Fresh.cons hg N2 (.head _) (by simp) (Fresh.nil _)) ⟨_, _, N2.get (.head _), ?_⟩
    rw [due, if_neg (by assumption), if_neg (by assumption), if_pos (by assumption)]
    exact Row2
  · refine filtcomp (c := (fun i => !decide (i ∈ bl))) C.handled (Room.units C.room.deeper) F N (Tg.up F) (F.keep _ _ gra) Ra ⟨_, _, F.keep _ _ grb, Rb⟩ (by rw [Row.length Ra]; omega)
      (fun hQ => nameX_C N rfl (by k_mem) d2 hQ) (cfr := L + 1 + 1) rfl (N.get (by k_mem)) d1 (fun T' R' v' q => notIn_row T' R' v' (Room.units C.room.deeper) q)
      (fun h2 D2 n2 tk2 vs2 F2 N2 off2 Row2 c2 => ?_) rfl (fun _ => rfl)
    clear F N
    refine filtcomp (c := (fun i => !decide (i ∈ al))) C.handled (Room.units C.room.deeper) F2 N2 (Tg.up F2) (F2.keep _ _ grb) Rb ⟨_, _, F2.keep _ _ gra, Ra⟩ (by rw [Row.length Rb]; omega)
      (fun hQ => nameX_C N2 rfl (by k_mem) d1 hQ) (cfr := L + 1) rfl (N2.get (by k_mem)) d2 (fun T' R' v' q => notIn_row T' R' v' (Room.units C.room.deeper) q)
      (fun h3 D3 n3 tk3 vs3 F3 N3 off3 Row3 c3 => ?_) rfl (fun _ => rfl)
    clear F2 N2
    refine add_lists F3 N3 ⟨_, N3.get (.tail _ (.head _)), rfl, _, rfl⟩ ⟨_, N3.get (.head _), rfl, _, rfl⟩ (fun h4 F4 N4 => ?_) (by have := Row.length Ra; have := Row.length Rb; have := Row2.length; have := Row3.length; have := List.length_filter_le (fun i => !decide (i ∈ al)) bl; have := List.length_filter_le (fun i => !decide (i ∈ bl)) al; exact Nat.le_trans (by omega : _ ≤ 400) (by decide))
    refine hR _ _ _ (chg_of hg F4) (Fresh.cons hg N4 (.head _) (by simp) (Fresh.nil _)) ⟨_, _, N4.get (.head _), ?_⟩
    rw [due, if_neg (by assumption), if_neg (by assumption), if_neg (by assumption)]
    exact Row2.append Row3
end
end
section
open PySem PySem.W PySem.Calls PyProof.Rows
theorem offF31 : True := by
  w_top off
  trivial
section
variable {prog : Program} {w : World} {A : Around} {E : Value → Shared → Prop} {base ti g h h' h₀ : Heap} {frs : List Env} {mean : ExcName → Option Value} {mg mb : Str → Option Value} {s : Shared} {k : Nat}
  {x dx d y dy e f L z dz c : Addr} {l l' l'' : List (Fin 9)} {v : Value} {i : Fin 9} {R : Result → Shared → Prop} {m : Str → Option Value} {news : List (Addr × Obj)} {u : Obj → List (Addr × Obj)} {es : List DictEntry} {n n₁ t ep : Nat}
  {qual : Str} {scope : Scope} {cdv : Value} {Q : Value → Shared → Prop}

theorem all_filter (l l' : List (Fin 9)) : decide (List.filter (fun i => !decide (i ∈ l')) l = []) = l.all fun i => decide (i ∈ l') := by
  rw [Bool.eq_iff_iff]; simp [List.filter_eq_nil_iff, List.all_eq_true]
theorem any_filter (l l' : List (Fin 9)) : decide (List.filter (fun i => decide (i ∈ l')) l = []) = l'.all fun i => !decide (i ∈ l) := by
  rw [Bool.eq_iff_iff]; simp only [decide_eq_true_eq, List.filter_eq_nil_iff, List.all_eq_true, Bool.not_eq_true', decide_eq_false_iff_not]
  exact ⟨fun h x hx hl => h x hl hx, fun h x hx hl => h x hl hx⟩
theorem sub_len : ∀ {a b : List (Fin 9)}, a.Nodup → (∀ x ∈ a, x ∈ b) → a.length ≤ b.length
  | [], _, _, _ => Nat.zero_le _
  | x :: a, b, hn, h => by
    have hx := h x (.head _)
    have := sub_len (a := a) (b := b.erase x) (List.nodup_cons.mp hn).2 fun y hy => (List.mem_erase_of_ne (fun e => by rw [e] at hy; exact (List.nodup_cons.mp hn).1 hy)).mpr (h y (.tail _ hy))
    rw [List.length_erase_of_mem hx] at this
    have := List.length_pos_of_mem hx
    simp only [List.length_cons]; omega
theorem sameL_all {a b : List (Fin 9)} (ha : a.Nodup) (hb : b.Nodup) : sameL a b = ((a.all fun i => decide (i ∈ b)) && b.all fun i => decide (i ∈ a)) := by
  unfold sameL
  rw [Bool.eq_iff_iff]
  simp only [Bool.and_eq_true, beq_iff_eq, List.all_eq_true, decide_eq_true_eq]
  refine ⟨fun h => ⟨h.2, fun x hx => ?_⟩, fun h => ⟨Nat.le_antisymm (sub_len ha h.1) (sub_len hb h.2), h.1⟩⟩
  by_cases q : x ∈ a
  · exact q
  · have := sub_len (a := x :: a) (b := b) (List.nodup_cons.mpr ⟨q, ha⟩) fun y hy => by
      rcases List.mem_cons.mp hy with rfl | hy
      · exact hx
      · exact h.2 y hy
    simp only [List.length_cons] at this; omega
theorem retb {b : Bool} {s' : Shared} (hb : b = true) (q : R (.ok (.ret (.bool true))) s') : R (.ok (.ret (.bool b))) s' := hb ▸ q
theorem related_code {ra rb : Addr} (C : Cx w A base frs mean mg mb s.heap (k + 8)) (Ti : TupIn ti s.heap) (S : SetIs prog w ti s.heap x dx d l) (S' : SetIs prog w ti s.heap y dy e l') (Ra : RowIs ti s.heap ra l) (Rb : RowIs ti s.heap rb l')
    (hR : ∀ h' tk, Chg [] s.heap h' → R (.ok (.ret (.bool true))) { s with heap := h', toks := tk }) :
    codeAny (model prog w) A (.call (.ref 336) ⟨[.ref x, .ref y, .ref ra, .ref rb], []⟩) R s := by
  have ha := nodup_le S.nodup
  have hb := nodup_le S'.nodup
  obtain ⟨va, na, sra, Ra⟩ := Ra
  obtain ⟨vb, nb, srb, Rb⟩ := Rb
  refine enterC C [] (fun _ h => by simp at h) (by k_is) (by k_is) (BindsTo.of_eq rfl) rfl (by decide +kernel) fun g L h₁ tk cells hg _ hk1 F N Y hcs B X T => ?_
  have Tg : TupIn ti g := fun b o e c => hg b o (Ti b o e c) (by simp)
  have gra := hg _ _ sra (by simp)
  have grb := hg _ _ srb (by simp)
  obtain ⟨t, n, ep, es, Rx⟩ := S.reads hg (by simp)
  obtain ⟨t2, n2, ep2, es2, Ry⟩ := S'.reads hg (by simp)
  k_cells Y
  rename_i o1 o2 d1 d2
  replace d1 : o1.data = .cell (some (.ref rb)) := d1
  replace d2 : o2.data = .cell (some (.ref ra)) := d2
  replace F : Fr g L h₁ (fun z => if z = Str.ofString "two" then some (.ref y) else if z = Str.ofString "one" then some (.ref x) else none) := F
  replace N : News g L h₁ [(L + 1 + 1, o1), (L + 1, o2)] := N
  clear hcs hk1
  k_steps
  refine filtcomp (c := (fun i => !decide (i ∈ l'))) C.handled (Room.units C.room.deeper) F N (Tg.up F) (F.keep _ _ gra) Ra ⟨_, _, F.keep _ _ grb, Rb⟩ (by rw [Row.length Ra]; omega)
      (fun hQ => nameX_C N rfl (by k_mem) d2 hQ) (cfr := L + 1 + 1) rfl (N.get (by k_mem)) d1 (fun T' R' v' q => notIn_row T' R' v' (Room.units C.room.deeper) q)
      (fun h2 D2 n2 tk2 vs2 F2 N2 off2 Row2 c2 => ?_) rfl (fun _ => rfl)
  clear F N
  k_steps
  rename News _ _ _ _ => N3
  rename Fr _ _ _ _ => F3
  refine eq_row (ti := ti) (Tg.up F3) ⟨_, _, N3.get (.tail _ (.head _)), Row2⟩ ⟨[], _, N3.get (.head _), .nil⟩ (Room.units C.room.deeper) ?_
  rw [all_filter]
  k_steps
  (try clear N3 F3)
  rename News _ _ _ _ => N4
  rename Fr _ _ _ _ => F4
  refine filtcomp (c := (fun i => !decide (i ∈ l))) C.handled (Room.units C.room.deeper) F4 N4 (Tg.up F4) (F4.keep _ _ grb) Rb ⟨_, _, F4.keep _ _ gra, Ra⟩ (by rw [Row.length Rb]; omega)
      (fun hQ => nameX_C N4 rfl (by k_mem) d1 hQ) (cfr := L + 1) rfl (N4.get (by k_mem)) d2 (fun T' R' v' q => notIn_row T' R' v' (Room.units C.room.deeper) q)
      (fun h5 D5 n5 tk5 vs5 F5 N5 off5 Row5 c5 => ?_) rfl (fun _ => rfl)
  clear F4 N4
  k_steps
  rename News _ _ _ _ => N6
  rename Fr _ _ _ _ => F6
  refine eq_row (ti := ti) (Tg.up F6) ⟨_, _, N6.get (.tail _ (.head _)), Row5⟩ ⟨[], _, N6.get (.head _), .nil⟩ (Room.units C.room.deeper) ?_
  rw [all_filter]
  k_steps
  (try clear N6 F6)
  rename News _ _ _ _ => N7
  rename Fr _ _ _ _ => F7
  refine filtcomp (c := (fun i => decide (i ∈ l'))) C.handled (Room.units C.room.deeper) F7 N7 (Tg.up F7) (F7.keep _ _ gra) Ra ⟨_, _, F7.keep _ _ grb, Rb⟩ (by rw [Row.length Ra]; omega)
      (fun hQ => nameX_C N7 rfl (by k_mem) d2 hQ) (cfr := L + 1 + 1) rfl (N7.get (by k_mem)) d1 (fun T' R' v' q => in_row T' R' v' (Room.units C.room.deeper) q)
      (fun h8 D8 n8 tk8 vs8 F8 N8 off8 Row8 c8 => ?_) rfl (fun _ => rfl)
  clear F7 N7
  k_steps
  rename News _ _ _ _ => N9
  rename Fr _ _ _ _ => F9
  refine eq_row (ti := ti) (Tg.up F9) ⟨_, _, N9.get (.tail _ (.head _)), Row8⟩ ⟨[], _, N9.get (.head _), .nil⟩ (Room.units C.room.deeper) ?_
  rw [any_filter]
  k_steps
  rename News _ _ _ _ => Na
  rename Fr _ _ _ _ => Fa
  refine wpAny_call (issubset_code (k := k + 3) (C.innerX B Fa rfl rfl) (Tg.up Fa) (Rx.set1 Fa) (Ry.set1 Fa) fun h' tk c => ?_)
  replace Fa := frC0 Fa c
  replace Na := newsC0 Na c
  clear c
  k_steps
  · rename ((_ != _) = true) => hq
    simp at hq
  refine wpAny_call (issuperset_code (k := k + 3) (C.innerX B Fa rfl rfl) (Tg.up Fa) (Rx.set1 Fa) (Ry.set1 Fa) fun h' tk c => ?_)
  replace Fa := frC0 Fa c
  replace Na := newsC0 Na c
  clear c
  k_steps
  · rename ((_ != _) = true) => hq
    simp at hq
  refine wpAny_call (isdisjoint_code (k := k + 3) (C.innerX B Fa rfl rfl) (Tg.up Fa) (Rx.set1 Fa) (Ry.set1 Fa) fun h' tk c => ?_)
  replace Fa := frC0 Fa c
  replace Na := newsC0 Na c
  clear c
  k_steps
  · rename ((_ != _) = true) => hq
    simp at hq
  refine cmp_ofEq (cmp_K (C := 275) (f := 216) (Room.units C.room.deeper (j := 0)) Fa X (InstAt.of_g Fa Rx.gx Rx.gdx) (InstAt.type (InstAt.of_g Fa Ry.gx Ry.gdx)) (by k_is) (by k_is) (by k_is) ?_)
  refine wpAny_call (eq_code (k := k + 3) (C.innerX B Fa rfl rfl) (Tg.up Fa) (Rx.set1 Fa) (Ry.set1 Fa) fun h' tk c => ?_)
  replace Fa := frC0 Fa c
  replace Na := newsC0 Na c
  clear c
  show wpAny _ _ _ _ _ _
  have hs := sameL_all S.nodup S'.nodup
  k_steps
  all_goals try (refine cmp_ofNotEq (cmp_K (C := 275) (f := 223) (Room.units C.room.deeper (j := 0)) Fa X (InstAt.of_g Fa Rx.gx Rx.gdx) (InstAt.type (InstAt.of_g Fa Ry.gx Ry.gdx)) (by k_is) (by k_is) (by k_is) ?_); refine wpAny_call (ne_code (k := k + 2) (C.innerX B Fa rfl rfl) (Tg.up Fa) (Rx.set1 Fa) (Ry.set1 Fa) fun h' tk c => ?_); (replace Fa := frC0 Fa c); (replace Na := newsC0 Na c); clear c; (show wpAny _ _ _ _ _ _); k_steps)
  all_goals (dsimp only; refine retb ?_ (hR _ _ (chg_of hg Fa)); simp_all)
end
end
section
open PySem PySem.W PySem.Calls PyProof.Rows
/-- a stop for the walk -/
def Stop (p : Prop) : Prop := p
theorem stop_ {p : Prop} (h : Stop p) : p := h
theorem go_ {p : Prop} (h : p) : Stop p := h
section
variable {prog : Program} {w : World} {A : Around} {E : Value → Shared → Prop} {s : Shared} {ti g base h h' : Heap} {L : Addr} {m : Str → Option Value} {news : List (Addr × Obj)} {vs : List Value} {rl : List (Fin 9)} {frs : List Env} {mean : ExcName → Option Value} {mg mb : Str → Option Value} {k : Nat}
  {env : Env} {x : Str} {px pos : Pos} {sc : Scope} {cl : List (Str × Addr)} {elt iter : Expr} {Q : Value → Shared → Prop}
theorem Cx.up (C : Cx w A base frs mean mg mb h k) (hk : ∀ b o, h.get? b = some o → h'.get? b = some o) : Cx w A base frs mean mg mb h' k :=
  ⟨fun b o e => hk b o (C.stays b o e), C.kin, C.top, C.frames.of_keeps fun b o e _ => ⟨o, hk b o e, rfl⟩, C.stack, C.handled, C.room⟩
theorem Row.of_get : ∀ {ys : List Value} {rl : List (Fin 9)}, ys.length = rl.length → (∀ (j : Nat) (y : Value), ys[j]? = some y → ∃ i, rl[j]? = some i ∧ ItemAt ti y i) → Row ti ys rl
  | [], [], _, _ => .nil
  | [], _ :: _, h, _ => by simp at h
  | _ :: _, [], h, _ => by simp at h
  | y :: ys, i :: rl, h, f => by
    obtain ⟨i', e, a⟩ := f 0 y rfl
    simp at e; subst e
    exact .cons a (Row.of_get (by simpa using h) fun j y hy => by simpa using f (j + 1) y (by simpa using hy))
theorem paired_get {α β : Type} {F : α → β → Prop} {l₁ : List α} {l₂ : List β} (p : Paired F l₁ l₂) : l₁.length = l₂.length ∧ ∀ (j : Nat) (b : β), l₂[j]? = some b → ∃ a, l₁[j]? = some a ∧ F a b := by
  induction p with
  | nil => exact ⟨rfl, fun j b h => by simp at h⟩
  | cons f _ ih =>
    refine ⟨by simp [ih.1], fun j b h => ?_⟩
    cases j with
    | zero => simp at h; subst h; exact ⟨_, rfl, f⟩
    | succ j => simp at h; obtain ⟨a, e, q⟩ := ih.2 j b h; exact ⟨a, by simpa using e, q⟩
theorem walks_lt {I : Addr} {fp wr : List Addr} {n : Nat} {P : Nat → Value → Prop} {St : Nat → Heap → Prop} (W : Walks prog w A I fp wr n P St) : Walks prog w A I fp wr n (fun i v => i < n ∧ P i v) St :=
  { sub := W.sub, frame := W.frame, done := W.done, self := W.self, item := fun i s Q E hi st hQ => W.item i s Q E hi st fun v h' tk hp => hQ v h' tk ⟨hi, hp⟩ }
/-- [elt for x in range(n)] where elt gives the items of a row -/
theorem getcomp (hh : A.handled = none) (F : Fr g L s.heap m) (N : News g L s.heap news) (hz : rl.length ≤ 100)
    (hit : ∀ {Q : Value → Shared → Prop}, (∀ h' tk r t u v, Chg [] s.heap h' → IsRange h' r 0 (rl.length : Int) 1 t u v → Q (.ref r) { s with heap := h', toks := tk }) → wpAny (model prog w) A (eval iter env) Q E s)
    (helt : ∀ C j t s₃ m₃ E', j < rl.length → s₃.heap.Ns C m₃ → m₃ x = some (.int (j : Int) t) → (∀ b o, s.heap.get? b = some o → s₃.heap.get? b = some o) →
      wpAny (model prog w) A (eval elt (compEnvC sc cl C env)) (fun y s₄ => (∃ i, rl[j]? = some i ∧ ItemAt ti y i) ∧ Keeps s₃ s₄) E' s₃)
    (h : ∀ h' D n' tk vs', Fr g L h' m → News g L h' ((D, listOf vs'.toArray n') :: news) → Row ti vs' rl → Chg [] s.heap h' → Q (.ref D) { s with heap := h', toks := tk })
    (hclos : closureFor sc env = pure cl)
    (hcell : ∀ y ∈ sc.names, y.2 ≠ .cell := by decide) (hkind : sc.kind = .function := by rfl)
    (hnames : ∀ y ∈ sc.names, y.2 = .local → sc.names.lookup y.1 = some .local := by decide) (hx : sc.names.lookup x = some .local := by rfl)
    (hs : ∀ x, foldedSetIterable iter env x = pure x := by intro _; rfl) :
    wpAny (model prog w) A (eval (.ListComp elt [⟨.Name x px, iter, [], 0⟩] sc pos) env) Q E s := by
  refine wpAny_ListComp_free (fun _ => true) (fun v y => ∃ (j : Nat) (i : Fin 9) (t : Nat), v = .int (j : Int) t ∧ rl[j]? = some i ∧ ItemAt ti y i) hclos hcell hkind hnames hx (hit fun h₁ tk₁ r t u v c₁ hr => ?_) hs
  have hrs : Builtin.Range.rangeSize 0 (rl.length : Int) 1 = (rl.length : Int) := by rw [rangeSize_nat]; omega
  refine wpAny_pyIter_range hr (small_one (by omega) (by omega) (by omega) (by omega)) ?_
  rw [hrs]
  refine ⟨h₁.objs.size, _, _, _, _, _, rfl, walks_lt (Walks.range hh h₁.objs.size 0 1 rl.length), Nat.le_trans hz (by decide), by simpa using Heap.get?_push_size h₁ (o := { cls := .type "range_iterator", data := .fields #[rawInt 0, rawInt (rl.length : Int), rawInt 1] }) rfl, fun b hb => ?_, ⟨?_, ?_⟩, ?_⟩
  · rw [List.mem_singleton.mp hb]; simp only [Heap.size_push]; exact Nat.lt_succ_self _
  · intro C i v s₃ m₃ E' _ hP hn hm hkp _
    simp only [List.forIn_nil]
    exact wpAny_pure ⟨rfl, ⟨_, _, rfl, fun _ _ e => e⟩⟩
  · intro C i v s₃ m₃ E' _ hP hp hn hm hkp _
    obtain ⟨hjl, t', rfl⟩ := hP
    refine wpAny_mono (helt C i t' s₃ m₃ E' hjl hn (by simpa using hm) fun b o e => ?_) (fun y s₄ h₄ => ?_) fun _ _ e => e
    · have e₁ := c₁ b o (by simp) e
      exact hkp b o (by simpa using Nat.ne_of_lt (Heap.lt_size e₁)) (Heap.get?_push_of_some _ e₁)
    · obtain ⟨⟨i', hi', a⟩, kk⟩ := h₄
      exact ⟨⟨i, i', t', by simp, hi', a⟩, kk⟩
  · intro D h' tk ys ws hD hl' hpl hlen hP hF hkp
    have ch : Chg [] s.heap h' := fun b o _ e => by
      have e₁ := c₁ b o (by simp) e
      exact hkp b o (by simpa using Nat.ne_of_lt (Heap.lt_size e₁)) (Heap.get?_push_of_some _ e₁)
    obtain ⟨hlq, hget⟩ := paired_get hF
    rw [List.filter_eq_self.mpr (fun _ _ => rfl)] at hlq hget
    obtain ⟨n', hD'⟩ := hpl
    have e : listOf ys.toList.toArray n' = { cls := .type "list", data := .seq ys n' } := by simp
    have fD : s.heap.get? D = none := Option.eq_none_iff_forall_ne_some.mpr fun o q => by
      have := Heap.get?_push_of_some { cls := .type "range_iterator", data := .fields #[rawInt 0, rawInt (rl.length : Int), rawInt 1] } (c₁ D o (by simp) q)
      rw [hD] at this; cases this
    refine h h' D n' tk ys.toList (frC0 F ch) (News.add (newsC0 N ch) (e ▸ hD') (fun q => ?_) (Option.eq_none_iff_forall_ne_some.mpr fun o q => ?_)) (Row.of_get (by rw [← hlq, hlen]) fun j y hy => ?_) ch
    · obtain ⟨o, _, _, ho, _⟩ := F.ns; rw [← q, fD] at ho; cases ho
    · have := F.keep _ _ q; rw [fD] at this; cases this
    · obtain ⟨v, hv, j', i, t', rfl, hi, a⟩ := hget j y hy
      obtain ⟨_, t'', e'⟩ := hP j _ hv
      injection e' with e' _
      have : j' = j := by omega
      subst this
      exact ⟨i, hi, a⟩
end
section
variable {A : Around} {base g h h' : Heap} {outer : List Env} {L : Addr} {m : Str → Option Value} {env : Env} {D : List Addr}
theorem regroundX (hf : env.frame = some L) (K : Below A base outer g) (F : Fr g L h m) (c : ChgS D (env :: outer) h h') (hD : ∀ b ∈ D, g.get? b = none ∧ b ≠ L) :
    ∃ g', KtsTurn (outer.filterMap (·.frame)) g g' ∧ Fr g' L h' m ∧ Below A base outer g' ∧ ∀ news, News g L h news → (∀ p ∈ news, p.1 ∉ D) → News g' L h' news := by
  have nD : ∀ b o, g.get? b = some o → b ∉ D := fun b o e q => by rw [(hD b q).1] at e; cases e
  have nL : ∀ b o, g.get? b = some o → b ≠ L := fun b o e q => by rw [q, kts_self F] at e; cases e
  obtain ⟨T, S⟩ := kts_turn_at (h := h') (fs := outer.filterMap (·.frame)) (g := g)
    (fun b hb => by
      obtain ⟨_, o, ho, _⟩ := K.frames.mem hb
      exact ⟨o, ho⟩)
    (fun b o e nm => (c b o (nD b o e) (F.keep b o e)).1 fun hm => by
      rcases kts_memX hf hm with z | z
      · exact nL b o e z
      · exact nm z)
    (fun b o e hm => (c b o (nD b o e) (F.keep b o e)).2)
  obtain ⟨oL, es, ep, hL, hLd, hLk, hLf⟩ := F.ns
  obtain ⟨_, sl, hL'⟩ := c L oL (fun q => (hD L q).2 rfl) hL
  refine ⟨_, T, ⟨⟨_, es, ep, hL', hLd, hLk, hLf⟩, S, by rw [T.size]; exact F.above⟩, ⟨K.stack, fun b o e => T.other b o (K.stays b o e) (fun hm => by
    rw [(K.frames.mem hm).1] at e
    cases e), K.frames.of_keeps fun b o e _ => ?_⟩, fun news N hn p hp => ?_⟩
  · obtain ⟨sl, hs⟩ := T.up e
    exact ⟨_, hs, rfl⟩
  · have P := N p hp
    refine ⟨(c p.1 p.2 (hn p hp) P.1).1 fun hm => ?_, P.2.1, T.none_ _ P.2.2⟩
    rcases kts_memX hf hm with z | z
    · exact P.2.1 z
    · obtain ⟨_, o, ho, _⟩ := K.frames.mem z
      rw [P.2.2] at ho; cases ho
end
end
set_option hygiene false in
local macro_rules | `(tactic| walk_at "eval ListComp") => `(tactic| (k_here; (with_reducible show wpAny _ _ (eval (Expr.ListComp _ _ _ _) _) _ _ _); refine stop_ ?_))
set_option hygiene false in
local macro_rules | `(tactic| walk_at "compareOp NotEq ref ref") => `(tactic| (k_here; (with_reducible show wpAny _ _ (compareOp CmpOp.NotEq (Value.ref _) (Value.ref _)) _ _ _); refine stop_ ?_))
set_option hygiene false in
local macro_rules | `(tactic| walk_at "subscriptTail Name Slice ref ref") => `(tactic| (k_here; (with_reducible show wpAny _ _ (subscriptTail _ (PySem.Expr.Slice none none (some _) _) (Value.ref _) (Value.ref _)) _ _ _); refine stop_ ?_))
section
open PySem PySem.W PySem.Calls PyProof.Rows
theorem offF32 : True := by
  w_top off
  trivial
section
variable {prog : Program} {w : World} {A : Around} {E : Value → Shared → Prop} {base ti g h h' h₀ : Heap} {frs : List Env} {mean : ExcName → Option Value} {mg mb : Str → Option Value} {s : Shared} {k : Nat}
  {x dx d y dy e f L z dz c : Addr} {l l' l'' : List (Fin 9)} {v : Value} {i : Fin 9} {R : Result → Shared → Prop} {m : Str → Option Value} {news : List (Addr × Obj)} {u : Obj → List (Addr × Obj)} {es : List DictEntry} {n n₁ t ep : Nat}
  {qual : Str} {scope : Scope} {cdv : Value} {Q : Value → Shared → Prop}

/-- no frame's object among them, nor among ti's tuples -/
def OffF (frs : List Env) (ti : Heap) (as : List Addr) : Prop := (∀ b ∈ as, b ∉ frs.filterMap (·.frame)) ∧ ∀ b o, ti.get? b = some o → o.cls = .type "tuple" → b ∉ frs.filterMap (·.frame)
theorem is_row_code {rr : Addr} (C : Cx w A base frs mean mg mb s.heap (k + 8)) (Ti : TupIn ti s.heap) (S : SetIs prog w ti s.heap x dx d l) (Ra : RowIs ti s.heap rr l) (O : OffF frs ti [x, dx, d, rr])
    (hR : ∀ h' tk, ChgS [] frs s.heap h' → R (.ok (.ret (.bool true))) { s with heap := h', toks := tk }) :
    codeAny (model prog w) A (.call (.ref 331) ⟨[.ref x, .ref rr], []⟩) R s := by
  have ha := nodup_le S.nodup
  obtain ⟨va, na, sra, Ra⟩ := Ra
  refine enterC C [] (fun _ h => by simp at h) (by k_is) (by k_is) (BindsTo.of_eq rfl) rfl (by decide +kernel) fun g L h₁ tk cells hg _ hk1 F N Y hcs B X T => ?_
  have Tg : TupIn ti g := fun b o e c => hg b o (Ti b o e c) (by simp)
  have gra := hg _ _ sra (by simp)
  obtain ⟨t, n, ep, es, Rx⟩ := S.reads hg (by simp)
  k_cells Y
  rename_i o1 d1
  replace d1 : o1.data = .cell (some (.ref x)) := d1
  replace F : Fr g L h₁ (fun z => if z = Str.ofString "row" then some (.ref rr) else none) := F
  replace N : News g L h₁ [(L + 1, o1)] := N
  clear hcs hk1
  k_steps
  refine wpAny_call (len_code (k := k + 4) (C.innerX B F rfl rfl).in1 (Tg.up F) (Rx.set1 F) fun h' tk t c => ?_)
  replace F := frC0 F c
  replace N := newsC0 N c
  clear c
  dsimp only [PySem.W.LenBack]
  refine ⟨⟨by omega, by omega⟩, ?_⟩
  have hvl := Ra.length
  k_steps
  refine kun_lenL (k := (l.length : Int)) ⟨_, F.keep _ _ gra, rfl, _, rfl⟩ (by simp [hvl]) (by omega) ?_
  k_steps
  · exact absurd rfl (by assumption)
  refine go_ ?_
  dsimp only
  refine getcomp (rl := l) (ti := ti) (cl := [(Str.ofString "one", L + 1)]) C.handled F N (by omega) (fun hQ => ?_) (fun Cc j t s₃ m₃ E' hj hn hm kp => ?_) (fun h2 D2 n2 tk2 vs2 F2 N2 Row2 c2 => ?_) rfl
  · k_steps
    refine kun_lenL (k := (l.length : Int)) ⟨_, F.keep _ _ gra, rfl, _, rfl⟩ (by simp [hvl]) (by omega) ?_
    k_steps
    rename_i q1 q2 q3 kq
    exact hQ _ _ _ _ _ _ (fun b o _ e => kq b o e) q1
  · have F₃ := Fr.keeps F kp
    have hjj : l[j]? = some l[j] := by simp [hj]
    refine Subscript_ (wpAny_Name (wpAny_loadName_cell rfl rfl rfl ⟨o1, kp _ _ (N.get (by k_mem)), d1⟩ ?_) (by decide))
    refine wpAny_Name (wpAny_loadName_local rfl rfl hn hm ?_) (by decide)
    refine sub_K (f := 244) F₃ X (InstAt.of_g F₃ Rx.gx Rx.gdx) (by k_is) (by k_is) (by k_is) ?_
    exact wpAny_call (getitem_code (k := k + 4) ((C.innerX B F rfl rfl).up kp).in1 (Tg.up F₃) (Rx.set1 F₃) hjj (.inl rfl) fun h' tk v c hv => ⟨⟨l[j], hjj, hv⟩, ⟨h', tk, rfl, fun b o e => c b o (by simp) e⟩⟩)
  clear F N
  k_steps
  refine go_ (ne_row (ti := ti) (Tg.up F2) ⟨_, _, N2.get (.head _), Row2⟩ ⟨va, na, F2.keep _ _ gra, Ra⟩ (Room.units C.room.deeper) ?_)
  rw [decide_eq_true rfl]
  dsimp only [Bool.not_true]
  k_steps
  refine go_ ?_
  (try dsimp only)
  refine getcomp (rl := l.reverse) (ti := ti) (cl := [(Str.ofString "one", L + 1)]) C.handled F2 N2 (by rw [List.length_reverse]; omega) (fun hQ => ?_) (fun Cc j t s₃ m₃ E' hj hn hm kp => ?_) (fun h3 D3 n3 tk3 vs3 F3 N3 Row3 c3 => ?_) rfl
  · k_steps
    refine kun_lenL (k := (l.length : Int)) ⟨_, F2.keep _ _ gra, rfl, _, rfl⟩ (by simp [hvl]) (by omega) ?_
    k_steps
    rename_i q1 q2 q3 kq
    exact hQ _ _ _ _ _ _ (fun b o _ e => kq b o e) (by rw [List.length_reverse]; exact q1)
  · have F₃ := Fr.keeps F2 kp
    rw [List.length_reverse] at hj
    have hjj : l[l.length - 1 - j]? = some l[l.length - 1 - j] := by simp
    refine Subscript_ (wpAny_Name (wpAny_loadName_cell rfl rfl rfl ⟨o1, kp _ _ (N2.get (by k_mem)), d1⟩ ?_) (by decide))
    refine wpAny_BinOp (wpAny_UnaryOp (wpAny_Constant_int (PyProof.Rows.neg_int ?_)))
    refine wpAny_Name (wpAny_loadName_local rfl rfl hn hm ?_) (by decide)
    refine PyProof.Rows.sub_int ?_
    refine sub_K (f := 244) F₃ X (InstAt.of_g F₃ Rx.gx Rx.gdx) (by k_is) (by k_is) (by k_is) ?_
    refine wpAny_call (getitem_code (k := k + 4) ((C.innerX B F2 rfl rfl).up kp).in1 (Tg.up F₃) (Rx.set1 F₃) hjj (.inr (by omega)) fun h' tk v c hv => ⟨⟨l[l.length - 1 - j], ?_, hv⟩, ⟨h', tk, rfl, fun b o e => c b o (by simp) e⟩⟩)
    rw [List.getElem?_reverse hj]; exact hjj
  clear F2 N2
  k_steps
  refine go_ ?_
  refine krv_lit (its := va.toArray) (zs := va.reverse) F3 N3 ⟨_, F3.keep _ _ gra, rfl, _, rfl⟩ (IsPart.int _ _) (by simp) (fun D4 h4 F4 N4 l4 => ?_) (by with_unfolding_all rfl) (fun _ => rfl) (by rw [List.size_toArray, hvl]; exact Nat.le_trans ha (by decide))
  k_steps
  refine go_ (ne_row (ti := ti) (Tg.up F4) ⟨_, _, N4.get (.tail _ (.head _)), Row3⟩ ⟨va.reverse, _, N4.get (.head _), Ra.reverse⟩ (Room.units C.room.deeper) ?_)
  rw [decide_eq_true rfl]
  dsimp only [Bool.not_true]
  clear F3 N3
  k_steps
  refine kun_lenL (k := (l.length : Int)) ⟨_, F4.keep _ _ gra, rfl, _, rfl⟩ (by simp [hvl]) (by omega) ?_
  k_steps
  refine wpAny_call (has_no_place_out (k := k + 3) (C.innerX B F4 rfl rfl) (Tg.up F4) (Rx.set1 F4) (.inl (by omega)) fun h5 tk5 c5 => ?_)
  obtain ⟨g5, T5, F5, B5, nn5⟩ := regroundX rfl B F4 c5 (fun b hb => by simp at hb)
  have N5 := nn5 _ N4 (fun p _ => by simp)
  have X5 := C.kin.keeps B5.stays
  have P5 := C.top.keeps B5.stays
  have Rx5 : Reads1 prog w ti g5 x dx d l _ _ _ _ := ⟨T5.other _ _ Rx.gx (O.1 _ (by simp)), T5.other _ _ Rx.gdx (O.1 _ (by simp)), T5.other _ _ Rx.gd (O.1 _ (by simp)), Rx.bd⟩
  have Tg5 : TupIn ti g5 := fun b o e q => T5.other _ _ (Tg b o e q) (O.2 b o e q)
  have gra5 := T5.other _ _ gra (O.1 _ (by simp))
  clear F4 N4 B X T Rx Tg gra
  dsimp only
  k_steps
  refine kun_lenL (k := (l.length : Int)) ⟨_, F5.keep _ _ gra5, rfl, _, rfl⟩ (by simp [hvl]) (by omega) ?_
  k_steps
  refine wpAny_call (has_no_place_out (k := k + 3) (C.innerX B5 F5 rfl rfl) (Tg5.up F5) (Rx5.set1 F5) (.inr (by omega)) fun h6 tk6 c6 => ?_)
  obtain ⟨g6, T6, F6, B6, nn6⟩ := regroundX rfl B5 F5 c6 (fun b hb => by simp at hb)
  dsimp only
  exact hR _ _ (chgS_of hg (T5.trans T6) F6)
end
end
end Mine
namespace Mine
open PySem PySem.W PySem.Calls PyProof.Rows
set_option hygiene false in
local macro_rules | `(tactic| k_inst) => `(tactic| (refine' InstAt.of_g ?F ?a ?b; (case F => k_asm); (case a => first | assumption | exact Reads1.gx (by assumption)); (case b => first | assumption | exact Reads1.gdx (by assumption))))
set_option hygiene false in
local macro_rules | `(tactic| k_units) => `(tactic| exact Room.units (Room.deeper (Cx.room (by assumption))))
set_option hygiene false in
local macro_rules | `(tactic| walk_at "compareOp NotIn") => `(tactic| (k_here; (with_reducible show wpAny _ _ (compareOp CmpOp.NotIn _ (Value.ref _)) _ _ _); refine' notIn_K ?T ?m ?B ?v ?u ?_; (case T => exact TupIn.up (by assumption) (by k_asm)); (case m => first | exact News.get (by k_asm) (by k_mem) | exact Fr.keep (by k_asm) _ _ (Reads1.gd (by assumption))); (case B => first | assumption | exact Reads1.bd (by assumption)); (case v => assumption); (case u => k_units); intro tk'))
set_option hygiene false in
local macro_rules | `(tactic| walk_at "compareOp In") => `(tactic| (k_here; (with_reducible show wpAny _ _ (compareOp CmpOp.In _ (Value.ref _)) _ _ _); refine' in_K' ?T ?m ?B ?v ?u ?_; (case T => exact TupIn.up (by assumption) (by k_asm)); (case m => first | exact News.get (by k_asm) (by k_mem) | exact Fr.keep (by k_asm) _ _ (Reads1.gd (by assumption))); (case B => first | assumption | exact Reads1.bd (by assumption)); (case v => assumption); (case u => k_units); intro tk'))
set_option hygiene false in
local macro_rules | `(tactic| walk_at "setItem ref") => `(tactic| (k_here; (with_reducible show wpAny _ _ (setItem (Value.ref _) _ Value.none) _ _ _); refine' setItem_K' ?T ?F ?N ?U ?x ?v ?u ?_; (case T => exact TupIn.up (by assumption) (by k_asm)); (case F => k_asm); (case N => k_asm); (case U => k_updF); (case x => assumption); (case v => assumption); (case u => k_units); intro h' es' n' tk' F' N' x'; (try dsimp only at N'); (try k_sweep)))
set_option hygiene false in
local macro_rules | `(tactic| walk_at "call builtin:dict.pop") => `(tactic| (k_here; (with_reducible show wpAny _ _ (call (Value.builtin "dict.pop") [Value.ref _, _, Value.none]) _ _ _); refine' pop_K' ?T ?F ?N ?U ?x ?v ?u ?_; (case T => exact TupIn.up (by assumption) (by k_asm)); (case F => k_asm); (case N => k_asm); (case U => k_updF); (case x => assumption); (case v => assumption); (case u => k_units); intro h' es' n' tk' F' N' x'; (try dsimp only at N'); (try k_sweep)))
set_option hygiene false in
local macro_rules | `(tactic| walk_at "call builtin:dict.clear") => `(tactic| (k_here; (with_reducible show wpAny _ _ (call (Value.builtin "dict.clear") [Value.ref _]) _ _ _); refine' clear_K' ?T ?F ?N ?U ?x ?_; (case T => exact TupIn.up (by assumption) (by k_asm)); (case F => k_asm); (case N => k_asm); (case U => k_updF); (case x => assumption); intro h' es' n' F' N' x'; (try dsimp only at N'); (try k_sweep)))
set_option hygiene false in
local macro_rules | `(tactic| walk_at "getMethod ref") => `(tactic| (k_here; (with_reducible show wpAny _ _ (getMethod (Value.ref _) (PySem.Str.ofString "pop") _) _ _ _); refine' dictMethod_M ?m PySem.F.slot_dict_pop PySem.F.type_dict_pop ?_; (case m => first | exact News.get (by k_asm) (by k_mem) | exact Fr.keep (by k_asm) _ _ (Reads1.gd (by assumption)))))
set_option hygiene false in
local macro_rules | `(tactic| walk_at "getMethod ref") => `(tactic| (k_here; (with_reducible show wpAny _ _ (getMethod (Value.ref _) (PySem.Str.ofString "popitem") _) _ _ _); refine' dictMethod_M ?m PySem.F.slot_dict_popitem PySem.F.type_dict_popitem ?_; (case m => first | exact News.get (by k_asm) (by k_mem) | exact Fr.keep (by k_asm) _ _ (Reads1.gd (by assumption)))))
set_option hygiene false in
local macro_rules | `(tactic| walk_at "getMethod ref") => `(tactic| (k_here; (with_reducible show wpAny _ _ (getMethod (Value.ref _) (PySem.Str.ofString "clear") _) _ _ _); refine' dictMethod_M ?m PySem.F.slot_dict_clear PySem.F.type_dict_clear ?_; (case m => first | exact News.get (by k_asm) (by k_mem) | exact Fr.keep (by k_asm) _ _ (Reads1.gd (by assumption)))))
set_option hygiene false in
local macro_rules | `(tactic| walk_at "call type:dict nil nil") => `(tactic| (k_here; refine' newDict_M ?F ?N ?T ?_; (case F => k_asm); (case N => k_asm); (case T => exact (by assumption : Top _ _ _ _ _ _).nolimit); intro d' h' F' N' l1 l2 lo'; (try k_lt l1); (try k_sweep)))
set_option hygiene false in
local macro_rules | `(tactic| walk_at "call ref") => `(tactic| (k_here; (with_reducible show wpAny _ _ (call (Value.ref 275) _ _) _ _ _); (try dsimp only [List.nil_append, List.cons_append]); refine' new0_K ?C ?B ?T ?X ?F ?N ?_; (case T => exact TupIn.up (by assumption) (by k_asm)); (case C => assumption); (case B => assumption); (case X => assumption); (case F => k_asm); (case N => k_asm); intro h' x' dx' d' t' n' ep' tk' F' N' off' e1' e2' e3' Bd'; (try simp only [List.mem_cons, List.not_mem_nil, or_false, forall_eq_or_imp, forall_eq, false_implies, implies_true] at off'); (try k_sweep)))
set_option hygiene false in
local macro_rules | `(tactic| walk_at "call ref") => `(tactic| (k_here; (with_reducible show wpAny _ _ (call (Value.ref 36) _ _) _ _ _); (try dsimp only [List.nil_append, List.cons_append]); refine' add_K ?C ?B ?F ?N ?U ?T ?x ?dx ?b ?v ?_; (case C => assumption); (case B => assumption); (case F => k_asm); (case N => k_asm); (case x => first | exact News.get (by k_asm) (by k_mem) | exact Fr.keep (by k_asm) _ _ (by assumption)); (case dx => first | exact News.get (by k_asm) (by k_mem) | exact Fr.keep (by k_asm) _ _ (by assumption)); (case U => k_updF); (case T => exact TupIn.up (by assumption) (by k_asm)); (case b => assumption); (case v => assumption); intro h' es' n' tk' F' N' x'; (try dsimp only at N'); (try k_sweep)))
set_option hygiene false in
local macro_rules | `(tactic| walk_at "call builtin:iter") => `(tactic| (k_here; (with_reducible show wpAny _ _ (call (Value.builtin "iter") [Value.ref _]) _ _ _); refine' iter_M ?F ?N ?m ?l ?_; (case F => k_asm); (case N => k_asm); (case m => first | exact News.get (by k_asm) (by k_mem) | exact Fr.keep (by k_asm) _ _ (Reads1.gd (by assumption))); (case l => first | exact Bears.lo (by assumption) | exact Bears.lo (Reads1.bd (by assumption))); intro I' h' F' N' off'; (try k_sweep)))
set_option hygiene false in
local macro_rules | `(tactic| walk_at "exec For Name Name cons nil") => `(tactic| (k_here; (with_reducible rename Fr _ _ _ _ => lF'); (with_unfolding_all refine' For_invVF lF' ?k1 ?k2 ?_; (case k1 => exact rfl); (case k2 => exact rfl); k_whole)))
set_option hygiene false in
local macro_rules | `(tactic| walk_at "compareOp Is ref ref") => `(tactic| (k_here; first | with_reducible refine is_self_M ?_ | (refine' is_other_M ?n ?x ?y ?_; (case n => first | assumption | exact Ne.symm (by assumption)); (case x => first | exact News.get (by k_asm) (by k_mem) | exact Fr.keep (by k_asm) _ _ (by first | assumption | exact Reads1.gx (by assumption))); (case y => first | exact News.get (by k_asm) (by k_mem) | exact Fr.keep (by k_asm) _ _ (by first | assumption | exact Reads1.gx (by assumption))))))
set_option hygiene false in
local macro_rules | `(tactic| walk_at "call ref") => `(tactic| (k_here; (with_reducible show wpAny _ _ (call (Value.ref 50) _ _) _ _ _); (try dsimp only [List.nil_append, List.cons_append]); refine' discard_K ?C ?B ?F ?N ?U ?T ?x ?dx ?b ?v ?_; (case C => assumption); (case B => assumption); (case F => k_asm); (case N => k_asm); (case x => first | exact News.get (by k_asm) (by k_mem) | exact Fr.keep (by k_asm) _ _ (by assumption)); (case dx => first | exact News.get (by k_asm) (by k_mem) | exact Fr.keep (by k_asm) _ _ (by assumption)); (case U => k_updF); (case T => exact TupIn.up (by assumption) (by k_asm)); (case b => assumption); (case v => assumption); intro h' es' n' tk' F' N' x'; (try dsimp only at N'); (try k_sweep)))
set_option hygiene false in
local macro_rules | `(tactic| walk_at "compareOp NotIn") => `(tactic| (k_here; (with_reducible show wpAny _ _ (compareOp CmpOp.NotIn _ (Value.ref _)) _ _ _); refine' notIn_set ?C ?B ?X ?T ?F ?N ?Rx ?v ?_; (case Rx => assumption); (case C => assumption); (case B => assumption); (case X => assumption); (case T => assumption); (case F => k_asm); (case N => k_asm); (case v => assumption); intro h' tk' F' N'; (try k_sweep)))
set_option hygiene false in
local macro_rules | `(tactic| walk_at "delItem ref") => `(tactic| (k_here; (with_reducible show wpAny _ _ (delItem (Value.ref _) _) _ _ _); refine' delItem_K' ?hh ?T ?F ?N ?U ?x ?v ?u (fun hk => absurd ?m hk) ?_; (case hh => (rename Cx _ _ _ _ _ _ _ _ _ => cX; exact cX.handled)); (case T => exact TupIn.up (by assumption) (by k_asm)); (case F => k_asm); (case N => k_asm); (case U => k_updF); (case x => assumption); (case v => assumption); (case u => k_units); (case m => assumption); intro hk h' es' n' tk' F' N' x'; (try dsimp only at N'); (try k_sweep)))
set_option hygiene false in
local macro_rules | `(tactic| walk_at "call type:list") => `(tactic| (k_here; (with_reducible show wpAny _ _ (call (Value.type _) [Value.ref _]) _ _ _); refine' listM_K ?hh ?F ?N ?m ?B ?_; (case hh => (rename Cx _ _ _ _ _ _ _ _ _ => cX; exact cX.handled)); (case F => k_asm); (case N => k_asm); (case m => first | exact News.get (by k_asm) (by k_mem) | exact Fr.keep (by k_asm) _ _ (Reads1.gd (by assumption))); (case B => first | assumption | exact Reads1.bd (by assumption)); intro D' c' h' tk' F' N' l1; (try k_lt l1); (try k_sweep)))
set_option hygiene false in
local macro_rules | `(tactic| walk_at "delItem ref") => `(tactic| (k_here; (with_reducible show wpAny _ _ (delItem (Value.ref _) _) _ _ _); refine' delItem_K' ?hh ?T ?F ?N ?U ?x ?v ?u ?_ (fun hk => absurd hk ?m); (case hh => (rename Cx _ _ _ _ _ _ _ _ _ => cX; exact cX.handled)); (case T => exact TupIn.up (by assumption) (by k_asm)); (case F => k_asm); (case N => k_asm); (case U => k_updF); (case x => assumption); (case v => assumption); (case u => k_units); (case m => assumption); intro hk h' e' tk' NE'))
set_option hygiene false in
local macro_rules | `(tactic| walk_at "call ref") => `(tactic| (k_here; (with_reducible show wpAny _ _ (call (Value.ref 64) _ _) _ _ _); (try dsimp only [List.nil_append, List.cons_append]); refine' clone_K ?C ?B ?F ?N ?T ?S ?_; (case C => assumption); (case B => assumption); (case F => k_asm); (case N => k_asm); (case T => exact TupIn.up (by assumption) (by k_asm)); (case S => first | exact Reads1.set1 (by assumption) (by k_asm) | exact setIs_new (by k_asm) (by k_mem) (by k_mem) (by k_mem) (by assumption) | exact setIs_of (by k_asm) (by k_asm) (by assumption) (by assumption) (by k_mem) (by assumption)); intro h' x' dx' d' t' n' es' ep' tk' F' N' off' e1' e2' e3' Bd'; (try simp only [List.mem_cons, List.not_mem_nil, or_false, forall_eq_or_imp, forall_eq, false_implies, implies_true] at off'); (try k_sweep)))
set_option hygiene false in
local macro_rules | `(tactic| walk_at "call ref") => `(tactic| (k_here; (with_reducible show wpAny _ _ (call (Value.ref 78) _ _) _ _ _); (try dsimp only [List.nil_append, List.cons_append]); refine' union_update_K ?C ?B ?F ?N ?U ?T ?x ?dx ?b ?S' ?ne ?nd ?_; (case C => assumption); (case B => assumption); (case F => k_asm); (case N => k_asm); (case T => exact TupIn.up (by assumption) (by k_asm)); (case x => first | exact News.get (by k_asm) (by k_mem) | exact Fr.keep (by k_asm) _ _ (by assumption)); (case dx => first | exact News.get (by k_asm) (by k_mem) | exact Fr.keep (by k_asm) _ _ (by assumption)); (case U => k_updF); (case b => assumption); (case S' => first | exact Reads1.set1 (by assumption) (by k_asm) | exact setIs_new (by k_asm) (by k_mem) (by k_mem) (by k_mem) (by assumption) | exact setIs_of (by k_asm) (by k_asm) (by assumption) (by assumption) (by k_mem) (by assumption)); (case ne => first | assumption | exact ne_ng (by k_asm) (by k_mem) (Reads1.gx (by assumption)) | exact ne_ng (by k_asm) (by k_mem) (by assumption) | exact Ne.symm (ne_ng (by k_asm) (by k_mem) (by assumption)) | (show @Ne Nat _ _; omega)); (case nd => first | assumption | exact ne_ng (by k_asm) (by k_mem) (Reads1.gd (by assumption)) | exact ne_ng (by k_asm) (by k_mem) (by assumption) | (show @Ne Nat _ _; omega)); intro h' es' n' tk' F' N' x'; (try dsimp only at N'); (try k_sweep)))
set_option hygiene false in
local macro_rules | `(tactic| walk_at "call ref") => `(tactic| (k_here; (with_reducible show wpAny _ _ (call (Value.ref 85) _ _) _ _ _); (try dsimp only [List.nil_append, List.cons_append]); refine' intersection_update_K ?C ?B ?F ?N ?U ?T ?x ?dx ?b ?S' ?ne ?nd ?_; (case C => assumption); (case B => assumption); (case F => k_asm); (case N => k_asm); (case T => exact TupIn.up (by assumption) (by k_asm)); (case x => first | exact News.get (by k_asm) (by k_mem) | exact Fr.keep (by k_asm) _ _ (by assumption)); (case dx => first | exact News.get (by k_asm) (by k_mem) | exact Fr.keep (by k_asm) _ _ (by assumption)); (case U => k_updF); (case b => assumption); (case S' => first | exact Reads1.set1 (by assumption) (by k_asm) | exact setIs_new (by k_asm) (by k_mem) (by k_mem) (by k_mem) (by assumption) | exact setIs_of (by k_asm) (by k_asm) (by assumption) (by assumption) (by k_mem) (by assumption)); (case ne => first | assumption | exact ne_ng (by k_asm) (by k_mem) (Reads1.gx (by assumption)) | exact ne_ng (by k_asm) (by k_mem) (by assumption) | exact Ne.symm (ne_ng (by k_asm) (by k_mem) (by assumption)) | (show @Ne Nat _ _; omega)); (case nd => first | assumption | exact ne_ng (by k_asm) (by k_mem) (Reads1.gd (by assumption)) | exact ne_ng (by k_asm) (by k_mem) (by assumption) | (show @Ne Nat _ _; omega)); intro h' es' n' tk' F' N' x'; (try dsimp only at N'); (try k_sweep)))
set_option hygiene false in
local macro_rules | `(tactic| walk_at "call ref") => `(tactic| (k_here; (with_reducible show wpAny _ _ (call (Value.ref 92) _ _) _ _ _); (try dsimp only [List.nil_append, List.cons_append]); refine' difference_update_K ?C ?B ?F ?N ?U ?T ?x ?dx ?b ?S' ?ne ?nd ?_; (case C => assumption); (case B => assumption); (case F => k_asm); (case N => k_asm); (case T => exact TupIn.up (by assumption) (by k_asm)); (case x => first | exact News.get (by k_asm) (by k_mem) | exact Fr.keep (by k_asm) _ _ (by assumption)); (case dx => first | exact News.get (by k_asm) (by k_mem) | exact Fr.keep (by k_asm) _ _ (by assumption)); (case U => k_updF); (case b => assumption); (case S' => first | exact Reads1.set1 (by assumption) (by k_asm) | exact setIs_new (by k_asm) (by k_mem) (by k_mem) (by k_mem) (by assumption) | exact setIs_of (by k_asm) (by k_asm) (by assumption) (by assumption) (by k_mem) (by assumption)); (case ne => first | assumption | exact ne_ng (by k_asm) (by k_mem) (Reads1.gx (by assumption)) | exact ne_ng (by k_asm) (by k_mem) (by assumption) | exact Ne.symm (ne_ng (by k_asm) (by k_mem) (by assumption)) | (show @Ne Nat _ _; omega)); (case nd => first | assumption | exact ne_ng (by k_asm) (by k_mem) (Reads1.gd (by assumption)) | exact ne_ng (by k_asm) (by k_mem) (by assumption) | (show @Ne Nat _ _; omega)); intro h' es' n' tk' F' N' x'; (try dsimp only at N'); (try k_sweep)))
set_option hygiene false in
local macro_rules | `(tactic| walk_at "call ref") => `(tactic| (k_here; (with_reducible show wpAny _ _ (call (Value.ref 106) _ _) _ _ _); (try dsimp only [List.nil_append, List.cons_append]); refine' union_K ?C ?B ?F ?N ?T ?S ?S' ?_; (case C => assumption); (case B => assumption); (case F => k_asm); (case N => k_asm); (case T => exact TupIn.up (by assumption) (by k_asm)); (case S => first | exact Reads1.set1 (by assumption) (by k_asm) | exact setIs_new (by k_asm) (by k_mem) (by k_mem) (by k_mem) (by assumption) | exact setIs_of (by k_asm) (by k_asm) (by assumption) (by assumption) (by k_mem) (by assumption)); (case S' => first | exact Reads1.set1 (by assumption) (by k_asm) | exact setIs_new (by k_asm) (by k_mem) (by k_mem) (by k_mem) (by assumption) | exact setIs_of (by k_asm) (by k_asm) (by assumption) (by assumption) (by k_mem) (by assumption)); intro h' x' dx' d' t' n' es' ep' tk' F' N' off' e1' e2' e3' Bd'; (try simp only [List.mem_cons, List.not_mem_nil, or_false, forall_eq_or_imp, forall_eq, false_implies, implies_true] at off'); (try k_sweep)))
set_option hygiene false in
local macro_rules | `(tactic| walk_at "call ref") => `(tactic| (k_here; (with_reducible show wpAny _ _ (call (Value.ref 113) _ _) _ _ _); (try dsimp only [List.nil_append, List.cons_append]); refine' intersection_K ?C ?B ?F ?N ?T ?S ?S' ?_; (case C => assumption); (case B => assumption); (case F => k_asm); (case N => k_asm); (case T => exact TupIn.up (by assumption) (by k_asm)); (case S => first | exact Reads1.set1 (by assumption) (by k_asm) | exact setIs_new (by k_asm) (by k_mem) (by k_mem) (by k_mem) (by assumption) | exact setIs_of (by k_asm) (by k_asm) (by assumption) (by assumption) (by k_mem) (by assumption)); (case S' => first | exact Reads1.set1 (by assumption) (by k_asm) | exact setIs_new (by k_asm) (by k_mem) (by k_mem) (by k_mem) (by assumption) | exact setIs_of (by k_asm) (by k_asm) (by assumption) (by assumption) (by k_mem) (by assumption)); intro h' x' dx' d' t' n' es' ep' tk' F' N' off' e1' e2' e3' Bd'; (try simp only [List.mem_cons, List.not_mem_nil, or_false, forall_eq_or_imp, forall_eq, false_implies, implies_true] at off'); (try k_sweep)))
set_option hygiene false in
local macro_rules | `(tactic| walk_at "call ref") => `(tactic| (k_here; (with_reducible show wpAny _ _ (call (Value.ref 120) _ _) _ _ _); (try dsimp only [List.nil_append, List.cons_append]); refine' difference_K ?C ?B ?F ?N ?T ?S ?S' ?_; (case C => assumption); (case B => assumption); (case F => k_asm); (case N => k_asm); (case T => exact TupIn.up (by assumption) (by k_asm)); (case S => first | exact Reads1.set1 (by assumption) (by k_asm) | exact setIs_new (by k_asm) (by k_mem) (by k_mem) (by k_mem) (by assumption) | exact setIs_of (by k_asm) (by k_asm) (by assumption) (by assumption) (by k_mem) (by assumption)); (case S' => first | exact Reads1.set1 (by assumption) (by k_asm) | exact setIs_new (by k_asm) (by k_mem) (by k_mem) (by k_mem) (by assumption) | exact setIs_of (by k_asm) (by k_asm) (by assumption) (by assumption) (by k_mem) (by assumption)); intro h' x' dx' d' t' n' es' ep' tk' F' N' off' e1' e2' e3' Bd'; (try simp only [List.mem_cons, List.not_mem_nil, or_false, forall_eq_or_imp, forall_eq, false_implies, implies_true] at off'); (try k_sweep)))
set_option hygiene false in
local macro_rules | `(tactic| walk_at "call ref") => `(tactic| (k_here; (with_reducible show wpAny _ _ (call (Value.ref 99) _ _) _ _ _); (try dsimp only [List.nil_append, List.cons_append]); refine' symmetric_difference_update_K ?C ?B ?F ?N ?U ?T ?x ?dx ?b ?S' ?ne ?nd ?_; (case C => assumption); (case B => assumption); (case F => k_asm); (case N => k_asm); (case T => exact TupIn.up (by assumption) (by k_asm)); (case x => first | exact News.get (by k_asm) (by k_mem) | exact Fr.keep (by k_asm) _ _ (by assumption)); (case dx => first | exact News.get (by k_asm) (by k_mem) | exact Fr.keep (by k_asm) _ _ (by assumption)); (case U => k_updF); (case b => assumption); (case S' => first | exact Reads1.set1 (by assumption) (by k_asm) | exact setIs_new (by k_asm) (by k_mem) (by k_mem) (by k_mem) (by assumption) | exact setIs_of (by k_asm) (by k_asm) (by assumption) (by assumption) (by k_mem) (by assumption)); (case ne => first | assumption | exact ne_ng (by k_asm) (by k_mem) (Reads1.gx (by assumption)) | exact ne_ng (by k_asm) (by k_mem) (by assumption) | exact Ne.symm (ne_ng (by k_asm) (by k_mem) (by assumption)) | (show @Ne Nat _ _; omega)); (case nd => first | assumption | exact ne_ng (by k_asm) (by k_mem) (Reads1.gd (by assumption)) | exact ne_ng (by k_asm) (by k_mem) (by assumption) | (show @Ne Nat _ _; omega)); intro h' es' n' tk' F' N' x'; (try dsimp only at N'); (try k_sweep)))
set_option hygiene false in
local macro_rules | `(tactic| walk_at "call ref") => `(tactic| (k_here; (with_reducible show wpAny _ _ (call (Value.ref 127) _ _) _ _ _); (try dsimp only [List.nil_append, List.cons_append]); refine' symmetric_difference_K ?C ?B ?F ?N ?T ?S ?S' ?_; (case C => assumption); (case B => assumption); (case F => k_asm); (case N => k_asm); (case T => exact TupIn.up (by assumption) (by k_asm)); (case S => first | exact Reads1.set1 (by assumption) (by k_asm) | exact setIs_new (by k_asm) (by k_mem) (by k_mem) (by k_mem) (by assumption) | exact setIs_of (by k_asm) (by k_asm) (by assumption) (by assumption) (by k_mem) (by assumption)); (case S' => first | exact Reads1.set1 (by assumption) (by k_asm) | exact setIs_new (by k_asm) (by k_mem) (by k_mem) (by k_mem) (by assumption) | exact setIs_of (by k_asm) (by k_asm) (by assumption) (by assumption) (by k_mem) (by assumption)); intro h' x' dx' d' t' n' es' ep' tk' F' N' off' e1' e2' e3' Bd'; (try simp only [List.mem_cons, List.not_mem_nil, or_false, forall_eq_or_imp, forall_eq, false_implies, implies_true] at off'); (try k_sweep)))
set_option hygiene false in
local macro_rules | `(tactic| walk_at "call ref") => `(tactic| (k_here; (with_reducible show wpAny _ _ (call (Value.ref 78) _ _) _ _ _); (try dsimp only [List.nil_append, List.cons_append]); refine' union_update_self_K ?C ?B ?F ?N ?U ?T ?x ?dx ?b ?_; (case C => assumption); (case B => assumption); (case F => k_asm); (case N => k_asm); (case T => exact TupIn.up (by assumption) (by k_asm)); (case x => first | exact News.get (by k_asm) (by k_mem) | exact Fr.keep (by k_asm) _ _ (by assumption)); (case dx => first | exact News.get (by k_asm) (by k_mem) | exact Fr.keep (by k_asm) _ _ (by assumption)); (case U => k_updF); (case b => assumption);  intro h' es' n' tk' F' N' x'; (try dsimp only at N'); (try k_sweep)))
set_option hygiene false in
local macro_rules | `(tactic| walk_at "call ref") => `(tactic| (k_here; (with_reducible show wpAny _ _ (call (Value.ref 85) _ _) _ _ _); (try dsimp only [List.nil_append, List.cons_append]); refine' intersection_update_self_K ?C ?B ?F ?N ?U ?T ?x ?dx ?b ?_; (case C => assumption); (case B => assumption); (case F => k_asm); (case N => k_asm); (case T => exact TupIn.up (by assumption) (by k_asm)); (case x => first | exact News.get (by k_asm) (by k_mem) | exact Fr.keep (by k_asm) _ _ (by assumption)); (case dx => first | exact News.get (by k_asm) (by k_mem) | exact Fr.keep (by k_asm) _ _ (by assumption)); (case U => k_updF); (case b => assumption);  intro h' es' n' tk' F' N' x'; (try dsimp only at N'); (try k_sweep)))
set_option hygiene false in
local macro_rules | `(tactic| walk_at "call ref") => `(tactic| (k_here; (with_reducible show wpAny _ _ (call (Value.ref 92) _ _) _ _ _); (try dsimp only [List.nil_append, List.cons_append]); refine' difference_update_self_K ?C ?B ?F ?N ?U ?T ?x ?dx ?b ?_; (case C => assumption); (case B => assumption); (case F => k_asm); (case N => k_asm); (case T => exact TupIn.up (by assumption) (by k_asm)); (case x => first | exact News.get (by k_asm) (by k_mem) | exact Fr.keep (by k_asm) _ _ (by assumption)); (case dx => first | exact News.get (by k_asm) (by k_mem) | exact Fr.keep (by k_asm) _ _ (by assumption)); (case U => k_updF); (case b => assumption);  intro h' es' n' tk' F' N' x'; (try dsimp only at N'); (try k_sweep)))
set_option hygiene false in
local macro_rules | `(tactic| walk_at "call ref") => `(tactic| (k_here; (with_reducible show wpAny _ _ (call (Value.ref 99) _ _) _ _ _); (try dsimp only [List.nil_append, List.cons_append]); refine' symmetric_difference_update_self_K ?C ?B ?F ?N ?U ?T ?x ?dx ?b ?_; (case C => assumption); (case B => assumption); (case F => k_asm); (case N => k_asm); (case T => exact TupIn.up (by assumption) (by k_asm)); (case x => first | exact News.get (by k_asm) (by k_mem) | exact Fr.keep (by k_asm) _ _ (by assumption)); (case dx => first | exact News.get (by k_asm) (by k_mem) | exact Fr.keep (by k_asm) _ _ (by assumption)); (case U => k_updF); (case b => assumption);  intro h' es' n' tk' F' N' x'; (try dsimp only at N'); (try k_sweep)))
set_option hygiene false in
local macro_rules | `(tactic| walk_at "call builtin:dict.popitem") => `(tactic| (k_here; (with_reducible show wpAny _ _ (call (Value.builtin "dict.popitem") [Value.ref _]) _ _ _); refine' popitem_K ?F ?N ?U ?T ?x ?_; (case T => exact TupIn.up (by assumption) (by k_asm)); (case F => k_asm); (case N => k_asm); (case U => k_updF); (case x => assumption); intro h' es' n' T' v' F' N' l1 x' hv'; (try dsimp only at N' l1); (try k_lt l1); (try k_sweep)))
set_option hygiene false in
local macro_rules | `(tactic| walk_at "call builtin:len") => `(tactic| (k_here; (with_reducible show wpAny _ _ (call (Value.builtin "len") [Value.ref _]) _ _ _); refine' lenM_K ?F ?T ?m ?B ?_; (case F => k_asm); (case T => exact TupIn.up (by assumption) (by k_asm)); (case m => first | exact News.get (by k_asm) (by k_mem) | exact Fr.keep (by k_asm) _ _ (Reads1.gd (by assumption))); (case B => first | assumption | exact Reads1.bd (by assumption)); intro t' tk'))
set_option hygiene false in
local macro_rules | `(tactic| walk_at "assign Tuple") => `(tactic| (k_here; (with_reducible show wpAny _ _ (assign (Expr.Tuple _ _ _) _ (Value.ref _)) _ _ _); refine' unpackN_ ?k1 ?k2 ?k3 ?k4 ?k5 ?k6 ?_; (case k1 => k_asm); (case k2 => k_asm); (case k3 => exact News.isTup (by k_asm) (by k_mem)); (case k4 => (rename Cx _ _ _ _ _ _ _ _ _ => cX; exact cX.handled)); (case k5 => exact rfl); (case k6 => exact rfl); k_whole; intro h' F' N'; (try k_sweep)))
set_option hygiene false in
local macro_rules | `(tactic| walk_at "leaving ref") => `(tactic| (k_here; first
  | (refine' leave_raiseM ?k1 ?k2 (Heap.MadeExc.of (by assumption)) ?_; (case k1 => assumption); (case k2 => assumption); k_whole; intro h' fl')
  | (refine' leave_newM ?k1 ?k2 (by assumption) ?_; (case k1 => assumption); (case k2 => assumption); k_whole; intro h' fl')
  | (refine' leave_onM ?k1 ?k2 (by assumption) ?_; (case k1 => assumption); (case k2 => assumption); k_whole; intro h' fl')))
set_option hygiene false in
local macro_rules | `(tactic| walk_at "call builtin:isinstance") => `(tactic| (k_here; (with_reducible show wpAny _ _ (call _ [Value.ref _, Value.ref 275]) _ _ _); refine' isinst_list ?X ?y ?_; (case X => k_in); (case y => exact Fr.keep (by k_asm) _ _ (by assumption)); k_whole))
set_option hygiene false in
local macro_rules | `(tactic| walk_at "exec Raise some none") => `(tactic| (k_here; (with_reducible show wpAny _ _ (exec (Stmt.Raise (some (Expr.Call (Expr.Name ("ValueError" : Str) _) (_ :: _) [] _)) none _) _) _ _ _); (with_reducible rename Fr _ _ _ _ => kF); refine' Raise_madeB PySem.F.excCall_ValueError PySem.F.excRaise_ValueError ?hh (name_B kF ?k1 ?k2 ?k3 ?k4 ?k5 ⟨rfl, ?_⟩); (case hh => (rename Cx _ _ _ _ _ _ _ _ _ => cX; exact cX.handled)); (case k1 => k_asm); (case k2 => k_asm); (case k3 => k_is); (case k4 => boot_by_name); (case k5 => decide)))
set_option hygiene false in
local macro_rules | `(tactic| walk_at "exec Raise some none") => `(tactic| (k_here; (with_reducible show wpAny _ _ (exec (Stmt.Raise (some (Expr.Call (Expr.Name ("IndexError" : Str) _) (_ :: _) [] _)) none _) _) _ _ _); (with_reducible rename Fr _ _ _ _ => kF); refine' Raise_madeB PySem.F.excCall_IndexError PySem.F.excRaise_IndexError ?hh (name_B kF ?k1 ?k2 ?k3 ?k4 ?k5 ⟨rfl, ?_⟩); (case hh => (rename Cx _ _ _ _ _ _ _ _ _ => cX; exact cX.handled)); (case k1 => k_asm); (case k2 => k_asm); (case k3 => k_is); (case k4 => boot_by_name); (case k5 => decide)))
set_option hygiene false in
local macro_rules | `(tactic| walk_at "call ref") => `(tactic| (k_here; (with_reducible show wpAny _ _ (call (Value.ref 78) _ _) _ _ _); (try dsimp only [List.nil_append, List.cons_append]); refine' union_update_err_K ?C ?B ?F ?T ?y ?_; (case C => assumption); (case B => assumption); (case F => k_asm); (case T => exact TupIn.up (by assumption) (by k_asm)); (case y => exact Fr.keep (by k_asm) _ _ (by assumption)); k_whole; intro h' tk' e' fl'))
set_option hygiene false in
local macro_rules | `(tactic| walk_at "call ref") => `(tactic| (k_here; (with_reducible show wpAny _ _ (call (Value.ref 216) _ _) _ _ _); (try dsimp only [List.nil_append, List.cons_append]); refine' eq_K ?C ?B ?F ?N ?T ?S ?S' ?_; (case C => assumption); (case B => assumption); (case F => k_asm); (case N => k_asm); (case T => exact TupIn.up (by assumption) (by k_asm)); (case S => first | exact Reads1.set1 (by assumption) (by k_asm) | exact setIs_new (by k_asm) (by k_mem) (by k_mem) (by k_mem) (by assumption) | exact setIs_of (by k_asm) (by k_asm) (by assumption) (by assumption) (by k_mem) (by assumption)); (case S' => first | exact Reads1.set1 (by assumption) (by k_asm) | exact setIs_new (by k_asm) (by k_mem) (by k_mem) (by k_mem) (by assumption) | exact setIs_of (by k_asm) (by k_asm) (by assumption) (by assumption) (by k_mem) (by assumption)); intro h' tk' F' N'; (try k_sweep)))
set_option hygiene false in
local macro_rules | `(tactic| walk_at "call ref") => `(tactic| (k_here; (with_reducible show wpAny _ _ (call (Value.ref 106) _ _) _ _ _); (try dsimp only [List.nil_append, List.cons_append]); refine' union_err_L ?C ?B ?F ?T ?S ?y ?_; (case C => assumption); (case B => assumption); (case F => k_asm); (case T => exact TupIn.up (by assumption) (by k_asm)); (case S => first | exact Reads1.set1 (by assumption) (by k_asm) | exact setIs_new (by k_asm) (by k_mem) (by k_mem) (by k_mem) (by assumption) | exact setIs_of (by k_asm) (by k_asm) (by assumption) (by assumption) (by k_mem) (by assumption)); (case y => exact News.get (by k_asm) (by k_mem)); k_whole; intro h' tk' e' fl'))
set_option hygiene false in
local macro_rules | `(tactic| walk_at "call ref") => `(tactic| (k_here; (with_reducible show wpAny _ _ (call (Value.ref 85) _ _) _ _ _); (try dsimp only [List.nil_append, List.cons_append]); refine' intersection_update_err_L ?C ?B ?F ?T ?y ?_; (case C => assumption); (case B => assumption); (case F => k_asm); (case T => exact TupIn.up (by assumption) (by k_asm)); (case y => exact News.get (by k_asm) (by k_mem)); k_whole; intro h' tk' e' fl'))
set_option hygiene false in
local macro_rules | `(tactic| walk_at "call ref") => `(tactic| (k_here; (with_reducible show wpAny _ _ (call (Value.ref 258) _ _) _ _ _); (try dsimp only [List.nil_append, List.cons_append]); refine' issubset_err_L ?C ?B ?F ?T ?y ?_; (case C => assumption); (case B => assumption); (case F => k_asm); (case T => exact TupIn.up (by assumption) (by k_asm)); (case y => exact News.get (by k_asm) (by k_mem)); k_whole; intro h' tk' e' fl'))
set_option hygiene false in
local macro_rules | `(tactic| walk_at "call ref") => `(tactic| (k_here; (with_reducible show wpAny _ _ (call (Value.ref 272) _ _) _ _ _); (try dsimp only [List.nil_append, List.cons_append]); refine' isdisjoint_err_L ?C ?B ?F ?T ?y ?_; (case C => assumption); (case B => assumption); (case F => k_asm); (case T => exact TupIn.up (by assumption) (by k_asm)); (case y => exact News.get (by k_asm) (by k_mem)); k_whole; intro h' tk' e' fl'))
section
open PySem PySem.W PySem.Calls PyProof.Rows
theorem offF33 : True := by
  w_top off
  trivial
section
variable {prog : Program} {w : World} {A : Around} {E : Value → Shared → Prop} {base ti g h h' h₀ : Heap} {frs : List Env} {mean : ExcName → Option Value} {mg mb : Str → Option Value} {s : Shared} {k : Nat}
  {x dx d y dy e f L z dz c : Addr} {l l' l'' : List (Fin 9)} {v : Value} {i : Fin 9} {R : Result → Shared → Prop} {m : Str → Option Value} {news : List (Addr × Obj)} {u : Obj → List (Addr × Obj)} {es : List DictEntry} {n n₁ t ep : Nat}
  {qual : Str} {scope : Scope} {cdv : Value} {Q : Value → Shared → Prop}

def all9 : List (Fin 9) := [0, 1, 2, 3, 4, 5, 6, 7, 8]
theorem items_code (C : Cx w A base frs mean mg mb s.heap (k + 1)) (Ti : TupIn ti s.heap)
    (hR : ∀ h' tk D T1 T2 o1 o2 vs n, Chg [] s.heap h' → Fresh s.heap [D, T1, T2] → h'.get? D = some (listOf (List.toArray vs) n) → h'.get? T1 = some o1 → h'.get? T2 = some o2 → (∀ ti' : Heap, ti'.get? T1 = some o1 → ti'.get? T2 = some o2 → Row ti' vs all9) →
      R (.ok (.ret (.ref D))) { s with heap := h', toks := tk }) :
    codeAny (model prog w) A (.call (.ref 286) ⟨[], []⟩) R s := by
  refine enter0 C Ti (by k_is) (by k_is) (BindsTo.of_eq rfl) (locs rfl) fun g L h₁ hg Tg F N B X T => ?_
  (try dsimp only)
  k_steps
  rename News _ _ _ _ => N2
  rename Fr _ _ _ _ => F2
  refine hR _ _ _ _ _ _ _ _ _ (chg_of hg F2) (Fresh.cons hg N2 (.head _) (by simp) (Fresh.cons hg N2 (.tail _ (.tail _ (.head _))) (by simp) (Fresh.cons hg N2 (.tail _ (.head _)) (by simp) (Fresh.nil _)))) (N2.get (.head _)) (N2.get (.tail _ (.tail _ (.head _)))) (N2.get (.tail _ (.head _))) fun ti' h1 h2 => ?_
  exact .cons ⟨_, .int _ _⟩ (.cons ⟨_, .int _ _⟩ (.cons ⟨_, .int _ _⟩ (.cons ⟨_, .int _ _⟩ (.cons ⟨_, .int _ _⟩ (.cons ⟨_, .str _ _⟩ (.cons ⟨_, .str _ _⟩
    (.cons ⟨_, .tuple h1 rfl rfl (.cons (.int _ _) (.cons (.str _ _) .nil))⟩ (.cons ⟨_, .tuple h2 rfl rfl (.cons (.int _ _) .nil)⟩ .nil))))))))
theorem ior_inK (C : Cx w A base frs mean mg mb h₀ (k + 8)) (B : Below A base frs g) (F : Fr g L s.heap m) (N : News g L s.heap news) (U : UpdF d (dictOf es n) news u) (Ti : TupIn ti s.heap)
    (hx : s.heap.get? x = some (instObj 275 dx)) (hdx : s.heap.get? dx = some (setAttrs w t n₁ d)) (Bd : Bears prog w ti d es l) (S' : SetIs prog w ti s.heap y dy e l') (hxy : x ≠ y) (hde : d ≠ e)
    (h : ∀ h' es' n' tk, Fr g L h' m → News g L h' (u (dictOf es' n')) → Bears prog w ti d es' (uniL l l') → Q (.ref x) { s with heap := h', toks := tk }) (hk : scope.kind = .function := by rfl) :
    wpAny (model prog w) (A.deeper (envOf qual scope L f cdv)) (call (.ref 169) [.ref x, .ref y]) Q E s :=
  wpAny_call (ior_code (k := k) (C.inner B F hk) Ti ⟨hx, ⟨_, _, hdx⟩, _, _, N.get (upd_mem U), Bd⟩ (Own.of_news B N (upd_mem U)) S' hxy hde fun h' tk c S => by
    obtain ⟨es', n', F', N', x'⟩ := use1 F N U c S
    exact h h' es' n' tk F' N' x')
theorem ior_s_inK (C : Cx w A base frs mean mg mb h₀ (k + 8)) (B : Below A base frs g) (F : Fr g L s.heap m) (N : News g L s.heap news) (U : UpdF d (dictOf es n) news u) (Ti : TupIn ti s.heap)
    (hx : s.heap.get? x = some (instObj 275 dx)) (hdx : s.heap.get? dx = some (setAttrs w t n₁ d)) (Bd : Bears prog w ti d es l) 
    (h : ∀ h' es' n' tk, Fr g L h' m → News g L h' (u (dictOf es' n')) → Bears prog w ti d es' (uniL l l) → Q (.ref x) { s with heap := h', toks := tk }) (hk : scope.kind = .function := by rfl) :
    wpAny (model prog w) (A.deeper (envOf qual scope L f cdv)) (call (.ref 169) [.ref x, .ref x]) Q E s :=
  wpAny_call (ior_self (k := k) (C.inner B F hk) Ti ⟨hx, ⟨_, _, hdx⟩, _, _, N.get (upd_mem U), Bd⟩ (Own.of_news B N (upd_mem U))  fun h' tk c S => by
    obtain ⟨es', n', F', N', x'⟩ := use1 F N U c S
    exact h h' es' n' tk F' N' x')
theorem iand_inK (C : Cx w A base frs mean mg mb h₀ (k + 8)) (B : Below A base frs g) (F : Fr g L s.heap m) (N : News g L s.heap news) (U : UpdF d (dictOf es n) news u) (Ti : TupIn ti s.heap)
    (hx : s.heap.get? x = some (instObj 275 dx)) (hdx : s.heap.get? dx = some (setAttrs w t n₁ d)) (Bd : Bears prog w ti d es l) (S' : SetIs prog w ti s.heap y dy e l') (hxy : x ≠ y) (hde : d ≠ e)
    (h : ∀ h' es' n' tk, Fr g L h' m → News g L h' (u (dictOf es' n')) → Bears prog w ti d es' (intL l l') → Q (.ref x) { s with heap := h', toks := tk }) (hk : scope.kind = .function := by rfl) :
    wpAny (model prog w) (A.deeper (envOf qual scope L f cdv)) (call (.ref 176) [.ref x, .ref y]) Q E s :=
  wpAny_call (iand_code (k := k) (C.inner B F hk) Ti ⟨hx, ⟨_, _, hdx⟩, _, _, N.get (upd_mem U), Bd⟩ (Own.of_news B N (upd_mem U)) S' hxy hde fun h' tk c S => by
    obtain ⟨es', n', F', N', x'⟩ := use1 F N U c S
    exact h h' es' n' tk F' N' x')
theorem iand_s_inK (C : Cx w A base frs mean mg mb h₀ (k + 8)) (B : Below A base frs g) (F : Fr g L s.heap m) (N : News g L s.heap news) (U : UpdF d (dictOf es n) news u) (Ti : TupIn ti s.heap)
    (hx : s.heap.get? x = some (instObj 275 dx)) (hdx : s.heap.get? dx = some (setAttrs w t n₁ d)) (Bd : Bears prog w ti d es l) 
    (h : ∀ h' es' n' tk, Fr g L h' m → News g L h' (u (dictOf es' n')) → Bears prog w ti d es' (intL l l) → Q (.ref x) { s with heap := h', toks := tk }) (hk : scope.kind = .function := by rfl) :
    wpAny (model prog w) (A.deeper (envOf qual scope L f cdv)) (call (.ref 176) [.ref x, .ref x]) Q E s :=
  wpAny_call (iand_self (k := k) (C.inner B F hk) Ti ⟨hx, ⟨_, _, hdx⟩, _, _, N.get (upd_mem U), Bd⟩ (Own.of_news B N (upd_mem U))  fun h' tk c S => by
    obtain ⟨es', n', F', N', x'⟩ := use1 F N U c S
    exact h h' es' n' tk F' N' x')
theorem iminus_inK (C : Cx w A base frs mean mg mb h₀ (k + 8)) (B : Below A base frs g) (F : Fr g L s.heap m) (N : News g L s.heap news) (U : UpdF d (dictOf es n) news u) (Ti : TupIn ti s.heap)
    (hx : s.heap.get? x = some (instObj 275 dx)) (hdx : s.heap.get? dx = some (setAttrs w t n₁ d)) (Bd : Bears prog w ti d es l) (S' : SetIs prog w ti s.heap y dy e l') (hxy : x ≠ y) (hde : d ≠ e)
    (h : ∀ h' es' n' tk, Fr g L h' m → News g L h' (u (dictOf es' n')) → Bears prog w ti d es' (difL l l') → Q (.ref x) { s with heap := h', toks := tk }) (hk : scope.kind = .function := by rfl) :
    wpAny (model prog w) (A.deeper (envOf qual scope L f cdv)) (call (.ref 190) [.ref x, .ref y]) Q E s :=
  wpAny_call (iminus_code (k := k) (C.inner B F hk) Ti ⟨hx, ⟨_, _, hdx⟩, _, _, N.get (upd_mem U), Bd⟩ (Own.of_news B N (upd_mem U)) S' hxy hde fun h' tk c S => by
    obtain ⟨es', n', F', N', x'⟩ := use1 F N U c S
    exact h h' es' n' tk F' N' x')
theorem iminus_s_inK (C : Cx w A base frs mean mg mb h₀ (k + 8)) (B : Below A base frs g) (F : Fr g L s.heap m) (N : News g L s.heap news) (U : UpdF d (dictOf es n) news u) (Ti : TupIn ti s.heap)
    (hx : s.heap.get? x = some (instObj 275 dx)) (hdx : s.heap.get? dx = some (setAttrs w t n₁ d)) (Bd : Bears prog w ti d es l) 
    (h : ∀ h' es' n' tk, Fr g L h' m → News g L h' (u (dictOf es' n')) → Bears prog w ti d es' (difL l l) → Q (.ref x) { s with heap := h', toks := tk }) (hk : scope.kind = .function := by rfl) :
    wpAny (model prog w) (A.deeper (envOf qual scope L f cdv)) (call (.ref 190) [.ref x, .ref x]) Q E s :=
  wpAny_call (iminus_self (k := k) (C.inner B F hk) Ti ⟨hx, ⟨_, _, hdx⟩, _, _, N.get (upd_mem U), Bd⟩ (Own.of_news B N (upd_mem U))  fun h' tk c S => by
    obtain ⟨es', n', F', N', x'⟩ := use1 F N U c S
    exact h h' es' n' tk F' N' x')
theorem ixor_inK (C : Cx w A base frs mean mg mb h₀ (k + 8)) (B : Below A base frs g) (F : Fr g L s.heap m) (N : News g L s.heap news) (U : UpdF d (dictOf es n) news u) (Ti : TupIn ti s.heap)
    (hx : s.heap.get? x = some (instObj 275 dx)) (hdx : s.heap.get? dx = some (setAttrs w t n₁ d)) (Bd : Bears prog w ti d es l) (S' : SetIs prog w ti s.heap y dy e l') (hxy : x ≠ y) (hde : d ≠ e)
    (h : ∀ h' es' n' tk, Fr g L h' m → News g L h' (u (dictOf es' n')) → Bears prog w ti d es' (symL l l') → Q (.ref x) { s with heap := h', toks := tk }) (hk : scope.kind = .function := by rfl) :
    wpAny (model prog w) (A.deeper (envOf qual scope L f cdv)) (call (.ref 197) [.ref x, .ref y]) Q E s :=
  wpAny_call (ixor_code (k := k) (C.inner B F hk) Ti ⟨hx, ⟨_, _, hdx⟩, _, _, N.get (upd_mem U), Bd⟩ (Own.of_news B N (upd_mem U)) S' hxy hde fun h' tk c S => by
    obtain ⟨es', n', F', N', x'⟩ := use1 F N U c S
    exact h h' es' n' tk F' N' x')
theorem ixor_s_inK (C : Cx w A base frs mean mg mb h₀ (k + 8)) (B : Below A base frs g) (F : Fr g L s.heap m) (N : News g L s.heap news) (U : UpdF d (dictOf es n) news u) (Ti : TupIn ti s.heap)
    (hx : s.heap.get? x = some (instObj 275 dx)) (hdx : s.heap.get? dx = some (setAttrs w t n₁ d)) (Bd : Bears prog w ti d es l) 
    (h : ∀ h' es' n' tk, Fr g L h' m → News g L h' (u (dictOf es' n')) → Bears prog w ti d es' (symL l l) → Q (.ref x) { s with heap := h', toks := tk }) (hk : scope.kind = .function := by rfl) :
    wpAny (model prog w) (A.deeper (envOf qual scope L f cdv)) (call (.ref 197) [.ref x, .ref x]) Q E s :=
  wpAny_call (ixor_self (k := k) (C.inner B F hk) Ti ⟨hx, ⟨_, _, hdx⟩, _, _, N.get (upd_mem U), Bd⟩ (Own.of_news B N (upd_mem U))  fun h' tk c S => by
    obtain ⟨es', n', F', N', x'⟩ := use1 F N U c S
    exact h h' es' n' tk F' N' x')
end
end
set_option hygiene false in
local macro_rules | `(tactic| walk_at "call ref") => `(tactic| (k_here; (with_reducible show wpAny _ _ (call (Value.ref 169) _ _) _ _ _); (try dsimp only [List.nil_append, List.cons_append]); refine' ior_inK ?C ?B ?F ?N ?U ?T ?x ?dx ?b ?S' ?ne ?nd ?_; (case C => assumption); (case B => assumption); (case F => k_asm); (case N => k_asm); (case T => exact TupIn.up (by assumption) (by k_asm)); (case x => first | exact News.get (by k_asm) (by k_mem) | exact Fr.keep (by k_asm) _ _ (by assumption)); (case dx => first | exact News.get (by k_asm) (by k_mem) | exact Fr.keep (by k_asm) _ _ (by assumption)); (case U => k_updF); (case b => assumption); (case S' => first | exact Reads1.set1 (by assumption) (by k_asm) | exact setIs_new (by k_asm) (by k_mem) (by k_mem) (by k_mem) (by assumption) | exact setIs_of (by k_asm) (by k_asm) (by assumption) (by assumption) (by k_mem) (by assumption)); (case ne => first | assumption | exact ne_ng (by k_asm) (by k_mem) (Reads1.gx (by assumption)) | exact ne_ng (by k_asm) (by k_mem) (by assumption) | exact Ne.symm (ne_ng (by k_asm) (by k_mem) (by assumption)) | (show @Ne Nat _ _; omega)); (case nd => first | assumption | exact ne_ng (by k_asm) (by k_mem) (Reads1.gd (by assumption)) | exact ne_ng (by k_asm) (by k_mem) (by assumption) | (show @Ne Nat _ _; omega)); intro h' es' n' tk' F' N' x'; (try dsimp only [PySem.W.CmpBack] at N' ⊢); (try k_sweep)))
set_option hygiene false in
local macro_rules | `(tactic| walk_at "call ref") => `(tactic| (k_here; (with_reducible show wpAny _ _ (call (Value.ref 169) _ _) _ _ _); (try dsimp only [List.nil_append, List.cons_append]); refine' ior_s_inK ?C ?B ?F ?N ?U ?T ?x ?dx ?b ?_; (case C => assumption); (case B => assumption); (case F => k_asm); (case N => k_asm); (case T => exact TupIn.up (by assumption) (by k_asm)); (case x => first | exact News.get (by k_asm) (by k_mem) | exact Fr.keep (by k_asm) _ _ (by assumption)); (case dx => first | exact News.get (by k_asm) (by k_mem) | exact Fr.keep (by k_asm) _ _ (by assumption)); (case U => k_updF); (case b => assumption); intro h' es' n' tk' F' N' x'; (try dsimp only [PySem.W.CmpBack] at N' ⊢); (try k_sweep)))
set_option hygiene false in
local macro_rules | `(tactic| walk_at "call ref") => `(tactic| (k_here; (with_reducible show wpAny _ _ (call (Value.ref 176) _ _) _ _ _); (try dsimp only [List.nil_append, List.cons_append]); refine' iand_inK ?C ?B ?F ?N ?U ?T ?x ?dx ?b ?S' ?ne ?nd ?_; (case C => assumption); (case B => assumption); (case F => k_asm); (case N => k_asm); (case T => exact TupIn.up (by assumption) (by k_asm)); (case x => first | exact News.get (by k_asm) (by k_mem) | exact Fr.keep (by k_asm) _ _ (by assumption)); (case dx => first | exact News.get (by k_asm) (by k_mem) | exact Fr.keep (by k_asm) _ _ (by assumption)); (case U => k_updF); (case b => assumption); (case S' => first | exact Reads1.set1 (by assumption) (by k_asm) | exact setIs_new (by k_asm) (by k_mem) (by k_mem) (by k_mem) (by assumption) | exact setIs_of (by k_asm) (by k_asm) (by assumption) (by assumption) (by k_mem) (by assumption)); (case ne => first | assumption | exact ne_ng (by k_asm) (by k_mem) (Reads1.gx (by assumption)) | exact ne_ng (by k_asm) (by k_mem) (by assumption) | exact Ne.symm (ne_ng (by k_asm) (by k_mem) (by assumption)) | (show @Ne Nat _ _; omega)); (case nd => first | assumption | exact ne_ng (by k_asm) (by k_mem) (Reads1.gd (by assumption)) | exact ne_ng (by k_asm) (by k_mem) (by assumption) | (show @Ne Nat _ _; omega)); intro h' es' n' tk' F' N' x'; (try dsimp only [PySem.W.CmpBack] at N' ⊢); (try k_sweep)))
set_option hygiene false in
local macro_rules | `(tactic| walk_at "call ref") => `(tactic| (k_here; (with_reducible show wpAny _ _ (call (Value.ref 176) _ _) _ _ _); (try dsimp only [List.nil_append, List.cons_append]); refine' iand_s_inK ?C ?B ?F ?N ?U ?T ?x ?dx ?b ?_; (case C => assumption); (case B => assumption); (case F => k_asm); (case N => k_asm); (case T => exact TupIn.up (by assumption) (by k_asm)); (case x => first | exact News.get (by k_asm) (by k_mem) | exact Fr.keep (by k_asm) _ _ (by assumption)); (case dx => first | exact News.get (by k_asm) (by k_mem) | exact Fr.keep (by k_asm) _ _ (by assumption)); (case U => k_updF); (case b => assumption); intro h' es' n' tk' F' N' x'; (try dsimp only [PySem.W.CmpBack] at N' ⊢); (try k_sweep)))
set_option hygiene false in
local macro_rules | `(tactic| walk_at "call ref") => `(tactic| (k_here; (with_reducible show wpAny _ _ (call (Value.ref 190) _ _) _ _ _); (try dsimp only [List.nil_append, List.cons_append]); refine' iminus_inK ?C ?B ?F ?N ?U ?T ?x ?dx ?b ?S' ?ne ?nd ?_; (case C => assumption); (case B => assumption); (case F => k_asm); (case N => k_asm); (case T => exact TupIn.up (by assumption) (by k_asm)); (case x => first | exact News.get (by k_asm) (by k_mem) | exact Fr.keep (by k_asm) _ _ (by assumption)); (case dx => first | exact News.get (by k_asm) (by k_mem) | exact Fr.keep (by k_asm) _ _ (by assumption)); (case U => k_updF); (case b => assumption); (case S' => first | exact Reads1.set1 (by assumption) (by k_asm) | exact setIs_new (by k_asm) (by k_mem) (by k_mem) (by k_mem) (by assumption) | exact setIs_of (by k_asm) (by k_asm) (by assumption) (by assumption) (by k_mem) (by assumption)); (case ne => first | assumption | exact ne_ng (by k_asm) (by k_mem) (Reads1.gx (by assumption)) | exact ne_ng (by k_asm) (by k_mem) (by assumption) | exact Ne.symm (ne_ng (by k_asm) (by k_mem) (by assumption)) | (show @Ne Nat _ _; omega)); (case nd => first | assumption | exact ne_ng (by k_asm) (by k_mem) (Reads1.gd (by assumption)) | exact ne_ng (by k_asm) (by k_mem) (by assumption) | (show @Ne Nat _ _; omega)); intro h' es' n' tk' F' N' x'; (try dsimp only [PySem.W.CmpBack] at N' ⊢); (try k_sweep)))
set_option hygiene false in
local macro_rules | `(tactic| walk_at "call ref") => `(tactic| (k_here; (with_reducible show wpAny _ _ (call (Value.ref 190) _ _) _ _ _); (try dsimp only [List.nil_append, List.cons_append]); refine' iminus_s_inK ?C ?B ?F ?N ?U ?T ?x ?dx ?b ?_; (case C => assumption); (case B => assumption); (case F => k_asm); (case N => k_asm); (case T => exact TupIn.up (by assumption) (by k_asm)); (case x => first | exact News.get (by k_asm) (by k_mem) | exact Fr.keep (by k_asm) _ _ (by assumption)); (case dx => first | exact News.get (by k_asm) (by k_mem) | exact Fr.keep (by k_asm) _ _ (by assumption)); (case U => k_updF); (case b => assumption); intro h' es' n' tk' F' N' x'; (try dsimp only [PySem.W.CmpBack] at N' ⊢); (try k_sweep)))
set_option hygiene false in
local macro_rules | `(tactic| walk_at "call ref") => `(tactic| (k_here; (with_reducible show wpAny _ _ (call (Value.ref 197) _ _) _ _ _); (try dsimp only [List.nil_append, List.cons_append]); refine' ixor_inK ?C ?B ?F ?N ?U ?T ?x ?dx ?b ?S' ?ne ?nd ?_; (case C => assumption); (case B => assumption); (case F => k_asm); (case N => k_asm); (case T => exact TupIn.up (by assumption) (by k_asm)); (case x => first | exact News.get (by k_asm) (by k_mem) | exact Fr.keep (by k_asm) _ _ (by assumption)); (case dx => first | exact News.get (by k_asm) (by k_mem) | exact Fr.keep (by k_asm) _ _ (by assumption)); (case U => k_updF); (case b => assumption); (case S' => first | exact Reads1.set1 (by assumption) (by k_asm) | exact setIs_new (by k_asm) (by k_mem) (by k_mem) (by k_mem) (by assumption) | exact setIs_of (by k_asm) (by k_asm) (by assumption) (by assumption) (by k_mem) (by assumption)); (case ne => first | assumption | exact ne_ng (by k_asm) (by k_mem) (Reads1.gx (by assumption)) | exact ne_ng (by k_asm) (by k_mem) (by assumption) | exact Ne.symm (ne_ng (by k_asm) (by k_mem) (by assumption)) | (show @Ne Nat _ _; omega)); (case nd => first | assumption | exact ne_ng (by k_asm) (by k_mem) (Reads1.gd (by assumption)) | exact ne_ng (by k_asm) (by k_mem) (by assumption) | (show @Ne Nat _ _; omega)); intro h' es' n' tk' F' N' x'; (try dsimp only [PySem.W.CmpBack] at N' ⊢); (try k_sweep)))
set_option hygiene false in
local macro_rules | `(tactic| walk_at "call ref") => `(tactic| (k_here; (with_reducible show wpAny _ _ (call (Value.ref 197) _ _) _ _ _); (try dsimp only [List.nil_append, List.cons_append]); refine' ixor_s_inK ?C ?B ?F ?N ?U ?T ?x ?dx ?b ?_; (case C => assumption); (case B => assumption); (case F => k_asm); (case N => k_asm); (case T => exact TupIn.up (by assumption) (by k_asm)); (case x => first | exact News.get (by k_asm) (by k_mem) | exact Fr.keep (by k_asm) _ _ (by assumption)); (case dx => first | exact News.get (by k_asm) (by k_mem) | exact Fr.keep (by k_asm) _ _ (by assumption)); (case U => k_updF); (case b => assumption); intro h' es' n' tk' F' N' x'; (try dsimp only [PySem.W.CmpBack] at N' ⊢); (try k_sweep)))
section
open PySem PySem.W PySem.Calls PyProof.Rows
theorem offF34 : True := by
  w_top off
  trivial
section
variable {prog : Program} {w : World} {A : Around} {E : Value → Shared → Prop} {base ti g h h' h₀ : Heap} {frs : List Env} {mean : ExcName → Option Value} {mg mb : Str → Option Value} {s : Shared} {k : Nat}
  {x dx d y dy e f L z dz c : Addr} {l l' l'' : List (Fin 9)} {v : Value} {i : Fin 9} {R : Result → Shared → Prop} {m : Str → Option Value} {news : List (Addr × Obj)} {u : Obj → List (Addr × Obj)} {es : List DictEntry} {n n₁ t ep : Nat}
  {qual : Str} {scope : Scope} {cdv : Value} {Q : Value → Shared → Prop}
theorem by_sign_code {kd : Int} {t₀ : Nat} (C : Cx w A base frs mean mg mb s.heap (k + 9)) (Ti : TupIn ti s.heap) (S : SetIs prog w ti s.heap x dx d l) (O : Own base frs d) (S' : SetIs prog w ti s.heap y dy e l') (hxy : x ≠ y) (hde : d ≠ e)
    (hR : ∀ h' tk, Chg [d] s.heap h' → SetIs prog w ti h' x dx d (due kd l l') → R (.ok (.ret (.ref x))) { s with heap := h', toks := tk }) :
    codeAny (model prog w) A (.call (.ref 305) ⟨[.int kd t₀, .ref x, .ref y], []⟩) R s := by
  refine enter1 C Ti S O (by k_is) (by k_is) (BindsTo.of_eq rfl) (locs rfl) fun g L h₁ t n es ep hg Tg gx gdx Bd F N B X T => ?_
  obtain ⟨t2, n2, ep2, es2, Rx⟩ := S'.reads hg (fun b hb => by rw [List.mem_singleton.mp hb]; exact ⟨(S.off S').1.symm, (S.off S').2.symm, hde⟩)
  dsimp only
  k_steps
  · rw [due, if_pos (by assumption)] at hR
    exact hR _ _ (chg_of hg (by k_asm)) (setIs_of (by k_asm) (by k_asm) gx gdx (by k_mem) (by assumption))
  · rw [due, if_neg (by assumption), if_pos (by assumption)] at hR
    exact hR _ _ (chg_of hg (by k_asm)) (setIs_of (by k_asm) (by k_asm) gx gdx (by k_mem) (by assumption))
  · rw [due, if_neg (by assumption), if_neg (by assumption), if_pos (by assumption)] at hR
    exact hR _ _ (chg_of hg (by k_asm)) (setIs_of (by k_asm) (by k_asm) gx gdx (by k_mem) (by assumption))
  · rw [due, if_neg (by assumption), if_neg (by assumption), if_neg (by assumption)] at hR
    exact hR _ _ (chg_of hg (by k_asm)) (setIs_of (by k_asm) (by k_asm) gx gdx (by k_mem) (by assumption))
theorem by_sign_self {kd : Int} {t₀ : Nat} (C : Cx w A base frs mean mg mb s.heap (k + 9)) (Ti : TupIn ti s.heap) (S : SetIs prog w ti s.heap x dx d l) (O : Own base frs d)
    (hR : ∀ h' tk, Chg [d] s.heap h' → SetIs prog w ti h' x dx d (due kd l l) → R (.ok (.ret (.ref x))) { s with heap := h', toks := tk }) :
    codeAny (model prog w) A (.call (.ref 305) ⟨[.int kd t₀, .ref x, .ref x], []⟩) R s := by
  refine enter1 C Ti S O (by k_is) (by k_is) (BindsTo.of_eq rfl) (locs rfl) fun g L h₁ t n es ep hg Tg gx gdx Bd F N B X T => ?_
  dsimp only
  k_steps
  · rw [due, if_pos (by assumption)] at hR
    exact hR _ _ (chg_of hg (by k_asm)) (setIs_of (by k_asm) (by k_asm) gx gdx (by k_mem) (by assumption))
  · rw [due, if_neg (by assumption), if_pos (by assumption)] at hR
    exact hR _ _ (chg_of hg (by k_asm)) (setIs_of (by k_asm) (by k_asm) gx gdx (by k_mem) (by assumption))
  · rw [due, if_neg (by assumption), if_neg (by assumption), if_pos (by assumption)] at hR
    exact hR _ _ (chg_of hg (by k_asm)) (setIs_of (by k_asm) (by k_asm) gx gdx (by k_mem) (by assumption))
  · rw [due, if_neg (by assumption), if_neg (by assumption), if_neg (by assumption)] at hR
    exact hR _ _ (chg_of hg (by k_asm)) (setIs_of (by k_asm) (by k_asm) gx gdx (by k_mem) (by assumption))
end
end
set_option hygiene false in
local macro_rules | `(tactic| walk_at "call ref") => `(tactic| (k_here; (with_reducible show wpAny _ _ (call (Value.ref 99) _ _) _ _ _); (try dsimp only [List.nil_append, List.cons_append]); refine' symmetric_difference_update_K ?C ?B ?F ?N ?U ?T ?x ?dx ?b ?S' ?ne ?nd ?_; (case C => assumption); (case B => assumption); (case F => k_asm); (case N => k_asm); (case T => exact TupIn.up (by assumption) (by k_asm)); (case x => first | exact News.get (by k_asm) (by k_mem) | exact Fr.keep (by k_asm) _ _ (by assumption)); (case dx => first | exact News.get (by k_asm) (by k_mem) | exact Fr.keep (by k_asm) _ _ (by assumption)); (case U => k_updF); (case b => assumption); (case S' => first | exact Reads1.set1 (by assumption) (by k_asm) | exact setIs_new (by k_asm) (by k_mem) (by k_mem) (by k_mem) (by assumption) | exact setIs_of (by k_asm) (by k_asm) (by assumption) (by assumption) (by k_mem) (by assumption)); (case ne => first | assumption | exact ne_ng (by k_asm) (by k_mem) (Reads1.gx (by assumption)) | exact ne_ng (by k_asm) (by k_mem) (by assumption) | exact Ne.symm (ne_ng (by k_asm) (by k_mem) (by assumption)) | (show @Ne Nat _ _; omega)); (case nd => first | assumption | exact ne_ng (by k_asm) (by k_mem) (Reads1.gd (by assumption)) | exact ne_ng (by k_asm) (by k_mem) (by assumption) | (show @Ne Nat _ _; omega)); intro h' es' n' tk' F' N' x'; (try dsimp only at N'); (try k_sweep)))
set_option hygiene false in
local macro_rules | `(tactic| walk_at "call ref") => `(tactic| (k_here; (with_reducible show wpAny _ _ (call (Value.ref 78) _ _) _ _ _); (try dsimp only [List.nil_append, List.cons_append]); refine' union_update_self_K ?C ?B ?F ?N ?U ?T ?x ?dx ?b ?_; (case C => assumption); (case B => assumption); (case F => k_asm); (case N => k_asm); (case T => exact TupIn.up (by assumption) (by k_asm)); (case x => first | exact News.get (by k_asm) (by k_mem) | exact Fr.keep (by k_asm) _ _ (by assumption)); (case dx => first | exact News.get (by k_asm) (by k_mem) | exact Fr.keep (by k_asm) _ _ (by assumption)); (case U => k_updF); (case b => assumption);  intro h' es' n' tk' F' N' x'; (try dsimp only at N'); (try k_sweep)))
set_option hygiene false in
local macro_rules | `(tactic| walk_at "call ref") => `(tactic| (k_here; (with_reducible show wpAny _ _ (call (Value.ref 85) _ _) _ _ _); (try dsimp only [List.nil_append, List.cons_append]); refine' intersection_update_self_K ?C ?B ?F ?N ?U ?T ?x ?dx ?b ?_; (case C => assumption); (case B => assumption); (case F => k_asm); (case N => k_asm); (case T => exact TupIn.up (by assumption) (by k_asm)); (case x => first | exact News.get (by k_asm) (by k_mem) | exact Fr.keep (by k_asm) _ _ (by assumption)); (case dx => first | exact News.get (by k_asm) (by k_mem) | exact Fr.keep (by k_asm) _ _ (by assumption)); (case U => k_updF); (case b => assumption);  intro h' es' n' tk' F' N' x'; (try dsimp only at N'); (try k_sweep)))
set_option hygiene false in
local macro_rules | `(tactic| walk_at "call ref") => `(tactic| (k_here; (with_reducible show wpAny _ _ (call (Value.ref 92) _ _) _ _ _); (try dsimp only [List.nil_append, List.cons_append]); refine' difference_update_self_K ?C ?B ?F ?N ?U ?T ?x ?dx ?b ?_; (case C => assumption); (case B => assumption); (case F => k_asm); (case N => k_asm); (case T => exact TupIn.up (by assumption) (by k_asm)); (case x => first | exact News.get (by k_asm) (by k_mem) | exact Fr.keep (by k_asm) _ _ (by assumption)); (case dx => first | exact News.get (by k_asm) (by k_mem) | exact Fr.keep (by k_asm) _ _ (by assumption)); (case U => k_updF); (case b => assumption);  intro h' es' n' tk' F' N' x'; (try dsimp only at N'); (try k_sweep)))
set_option hygiene false in
local macro_rules | `(tactic| walk_at "call ref") => `(tactic| (k_here; (with_reducible show wpAny _ _ (call (Value.ref 99) _ _) _ _ _); (try dsimp only [List.nil_append, List.cons_append]); refine' symmetric_difference_update_self_K ?C ?B ?F ?N ?U ?T ?x ?dx ?b ?_; (case C => assumption); (case B => assumption); (case F => k_asm); (case N => k_asm); (case T => exact TupIn.up (by assumption) (by k_asm)); (case x => first | exact News.get (by k_asm) (by k_mem) | exact Fr.keep (by k_asm) _ _ (by assumption)); (case dx => first | exact News.get (by k_asm) (by k_mem) | exact Fr.keep (by k_asm) _ _ (by assumption)); (case U => k_updF); (case b => assumption);  intro h' es' n' tk' F' N' x'; (try dsimp only at N'); (try k_sweep)))
section
open PySem PySem.W PySem.Calls PyProof.Rows
theorem offF35 : True := by
  w_top off
  trivial
section
variable {prog : Program} {w : World} {A : Around} {E : Value → Shared → Prop} {base ti g h h' h₀ : Heap} {frs : List Env} {mean : ExcName → Option Value} {mg mb : Str → Option Value} {s : Shared} {k : Nat}
  {x dx d y dy e f L z dz c : Addr} {l l' l'' : List (Fin 9)} {v : Value} {i : Fin 9} {R : Result → Shared → Prop} {m : Str → Option Value} {news : List (Addr × Obj)} {u : Obj → List (Addr × Obj)} {es : List DictEntry} {n n₁ t ep : Nat}
  {qual : Str} {scope : Scope} {cdv : Value} {Q : Value → Shared → Prop}
theorem by_name_code {kd : Int} {t₀ : Nat} (C : Cx w A base frs mean mg mb s.heap (k + 9)) (Ti : TupIn ti s.heap) (S : SetIs prog w ti s.heap x dx d l) (O : Own base frs d) (S' : SetIs prog w ti s.heap y dy e l') (hxy : x ≠ y) (hde : d ≠ e)
    (hR : ∀ h' tk, Chg [d] s.heap h' → SetIs prog w ti h' x dx d (due kd l l') → R (.ok (.ret (.ref x))) { s with heap := h', toks := tk }) :
    codeAny (model prog w) A (.call (.ref 312) ⟨[.int kd t₀, .ref x, .ref y], []⟩) R s := by
  refine enter1 C Ti S O (by k_is) (by k_is) (BindsTo.of_eq rfl) (locs rfl) fun g L h₁ t n es ep hg Tg gx gdx Bd F N B X T => ?_
  obtain ⟨t2, n2, ep2, es2, Rx⟩ := S'.reads hg (fun b hb => by rw [List.mem_singleton.mp hb]; exact ⟨(S.off S').1.symm, (S.off S').2.symm, hde⟩)
  dsimp only
  k_steps
  · rw [due, if_pos (by assumption)] at hR
    exact hR _ _ (chg_of hg (by k_asm)) (setIs_of (by k_asm) (by k_asm) gx gdx (by k_mem) (by assumption))
  · rw [due, if_neg (by assumption), if_pos (by assumption)] at hR
    exact hR _ _ (chg_of hg (by k_asm)) (setIs_of (by k_asm) (by k_asm) gx gdx (by k_mem) (by assumption))
  · rw [due, if_neg (by assumption), if_neg (by assumption), if_pos (by assumption)] at hR
    exact hR _ _ (chg_of hg (by k_asm)) (setIs_of (by k_asm) (by k_asm) gx gdx (by k_mem) (by assumption))
  · rw [due, if_neg (by assumption), if_neg (by assumption), if_neg (by assumption)] at hR
    exact hR _ _ (chg_of hg (by k_asm)) (setIs_of (by k_asm) (by k_asm) gx gdx (by k_mem) (by assumption))
theorem by_name_self {kd : Int} {t₀ : Nat} (C : Cx w A base frs mean mg mb s.heap (k + 9)) (Ti : TupIn ti s.heap) (S : SetIs prog w ti s.heap x dx d l) (O : Own base frs d)
    (hR : ∀ h' tk, Chg [d] s.heap h' → SetIs prog w ti h' x dx d (due kd l l) → R (.ok (.ret (.ref x))) { s with heap := h', toks := tk }) :
    codeAny (model prog w) A (.call (.ref 312) ⟨[.int kd t₀, .ref x, .ref x], []⟩) R s := by
  refine enter1 C Ti S O (by k_is) (by k_is) (BindsTo.of_eq rfl) (locs rfl) fun g L h₁ t n es ep hg Tg gx gdx Bd F N B X T => ?_
  dsimp only
  k_steps
  · rw [due, if_pos (by assumption)] at hR
    try rw [uniL_self] at hR
    try rw [intL_self] at hR
    try rw [difL_self] at hR
    exact hR _ _ (chg_of hg (by k_asm)) (setIs_of (by k_asm) (by k_asm) gx gdx (by k_mem) (by assumption))
  · rw [due, if_neg (by assumption), if_pos (by assumption)] at hR
    try rw [uniL_self] at hR
    try rw [intL_self] at hR
    try rw [difL_self] at hR
    exact hR _ _ (chg_of hg (by k_asm)) (setIs_of (by k_asm) (by k_asm) gx gdx (by k_mem) (by assumption))
  · rw [due, if_neg (by assumption), if_neg (by assumption), if_pos (by assumption)] at hR
    try rw [uniL_self] at hR
    try rw [intL_self] at hR
    try rw [difL_self] at hR
    exact hR _ _ (chg_of hg (by k_asm)) (setIs_of (by k_asm) (by k_asm) gx gdx (by k_mem) (by assumption))
  · rw [due, if_neg (by assumption), if_neg (by assumption), if_neg (by assumption)] at hR
    try rw [symL_self] at hR
    exact hR _ _ (chg_of hg (by k_asm)) (setIs_of (by k_asm) (by k_asm) gx gdx (by k_mem) (by assumption))
end
end
end Mine
namespace Mine
open PySem PySem.W PySem.Calls PyProof.Rows
set_option hygiene false in
local macro_rules | `(tactic| k_inst) => `(tactic| (refine' InstAt.of_g ?F ?a ?b; (case F => k_asm); (case a => first | assumption | exact Reads1.gx (by assumption)); (case b => first | assumption | exact Reads1.gdx (by assumption))))
set_option hygiene false in
local macro_rules | `(tactic| k_units) => `(tactic| exact Room.units (Room.deeper (Cx.room (by assumption))))
set_option hygiene false in
local macro_rules | `(tactic| walk_at "compareOp NotIn") => `(tactic| (k_here; (with_reducible show wpAny _ _ (compareOp CmpOp.NotIn _ (Value.ref _)) _ _ _); refine' notIn_K ?T ?m ?B ?v ?u ?_; (case T => exact TupIn.up (by assumption) (by k_asm)); (case m => first | exact News.get (by k_asm) (by k_mem) | exact Fr.keep (by k_asm) _ _ (Reads1.gd (by assumption))); (case B => first | assumption | exact Reads1.bd (by assumption)); (case v => assumption); (case u => k_units); intro tk'))
set_option hygiene false in
local macro_rules | `(tactic| walk_at "compareOp In") => `(tactic| (k_here; (with_reducible show wpAny _ _ (compareOp CmpOp.In _ (Value.ref _)) _ _ _); refine' in_K' ?T ?m ?B ?v ?u ?_; (case T => exact TupIn.up (by assumption) (by k_asm)); (case m => first | exact News.get (by k_asm) (by k_mem) | exact Fr.keep (by k_asm) _ _ (Reads1.gd (by assumption))); (case B => first | assumption | exact Reads1.bd (by assumption)); (case v => assumption); (case u => k_units); intro tk'))
set_option hygiene false in
local macro_rules | `(tactic| walk_at "setItem ref") => `(tactic| (k_here; (with_reducible show wpAny _ _ (setItem (Value.ref _) _ Value.none) _ _ _); refine' setItem_K' ?T ?F ?N ?U ?x ?v ?u ?_; (case T => exact TupIn.up (by assumption) (by k_asm)); (case F => k_asm); (case N => k_asm); (case U => k_updF); (case x => assumption); (case v => assumption); (case u => k_units); intro h' es' n' tk' F' N' x'; (try dsimp only at N'); (try k_sweep)))
set_option hygiene false in
local macro_rules | `(tactic| walk_at "call builtin:dict.pop") => `(tactic| (k_here; (with_reducible show wpAny _ _ (call (Value.builtin "dict.pop") [Value.ref _, _, Value.none]) _ _ _); refine' pop_K' ?T ?F ?N ?U ?x ?v ?u ?_; (case T => exact TupIn.up (by assumption) (by k_asm)); (case F => k_asm); (case N => k_asm); (case U => k_updF); (case x => assumption); (case v => assumption); (case u => k_units); intro h' es' n' tk' F' N' x'; (try dsimp only at N'); (try k_sweep)))
set_option hygiene false in
local macro_rules | `(tactic| walk_at "call builtin:dict.clear") => `(tactic| (k_here; (with_reducible show wpAny _ _ (call (Value.builtin "dict.clear") [Value.ref _]) _ _ _); refine' clear_K' ?T ?F ?N ?U ?x ?_; (case T => exact TupIn.up (by assumption) (by k_asm)); (case F => k_asm); (case N => k_asm); (case U => k_updF); (case x => assumption); intro h' es' n' F' N' x'; (try dsimp only at N'); (try k_sweep)))
set_option hygiene false in
local macro_rules | `(tactic| walk_at "getMethod ref") => `(tactic| (k_here; (with_reducible show wpAny _ _ (getMethod (Value.ref _) (PySem.Str.ofString "pop") _) _ _ _); refine' dictMethod_M ?m PySem.F.slot_dict_pop PySem.F.type_dict_pop ?_; (case m => first | exact News.get (by k_asm) (by k_mem) | exact Fr.keep (by k_asm) _ _ (Reads1.gd (by assumption)))))
set_option hygiene false in
local macro_rules | `(tactic| walk_at "getMethod ref") => `(tactic| (k_here; (with_reducible show wpAny _ _ (getMethod (Value.ref _) (PySem.Str.ofString "popitem") _) _ _ _); refine' dictMethod_M ?m PySem.F.slot_dict_popitem PySem.F.type_dict_popitem ?_; (case m => first | exact News.get (by k_asm) (by k_mem) | exact Fr.keep (by k_asm) _ _ (Reads1.gd (by assumption)))))
set_option hygiene false in
local macro_rules | `(tactic| walk_at "getMethod ref") => `(tactic| (k_here; (with_reducible show wpAny _ _ (getMethod (Value.ref _) (PySem.Str.ofString "clear") _) _ _ _); refine' dictMethod_M ?m PySem.F.slot_dict_clear PySem.F.type_dict_clear ?_; (case m => first | exact News.get (by k_asm) (by k_mem) | exact Fr.keep (by k_asm) _ _ (Reads1.gd (by assumption)))))
set_option hygiene false in
local macro_rules | `(tactic| walk_at "call type:dict nil nil") => `(tactic| (k_here; refine' newDict_M ?F ?N ?T ?_; (case F => k_asm); (case N => k_asm); (case T => exact (by assumption : Top _ _ _ _ _ _).nolimit); intro d' h' F' N' l1 l2 lo'; (try k_lt l1); (try k_sweep)))
set_option hygiene false in
local macro_rules | `(tactic| walk_at "call ref") => `(tactic| (k_here; (with_reducible show wpAny _ _ (call (Value.ref 275) _ _) _ _ _); (try dsimp only [List.nil_append, List.cons_append]); refine' new0_K ?C ?B ?T ?X ?F ?N ?_; (case T => exact TupIn.up (by assumption) (by k_asm)); (case C => assumption); (case B => assumption); (case X => assumption); (case F => k_asm); (case N => k_asm); intro h' x' dx' d' t' n' ep' tk' F' N' off' e1' e2' e3' Bd'; (try simp only [List.mem_cons, List.not_mem_nil, or_false, forall_eq_or_imp, forall_eq, false_implies, implies_true] at off'); (try k_sweep)))
set_option hygiene false in
local macro_rules | `(tactic| walk_at "call ref") => `(tactic| (k_here; (with_reducible show wpAny _ _ (call (Value.ref 36) _ _) _ _ _); (try dsimp only [List.nil_append, List.cons_append]); refine' add_K ?C ?B ?F ?N ?U ?T ?x ?dx ?b ?v ?_; (case C => assumption); (case B => assumption); (case F => k_asm); (case N => k_asm); (case x => first | exact News.get (by k_asm) (by k_mem) | exact Fr.keep (by k_asm) _ _ (by assumption)); (case dx => first | exact News.get (by k_asm) (by k_mem) | exact Fr.keep (by k_asm) _ _ (by assumption)); (case U => k_updF); (case T => exact TupIn.up (by assumption) (by k_asm)); (case b => assumption); (case v => assumption); intro h' es' n' tk' F' N' x'; (try dsimp only at N'); (try k_sweep)))
set_option hygiene false in
local macro_rules | `(tactic| walk_at "call builtin:iter") => `(tactic| (k_here; (with_reducible show wpAny _ _ (call (Value.builtin "iter") [Value.ref _]) _ _ _); refine' iter_M ?F ?N ?m ?l ?_; (case F => k_asm); (case N => k_asm); (case m => first | exact News.get (by k_asm) (by k_mem) | exact Fr.keep (by k_asm) _ _ (Reads1.gd (by assumption))); (case l => first | exact Bears.lo (by assumption) | exact Bears.lo (Reads1.bd (by assumption))); intro I' h' F' N' off'; (try k_sweep)))
set_option hygiene false in
local macro_rules | `(tactic| walk_at "exec For Name Name cons nil") => `(tactic| (k_here; (with_reducible rename Fr _ _ _ _ => lF'); (with_unfolding_all refine' For_invVF lF' ?k1 ?k2 ?_; (case k1 => exact rfl); (case k2 => exact rfl); k_whole)))
set_option hygiene false in
local macro_rules | `(tactic| walk_at "compareOp Is ref ref") => `(tactic| (k_here; first | with_reducible refine is_self_M ?_ | (refine' is_other_M ?n ?x ?y ?_; (case n => first | assumption | exact Ne.symm (by assumption)); (case x => first | exact News.get (by k_asm) (by k_mem) | exact Fr.keep (by k_asm) _ _ (by first | assumption | exact Reads1.gx (by assumption))); (case y => first | exact News.get (by k_asm) (by k_mem) | exact Fr.keep (by k_asm) _ _ (by first | assumption | exact Reads1.gx (by assumption))))))
set_option hygiene false in
local macro_rules | `(tactic| walk_at "call ref") => `(tactic| (k_here; (with_reducible show wpAny _ _ (call (Value.ref 50) _ _) _ _ _); (try dsimp only [List.nil_append, List.cons_append]); refine' discard_K ?C ?B ?F ?N ?U ?T ?x ?dx ?b ?v ?_; (case C => assumption); (case B => assumption); (case F => k_asm); (case N => k_asm); (case x => first | exact News.get (by k_asm) (by k_mem) | exact Fr.keep (by k_asm) _ _ (by assumption)); (case dx => first | exact News.get (by k_asm) (by k_mem) | exact Fr.keep (by k_asm) _ _ (by assumption)); (case U => k_updF); (case T => exact TupIn.up (by assumption) (by k_asm)); (case b => assumption); (case v => assumption); intro h' es' n' tk' F' N' x'; (try dsimp only at N'); (try k_sweep)))
set_option hygiene false in
local macro_rules | `(tactic| walk_at "compareOp NotIn") => `(tactic| (k_here; (with_reducible show wpAny _ _ (compareOp CmpOp.NotIn _ (Value.ref _)) _ _ _); refine' notIn_set ?C ?B ?X ?T ?F ?N ?Rx ?v ?_; (case Rx => assumption); (case C => assumption); (case B => assumption); (case X => assumption); (case T => assumption); (case F => k_asm); (case N => k_asm); (case v => assumption); intro h' tk' F' N'; (try k_sweep)))
set_option hygiene false in
local macro_rules | `(tactic| walk_at "delItem ref") => `(tactic| (k_here; (with_reducible show wpAny _ _ (delItem (Value.ref _) _) _ _ _); refine' delItem_K' ?hh ?T ?F ?N ?U ?x ?v ?u (fun hk => absurd ?m hk) ?_; (case hh => (rename Cx _ _ _ _ _ _ _ _ _ => cX; exact cX.handled)); (case T => exact TupIn.up (by assumption) (by k_asm)); (case F => k_asm); (case N => k_asm); (case U => k_updF); (case x => assumption); (case v => assumption); (case u => k_units); (case m => assumption); intro hk h' es' n' tk' F' N' x'; (try dsimp only at N'); (try k_sweep)))
set_option hygiene false in
local macro_rules | `(tactic| walk_at "call type:list") => `(tactic| (k_here; (with_reducible show wpAny _ _ (call (Value.type _) [Value.ref _]) _ _ _); refine' listM_K ?hh ?F ?N ?m ?B ?_; (case hh => (rename Cx _ _ _ _ _ _ _ _ _ => cX; exact cX.handled)); (case F => k_asm); (case N => k_asm); (case m => first | exact News.get (by k_asm) (by k_mem) | exact Fr.keep (by k_asm) _ _ (Reads1.gd (by assumption))); (case B => first | assumption | exact Reads1.bd (by assumption)); intro D' c' h' tk' F' N' l1; (try k_lt l1); (try k_sweep)))
set_option hygiene false in
local macro_rules | `(tactic| walk_at "delItem ref") => `(tactic| (k_here; (with_reducible show wpAny _ _ (delItem (Value.ref _) _) _ _ _); refine' delItem_K' ?hh ?T ?F ?N ?U ?x ?v ?u ?_ (fun hk => absurd hk ?m); (case hh => (rename Cx _ _ _ _ _ _ _ _ _ => cX; exact cX.handled)); (case T => exact TupIn.up (by assumption) (by k_asm)); (case F => k_asm); (case N => k_asm); (case U => k_updF); (case x => assumption); (case v => assumption); (case u => k_units); (case m => assumption); intro hk h' e' tk' NE'))
set_option hygiene false in
local macro_rules | `(tactic| walk_at "call ref") => `(tactic| (k_here; (with_reducible show wpAny _ _ (call (Value.ref 64) _ _) _ _ _); (try dsimp only [List.nil_append, List.cons_append]); refine' clone_K ?C ?B ?F ?N ?T ?S ?_; (case C => assumption); (case B => assumption); (case F => k_asm); (case N => k_asm); (case T => exact TupIn.up (by assumption) (by k_asm)); (case S => first | exact Reads1.set1 (by assumption) (by k_asm) | exact setIs_new (by k_asm) (by k_mem) (by k_mem) (by k_mem) (by assumption) | exact setIs_of (by k_asm) (by k_asm) (by assumption) (by assumption) (by k_mem) (by assumption)); intro h' x' dx' d' t' n' es' ep' tk' F' N' off' e1' e2' e3' Bd'; (try simp only [List.mem_cons, List.not_mem_nil, or_false, forall_eq_or_imp, forall_eq, false_implies, implies_true] at off'); (try k_sweep)))
set_option hygiene false in
local macro_rules | `(tactic| walk_at "call ref") => `(tactic| (k_here; (with_reducible show wpAny _ _ (call (Value.ref 78) _ _) _ _ _); (try dsimp only [List.nil_append, List.cons_append]); refine' union_update_K ?C ?B ?F ?N ?U ?T ?x ?dx ?b ?S' ?ne ?nd ?_; (case C => assumption); (case B => assumption); (case F => k_asm); (case N => k_asm); (case T => exact TupIn.up (by assumption) (by k_asm)); (case x => first | exact News.get (by k_asm) (by k_mem) | exact Fr.keep (by k_asm) _ _ (by assumption)); (case dx => first | exact News.get (by k_asm) (by k_mem) | exact Fr.keep (by k_asm) _ _ (by assumption)); (case U => k_updF); (case b => assumption); (case S' => first | exact Reads1.set1 (by assumption) (by k_asm) | exact setIs_new (by k_asm) (by k_mem) (by k_mem) (by k_mem) (by assumption) | exact setIs_of (by k_asm) (by k_asm) (by assumption) (by assumption) (by k_mem) (by assumption)); (case ne => first | assumption | exact ne_ng (by k_asm) (by k_mem) (Reads1.gx (by assumption)) | exact ne_ng (by k_asm) (by k_mem) (by assumption) | exact Ne.symm (ne_ng (by k_asm) (by k_mem) (by assumption)) | (show @Ne Nat _ _; omega)); (case nd => first | assumption | exact ne_ng (by k_asm) (by k_mem) (Reads1.gd (by assumption)) | exact ne_ng (by k_asm) (by k_mem) (by assumption) | (show @Ne Nat _ _; omega)); intro h' es' n' tk' F' N' x'; (try dsimp only at N'); (try k_sweep)))
set_option hygiene false in
local macro_rules | `(tactic| walk_at "call ref") => `(tactic| (k_here; (with_reducible show wpAny _ _ (call (Value.ref 85) _ _) _ _ _); (try dsimp only [List.nil_append, List.cons_append]); refine' intersection_update_K ?C ?B ?F ?N ?U ?T ?x ?dx ?b ?S' ?ne ?nd ?_; (case C => assumption); (case B => assumption); (case F => k_asm); (case N => k_asm); (case T => exact TupIn.up (by assumption) (by k_asm)); (case x => first | exact News.get (by k_asm) (by k_mem) | exact Fr.keep (by k_asm) _ _ (by assumption)); (case dx => first | exact News.get (by k_asm) (by k_mem) | exact Fr.keep (by k_asm) _ _ (by assumption)); (case U => k_updF); (case b => assumption); (case S' => first | exact Reads1.set1 (by assumption) (by k_asm) | exact setIs_new (by k_asm) (by k_mem) (by k_mem) (by k_mem) (by assumption) | exact setIs_of (by k_asm) (by k_asm) (by assumption) (by assumption) (by k_mem) (by assumption)); (case ne => first | assumption | exact ne_ng (by k_asm) (by k_mem) (Reads1.gx (by assumption)) | exact ne_ng (by k_asm) (by k_mem) (by assumption) | exact Ne.symm (ne_ng (by k_asm) (by k_mem) (by assumption)) | (show @Ne Nat _ _; omega)); (case nd => first | assumption | exact ne_ng (by k_asm) (by k_mem) (Reads1.gd (by assumption)) | exact ne_ng (by k_asm) (by k_mem) (by assumption) | (show @Ne Nat _ _; omega)); intro h' es' n' tk' F' N' x'; (try dsimp only at N'); (try k_sweep)))
set_option hygiene false in
local macro_rules | `(tactic| walk_at "call ref") => `(tactic| (k_here; (with_reducible show wpAny _ _ (call (Value.ref 92) _ _) _ _ _); (try dsimp only [List.nil_append, List.cons_append]); refine' difference_update_K ?C ?B ?F ?N ?U ?T ?x ?dx ?b ?S' ?ne ?nd ?_; (case C => assumption); (case B => assumption); (case F => k_asm); (case N => k_asm); (case T => exact TupIn.up (by assumption) (by k_asm)); (case x => first | exact News.get (by k_asm) (by k_mem) | exact Fr.keep (by k_asm) _ _ (by assumption)); (case dx => first | exact News.get (by k_asm) (by k_mem) | exact Fr.keep (by k_asm) _ _ (by assumption)); (case U => k_updF); (case b => assumption); (case S' => first | exact Reads1.set1 (by assumption) (by k_asm) | exact setIs_new (by k_asm) (by k_mem) (by k_mem) (by k_mem) (by assumption) | exact setIs_of (by k_asm) (by k_asm) (by assumption) (by assumption) (by k_mem) (by assumption)); (case ne => first | assumption | exact ne_ng (by k_asm) (by k_mem) (Reads1.gx (by assumption)) | exact ne_ng (by k_asm) (by k_mem) (by assumption) | exact Ne.symm (ne_ng (by k_asm) (by k_mem) (by assumption)) | (show @Ne Nat _ _; omega)); (case nd => first | assumption | exact ne_ng (by k_asm) (by k_mem) (Reads1.gd (by assumption)) | exact ne_ng (by k_asm) (by k_mem) (by assumption) | (show @Ne Nat _ _; omega)); intro h' es' n' tk' F' N' x'; (try dsimp only at N'); (try k_sweep)))
set_option hygiene false in
local macro_rules | `(tactic| walk_at "call ref") => `(tactic| (k_here; (with_reducible show wpAny _ _ (call (Value.ref 106) _ _) _ _ _); (try dsimp only [List.nil_append, List.cons_append]); refine' union_K ?C ?B ?F ?N ?T ?S ?S' ?_; (case C => assumption); (case B => assumption); (case F => k_asm); (case N => k_asm); (case T => exact TupIn.up (by assumption) (by k_asm)); (case S => first | exact Reads1.set1 (by assumption) (by k_asm) | exact setIs_new (by k_asm) (by k_mem) (by k_mem) (by k_mem) (by assumption) | exact setIs_of (by k_asm) (by k_asm) (by assumption) (by assumption) (by k_mem) (by assumption)); (case S' => first | exact Reads1.set1 (by assumption) (by k_asm) | exact setIs_new (by k_asm) (by k_mem) (by k_mem) (by k_mem) (by assumption) | exact setIs_of (by k_asm) (by k_asm) (by assumption) (by assumption) (by k_mem) (by assumption)); intro h' x' dx' d' t' n' es' ep' tk' F' N' off' e1' e2' e3' Bd'; (try simp only [List.mem_cons, List.not_mem_nil, or_false, forall_eq_or_imp, forall_eq, false_implies, implies_true] at off'); (try k_sweep)))
set_option hygiene false in
local macro_rules | `(tactic| walk_at "call ref") => `(tactic| (k_here; (with_reducible show wpAny _ _ (call (Value.ref 113) _ _) _ _ _); (try dsimp only [List.nil_append, List.cons_append]); refine' intersection_K ?C ?B ?F ?N ?T ?S ?S' ?_; (case C => assumption); (case B => assumption); (case F => k_asm); (case N => k_asm); (case T => exact TupIn.up (by assumption) (by k_asm)); (case S => first | exact Reads1.set1 (by assumption) (by k_asm) | exact setIs_new (by k_asm) (by k_mem) (by k_mem) (by k_mem) (by assumption) | exact setIs_of (by k_asm) (by k_asm) (by assumption) (by assumption) (by k_mem) (by assumption)); (case S' => first | exact Reads1.set1 (by assumption) (by k_asm) | exact setIs_new (by k_asm) (by k_mem) (by k_mem) (by k_mem) (by assumption) | exact setIs_of (by k_asm) (by k_asm) (by assumption) (by assumption) (by k_mem) (by assumption)); intro h' x' dx' d' t' n' es' ep' tk' F' N' off' e1' e2' e3' Bd'; (try simp only [List.mem_cons, List.not_mem_nil, or_false, forall_eq_or_imp, forall_eq, false_implies, implies_true] at off'); (try k_sweep)))
set_option hygiene false in
local macro_rules | `(tactic| walk_at "call ref") => `(tactic| (k_here; (with_reducible show wpAny _ _ (call (Value.ref 120) _ _) _ _ _); (try dsimp only [List.nil_append, List.cons_append]); refine' difference_K ?C ?B ?F ?N ?T ?S ?S' ?_; (case C => assumption); (case B => assumption); (case F => k_asm); (case N => k_asm); (case T => exact TupIn.up (by assumption) (by k_asm)); (case S => first | exact Reads1.set1 (by assumption) (by k_asm) | exact setIs_new (by k_asm) (by k_mem) (by k_mem) (by k_mem) (by assumption) | exact setIs_of (by k_asm) (by k_asm) (by assumption) (by assumption) (by k_mem) (by assumption)); (case S' => first | exact Reads1.set1 (by assumption) (by k_asm) | exact setIs_new (by k_asm) (by k_mem) (by k_mem) (by k_mem) (by assumption) | exact setIs_of (by k_asm) (by k_asm) (by assumption) (by assumption) (by k_mem) (by assumption)); intro h' x' dx' d' t' n' es' ep' tk' F' N' off' e1' e2' e3' Bd'; (try simp only [List.mem_cons, List.not_mem_nil, or_false, forall_eq_or_imp, forall_eq, false_implies, implies_true] at off'); (try k_sweep)))
set_option hygiene false in
local macro_rules | `(tactic| walk_at "call ref") => `(tactic| (k_here; (with_reducible show wpAny _ _ (call (Value.ref 99) _ _) _ _ _); (try dsimp only [List.nil_append, List.cons_append]); refine' symmetric_difference_update_K ?C ?B ?F ?N ?U ?T ?x ?dx ?b ?S' ?ne ?nd ?_; (case C => assumption); (case B => assumption); (case F => k_asm); (case N => k_asm); (case T => exact TupIn.up (by assumption) (by k_asm)); (case x => first | exact News.get (by k_asm) (by k_mem) | exact Fr.keep (by k_asm) _ _ (by assumption)); (case dx => first | exact News.get (by k_asm) (by k_mem) | exact Fr.keep (by k_asm) _ _ (by assumption)); (case U => k_updF); (case b => assumption); (case S' => first | exact Reads1.set1 (by assumption) (by k_asm) | exact setIs_new (by k_asm) (by k_mem) (by k_mem) (by k_mem) (by assumption) | exact setIs_of (by k_asm) (by k_asm) (by assumption) (by assumption) (by k_mem) (by assumption)); (case ne => first | assumption | exact ne_ng (by k_asm) (by k_mem) (Reads1.gx (by assumption)) | exact ne_ng (by k_asm) (by k_mem) (by assumption) | exact Ne.symm (ne_ng (by k_asm) (by k_mem) (by assumption)) | (show @Ne Nat _ _; omega)); (case nd => first | assumption | exact ne_ng (by k_asm) (by k_mem) (Reads1.gd (by assumption)) | exact ne_ng (by k_asm) (by k_mem) (by assumption) | (show @Ne Nat _ _; omega)); intro h' es' n' tk' F' N' x'; (try dsimp only at N'); (try k_sweep)))
set_option hygiene false in
local macro_rules | `(tactic| walk_at "call ref") => `(tactic| (k_here; (with_reducible show wpAny _ _ (call (Value.ref 127) _ _) _ _ _); (try dsimp only [List.nil_append, List.cons_append]); refine' symmetric_difference_K ?C ?B ?F ?N ?T ?S ?S' ?_; (case C => assumption); (case B => assumption); (case F => k_asm); (case N => k_asm); (case T => exact TupIn.up (by assumption) (by k_asm)); (case S => first | exact Reads1.set1 (by assumption) (by k_asm) | exact setIs_new (by k_asm) (by k_mem) (by k_mem) (by k_mem) (by assumption) | exact setIs_of (by k_asm) (by k_asm) (by assumption) (by assumption) (by k_mem) (by assumption)); (case S' => first | exact Reads1.set1 (by assumption) (by k_asm) | exact setIs_new (by k_asm) (by k_mem) (by k_mem) (by k_mem) (by assumption) | exact setIs_of (by k_asm) (by k_asm) (by assumption) (by assumption) (by k_mem) (by assumption)); intro h' x' dx' d' t' n' es' ep' tk' F' N' off' e1' e2' e3' Bd'; (try simp only [List.mem_cons, List.not_mem_nil, or_false, forall_eq_or_imp, forall_eq, false_implies, implies_true] at off'); (try k_sweep)))
set_option hygiene false in
local macro_rules | `(tactic| walk_at "call ref") => `(tactic| (k_here; (with_reducible show wpAny _ _ (call (Value.ref 78) _ _) _ _ _); (try dsimp only [List.nil_append, List.cons_append]); refine' union_update_self_K ?C ?B ?F ?N ?U ?T ?x ?dx ?b ?_; (case C => assumption); (case B => assumption); (case F => k_asm); (case N => k_asm); (case T => exact TupIn.up (by assumption) (by k_asm)); (case x => first | exact News.get (by k_asm) (by k_mem) | exact Fr.keep (by k_asm) _ _ (by assumption)); (case dx => first | exact News.get (by k_asm) (by k_mem) | exact Fr.keep (by k_asm) _ _ (by assumption)); (case U => k_updF); (case b => assumption);  intro h' es' n' tk' F' N' x'; (try dsimp only at N'); (try k_sweep)))
set_option hygiene false in
local macro_rules | `(tactic| walk_at "call ref") => `(tactic| (k_here; (with_reducible show wpAny _ _ (call (Value.ref 85) _ _) _ _ _); (try dsimp only [List.nil_append, List.cons_append]); refine' intersection_update_self_K ?C ?B ?F ?N ?U ?T ?x ?dx ?b ?_; (case C => assumption); (case B => assumption); (case F => k_asm); (case N => k_asm); (case T => exact TupIn.up (by assumption) (by k_asm)); (case x => first | exact News.get (by k_asm) (by k_mem) | exact Fr.keep (by k_asm) _ _ (by assumption)); (case dx => first | exact News.get (by k_asm) (by k_mem) | exact Fr.keep (by k_asm) _ _ (by assumption)); (case U => k_updF); (case b => assumption);  intro h' es' n' tk' F' N' x'; (try dsimp only at N'); (try k_sweep)))
set_option hygiene false in
local macro_rules | `(tactic| walk_at "call ref") => `(tactic| (k_here; (with_reducible show wpAny _ _ (call (Value.ref 92) _ _) _ _ _); (try dsimp only [List.nil_append, List.cons_append]); refine' difference_update_self_K ?C ?B ?F ?N ?U ?T ?x ?dx ?b ?_; (case C => assumption); (case B => assumption); (case F => k_asm); (case N => k_asm); (case T => exact TupIn.up (by assumption) (by k_asm)); (case x => first | exact News.get (by k_asm) (by k_mem) | exact Fr.keep (by k_asm) _ _ (by assumption)); (case dx => first | exact News.get (by k_asm) (by k_mem) | exact Fr.keep (by k_asm) _ _ (by assumption)); (case U => k_updF); (case b => assumption);  intro h' es' n' tk' F' N' x'; (try dsimp only at N'); (try k_sweep)))
set_option hygiene false in
local macro_rules | `(tactic| walk_at "call ref") => `(tactic| (k_here; (with_reducible show wpAny _ _ (call (Value.ref 99) _ _) _ _ _); (try dsimp only [List.nil_append, List.cons_append]); refine' symmetric_difference_update_self_K ?C ?B ?F ?N ?U ?T ?x ?dx ?b ?_; (case C => assumption); (case B => assumption); (case F => k_asm); (case N => k_asm); (case T => exact TupIn.up (by assumption) (by k_asm)); (case x => first | exact News.get (by k_asm) (by k_mem) | exact Fr.keep (by k_asm) _ _ (by assumption)); (case dx => first | exact News.get (by k_asm) (by k_mem) | exact Fr.keep (by k_asm) _ _ (by assumption)); (case U => k_updF); (case b => assumption);  intro h' es' n' tk' F' N' x'; (try dsimp only at N'); (try k_sweep)))
set_option hygiene false in
local macro_rules | `(tactic| walk_at "call builtin:dict.popitem") => `(tactic| (k_here; (with_reducible show wpAny _ _ (call (Value.builtin "dict.popitem") [Value.ref _]) _ _ _); refine' popitem_K ?F ?N ?U ?T ?x ?_; (case T => exact TupIn.up (by assumption) (by k_asm)); (case F => k_asm); (case N => k_asm); (case U => k_updF); (case x => assumption); intro h' es' n' T' v' F' N' l1 x' hv'; (try dsimp only at N' l1); (try k_lt l1); (try k_sweep)))
set_option hygiene false in
local macro_rules | `(tactic| walk_at "call builtin:len") => `(tactic| (k_here; (with_reducible show wpAny _ _ (call (Value.builtin "len") [Value.ref _]) _ _ _); refine' lenM_K ?F ?T ?m ?B ?_; (case F => k_asm); (case T => exact TupIn.up (by assumption) (by k_asm)); (case m => first | exact News.get (by k_asm) (by k_mem) | exact Fr.keep (by k_asm) _ _ (Reads1.gd (by assumption))); (case B => first | assumption | exact Reads1.bd (by assumption)); intro t' tk'))
set_option hygiene false in
local macro_rules | `(tactic| walk_at "assign Tuple") => `(tactic| (k_here; (with_reducible show wpAny _ _ (assign (Expr.Tuple _ _ _) _ (Value.ref _)) _ _ _); refine' unpackN_ ?k1 ?k2 ?k3 ?k4 ?k5 ?k6 ?_; (case k1 => k_asm); (case k2 => k_asm); (case k3 => exact News.isTup (by k_asm) (by k_mem)); (case k4 => (rename Cx _ _ _ _ _ _ _ _ _ => cX; exact cX.handled)); (case k5 => exact rfl); (case k6 => exact rfl); k_whole; intro h' F' N'; (try k_sweep)))
set_option hygiene false in
local macro_rules | `(tactic| walk_at "leaving ref") => `(tactic| (k_here; first
  | (refine' leave_raiseM ?k1 ?k2 (Heap.MadeExc.of (by assumption)) ?_; (case k1 => assumption); (case k2 => assumption); k_whole; intro h' fl')
  | (refine' leave_newM ?k1 ?k2 (by assumption) ?_; (case k1 => assumption); (case k2 => assumption); k_whole; intro h' fl')
  | (refine' leave_onM ?k1 ?k2 (by assumption) ?_; (case k1 => assumption); (case k2 => assumption); k_whole; intro h' fl')))
set_option hygiene false in
local macro_rules | `(tactic| walk_at "call builtin:isinstance") => `(tactic| (k_here; (with_reducible show wpAny _ _ (call _ [Value.ref _, Value.ref 275]) _ _ _); refine' isinst_list ?X ?y ?_; (case X => k_in); (case y => exact Fr.keep (by k_asm) _ _ (by assumption)); k_whole))
set_option hygiene false in
local macro_rules | `(tactic| walk_at "exec Raise some none") => `(tactic| (k_here; (with_reducible show wpAny _ _ (exec (Stmt.Raise (some (Expr.Call (Expr.Name ("ValueError" : Str) _) (_ :: _) [] _)) none _) _) _ _ _); (with_reducible rename Fr _ _ _ _ => kF); refine' Raise_madeB PySem.F.excCall_ValueError PySem.F.excRaise_ValueError ?hh (name_B kF ?k1 ?k2 ?k3 ?k4 ?k5 ⟨rfl, ?_⟩); (case hh => (rename Cx _ _ _ _ _ _ _ _ _ => cX; exact cX.handled)); (case k1 => k_asm); (case k2 => k_asm); (case k3 => k_is); (case k4 => boot_by_name); (case k5 => decide)))
set_option hygiene false in
local macro_rules | `(tactic| walk_at "exec Raise some none") => `(tactic| (k_here; (with_reducible show wpAny _ _ (exec (Stmt.Raise (some (Expr.Call (Expr.Name ("IndexError" : Str) _) (_ :: _) [] _)) none _) _) _ _ _); (with_reducible rename Fr _ _ _ _ => kF); refine' Raise_madeB PySem.F.excCall_IndexError PySem.F.excRaise_IndexError ?hh (name_B kF ?k1 ?k2 ?k3 ?k4 ?k5 ⟨rfl, ?_⟩); (case hh => (rename Cx _ _ _ _ _ _ _ _ _ => cX; exact cX.handled)); (case k1 => k_asm); (case k2 => k_asm); (case k3 => k_is); (case k4 => boot_by_name); (case k5 => decide)))
set_option hygiene false in
local macro_rules | `(tactic| walk_at "call ref") => `(tactic| (k_here; (with_reducible show wpAny _ _ (call (Value.ref 78) _ _) _ _ _); (try dsimp only [List.nil_append, List.cons_append]); refine' union_update_err_K ?C ?B ?F ?T ?y ?_; (case C => assumption); (case B => assumption); (case F => k_asm); (case T => exact TupIn.up (by assumption) (by k_asm)); (case y => exact Fr.keep (by k_asm) _ _ (by assumption)); k_whole; intro h' tk' e' fl'))
set_option hygiene false in
local macro_rules | `(tactic| walk_at "call ref") => `(tactic| (k_here; (with_reducible show wpAny _ _ (call (Value.ref 216) _ _) _ _ _); (try dsimp only [List.nil_append, List.cons_append]); refine' eq_K ?C ?B ?F ?N ?T ?S ?S' ?_; (case C => assumption); (case B => assumption); (case F => k_asm); (case N => k_asm); (case T => exact TupIn.up (by assumption) (by k_asm)); (case S => first | exact Reads1.set1 (by assumption) (by k_asm) | exact setIs_new (by k_asm) (by k_mem) (by k_mem) (by k_mem) (by assumption) | exact setIs_of (by k_asm) (by k_asm) (by assumption) (by assumption) (by k_mem) (by assumption)); (case S' => first | exact Reads1.set1 (by assumption) (by k_asm) | exact setIs_new (by k_asm) (by k_mem) (by k_mem) (by k_mem) (by assumption) | exact setIs_of (by k_asm) (by k_asm) (by assumption) (by assumption) (by k_mem) (by assumption)); intro h' tk' F' N'; (try k_sweep)))
set_option hygiene false in
local macro_rules | `(tactic| walk_at "call ref") => `(tactic| (k_here; (with_reducible show wpAny _ _ (call (Value.ref 106) _ _) _ _ _); (try dsimp only [List.nil_append, List.cons_append]); refine' union_err_L ?C ?B ?F ?T ?S ?y ?_; (case C => assumption); (case B => assumption); (case F => k_asm); (case T => exact TupIn.up (by assumption) (by k_asm)); (case S => first | exact Reads1.set1 (by assumption) (by k_asm) | exact setIs_new (by k_asm) (by k_mem) (by k_mem) (by k_mem) (by assumption) | exact setIs_of (by k_asm) (by k_asm) (by assumption) (by assumption) (by k_mem) (by assumption)); (case y => exact News.get (by k_asm) (by k_mem)); k_whole; intro h' tk' e' fl'))
set_option hygiene false in
local macro_rules | `(tactic| walk_at "call ref") => `(tactic| (k_here; (with_reducible show wpAny _ _ (call (Value.ref 85) _ _) _ _ _); (try dsimp only [List.nil_append, List.cons_append]); refine' intersection_update_err_L ?C ?B ?F ?T ?y ?_; (case C => assumption); (case B => assumption); (case F => k_asm); (case T => exact TupIn.up (by assumption) (by k_asm)); (case y => exact News.get (by k_asm) (by k_mem)); k_whole; intro h' tk' e' fl'))
set_option hygiene false in
local macro_rules | `(tactic| walk_at "call ref") => `(tactic| (k_here; (with_reducible show wpAny _ _ (call (Value.ref 258) _ _) _ _ _); (try dsimp only [List.nil_append, List.cons_append]); refine' issubset_err_L ?C ?B ?F ?T ?y ?_; (case C => assumption); (case B => assumption); (case F => k_asm); (case T => exact TupIn.up (by assumption) (by k_asm)); (case y => exact News.get (by k_asm) (by k_mem)); k_whole; intro h' tk' e' fl'))
set_option hygiene false in
local macro_rules | `(tactic| walk_at "call ref") => `(tactic| (k_here; (with_reducible show wpAny _ _ (call (Value.ref 272) _ _) _ _ _); (try dsimp only [List.nil_append, List.cons_append]); refine' isdisjoint_err_L ?C ?B ?F ?T ?y ?_; (case C => assumption); (case B => assumption); (case F => k_asm); (case T => exact TupIn.up (by assumption) (by k_asm)); (case y => exact News.get (by k_asm) (by k_mem)); k_whole; intro h' tk' e' fl'))
set_option hygiene false in
local macro_rules | `(tactic| walk_at "call ref") => `(tactic| (k_here; (with_reducible show wpAny _ _ (call (Value.ref 169) _ _) _ _ _); (try dsimp only [List.nil_append, List.cons_append]); refine' ior_inK ?C ?B ?F ?N ?U ?T ?x ?dx ?b ?S' ?ne ?nd ?_; (case C => assumption); (case B => assumption); (case F => k_asm); (case N => k_asm); (case T => exact TupIn.up (by assumption) (by k_asm)); (case x => first | exact News.get (by k_asm) (by k_mem) | exact Fr.keep (by k_asm) _ _ (by assumption)); (case dx => first | exact News.get (by k_asm) (by k_mem) | exact Fr.keep (by k_asm) _ _ (by assumption)); (case U => k_updF); (case b => assumption); (case S' => first | exact Reads1.set1 (by assumption) (by k_asm) | exact setIs_new (by k_asm) (by k_mem) (by k_mem) (by k_mem) (by assumption) | exact setIs_of (by k_asm) (by k_asm) (by assumption) (by assumption) (by k_mem) (by assumption)); (case ne => first | assumption | exact ne_ng (by k_asm) (by k_mem) (Reads1.gx (by assumption)) | exact ne_ng (by k_asm) (by k_mem) (by assumption) | exact Ne.symm (ne_ng (by k_asm) (by k_mem) (by assumption)) | (show @Ne Nat _ _; omega)); (case nd => first | assumption | exact ne_ng (by k_asm) (by k_mem) (Reads1.gd (by assumption)) | exact ne_ng (by k_asm) (by k_mem) (by assumption) | (show @Ne Nat _ _; omega)); intro h' es' n' tk' F' N' x'; (try dsimp only [PySem.W.CmpBack] at N' ⊢); (try k_sweep)))
set_option hygiene false in
local macro_rules | `(tactic| walk_at "call ref") => `(tactic| (k_here; (with_reducible show wpAny _ _ (call (Value.ref 169) _ _) _ _ _); (try dsimp only [List.nil_append, List.cons_append]); refine' ior_s_inK ?C ?B ?F ?N ?U ?T ?x ?dx ?b ?_; (case C => assumption); (case B => assumption); (case F => k_asm); (case N => k_asm); (case T => exact TupIn.up (by assumption) (by k_asm)); (case x => first | exact News.get (by k_asm) (by k_mem) | exact Fr.keep (by k_asm) _ _ (by assumption)); (case dx => first | exact News.get (by k_asm) (by k_mem) | exact Fr.keep (by k_asm) _ _ (by assumption)); (case U => k_updF); (case b => assumption); intro h' es' n' tk' F' N' x'; (try dsimp only [PySem.W.CmpBack] at N' ⊢); (try k_sweep)))
set_option hygiene false in
local macro_rules | `(tactic| walk_at "call ref") => `(tactic| (k_here; (with_reducible show wpAny _ _ (call (Value.ref 176) _ _) _ _ _); (try dsimp only [List.nil_append, List.cons_append]); refine' iand_inK ?C ?B ?F ?N ?U ?T ?x ?dx ?b ?S' ?ne ?nd ?_; (case C => assumption); (case B => assumption); (case F => k_asm); (case N => k_asm); (case T => exact TupIn.up (by assumption) (by k_asm)); (case x => first | exact News.get (by k_asm) (by k_mem) | exact Fr.keep (by k_asm) _ _ (by assumption)); (case dx => first | exact News.get (by k_asm) (by k_mem) | exact Fr.keep (by k_asm) _ _ (by assumption)); (case U => k_updF); (case b => assumption); (case S' => first | exact Reads1.set1 (by assumption) (by k_asm) | exact setIs_new (by k_asm) (by k_mem) (by k_mem) (by k_mem) (by assumption) | exact setIs_of (by k_asm) (by k_asm) (by assumption) (by assumption) (by k_mem) (by assumption)); (case ne => first | assumption | exact ne_ng (by k_asm) (by k_mem) (Reads1.gx (by assumption)) | exact ne_ng (by k_asm) (by k_mem) (by assumption) | exact Ne.symm (ne_ng (by k_asm) (by k_mem) (by assumption)) | (show @Ne Nat _ _; omega)); (case nd => first | assumption | exact ne_ng (by k_asm) (by k_mem) (Reads1.gd (by assumption)) | exact ne_ng (by k_asm) (by k_mem) (by assumption) | (show @Ne Nat _ _; omega)); intro h' es' n' tk' F' N' x'; (try dsimp only [PySem.W.CmpBack] at N' ⊢); (try k_sweep)))
set_option hygiene false in
local macro_rules | `(tactic| walk_at "call ref") => `(tactic| (k_here; (with_reducible show wpAny _ _ (call (Value.ref 176) _ _) _ _ _); (try dsimp only [List.nil_append, List.cons_append]); refine' iand_s_inK ?C ?B ?F ?N ?U ?T ?x ?dx ?b ?_; (case C => assumption); (case B => assumption); (case F => k_asm); (case N => k_asm); (case T => exact TupIn.up (by assumption) (by k_asm)); (case x => first | exact News.get (by k_asm) (by k_mem) | exact Fr.keep (by k_asm) _ _ (by assumption)); (case dx => first | exact News.get (by k_asm) (by k_mem) | exact Fr.keep (by k_asm) _ _ (by assumption)); (case U => k_updF); (case b => assumption); intro h' es' n' tk' F' N' x'; (try dsimp only [PySem.W.CmpBack] at N' ⊢); (try k_sweep)))
set_option hygiene false in
local macro_rules | `(tactic| walk_at "call ref") => `(tactic| (k_here; (with_reducible show wpAny _ _ (call (Value.ref 190) _ _) _ _ _); (try dsimp only [List.nil_append, List.cons_append]); refine' iminus_inK ?C ?B ?F ?N ?U ?T ?x ?dx ?b ?S' ?ne ?nd ?_; (case C => assumption); (case B => assumption); (case F => k_asm); (case N => k_asm); (case T => exact TupIn.up (by assumption) (by k_asm)); (case x => first | exact News.get (by k_asm) (by k_mem) | exact Fr.keep (by k_asm) _ _ (by assumption)); (case dx => first | exact News.get (by k_asm) (by k_mem) | exact Fr.keep (by k_asm) _ _ (by assumption)); (case U => k_updF); (case b => assumption); (case S' => first | exact Reads1.set1 (by assumption) (by k_asm) | exact setIs_new (by k_asm) (by k_mem) (by k_mem) (by k_mem) (by assumption) | exact setIs_of (by k_asm) (by k_asm) (by assumption) (by assumption) (by k_mem) (by assumption)); (case ne => first | assumption | exact ne_ng (by k_asm) (by k_mem) (Reads1.gx (by assumption)) | exact ne_ng (by k_asm) (by k_mem) (by assumption) | exact Ne.symm (ne_ng (by k_asm) (by k_mem) (by assumption)) | (show @Ne Nat _ _; omega)); (case nd => first | assumption | exact ne_ng (by k_asm) (by k_mem) (Reads1.gd (by assumption)) | exact ne_ng (by k_asm) (by k_mem) (by assumption) | (show @Ne Nat _ _; omega)); intro h' es' n' tk' F' N' x'; (try dsimp only [PySem.W.CmpBack] at N' ⊢); (try k_sweep)))
set_option hygiene false in
local macro_rules | `(tactic| walk_at "call ref") => `(tactic| (k_here; (with_reducible show wpAny _ _ (call (Value.ref 190) _ _) _ _ _); (try dsimp only [List.nil_append, List.cons_append]); refine' iminus_s_inK ?C ?B ?F ?N ?U ?T ?x ?dx ?b ?_; (case C => assumption); (case B => assumption); (case F => k_asm); (case N => k_asm); (case T => exact TupIn.up (by assumption) (by k_asm)); (case x => first | exact News.get (by k_asm) (by k_mem) | exact Fr.keep (by k_asm) _ _ (by assumption)); (case dx => first | exact News.get (by k_asm) (by k_mem) | exact Fr.keep (by k_asm) _ _ (by assumption)); (case U => k_updF); (case b => assumption); intro h' es' n' tk' F' N' x'; (try dsimp only [PySem.W.CmpBack] at N' ⊢); (try k_sweep)))
set_option hygiene false in
local macro_rules | `(tactic| walk_at "call ref") => `(tactic| (k_here; (with_reducible show wpAny _ _ (call (Value.ref 197) _ _) _ _ _); (try dsimp only [List.nil_append, List.cons_append]); refine' ixor_inK ?C ?B ?F ?N ?U ?T ?x ?dx ?b ?S' ?ne ?nd ?_; (case C => assumption); (case B => assumption); (case F => k_asm); (case N => k_asm); (case T => exact TupIn.up (by assumption) (by k_asm)); (case x => first | exact News.get (by k_asm) (by k_mem) | exact Fr.keep (by k_asm) _ _ (by assumption)); (case dx => first | exact News.get (by k_asm) (by k_mem) | exact Fr.keep (by k_asm) _ _ (by assumption)); (case U => k_updF); (case b => assumption); (case S' => first | exact Reads1.set1 (by assumption) (by k_asm) | exact setIs_new (by k_asm) (by k_mem) (by k_mem) (by k_mem) (by assumption) | exact setIs_of (by k_asm) (by k_asm) (by assumption) (by assumption) (by k_mem) (by assumption)); (case ne => first | assumption | exact ne_ng (by k_asm) (by k_mem) (Reads1.gx (by assumption)) | exact ne_ng (by k_asm) (by k_mem) (by assumption) | exact Ne.symm (ne_ng (by k_asm) (by k_mem) (by assumption)) | (show @Ne Nat _ _; omega)); (case nd => first | assumption | exact ne_ng (by k_asm) (by k_mem) (Reads1.gd (by assumption)) | exact ne_ng (by k_asm) (by k_mem) (by assumption) | (show @Ne Nat _ _; omega)); intro h' es' n' tk' F' N' x'; (try dsimp only [PySem.W.CmpBack] at N' ⊢); (try k_sweep)))
set_option hygiene false in
local macro_rules | `(tactic| walk_at "call ref") => `(tactic| (k_here; (with_reducible show wpAny _ _ (call (Value.ref 197) _ _) _ _ _); (try dsimp only [List.nil_append, List.cons_append]); refine' ixor_s_inK ?C ?B ?F ?N ?U ?T ?x ?dx ?b ?_; (case C => assumption); (case B => assumption); (case F => k_asm); (case N => k_asm); (case T => exact TupIn.up (by assumption) (by k_asm)); (case x => first | exact News.get (by k_asm) (by k_mem) | exact Fr.keep (by k_asm) _ _ (by assumption)); (case dx => first | exact News.get (by k_asm) (by k_mem) | exact Fr.keep (by k_asm) _ _ (by assumption)); (case U => k_updF); (case b => assumption); intro h' es' n' tk' F' N' x'; (try dsimp only [PySem.W.CmpBack] at N' ⊢); (try k_sweep)))
section
open PySem PySem.W PySem.Calls PyProof.Rows
theorem offF36 : True := by
  w_top off
  trivial
section
variable {prog : Program} {w : World} {A : Around} {E : Value → Shared → Prop} {base ti g h h' h₀ : Heap} {frs : List Env} {mean : ExcName → Option Value} {mg mb : Str → Option Value} {s : Shared} {k : Nat}
  {x dx d y dy e f L z dz c : Addr} {l l' l'' : List (Fin 9)} {v : Value} {i : Fin 9} {R : Result → Shared → Prop} {m : Str → Option Value} {news : List (Addr × Obj)} {u : Obj → List (Addr × Obj)} {es : List DictEntry} {n n₁ t ep : Nat}
  {qual : Str} {scope : Scope} {cdv : Value} {Q : Value → Shared → Prop}
theorem or_opK (C : Cx w A base frs mean mg mb h₀ (k + 9)) (B : Below A base frs g) (F : Fr g L s.heap m) (N : News g L s.heap news) (Ti : TupIn ti s.heap) (S : SetIs prog w ti s.heap x dx d l) (S' : SetIs prog w ti s.heap y dy e l')
    (h : ∀ h' x dx d t n es ep tk, Fr g L h' m → News g L h' ((x, instObj 275 dx) :: (dx, setAttrs w t n d) :: (d, dictOf es ep) :: news) → (∀ p ∈ news, @Ne Nat p.1 x ∧ @Ne Nat p.1 dx ∧ @Ne Nat p.1 d) → @Ne Nat x dx → @Ne Nat x d → @Ne Nat dx d →
      Bears prog w ti d es (uniL l l') → Q (.ref x) { s with heap := h', toks := tk }) (hk : scope.kind = .function := by rfl) :
    wpAny (model prog w) (A.deeper (envOf qual scope L f cdv)) (call (.ref 134) [.ref x, .ref y]) Q E s := new_K F N (or_code (k := k) (C.inner B F hk) Ti S S') h
theorem and_opK (C : Cx w A base frs mean mg mb h₀ (k + 9)) (B : Below A base frs g) (F : Fr g L s.heap m) (N : News g L s.heap news) (Ti : TupIn ti s.heap) (S : SetIs prog w ti s.heap x dx d l) (S' : SetIs prog w ti s.heap y dy e l')
    (h : ∀ h' x dx d t n es ep tk, Fr g L h' m → News g L h' ((x, instObj 275 dx) :: (dx, setAttrs w t n d) :: (d, dictOf es ep) :: news) → (∀ p ∈ news, @Ne Nat p.1 x ∧ @Ne Nat p.1 dx ∧ @Ne Nat p.1 d) → @Ne Nat x dx → @Ne Nat x d → @Ne Nat dx d →
      Bears prog w ti d es (intL l l') → Q (.ref x) { s with heap := h', toks := tk }) (hk : scope.kind = .function := by rfl) :
    wpAny (model prog w) (A.deeper (envOf qual scope L f cdv)) (call (.ref 141) [.ref x, .ref y]) Q E s := new_K F N (and_code (k := k) (C.inner B F hk) Ti S S') h
theorem plus_opK (C : Cx w A base frs mean mg mb h₀ (k + 9)) (B : Below A base frs g) (F : Fr g L s.heap m) (N : News g L s.heap news) (Ti : TupIn ti s.heap) (S : SetIs prog w ti s.heap x dx d l) (S' : SetIs prog w ti s.heap y dy e l')
    (h : ∀ h' x dx d t n es ep tk, Fr g L h' m → News g L h' ((x, instObj 275 dx) :: (dx, setAttrs w t n d) :: (d, dictOf es ep) :: news) → (∀ p ∈ news, @Ne Nat p.1 x ∧ @Ne Nat p.1 dx ∧ @Ne Nat p.1 d) → @Ne Nat x dx → @Ne Nat x d → @Ne Nat dx d →
      Bears prog w ti d es (uniL l l') → Q (.ref x) { s with heap := h', toks := tk }) (hk : scope.kind = .function := by rfl) :
    wpAny (model prog w) (A.deeper (envOf qual scope L f cdv)) (call (.ref 148) [.ref x, .ref y]) Q E s := new_K F N (plus_code (k := k) (C.inner B F hk) Ti S S') h
theorem minus_opK (C : Cx w A base frs mean mg mb h₀ (k + 9)) (B : Below A base frs g) (F : Fr g L s.heap m) (N : News g L s.heap news) (Ti : TupIn ti s.heap) (S : SetIs prog w ti s.heap x dx d l) (S' : SetIs prog w ti s.heap y dy e l')
    (h : ∀ h' x dx d t n es ep tk, Fr g L h' m → News g L h' ((x, instObj 275 dx) :: (dx, setAttrs w t n d) :: (d, dictOf es ep) :: news) → (∀ p ∈ news, @Ne Nat p.1 x ∧ @Ne Nat p.1 dx ∧ @Ne Nat p.1 d) → @Ne Nat x dx → @Ne Nat x d → @Ne Nat dx d →
      Bears prog w ti d es (difL l l') → Q (.ref x) { s with heap := h', toks := tk }) (hk : scope.kind = .function := by rfl) :
    wpAny (model prog w) (A.deeper (envOf qual scope L f cdv)) (call (.ref 155) [.ref x, .ref y]) Q E s := new_K F N (minus_code (k := k) (C.inner B F hk) Ti S S') h
theorem xor_opK (C : Cx w A base frs mean mg mb h₀ (k + 9)) (B : Below A base frs g) (F : Fr g L s.heap m) (N : News g L s.heap news) (Ti : TupIn ti s.heap) (S : SetIs prog w ti s.heap x dx d l) (S' : SetIs prog w ti s.heap y dy e l')
    (h : ∀ h' x dx d t n es ep tk, Fr g L h' m → News g L h' ((x, instObj 275 dx) :: (dx, setAttrs w t n d) :: (d, dictOf es ep) :: news) → (∀ p ∈ news, @Ne Nat p.1 x ∧ @Ne Nat p.1 dx ∧ @Ne Nat p.1 d) → @Ne Nat x dx → @Ne Nat x d → @Ne Nat dx d →
      Bears prog w ti d es (symL l l') → Q (.ref x) { s with heap := h', toks := tk }) (hk : scope.kind = .function := by rfl) :
    wpAny (model prog w) (A.deeper (envOf qual scope L f cdv)) (call (.ref 162) [.ref x, .ref y]) Q E s := new_K F N (xor_code (k := k) (C.inner B F hk) Ti S S') h
end
end
end Mine
namespace Mine
open PySem PySem.W PySem.Calls PyProof.Rows
set_option hygiene false in
local macro_rules | `(tactic| k_inst) => `(tactic| (refine' InstAt.of_g ?F ?a ?b; (case F => k_asm); (case a => first | assumption | exact Reads1.gx (by assumption)); (case b => first | assumption | exact Reads1.gdx (by assumption))))
set_option hygiene false in
local macro_rules | `(tactic| k_units) => `(tactic| exact Room.units (Room.deeper (Cx.room (by assumption))))
set_option hygiene false in
local macro_rules | `(tactic| walk_at "compareOp NotIn") => `(tactic| (k_here; (with_reducible show wpAny _ _ (compareOp CmpOp.NotIn _ (Value.ref _)) _ _ _); refine' notIn_K ?T ?m ?B ?v ?u ?_; (case T => exact TupIn.up (by assumption) (by k_asm)); (case m => first | exact News.get (by k_asm) (by k_mem) | exact Fr.keep (by k_asm) _ _ (Reads1.gd (by assumption))); (case B => first | assumption | exact Reads1.bd (by assumption)); (case v => assumption); (case u => k_units); intro tk'))
set_option hygiene false in
local macro_rules | `(tactic| walk_at "compareOp In") => `(tactic| (k_here; (with_reducible show wpAny _ _ (compareOp CmpOp.In _ (Value.ref _)) _ _ _); refine' in_K' ?T ?m ?B ?v ?u ?_; (case T => exact TupIn.up (by assumption) (by k_asm)); (case m => first | exact News.get (by k_asm) (by k_mem) | exact Fr.keep (by k_asm) _ _ (Reads1.gd (by assumption))); (case B => first | assumption | exact Reads1.bd (by assumption)); (case v => assumption); (case u => k_units); intro tk'))
set_option hygiene false in
local macro_rules | `(tactic| walk_at "setItem ref") => `(tactic| (k_here; (with_reducible show wpAny _ _ (setItem (Value.ref _) _ Value.none) _ _ _); refine' setItem_K' ?T ?F ?N ?U ?x ?v ?u ?_; (case T => exact TupIn.up (by assumption) (by k_asm)); (case F => k_asm); (case N => k_asm); (case U => k_updF); (case x => assumption); (case v => assumption); (case u => k_units); intro h' es' n' tk' F' N' x'; (try dsimp only at N'); (try k_sweep)))
set_option hygiene false in
local macro_rules | `(tactic| walk_at "call builtin:dict.pop") => `(tactic| (k_here; (with_reducible show wpAny _ _ (call (Value.builtin "dict.pop") [Value.ref _, _, Value.none]) _ _ _); refine' pop_K' ?T ?F ?N ?U ?x ?v ?u ?_; (case T => exact TupIn.up (by assumption) (by k_asm)); (case F => k_asm); (case N => k_asm); (case U => k_updF); (case x => assumption); (case v => assumption); (case u => k_units); intro h' es' n' tk' F' N' x'; (try dsimp only at N'); (try k_sweep)))
set_option hygiene false in
local macro_rules | `(tactic| walk_at "call builtin:dict.clear") => `(tactic| (k_here; (with_reducible show wpAny _ _ (call (Value.builtin "dict.clear") [Value.ref _]) _ _ _); refine' clear_K' ?T ?F ?N ?U ?x ?_; (case T => exact TupIn.up (by assumption) (by k_asm)); (case F => k_asm); (case N => k_asm); (case U => k_updF); (case x => assumption); intro h' es' n' F' N' x'; (try dsimp only at N'); (try k_sweep)))
set_option hygiene false in
local macro_rules | `(tactic| walk_at "getMethod ref") => `(tactic| (k_here; (with_reducible show wpAny _ _ (getMethod (Value.ref _) (PySem.Str.ofString "pop") _) _ _ _); refine' dictMethod_M ?m PySem.F.slot_dict_pop PySem.F.type_dict_pop ?_; (case m => first | exact News.get (by k_asm) (by k_mem) | exact Fr.keep (by k_asm) _ _ (Reads1.gd (by assumption)))))
set_option hygiene false in
local macro_rules | `(tactic| walk_at "getMethod ref") => `(tactic| (k_here; (with_reducible show wpAny _ _ (getMethod (Value.ref _) (PySem.Str.ofString "popitem") _) _ _ _); refine' dictMethod_M ?m PySem.F.slot_dict_popitem PySem.F.type_dict_popitem ?_; (case m => first | exact News.get (by k_asm) (by k_mem) | exact Fr.keep (by k_asm) _ _ (Reads1.gd (by assumption)))))
set_option hygiene false in
local macro_rules | `(tactic| walk_at "getMethod ref") => `(tactic| (k_here; (with_reducible show wpAny _ _ (getMethod (Value.ref _) (PySem.Str.ofString "clear") _) _ _ _); refine' dictMethod_M ?m PySem.F.slot_dict_clear PySem.F.type_dict_clear ?_; (case m => first | exact News.get (by k_asm) (by k_mem) | exact Fr.keep (by k_asm) _ _ (Reads1.gd (by assumption)))))
set_option hygiene false in
local macro_rules | `(tactic| walk_at "call type:dict nil nil") => `(tactic| (k_here; refine' newDict_M ?F ?N ?T ?_; (case F => k_asm); (case N => k_asm); (case T => exact (by assumption : Top _ _ _ _ _ _).nolimit); intro d' h' F' N' l1 l2 lo'; (try k_lt l1); (try k_sweep)))
set_option hygiene false in
local macro_rules | `(tactic| walk_at "call ref") => `(tactic| (k_here; (with_reducible show wpAny _ _ (call (Value.ref 275) _ _) _ _ _); (try dsimp only [List.nil_append, List.cons_append]); refine' new0_K ?C ?B ?T ?X ?F ?N ?_; (case T => exact TupIn.up (by assumption) (by k_asm)); (case C => assumption); (case B => assumption); (case X => assumption); (case F => k_asm); (case N => k_asm); intro h' x' dx' d' t' n' ep' tk' F' N' off' e1' e2' e3' Bd'; (try simp only [List.mem_cons, List.not_mem_nil, or_false, forall_eq_or_imp, forall_eq, false_implies, implies_true] at off'); (try k_sweep)))
set_option hygiene false in
local macro_rules | `(tactic| walk_at "call ref") => `(tactic| (k_here; (with_reducible show wpAny _ _ (call (Value.ref 36) _ _) _ _ _); (try dsimp only [List.nil_append, List.cons_append]); refine' add_K ?C ?B ?F ?N ?U ?T ?x ?dx ?b ?v ?_; (case C => assumption); (case B => assumption); (case F => k_asm); (case N => k_asm); (case x => first | exact News.get (by k_asm) (by k_mem) | exact Fr.keep (by k_asm) _ _ (by assumption)); (case dx => first | exact News.get (by k_asm) (by k_mem) | exact Fr.keep (by k_asm) _ _ (by assumption)); (case U => k_updF); (case T => exact TupIn.up (by assumption) (by k_asm)); (case b => assumption); (case v => assumption); intro h' es' n' tk' F' N' x'; (try dsimp only at N'); (try k_sweep)))
set_option hygiene false in
local macro_rules | `(tactic| walk_at "call builtin:iter") => `(tactic| (k_here; (with_reducible show wpAny _ _ (call (Value.builtin "iter") [Value.ref _]) _ _ _); refine' iter_M ?F ?N ?m ?l ?_; (case F => k_asm); (case N => k_asm); (case m => first | exact News.get (by k_asm) (by k_mem) | exact Fr.keep (by k_asm) _ _ (Reads1.gd (by assumption))); (case l => first | exact Bears.lo (by assumption) | exact Bears.lo (Reads1.bd (by assumption))); intro I' h' F' N' off'; (try k_sweep)))
set_option hygiene false in
local macro_rules | `(tactic| walk_at "exec For Name Name cons nil") => `(tactic| (k_here; (with_reducible rename Fr _ _ _ _ => lF'); (with_unfolding_all refine' For_invVF lF' ?k1 ?k2 ?_; (case k1 => exact rfl); (case k2 => exact rfl); k_whole)))
set_option hygiene false in
local macro_rules | `(tactic| walk_at "compareOp Is ref ref") => `(tactic| (k_here; first | with_reducible refine is_self_M ?_ | (refine' is_other_M ?n ?x ?y ?_; (case n => first | assumption | exact Ne.symm (by assumption)); (case x => first | exact News.get (by k_asm) (by k_mem) | exact Fr.keep (by k_asm) _ _ (by first | assumption | exact Reads1.gx (by assumption))); (case y => first | exact News.get (by k_asm) (by k_mem) | exact Fr.keep (by k_asm) _ _ (by first | assumption | exact Reads1.gx (by assumption))))))
set_option hygiene false in
local macro_rules | `(tactic| walk_at "call ref") => `(tactic| (k_here; (with_reducible show wpAny _ _ (call (Value.ref 50) _ _) _ _ _); (try dsimp only [List.nil_append, List.cons_append]); refine' discard_K ?C ?B ?F ?N ?U ?T ?x ?dx ?b ?v ?_; (case C => assumption); (case B => assumption); (case F => k_asm); (case N => k_asm); (case x => first | exact News.get (by k_asm) (by k_mem) | exact Fr.keep (by k_asm) _ _ (by assumption)); (case dx => first | exact News.get (by k_asm) (by k_mem) | exact Fr.keep (by k_asm) _ _ (by assumption)); (case U => k_updF); (case T => exact TupIn.up (by assumption) (by k_asm)); (case b => assumption); (case v => assumption); intro h' es' n' tk' F' N' x'; (try dsimp only at N'); (try k_sweep)))
set_option hygiene false in
local macro_rules | `(tactic| walk_at "compareOp NotIn") => `(tactic| (k_here; (with_reducible show wpAny _ _ (compareOp CmpOp.NotIn _ (Value.ref _)) _ _ _); refine' notIn_set ?C ?B ?X ?T ?F ?N ?Rx ?v ?_; (case Rx => assumption); (case C => assumption); (case B => assumption); (case X => assumption); (case T => assumption); (case F => k_asm); (case N => k_asm); (case v => assumption); intro h' tk' F' N'; (try k_sweep)))
set_option hygiene false in
local macro_rules | `(tactic| walk_at "delItem ref") => `(tactic| (k_here; (with_reducible show wpAny _ _ (delItem (Value.ref _) _) _ _ _); refine' delItem_K' ?hh ?T ?F ?N ?U ?x ?v ?u (fun hk => absurd ?m hk) ?_; (case hh => (rename Cx _ _ _ _ _ _ _ _ _ => cX; exact cX.handled)); (case T => exact TupIn.up (by assumption) (by k_asm)); (case F => k_asm); (case N => k_asm); (case U => k_updF); (case x => assumption); (case v => assumption); (case u => k_units); (case m => assumption); intro hk h' es' n' tk' F' N' x'; (try dsimp only at N'); (try k_sweep)))
set_option hygiene false in
local macro_rules | `(tactic| walk_at "call type:list") => `(tactic| (k_here; (with_reducible show wpAny _ _ (call (Value.type _) [Value.ref _]) _ _ _); refine' listM_K ?hh ?F ?N ?m ?B ?_; (case hh => (rename Cx _ _ _ _ _ _ _ _ _ => cX; exact cX.handled)); (case F => k_asm); (case N => k_asm); (case m => first | exact News.get (by k_asm) (by k_mem) | exact Fr.keep (by k_asm) _ _ (Reads1.gd (by assumption))); (case B => first | assumption | exact Reads1.bd (by assumption)); intro D' c' h' tk' F' N' l1; (try k_lt l1); (try k_sweep)))
set_option hygiene false in
local macro_rules | `(tactic| walk_at "delItem ref") => `(tactic| (k_here; (with_reducible show wpAny _ _ (delItem (Value.ref _) _) _ _ _); refine' delItem_K' ?hh ?T ?F ?N ?U ?x ?v ?u ?_ (fun hk => absurd hk ?m); (case hh => (rename Cx _ _ _ _ _ _ _ _ _ => cX; exact cX.handled)); (case T => exact TupIn.up (by assumption) (by k_asm)); (case F => k_asm); (case N => k_asm); (case U => k_updF); (case x => assumption); (case v => assumption); (case u => k_units); (case m => assumption); intro hk h' e' tk' NE'))
set_option hygiene false in
local macro_rules | `(tactic| walk_at "call ref") => `(tactic| (k_here; (with_reducible show wpAny _ _ (call (Value.ref 64) _ _) _ _ _); (try dsimp only [List.nil_append, List.cons_append]); refine' clone_K ?C ?B ?F ?N ?T ?S ?_; (case C => assumption); (case B => assumption); (case F => k_asm); (case N => k_asm); (case T => exact TupIn.up (by assumption) (by k_asm)); (case S => first | exact Reads1.set1 (by assumption) (by k_asm) | exact setIs_new (by k_asm) (by k_mem) (by k_mem) (by k_mem) (by assumption) | exact setIs_of (by k_asm) (by k_asm) (by assumption) (by assumption) (by k_mem) (by assumption)); intro h' x' dx' d' t' n' es' ep' tk' F' N' off' e1' e2' e3' Bd'; (try simp only [List.mem_cons, List.not_mem_nil, or_false, forall_eq_or_imp, forall_eq, false_implies, implies_true] at off'); (try k_sweep)))
set_option hygiene false in
local macro_rules | `(tactic| walk_at "call ref") => `(tactic| (k_here; (with_reducible show wpAny _ _ (call (Value.ref 78) _ _) _ _ _); (try dsimp only [List.nil_append, List.cons_append]); refine' union_update_K ?C ?B ?F ?N ?U ?T ?x ?dx ?b ?S' ?ne ?nd ?_; (case C => assumption); (case B => assumption); (case F => k_asm); (case N => k_asm); (case T => exact TupIn.up (by assumption) (by k_asm)); (case x => first | exact News.get (by k_asm) (by k_mem) | exact Fr.keep (by k_asm) _ _ (by assumption)); (case dx => first | exact News.get (by k_asm) (by k_mem) | exact Fr.keep (by k_asm) _ _ (by assumption)); (case U => k_updF); (case b => assumption); (case S' => first | exact Reads1.set1 (by assumption) (by k_asm) | exact setIs_new (by k_asm) (by k_mem) (by k_mem) (by k_mem) (by assumption) | exact setIs_of (by k_asm) (by k_asm) (by assumption) (by assumption) (by k_mem) (by assumption)); (case ne => first | assumption | exact ne_ng (by k_asm) (by k_mem) (Reads1.gx (by assumption)) | exact ne_ng (by k_asm) (by k_mem) (by assumption) | exact Ne.symm (ne_ng (by k_asm) (by k_mem) (by assumption)) | (show @Ne Nat _ _; omega)); (case nd => first | assumption | exact ne_ng (by k_asm) (by k_mem) (Reads1.gd (by assumption)) | exact ne_ng (by k_asm) (by k_mem) (by assumption) | (show @Ne Nat _ _; omega)); intro h' es' n' tk' F' N' x'; (try dsimp only at N'); (try k_sweep)))
set_option hygiene false in
local macro_rules | `(tactic| walk_at "call ref") => `(tactic| (k_here; (with_reducible show wpAny _ _ (call (Value.ref 85) _ _) _ _ _); (try dsimp only [List.nil_append, List.cons_append]); refine' intersection_update_K ?C ?B ?F ?N ?U ?T ?x ?dx ?b ?S' ?ne ?nd ?_; (case C => assumption); (case B => assumption); (case F => k_asm); (case N => k_asm); (case T => exact TupIn.up (by assumption) (by k_asm)); (case x => first | exact News.get (by k_asm) (by k_mem) | exact Fr.keep (by k_asm) _ _ (by assumption)); (case dx => first | exact News.get (by k_asm) (by k_mem) | exact Fr.keep (by k_asm) _ _ (by assumption)); (case U => k_updF); (case b => assumption); (case S' => first | exact Reads1.set1 (by assumption) (by k_asm) | exact setIs_new (by k_asm) (by k_mem) (by k_mem) (by k_mem) (by assumption) | exact setIs_of (by k_asm) (by k_asm) (by assumption) (by assumption) (by k_mem) (by assumption)); (case ne => first | assumption | exact ne_ng (by k_asm) (by k_mem) (Reads1.gx (by assumption)) | exact ne_ng (by k_asm) (by k_mem) (by assumption) | exact Ne.symm (ne_ng (by k_asm) (by k_mem) (by assumption)) | (show @Ne Nat _ _; omega)); (case nd => first | assumption | exact ne_ng (by k_asm) (by k_mem) (Reads1.gd (by assumption)) | exact ne_ng (by k_asm) (by k_mem) (by assumption) | (show @Ne Nat _ _; omega)); intro h' es' n' tk' F' N' x'; (try dsimp only at N'); (try k_sweep)))
set_option hygiene false in
local macro_rules | `(tactic| walk_at "call ref") => `(tactic| (k_here; (with_reducible show wpAny _ _ (call (Value.ref 92) _ _) _ _ _); (try dsimp only [List.nil_append, List.cons_append]); refine' difference_update_K ?C ?B ?F ?N ?U ?T ?x ?dx ?b ?S' ?ne ?nd ?_; (case C => assumption); (case B => assumption); (case F => k_asm); (case N => k_asm); (case T => exact TupIn.up (by assumption) (by k_asm)); (case x => first | exact News.get (by k_asm) (by k_mem) | exact Fr.keep (by k_asm) _ _ (by assumption)); (case dx => first | exact News.get (by k_asm) (by k_mem) | exact Fr.keep (by k_asm) _ _ (by assumption)); (case U => k_updF); (case b => assumption); (case S' => first | exact Reads1.set1 (by assumption) (by k_asm) | exact setIs_new (by k_asm) (by k_mem) (by k_mem) (by k_mem) (by assumption) | exact setIs_of (by k_asm) (by k_asm) (by assumption) (by assumption) (by k_mem) (by assumption)); (case ne => first | assumption | exact ne_ng (by k_asm) (by k_mem) (Reads1.gx (by assumption)) | exact ne_ng (by k_asm) (by k_mem) (by assumption) | exact Ne.symm (ne_ng (by k_asm) (by k_mem) (by assumption)) | (show @Ne Nat _ _; omega)); (case nd => first | assumption | exact ne_ng (by k_asm) (by k_mem) (Reads1.gd (by assumption)) | exact ne_ng (by k_asm) (by k_mem) (by assumption) | (show @Ne Nat _ _; omega)); intro h' es' n' tk' F' N' x'; (try dsimp only at N'); (try k_sweep)))
set_option hygiene false in
local macro_rules | `(tactic| walk_at "call ref") => `(tactic| (k_here; (with_reducible show wpAny _ _ (call (Value.ref 106) _ _) _ _ _); (try dsimp only [List.nil_append, List.cons_append]); refine' union_K ?C ?B ?F ?N ?T ?S ?S' ?_; (case C => assumption); (case B => assumption); (case F => k_asm); (case N => k_asm); (case T => exact TupIn.up (by assumption) (by k_asm)); (case S => first | exact Reads1.set1 (by assumption) (by k_asm) | exact setIs_new (by k_asm) (by k_mem) (by k_mem) (by k_mem) (by assumption) | exact setIs_of (by k_asm) (by k_asm) (by assumption) (by assumption) (by k_mem) (by assumption)); (case S' => first | exact Reads1.set1 (by assumption) (by k_asm) | exact setIs_new (by k_asm) (by k_mem) (by k_mem) (by k_mem) (by assumption) | exact setIs_of (by k_asm) (by k_asm) (by assumption) (by assumption) (by k_mem) (by assumption)); intro h' x' dx' d' t' n' es' ep' tk' F' N' off' e1' e2' e3' Bd'; (try simp only [List.mem_cons, List.not_mem_nil, or_false, forall_eq_or_imp, forall_eq, false_implies, implies_true] at off'); (try k_sweep)))
set_option hygiene false in
local macro_rules | `(tactic| walk_at "call ref") => `(tactic| (k_here; (with_reducible show wpAny _ _ (call (Value.ref 113) _ _) _ _ _); (try dsimp only [List.nil_append, List.cons_append]); refine' intersection_K ?C ?B ?F ?N ?T ?S ?S' ?_; (case C => assumption); (case B => assumption); (case F => k_asm); (case N => k_asm); (case T => exact TupIn.up (by assumption) (by k_asm)); (case S => first | exact Reads1.set1 (by assumption) (by k_asm) | exact setIs_new (by k_asm) (by k_mem) (by k_mem) (by k_mem) (by assumption) | exact setIs_of (by k_asm) (by k_asm) (by assumption) (by assumption) (by k_mem) (by assumption)); (case S' => first | exact Reads1.set1 (by assumption) (by k_asm) | exact setIs_new (by k_asm) (by k_mem) (by k_mem) (by k_mem) (by assumption) | exact setIs_of (by k_asm) (by k_asm) (by assumption) (by assumption) (by k_mem) (by assumption)); intro h' x' dx' d' t' n' es' ep' tk' F' N' off' e1' e2' e3' Bd'; (try simp only [List.mem_cons, List.not_mem_nil, or_false, forall_eq_or_imp, forall_eq, false_implies, implies_true] at off'); (try k_sweep)))
set_option hygiene false in
local macro_rules | `(tactic| walk_at "call ref") => `(tactic| (k_here; (with_reducible show wpAny _ _ (call (Value.ref 120) _ _) _ _ _); (try dsimp only [List.nil_append, List.cons_append]); refine' difference_K ?C ?B ?F ?N ?T ?S ?S' ?_; (case C => assumption); (case B => assumption); (case F => k_asm); (case N => k_asm); (case T => exact TupIn.up (by assumption) (by k_asm)); (case S => first | exact Reads1.set1 (by assumption) (by k_asm) | exact setIs_new (by k_asm) (by k_mem) (by k_mem) (by k_mem) (by assumption) | exact setIs_of (by k_asm) (by k_asm) (by assumption) (by assumption) (by k_mem) (by assumption)); (case S' => first | exact Reads1.set1 (by assumption) (by k_asm) | exact setIs_new (by k_asm) (by k_mem) (by k_mem) (by k_mem) (by assumption) | exact setIs_of (by k_asm) (by k_asm) (by assumption) (by assumption) (by k_mem) (by assumption)); intro h' x' dx' d' t' n' es' ep' tk' F' N' off' e1' e2' e3' Bd'; (try simp only [List.mem_cons, List.not_mem_nil, or_false, forall_eq_or_imp, forall_eq, false_implies, implies_true] at off'); (try k_sweep)))
set_option hygiene false in
local macro_rules | `(tactic| walk_at "call ref") => `(tactic| (k_here; (with_reducible show wpAny _ _ (call (Value.ref 99) _ _) _ _ _); (try dsimp only [List.nil_append, List.cons_append]); refine' symmetric_difference_update_K ?C ?B ?F ?N ?U ?T ?x ?dx ?b ?S' ?ne ?nd ?_; (case C => assumption); (case B => assumption); (case F => k_asm); (case N => k_asm); (case T => exact TupIn.up (by assumption) (by k_asm)); (case x => first | exact News.get (by k_asm) (by k_mem) | exact Fr.keep (by k_asm) _ _ (by assumption)); (case dx => first | exact News.get (by k_asm) (by k_mem) | exact Fr.keep (by k_asm) _ _ (by assumption)); (case U => k_updF); (case b => assumption); (case S' => first | exact Reads1.set1 (by assumption) (by k_asm) | exact setIs_new (by k_asm) (by k_mem) (by k_mem) (by k_mem) (by assumption) | exact setIs_of (by k_asm) (by k_asm) (by assumption) (by assumption) (by k_mem) (by assumption)); (case ne => first | assumption | exact ne_ng (by k_asm) (by k_mem) (Reads1.gx (by assumption)) | exact ne_ng (by k_asm) (by k_mem) (by assumption) | exact Ne.symm (ne_ng (by k_asm) (by k_mem) (by assumption)) | (show @Ne Nat _ _; omega)); (case nd => first | assumption | exact ne_ng (by k_asm) (by k_mem) (Reads1.gd (by assumption)) | exact ne_ng (by k_asm) (by k_mem) (by assumption) | (show @Ne Nat _ _; omega)); intro h' es' n' tk' F' N' x'; (try dsimp only at N'); (try k_sweep)))
set_option hygiene false in
local macro_rules | `(tactic| walk_at "call ref") => `(tactic| (k_here; (with_reducible show wpAny _ _ (call (Value.ref 127) _ _) _ _ _); (try dsimp only [List.nil_append, List.cons_append]); refine' symmetric_difference_K ?C ?B ?F ?N ?T ?S ?S' ?_; (case C => assumption); (case B => assumption); (case F => k_asm); (case N => k_asm); (case T => exact TupIn.up (by assumption) (by k_asm)); (case S => first | exact Reads1.set1 (by assumption) (by k_asm) | exact setIs_new (by k_asm) (by k_mem) (by k_mem) (by k_mem) (by assumption) | exact setIs_of (by k_asm) (by k_asm) (by assumption) (by assumption) (by k_mem) (by assumption)); (case S' => first | exact Reads1.set1 (by assumption) (by k_asm) | exact setIs_new (by k_asm) (by k_mem) (by k_mem) (by k_mem) (by assumption) | exact setIs_of (by k_asm) (by k_asm) (by assumption) (by assumption) (by k_mem) (by assumption)); intro h' x' dx' d' t' n' es' ep' tk' F' N' off' e1' e2' e3' Bd'; (try simp only [List.mem_cons, List.not_mem_nil, or_false, forall_eq_or_imp, forall_eq, false_implies, implies_true] at off'); (try k_sweep)))
set_option hygiene false in
local macro_rules | `(tactic| walk_at "call ref") => `(tactic| (k_here; (with_reducible show wpAny _ _ (call (Value.ref 78) _ _) _ _ _); (try dsimp only [List.nil_append, List.cons_append]); refine' union_update_self_K ?C ?B ?F ?N ?U ?T ?x ?dx ?b ?_; (case C => assumption); (case B => assumption); (case F => k_asm); (case N => k_asm); (case T => exact TupIn.up (by assumption) (by k_asm)); (case x => first | exact News.get (by k_asm) (by k_mem) | exact Fr.keep (by k_asm) _ _ (by assumption)); (case dx => first | exact News.get (by k_asm) (by k_mem) | exact Fr.keep (by k_asm) _ _ (by assumption)); (case U => k_updF); (case b => assumption);  intro h' es' n' tk' F' N' x'; (try dsimp only at N'); (try k_sweep)))
set_option hygiene false in
local macro_rules | `(tactic| walk_at "call ref") => `(tactic| (k_here; (with_reducible show wpAny _ _ (call (Value.ref 85) _ _) _ _ _); (try dsimp only [List.nil_append, List.cons_append]); refine' intersection_update_self_K ?C ?B ?F ?N ?U ?T ?x ?dx ?b ?_; (case C => assumption); (case B => assumption); (case F => k_asm); (case N => k_asm); (case T => exact TupIn.up (by assumption) (by k_asm)); (case x => first | exact News.get (by k_asm) (by k_mem) | exact Fr.keep (by k_asm) _ _ (by assumption)); (case dx => first | exact News.get (by k_asm) (by k_mem) | exact Fr.keep (by k_asm) _ _ (by assumption)); (case U => k_updF); (case b => assumption);  intro h' es' n' tk' F' N' x'; (try dsimp only at N'); (try k_sweep)))
set_option hygiene false in
local macro_rules | `(tactic| walk_at "call ref") => `(tactic| (k_here; (with_reducible show wpAny _ _ (call (Value.ref 92) _ _) _ _ _); (try dsimp only [List.nil_append, List.cons_append]); refine' difference_update_self_K ?C ?B ?F ?N ?U ?T ?x ?dx ?b ?_; (case C => assumption); (case B => assumption); (case F => k_asm); (case N => k_asm); (case T => exact TupIn.up (by assumption) (by k_asm)); (case x => first | exact News.get (by k_asm) (by k_mem) | exact Fr.keep (by k_asm) _ _ (by assumption)); (case dx => first | exact News.get (by k_asm) (by k_mem) | exact Fr.keep (by k_asm) _ _ (by assumption)); (case U => k_updF); (case b => assumption);  intro h' es' n' tk' F' N' x'; (try dsimp only at N'); (try k_sweep)))
set_option hygiene false in
local macro_rules | `(tactic| walk_at "call ref") => `(tactic| (k_here; (with_reducible show wpAny _ _ (call (Value.ref 99) _ _) _ _ _); (try dsimp only [List.nil_append, List.cons_append]); refine' symmetric_difference_update_self_K ?C ?B ?F ?N ?U ?T ?x ?dx ?b ?_; (case C => assumption); (case B => assumption); (case F => k_asm); (case N => k_asm); (case T => exact TupIn.up (by assumption) (by k_asm)); (case x => first | exact News.get (by k_asm) (by k_mem) | exact Fr.keep (by k_asm) _ _ (by assumption)); (case dx => first | exact News.get (by k_asm) (by k_mem) | exact Fr.keep (by k_asm) _ _ (by assumption)); (case U => k_updF); (case b => assumption);  intro h' es' n' tk' F' N' x'; (try dsimp only at N'); (try k_sweep)))
set_option hygiene false in
local macro_rules | `(tactic| walk_at "call builtin:dict.popitem") => `(tactic| (k_here; (with_reducible show wpAny _ _ (call (Value.builtin "dict.popitem") [Value.ref _]) _ _ _); refine' popitem_K ?F ?N ?U ?T ?x ?_; (case T => exact TupIn.up (by assumption) (by k_asm)); (case F => k_asm); (case N => k_asm); (case U => k_updF); (case x => assumption); intro h' es' n' T' v' F' N' l1 x' hv'; (try dsimp only at N' l1); (try k_lt l1); (try k_sweep)))
set_option hygiene false in
local macro_rules | `(tactic| walk_at "call builtin:len") => `(tactic| (k_here; (with_reducible show wpAny _ _ (call (Value.builtin "len") [Value.ref _]) _ _ _); refine' lenM_K ?F ?T ?m ?B ?_; (case F => k_asm); (case T => exact TupIn.up (by assumption) (by k_asm)); (case m => first | exact News.get (by k_asm) (by k_mem) | exact Fr.keep (by k_asm) _ _ (Reads1.gd (by assumption))); (case B => first | assumption | exact Reads1.bd (by assumption)); intro t' tk'))
set_option hygiene false in
local macro_rules | `(tactic| walk_at "assign Tuple") => `(tactic| (k_here; (with_reducible show wpAny _ _ (assign (Expr.Tuple _ _ _) _ (Value.ref _)) _ _ _); refine' unpackN_ ?k1 ?k2 ?k3 ?k4 ?k5 ?k6 ?_; (case k1 => k_asm); (case k2 => k_asm); (case k3 => exact News.isTup (by k_asm) (by k_mem)); (case k4 => (rename Cx _ _ _ _ _ _ _ _ _ => cX; exact cX.handled)); (case k5 => exact rfl); (case k6 => exact rfl); k_whole; intro h' F' N'; (try k_sweep)))
set_option hygiene false in
local macro_rules | `(tactic| walk_at "leaving ref") => `(tactic| (k_here; first
  | (refine' leave_raiseM ?k1 ?k2 (Heap.MadeExc.of (by assumption)) ?_; (case k1 => assumption); (case k2 => assumption); k_whole; intro h' fl')
  | (refine' leave_newM ?k1 ?k2 (by assumption) ?_; (case k1 => assumption); (case k2 => assumption); k_whole; intro h' fl')
  | (refine' leave_onM ?k1 ?k2 (by assumption) ?_; (case k1 => assumption); (case k2 => assumption); k_whole; intro h' fl')))
set_option hygiene false in
local macro_rules | `(tactic| walk_at "call builtin:isinstance") => `(tactic| (k_here; (with_reducible show wpAny _ _ (call _ [Value.ref _, Value.ref 275]) _ _ _); refine' isinst_list ?X ?y ?_; (case X => k_in); (case y => exact Fr.keep (by k_asm) _ _ (by assumption)); k_whole))
set_option hygiene false in
local macro_rules | `(tactic| walk_at "exec Raise some none") => `(tactic| (k_here; (with_reducible show wpAny _ _ (exec (Stmt.Raise (some (Expr.Call (Expr.Name ("ValueError" : Str) _) (_ :: _) [] _)) none _) _) _ _ _); (with_reducible rename Fr _ _ _ _ => kF); refine' Raise_madeB PySem.F.excCall_ValueError PySem.F.excRaise_ValueError ?hh (name_B kF ?k1 ?k2 ?k3 ?k4 ?k5 ⟨rfl, ?_⟩); (case hh => (rename Cx _ _ _ _ _ _ _ _ _ => cX; exact cX.handled)); (case k1 => k_asm); (case k2 => k_asm); (case k3 => k_is); (case k4 => boot_by_name); (case k5 => decide)))
set_option hygiene false in
local macro_rules | `(tactic| walk_at "exec Raise some none") => `(tactic| (k_here; (with_reducible show wpAny _ _ (exec (Stmt.Raise (some (Expr.Call (Expr.Name ("IndexError" : Str) _) (_ :: _) [] _)) none _) _) _ _ _); (with_reducible rename Fr _ _ _ _ => kF); refine' Raise_madeB PySem.F.excCall_IndexError PySem.F.excRaise_IndexError ?hh (name_B kF ?k1 ?k2 ?k3 ?k4 ?k5 ⟨rfl, ?_⟩); (case hh => (rename Cx _ _ _ _ _ _ _ _ _ => cX; exact cX.handled)); (case k1 => k_asm); (case k2 => k_asm); (case k3 => k_is); (case k4 => boot_by_name); (case k5 => decide)))
set_option hygiene false in
local macro_rules | `(tactic| walk_at "call ref") => `(tactic| (k_here; (with_reducible show wpAny _ _ (call (Value.ref 78) _ _) _ _ _); (try dsimp only [List.nil_append, List.cons_append]); refine' union_update_err_K ?C ?B ?F ?T ?y ?_; (case C => assumption); (case B => assumption); (case F => k_asm); (case T => exact TupIn.up (by assumption) (by k_asm)); (case y => exact Fr.keep (by k_asm) _ _ (by assumption)); k_whole; intro h' tk' e' fl'))
set_option hygiene false in
local macro_rules | `(tactic| walk_at "call ref") => `(tactic| (k_here; (with_reducible show wpAny _ _ (call (Value.ref 216) _ _) _ _ _); (try dsimp only [List.nil_append, List.cons_append]); refine' eq_K ?C ?B ?F ?N ?T ?S ?S' ?_; (case C => assumption); (case B => assumption); (case F => k_asm); (case N => k_asm); (case T => exact TupIn.up (by assumption) (by k_asm)); (case S => first | exact Reads1.set1 (by assumption) (by k_asm) | exact setIs_new (by k_asm) (by k_mem) (by k_mem) (by k_mem) (by assumption) | exact setIs_of (by k_asm) (by k_asm) (by assumption) (by assumption) (by k_mem) (by assumption)); (case S' => first | exact Reads1.set1 (by assumption) (by k_asm) | exact setIs_new (by k_asm) (by k_mem) (by k_mem) (by k_mem) (by assumption) | exact setIs_of (by k_asm) (by k_asm) (by assumption) (by assumption) (by k_mem) (by assumption)); intro h' tk' F' N'; (try k_sweep)))
set_option hygiene false in
local macro_rules | `(tactic| walk_at "call ref") => `(tactic| (k_here; (with_reducible show wpAny _ _ (call (Value.ref 106) _ _) _ _ _); (try dsimp only [List.nil_append, List.cons_append]); refine' union_err_L ?C ?B ?F ?T ?S ?y ?_; (case C => assumption); (case B => assumption); (case F => k_asm); (case T => exact TupIn.up (by assumption) (by k_asm)); (case S => first | exact Reads1.set1 (by assumption) (by k_asm) | exact setIs_new (by k_asm) (by k_mem) (by k_mem) (by k_mem) (by assumption) | exact setIs_of (by k_asm) (by k_asm) (by assumption) (by assumption) (by k_mem) (by assumption)); (case y => exact News.get (by k_asm) (by k_mem)); k_whole; intro h' tk' e' fl'))
set_option hygiene false in
local macro_rules | `(tactic| walk_at "call ref") => `(tactic| (k_here; (with_reducible show wpAny _ _ (call (Value.ref 85) _ _) _ _ _); (try dsimp only [List.nil_append, List.cons_append]); refine' intersection_update_err_L ?C ?B ?F ?T ?y ?_; (case C => assumption); (case B => assumption); (case F => k_asm); (case T => exact TupIn.up (by assumption) (by k_asm)); (case y => exact News.get (by k_asm) (by k_mem)); k_whole; intro h' tk' e' fl'))
set_option hygiene false in
local macro_rules | `(tactic| walk_at "call ref") => `(tactic| (k_here; (with_reducible show wpAny _ _ (call (Value.ref 258) _ _) _ _ _); (try dsimp only [List.nil_append, List.cons_append]); refine' issubset_err_L ?C ?B ?F ?T ?y ?_; (case C => assumption); (case B => assumption); (case F => k_asm); (case T => exact TupIn.up (by assumption) (by k_asm)); (case y => exact News.get (by k_asm) (by k_mem)); k_whole; intro h' tk' e' fl'))
set_option hygiene false in
local macro_rules | `(tactic| walk_at "call ref") => `(tactic| (k_here; (with_reducible show wpAny _ _ (call (Value.ref 272) _ _) _ _ _); (try dsimp only [List.nil_append, List.cons_append]); refine' isdisjoint_err_L ?C ?B ?F ?T ?y ?_; (case C => assumption); (case B => assumption); (case F => k_asm); (case T => exact TupIn.up (by assumption) (by k_asm)); (case y => exact News.get (by k_asm) (by k_mem)); k_whole; intro h' tk' e' fl'))
set_option hygiene false in
local macro_rules | `(tactic| walk_at "call ref") => `(tactic| (k_here; (with_reducible show wpAny _ _ (call (Value.ref 106) _ _) _ _ _); (try dsimp only [List.nil_append, List.cons_append]); refine' union_K ?C ?B ?F ?N ?T ?S ?S' ?_; (case C => assumption); (case B => assumption); (case F => k_asm); (case N => k_asm); (case T => exact TupIn.up (by assumption) (by k_asm)); (case S => first | exact Reads1.set1 (by assumption) (by k_asm) | exact setIs_new (by k_asm) (by k_mem) (by k_mem) (by k_mem) (by assumption) | exact setIs_of (by k_asm) (by k_asm) (by assumption) (by assumption) (by k_mem) (by assumption)); (case S' => first | exact Reads1.set1 (by assumption) (by k_asm) | exact setIs_new (by k_asm) (by k_mem) (by k_mem) (by k_mem) (by assumption) | exact setIs_of (by k_asm) (by k_asm) (by assumption) (by assumption) (by k_mem) (by assumption)); intro h' x' dx' d' t' n' es' ep' tk' F' N' off' e1' e2' e3' Bd'; (try simp only [List.mem_cons, List.not_mem_nil, or_false, forall_eq_or_imp, forall_eq, false_implies, implies_true] at off'); (try k_sweep)))
set_option hygiene false in
local macro_rules | `(tactic| walk_at "call ref") => `(tactic| (k_here; (with_reducible show wpAny _ _ (call (Value.ref 113) _ _) _ _ _); (try dsimp only [List.nil_append, List.cons_append]); refine' intersection_K ?C ?B ?F ?N ?T ?S ?S' ?_; (case C => assumption); (case B => assumption); (case F => k_asm); (case N => k_asm); (case T => exact TupIn.up (by assumption) (by k_asm)); (case S => first | exact Reads1.set1 (by assumption) (by k_asm) | exact setIs_new (by k_asm) (by k_mem) (by k_mem) (by k_mem) (by assumption) | exact setIs_of (by k_asm) (by k_asm) (by assumption) (by assumption) (by k_mem) (by assumption)); (case S' => first | exact Reads1.set1 (by assumption) (by k_asm) | exact setIs_new (by k_asm) (by k_mem) (by k_mem) (by k_mem) (by assumption) | exact setIs_of (by k_asm) (by k_asm) (by assumption) (by assumption) (by k_mem) (by assumption)); intro h' x' dx' d' t' n' es' ep' tk' F' N' off' e1' e2' e3' Bd'; (try simp only [List.mem_cons, List.not_mem_nil, or_false, forall_eq_or_imp, forall_eq, false_implies, implies_true] at off'); (try k_sweep)))
set_option hygiene false in
local macro_rules | `(tactic| walk_at "call ref") => `(tactic| (k_here; (with_reducible show wpAny _ _ (call (Value.ref 120) _ _) _ _ _); (try dsimp only [List.nil_append, List.cons_append]); refine' difference_K ?C ?B ?F ?N ?T ?S ?S' ?_; (case C => assumption); (case B => assumption); (case F => k_asm); (case N => k_asm); (case T => exact TupIn.up (by assumption) (by k_asm)); (case S => first | exact Reads1.set1 (by assumption) (by k_asm) | exact setIs_new (by k_asm) (by k_mem) (by k_mem) (by k_mem) (by assumption) | exact setIs_of (by k_asm) (by k_asm) (by assumption) (by assumption) (by k_mem) (by assumption)); (case S' => first | exact Reads1.set1 (by assumption) (by k_asm) | exact setIs_new (by k_asm) (by k_mem) (by k_mem) (by k_mem) (by assumption) | exact setIs_of (by k_asm) (by k_asm) (by assumption) (by assumption) (by k_mem) (by assumption)); intro h' x' dx' d' t' n' es' ep' tk' F' N' off' e1' e2' e3' Bd'; (try simp only [List.mem_cons, List.not_mem_nil, or_false, forall_eq_or_imp, forall_eq, false_implies, implies_true] at off'); (try k_sweep)))
set_option hygiene false in
local macro_rules | `(tactic| walk_at "call ref") => `(tactic| (k_here; (with_reducible show wpAny _ _ (call (Value.ref 127) _ _) _ _ _); (try dsimp only [List.nil_append, List.cons_append]); refine' symmetric_difference_K ?C ?B ?F ?N ?T ?S ?S' ?_; (case C => assumption); (case B => assumption); (case F => k_asm); (case N => k_asm); (case T => exact TupIn.up (by assumption) (by k_asm)); (case S => first | exact Reads1.set1 (by assumption) (by k_asm) | exact setIs_new (by k_asm) (by k_mem) (by k_mem) (by k_mem) (by assumption) | exact setIs_of (by k_asm) (by k_asm) (by assumption) (by assumption) (by k_mem) (by assumption)); (case S' => first | exact Reads1.set1 (by assumption) (by k_asm) | exact setIs_new (by k_asm) (by k_mem) (by k_mem) (by k_mem) (by assumption) | exact setIs_of (by k_asm) (by k_asm) (by assumption) (by assumption) (by k_mem) (by assumption)); intro h' x' dx' d' t' n' es' ep' tk' F' N' off' e1' e2' e3' Bd'; (try simp only [List.mem_cons, List.not_mem_nil, or_false, forall_eq_or_imp, forall_eq, false_implies, implies_true] at off'); (try k_sweep)))
set_option hygiene false in
local macro_rules | `(tactic| walk_at "call ref") => `(tactic| (k_here; (with_reducible show wpAny _ _ (call (Value.ref 134) _ _) _ _ _); (try dsimp only [List.nil_append, List.cons_append]); refine' or_opK ?C ?B ?F ?N ?T ?S ?S' ?_; (case C => assumption); (case B => assumption); (case F => k_asm); (case N => k_asm); (case T => exact TupIn.up (by assumption) (by k_asm)); (case S => first | exact Reads1.set1 (by assumption) (by k_asm) | exact setIs_new (by k_asm) (by k_mem) (by k_mem) (by k_mem) (by assumption) | exact setIs_of (by k_asm) (by k_asm) (by assumption) (by assumption) (by k_mem) (by assumption)); (case S' => first | exact Reads1.set1 (by assumption) (by k_asm) | exact setIs_new (by k_asm) (by k_mem) (by k_mem) (by k_mem) (by assumption) | exact setIs_of (by k_asm) (by k_asm) (by assumption) (by assumption) (by k_mem) (by assumption)); intro h' x' dx' d' t' n' es' ep' tk' F' N' off' e1' e2' e3' Bd'; (try dsimp only [PySem.W.CmpBack]); (try simp only [List.mem_cons, List.not_mem_nil, or_false, forall_eq_or_imp, forall_eq, false_implies, implies_true] at off'); (try k_sweep)))
set_option hygiene false in
local macro_rules | `(tactic| walk_at "call ref") => `(tactic| (k_here; (with_reducible show wpAny _ _ (call (Value.ref 141) _ _) _ _ _); (try dsimp only [List.nil_append, List.cons_append]); refine' and_opK ?C ?B ?F ?N ?T ?S ?S' ?_; (case C => assumption); (case B => assumption); (case F => k_asm); (case N => k_asm); (case T => exact TupIn.up (by assumption) (by k_asm)); (case S => first | exact Reads1.set1 (by assumption) (by k_asm) | exact setIs_new (by k_asm) (by k_mem) (by k_mem) (by k_mem) (by assumption) | exact setIs_of (by k_asm) (by k_asm) (by assumption) (by assumption) (by k_mem) (by assumption)); (case S' => first | exact Reads1.set1 (by assumption) (by k_asm) | exact setIs_new (by k_asm) (by k_mem) (by k_mem) (by k_mem) (by assumption) | exact setIs_of (by k_asm) (by k_asm) (by assumption) (by assumption) (by k_mem) (by assumption)); intro h' x' dx' d' t' n' es' ep' tk' F' N' off' e1' e2' e3' Bd'; (try dsimp only [PySem.W.CmpBack]); (try simp only [List.mem_cons, List.not_mem_nil, or_false, forall_eq_or_imp, forall_eq, false_implies, implies_true] at off'); (try k_sweep)))
set_option hygiene false in
local macro_rules | `(tactic| walk_at "call ref") => `(tactic| (k_here; (with_reducible show wpAny _ _ (call (Value.ref 148) _ _) _ _ _); (try dsimp only [List.nil_append, List.cons_append]); refine' plus_opK ?C ?B ?F ?N ?T ?S ?S' ?_; (case C => assumption); (case B => assumption); (case F => k_asm); (case N => k_asm); (case T => exact TupIn.up (by assumption) (by k_asm)); (case S => first | exact Reads1.set1 (by assumption) (by k_asm) | exact setIs_new (by k_asm) (by k_mem) (by k_mem) (by k_mem) (by assumption) | exact setIs_of (by k_asm) (by k_asm) (by assumption) (by assumption) (by k_mem) (by assumption)); (case S' => first | exact Reads1.set1 (by assumption) (by k_asm) | exact setIs_new (by k_asm) (by k_mem) (by k_mem) (by k_mem) (by assumption) | exact setIs_of (by k_asm) (by k_asm) (by assumption) (by assumption) (by k_mem) (by assumption)); intro h' x' dx' d' t' n' es' ep' tk' F' N' off' e1' e2' e3' Bd'; (try dsimp only [PySem.W.CmpBack]); (try simp only [List.mem_cons, List.not_mem_nil, or_false, forall_eq_or_imp, forall_eq, false_implies, implies_true] at off'); (try k_sweep)))
set_option hygiene false in
local macro_rules | `(tactic| walk_at "call ref") => `(tactic| (k_here; (with_reducible show wpAny _ _ (call (Value.ref 155) _ _) _ _ _); (try dsimp only [List.nil_append, List.cons_append]); refine' minus_opK ?C ?B ?F ?N ?T ?S ?S' ?_; (case C => assumption); (case B => assumption); (case F => k_asm); (case N => k_asm); (case T => exact TupIn.up (by assumption) (by k_asm)); (case S => first | exact Reads1.set1 (by assumption) (by k_asm) | exact setIs_new (by k_asm) (by k_mem) (by k_mem) (by k_mem) (by assumption) | exact setIs_of (by k_asm) (by k_asm) (by assumption) (by assumption) (by k_mem) (by assumption)); (case S' => first | exact Reads1.set1 (by assumption) (by k_asm) | exact setIs_new (by k_asm) (by k_mem) (by k_mem) (by k_mem) (by assumption) | exact setIs_of (by k_asm) (by k_asm) (by assumption) (by assumption) (by k_mem) (by assumption)); intro h' x' dx' d' t' n' es' ep' tk' F' N' off' e1' e2' e3' Bd'; (try dsimp only [PySem.W.CmpBack]); (try simp only [List.mem_cons, List.not_mem_nil, or_false, forall_eq_or_imp, forall_eq, false_implies, implies_true] at off'); (try k_sweep)))
set_option hygiene false in
local macro_rules | `(tactic| walk_at "call ref") => `(tactic| (k_here; (with_reducible show wpAny _ _ (call (Value.ref 162) _ _) _ _ _); (try dsimp only [List.nil_append, List.cons_append]); refine' xor_opK ?C ?B ?F ?N ?T ?S ?S' ?_; (case C => assumption); (case B => assumption); (case F => k_asm); (case N => k_asm); (case T => exact TupIn.up (by assumption) (by k_asm)); (case S => first | exact Reads1.set1 (by assumption) (by k_asm) | exact setIs_new (by k_asm) (by k_mem) (by k_mem) (by k_mem) (by assumption) | exact setIs_of (by k_asm) (by k_asm) (by assumption) (by assumption) (by k_mem) (by assumption)); (case S' => first | exact Reads1.set1 (by assumption) (by k_asm) | exact setIs_new (by k_asm) (by k_mem) (by k_mem) (by k_mem) (by assumption) | exact setIs_of (by k_asm) (by k_asm) (by assumption) (by assumption) (by k_mem) (by assumption)); intro h' x' dx' d' t' n' es' ep' tk' F' N' off' e1' e2' e3' Bd'; (try dsimp only [PySem.W.CmpBack]); (try simp only [List.mem_cons, List.not_mem_nil, or_false, forall_eq_or_imp, forall_eq, false_implies, implies_true] at off'); (try k_sweep)))
set_option hygiene false in
local macro_rules | `(tactic| walk_at "binaryOp BitXor") => `(tactic| (k_here; (with_reducible show wpAny _ _ (binaryOp Operator.BitXor (Value.ref _) (Value.ref _)) _ _ _); refine' binop_K (f := 162) ?k1 ?k2 (InstAt.of_g ?F ?a ?b) (InstAt.type (InstAt.of_g ?F2 ?c ?d)) ?k5 ?k6 ?k7 ?_; (case F => k_asm); (case a => exact Reads1.gx (by assumption)); (case b => exact Reads1.gdx (by assumption)); (case F2 => k_asm); (case c => exact Reads1.gx (by assumption)); (case d => exact Reads1.gdx (by assumption)); (case k1 => k_asm); (case k2 => k_asm); (case k5 => k_is); (case k6 => k_is); (case k7 => k_is); k_whole))
set_option hygiene false in
local macro_rules | `(tactic| walk_at "binaryOp BitXor ref ref") => `(tactic| (k_here; (with_reducible show wpAny _ _ (binaryOp Operator.BitXor (Value.ref _) (Value.ref _)) _ _ _); refine' binop_K (f := 162) ?k1 ?k2 (InstAt.of_g ?F ?a ?b) (InstAt.type (InstAt.of_g ?F2 ?c ?d)) ?k5 ?k6 ?k7 ?_; (case F => k_asm); (case a => exact Reads1.gx (by assumption)); (case b => exact Reads1.gdx (by assumption)); (case F2 => k_asm); (case c => exact Reads1.gx (by assumption)); (case d => exact Reads1.gdx (by assumption)); (case k1 => k_asm); (case k2 => k_asm); (case k5 => k_is); (case k6 => k_is); (case k7 => k_is); k_whole))
section
open PySem PySem.W PySem.Calls PyProof.Rows
theorem offF37 : True := by
  w_top off
  trivial
section
variable {prog : Program} {w : World} {A : Around} {E : Value → Shared → Prop} {base ti g h h' h₀ : Heap} {frs : List Env} {mean : ExcName → Option Value} {mg mb : Str → Option Value} {s : Shared} {k : Nat}
  {x dx d y dy e f L z dz c : Addr} {l l' l'' : List (Fin 9)} {v : Value} {i : Fin 9} {R : Result → Shared → Prop} {m : Str → Option Value} {news : List (Addr × Obj)} {u : Obj → List (Addr × Obj)} {es : List DictEntry} {n n₁ t ep : Nat}
  {qual : Str} {scope : Scope} {cdv : Value} {Q : Value → Shared → Prop}

theorem new_code {kd : Int} {t₀ : Nat} (C : Cx w A base frs mean mg mb s.heap (k + 10)) (Ti : TupIn ti s.heap) (S : SetIs prog w ti s.heap x dx d l) (S' : SetIs prog w ti s.heap y dy c l')
    (hR : ∀ h' tk D z1 dz1 e1 z2 dz2 e2 z3 dz3 e3, h'.get? D = some { cls := .type "tuple", data := .seq #[.ref z1, .ref z2, .ref z3] } → Chg [] s.heap h' → SetIs prog w ti h' z1 dz1 e1 (due kd l l') → SetIs prog w ti h' z2 dz2 e2 (due kd l l') → SetIs prog w ti h' z3 dz3 e3 (due kd l l') →
      Fresh s.heap [D, z1, dz1, e1, z2, dz2, e2, z3, dz3, e3] → R (.ok (.ret (.ref D))) { s with heap := h', toks := tk }) :
    codeAny (model prog w) A (.call (.ref 293) ⟨[.int kd t₀, .ref x, .ref y], []⟩) R s := by
  refine enter0 C Ti (by k_is) (by k_is) (BindsTo.of_eq rfl) (locs rfl) fun g L h₁ hg Tg F N B X T => ?_
  obtain ⟨t, n, ep, es, Rx⟩ := S.reads hg (by simp)
  obtain ⟨t2, n2, ep2, es2, Ry⟩ := S'.reads hg (by simp)
  dsimp only
  k_steps
  · rw [due, if_pos (by assumption)] at hR
    rename News _ _ _ _ => N2
    rename Fr _ _ _ _ => F2
    refine hR _ _ _ _ _ _ _ _ _ _ _ _ (N2.get (.head _)) (chg_of hg F2) (setIs_new N2 (by k_mem) (by k_mem) (by k_mem) (by assumption)) (setIs_new N2 (by k_mem) (by k_mem) (by k_mem) (by assumption)) (setIs_new N2 (by k_mem) (by k_mem) (by k_mem) (by assumption)) ?_
    repeat' (first | exact Fresh.nil _ | (refine Fresh.cons hg N2 (by k_mem) (by simp) ?_))
  · rw [due, if_neg (by assumption), if_pos (by assumption)] at hR
    rename News _ _ _ _ => N2
    rename Fr _ _ _ _ => F2
    refine hR _ _ _ _ _ _ _ _ _ _ _ _ (N2.get (.head _)) (chg_of hg F2) (setIs_new N2 (by k_mem) (by k_mem) (by k_mem) (by assumption)) (setIs_new N2 (by k_mem) (by k_mem) (by k_mem) (by assumption)) (setIs_new N2 (by k_mem) (by k_mem) (by k_mem) (by assumption)) ?_
    repeat' (first | exact Fresh.nil _ | (refine Fresh.cons hg N2 (by k_mem) (by simp) ?_))
  · rw [due, if_neg (by assumption), if_neg (by assumption), if_pos (by assumption)] at hR
    rename News _ _ _ _ => N2
    rename Fr _ _ _ _ => F2
    refine hR _ _ _ _ _ _ _ _ _ _ _ _ (N2.get (.head _)) (chg_of hg F2) (setIs_new N2 (by k_mem) (by k_mem) (by k_mem) (by assumption)) (setIs_new N2 (by k_mem) (by k_mem) (by k_mem) (by assumption)) (setIs_new N2 (by k_mem) (by k_mem) (by k_mem) (by assumption)) ?_
    repeat' (first | exact Fresh.nil _ | (refine Fresh.cons hg N2 (by k_mem) (by simp) ?_))
  · rw [due, if_neg (by assumption), if_neg (by assumption), if_neg (by assumption)] at hR
    rename News _ _ _ _ => N2
    rename Fr _ _ _ _ => F2
    refine hR _ _ _ _ _ _ _ _ _ _ _ _ (N2.get (.head _)) (chg_of hg F2) (setIs_new N2 (by k_mem) (by k_mem) (by k_mem) (by assumption)) (setIs_new N2 (by k_mem) (by k_mem) (by k_mem) (by assumption)) (setIs_new N2 (by k_mem) (by k_mem) (by k_mem) (by assumption)) ?_
    repeat' (first | exact Fresh.nil _ | (refine Fresh.cons hg N2 (by k_mem) (by simp) ?_))
end
end
section
open PySem PySem.W PySem.Calls PyProof.Rows
section
variable {prog : Program} {w : World} {A : Around} {E : Value → Shared → Prop} {s : Shared} {ti g : Heap} {L ra rb : Addr} {m : Str → Option Value} {news : List (Addr × Obj)} {vs : List Value} {al bl : List (Fin 9)} {na : Nat}
  {env : Env} {x it fr : Str} {px ep ip cp cp' fp pos : Pos} {sc : Scope} {cl : List (Str × Addr)} {op : CmpOp} {c : Fin 9 → Bool} {Q : Value → Shared → Prop} {cit cfr : Addr} {ofr : Obj}
/-- [x for x in it if x op v], v an item -/
theorem filtcompV {vb : Value} (hh : A.handled = none) (F : Fr g L s.heap m) (N : News g L s.heap news) (Ti : TupIn ti s.heap)
    (hra : s.heap.get? ra = some (listOf vs.toArray na)) (Ra : Row ti vs al) (hz : vs.length ≤ 1000)
    (hev : ∀ {E : Value → Shared → Prop} {Q : Value → Shared → Prop}, Q (.ref ra) s → wpAny (model prog w) A (eval (.Name it ip) env) Q E s)
    (hfc : cl.lookup fr = some cfr) (hfm : s.heap.get? cfr = some ofr) (hfd : ofr.data = .cell (some vb))
    (hop : ∀ {E : Value → Shared → Prop} {s' : Shared} {Q : Value → Shared → Prop} {v : Value} {k : Fin 9}, TupIn ti s'.heap → ItemAt ti v k → Q (.bool (c k)) s' → wpAny (model prog w) A (compareOp op v vb) Q E s')
    (h : ∀ h' D n' tk vs', Fr g L h' m → News g L h' ((D, listOf vs'.toArray n') :: news) → (∀ p ∈ news, @Ne Nat p.1 D) → Row ti vs' (al.filter c) → Chg [] s.heap h' → Q (.ref D) { s with heap := h', toks := tk })
    (hclos : closureFor sc env = pure cl) (hfk : ∀ C, (compEnvC sc cl C env).kindOf fr = some .cell)
    (hdb : (x == ("__debug__" : Str)) = false := by decide) (hdf : (fr == ("__debug__" : Str)) = false := by decide)
    (hcell : ∀ y ∈ sc.names, y.2 ≠ .cell := by decide) (hkind : sc.kind = .function := by rfl)
    (hnames : ∀ y ∈ sc.names, y.2 = .local → sc.names.lookup y.1 = some .local := by decide) (hx : sc.names.lookup x = some .local := by rfl)
    (hs : ∀ x, foldedSetIterable (.Name it ip) env x = pure x := by intro _; rfl) (hmk : behindInMarks op (.Name fr fp) = false := by with_unfolding_all rfl) :
    wpAny (model prog w) A (eval (.ListComp (.Name x ep) [⟨.Name x px, .Name it ip, [.Compare (.Name x cp) [op] [.Name fr fp] cp'], 0⟩] sc pos) env) Q E s := by
  refine wpAny_ListComp_free (itemP ti c) (fun v y => y = v) hclos hcell hkind hnames hx (hev ?_) hs
  have hl : s.heap.IsList ra vs.toArray := ⟨_, hra, rfl, na, rfl⟩
  have hne : ra ≠ s.heap.objs.size := Nat.ne_of_lt (Heap.lt_size hra)
  have hsz : vs.toArray.size = vs.length := by simp
  refine wpAny_pyIter_list hl ?_
  refine ⟨s.heap.objs.size, _, _, _, _, _, rfl, Walks.list hh s.heap.objs.size ra hne vs.toArray, by rw [hsz]; have : sizeLine = sizeLine := rfl; exact Nat.le_trans hz (by decide), ⟨⟨_, Heap.get?_push_size _ rfl, rfl, rfl⟩, hl.at fun o e => Heap.get?_push_of_some _ e⟩, fun b hb => ?_, ⟨?_, ?_⟩, ?_⟩
  · simp only [Heap.size_push]
    rcases List.mem_cons.mp hb with rfl | hb
    · exact Nat.lt_succ_self _
    · rw [List.mem_singleton.mp hb]; exact Nat.lt_succ_of_lt (Heap.lt_size hra)
  · intro C i v s₃ m₃ E' _ hP hn hm hkp _
    have up : ∀ b o, s.heap.get? b = some o → s₃.heap.get? b = some o := fun b o e => hkp b o (by simpa using Nat.ne_of_lt (Heap.lt_size e)) (Heap.get?_push_of_some _ e)
    obtain ⟨k, _, hv⟩ := Ra.get (by simpa using hP : vs[i]? = some v)
    have T₃ : TupIn ti s₃.heap := fun b o e cc => up b o (Ti b o e cc)
    refine wpAny_tests_one (wpAny_isTrue_Compare1 (wpAny_Name (wpAny_loadName_local (by simp [compEnvC, relabel, hkind]) (lookup_relabel_local hx) hn hm ?_) hdb) hmk)
    refine wpAny_Name (wpAny_loadName_cell (by simp [compEnvC, relabel, hkind]) (hfk C) hfc ⟨_, up _ _ hfm, hfd⟩ ?_) hdf
    refine hop T₃ hv (wpAny_truthy_bool ⟨(itemP_eq hv).symm, ?_⟩)
    exact ⟨_, _, rfl, fun _ _ e => e⟩
  · intro C i v s₃ m₃ E' _ hP hp hn hm hkp _
    exact wpAny_Name (wpAny_loadName_local (by simp [compEnvC, relabel, hkind]) (lookup_relabel_local hx) hn hm ⟨rfl, ⟨_, _, rfl, fun _ _ e => e⟩⟩) hdb
  · intro D h' tk ys ws hD hl' hpl hlen hP hF hkp
    have hws : ws = vs := by
      apply List.ext_getElem?
      intro j
      rcases Nat.lt_or_ge j ws.length with q | q
      · have := hP j ws[j] (by simp [q])
        rw [List.getElem?_eq_getElem q, ← this]; simp
      · rw [List.getElem?_eq_none q, List.getElem?_eq_none (by rw [← hsz, ← hlen]; exact q)]
    subst hws
    have hys := paired_eq hF
    obtain ⟨n', hD'⟩ := hpl
    have e : listOf (ws.filter (itemP ti c)).toArray n' = { cls := .type "list", data := .seq ys n' } := by rw [← hys]
    have ch : Chg [] s.heap h' := fun b o _ e => hkp b o (by simpa using Nat.ne_of_lt (Heap.lt_size e)) (Heap.get?_push_of_some _ e)
    have fD : s.heap.get? D = none := Option.eq_none_iff_forall_ne_some.mpr fun o q => by have := Heap.get?_push_of_some { cls := .type "list_iterator", data := .fields #[.ref ra, .int 0 0] } q; rw [hD] at this; cases this
    refine h h' D n' tk _ (frC0 F ch) (News.add (newsC0 N ch) (e ▸ hD') (fun q => ?_) (Option.eq_none_iff_forall_ne_some.mpr fun o q => ?_)) (fun p hp q => ?_) (Ra.filter c) ch
    · obtain ⟨o, _, _, ho, _⟩ := F.ns; rw [← q, fD] at ho; cases ho
    · have := F.keep _ _ q; rw [fD] at this; cases this
    · have := (N p hp).1; rw [show p.1 = D from q, fD] at this; cases this
end
section
variable {prog : Program} {w : World} {A A₀ : Around} {E : Value → Shared → Prop} {s s' : Shared} {base g g' G h h' : Heap} {outer frs : List Env} {L a e : Addr} {m : Str → Option Value} {name : Str} {scope : Scope} {cd : Value} {D : List Addr}
variable {b₀ : Stmt} {suite : List Stmt} {pos np : Pos} {rest : List ExceptHandler} {Q : Flow → Shared → Prop} {mean : ExcName → Option Value} {mg mb : Str → Option Value} {x : Str} {X T' : String}
/-- the same in a frame with cells -/
theorem caught_flyX (R : Flies base G (envOfC name scope L a cd :: outer) e X s'.heap) (F : Fr g L G m) (K : Below A₀ base outer g) (XB : (hd.heap_39 w.params).In base) (TB : Top hd.view_39 (looseW hd.view_39 []) mean mg mb base)
    (ex : nsIn (hd.heap_39 w.params) mainGlobals x = some none) (hv : bootBuiltins x = some (.type T')) (hn' : x ≠ "__name__")
    (hexc : isSubtype (.type T') (.type "BaseException") = pure true) (hnt : isSubtype (.type ((Manifest.find? T').elim "type" fun y => y.metatype)) (.type "tuple") = pure false) (hsub : isSubtype (.type X) (.type T') = pure true)
    (k : ∀ h' g', KtsTurn (outer.filterMap (·.frame)) g g' → Fr g' L h' m → Below A₀ base outer g' → (hd.heap_39 w.params).In g' → Top hd.view_39 (looseW hd.view_39 []) mean mg mb g' → (∀ news, News g L G news → News g' L h' news) →
      wpAny (model prog w) ((A₀.deeper (envOfC name scope L a cd)).mark (some (.ref e))) (execs (b₀ :: suite) (envOfC name scope L a cd)) Q E { s' with heap := h' })
    (hk : scope.kind = .function := by rfl) (hx : (envOfC name scope L a cd).kindOf x = some .globalImplicit := by rfl) (hd : (x == ("__debug__" : Str)) = false := by decide)
    (hE : PassesOwnAt (model prog w) ((A₀.deeper (envOfC name scope L a cd)).mark (some (.ref e))) (A₀.deeper (envOfC name scope L a cd)) (envOfC name scope L a cd) E := by passes_own) :
    wpAny (model prog w) (A₀.deeper (envOfC name scope L a cd)) (noteFrame (.ref e) (envOfC name scope L a cd))
      (fun _ s₂ => wpAny (model prog w) (A₀.deeper (envOfC name scope L a cd)) (setFlight (.ref e) none) (fun _ s₃ =>
        wpAny (model prog w) (A₀.deeper (envOfC name scope L a cd)) (handleBy (.ref e) (envOfC name scope L a cd) (.ExceptHandler (some (.Name x np)) none (b₀ :: suite) pos :: rest)) Q E s₃) E s₂) E s' := by
  obtain ⟨⟨B, a0, hB, hBG, hl, hfl⟩, hsm⟩ := R
  refine wpAny_looks_onW (Around.frames_deeper K.stack) rfl hfl fun h₄ hheld₄ hsm₄ => ?_
  refine wpAny_landsW hheld₄ fun h₅ hheld hsm₅' => ?_
  have hsm₅ := hsm₄.trans hsm₅'
  obtain ⟨g₅, T₅, F₅, K₅⟩ := kts_ground (name := name) (scope := scope) (cd := cd) (a := a) K F hBG hheld.1 (hsm.trans hsm₅)
  have X₅ := XB.keeps K₅.stays
  have P₅ := topRead_of (TB.keeps K₅.stays)
  obtain ⟨ob, hob, hobc⟩ := hheld.there
  refine wpAny_handleBy_builtin (X := X) (T := T') (b := true) hexc hnt hsub (nameX_B F₅ X₅ P₅ ex hv hn' ⟨rfl, ⟨ob, hob, hobc⟩, ?_⟩ hk hx hd)
  refine lands_againW hheld fun h₆ hfl₆ hsm₆ => ?_
  obtain ⟨g₆, T₆, F₆, K₆⟩ := kts_ground (name := name) (scope := scope) (cd := cd) (a := a) K F hBG hfl₆.1 ((hsm.trans hsm₅).trans hsm₆)
  exact wpAny_passesOwnAt hE (k h₆ g₆ T₆ F₆ K₆ (XB.keeps K₆.stays) (TB.keeps K₆.stays) fun news N p hp => ⟨hfl₆.1 _ _ (hBG _ _ (N p hp).1 fun hm => by
    rcases kts_memX (env := envOfC name scope L a cd) rfl hm with z | z
    · exact (N p hp).2.1 z
    · obtain ⟨_, o, ho, _⟩ := K.frames.mem z
      rw [(N p hp).2.2] at ho; cases ho), (N p hp).2.1, T₆.none_ _ (N p hp).2.2⟩)
end

section
variable {prog : Program} {w : World} {A : Around} {E : Value → Shared → Prop} {s : Shared} {ti : Heap} {u v : Value} {i j : Fin 9} {Q : Value → Shared → Prop}
theorem ne_item (Ti : TupIn ti s.heap) (x : ItemAt ti u i) (y : ItemAt ti v j) (hu : A.units + 2 < cLine) (h : Q (.bool (!decide (i = j))) s) : wpAny (model prog w) A (compareOp .NotEq u v) Q E s := by
  obtain ⟨as, ra⟩ := Ti.item x
  obtain ⟨bs, rb⟩ := Ti.item y
  refine SeqAt.compareNe_reads ra rb (dat_lay _) (dat_lay _) ?_ (by rw [dat_eqv]; exact h)
  have := Nat.min_le_left (dat i).depth (dat j).depth
  have := dat_depth i
  omega
end
end
end Mine
namespace Mine
open PySem PySem.W PySem.Calls PyProof.Rows
set_option hygiene false in
local macro_rules | `(tactic| k_inst) => `(tactic| (refine' InstAt.of_g ?F ?a ?b; (case F => k_asm); (case a => first | assumption | exact Reads1.gx (by assumption)); (case b => first | assumption | exact Reads1.gdx (by assumption))))
set_option hygiene false in
local macro_rules | `(tactic| k_units) => `(tactic| exact Room.units (Room.deeper (Cx.room (by assumption))))
set_option hygiene false in
local macro_rules | `(tactic| walk_at "compareOp NotIn") => `(tactic| (k_here; (with_reducible show wpAny _ _ (compareOp CmpOp.NotIn _ (Value.ref _)) _ _ _); refine' notIn_K ?T ?m ?B ?v ?u ?_; (case T => exact TupIn.up (by assumption) (by k_asm)); (case m => first | exact News.get (by k_asm) (by k_mem) | exact Fr.keep (by k_asm) _ _ (Reads1.gd (by assumption))); (case B => first | assumption | exact Reads1.bd (by assumption)); (case v => assumption); (case u => k_units); intro tk'))
set_option hygiene false in
local macro_rules | `(tactic| walk_at "compareOp In") => `(tactic| (k_here; (with_reducible show wpAny _ _ (compareOp CmpOp.In _ (Value.ref _)) _ _ _); refine' in_K' ?T ?m ?B ?v ?u ?_; (case T => exact TupIn.up (by assumption) (by k_asm)); (case m => first | exact News.get (by k_asm) (by k_mem) | exact Fr.keep (by k_asm) _ _ (Reads1.gd (by assumption))); (case B => first | assumption | exact Reads1.bd (by assumption)); (case v => assumption); (case u => k_units); intro tk'))
set_option hygiene false in
local macro_rules | `(tactic| walk_at "setItem ref") => `(tactic| (k_here; (with_reducible show wpAny _ _ (setItem (Value.ref _) _ Value.none) _ _ _); refine' setItem_K' ?T ?F ?N ?U ?x ?v ?u ?_; (case T => exact TupIn.up (by assumption) (by k_asm)); (case F => k_asm); (case N => k_asm); (case U => k_updF); (case x => assumption); (case v => assumption); (case u => k_units); intro h' es' n' tk' F' N' x'; (try dsimp only at N'); (try k_sweep)))
set_option hygiene false in
local macro_rules | `(tactic| walk_at "call builtin:dict.pop") => `(tactic| (k_here; (with_reducible show wpAny _ _ (call (Value.builtin "dict.pop") [Value.ref _, _, Value.none]) _ _ _); refine' pop_K' ?T ?F ?N ?U ?x ?v ?u ?_; (case T => exact TupIn.up (by assumption) (by k_asm)); (case F => k_asm); (case N => k_asm); (case U => k_updF); (case x => assumption); (case v => assumption); (case u => k_units); intro h' es' n' tk' F' N' x'; (try dsimp only at N'); (try k_sweep)))
set_option hygiene false in
local macro_rules | `(tactic| walk_at "call builtin:dict.clear") => `(tactic| (k_here; (with_reducible show wpAny _ _ (call (Value.builtin "dict.clear") [Value.ref _]) _ _ _); refine' clear_K' ?T ?F ?N ?U ?x ?_; (case T => exact TupIn.up (by assumption) (by k_asm)); (case F => k_asm); (case N => k_asm); (case U => k_updF); (case x => assumption); intro h' es' n' F' N' x'; (try dsimp only at N'); (try k_sweep)))
set_option hygiene false in
local macro_rules | `(tactic| walk_at "getMethod ref") => `(tactic| (k_here; (with_reducible show wpAny _ _ (getMethod (Value.ref _) (PySem.Str.ofString "pop") _) _ _ _); refine' dictMethod_M ?m PySem.F.slot_dict_pop PySem.F.type_dict_pop ?_; (case m => first | exact News.get (by k_asm) (by k_mem) | exact Fr.keep (by k_asm) _ _ (Reads1.gd (by assumption)))))
set_option hygiene false in
local macro_rules | `(tactic| walk_at "getMethod ref") => `(tactic| (k_here; (with_reducible show wpAny _ _ (getMethod (Value.ref _) (PySem.Str.ofString "popitem") _) _ _ _); refine' dictMethod_M ?m PySem.F.slot_dict_popitem PySem.F.type_dict_popitem ?_; (case m => first | exact News.get (by k_asm) (by k_mem) | exact Fr.keep (by k_asm) _ _ (Reads1.gd (by assumption)))))
set_option hygiene false in
local macro_rules | `(tactic| walk_at "getMethod ref") => `(tactic| (k_here; (with_reducible show wpAny _ _ (getMethod (Value.ref _) (PySem.Str.ofString "clear") _) _ _ _); refine' dictMethod_M ?m PySem.F.slot_dict_clear PySem.F.type_dict_clear ?_; (case m => first | exact News.get (by k_asm) (by k_mem) | exact Fr.keep (by k_asm) _ _ (Reads1.gd (by assumption)))))
set_option hygiene false in
local macro_rules | `(tactic| walk_at "call type:dict nil nil") => `(tactic| (k_here; refine' newDict_M ?F ?N ?T ?_; (case F => k_asm); (case N => k_asm); (case T => exact (by assumption : Top _ _ _ _ _ _).nolimit); intro d' h' F' N' l1 l2 lo'; (try k_lt l1); (try k_sweep)))
set_option hygiene false in
local macro_rules | `(tactic| walk_at "call ref") => `(tactic| (k_here; (with_reducible show wpAny _ _ (call (Value.ref 275) _ _) _ _ _); (try dsimp only [List.nil_append, List.cons_append]); refine' new0_K ?C ?B ?T ?X ?F ?N ?_; (case T => exact TupIn.up (by assumption) (by k_asm)); (case C => assumption); (case B => assumption); (case X => assumption); (case F => k_asm); (case N => k_asm); intro h' x' dx' d' t' n' ep' tk' F' N' off' e1' e2' e3' Bd'; (try simp only [List.mem_cons, List.not_mem_nil, or_false, forall_eq_or_imp, forall_eq, false_implies, implies_true] at off'); (try k_sweep)))
set_option hygiene false in
local macro_rules | `(tactic| walk_at "call ref") => `(tactic| (k_here; (with_reducible show wpAny _ _ (call (Value.ref 36) _ _) _ _ _); (try dsimp only [List.nil_append, List.cons_append]); refine' add_K ?C ?B ?F ?N ?U ?T ?x ?dx ?b ?v ?_; (case C => assumption); (case B => assumption); (case F => k_asm); (case N => k_asm); (case x => first | exact News.get (by k_asm) (by k_mem) | exact Fr.keep (by k_asm) _ _ (by assumption)); (case dx => first | exact News.get (by k_asm) (by k_mem) | exact Fr.keep (by k_asm) _ _ (by assumption)); (case U => k_updF); (case T => exact TupIn.up (by assumption) (by k_asm)); (case b => assumption); (case v => assumption); intro h' es' n' tk' F' N' x'; (try dsimp only at N'); (try k_sweep)))
set_option hygiene false in
local macro_rules | `(tactic| walk_at "call builtin:iter") => `(tactic| (k_here; (with_reducible show wpAny _ _ (call (Value.builtin "iter") [Value.ref _]) _ _ _); refine' iter_M ?F ?N ?m ?l ?_; (case F => k_asm); (case N => k_asm); (case m => first | exact News.get (by k_asm) (by k_mem) | exact Fr.keep (by k_asm) _ _ (Reads1.gd (by assumption))); (case l => first | exact Bears.lo (by assumption) | exact Bears.lo (Reads1.bd (by assumption))); intro I' h' F' N' off'; (try k_sweep)))
set_option hygiene false in
local macro_rules | `(tactic| walk_at "exec For Name Name cons nil") => `(tactic| (k_here; (with_reducible rename Fr _ _ _ _ => lF'); (with_unfolding_all refine' For_invVF lF' ?k1 ?k2 ?_; (case k1 => exact rfl); (case k2 => exact rfl); k_whole)))
set_option hygiene false in
local macro_rules | `(tactic| walk_at "compareOp Is ref ref") => `(tactic| (k_here; first | with_reducible refine is_self_M ?_ | (refine' is_other_M ?n ?x ?y ?_; (case n => first | assumption | exact Ne.symm (by assumption)); (case x => first | exact News.get (by k_asm) (by k_mem) | exact Fr.keep (by k_asm) _ _ (by first | assumption | exact Reads1.gx (by assumption))); (case y => first | exact News.get (by k_asm) (by k_mem) | exact Fr.keep (by k_asm) _ _ (by first | assumption | exact Reads1.gx (by assumption))))))
set_option hygiene false in
local macro_rules | `(tactic| walk_at "call ref") => `(tactic| (k_here; (with_reducible show wpAny _ _ (call (Value.ref 50) _ _) _ _ _); (try dsimp only [List.nil_append, List.cons_append]); refine' discard_K ?C ?B ?F ?N ?U ?T ?x ?dx ?b ?v ?_; (case C => assumption); (case B => assumption); (case F => k_asm); (case N => k_asm); (case x => first | exact News.get (by k_asm) (by k_mem) | exact Fr.keep (by k_asm) _ _ (by assumption)); (case dx => first | exact News.get (by k_asm) (by k_mem) | exact Fr.keep (by k_asm) _ _ (by assumption)); (case U => k_updF); (case T => exact TupIn.up (by assumption) (by k_asm)); (case b => assumption); (case v => assumption); intro h' es' n' tk' F' N' x'; (try dsimp only at N'); (try k_sweep)))
set_option hygiene false in
local macro_rules | `(tactic| walk_at "compareOp NotIn") => `(tactic| (k_here; (with_reducible show wpAny _ _ (compareOp CmpOp.NotIn _ (Value.ref _)) _ _ _); refine' notIn_set ?C ?B ?X ?T ?F ?N ?Rx ?v ?_; (case Rx => assumption); (case C => assumption); (case B => assumption); (case X => assumption); (case T => assumption); (case F => k_asm); (case N => k_asm); (case v => assumption); intro h' tk' F' N'; (try k_sweep)))
set_option hygiene false in
local macro_rules | `(tactic| walk_at "delItem ref") => `(tactic| (k_here; (with_reducible show wpAny _ _ (delItem (Value.ref _) _) _ _ _); refine' delItem_K' ?hh ?T ?F ?N ?U ?x ?v ?u (fun hk => absurd ?m hk) ?_; (case hh => (rename Cx _ _ _ _ _ _ _ _ _ => cX; exact cX.handled)); (case T => exact TupIn.up (by assumption) (by k_asm)); (case F => k_asm); (case N => k_asm); (case U => k_updF); (case x => assumption); (case v => assumption); (case u => k_units); (case m => assumption); intro hk h' es' n' tk' F' N' x'; (try dsimp only at N'); (try k_sweep)))
set_option hygiene false in
local macro_rules | `(tactic| walk_at "call type:list") => `(tactic| (k_here; (with_reducible show wpAny _ _ (call (Value.type _) [Value.ref _]) _ _ _); refine' listM_K ?hh ?F ?N ?m ?B ?_; (case hh => (rename Cx _ _ _ _ _ _ _ _ _ => cX; exact cX.handled)); (case F => k_asm); (case N => k_asm); (case m => first | exact News.get (by k_asm) (by k_mem) | exact Fr.keep (by k_asm) _ _ (Reads1.gd (by assumption))); (case B => first | assumption | exact Reads1.bd (by assumption)); intro D' c' h' tk' F' N' l1; (try k_lt l1); (try k_sweep)))
set_option hygiene false in
local macro_rules | `(tactic| walk_at "delItem ref") => `(tactic| (k_here; (with_reducible show wpAny _ _ (delItem (Value.ref _) _) _ _ _); refine' delItem_K' ?hh ?T ?F ?N ?U ?x ?v ?u ?_ (fun hk => absurd hk ?m); (case hh => (rename Cx _ _ _ _ _ _ _ _ _ => cX; exact cX.handled)); (case T => exact TupIn.up (by assumption) (by k_asm)); (case F => k_asm); (case N => k_asm); (case U => k_updF); (case x => assumption); (case v => assumption); (case u => k_units); (case m => assumption); intro hk h' e' tk' NE'))
set_option hygiene false in
local macro_rules | `(tactic| walk_at "call ref") => `(tactic| (k_here; (with_reducible show wpAny _ _ (call (Value.ref 64) _ _) _ _ _); (try dsimp only [List.nil_append, List.cons_append]); refine' clone_K ?C ?B ?F ?N ?T ?S ?_; (case C => assumption); (case B => assumption); (case F => k_asm); (case N => k_asm); (case T => exact TupIn.up (by assumption) (by k_asm)); (case S => first | exact Reads1.set1 (by assumption) (by k_asm) | exact setIs_new (by k_asm) (by k_mem) (by k_mem) (by k_mem) (by assumption) | exact setIs_of (by k_asm) (by k_asm) (by assumption) (by assumption) (by k_mem) (by assumption)); intro h' x' dx' d' t' n' es' ep' tk' F' N' off' e1' e2' e3' Bd'; (try simp only [List.mem_cons, List.not_mem_nil, or_false, forall_eq_or_imp, forall_eq, false_implies, implies_true] at off'); (try k_sweep)))
set_option hygiene false in
local macro_rules | `(tactic| walk_at "call ref") => `(tactic| (k_here; (with_reducible show wpAny _ _ (call (Value.ref 78) _ _) _ _ _); (try dsimp only [List.nil_append, List.cons_append]); refine' union_update_K ?C ?B ?F ?N ?U ?T ?x ?dx ?b ?S' ?ne ?nd ?_; (case C => assumption); (case B => assumption); (case F => k_asm); (case N => k_asm); (case T => exact TupIn.up (by assumption) (by k_asm)); (case x => first | exact News.get (by k_asm) (by k_mem) | exact Fr.keep (by k_asm) _ _ (by assumption)); (case dx => first | exact News.get (by k_asm) (by k_mem) | exact Fr.keep (by k_asm) _ _ (by assumption)); (case U => k_updF); (case b => assumption); (case S' => first | exact Reads1.set1 (by assumption) (by k_asm) | exact setIs_new (by k_asm) (by k_mem) (by k_mem) (by k_mem) (by assumption) | exact setIs_of (by k_asm) (by k_asm) (by assumption) (by assumption) (by k_mem) (by assumption)); (case ne => first | assumption | exact ne_ng (by k_asm) (by k_mem) (Reads1.gx (by assumption)) | exact ne_ng (by k_asm) (by k_mem) (by assumption) | exact Ne.symm (ne_ng (by k_asm) (by k_mem) (by assumption)) | (show @Ne Nat _ _; omega)); (case nd => first | assumption | exact ne_ng (by k_asm) (by k_mem) (Reads1.gd (by assumption)) | exact ne_ng (by k_asm) (by k_mem) (by assumption) | (show @Ne Nat _ _; omega)); intro h' es' n' tk' F' N' x'; (try dsimp only at N'); (try k_sweep)))
set_option hygiene false in
local macro_rules | `(tactic| walk_at "call ref") => `(tactic| (k_here; (with_reducible show wpAny _ _ (call (Value.ref 85) _ _) _ _ _); (try dsimp only [List.nil_append, List.cons_append]); refine' intersection_update_K ?C ?B ?F ?N ?U ?T ?x ?dx ?b ?S' ?ne ?nd ?_; (case C => assumption); (case B => assumption); (case F => k_asm); (case N => k_asm); (case T => exact TupIn.up (by assumption) (by k_asm)); (case x => first | exact News.get (by k_asm) (by k_mem) | exact Fr.keep (by k_asm) _ _ (by assumption)); (case dx => first | exact News.get (by k_asm) (by k_mem) | exact Fr.keep (by k_asm) _ _ (by assumption)); (case U => k_updF); (case b => assumption); (case S' => first | exact Reads1.set1 (by assumption) (by k_asm) | exact setIs_new (by k_asm) (by k_mem) (by k_mem) (by k_mem) (by assumption) | exact setIs_of (by k_asm) (by k_asm) (by assumption) (by assumption) (by k_mem) (by assumption)); (case ne => first | assumption | exact ne_ng (by k_asm) (by k_mem) (Reads1.gx (by assumption)) | exact ne_ng (by k_asm) (by k_mem) (by assumption) | exact Ne.symm (ne_ng (by k_asm) (by k_mem) (by assumption)) | (show @Ne Nat _ _; omega)); (case nd => first | assumption | exact ne_ng (by k_asm) (by k_mem) (Reads1.gd (by assumption)) | exact ne_ng (by k_asm) (by k_mem) (by assumption) | (show @Ne Nat _ _; omega)); intro h' es' n' tk' F' N' x'; (try dsimp only at N'); (try k_sweep)))
set_option hygiene false in
local macro_rules | `(tactic| walk_at "call ref") => `(tactic| (k_here; (with_reducible show wpAny _ _ (call (Value.ref 92) _ _) _ _ _); (try dsimp only [List.nil_append, List.cons_append]); refine' difference_update_K ?C ?B ?F ?N ?U ?T ?x ?dx ?b ?S' ?ne ?nd ?_; (case C => assumption); (case B => assumption); (case F => k_asm); (case N => k_asm); (case T => exact TupIn.up (by assumption) (by k_asm)); (case x => first | exact News.get (by k_asm) (by k_mem) | exact Fr.keep (by k_asm) _ _ (by assumption)); (case dx => first | exact News.get (by k_asm) (by k_mem) | exact Fr.keep (by k_asm) _ _ (by assumption)); (case U => k_updF); (case b => assumption); (case S' => first | exact Reads1.set1 (by assumption) (by k_asm) | exact setIs_new (by k_asm) (by k_mem) (by k_mem) (by k_mem) (by assumption) | exact setIs_of (by k_asm) (by k_asm) (by assumption) (by assumption) (by k_mem) (by assumption)); (case ne => first | assumption | exact ne_ng (by k_asm) (by k_mem) (Reads1.gx (by assumption)) | exact ne_ng (by k_asm) (by k_mem) (by assumption) | exact Ne.symm (ne_ng (by k_asm) (by k_mem) (by assumption)) | (show @Ne Nat _ _; omega)); (case nd => first | assumption | exact ne_ng (by k_asm) (by k_mem) (Reads1.gd (by assumption)) | exact ne_ng (by k_asm) (by k_mem) (by assumption) | (show @Ne Nat _ _; omega)); intro h' es' n' tk' F' N' x'; (try dsimp only at N'); (try k_sweep)))
set_option hygiene false in
local macro_rules | `(tactic| walk_at "call ref") => `(tactic| (k_here; (with_reducible show wpAny _ _ (call (Value.ref 106) _ _) _ _ _); (try dsimp only [List.nil_append, List.cons_append]); refine' union_K ?C ?B ?F ?N ?T ?S ?S' ?_; (case C => assumption); (case B => assumption); (case F => k_asm); (case N => k_asm); (case T => exact TupIn.up (by assumption) (by k_asm)); (case S => first | exact Reads1.set1 (by assumption) (by k_asm) | exact setIs_new (by k_asm) (by k_mem) (by k_mem) (by k_mem) (by assumption) | exact setIs_of (by k_asm) (by k_asm) (by assumption) (by assumption) (by k_mem) (by assumption)); (case S' => first | exact Reads1.set1 (by assumption) (by k_asm) | exact setIs_new (by k_asm) (by k_mem) (by k_mem) (by k_mem) (by assumption) | exact setIs_of (by k_asm) (by k_asm) (by assumption) (by assumption) (by k_mem) (by assumption)); intro h' x' dx' d' t' n' es' ep' tk' F' N' off' e1' e2' e3' Bd'; (try simp only [List.mem_cons, List.not_mem_nil, or_false, forall_eq_or_imp, forall_eq, false_implies, implies_true] at off'); (try k_sweep)))
set_option hygiene false in
local macro_rules | `(tactic| walk_at "call ref") => `(tactic| (k_here; (with_reducible show wpAny _ _ (call (Value.ref 113) _ _) _ _ _); (try dsimp only [List.nil_append, List.cons_append]); refine' intersection_K ?C ?B ?F ?N ?T ?S ?S' ?_; (case C => assumption); (case B => assumption); (case F => k_asm); (case N => k_asm); (case T => exact TupIn.up (by assumption) (by k_asm)); (case S => first | exact Reads1.set1 (by assumption) (by k_asm) | exact setIs_new (by k_asm) (by k_mem) (by k_mem) (by k_mem) (by assumption) | exact setIs_of (by k_asm) (by k_asm) (by assumption) (by assumption) (by k_mem) (by assumption)); (case S' => first | exact Reads1.set1 (by assumption) (by k_asm) | exact setIs_new (by k_asm) (by k_mem) (by k_mem) (by k_mem) (by assumption) | exact setIs_of (by k_asm) (by k_asm) (by assumption) (by assumption) (by k_mem) (by assumption)); intro h' x' dx' d' t' n' es' ep' tk' F' N' off' e1' e2' e3' Bd'; (try simp only [List.mem_cons, List.not_mem_nil, or_false, forall_eq_or_imp, forall_eq, false_implies, implies_true] at off'); (try k_sweep)))
set_option hygiene false in
local macro_rules | `(tactic| walk_at "call ref") => `(tactic| (k_here; (with_reducible show wpAny _ _ (call (Value.ref 120) _ _) _ _ _); (try dsimp only [List.nil_append, List.cons_append]); refine' difference_K ?C ?B ?F ?N ?T ?S ?S' ?_; (case C => assumption); (case B => assumption); (case F => k_asm); (case N => k_asm); (case T => exact TupIn.up (by assumption) (by k_asm)); (case S => first | exact Reads1.set1 (by assumption) (by k_asm) | exact setIs_new (by k_asm) (by k_mem) (by k_mem) (by k_mem) (by assumption) | exact setIs_of (by k_asm) (by k_asm) (by assumption) (by assumption) (by k_mem) (by assumption)); (case S' => first | exact Reads1.set1 (by assumption) (by k_asm) | exact setIs_new (by k_asm) (by k_mem) (by k_mem) (by k_mem) (by assumption) | exact setIs_of (by k_asm) (by k_asm) (by assumption) (by assumption) (by k_mem) (by assumption)); intro h' x' dx' d' t' n' es' ep' tk' F' N' off' e1' e2' e3' Bd'; (try simp only [List.mem_cons, List.not_mem_nil, or_false, forall_eq_or_imp, forall_eq, false_implies, implies_true] at off'); (try k_sweep)))
set_option hygiene false in
local macro_rules | `(tactic| walk_at "call ref") => `(tactic| (k_here; (with_reducible show wpAny _ _ (call (Value.ref 99) _ _) _ _ _); (try dsimp only [List.nil_append, List.cons_append]); refine' symmetric_difference_update_K ?C ?B ?F ?N ?U ?T ?x ?dx ?b ?S' ?ne ?nd ?_; (case C => assumption); (case B => assumption); (case F => k_asm); (case N => k_asm); (case T => exact TupIn.up (by assumption) (by k_asm)); (case x => first | exact News.get (by k_asm) (by k_mem) | exact Fr.keep (by k_asm) _ _ (by assumption)); (case dx => first | exact News.get (by k_asm) (by k_mem) | exact Fr.keep (by k_asm) _ _ (by assumption)); (case U => k_updF); (case b => assumption); (case S' => first | exact Reads1.set1 (by assumption) (by k_asm) | exact setIs_new (by k_asm) (by k_mem) (by k_mem) (by k_mem) (by assumption) | exact setIs_of (by k_asm) (by k_asm) (by assumption) (by assumption) (by k_mem) (by assumption)); (case ne => first | assumption | exact ne_ng (by k_asm) (by k_mem) (Reads1.gx (by assumption)) | exact ne_ng (by k_asm) (by k_mem) (by assumption) | exact Ne.symm (ne_ng (by k_asm) (by k_mem) (by assumption)) | (show @Ne Nat _ _; omega)); (case nd => first | assumption | exact ne_ng (by k_asm) (by k_mem) (Reads1.gd (by assumption)) | exact ne_ng (by k_asm) (by k_mem) (by assumption) | (show @Ne Nat _ _; omega)); intro h' es' n' tk' F' N' x'; (try dsimp only at N'); (try k_sweep)))
set_option hygiene false in
local macro_rules | `(tactic| walk_at "call ref") => `(tactic| (k_here; (with_reducible show wpAny _ _ (call (Value.ref 127) _ _) _ _ _); (try dsimp only [List.nil_append, List.cons_append]); refine' symmetric_difference_K ?C ?B ?F ?N ?T ?S ?S' ?_; (case C => assumption); (case B => assumption); (case F => k_asm); (case N => k_asm); (case T => exact TupIn.up (by assumption) (by k_asm)); (case S => first | exact Reads1.set1 (by assumption) (by k_asm) | exact setIs_new (by k_asm) (by k_mem) (by k_mem) (by k_mem) (by assumption) | exact setIs_of (by k_asm) (by k_asm) (by assumption) (by assumption) (by k_mem) (by assumption)); (case S' => first | exact Reads1.set1 (by assumption) (by k_asm) | exact setIs_new (by k_asm) (by k_mem) (by k_mem) (by k_mem) (by assumption) | exact setIs_of (by k_asm) (by k_asm) (by assumption) (by assumption) (by k_mem) (by assumption)); intro h' x' dx' d' t' n' es' ep' tk' F' N' off' e1' e2' e3' Bd'; (try simp only [List.mem_cons, List.not_mem_nil, or_false, forall_eq_or_imp, forall_eq, false_implies, implies_true] at off'); (try k_sweep)))
set_option hygiene false in
local macro_rules | `(tactic| walk_at "call ref") => `(tactic| (k_here; (with_reducible show wpAny _ _ (call (Value.ref 78) _ _) _ _ _); (try dsimp only [List.nil_append, List.cons_append]); refine' union_update_self_K ?C ?B ?F ?N ?U ?T ?x ?dx ?b ?_; (case C => assumption); (case B => assumption); (case F => k_asm); (case N => k_asm); (case T => exact TupIn.up (by assumption) (by k_asm)); (case x => first | exact News.get (by k_asm) (by k_mem) | exact Fr.keep (by k_asm) _ _ (by assumption)); (case dx => first | exact News.get (by k_asm) (by k_mem) | exact Fr.keep (by k_asm) _ _ (by assumption)); (case U => k_updF); (case b => assumption);  intro h' es' n' tk' F' N' x'; (try dsimp only at N'); (try k_sweep)))
set_option hygiene false in
local macro_rules | `(tactic| walk_at "call ref") => `(tactic| (k_here; (with_reducible show wpAny _ _ (call (Value.ref 85) _ _) _ _ _); (try dsimp only [List.nil_append, List.cons_append]); refine' intersection_update_self_K ?C ?B ?F ?N ?U ?T ?x ?dx ?b ?_; (case C => assumption); (case B => assumption); (case F => k_asm); (case N => k_asm); (case T => exact TupIn.up (by assumption) (by k_asm)); (case x => first | exact News.get (by k_asm) (by k_mem) | exact Fr.keep (by k_asm) _ _ (by assumption)); (case dx => first | exact News.get (by k_asm) (by k_mem) | exact Fr.keep (by k_asm) _ _ (by assumption)); (case U => k_updF); (case b => assumption);  intro h' es' n' tk' F' N' x'; (try dsimp only at N'); (try k_sweep)))
set_option hygiene false in
local macro_rules | `(tactic| walk_at "call ref") => `(tactic| (k_here; (with_reducible show wpAny _ _ (call (Value.ref 92) _ _) _ _ _); (try dsimp only [List.nil_append, List.cons_append]); refine' difference_update_self_K ?C ?B ?F ?N ?U ?T ?x ?dx ?b ?_; (case C => assumption); (case B => assumption); (case F => k_asm); (case N => k_asm); (case T => exact TupIn.up (by assumption) (by k_asm)); (case x => first | exact News.get (by k_asm) (by k_mem) | exact Fr.keep (by k_asm) _ _ (by assumption)); (case dx => first | exact News.get (by k_asm) (by k_mem) | exact Fr.keep (by k_asm) _ _ (by assumption)); (case U => k_updF); (case b => assumption);  intro h' es' n' tk' F' N' x'; (try dsimp only at N'); (try k_sweep)))
set_option hygiene false in
local macro_rules | `(tactic| walk_at "call ref") => `(tactic| (k_here; (with_reducible show wpAny _ _ (call (Value.ref 99) _ _) _ _ _); (try dsimp only [List.nil_append, List.cons_append]); refine' symmetric_difference_update_self_K ?C ?B ?F ?N ?U ?T ?x ?dx ?b ?_; (case C => assumption); (case B => assumption); (case F => k_asm); (case N => k_asm); (case T => exact TupIn.up (by assumption) (by k_asm)); (case x => first | exact News.get (by k_asm) (by k_mem) | exact Fr.keep (by k_asm) _ _ (by assumption)); (case dx => first | exact News.get (by k_asm) (by k_mem) | exact Fr.keep (by k_asm) _ _ (by assumption)); (case U => k_updF); (case b => assumption);  intro h' es' n' tk' F' N' x'; (try dsimp only at N'); (try k_sweep)))
set_option hygiene false in
local macro_rules | `(tactic| walk_at "call builtin:dict.popitem") => `(tactic| (k_here; (with_reducible show wpAny _ _ (call (Value.builtin "dict.popitem") [Value.ref _]) _ _ _); refine' popitem_K ?F ?N ?U ?T ?x ?_; (case T => exact TupIn.up (by assumption) (by k_asm)); (case F => k_asm); (case N => k_asm); (case U => k_updF); (case x => assumption); intro h' es' n' T' v' F' N' l1 x' hv'; (try dsimp only at N' l1); (try k_lt l1); (try k_sweep)))
set_option hygiene false in
local macro_rules | `(tactic| walk_at "call builtin:len") => `(tactic| (k_here; (with_reducible show wpAny _ _ (call (Value.builtin "len") [Value.ref _]) _ _ _); refine' lenM_K ?F ?T ?m ?B ?_; (case F => k_asm); (case T => exact TupIn.up (by assumption) (by k_asm)); (case m => first | exact News.get (by k_asm) (by k_mem) | exact Fr.keep (by k_asm) _ _ (Reads1.gd (by assumption))); (case B => first | assumption | exact Reads1.bd (by assumption)); intro t' tk'))
set_option hygiene false in
local macro_rules | `(tactic| walk_at "assign Tuple") => `(tactic| (k_here; (with_reducible show wpAny _ _ (assign (Expr.Tuple _ _ _) _ (Value.ref _)) _ _ _); refine' unpackN_ ?k1 ?k2 ?k3 ?k4 ?k5 ?k6 ?_; (case k1 => k_asm); (case k2 => k_asm); (case k3 => exact News.isTup (by k_asm) (by k_mem)); (case k4 => (rename Cx _ _ _ _ _ _ _ _ _ => cX; exact cX.handled)); (case k5 => exact rfl); (case k6 => exact rfl); k_whole; intro h' F' N'; (try k_sweep)))
set_option hygiene false in
local macro_rules | `(tactic| walk_at "leaving ref") => `(tactic| (k_here; first
  | (refine' leave_raiseM ?k1 ?k2 (Heap.MadeExc.of (by assumption)) ?_; (case k1 => assumption); (case k2 => assumption); k_whole; intro h' fl')
  | (refine' leave_newM ?k1 ?k2 (by assumption) ?_; (case k1 => assumption); (case k2 => assumption); k_whole; intro h' fl')
  | (refine' leave_onM ?k1 ?k2 (by assumption) ?_; (case k1 => assumption); (case k2 => assumption); k_whole; intro h' fl')))
set_option hygiene false in
local macro_rules | `(tactic| walk_at "call builtin:isinstance") => `(tactic| (k_here; (with_reducible show wpAny _ _ (call _ [Value.ref _, Value.ref 275]) _ _ _); refine' isinst_list ?X ?y ?_; (case X => k_in); (case y => exact Fr.keep (by k_asm) _ _ (by assumption)); k_whole))
set_option hygiene false in
local macro_rules | `(tactic| walk_at "exec Raise some none") => `(tactic| (k_here; (with_reducible show wpAny _ _ (exec (Stmt.Raise (some (Expr.Call (Expr.Name ("ValueError" : Str) _) (_ :: _) [] _)) none _) _) _ _ _); (with_reducible rename Fr _ _ _ _ => kF); refine' Raise_madeB PySem.F.excCall_ValueError PySem.F.excRaise_ValueError ?hh (name_B kF ?k1 ?k2 ?k3 ?k4 ?k5 ⟨rfl, ?_⟩); (case hh => (rename Cx _ _ _ _ _ _ _ _ _ => cX; exact cX.handled)); (case k1 => k_asm); (case k2 => k_asm); (case k3 => k_is); (case k4 => boot_by_name); (case k5 => decide)))
set_option hygiene false in
local macro_rules | `(tactic| walk_at "exec Raise some none") => `(tactic| (k_here; (with_reducible show wpAny _ _ (exec (Stmt.Raise (some (Expr.Call (Expr.Name ("IndexError" : Str) _) (_ :: _) [] _)) none _) _) _ _ _); (with_reducible rename Fr _ _ _ _ => kF); refine' Raise_madeB PySem.F.excCall_IndexError PySem.F.excRaise_IndexError ?hh (name_B kF ?k1 ?k2 ?k3 ?k4 ?k5 ⟨rfl, ?_⟩); (case hh => (rename Cx _ _ _ _ _ _ _ _ _ => cX; exact cX.handled)); (case k1 => k_asm); (case k2 => k_asm); (case k3 => k_is); (case k4 => boot_by_name); (case k5 => decide)))
set_option hygiene false in
local macro_rules | `(tactic| walk_at "call ref") => `(tactic| (k_here; (with_reducible show wpAny _ _ (call (Value.ref 78) _ _) _ _ _); (try dsimp only [List.nil_append, List.cons_append]); refine' union_update_err_K ?C ?B ?F ?T ?y ?_; (case C => assumption); (case B => assumption); (case F => k_asm); (case T => exact TupIn.up (by assumption) (by k_asm)); (case y => exact Fr.keep (by k_asm) _ _ (by assumption)); k_whole; intro h' tk' e' fl'))
set_option hygiene false in
local macro_rules | `(tactic| walk_at "call ref") => `(tactic| (k_here; (with_reducible show wpAny _ _ (call (Value.ref 216) _ _) _ _ _); (try dsimp only [List.nil_append, List.cons_append]); refine' eq_K ?C ?B ?F ?N ?T ?S ?S' ?_; (case C => assumption); (case B => assumption); (case F => k_asm); (case N => k_asm); (case T => exact TupIn.up (by assumption) (by k_asm)); (case S => first | exact Reads1.set1 (by assumption) (by k_asm) | exact setIs_new (by k_asm) (by k_mem) (by k_mem) (by k_mem) (by assumption) | exact setIs_of (by k_asm) (by k_asm) (by assumption) (by assumption) (by k_mem) (by assumption)); (case S' => first | exact Reads1.set1 (by assumption) (by k_asm) | exact setIs_new (by k_asm) (by k_mem) (by k_mem) (by k_mem) (by assumption) | exact setIs_of (by k_asm) (by k_asm) (by assumption) (by assumption) (by k_mem) (by assumption)); intro h' tk' F' N'; (try k_sweep)))
set_option hygiene false in
local macro_rules | `(tactic| walk_at "call ref") => `(tactic| (k_here; (with_reducible show wpAny _ _ (call (Value.ref 106) _ _) _ _ _); (try dsimp only [List.nil_append, List.cons_append]); refine' union_err_L ?C ?B ?F ?T ?S ?y ?_; (case C => assumption); (case B => assumption); (case F => k_asm); (case T => exact TupIn.up (by assumption) (by k_asm)); (case S => first | exact Reads1.set1 (by assumption) (by k_asm) | exact setIs_new (by k_asm) (by k_mem) (by k_mem) (by k_mem) (by assumption) | exact setIs_of (by k_asm) (by k_asm) (by assumption) (by assumption) (by k_mem) (by assumption)); (case y => exact News.get (by k_asm) (by k_mem)); k_whole; intro h' tk' e' fl'))
set_option hygiene false in
local macro_rules | `(tactic| walk_at "call ref") => `(tactic| (k_here; (with_reducible show wpAny _ _ (call (Value.ref 85) _ _) _ _ _); (try dsimp only [List.nil_append, List.cons_append]); refine' intersection_update_err_L ?C ?B ?F ?T ?y ?_; (case C => assumption); (case B => assumption); (case F => k_asm); (case T => exact TupIn.up (by assumption) (by k_asm)); (case y => exact News.get (by k_asm) (by k_mem)); k_whole; intro h' tk' e' fl'))
set_option hygiene false in
local macro_rules | `(tactic| walk_at "call ref") => `(tactic| (k_here; (with_reducible show wpAny _ _ (call (Value.ref 258) _ _) _ _ _); (try dsimp only [List.nil_append, List.cons_append]); refine' issubset_err_L ?C ?B ?F ?T ?y ?_; (case C => assumption); (case B => assumption); (case F => k_asm); (case T => exact TupIn.up (by assumption) (by k_asm)); (case y => exact News.get (by k_asm) (by k_mem)); k_whole; intro h' tk' e' fl'))
set_option hygiene false in
local macro_rules | `(tactic| walk_at "call ref") => `(tactic| (k_here; (with_reducible show wpAny _ _ (call (Value.ref 272) _ _) _ _ _); (try dsimp only [List.nil_append, List.cons_append]); refine' isdisjoint_err_L ?C ?B ?F ?T ?y ?_; (case C => assumption); (case B => assumption); (case F => k_asm); (case T => exact TupIn.up (by assumption) (by k_asm)); (case y => exact News.get (by k_asm) (by k_mem)); k_whole; intro h' tk' e' fl'))
section
open PySem PySem.W PySem.Calls PyProof.Rows
theorem offF38 : True := by
  w_top off
  trivial
section
variable {prog : Program} {w : World} {A : Around} {E : Value → Shared → Prop} {base ti g h h' h₀ : Heap} {frs : List Env} {mean : ExcName → Option Value} {mg mb : Str → Option Value} {s : Shared} {k : Nat}
  {x dx d y dy e f L z dz c : Addr} {l l' l'' : List (Fin 9)} {v : Value} {i : Fin 9} {R : Result → Shared → Prop} {m : Str → Option Value} {news : List (Addr × Obj)} {u : Obj → List (Addr × Obj)} {es : List DictEntry} {n n₁ t ep : Nat}
  {qual : Str} {scope : Scope} {cdv : Value} {Q : Value → Shared → Prop}

theorem ownX {env : Env} (hf : env.frame = some L) (O : Own base frs d) (h : d ≠ L) : Own base (env :: frs) d := ⟨O.1, fun q => by
  rcases kts_memX hf q with z | z
  · exact h z
  · exact O.2 z⟩
theorem use1h {rest : List (Addr × Obj)} (F : Fr g L h m) (N : News g L h ((d, dictOf es n) :: rest)) (off : ∀ p ∈ rest, p.1 ≠ d) (c : Chg [d] h h') (S : SetIs prog w ti h' x dx d l') : ∃ es' n', Fr g L h' m ∧ News g L h' ((d, dictOf es' n') :: rest) ∧ Bears prog w ti d es' l' := by
  have Nd := N _ (.head _)
  obtain ⟨_, _, es', n', hd, Bd⟩ := S
  exact ⟨es', n', Fr.chg F c (fun a ha => by rw [List.mem_singleton.mp ha]; exact ⟨Nd.2.2, Nd.2.1⟩), News.add (News.chg (fun p hp => N p (.tail _ hp)) c fun p hp => by simpa using off p hp) hd Nd.2.1 Nd.2.2, Bd⟩
end
section
variable {prog : Program} {w : World} {A : Around} {E : Value → Shared → Prop} {base ti g h h' h₀ : Heap} {frs : List Env} {mean : ExcName → Option Value} {mg mb : Str → Option Value} {s : Shared} {k : Nat}
  {x dx d y dy e f L z dz c : Addr} {l l' l'' : List (Fin 9)} {v : Value} {i : Fin 9} {R : Result → Shared → Prop} {m : Str → Option Value} {news : List (Addr × Obj)} {u : Obj → List (Addr × Obj)} {es : List DictEntry} {n n₁ t ep : Nat}
  {qual : Str} {scope : Scope} {cdv : Value} {Q : Value → Shared → Prop}

variable {kd : Int} {t₀ : Nat} {rr : Addr}
theorem change_add (C : Cx w A base frs mean mg mb s.heap (k + 8)) (Ti : TupIn ti s.heap) (S : SetIs prog w ti s.heap x dx d l) (O : Own base frs d) (Ra : RowIs ti s.heap rr l) (hv : ItemAt ti v i) (hkd : kd < 3)
    (hR : ∀ h' tk D, ChgS [d] frs s.heap h' → SetIs prog w ti h' x dx d (addL l i) → RowIs ti h' D (addL l i) → (D = rr ∨ s.heap.get? D = none) → R (.ok (.ret (.ref D))) { s with heap := h', toks := tk }) :
    codeAny (model prog w) A (.call (.ref 341) ⟨[.ref x, .ref rr, .int kd t₀, v], []⟩) R s := by
  have ha := nodup_le S.nodup
  have hnd := S.nodup
  obtain ⟨va, na, sra, Ra⟩ := Ra
  have hvl := Ra.length
  obtain ⟨_, ne2, ne3⟩ := S.ne
  have nt := S.noTup Ti
  obtain ⟨hx, ⟨t, n, hdx⟩, es, ep, hd, Bd⟩ := S
  have hrd : rr ≠ d := fun q => by rw [q, hd] at sra; injection sra with sra; injection sra with _ _ sra; cases sra
  refine enterC C [d] (fun a ha => by rw [List.mem_singleton.mp ha]; exact O) (by k_is) (by k_is) (BindsTo.of_eq rfl) rfl (by decide +kernel) fun g L h₁ tk cells hg hn hk1 F N Y hcs B X T => ?_
  have Tg : TupIn ti g := fun b o e c => hg b o (Ti b o e c) (by simpa using nt b o e c)
  have gra := hg _ _ sra (by simpa using hrd)
  have gx := hg _ _ hx (by simpa using ne2)
  have gdx := hg _ _ hdx (by simpa using ne3)
  k_cells Y
  rename_i o1 o2 d1 d2
  replace d1 : o1.data = .cell none := d1
  replace d2 : o2.data = .cell (some v) := d2
  replace F : Fr g L h₁ (fun z => if z = Str.ofString "kind" then some (.int kd t₀) else if z = Str.ofString "row" then some (.ref rr) else if z = Str.ofString "one" then some (.ref x) else none) := F
  replace N : News g L h₁ [(d, dictOf es ep), (L + 1 + 1, o1), (L + 1, o2)] := News.add N (hk1 _ _ hd).1 (Nat.ne_of_lt (hk1 _ _ hd).2) (hn d (by simp))
  have hdL : @LT.lt Nat _ d L := (hk1 _ _ hd).2
  have Od : ∀ {env : Env}, env.frame = some L → Own base (env :: frs) d := fun hf => ownX hf O (Nat.ne_of_lt hdL)
  have offd : ∀ p ∈ [((L + 1 + 1 : Addr), o1), (L + 1, o2)], p.1 ≠ d := fun p hp => by
    simp only [List.mem_cons, List.not_mem_nil, or_false] at hp
    rcases hp with rfl | rfl <;> (show @Ne Nat _ _; omega)
  clear hcs
  k_steps
  refine wpAny_call (add_code (k := k + 5) (C.innerX B F rfl rfl) (Tg.up F) ⟨F.keep _ _ gx, ⟨_, _, F.keep _ _ gdx⟩, _, _, N.get (.head _), Bd⟩ (Od rfl) hv fun h2 tk2 c2 S2 => ?_)
  obtain ⟨es2, n2, F2, N2, Bd2⟩ := use1h F N offd c2 S2
  clear F N
  dsimp only
  k_steps
  refine in_row (ti := ti) (Tg.up F2) ⟨_, _, F2.keep _ _ gra, Ra⟩ hv (Room.units C.room.deeper) ?_
  k_steps
  · have ea : addL l i = l := by rw [addL, if_pos (by assumption)]
    rw [ea] at hR Bd2
    exact hR _ _ _ (ChgS.of (chg_of hg F2)) (setIs_of F2 N2 gx gdx (by k_mem) Bd2) ⟨_, _, F2.keep _ _ gra, Ra⟩ (.inl rfl)
  · have ea : addL l i = l ++ [i] := by rw [addL, if_neg (by assumption)]
    rename News _ _ _ _ => N3
    rename Fr _ _ _ _ => F3
    refine add_lists (ws := [v]) F3 N3 ⟨_, F3.keep _ _ gra, rfl, _, rfl⟩ ⟨_, N3.get (.head _), rfl, _, rfl⟩ (fun h4 F4 N4 => ?_) (by simp only [List.length_cons, List.length_nil]; exact Nat.le_trans (by omega : _ ≤ 400) (by decide))
    dsimp only
    refine hR _ _ _ (ChgS.of (chg_of hg F4)) (setIs_of F4 N4 gx gdx (by k_mem) Bd2) ⟨_, _, N4.get (.head _), ?_⟩ (.inr (Fresh.cons hg N4 (.head _) ?_ (Fresh.nil _) _ (.head _)))
    · rw [ea]; exact Ra.append (.cons hv .nil)
    · simpa using Nat.ne_of_gt (Heap.lt_size (N3 _ (.tail _ (.head _))).1)
end
end
set_option hygiene false in
local macro_rules | `(tactic| walk_at "eval ListComp") => `(tactic| (k_here; (with_reducible show wpAny _ _ (eval (Expr.ListComp _ _ _ _) _) _ _ _); refine stop_ ?_))
set_option hygiene false in
local macro_rules | `(tactic| walk_at "compareOp NotEq ref ref") => `(tactic| (k_here; (with_reducible show wpAny _ _ (compareOp CmpOp.NotEq (Value.ref _) (Value.ref _)) _ _ _); refine stop_ ?_))
set_option hygiene false in
local macro_rules | `(tactic| walk_at "subscriptTail Name Slice ref ref") => `(tactic| (k_here; (with_reducible show wpAny _ _ (subscriptTail _ (PySem.Expr.Slice none none (some _) _) (Value.ref _) (Value.ref _)) _ _ _); refine stop_ ?_))
set_option hygiene false in
local macro_rules | `(tactic| walk_at "exec Try") => `(tactic| ((with_reducible show wpAny _ _ (exec (Stmt.Try _ (_ :: _) _ [] _) (envOfC _ _ _ _ _)) _ _ _); refine wpAny_Try_except ?_))
set_option hygiene false in
local macro_rules | `(tactic| walk_at "exec Try cons cons") => `(tactic| ((with_reducible show wpAny _ _ (exec (Stmt.Try _ (_ :: _) _ [] _) (envOfC _ _ _ _ _)) _ _ _); refine wpAny_Try_except ?_))
set_option hygiene false in
local macro_rules | `(tactic| walk_at "exec Try cons cons nil nil") => `(tactic| ((with_reducible show wpAny _ _ (exec (Stmt.Try _ (_ :: _) _ [] _) (envOfC _ _ _ _ _)) _ _ _); refine wpAny_Try_except ?_))
section
open PySem PySem.W PySem.Calls PyProof.Rows
theorem offF39 : True := by
  w_top off
  trivial
section
variable {prog : Program} {w : World} {A : Around} {E : Value → Shared → Prop} {base ti g h h' h₀ : Heap} {frs : List Env} {mean : ExcName → Option Value} {mg mb : Str → Option Value} {s : Shared} {k : Nat}
  {x dx d y dy e f L z dz c : Addr} {l l' l'' : List (Fin 9)} {v : Value} {i : Fin 9} {R : Result → Shared → Prop} {m : Str → Option Value} {news : List (Addr × Obj)} {u : Obj → List (Addr × Obj)} {es : List DictEntry} {n n₁ t ep : Nat}
  {qual : Str} {scope : Scope} {cdv : Value} {Q : Value → Shared → Prop}

variable {kd : Int} {t₀ : Nat} {rr : Addr}
theorem del_eq (l : List (Fin 9)) (i : Fin 9) : (l.filter fun q => !decide (q = i)) = delL l i := by
  unfold delL
  exact List.filter_congr fun x _ => by simp
theorem pop_eq {l₀ : List (Fin 9)} {i : Fin 9} (h : (l₀ ++ [i]).Nodup) : ((l₀ ++ [i]).filter fun q => !decide (q = i)) = l₀ := by
  have hi : i ∉ l₀ := fun q => (List.nodup_append.mp h).2.2 i q i (.head _) rfl
  rw [List.filter_append, List.filter_eq_self.mpr (fun x hx => by
    have : x ≠ i := fun e => hi (e ▸ hx)
    simp [this])]
  simp
theorem change_disc (C : Cx w A base frs mean mg mb s.heap (k + 8)) (Ti : TupIn ti s.heap) (S : SetIs prog w ti s.heap x dx d l) (O : Own base frs d) (Ra : RowIs ti s.heap rr l) (hv : ItemAt ti v i) (hkd : kd = 4)
    (hR : ∀ h' tk D, ChgS [d] frs s.heap h' → SetIs prog w ti h' x dx d (delL l i) → RowIs ti h' D (delL l i) → (D = rr ∨ s.heap.get? D = none) → R (.ok (.ret (.ref D))) { s with heap := h', toks := tk }) :
    codeAny (model prog w) A (.call (.ref 341) ⟨[.ref x, .ref rr, .int kd t₀, v], []⟩) R s := by
  subst hkd
  have ha := nodup_le S.nodup
  have hnd := S.nodup
  obtain ⟨va, na, sra, Ra⟩ := Ra
  have hvl := Ra.length
  obtain ⟨_, ne2, ne3⟩ := S.ne
  have nt := S.noTup Ti
  obtain ⟨hx, ⟨t, n, hdx⟩, es, ep, hd, Bd⟩ := S
  have hrd : rr ≠ d := fun q => by rw [q, hd] at sra; injection sra with sra; injection sra with _ _ sra; cases sra
  refine enterC C [d] (fun a ha => by rw [List.mem_singleton.mp ha]; exact O) (by k_is) (by k_is) (BindsTo.of_eq rfl) rfl (by decide +kernel) fun g L h₁ tk cells hg hn hk1 F N Y hcs B X T => ?_
  have Tg : TupIn ti g := fun b o e c => hg b o (Ti b o e c) (by simpa using nt b o e c)
  have gra := hg _ _ sra (by simpa using hrd)
  have gx := hg _ _ hx (by simpa using ne2)
  have gdx := hg _ _ hdx (by simpa using ne3)
  k_cells Y
  rename_i o1 o2 d1 d2
  replace d1 : o1.data = .cell none := d1
  replace d2 : o2.data = .cell (some v) := d2
  replace F : Fr g L h₁ (fun z => if z = Str.ofString "kind" then some (.int 4 t₀) else if z = Str.ofString "row" then some (.ref rr) else if z = Str.ofString "one" then some (.ref x) else none) := F
  replace N : News g L h₁ [(d, dictOf es ep), (L + 1 + 1, o1), (L + 1, o2)] := News.add N (hk1 _ _ hd).1 (Nat.ne_of_lt (hk1 _ _ hd).2) (hn d (by simp))
  have hdL : @LT.lt Nat _ d L := (hk1 _ _ hd).2
  have Od : ∀ {env : Env}, env.frame = some L → Own base (env :: frs) d := fun hf => ownX hf O (Nat.ne_of_lt hdL)
  have offd : ∀ p ∈ [((L + 1 + 1 : Addr), o1), (L + 1, o2)], p.1 ≠ d := fun p hp => by
    simp only [List.mem_cons, List.not_mem_nil, or_false] at hp
    rcases hp with rfl | rfl <;> (show @Ne Nat _ _; omega)
  clear hcs
  k_steps
  refine wpAny_call (discard_code (k := k + 5) (C.innerX B F rfl rfl) (Tg.up F) ⟨F.keep _ _ gx, ⟨_, _, F.keep _ _ gdx⟩, _, _, N.get (.head _), Bd⟩ (Od rfl) hv fun h2 tk2 c2 S2 => ?_)
  obtain ⟨es2, n2, F2, N2, Bd2⟩ := use1h F N offd c2 S2
  clear F N
  dsimp only
  k_steps
  refine go_ ?_
  (try dsimp only)
  refine filtcompV (al := l) (vs := va) (c := fun q => !decide (q = i)) C.handled F2 N2 (Tg.up F2) (F2.keep _ _ gra) Ra (by rw [hvl]; exact Nat.le_trans ha (by decide)) (fun hQ => nameX_L F2 rfl hQ) (cfr := L + 1) rfl (N2.get (by k_mem)) d2
    (fun T' v' q => ne_item T' v' hv (Room.units C.room.deeper) q) (fun h5 D5 n5 tk5 vs5 F5 N5 off5 Row5 c5 => ?_) rfl (fun _ => rfl)
  clear F2 N2
  dsimp only
  rw [del_eq] at Row5
  exact hR _ _ _ (ChgS.of (chg_of hg F5)) (setIs_of F5 N5 gx gdx (by k_mem) Bd2) ⟨_, _, N5.get (.head _), Row5⟩ (.inr (Fresh.cons hg N5 (.head _) (by simpa using Ne.symm (off5 (d, _) (.head _))) (Fresh.nil _) _ (.head _)))
theorem change_rem (C : Cx w A base frs mean mg mb s.heap (k + 8)) (Ti : TupIn ti s.heap) (S : SetIs prog w ti s.heap x dx d l) (O : Own base frs d) (Ra : RowIs ti s.heap rr l) (hv : ItemAt ti v i) (hkd : kd = 3) (hi : i ∈ l)
    (hR : ∀ h' tk D, ChgS [d] frs s.heap h' → SetIs prog w ti h' x dx d (delL l i) → RowIs ti h' D (delL l i) → (D = rr ∨ s.heap.get? D = none) → R (.ok (.ret (.ref D))) { s with heap := h', toks := tk }) :
    codeAny (model prog w) A (.call (.ref 341) ⟨[.ref x, .ref rr, .int kd t₀, v], []⟩) R s := by
  subst hkd
  have ha := nodup_le S.nodup
  have hnd := S.nodup
  obtain ⟨va, na, sra, Ra⟩ := Ra
  have hvl := Ra.length
  obtain ⟨_, ne2, ne3⟩ := S.ne
  have nt := S.noTup Ti
  obtain ⟨hx, ⟨t, n, hdx⟩, es, ep, hd, Bd⟩ := S
  have hrd : rr ≠ d := fun q => by rw [q, hd] at sra; injection sra with sra; injection sra with _ _ sra; cases sra
  refine enterC C [d] (fun a ha => by rw [List.mem_singleton.mp ha]; exact O) (by k_is) (by k_is) (BindsTo.of_eq rfl) rfl (by decide +kernel) fun g L h₁ tk cells hg hn hk1 F N Y hcs B X T => ?_
  have Tg : TupIn ti g := fun b o e c => hg b o (Ti b o e c) (by simpa using nt b o e c)
  have gra := hg _ _ sra (by simpa using hrd)
  have gx := hg _ _ hx (by simpa using ne2)
  have gdx := hg _ _ hdx (by simpa using ne3)
  k_cells Y
  rename_i o1 o2 d1 d2
  replace d1 : o1.data = .cell none := d1
  replace d2 : o2.data = .cell (some v) := d2
  replace F : Fr g L h₁ (fun z => if z = Str.ofString "kind" then some (.int 3 t₀) else if z = Str.ofString "row" then some (.ref rr) else if z = Str.ofString "one" then some (.ref x) else none) := F
  replace N : News g L h₁ [(d, dictOf es ep), (L + 1 + 1, o1), (L + 1, o2)] := News.add N (hk1 _ _ hd).1 (Nat.ne_of_lt (hk1 _ _ hd).2) (hn d (by simp))
  have hdL : @LT.lt Nat _ d L := (hk1 _ _ hd).2
  have Od : ∀ {env : Env}, env.frame = some L → Own base (env :: frs) d := fun hf => ownX hf O (Nat.ne_of_lt hdL)
  have offd : ∀ p ∈ [((L + 1 + 1 : Addr), o1), (L + 1, o2)], p.1 ≠ d := fun p hp => by
    simp only [List.mem_cons, List.not_mem_nil, or_false] at hp
    rcases hp with rfl | rfl <;> (show @Ne Nat _ _; omega)
  clear hcs
  k_steps
  refine wpAny_call (remove_code (k := k + 5) (C.innerX B F rfl rfl) (Tg.up F) ⟨F.keep _ _ gx, ⟨_, _, F.keep _ _ gdx⟩, _, _, N.get (.head _), Bd⟩ (Od rfl) hv hi fun h2 tk2 c2 S2 => ?_)
  obtain ⟨es2, n2, F2, N2, Bd2⟩ := use1h F N offd c2 S2
  clear F N
  dsimp only
  k_steps
  refine in_row (ti := ti) (Tg.up F2) ⟨_, _, F2.keep _ _ gra, Ra⟩ hv (Room.units C.room.deeper) ?_
  rw [decide_eq_true hi]
  k_steps
  refine go_ ?_
  (try dsimp only)
  refine filtcompV (al := l) (vs := va) (c := fun q => !decide (q = i)) C.handled F2 N2 (Tg.up F2) (F2.keep _ _ gra) Ra (by rw [hvl]; exact Nat.le_trans ha (by decide)) (fun hQ => nameX_L F2 rfl hQ) (cfr := L + 1) rfl (N2.get (by k_mem)) d2
    (fun T' v' q => ne_item T' v' hv (Room.units C.room.deeper) q) (fun h5 D5 n5 tk5 vs5 F5 N5 off5 Row5 c5 => ?_) rfl (fun _ => rfl)
  clear F2 N2
  dsimp only
  rw [del_eq] at Row5
  exact hR _ _ _ (ChgS.of (chg_of hg F5)) (setIs_of F5 N5 gx gdx (by k_mem) Bd2) ⟨_, _, N5.get (.head _), Row5⟩ (.inr (Fresh.cons hg N5 (.head _) (by simpa using Ne.symm (off5 (d, _) (.head _))) (Fresh.nil _) _ (.head _)))
theorem change_pop {l₀ : List (Fin 9)} (C : Cx w A base frs mean mg mb s.heap (k + 8)) (Ti : TupIn ti s.heap) (S : SetIs prog w ti s.heap x dx d (l₀ ++ [i])) (O : Own base frs d) (Ra : RowIs ti s.heap rr (l₀ ++ [i])) (hkd : kd = 5)
    (hR : ∀ h' tk D, ChgS [d] frs s.heap h' → SetIs prog w ti h' x dx d l₀ → RowIs ti h' D l₀ → (D = rr ∨ s.heap.get? D = none) → R (.ok (.ret (.ref D))) { s with heap := h', toks := tk }) :
    codeAny (model prog w) A (.call (.ref 341) ⟨[.ref x, .ref rr, .int kd t₀, v], []⟩) R s := by
  subst hkd
  have ha := nodup_le S.nodup
  have hnd := S.nodup
  obtain ⟨va, na, sra, Ra⟩ := Ra
  have hvl := Ra.length
  obtain ⟨_, ne2, ne3⟩ := S.ne
  have nt := S.noTup Ti
  obtain ⟨hx, ⟨t, n, hdx⟩, es, ep, hd, Bd⟩ := S
  have hrd : rr ≠ d := fun q => by rw [q, hd] at sra; injection sra with sra; injection sra with _ _ sra; cases sra
  refine enterC C [d] (fun a ha => by rw [List.mem_singleton.mp ha]; exact O) (by k_is) (by k_is) (BindsTo.of_eq rfl) rfl (by decide +kernel) fun g L h₁ tk cells hg hn hk1 F N Y hcs B X T => ?_
  have Tg : TupIn ti g := fun b o e c => hg b o (Ti b o e c) (by simpa using nt b o e c)
  have gra := hg _ _ sra (by simpa using hrd)
  have gx := hg _ _ hx (by simpa using ne2)
  have gdx := hg _ _ hdx (by simpa using ne3)
  k_cells Y
  rename_i o1 o2 d1 d2
  replace d1 : o1.data = .cell none := d1
  clear d2
  replace F : Fr g L h₁ (fun z => if z = Str.ofString "kind" then some (.int 5 t₀) else if z = Str.ofString "row" then some (.ref rr) else if z = Str.ofString "one" then some (.ref x) else none) := F
  replace N : News g L h₁ [(d, dictOf es ep), (L + 1 + 1, o1), (L + 1, o2)] := News.add N (hk1 _ _ hd).1 (Nat.ne_of_lt (hk1 _ _ hd).2) (hn d (by simp))
  have hdL : @LT.lt Nat _ d L := (hk1 _ _ hd).2
  have Od : ∀ {env : Env}, env.frame = some L → Own base (env :: frs) d := fun hf => ownX hf O (Nat.ne_of_lt hdL)
  have offd : ∀ p ∈ [((L + 1 + 1 : Addr), o1), (L + 1, o2)], p.1 ≠ d := fun p hp => by
    simp only [List.mem_cons, List.not_mem_nil, or_false] at hp
    rcases hp with rfl | rfl <;> (show @Ne Nat _ _; omega)
  clear hcs
  k_steps
  refine wpAny_call (pop_code (k := k + 5) (C.innerX B F rfl rfl) (Tg.up F) ⟨F.keep _ _ gx, ⟨_, _, F.keep _ _ gdx⟩, _, _, N.get (.head _), Bd⟩ (Od rfl) fun h2 tk2 v2 c2 S2 hv2 => ?_)
  obtain ⟨es2, n2, F2, N2, Bd2⟩ := use1h F N offd c2 S2
  clear F N
  dsimp only
  k_steps
  rename News _ _ _ _ => N3
  rename Fr _ _ _ _ => F3
  rename (Obj.data _ = Data.cell _) => d3
  refine in_row (ti := ti) (Tg.up F3) ⟨_, _, F3.keep _ _ gra, Ra⟩ hv2 (Room.units C.room.deeper) ?_
  rw [decide_eq_true (List.mem_append_right _ (.head _))]
  k_steps
  refine go_ ?_
  (try dsimp only)
  refine filtcompV (al := (l₀ ++ [i])) (vs := va) (c := fun q => !decide (q = i)) C.handled F3 N3 (Tg.up F3) (F3.keep _ _ gra) Ra (by rw [hvl]; exact Nat.le_trans ha (by decide)) (fun hQ => nameX_L F3 rfl hQ) (cfr := L + 1 + 1) rfl (N3.get (by k_mem)) d3
    (fun T' v' q => ne_item T' v' hv2 (Room.units C.room.deeper) q) (fun h5 D5 n5 tk5 vs5 F5 N5 off5 Row5 c5 => ?_) rfl (fun _ => rfl)
  clear F3 N3
  dsimp only
  rw [pop_eq hnd] at Row5
  exact hR _ _ _ (ChgS.of (chg_of hg F5)) (setIs_of F5 N5 gx gdx (by k_mem) Bd2) ⟨_, _, N5.get (.head _), Row5⟩ (.inr (Fresh.cons hg N5 (.head _) (by simpa using Ne.symm (off5 (d, _) (.head _))) (Fresh.nil _) _ (.head _)))
end
end
section
open PySem PySem.W PySem.Calls PyProof.Rows
theorem offF40 : True := by
  w_top off
  trivial
section
variable {prog : Program} {w : World} {A : Around} {E : Value → Shared → Prop} {base ti g h h' h₀ : Heap} {frs : List Env} {mean : ExcName → Option Value} {mg mb : Str → Option Value} {s : Shared} {k : Nat}
  {x dx d y dy e f L z dz c : Addr} {l l' l'' : List (Fin 9)} {v : Value} {i : Fin 9} {R : Result → Shared → Prop} {m : Str → Option Value} {news : List (Addr × Obj)} {u : Obj → List (Addr × Obj)} {es : List DictEntry} {n n₁ t ep : Nat}
  {qual : Str} {scope : Scope} {cdv : Value} {Q : Value → Shared → Prop}

theorem unitsM {env : Env} {e : Option Value} (C : Cx w A base frs mean mg mb h (k + 8)) : ((A.deeper env).mark e).units + 2 < cLine := by
  have := Room.units (j := 2) (Room.deeper (env := env) C.room)
  exact this
variable {t₀ : Nat} {rr : Addr}
theorem change_rem_out (C : Cx w A base frs mean mg mb s.heap (k + 8)) (Ti : TupIn ti s.heap) (S : SetIs prog w ti s.heap x dx d l) (O : OffF frs ti [x, dx, d, rr]) (Ra : RowIs ti s.heap rr l) (hv : ItemAt ti v i) (hi : i ∉ l)
    (hR : ∀ h' tk, ChgS [] frs s.heap h' → R (.ok (.ret (.ref rr))) { s with heap := h', toks := tk }) :
    codeAny (model prog w) A (.call (.ref 341) ⟨[.ref x, .ref rr, .int 3 t₀, v], []⟩) R s := by
  have ha := nodup_le S.nodup
  obtain ⟨va, na, sra, Ra⟩ := Ra
  refine enterC C [] (fun _ h => by simp at h) (by k_is) (by k_is) (BindsTo.of_eq rfl) rfl (by decide +kernel) fun g L h₁ tk cells hg _ hk1 F N Y hcs B X T => ?_
  have Tg : TupIn ti g := fun b o e c => hg b o (Ti b o e c) (by simp)
  have gra := hg _ _ sra (by simp)
  obtain ⟨t, n, ep, es, Rx⟩ := S.reads hg (by simp)
  k_cells Y
  rename_i o1 o2 d1 d2
  replace d1 : o1.data = .cell none := d1
  replace d2 : o2.data = .cell (some v) := d2
  replace F : Fr g L h₁ (fun z => if z = Str.ofString "kind" then some (.int 3 t₀) else if z = Str.ofString "row" then some (.ref rr) else if z = Str.ofString "one" then some (.ref x) else none) := F
  replace N : News g L h₁ [(L + 1 + 1, o1), (L + 1, o2)] := N
  clear hcs hk1
  k_steps
  refine wpAny_call (remove_err (k := k + 5) (C.innerX B F rfl rfl) (Tg.up F) (Rx.set1 F) hv hi fun h2 tk2 e2 fl => ?_)
  dsimp only
  refine caught_flyX (T' := "ValueError") fl F B C.kin C.top (by k_is) (by boot_by_name) (by decide) PySem.F.isExc_ValueError PySem.F.notTuple_ValueError (by rw [isSubtype_type]; kernel_rfl) fun h₆ g₆ T₆ F₆ K₆ X₆ P₆ nn₆ => ?_
  have Tg6 : TupIn ti g₆ := fun b o e q => T₆.other _ _ (Tg b o e q) (O.2 b o e q)
  have gra6 := T₆.other _ _ gra (O.1 _ (by simp))
  have N₆ := nn₆ _ N
  clear F N B X T Rx Tg gra
  k_steps
  refine notIn_row (ti := ti) (Tg6.up F₆) ⟨_, _, F₆.keep _ _ gra6, Ra⟩ hv (unitsM C) ?_
  rw [decide_eq_false hi]
  k_steps
  exact hR _ _ (chgS_of hg T₆ F₆)
theorem change_pop_out (C : Cx w A base frs mean mg mb s.heap (k + 8)) (Ti : TupIn ti s.heap) (S : SetIs prog w ti s.heap x dx d []) (O : OffF frs ti [x, dx, d, rr]) (Ra : RowIs ti s.heap rr []) 
    (hR : ∀ h' tk, ChgS [] frs s.heap h' → R (.ok (.ret (.ref rr))) { s with heap := h', toks := tk }) :
    codeAny (model prog w) A (.call (.ref 341) ⟨[.ref x, .ref rr, .int 5 t₀, v], []⟩) R s := by
  have ha := nodup_le S.nodup
  obtain ⟨va, na, sra, Ra⟩ := Ra
  refine enterC C [] (fun _ h => by simp at h) (by k_is) (by k_is) (BindsTo.of_eq rfl) rfl (by decide +kernel) fun g L h₁ tk cells hg _ hk1 F N Y hcs B X T => ?_
  have Tg : TupIn ti g := fun b o e c => hg b o (Ti b o e c) (by simp)
  have gra := hg _ _ sra (by simp)
  obtain ⟨t, n, ep, es, Rx⟩ := S.reads hg (by simp)
  k_cells Y
  rename_i o1 o2 d1 d2
  replace d1 : o1.data = .cell none := d1
  replace d2 : o2.data = .cell (some v) := d2
  replace F : Fr g L h₁ (fun z => if z = Str.ofString "kind" then some (.int 5 t₀) else if z = Str.ofString "row" then some (.ref rr) else if z = Str.ofString "one" then some (.ref x) else none) := F
  replace N : News g L h₁ [(L + 1 + 1, o1), (L + 1, o2)] := N
  clear hcs hk1
  k_steps
  refine wpAny_call (pop_err (k := k + 5) (C.innerX B F rfl rfl) (Tg.up F) (Rx.set1 F) fun h2 tk2 e2 fl => ?_)
  dsimp only
  refine caught_flyX (T' := "KeyError") fl F B C.kin C.top (by k_is) (by boot_by_name) (by decide) kr_isExc_KeyError kr_notTuple_KeyError (by rw [isSubtype_type]; kernel_rfl) fun h₆ g₆ T₆ F₆ K₆ X₆ P₆ nn₆ => ?_
  have Tg6 : TupIn ti g₆ := fun b o e q => T₆.other _ _ (Tg b o e q) (O.2 b o e q)
  have gra6 := T₆.other _ _ gra (O.1 _ (by simp))
  have N₆ := nn₆ _ N
  clear F N B X T Rx Tg gra
  k_steps
  rename News _ _ _ _ => N7
  rename Fr _ _ _ _ => F7
  refine eq_row (ti := ti) (Tg6.up F7) ⟨_, _, F7.keep _ _ gra6, Ra⟩ ⟨[], _, N7.get (.head _), .nil⟩ (unitsM C) ?_
  rw [decide_eq_true rfl]
  k_steps
  exact hR _ _ (chgS_of hg T₆ F7)
end
end
section
open PySem PySem.W PySem.Calls PyProof.Rows
theorem callerA_frames : callerA.frames = some [] := rfl
theorem room_callerA : Room callerA 40 := by
  refine ⟨?_, ?_⟩ <;> decide
theorem Cx.law {w : World} {g : Heap} {mean : ExcName → Option Value} {mg mb : Str → Option Value} (X : (hd.heap_39 w.params).In g) (T : Top hd.view_39 (looseW hd.view_39 []) mean mg mb g) : Cx w callerA g [] mean mg mb g 40 :=
  ⟨fun _ _ e => e, X, T, trivial, callerA_frames, rfl, room_callerA⟩
/-- after a call that caught: the frame stands on the same ground -/
theorem fr_keptS {g h h' : Heap} {L : Addr} {m : Str → Option Value} {env : Env} {D : List Addr} (hf : env.frame = some L) (F : Fr g L h m) (c : ChgS D [env] h h') (hD : ∀ b ∈ D, g.get? b = none ∧ b ≠ L) :
    Fr g L h' m ∧ ∀ news, News g L h news → (∀ p ∈ news, p.1 ∉ D) → News g L h' news := by
  have nL : ∀ b, b ≠ L → b ∉ ([env].filterMap (·.frame)) := fun b q hm => by
    rcases kts_memX (frs := []) hf hm with z | z
    · exact q z
    · simp at z
  obtain ⟨oL, es, ep, hL, hLd, hLk, hLf⟩ := F.ns
  obtain ⟨_, sl, hL'⟩ := c L oL (fun q => (hD L q).2 rfl) hL
  refine ⟨⟨⟨_, es, ep, hL', hLd, hLk, hLf⟩, fun b o e => ?_, F.above⟩, fun news N hn p hp => ?_⟩
  · exact (c b o (fun q => by rw [(hD b q).1] at e; cases e) (F.keep b o e)).1 (nL b fun q => by rw [q, kts_self F] at e; cases e)
  · have P := N p hp
    exact ⟨(c p.1 p.2 (hn p hp) P.1).1 (nL _ P.2.1), P.2⟩
theorem tupOf {g h : Heap} {L : Addr} {m : Str → Option Value} (_F : Fr g L h m) : TupIn g g := TupIn.refl g
section
variable {prog : Program} {w : World} {A : Around} {E : Value → Shared → Prop} {base ti g h h' h₀ : Heap} {frs : List Env} {mean : ExcName → Option Value} {mg mb : Str → Option Value} {s : Shared} {k : Nat}
  {x dx d y dy e f L z dz c : Addr} {l l' l'' : List (Fin 9)} {v : Value} {i : Fin 9} {R : Result → Shared → Prop} {m : Str → Option Value} {news : List (Addr × Obj)} {u : Obj → List (Addr × Obj)} {es : List DictEntry} {n n₁ t ep : Nat}
  {qual : Str} {scope : Scope} {cdv : Value} {Q : Value → Shared → Prop}
/-- Set([..]): a new one of a list's items -/
theorem newT_K {vs : List Value} {is : List (Fin 9)} {nl : Nat} (C : Cx w A base frs mean mg mb h₀ (k + 6)) (B : Below A base frs g) (Tg : ∀ b o, ti.get? b = some o → o.cls = .type "tuple" → g.get? b = some o ∨ (b, o) ∈ news) (X : (hd.heap_39 w.params).In g) (F : Fr g L s.heap m) (N : News g L s.heap news)
    (hL : (y, listOf vs.toArray nl) ∈ news) (hvs : ∀ (j : Nat) (v : Value), vs[j]? = some v → ∃ i, is[j]? = some i ∧ ItemAt ti v i) (hln : vs.length = is.length)
    (h : ∀ h' x dx d t n es ep tk, Fr g L h' m → News g L h' ((x, instObj 275 dx) :: (dx, setAttrs w t n d) :: (d, dictOf es ep) :: news) → (∀ p ∈ news, @Ne Nat p.1 x ∧ @Ne Nat p.1 dx ∧ @Ne Nat p.1 d) → @Ne Nat x dx → @Ne Nat x d → @Ne Nat dx d →
      Bears prog w ti d es (is.foldl addL []) → Q (.ref x) { s with heap := h', toks := tk }) (hk : scope.kind = .function := by rfl) :
    wpAny (model prog w) (A.deeper (envOf qual scope L f cdv)) (call (.ref 275) [.ref y]) Q E s := by
  refine call_cls F X N (by k_is) (by k_is) (by k_is) fun x dx h₁ F₁ N₁ l1 l2 => ?_
  have C' := (C.inner (qual := qual) (scope := scope) (f := f) (cdv := cdv) B F₁ hk)
  have hx := N₁ (x, instObj 275 dx) (by simp)
  have hdx := N₁ (dx, dictOf [] 0) (by simp)
  refine init1_code (ti := ti) (k := k) C'.make (fun b o e q => (Tg b o e q).elim (F₁.keep b o) fun hm => (N₁ (b, o) (.tail _ (.tail _ hm))).1) hx.1 hdx.1 (Own.of_news B N₁ (by simp : (x, instObj 275 dx) ∈ _)) (Own.of_news B N₁ (by simp : (dx, dictOf [] 0) ∈ _)) l2 (N₁ (y, listOf vs.toArray nl) (.tail _ (.tail _ hL))).1 hvs hln fun h' tk d c hd S => ⟨rfl, ?_⟩
  obtain ⟨e1, e2, e3⟩ := S.ne
  obtain ⟨sx, ⟨t, n, sdx⟩, es, ep, sd, Bd⟩ := S
  have F' : Fr g L h' m := Fr.chg F₁ c fun a ha => by rw [List.mem_singleton.mp ha]; exact ⟨hdx.2.2, hdx.2.1⟩
  have hd' : h₁.get? d = none := hd
  have N' : News g L h' news := fun p hp => by
    have P := N₁ p (.tail _ (.tail _ hp))
    exact ⟨c _ _ (by simpa using Nat.ne_of_lt (l1 p hp)) P.1, P.2⟩
  have hdL : d ≠ L := fun q => by obtain ⟨o, _, _, ho, _⟩ := F₁.ns; rw [← q, hd'] at ho; cases ho
  have hdg : g.get? d = none := Option.eq_none_iff_forall_ne_some.mpr fun o q => by have := F₁.keep _ _ q; rw [hd'] at this; cases this
  have N₂ : News g L h' ((x, instObj 275 dx) :: (dx, setAttrs w t n d) :: (d, dictOf es ep) :: news) :=
    News.add (News.add (News.add N' sd hdL hdg) sdx hdx.2.1 hdx.2.2) sx hx.2.1 hx.2.2
  refine h h' x dx d t n es ep tk F' N₂ (fun p hp => ⟨Nat.ne_of_lt (Nat.lt_trans (l1 p hp) l2), Nat.ne_of_lt (l1 p hp), fun q => ?_⟩) e1 e2 e3 Bd
  have P := N₁ p (.tail _ (.tail _ hp))
  rw [show p.1 = d from q, hd'] at P; cases P.1
end
end
section
open PySem PySem.W PySem.Calls PyProof.Rows
/-- of h: what stands on the ground g, and the objects as -/
def cutTo (g h : Heap) (as : List Addr) : Heap := hideAll h ((List.range h.objs.size).filter fun b => (g.get? b).isNone && !as.contains b)
theorem cutTo_get {g h : Heap} {as : List Addr} {b : Addr} {o : Obj} (e : h.get? b = some o) (q : (∃ o', g.get? b = some o') ∨ b ∈ as) : (cutTo g h as).get? b = some o := by
  refine hideAll_get _ e fun hm => ?_
  have := (List.mem_filter.mp hm).2
  simp only [Bool.and_eq_true, Option.isNone_iff_eq_none, Bool.not_eq_true', List.contains_eq_mem, decide_eq_false_iff_not] at this
  rcases q with ⟨o', q⟩ | q
  · rw [this.1] at q; cases q
  · exact this.2 q
theorem of_cutTo {g h : Heap} {as : List Addr} {b : Addr} {o : Obj} (e : (cutTo g h as).get? b = some o) : h.get? b = some o ∧ ((∃ o', g.get? b = some o') ∨ b ∈ as) := by
  have h1 := of_hideAll _ e
  refine ⟨h1, ?_⟩
  by_cases q : b ∈ as
  · exact .inr q
  · cases hg : g.get? b with
    | some o' => exact .inl ⟨o', rfl⟩
    | none =>
      have hm : b ∈ (List.range h.objs.size).filter fun b => (g.get? b).isNone && !as.contains b := List.mem_filter.mpr ⟨List.mem_range.mpr (Heap.lt_size h1), by simp [hg, q]⟩
      have := hideAll_none (h := h) _ hm
      unfold cutTo at e
      rw [this] at e; cases e
abbrev groundOf {g h : Heap} {L : Addr} {m : Str → Option Value} (_F : Fr g L h m) : Heap := g
end
section
open PySem PySem.W PySem.Calls PyProof.Rows
/-- the ledger with d's object anew -/
def updR (R : List (Addr × Obj)) (d : Addr) (o : Obj) : List (Addr × Obj) := R.map fun p => if p.1 = d then (d, o) else p
section
variable {g h h' : Heap} {L d a : Addr} {R : List (Addr × Obj)} {o o' : Obj}
theorem updR_self (hm : (d, o) ∈ R) : (d, o') ∈ updR R d o' := List.mem_map.mpr ⟨_, hm, by simp⟩
theorem updR_other (hm : (a, o) ∈ R) (ha : a ≠ d) : (a, o) ∈ updR R d o' := List.mem_map.mpr ⟨_, hm, by rw [if_neg (show (a, o).1 ≠ d from ha)]⟩
theorem News.updR (N : News g L h R) (hm : (d, o) ∈ R) (c : Chg [d] h h') (hd : h'.get? d = some o') : News g L h' (updR R d o') := fun p hp => by
  obtain ⟨q, hq, rfl⟩ := List.mem_map.mp hp
  by_cases e : q.1 = d
  · rw [if_pos e]; exact ⟨hd, (N _ hm).2⟩
  · rw [if_neg e]; exact ⟨c _ _ (by simpa using e) (N q hq).1, (N q hq).2⟩
theorem News.inj (N : News g L h R) (h1 : (a, o) ∈ R) (h2 : (a, o') ∈ R) : o = o' := by
  have e1 := (N _ h1).1
  have e2 := (N _ h2).1
  rw [e1] at e2; exact Option.some.inj e2
end
end
section
open PySem PySem.W PySem.Calls PyProof.Rows
/-- three things by their places -/
def tri {α : Type} (a b c : α) (i : Fin 3) : α := match i with | ⟨0, _⟩ => a | ⟨1, _⟩ => b | ⟨2, _⟩ => c
theorem all3 {P : Fin 3 → Prop} (h0 : P 0) (h1 : P 1) (h2 : P 2) : ∀ i, P i := fun i => match i with | ⟨0, _⟩ => h0 | ⟨1, _⟩ => h1 | ⟨2, _⟩ => h2
theorem tri_ne {a b c : Addr} (h01 : @Ne Nat a b) (h02 : @Ne Nat a c) (h12 : @Ne Nat b c) : ∀ i j, i ≠ j → tri a b c i ≠ tri a b c j := by
  refine all3 (all3 ?_ ?_ ?_) (all3 ?_ ?_ ?_) (all3 ?_ ?_ ?_) <;> intro h
  · exact absurd rfl h
  · exact h01
  · exact h02
  · exact Ne.symm h01
  · exact absurd rfl h
  · exact h12
  · exact Ne.symm h02
  · exact Ne.symm h12
  · exact absurd rfl h
theorem cut_of {g h : Heap} {L : Addr} {m : Str → Option Value} {news ps : List (Addr × Obj)} (F : Fr g L h m) (N : News g L h news) (hs : ∀ p ∈ ps, p ∈ news) : ∀ b o, (cutTo g h (ps.map (·.1))).get? b = some o → g.get? b = some o ∨ (b, o) ∈ ps := fun b o e => by
  obtain ⟨e1, q1⟩ := of_cutTo e
  rcases q1 with ⟨o', q1⟩ | q1
  · have := F.keep _ _ q1
    rw [e1] at this; injection this with this
    exact .inl (by rw [this]; exact q1)
  · obtain ⟨p, hp, q2⟩ := List.mem_map.mp q1
    have := (N p (hs p hp)).1
    rw [q2, e1] at this; injection this with this
    have e3 : (b, o) = p := by rw [this, ← q2]
    exact .inr (e3 ▸ hp)
theorem cut_get {g h : Heap} {L : Addr} {m : Str → Option Value} {news ps : List (Addr × Obj)} (F : Fr g L h m) (N : News g L h news) (hs : ∀ p ∈ ps, p ∈ news) {b : Addr} {o : Obj} (q : g.get? b = some o ∨ (b, o) ∈ ps) : (cutTo g h (ps.map (·.1))).get? b = some o := by
  rcases q with q | q
  · exact cutTo_get (F.keep _ _ q) (.inl ⟨o, q⟩)
  · exact cutTo_get (N _ (hs _ q)).1 (.inr (List.mem_map.mpr ⟨_, q, rfl⟩))
end
section
open PySem PySem.W PySem.Calls PyProof.Rows
theorem list_ne_dict : Value.type "list" ≠ .type "dict" := fun q => by injection q with q; exact absurd q (by decide)
theorem dict_ne_list : Value.type "dict" ≠ .type "list" := fun q => by injection q with q; exact absurd q (by decide)
/-- the object of a list -/
def ListOb (o : Obj) (its : Array Value) : Prop := o.cls = .type "list" ∧ ∃ n, o.data = .seq its n
def upd {α : Type} (f : Fin 3 → α) (i : Fin 3) (a : α) : Fin 3 → α := fun j => if j = i then a else f j
abbrev refs3 (x : Fin 3 → Addr) : Array Value := #[.ref (x 0), .ref (x 1), .ref (x 2)]
theorem upd_self {α : Type} {f : Fin 3 → α} {i : Fin 3} {a : α} : upd f i a i = a := by simp [upd]
theorem upd_ne {α : Type} {f : Fin 3 → α} {i j : Fin 3} {a : α} (h : j ≠ i) : upd f i a j = f j := by simp [upd, h]
theorem upd_all {α : Type} {P : Fin 3 → α → Prop} {f : Fin 3 → α} {i : Fin 3} {a : α} (hi : P i a) (h : ∀ j, j ≠ i → P j (f j)) : ∀ j, P j (upd f i a j) := fun j => by
  by_cases q : j = i
  · subst q; rw [upd_self]; exact hi
  · rw [upd_ne q]; exact h j q
theorem refs3_upd {x : Fin 3 → Addr} {i : Fin 3} {a : Addr} : (refs3 x).setIfInBounds i.val (.ref a) = refs3 (upd x i a) := by
  exact all3 (P := fun i => (refs3 x).setIfInBounds i.val (.ref a) = refs3 (upd x i a)) rfl rfl rfl i
theorem refs3_get {x : Fin 3 → Addr} {i : Fin 3} : (refs3 x)[i.val]? = some (.ref (x i)) := by
  exact all3 (P := fun i => (refs3 x)[i.val]? = some (.ref (x i))) rfl rfl rfl i
/-- what the law's loop keeps: sets with the items l, rows with the items lr -/
structure LawInv (prog : Program) (w : World) (g ti : Heap) (ow R : List (Addr × Obj)) (Ls Lr : Addr) (x dx d r : Fin 3 → Addr) (l lr : Fin 3 → List (Fin 9)) : Prop where
  sets : ∃ o, (Ls, o) ∈ R ∧ ListOb o (refs3 x)
  rows : ∃ o, (Lr, o) ∈ R ∧ ListOb o (refs3 r)
  obj : ∀ i, (x i, instObj 275 (dx i)) ∈ R
  attrs : ∀ i, ∃ t n, (dx i, setAttrs w t n (d i)) ∈ R
  dict : ∀ i, ∃ es ep, (d i, dictOf es ep) ∈ R ∧ Bears prog w ti (d i) es (l i)
  row : ∀ i, ∃ vs n, (r i, listOf (List.toArray vs) n) ∈ R ∧ Row ti vs (lr i)
  neX : ∀ i j, i ≠ j → x i ≠ x j
  neD : ∀ i j, i ≠ j → d i ≠ d j
  neR : ∀ i, r i ≠ Ls ∧ r i ≠ Lr
  neL : Ls ≠ Lr
  tis : ∀ b o, ti.get? b = some o → o.cls = .type "tuple" → g.get? b = some o ∨ (b, o) ∈ R
  sep : ∀ p ∈ R, ∀ q ∈ ow, p.1 ≠ q.1
/-- D is a row of the ledger with the items l -/
def RowIn (ti : Heap) (R : List (Addr × Obj)) (Ls Lr D : Addr) (l : List (Fin 9)) : Prop := (∃ vs n, (D, listOf (List.toArray vs) n) ∈ R ∧ Row ti vs l) ∧ D ≠ Ls ∧ D ≠ Lr
section
variable {prog : Program} {w : World} {g ti ti' h h' : Heap} {ow R R' ps N₀ : List (Addr × Obj)} {Ls Lr L D : Addr} {x dx d r : Fin 3 → Addr} {l lr : Fin 3 → List (Fin 9)} {m : Str → Option Value} {i j : Fin 3} {l₂ : List (Fin 9)} {o : Obj}
theorem LawInv.tup (I : LawInv prog w g ti ow R Ls Lr x dx d r l lr) (F : Fr g L h m) (N : News g L h R) : TupIn ti h := fun b o e c => (I.tis b o e c).elim (F.keep b o) fun hm => (N _ hm).1
theorem LawInv.set (I : LawInv prog w g ti ow R Ls Lr x dx d r l lr) (N : News g L h R) (i : Fin 3) : SetIs prog w ti h (x i) (dx i) (d i) (l i) :=
  ⟨(N _ (I.obj i)).1, let ⟨t, n, e⟩ := I.attrs i; ⟨t, n, (N _ e).1⟩, let ⟨es, ep, e, b⟩ := I.dict i; ⟨es, ep, (N _ e).1, b⟩⟩
theorem LawInv.rowIs (I : LawInv prog w g ti ow R Ls Lr x dx d r l lr) (N : News g L h R) (i : Fin 3) : RowIs ti h (r i) (lr i) := let ⟨vs, n, e, q⟩ := I.row i; ⟨vs, n, (N _ e).1, q⟩
theorem LawInv.rowIn (I : LawInv prog w g ti ow R Ls Lr x dx d r l lr) (i : Fin 3) : RowIn ti R Ls Lr (r i) (lr i) := ⟨I.row i, I.neR i⟩
theorem RowIn.is (q : RowIn ti R Ls Lr D l₂) (N : News g L h R) : RowIs ti h D l₂ := let ⟨vs, n, e, q⟩ := q.1; ⟨vs, n, (N _ e).1, q⟩
theorem RowIn.sub (q : RowIn ti R Ls Lr D l₂) (s : ∀ p ∈ R, p ∈ R') : RowIn ti R' Ls Lr D l₂ := let ⟨vs, n, e, z⟩ := q.1; ⟨⟨vs, n, s _ e, z⟩, q.2⟩
theorem nL_of {env : Env} (hf : env.frame = some L) {b : Addr} (q : b ≠ L) : b ∉ ([env].filterMap (·.frame)) := fun hm => by
  rcases kts_memX (frs := []) hf hm with z | z
  · exact q z
  · simp at z
theorem LawInv.off {env : Env} (I : LawInv prog w g ti ow R Ls Lr x dx d r l lr) (hf : env.frame = some L) (F : Fr g L h m) (N : News g L h R) (i : Fin 3) (hD : RowIn ti R Ls Lr D l₂) : OffF [env] ti [x i, dx i, d i, D] := by
  refine ⟨fun b hb => ?_, fun b o e c => nL_of hf ?_⟩
  · simp only [List.mem_cons, List.not_mem_nil, or_false] at hb
    rcases hb with rfl | rfl | rfl | rfl
    · exact nL_of hf (N _ (I.obj i)).2.1
    · obtain ⟨_, _, e⟩ := I.attrs i; exact nL_of hf (N _ e).2.1
    · obtain ⟨_, _, e, _⟩ := I.dict i; exact nL_of hf (N _ e).2.1
    · obtain ⟨⟨_, _, e, _⟩, _⟩ := hD; exact nL_of hf (N _ e).2.1
  · rcases I.tis b o e c with q | q
    · exact fun z => by rw [z, kts_self F] at q; cases q
    · exact (N _ q).2.1
theorem LawInv.own {env : Env} (I : LawInv prog w g ti ow R Ls Lr x dx d r l lr) {base : Heap} (B : base.StaysIn g) (hf : env.frame = some L) (N : News g L h R) (i : Fin 3) : Own base [env] (d i) := by
  obtain ⟨_, _, e, _⟩ := I.dict i
  refine ⟨Option.eq_none_iff_forall_ne_some.mpr fun o q => ?_, nL_of hf (N _ e).2.1⟩
  have := B _ _ q
  rw [(N _ e).2.2] at this; cases this
theorem LawInv.sub (I : LawInv prog w g ti ow R Ls Lr x dx d r l lr) (s : ∀ p ∈ R, p ∈ R') (hs : ∀ p ∈ R', ∀ q ∈ ow, p.1 ≠ q.1) : LawInv prog w g ti ow R' Ls Lr x dx d r l lr where
  sets := let ⟨o, a, b⟩ := I.sets; ⟨o, s _ a, b⟩
  rows := let ⟨o, a, b⟩ := I.rows; ⟨o, s _ a, b⟩
  obj i := s _ (I.obj i)
  attrs i := let ⟨t, n, a⟩ := I.attrs i; ⟨t, n, s _ a⟩
  dict i := let ⟨t, n, a, b⟩ := I.dict i; ⟨t, n, s _ a, b⟩
  row i := let ⟨t, n, a, b⟩ := I.row i; ⟨t, n, s _ a, b⟩
  neX := I.neX
  neD := I.neD
  neR := I.neR
  neL := I.neL
  tis b o e c := (I.tis b o e c).imp id (s _)
  sep := hs
theorem LawInv.ow' (I : LawInv prog w g ti ow R Ls Lr x dx d r l lr) {ow' : List (Addr × Obj)} (hs : ∀ p ∈ R, ∀ q ∈ ow', p.1 ≠ q.1) : LawInv prog w g ti ow' R Ls Lr x dx d r l lr :=
  ⟨I.sets, I.rows, I.obj, I.attrs, I.dict, I.row, I.neX, I.neD, I.neR, I.neL, I.tis, hs⟩
theorem LawInv.tiUp (I : LawInv prog w g ti ow R Ls Lr x dx d r l lr) (T : TupIn ti ti') (ht : ∀ b o, ti'.get? b = some o → o.cls = .type "tuple" → g.get? b = some o ∨ (b, o) ∈ R) : LawInv prog w g ti' ow R Ls Lr x dx d r l lr :=
  ⟨I.sets, I.rows, I.obj, I.attrs, fun i => let ⟨es, ep, a, b⟩ := I.dict i; ⟨es, ep, a, b.rep.keep T, b.nd, b.lo⟩, fun i => let ⟨vs, n, a, b⟩ := I.row i; ⟨vs, n, a, b.keep T⟩, I.neX, I.neD, I.neR, I.neL, ht, I.sep⟩
/-- after a call that has changed nothing: new objects ps -/
theorem LawInv.none (I : LawInv prog w g ti ow R Ls Lr x dx d r l lr) (F : Fr g L h m) (N : News g L h N₀) (hN : ∀ p ∈ ow ++ R, p ∈ N₀) (c : ∀ p ∈ N₀, h'.get? p.1 = some p.2) (hps : ∀ p ∈ ps, h'.get? p.1 = some p.2 ∧ h.get? p.1 = none) :
    News g L h' (ow ++ (ps ++ R)) ∧ LawInv prog w g ti ow (ps ++ R) Ls Lr x dx d r l lr := by
  refine ⟨fun p hp => ?_, I.sub (fun p hp => List.mem_append_right _ hp) fun p hp q hq => ?_⟩
  · have old : p ∈ ow ++ R → h'.get? p.1 = some p.2 ∧ p.1 ≠ L ∧ g.get? p.1 = .none := fun hm => ⟨c p (hN p hm), (N p (hN p hm)).2⟩
    rcases List.mem_append.mp hp with hp | hp
    · exact old (List.mem_append_left _ hp)
    · rcases List.mem_append.mp hp with hp | hp
      · refine ⟨(hps p hp).1, fun q => ?_, Option.eq_none_iff_forall_ne_some.mpr fun o q => ?_⟩
        · obtain ⟨o, _, _, ho, _⟩ := F.ns; have := (hps p hp).2; rw [q, ho] at this; cases this
        · have := F.keep _ _ q; rw [(hps p hp).2] at this; cases this
      · exact old (List.mem_append_right _ hp)
  · rcases List.mem_append.mp hp with hp | hp
    · exact fun e => by have := (hps p hp).2; rw [e, (N q (hN q (List.mem_append_left _ hq))).1] at this; cases this
    · exact I.sep p hp q hq
theorem LawInv.off_d (I : LawInv prog w g ti ow R Ls Lr x dx d r l lr) (N : News g L h R) (hm : (D, o) ∈ R) (ho : o.cls ≠ .type "dict") (i : Fin 3) : D ≠ d i := fun e => by
  obtain ⟨es, ep, a, _⟩ := I.dict i
  have := News.inj N (e ▸ hm) a
  rw [this] at ho; exact ho rfl
/-- after a call that has changed one Set -/
theorem LawInv.chg (I : LawInv prog w g ti ow R Ls Lr x dx d r l lr) (F : Fr g L h m) (N : News g L h N₀) (hN : ∀ p ∈ ow ++ R, p ∈ N₀) (c : ∀ p ∈ N₀, p.1 ≠ d i → h'.get? p.1 = some p.2) (S : SetIs prog w ti h' (x i) (dx i) (d i) l₂) (hps : ∀ p ∈ ps, h'.get? p.1 = some p.2 ∧ h.get? p.1 = .none) :
    ∃ R', News g L h' (ow ++ R') ∧ LawInv prog w g ti ow R' Ls Lr x dx d r (upd l i l₂) lr ∧ (∀ p ∈ ps ++ R, p.1 ≠ d i → p ∈ R') := by
  have NR : News g L h R := fun p hp => N p (hN p (List.mem_append_right _ hp))
  obtain ⟨es, ep, hm, _⟩ := I.dict i
  obtain ⟨es', ep', hd', Bd'⟩ := S.dict
  have hd := NR _ hm
  have off := fun D o (hm : (D, o) ∈ R) (ho : o.cls ≠ .type "dict") => I.off_d NR hm ho i
  have stay : ∀ p ∈ R, p.1 ≠ d i → p ∈ ps ++ updR R (d i) (dictOf es' ep') := fun p hp q => List.mem_append_right _ (updR_other (a := p.1) (o := p.2) hp q)
  have psd : ∀ p ∈ ps, p.1 ≠ d i := fun p hp q => by have := (hps p hp).2; rw [q, hd.1] at this; cases this
  have inR : ∀ p ∈ updR R (d i) (dictOf es' ep'), p = (d i, dictOf es' ep') ∨ (p ∈ R ∧ p.1 ≠ d i) := fun p hp => by
    obtain ⟨q, hq, rfl⟩ := List.mem_map.mp hp
    by_cases e : q.1 = d i
    · rw [if_pos e]; exact .inl rfl
    · rw [if_neg e]; exact .inr ⟨hq, e⟩
  refine ⟨ps ++ updR R (d i) (dictOf es' ep'), fun p hp => ?_, ⟨?_, ?_, ?_, ?_, ?_, ?_, I.neX, I.neD, I.neR, I.neL, ?_, ?_⟩, fun p hp q => ?_⟩
  · rcases List.mem_append.mp hp with hp | hp
    · have hp' := hN p (List.mem_append_left _ hp)
      exact ⟨c p hp' (I.sep _ hm p hp).symm, (N p hp').2⟩
    · rcases List.mem_append.mp hp with hp | hp
      · refine ⟨(hps p hp).1, fun q => ?_, Option.eq_none_iff_forall_ne_some.mpr fun o q => ?_⟩
        · obtain ⟨o, _, _, ho, _⟩ := F.ns; have := (hps p hp).2; rw [q, ho] at this; cases this
        · have := F.keep _ _ q; rw [(hps p hp).2] at this; cases this
      · rcases inR p hp with rfl | ⟨hp, q⟩
        · exact ⟨hd', hd.2⟩
        · have hp' := hN p (List.mem_append_right _ hp)
          exact ⟨c p hp' q, (N p hp').2⟩
  · obtain ⟨o, a, b⟩ := I.sets; exact ⟨o, stay _ a (off _ _ a (by rw [b.1]; decide)), b⟩
  · obtain ⟨o, a, b⟩ := I.rows; exact ⟨o, stay _ a (off _ _ a (by rw [b.1]; decide)), b⟩
  · exact fun j => stay _ (I.obj j) (off _ _ (I.obj j) (by intro q; cases q))
  · intro j; obtain ⟨t, n, a⟩ := I.attrs j; exact ⟨t, n, stay _ a (SetIs.off (I.set NR i) (I.set NR j)).2⟩
  · exact upd_all (P := fun j l => ∃ es ep, (d j, dictOf es ep) ∈ _ ∧ Bears prog w ti (d j) es l) ⟨es', ep', List.mem_append_right _ (updR_self hm), Bd'⟩ fun j q => let ⟨es, ep, a, b⟩ := I.dict j; ⟨es, ep, stay _ a (I.neD _ _ q), b⟩
  · intro j; obtain ⟨vs, n, a, b⟩ := I.row j; exact ⟨vs, n, stay _ a (off _ _ a (list_ne_dict)), b⟩
  · exact fun b o e c => (I.tis b o e c).imp id fun hm => stay _ hm (off _ _ hm (by rw [c]; decide))
  · intro p hp q hq
    rcases List.mem_append.mp hp with hp | hp
    · exact fun e => by have := (hps p hp).2; rw [e, (N q (hN q (List.mem_append_left _ hq))).1] at this; cases this
    · rcases inR p hp with rfl | ⟨hp, _⟩
      · exact I.sep _ hm q hq
      · exact I.sep _ hp q hq
  · rcases List.mem_append.mp hp with hp | hp
    · exact List.mem_append_left _ hp
    · exact stay p hp q
end
end
section
open PySem PySem.W PySem.Calls PyProof.Rows
/-- x is a Set of the ledger with the items l -/
structure SetIn (prog : Program) (w : World) (ti : Heap) (R : List (Addr × Obj)) (x dx d : Addr) (l : List (Fin 9)) : Prop where
  obj : (x, instObj 275 dx) ∈ R
  attrs : ∃ t n, (dx, setAttrs w t n d) ∈ R
  dict : ∃ es ep, (d, dictOf es ep) ∈ R ∧ Bears prog w ti d es l
section
variable {prog : Program} {w : World} {A : Around} {E : Value → Shared → Prop} {base ti g h h' h₀ : Heap} {mean : ExcName → Option Value} {mg mb : Str → Option Value} {s : Shared} {k : Nat}
  {ow R R' ps N₀ : List (Addr × Obj)} {Ls Lr L D f ra rb : Addr} {x dx d r : Fin 3 → Addr} {l lr : Fin 3 → List (Fin 9)} {m : Str → Option Value} {i j : Fin 3} {l₂ al bl : List (Fin 9)} {o : Obj} {kd : Int} {t₀ : Nat}
  {x' dx' d' : Addr} {qual : Str} {scope : Scope} {cdv v : Value} {it : Fin 9} {Q : Value → Shared → Prop}
theorem SetIn.is (S : SetIn prog w ti R x' dx' d' l₂) (N : News g L h R) : SetIs prog w ti h x' dx' d' l₂ :=
  ⟨(N _ S.obj).1, let ⟨t, n, e⟩ := S.attrs; ⟨t, n, (N _ e).1⟩, let ⟨es, ep, e, b⟩ := S.dict; ⟨es, ep, (N _ e).1, b⟩⟩
theorem SetIn.sub (S : SetIn prog w ti R x' dx' d' l₂) (q : ∀ p ∈ R, p ∈ R') : SetIn prog w ti R' x' dx' d' l₂ :=
  ⟨q _ S.obj, let ⟨t, n, e⟩ := S.attrs; ⟨t, n, q _ e⟩, let ⟨es, ep, e, b⟩ := S.dict; ⟨es, ep, q _ e, b⟩⟩
theorem LawInv.setIn (I : LawInv prog w g ti ow R Ls Lr x dx d r l lr) (i : Fin 3) : SetIn prog w ti R (x i) (dx i) (d i) (l i) := ⟨I.obj i, I.attrs i, I.dict i⟩
theorem SetIn.off {env : Env} (S : SetIn prog w ti R x' dx' d' l₂) (I : LawInv prog w g ti ow R Ls Lr x dx d r l lr) (hf : env.frame = some L) (F : Fr g L h m) (N : News g L h R) (hD : RowIn ti R Ls Lr D al) : OffF [env] ti [x', dx', d', D] := by
  refine ⟨fun b hb => ?_, fun b o e c => nL_of hf ?_⟩
  · simp only [List.mem_cons, List.not_mem_nil, or_false] at hb
    rcases hb with rfl | rfl | rfl | rfl
    · exact nL_of hf (N _ S.obj).2.1
    · obtain ⟨_, _, e⟩ := S.attrs; exact nL_of hf (N _ e).2.1
    · obtain ⟨_, _, e, _⟩ := S.dict; exact nL_of hf (N _ e).2.1
    · obtain ⟨⟨_, _, e, _⟩, _⟩ := hD; exact nL_of hf (N _ e).2.1
  · rcases I.tis b o e c with q | q
    · exact fun z => by rw [z, kts_self F] at q; cases q
    · exact (N _ q).2.1
theorem newsR (N : News g L h N₀) (hN : ∀ p ∈ ow ++ R, p ∈ N₀) : News g L h R := fun p hp => N p (hN p (List.mem_append_right _ hp))
theorem LawInv.nd (I : LawInv prog w g ti ow R Ls Lr x dx d r l lr) (i : Fin 3) : (l i).Nodup := let ⟨_, _, _, b⟩ := I.dict i; b.nd
theorem stayS (c : ChgS [D] [envOf qual scope L f cdv] h h') (N : News g L h N₀) : ∀ p ∈ N₀, p.1 ≠ D → h'.get? p.1 = some p.2 := fun p hp q => (c p.1 p.2 (by simpa using q) (N p hp).1).1 (nL_of rfl (N p hp).2.1)
theorem stayS0 (c : ChgS [] [envOf qual scope L f cdv] h h') (N : News g L h N₀) : ∀ p ∈ N₀, h'.get? p.1 = some p.2 := fun p hp => (c p.1 p.2 (by simp) (N p hp).1).1 (nL_of rfl (N p hp).2.1)
theorem frS0 (F : Fr g L h m) (c : ChgS [] [envOf qual scope L f cdv] h h') : Fr g L h' m := (fr_keptS (env := envOf qual scope L f cdv) rfl F c (by simp)).1
theorem LawInv.frS (I : LawInv prog w g ti ow R Ls Lr x dx d r l lr) (N : News g L h R) (F : Fr g L h m) (c : ChgS [d i] [envOf qual scope L f cdv] h h') : Fr g L h' m := by
  obtain ⟨es, ep, a, _⟩ := I.dict i
  exact (fr_keptS (env := envOf qual scope L f cdv) rfl F c (fun b hb => by rw [List.mem_singleton.mp hb]; exact ⟨(N _ a).2.2, (N _ a).2.1⟩)).1
theorem fresh_ne (N : News g L h R) (hm : (D, o) ∈ R) {a : Addr} (ha : h.get? a = none) : a ≠ D := fun e => by rw [e, (N _ hm).1] at ha; cases ha
theorem call_change (C : Cx w A base [] mean mg mb h₀ 40) (B : Below A base [] g) (F : Fr g L s.heap m) (N : News g L s.heap N₀) (I : LawInv prog w g ti ow R Ls Lr x dx d r l lr) (hN : ∀ p ∈ ow ++ R, p ∈ N₀) (hl : lr i = l i) (hv : ItemAt ti v it) (h0 : 0 ≤ kd) (h6 : kd < 6)
    (h : ∀ h' tk R' D l₂, Fr g L h' m → News g L h' (ow ++ R') → LawInv prog w g ti ow R' Ls Lr x dx d r (upd l i l₂) lr → RowIn ti R' Ls Lr D l₂ → Q (.ref D) { s with heap := h', toks := tk }) (hk : scope.kind = .function := by rfl) :
    wpAny (model prog w) (A.deeper (envOf qual scope L f cdv)) (call (.ref 341) [.ref (x i), .ref (r i), .int kd t₀, v]) Q E s := by
  have NR := newsR N hN
  have Ci := C.inner (qual := qual) (scope := scope) (f := f) (cdv := cdv) B F hk
  have Ti := I.tup F NR
  have S := I.set NR i
  have O : Own base [envOf qual scope L f cdv] (d i) := I.own B.stays rfl NR i
  have OF : OffF [envOf qual scope L f cdv] ti [x i, dx i, d i, r i] := I.off rfl F NR i (I.rowIn i)
  have Ra : RowIs ti s.heap (r i) (l i) := hl ▸ I.rowIs NR i
  have fin : ∀ h' tk D l₂, ChgS [d i] [envOf qual scope L f cdv] s.heap h' → SetIs prog w ti h' (x i) (dx i) (d i) l₂ → RowIs ti h' D l₂ → (D = r i ∨ s.heap.get? D = none) → Q (.ref D) { s with heap := h', toks := tk } := by
    intro h' tk D l₂ c S' Ra' hD
    have F' := I.frS NR F c
    obtain ⟨vs', n', e', q⟩ := Ra'
    rcases hD with rfl | hD
    · obtain ⟨R', N', I', sub⟩ := I.chg (ps := []) F N hN (stayS c N) S' (by simp)
      obtain ⟨vs, n, hm, _⟩ := I.row i
      have hm' := sub _ hm (I.off_d NR hm list_ne_dict i)
      have e := (N' _ (List.mem_append_right _ hm')).1
      rw [e'] at e
      exact h h' tk R' _ l₂ F' N' I' ⟨⟨vs', n', (Option.some.inj e) ▸ hm', q⟩, I.neR i⟩
    · obtain ⟨R', N', I', sub⟩ := I.chg (ps := [(D, listOf vs'.toArray n')]) F N hN (stayS c N) S' (fun p hp => by rw [List.mem_singleton.mp hp]; exact ⟨e', hD⟩)
      obtain ⟨es, ep, hm, _⟩ := I.dict i
      obtain ⟨_, hs, _⟩ := I.sets
      obtain ⟨_, hr, _⟩ := I.rows
      exact h h' tk R' D l₂ F' N' I' ⟨⟨vs', n', sub _ (.head _) (fresh_ne NR hm hD), q⟩, fresh_ne NR hs hD, fresh_ne NR hr hD⟩
  have fin0 : ∀ h' tk, ChgS [] [envOf qual scope L f cdv] s.heap h' → Q (.ref (r i)) { s with heap := h', toks := tk } := fun h' tk c =>
    fin h' tk (r i) (l i) (c.mono (by simp)) (S.keep fun b o hb e => (c b o (by simp) e).1 (OF.1 b (by simp only [List.mem_cons, List.not_mem_nil, or_false] at hb ⊢; rcases hb with a | a | a <;> simp [a]))) (let ⟨vs, n, e, q⟩ := Ra; ⟨vs, n, (c _ _ (by simp) e).1 (OF.1 _ (by simp)), q⟩) (.inl rfl)
  rcases Int.lt_or_le kd 3 with q | q
  · exact wpAny_call (change_add (k := 31) Ci Ti S O Ra hv q fun h' tk D a b c e => fin h' tk D _ a b c e)
  rcases (by omega : kd = 3 ∨ kd = 4 ∨ kd = 5) with rfl | rfl | rfl
  · by_cases hi : it ∈ l i
    · exact wpAny_call (change_rem (k := 31) Ci Ti S O Ra hv rfl hi fun h' tk D a b c e => fin h' tk D _ a b c e)
    · exact wpAny_call (change_rem_out (k := 31) Ci Ti S OF Ra hv hi fun h' tk c => fin0 h' tk c)
  · exact wpAny_call (change_disc (k := 31) Ci Ti S O Ra hv rfl fun h' tk D a b c e => fin h' tk D _ a b c e)
  · rcases List.eq_nil_or_concat (l i) with z | ⟨l₀, i₀, z⟩
    · exact wpAny_call (change_pop_out (k := 31) Ci Ti (z ▸ S) OF (z ▸ Ra) fun h' tk c => fin0 h' tk c)
    · rw [List.concat_eq_append] at z
      rw [z] at S Ra
      exact wpAny_call (change_pop (k := 31) Ci Ti S O Ra rfl fun h' tk D a b c e => fin h' tk D _ a b c e)
/-- after a call that has changed one Set and nothing else -/
theorem one_chg (F : Fr g L s.heap m) (N : News g L s.heap N₀) (I : LawInv prog w g ti ow R Ls Lr x dx d r l lr) (hN : ∀ p ∈ ow ++ R, p ∈ N₀) (c : Chg [d i] s.heap h') (S' : SetIs prog w ti h' (x i) (dx i) (d i) l₂) :
    ∃ R', Fr g L h' m ∧ News g L h' (ow ++ R') ∧ LawInv prog w g ti ow R' Ls Lr x dx d r (upd l i l₂) lr ∧ ∀ p ∈ R, p.1 ≠ d i → p ∈ R' := by
  have NR := newsR N hN
  obtain ⟨es, ep, a, _⟩ := I.dict i
  obtain ⟨R', N', I', sub⟩ := I.chg (ps := []) F N hN (fun p hp q => c p.1 p.2 (by simpa using q) (N p hp).1) S' (by simp)
  exact ⟨R', Fr.chg F c (fun b hb => by rw [List.mem_singleton.mp hb]; exact ⟨(NR _ a).2.2, (NR _ a).2.1⟩), N', I', sub⟩
theorem call_sign (C : Cx w A base [] mean mg mb h₀ 40) (B : Below A base [] g) (F : Fr g L s.heap m) (N : News g L s.heap N₀) (I : LawInv prog w g ti ow R Ls Lr x dx d r l lr) (hN : ∀ p ∈ ow ++ R, p ∈ N₀)
    (h : ∀ h' tk R', Fr g L h' m → News g L h' (ow ++ R') → LawInv prog w g ti ow R' Ls Lr x dx d r (upd l i (due kd (l i) (l j))) lr → Q (.ref (x i)) { s with heap := h', toks := tk }) (hk : scope.kind = .function := by rfl) :
    wpAny (model prog w) (A.deeper (envOf qual scope L f cdv)) (call (.ref 305) [.int kd t₀, .ref (x i), .ref (x j)]) Q E s := by
  have NR := newsR N hN
  have Ci := C.inner (qual := qual) (scope := scope) (f := f) (cdv := cdv) B F hk
  have O : Own base [envOf qual scope L f cdv] (d i) := I.own B.stays rfl NR i
  have fin : ∀ h' tk, Chg [d i] s.heap h' → SetIs prog w ti h' (x i) (dx i) (d i) (due kd (l i) (l j)) → Q (.ref (x i)) { s with heap := h', toks := tk } := fun h' tk c S' =>
    let ⟨R', F', N', I', _⟩ := one_chg F N I hN c S'; h h' tk R' F' N' I'
  by_cases q : i = j
  · subst q; exact wpAny_call (by_sign_self (k := 30) Ci (I.tup F NR) (I.set NR i) O fin)
  · exact wpAny_call (by_sign_code (k := 30) Ci (I.tup F NR) (I.set NR i) O (I.set NR j) (I.neX _ _ q) (I.neD _ _ q) fin)
theorem call_name (C : Cx w A base [] mean mg mb h₀ 40) (B : Below A base [] g) (F : Fr g L s.heap m) (N : News g L s.heap N₀) (I : LawInv prog w g ti ow R Ls Lr x dx d r l lr) (hN : ∀ p ∈ ow ++ R, p ∈ N₀)
    (h : ∀ h' tk R', Fr g L h' m → News g L h' (ow ++ R') → LawInv prog w g ti ow R' Ls Lr x dx d r (upd l i (due kd (l i) (l j))) lr → Q (.ref (x i)) { s with heap := h', toks := tk }) (hk : scope.kind = .function := by rfl) :
    wpAny (model prog w) (A.deeper (envOf qual scope L f cdv)) (call (.ref 312) [.int kd t₀, .ref (x i), .ref (x j)]) Q E s := by
  have NR := newsR N hN
  have Ci := C.inner (qual := qual) (scope := scope) (f := f) (cdv := cdv) B F hk
  have O : Own base [envOf qual scope L f cdv] (d i) := I.own B.stays rfl NR i
  have fin : ∀ h' tk, Chg [d i] s.heap h' → SetIs prog w ti h' (x i) (dx i) (d i) (due kd (l i) (l j)) → Q (.ref (x i)) { s with heap := h', toks := tk } := fun h' tk c S' =>
    let ⟨R', F', N', I', _⟩ := one_chg F N I hN c S'; h h' tk R' F' N' I'
  by_cases q : i = j
  · subst q; exact wpAny_call (by_name_self (k := 30) Ci (I.tup F NR) (I.set NR i) O fin)
  · exact wpAny_call (by_name_code (k := 30) Ci (I.tup F NR) (I.set NR i) O (I.set NR j) (I.neX _ _ q) (I.neD _ _ q) fin)
theorem call_clear (C : Cx w A base [] mean mg mb h₀ 40) (B : Below A base [] g) (F : Fr g L s.heap m) (N : News g L s.heap N₀) (I : LawInv prog w g ti ow R Ls Lr x dx d r l lr) (hN : ∀ p ∈ ow ++ R, p ∈ N₀)
    (h : ∀ h' tk R', Fr g L h' m → News g L h' (ow ++ R') → LawInv prog w g ti ow R' Ls Lr x dx d r (upd l i []) lr → Q .none { s with heap := h', toks := tk }) (hk : scope.kind = .function := by rfl) :
    wpAny (model prog w) (A.deeper (envOf qual scope L f cdv)) (call (.ref 211) [.ref (x i)]) Q E s := by
  have NR := newsR N hN
  have Ci := C.inner (qual := qual) (scope := scope) (f := f) (cdv := cdv) B F hk
  have O : Own base [envOf qual scope L f cdv] (d i) := I.own B.stays rfl NR i
  exact wpAny_call (clear_code (k := 37) Ci (I.tup F NR) (I.set NR i) O fun h' tk c S' => let ⟨R', F', N', I', _⟩ := one_chg F N I hN c S'; h h' tk R' F' N' I')
theorem call_update {vs : List Value} {is : List (Fin 9)} {nl : Nat} (C : Cx w A base [] mean mg mb h₀ 40) (B : Below A base [] g) (F : Fr g L s.heap m) (N : News g L s.heap N₀) (I : LawInv prog w g ti ow R Ls Lr x dx d r l lr) (hN : ∀ p ∈ ow ++ R, p ∈ N₀)
    (hL : (D, listOf vs.toArray nl) ∈ N₀) (hr : Row ti vs is)
    (h : ∀ h' tk R', Fr g L h' m → News g L h' (ow ++ R') → LawInv prog w g ti ow R' Ls Lr x dx d r (upd l i (is.foldl addL (l i))) lr → Q .none { s with heap := h', toks := tk }) (hk : scope.kind = .function := by rfl) :
    wpAny (model prog w) (A.deeper (envOf qual scope L f cdv)) (call (.ref 204) [.ref (x i), .ref D]) Q E s := by
  have NR := newsR N hN
  have Ci := C.inner (qual := qual) (scope := scope) (f := f) (cdv := cdv) B F hk
  have O : Own base [envOf qual scope L f cdv] (d i) := I.own B.stays rfl NR i
  exact wpAny_call (update_code (k := 35) Ci (I.tup F NR) (I.set NR i) O (N _ hL).1 (fun j v => hr.get) hr.length fun h' tk c S' => let ⟨R', F', N', I', _⟩ := one_chg F N I hN c S'; h h' tk R' F' N' I')

theorem call_due (C : Cx w A base [] mean mg mb h₀ 40) (B : Below A base [] g) (F : Fr g L s.heap m) (N : News g L s.heap N₀) (I : LawInv prog w g ti ow R Ls Lr x dx d r l lr) (hN : ∀ p ∈ ow ++ R, p ∈ N₀)
    (Da : RowIn ti N₀ Ls Lr ra al) (Db : RowIn ti N₀ Ls Lr rb bl) (ha : al.length ≤ 100) (hb : bl.length ≤ 100)
    (h : ∀ h' tk R' D, Fr g L h' m → News g L h' (ow ++ R') → LawInv prog w g ti ow R' Ls Lr x dx d r l lr → RowIn ti R' Ls Lr D (due kd al bl) → Q (.ref D) { s with heap := h', toks := tk }) (hk : scope.kind = .function := by rfl) :
    wpAny (model prog w) (A.deeper (envOf qual scope L f cdv)) (call (.ref 298) [.int kd t₀, .ref ra, .ref rb]) Q E s := by
  have NR := newsR N hN
  have Ci := C.inner (qual := qual) (scope := scope) (f := f) (cdv := cdv) B F hk
  refine wpAny_call (due_code (k := 35) Ci (I.tup F NR) (Da.is N) (Db.is N) ha hb fun h' tk D c fr q => ?_)
  obtain ⟨vs, n, e, q⟩ := q
  have hD := fr D (by simp)
  obtain ⟨N', I'⟩ := I.none (ps := [(D, listOf vs.toArray n)]) F N hN (fun p hp => c p.1 p.2 (by simp) (N p hp).1) (fun p hp => by rw [List.mem_singleton.mp hp]; exact ⟨e, hD⟩)
  obtain ⟨_, hs, _⟩ := I.sets
  obtain ⟨_, hr, _⟩ := I.rows
  exact h h' tk _ D (Fr.chg F c (by simp)) N' I' ⟨⟨vs, n, .head _, q⟩, fresh_ne NR hs hD, fresh_ne NR hr hD⟩
theorem call_refused (C : Cx w A base [] mean mg mb h₀ 40) (B : Below A base [] g) (F : Fr g L s.heap m) (N : News g L s.heap N₀) (I : LawInv prog w g ti ow R Ls Lr x dx d r l lr) (hN : ∀ p ∈ ow ++ R, p ∈ N₀)
    (h : ∀ h' tk, Fr g L h' m → News g L h' N₀ → Q (.bool true) { s with heap := h', toks := tk }) (hk : scope.kind = .function := by rfl) :
    wpAny (model prog w) (A.deeper (envOf qual scope L f cdv)) (call (.ref 319) [.ref (x i), .int kd t₀]) Q E s := by
  have NR := newsR N hN
  have Ci := C.inner (qual := qual) (scope := scope) (f := f) (cdv := cdv) B F hk
  exact wpAny_call (refused_code (k := 31) Ci (I.tup F NR) (I.set NR i) fun h' tk c => h h' tk (frS0 F c) (fun p hp => ⟨stayS0 c N p hp, (N p hp).2⟩))
theorem call_isrow (C : Cx w A base [] mean mg mb h₀ 40) (B : Below A base [] g) (F : Fr g L s.heap m) (N : News g L s.heap N₀) (I : LawInv prog w g ti ow R Ls Lr x dx d r l lr) (hN : ∀ p ∈ ow ++ R, p ∈ N₀)
    (S : SetIn prog w ti R x' dx' d' l₂) (hD : RowIn ti R Ls Lr D l₂)
    (h : ∀ h' tk, Fr g L h' m → News g L h' N₀ → Q (.bool true) { s with heap := h', toks := tk }) (hk : scope.kind = .function := by rfl) :
    wpAny (model prog w) (A.deeper (envOf qual scope L f cdv)) (call (.ref 331) [.ref x', .ref D]) Q E s := by
  have NR := newsR N hN
  have Ci := C.inner (qual := qual) (scope := scope) (f := f) (cdv := cdv) B F hk
  exact wpAny_call (is_row_code (k := 31) Ci (I.tup F NR) (S.is NR) (hD.is NR) (S.off I rfl F NR hD) fun h' tk c => h h' tk (frS0 F c) (fun p hp => ⟨stayS0 c N p hp, (N p hp).2⟩))
theorem call_related (C : Cx w A base [] mean mg mb h₀ 40) (B : Below A base [] g) (F : Fr g L s.heap m) (N : News g L s.heap N₀) (I : LawInv prog w g ti ow R Ls Lr x dx d r l l) (hN : ∀ p ∈ ow ++ R, p ∈ N₀)
    (h : ∀ h' tk, Fr g L h' m → News g L h' N₀ → Q (.bool true) { s with heap := h', toks := tk }) (hk : scope.kind = .function := by rfl) :
    wpAny (model prog w) (A.deeper (envOf qual scope L f cdv)) (call (.ref 336) [.ref (x i), .ref (x j), .ref (r i), .ref (r j)]) Q E s := by
  have NR := newsR N hN
  have Ci := C.inner (qual := qual) (scope := scope) (f := f) (cdv := cdv) B F hk
  exact wpAny_call (related_code (k := 31) Ci (I.tup F NR) (I.set NR i) (I.set NR j) (I.rowIs NR i) (I.rowIs NR j) fun h' tk c => h h' tk (Fr.chg F c (by simp)) (fun p hp => ⟨c p.1 p.2 (by simp) (N p hp).1, (N p hp).2⟩))
theorem call_copy (C : Cx w A base [] mean mg mb h₀ 40) (B : Below A base [] g) (F : Fr g L s.heap m) (N : News g L s.heap N₀) (I : LawInv prog w g ti ow R Ls Lr x dx d r l lr) (hN : ∀ p ∈ ow ++ R, p ∈ N₀)
    (h : ∀ h' tk R' z dz e, Fr g L h' m → News g L h' (ow ++ R') → LawInv prog w g ti ow R' Ls Lr x dx d r l lr → SetIn prog w ti R' z dz e (l i) → (∀ j, z ≠ x j ∧ e ≠ d j) → Q (.ref z) { s with heap := h', toks := tk }) (hk : scope.kind = .function := by rfl) :
    wpAny (model prog w) (A.deeper (envOf qual scope L f cdv)) (call (.ref 71) [.ref (x i)]) Q E s := by
  have NR := newsR N hN
  have Ci := C.inner (qual := qual) (scope := scope) (f := f) (cdv := cdv) B F hk
  refine wpAny_call (copy_code (k := 34) Ci (I.tup F NR) (I.set NR i) fun h' tk z dz e c fr S => ?_)
  obtain ⟨a1, ⟨t, n, a2⟩, es, ep, a3, a4⟩ := S
  obtain ⟨N', I'⟩ := I.none (ps := [(z, instObj 275 dz), (dz, setAttrs w t n e), (e, dictOf es ep)]) F N hN (fun p hp => c p.1 p.2 (by simp) (N p hp).1) (fun p hp => by
    simp only [List.mem_cons, List.not_mem_nil, or_false] at hp
    rcases hp with rfl | rfl | rfl
    · exact ⟨a1, fr _ (by simp)⟩
    · exact ⟨a2, fr _ (by simp)⟩
    · exact ⟨a3, fr _ (by simp)⟩)
  exact h h' tk _ z dz e (Fr.chg F c (by simp)) N' I' ⟨.head _, ⟨t, n, .tail _ (.head _)⟩, es, ep, .tail _ (.tail _ (.head _)), a4⟩ fun j => ⟨fresh_ne NR (I.obj j) (fr _ (by simp)), let ⟨_, _, q, _⟩ := I.dict j; fresh_ne NR q (fr _ (by simp))⟩
end
end
section
open PySem PySem.W PySem.Calls PyProof.Rows
section
variable {prog : Program} {w : World} {A : Around} {E : Value → Shared → Prop} {base ti g h h' h₀ : Heap} {mean : ExcName → Option Value} {mg mb : Str → Option Value} {s : Shared} {k : Nat}
  {ow R R' ps N₀ : List (Addr × Obj)} {Ls Lr L D f ra rb : Addr} {x dx d r : Fin 3 → Addr} {l lr : Fin 3 → List (Fin 9)} {m : Str → Option Value} {i j : Fin 3} {l₂ al bl : List (Fin 9)} {o : Obj} {kd : Int} {t₀ u : Nat}
  {x' dx' d' : Addr} {qual : Str} {scope : Scope} {cdv v : Value} {it : Fin 9} {Q : Value → Shared → Prop} {at_ : Int}
theorem call_new (C : Cx w A base [] mean mg mb h₀ 40) (B : Below A base [] g) (F : Fr g L s.heap m) (N : News g L s.heap N₀) (I : LawInv prog w g ti ow R Ls Lr x dx d r l lr) (hN : ∀ p ∈ ow ++ R, p ∈ N₀)
    (h : ∀ (h' : Heap) (tk : Nat) (R' : List (Addr × Obj)) (D : Addr) (z dz e : Fin 3 → Addr), Fr g L h' m → News g L h' (ow ++ R') → LawInv prog w g ti ow R' Ls Lr x dx d r l lr → (D, { cls := .type "tuple", data := .seq (refs3 z) }) ∈ R' → (∀ k, SetIn prog w ti R' (z k) (dz k) (e k) (due kd (l i) (l j))) → (∀ k j, z k ≠ x j ∧ e k ≠ d j) → (∀ p ∈ R, p ∈ R') → Q (.ref D) { s with heap := h', toks := tk }) (hk : scope.kind = .function := by rfl) :
    wpAny (model prog w) (A.deeper (envOf qual scope L f cdv)) (call (.ref 293) [.int kd t₀, .ref (x i), .ref (x j)]) Q E s := by
  have NR := newsR N hN
  have Ci := C.inner (qual := qual) (scope := scope) (f := f) (cdv := cdv) B F hk
  refine wpAny_call (new_code (k := 29) Ci (I.tup F NR) (I.set NR i) (I.set NR j) fun h' tk D z1 dz1 e1 z2 dz2 e2 z3 dz3 e3 gD c S1 S2 S3 fr => ?_)
  obtain ⟨a1, ⟨t1, n1, b1⟩, es1, ep1, c1, q1⟩ := S1
  obtain ⟨a2, ⟨t2, n2, b2⟩, es2, ep2, c2, q2⟩ := S2
  obtain ⟨a3, ⟨t3, n3, b3⟩, es3, ep3, c3, q3⟩ := S3
  obtain ⟨N', I'⟩ := I.none (ps := [(D, { cls := .type "tuple", data := .seq (refs3 (tri z1 z2 z3)) }), (z1, instObj 275 dz1), (dz1, setAttrs w t1 n1 e1), (e1, dictOf es1 ep1), (z2, instObj 275 dz2), (dz2, setAttrs w t2 n2 e2), (e2, dictOf es2 ep2), (z3, instObj 275 dz3), (dz3, setAttrs w t3 n3 e3), (e3, dictOf es3 ep3)]) F N hN (fun p hp => c p.1 p.2 (by simp) (N p hp).1) (fun p hp => by
    simp only [List.mem_cons, List.not_mem_nil, or_false] at hp
    rcases hp with rfl | rfl | rfl | rfl | rfl | rfl | rfl | rfl | rfl | rfl
    · exact ⟨gD, fr _ (by simp)⟩
    · exact ⟨a1, fr _ (by simp)⟩
    · exact ⟨b1, fr _ (by simp)⟩
    · exact ⟨c1, fr _ (by simp)⟩
    · exact ⟨a2, fr _ (by simp)⟩
    · exact ⟨b2, fr _ (by simp)⟩
    · exact ⟨c2, fr _ (by simp)⟩
    · exact ⟨a3, fr _ (by simp)⟩
    · exact ⟨b3, fr _ (by simp)⟩
    · exact ⟨c3, fr _ (by simp)⟩)
  have ne : ∀ {z e : Addr}, s.heap.get? z = none → s.heap.get? e = none → ∀ j, z ≠ x j ∧ e ≠ d j := fun h1 h2 j => ⟨fresh_ne NR (I.obj j) h1, let ⟨_, _, q, _⟩ := I.dict j; fresh_ne NR q h2⟩
  refine h h' tk _ D (tri z1 z2 z3) (tri dz1 dz2 dz3) (tri e1 e2 e3) (Fr.chg F c (by simp)) N' I' (.head _) (all3 ?_ ?_ ?_) (all3 (P := fun k => ∀ j, tri z1 z2 z3 k ≠ x j ∧ tri e1 e2 e3 k ≠ d j) (ne (fr z1 (by simp)) (fr e1 (by simp))) (ne (fr z2 (by simp)) (fr e2 (by simp))) (ne (fr z3 (by simp)) (fr e3 (by simp)))) fun p hp => List.mem_append_right _ hp
  · exact ⟨.tail _ (.head _), ⟨t1, n1, .tail _ (.tail _ (.head _))⟩, es1, ep1, .tail _ (.tail _ (.tail _ (.head _))), q1⟩
  · exact ⟨.tail _ (.tail _ (.tail _ (.tail _ (.head _)))), ⟨t2, n2, .tail _ (.tail _ (.tail _ (.tail _ (.tail _ (.head _)))))⟩, es2, ep2, .tail _ (.tail _ (.tail _ (.tail _ (.tail _ (.tail _ (.head _)))))), q2⟩
  · exact ⟨.tail _ (.tail _ (.tail _ (.tail _ (.tail _ (.tail _ (.tail _ (.head _))))))), ⟨t3, n3, .tail _ (.tail _ (.tail _ (.tail _ (.tail _ (.tail _ (.tail _ (.tail _ (.head _))))))))⟩, es3, ep3, .tail _ (.tail _ (.tail _ (.tail _ (.tail _ (.tail _ (.tail _ (.tail _ (.tail _ (.head _))))))))), q3⟩
theorem call_items (C : Cx w A base [] mean mg mb h₀ 40) (B : Below A base [] g) (F : Fr g L s.heap m) (N : News g L s.heap N₀) (I : LawInv prog w g ti ow R Ls Lr x dx d r l lr) (hN : ∀ p ∈ ow ++ R, p ∈ N₀)
    (h : ∀ h' tk ti' R' D vs n, Fr g L h' m → News g L h' (ow ++ R') → LawInv prog w g ti' ow R' Ls Lr x dx d r l lr → (D, listOf (List.toArray vs) n) ∈ R' → Row ti' vs all9 → Q (.ref D) { s with heap := h', toks := tk }) (hk : scope.kind = .function := by rfl) :
    wpAny (model prog w) (A.deeper (envOf qual scope L f cdv)) (call (.ref 286) []) Q E s := by
  have NR := newsR N hN
  have Ci := C.inner (qual := qual) (scope := scope) (f := f) (cdv := cdv) B F hk
  refine wpAny_call (items_code (k := 38) Ci (I.tup F NR) fun h' tk D T1 T2 o1 o2 vs n c fr gD g1 g2 row => ?_)
  obtain ⟨N', I'⟩ := I.none (ps := [(D, listOf vs.toArray n), (T1, o1), (T2, o2)]) F N hN (fun p hp => c p.1 p.2 (by simp) (N p hp).1) (fun p hp => by
    simp only [List.mem_cons, List.not_mem_nil, or_false] at hp
    rcases hp with rfl | rfl | rfl
    · exact ⟨gD, fr _ (by simp)⟩
    · exact ⟨g1, fr _ (by simp)⟩
    · exact ⟨g2, fr _ (by simp)⟩)
  have F' : Fr g L h' m := Fr.chg F c (by simp)
  have NR' : News g L h' ([(D, listOf vs.toArray n), (T1, o1), (T2, o2)] ++ R) := fun p hp => N' p (List.mem_append_right _ hp)
  have get := fun b o => cut_get (b := b) (o := o) F' NR' (ps := [(D, listOf vs.toArray n), (T1, o1), (T2, o2)] ++ R) (fun p hp => hp)
  have mT1 : (T1, o1) ∈ [(D, listOf vs.toArray n), (T1, o1), (T2, o2)] ++ R := .tail _ (.head _)
  have mT2 : (T2, o2) ∈ [(D, listOf vs.toArray n), (T1, o1), (T2, o2)] ++ R := .tail _ (.tail _ (.head _))
  have ct := cut_of F' NR' (ps := [(D, listOf vs.toArray n), (T1, o1), (T2, o2)] ++ R) (fun p hp => hp)
  generalize hti : cutTo g h' (([(D, listOf vs.toArray n), (T1, o1), (T2, o2)] ++ R).map (·.1)) = ti' at get ct
  have up : TupIn ti ti' := fun b o e c => get b o ((I.tis b o e c).imp id fun q => List.mem_append_right _ q)
  have I2 := I'.tiUp up fun b o e _ => ct b o e
  have g1' := get T1 o1 (.inr mT1)
  have g2' := get T2 o2 (.inr mT2)
  exact h h' tk ti' _ D vs n F' N' I2 (.head _) (row ti' g1' g2')
/-- reads of the law's lists -/
theorem sub_tri {value slice : PySem.Expr} (hl : s.heap.IsList D (refs3 x)) (ha : at_ = (i.val : Int)) (h : Q (.ref (x i)) s)
    (hs : subscripted slice false (.ref D) (.int at_ u) = operate [.ref D, .int at_ u] (getItem (.ref D) (.int at_ u)) := by with_unfolding_all rfl) :
    wpAny (model prog w) A (subscriptTail value slice (.ref D) (.int at_ u)) Q E s := by
  have := i.isLt
  refine tail_any hl.typeIs slot_list_getitem.lookup (wpAny_getItem_list hl (by omega) (by omega) ?_ h) hs
  rw [ha]; exact refs3_get
theorem LawInv.setsL (I : LawInv prog w g ti ow R Ls Lr x dx d r l lr) (N : News g L h N₀) (hN : ∀ p ∈ ow ++ R, p ∈ N₀) : h.IsList Ls (refs3 x) := let ⟨o, a, b, c⟩ := I.sets; ⟨o, (newsR N hN _ a).1, b, c⟩
theorem LawInv.rowsL (I : LawInv prog w g ti ow R Ls Lr x dx d r l lr) (N : News g L h N₀) (hN : ∀ p ∈ ow ++ R, p ∈ N₀) : h.IsList Lr (refs3 r) := let ⟨o, a, b, c⟩ := I.rows; ⟨o, (newsR N hN _ a).1, b, c⟩
theorem updR_in {a : Addr} (p : Addr × Obj) (hp : p ∈ updR R a o) : p = (a, o) ∨ (p ∈ R ∧ p.1 ≠ a) := by
  obtain ⟨q, hq, rfl⟩ := List.mem_map.mp hp
  by_cases e : q.1 = a
  · rw [if_pos e]; exact .inl rfl
  · rw [if_neg e]; exact .inr ⟨hq, e⟩
theorem news_upd {a : Addr} {o o' : Obj} (N : News g L h N₀) (hN : ∀ p ∈ ow ++ R, p ∈ N₀) (hm : (a, o) ∈ R) (sep : ∀ p ∈ R, ∀ q ∈ ow, p.1 ≠ q.1) (c : ∀ b, b ≠ a → h'.get? b = h.get? b) (ha : h'.get? a = some o') : News g L h' (ow ++ updR R a o') ∧ ∀ p ∈ updR R a o', ∀ q ∈ ow, p.1 ≠ q.1 := by
  refine ⟨fun p hp => ?_, fun p hp q hq => ?_⟩
  · rcases List.mem_append.mp hp with hp | hp
    · have P := N p (hN p (List.mem_append_left _ hp))
      exact ⟨(c _ (sep _ hm p hp).symm).trans P.1, P.2⟩
    · rcases updR_in p hp with rfl | ⟨hp, q⟩
      · exact ⟨ha, (N _ (hN _ (List.mem_append_right _ hm))).2⟩
      · have P := N p (hN p (List.mem_append_right _ hp))
        exact ⟨(c _ q).trans P.1, P.2⟩
  · rcases updR_in p hp with rfl | ⟨hp, _⟩
    · exact sep _ hm q hq
    · exact sep _ hp q hq
theorem off_of (N : News g L h R) {a : Addr} {o o' : Obj} (ha : (a, o) ∈ R) (hm : (D, o') ∈ R) (ho : o'.cls ≠ o.cls) : D ≠ a := fun e => by
  have := News.inj N (e ▸ hm) ha
  rw [this] at ho; exact ho rfl
theorem set_row {Q : Unit → Shared → Prop} (F : Fr g L s.heap m) (N : News g L s.heap N₀) (I : LawInv prog w g ti ow R Ls Lr x dx d r l lr) (hN : ∀ p ∈ ow ++ R, p ∈ N₀) (hD : RowIn ti R Ls Lr D l₂) (ha : at_ = (i.val : Int))
    (h : ∀ h' R', Fr g L h' m → News g L h' (ow ++ R') → LawInv prog w g ti ow R' Ls Lr x dx d (upd r i D) l (upd lr i l₂) → Q () { s with heap := h' }) :
    wpAny (model prog w) A (setItem (.ref Lr) (.int at_ u) (.ref D)) Q E s := by
  have NR := newsR N hN
  have hi := i.isLt
  obtain ⟨o, hm, hc, n, hd⟩ := I.rows
  refine wpAny_setItem_list ⟨o, (NR _ hm).1, hc, n, hd⟩ (by omega) (by omega) (by show at_ < (3 : Int); omega) fun h' hl' hs => ?_
  rw [show at_.toNat = i.val by omega, refs3_upd] at hl'
  obtain ⟨o', ho', hc', n', hd'⟩ := hl'
  have F' := F.change hs (NR _ hm).2.1 (NR _ hm).2.2
  obtain ⟨N', sep'⟩ := news_upd N hN hm I.sep hs.2 ho'
  have stay : ∀ {b : Addr} {ob : Obj}, (b, ob) ∈ R → b ≠ Lr → (b, ob) ∈ updR R Lr o' := fun q e => updR_other q e
  have off : ∀ {b : Addr} {ob : Obj}, (b, ob) ∈ R → ob.cls ≠ .type "list" → (b, ob) ∈ updR R Lr o' := fun q e => stay q (off_of NR hm q (by rw [hc]; exact e))
  refine h h' _ F' N' ⟨?_, ⟨o', updR_self hm, hc', n', hd'⟩, ?_, ?_, ?_, ?_, I.neX, I.neD, ?_, I.neL, ?_, sep'⟩
  · obtain ⟨os, a, b⟩ := I.sets; exact ⟨os, stay a I.neL, b⟩
  · exact fun j => off (I.obj j) (by intro q; cases q)
  · exact fun j => let ⟨t, n, a⟩ := I.attrs j; ⟨t, n, off a (dict_ne_list)⟩
  · exact fun j => let ⟨es, ep, a, b⟩ := I.dict j; ⟨es, ep, off a (dict_ne_list), b⟩
  · intro j
    by_cases q : j = i
    · subst q
      obtain ⟨⟨vs, n, a, b⟩, _, c⟩ := hD
      rw [upd_self, upd_self]; exact ⟨vs, n, stay a c, b⟩
    · obtain ⟨vs, n, a, b⟩ := I.row j
      rw [upd_ne q, upd_ne q]; exact ⟨vs, n, stay a (I.neR j).2, b⟩
  · exact upd_all (P := fun _ D => D ≠ Ls ∧ D ≠ Lr) hD.2 fun j _ => I.neR j
  · exact fun b o e c => (I.tis b o e c).imp id fun q => off q (by rw [c]; decide)
theorem set_set {Q : Unit → Shared → Prop} (F : Fr g L s.heap m) (N : News g L s.heap N₀) (I : LawInv prog w g ti ow R Ls Lr x dx d r l lr) (hN : ∀ p ∈ ow ++ R, p ∈ N₀) (S : SetIn prog w ti R x' dx' d' l₂) (ne : ∀ j, j ≠ i → x' ≠ x j ∧ d' ≠ d j) (ha : at_ = (i.val : Int))
    (h : ∀ h' R', Fr g L h' m → News g L h' (ow ++ R') → LawInv prog w g ti ow R' Ls Lr (upd x i x') (upd dx i dx') (upd d i d') r (upd l i l₂) lr → (∀ D l, RowIn ti R Ls Lr D l → RowIn ti R' Ls Lr D l) → Q () { s with heap := h' }) :
    wpAny (model prog w) A (setItem (.ref Ls) (.int at_ u) (.ref x')) Q E s := by
  have NR := newsR N hN
  have hi := i.isLt
  obtain ⟨o, hm, hc, n, hd⟩ := I.sets
  refine wpAny_setItem_list ⟨o, (NR _ hm).1, hc, n, hd⟩ (by omega) (by omega) (by show at_ < (3 : Int); omega) fun h' hl' hs => ?_
  rw [show at_.toNat = i.val by omega, refs3_upd] at hl'
  obtain ⟨o', ho', hc', n', hd'⟩ := hl'
  have F' := F.change hs (NR _ hm).2.1 (NR _ hm).2.2
  obtain ⟨N', sep'⟩ := news_upd N hN hm I.sep hs.2 ho'
  have stay : ∀ {b : Addr} {ob : Obj}, (b, ob) ∈ R → b ≠ Ls → (b, ob) ∈ updR R Ls o' := fun q e => updR_other q e
  have off : ∀ {b : Addr} {ob : Obj}, (b, ob) ∈ R → ob.cls ≠ .type "list" → (b, ob) ∈ updR R Ls o' := fun q e => stay q (off_of NR hm q (by rw [hc]; exact e))
  refine h h' _ F' N' ⟨⟨o', updR_self hm, hc', n', hd'⟩, ?_, ?_, ?_, ?_, ?_, ?_, ?_, I.neR, I.neL, ?_, sep'⟩ fun D l q => ?_
  · obtain ⟨os, a, b⟩ := I.rows; exact ⟨os, stay a I.neL.symm, b⟩
  · intro j
    by_cases q : j = i
    · subst q; rw [upd_self, upd_self]; exact off S.obj (by intro q; cases q)
    · rw [upd_ne q, upd_ne q]; exact off (I.obj j) (by intro q; cases q)
  · intro j
    by_cases q : j = i
    · subst q; rw [upd_self, upd_self]; exact let ⟨t, n, a⟩ := S.attrs; ⟨t, n, off a (dict_ne_list)⟩
    · rw [upd_ne q, upd_ne q]; exact let ⟨t, n, a⟩ := I.attrs j; ⟨t, n, off a (dict_ne_list)⟩
  · intro j
    by_cases q : j = i
    · subst q; rw [upd_self, upd_self]; exact let ⟨es, ep, a, b⟩ := S.dict; ⟨es, ep, off a (dict_ne_list), b⟩
    · rw [upd_ne q, upd_ne q]; exact let ⟨es, ep, a, b⟩ := I.dict j; ⟨es, ep, off a (dict_ne_list), b⟩
  · exact fun j => let ⟨vs, n, a, b⟩ := I.row j; ⟨vs, n, stay a (I.neR j).1, b⟩
  · intro a b q
    by_cases q1 : a = i
    · subst q1; rw [upd_self, upd_ne (Ne.symm q)]; exact (ne b (Ne.symm q)).1
    · by_cases q2 : b = i
      · subst q2; rw [upd_self, upd_ne q1]; exact (ne a q1).1.symm
      · rw [upd_ne q1, upd_ne q2]; exact I.neX a b q
  · intro a b q
    by_cases q1 : a = i
    · subst q1; rw [upd_self, upd_ne (Ne.symm q)]; exact (ne b (Ne.symm q)).2
    · by_cases q2 : b = i
      · subst q2; rw [upd_self, upd_ne q1]; exact (ne a q1).2.symm
      · rw [upd_ne q1, upd_ne q2]; exact I.neD a b q
  · exact fun b o e c => (I.tis b o e c).imp id fun q => off q (by rw [c]; decide)
  · obtain ⟨⟨vs, n, a, b⟩, c1, c2⟩ := q
    exact ⟨⟨vs, n, stay a c1, b⟩, c1, c2⟩
end
end
section
open PySem PySem.W PySem.Calls PyProof.Rows
theorem cut_tail {g h : Heap} {L : Addr} {m : Str → Option Value} {R : List (Addr × Obj)} {a : Addr × Obj} (F : Fr g L h m) (N : News g L h (a :: R)) :
    (∀ b o, (cutTo g h (R.map (·.1))).get? b = some o → g.get? b = some o ∨ (b, o) ∈ R) ∧ ∀ b o, (g.get? b = some o ∨ (b, o) ∈ R) → (cutTo g h (R.map (·.1))).get? b = some o :=
  have N' : News g L h R := fun p hp => N p (.tail _ hp)
  ⟨cut_of F N' (fun _ hp => hp), fun _ _ => cut_get F N' (fun _ hp => hp)⟩
theorem tri_all {α β : Type} {P : α → β → Prop} {a b c : α} {a' b' c' : β} (h0 : P a a') (h1 : P b b') (h2 : P c c') : ∀ i, P (tri a b c i) (tri a' b' c' i) := all3 h0 h1 h2
end
section
open PySem PySem.W PySem.Calls PyProof.Rows
abbrev tupObj (v : Value) : Obj := { cls := .type "tuple", data := .seq #[v] }
theorem at_in {R : List (Addr × Obj)} {p : Addr × Obj} (n : Nat) (e : R[n]? = some p) : p ∈ R := List.mem_of_getElem? e
theorem fold2 : [1, 5, 1, 2].foldl addL [] = ([1, 5, 2] : List (Fin 9)) := by decide
theorem fold4 : [8, 2, 6].foldl addL [] = ([8, 2, 6] : List (Fin 9)) := by decide
/-- the law's objects before its loop -/
theorem first_inv {prog : Program} {w : World} {g h tT : Heap} {L D Lr r2 T1 r1 r0 Ls x4 dx4 d4 q4 T0 x2 dx2 d2 q2 x' dx' d' : Addr} {m : Str → Option Value} {oD oq4 oq2 oT0 : Obj} {t' t2 t4 a0 a1 a2 a3 a4 a5 : Tok} {n' n2 n4 ep' ep2 ep4 z0 z1 z2 z3 z4 : Nat} {es' es2 es4 : List DictEntry}
    (F : Fr g L h m) (N : News g L h [(D, oD), (Lr, listOf #[.ref r0, .ref r1, .ref r2] z0), (r2, listOf #[.ref T1, .int 2 a4, .str (Str.ofString "b") a5] z1), (T1, tupObj (.int 2 a3)), (r1, listOf #[.int 1 a0, .str (Str.ofString "a") a1, .int 2 a2] z2), (r0, listOf #[] z3), (Ls, listOf #[.ref x', .ref x2, .ref x4] z4),
      (x4, instObj 275 dx4), (dx4, setAttrs w t4 n4 d4), (d4, dictOf es4 ep4), (q4, oq4), (T0, oT0), (x2, instObj 275 dx2), (dx2, setAttrs w t2 n2 d2), (d2, dictOf es2 ep2), (q2, oq2), (x', instObj 275 dx'), (dx', setAttrs w t' n' d'), (d', dictOf es' ep')])
    (B' : Bears prog w g d' es' []) (B2 : Bears prog w g d2 es2 [1, 5, 2]) (B4 : Bears prog w tT d4 es4 [8, 2, 6]) (hT : ∀ b o, tT.get? b = some o → g.get? b = some o ∨ (b, o) ∈ [(T0, oT0)])
    (e1 : @Ne Nat x' x2) (e2 : @Ne Nat x' x4) (e3 : @Ne Nat x2 x4) (f1 : @Ne Nat d' d2) (f2 : @Ne Nat d' d4) (f3 : @Ne Nat d2 d4)
    (k0 : @Ne Nat r0 Ls) (k1 : @Ne Nat r0 Lr) (k2 : @Ne Nat r1 Ls) (k3 : @Ne Nat r1 Lr) (k4 : @Ne Nat r2 Ls) (k5 : @Ne Nat r2 Lr) (k6 : @Ne Nat Ls Lr) :
    ∃ (ti : Heap) (x dx d r : Fin 3 → Addr) (l : Fin 3 → List (Fin 9)), LawInv prog w g ti [] [(Lr, listOf #[.ref r0, .ref r1, .ref r2] z0), (r2, listOf #[.ref T1, .int 2 a4, .str (Str.ofString "b") a5] z1), (T1, tupObj (.int 2 a3)), (r1, listOf #[.int 1 a0, .str (Str.ofString "a") a1, .int 2 a2] z2), (r0, listOf #[] z3), (Ls, listOf #[.ref x', .ref x2, .ref x4] z4),
      (x4, instObj 275 dx4), (dx4, setAttrs w t4 n4 d4), (d4, dictOf es4 ep4), (q4, oq4), (T0, oT0), (x2, instObj 275 dx2), (dx2, setAttrs w t2 n2 d2), (d2, dictOf es2 ep2), (q2, oq2), (x', instObj 275 dx'), (dx', setAttrs w t' n' d'), (d', dictOf es' ep')] Ls Lr x dx d r l l := by
  obtain ⟨ct, gt⟩ := cut_tail F N
  have up : TupIn g _ := fun b o e _ => gt b o (.inl e)
  have up4 : TupIn tT _ := fun b o e _ => gt b o ((hT b o e).imp id fun q => by rw [List.mem_singleton.mp q]; exact at_in 10 rfl)
  refine ⟨_, tri x' x2 x4, tri dx' dx2 dx4, tri d' d2 d4, tri r0 r1 r2, tri [] [1, 5, 2] [8, 2, 6], ⟨⟨_, at_in 5 rfl, rfl, z4, rfl⟩, ⟨_, at_in 0 rfl, rfl, z0, rfl⟩, all3 (at_in 15 rfl) (at_in 11 rfl) (at_in 6 rfl), all3 ⟨t', n', at_in 16 rfl⟩ ⟨t2, n2, at_in 12 rfl⟩ ⟨t4, n4, at_in 7 rfl⟩,
    all3 ⟨es', ep', at_in 17 rfl, B'.rep.keep up, B'.nd, B'.lo⟩ ⟨es2, ep2, at_in 13 rfl, B2.rep.keep up, B2.nd, B2.lo⟩ ⟨es4, ep4, at_in 8 rfl, B4.rep.keep up4, B4.nd, B4.lo⟩,
    all3 ⟨[], z3, at_in 4 rfl, .nil⟩ ⟨[.int 1 a0, .str (Str.ofString "a") a1, .int 2 a2], z2, at_in 3 rfl, .cons ⟨_, .int _ _⟩ (.cons ⟨_, .str _ _⟩ (.cons ⟨_, .int _ _⟩ .nil))⟩ ⟨[.ref T1, .int 2 a4, .str (Str.ofString "b") a5], z1, at_in 1 rfl, .cons ⟨_, .tuple (gt T1 _ (.inr (at_in 2 rfl))) rfl rfl (.cons (.int _ _) .nil)⟩ (.cons ⟨_, .int _ _⟩ (.cons ⟨_, .str _ _⟩ .nil))⟩,
    tri_ne e1 e2 e3, tri_ne f1 f2 f3, all3 ⟨k0, k1⟩ ⟨k2, k3⟩ ⟨k4, k5⟩, k6, fun b o e _ => ct b o e, by simp⟩⟩
end
section
open PySem PySem.W PySem.Calls PyProof.Rows
/-- marks for the walk's lines -/
def MarkP : Prop := True
theorem markP : MarkP := trivial
theorem fmod_in (a : Int) (n : Int) (h : 0 < n := by decide) : 0 ≤ a.fmod n ∧ a.fmod n < n := by
  rw [Int.fmod_eq_emod_of_nonneg _ (Int.le_of_lt h)]
  exact ⟨Int.emod_nonneg _ (by omega), Int.emod_lt_of_pos _ h⟩
theorem upd_idem {α : Type} {f : Fin 3 → α} {i : Fin 3} : upd f i (f i) = f := by
  funext j; unfold upd; split <;> simp_all
theorem chain5 {m : Str → Option Value} {a1 a2 a3 a4 a5 : Str} {v1 v2 v3 v4 v5 : Value} (h1 : m a1 = some v1) (h2 : m a2 = some v2) (h3 : m a3 = some v3) (h4 : m a4 = some v4) (h5 : m a5 = some v5) :
    (fun y => if y = a1 then some v1 else if y = a2 then some v2 else if y = a3 then some v3 else if y = a4 then some v4 else if y = a5 then some v5 else m y) = m := by
  funext y
  by_cases q1 : y = a1
  · rw [if_pos q1, q1, h1]
  by_cases q2 : y = a2
  · rw [if_neg q1, if_pos q2, q2, h2]
  by_cases q3 : y = a3
  · rw [if_neg q1, if_neg q2, if_pos q3, q3, h3]
  by_cases q4 : y = a4
  · rw [if_neg q1, if_neg q2, if_neg q3, if_pos q4, q4, h4]
  by_cases q5 : y = a5
  · rw [if_neg q1, if_neg q2, if_neg q3, if_neg q4, if_pos q5, q5, h5]
  · rw [if_neg q1, if_neg q2, if_neg q3, if_neg q4, if_neg q5]
/-- after the law's deed: the sets and the rows agree again -/
def MidP (prog : Program) (w : World) (g : Heap) (L : Addr) (ow : List (Addr × Obj)) (Ls Lr : Addr) (kd i j : Int) (s : Shared) (f : Flow) (s' : Shared) : Prop :=
  ∃ (h' : Heap) (tk : Nat) (t1 t2 t3 : Tok) (u : Str → Option Value) (ti : Heap) (R : List (Addr × Obj)) (x dx d r : Fin 3 → Addr) (l : Fin 3 → List (Fin 9)), f = .next ∧ s' = { s with heap := h', toks := tk } ∧
    Fr g L h' (fun y => if y = Str.ofString "j" then some (.int j t3) else if y = Str.ofString "i" then some (.int i t2) else if y = Str.ofString "kind" then some (.int kd t1) else if y = Str.ofString "rows" then some (.ref Lr) else if y = Str.ofString "sets" then some (.ref Ls) else u y) ∧
    News g L h' (ow ++ R) ∧ LawInv prog w g ti ow R Ls Lr x dx d r l l
theorem MidP.intro {prog : Program} {w : World} {g h' ti : Heap} {L Ls Lr : Addr} {m : Str → Option Value} {ow R : List (Addr × Obj)} {x dx d r : Fin 3 → Addr} {l lr : Fin 3 → List (Fin 9)} {kd i j : Int} {s : Shared} {tk : Nat} {t1 t2 t3 : Tok}
    (F : Fr g L h' m) (N : News g L h' (ow ++ R)) (I : LawInv prog w g ti ow R Ls Lr x dx d r l lr) (hl : lr = l) (h1 : m (Str.ofString "j") = some (.int j t3)) (h2 : m (Str.ofString "i") = some (.int i t2)) (h3 : m (Str.ofString "kind") = some (.int kd t1))
    (h4 : m (Str.ofString "rows") = some (.ref Lr)) (h5 : m (Str.ofString "sets") = some (.ref Ls)) : MidP prog w g L ow Ls Lr kd i j s .next { s with heap := h', toks := tk } := by
  refine ⟨h', tk, t1, t2, t3, m, ti, R, x, dx, d, r, l, rfl, rfl, ?_, N, hl ▸ I⟩
  rw [chain5 h1 h2 h3 h4 h5]; exact F
theorem fmod3 (a : Int) : ∃ i : Fin 3, a.fmod 3 = (i.val : Int) := by
  obtain ⟨h0, h1⟩ := fmod_in a 3
  exact ⟨⟨(a.fmod 3).toNat, by omega⟩, by simp; omega⟩
theorem item_of {ti : Heap} {vs : List Value} (r : Row ti vs all9) (a : Int) : ∃ (j : Nat) (v : Value) (it : Fin 9), vs[j]? = some v ∧ ItemAt ti v it ∧ a.fmod 9 = (j : Int) ∧ vs.length ≤ 100 := by
  obtain ⟨h0, h1⟩ := fmod_in a 9
  have hl : vs.length = 9 := r.length
  have hj : (a.fmod 9).toNat < vs.length := by omega
  obtain ⟨it, _, hv⟩ := r.get (List.getElem?_eq_getElem hj)
  exact ⟨_, _, it, List.getElem?_eq_getElem hj, hv, by omega, by omega⟩
end
section
open PySem PySem.W PySem.Calls PyProof.Rows
section
variable {prog : Program} {w : World} {A : Around} {E : Value → Shared → Prop} {base ti g h h' h₀ : Heap} {mean : ExcName → Option Value} {mg mb : Str → Option Value} {s : Shared} {k : Nat}
  {ow R R' ps N₀ : List (Addr × Obj)} {Ls Lr L D f ra rb : Addr} {x dx d r : Fin 3 → Addr} {l lr : Fin 3 → List (Fin 9)} {m : Str → Option Value} {i j : Fin 3} {l₂ al bl : List (Fin 9)} {o : Obj} {kd : Int} {t₀ u : Nat}
  {x' dx' d' : Addr} {qual : Str} {scope : Scope} {cdv v : Value} {it : Fin 9} {Q : Value → Shared → Prop} {at_ : Int}
theorem seq3 {i : Fin 3} : seqIndex? ((i.val : Nat) : Int) 3 = some i.val := by
  exact all3 (P := fun i => seqIndex? ((i.val : Nat) : Int) 3 = some i.val) rfl rfl rfl i
theorem sub_triT {y dy e q : Fin 3 → Addr} {value slice : PySem.Expr} (_I : LawInv prog w g ti ow R Ls Lr y dy e q l lr) (N : News g L s.heap N₀) (hN : ∀ p ∈ ow ++ R, p ∈ N₀) (hD : (D, { cls := .type "tuple", data := .seq (refs3 x) }) ∈ R) (ha : at_ = (i.val : Int)) (h : Q (.ref (x i)) s)
    (hs : subscripted slice false (.ref D) (.int at_ u) = operate [.ref D, .int at_ u] (getItem (.ref D) (.int at_ u)) := by with_unfolding_all rfl) :
    wpAny (model prog w) A (subscriptTail value slice (.ref D) (.int at_ u)) Q E s := by
  have := i.isLt
  have ht : IsTup s.heap D (refs3 x) := ⟨_, (newsR N hN _ hD).1, rfl, _, rfl⟩
  refine tail_any ht.typeIs slot_tuple_getitem.lookup (getItem_tuple ht (by omega) (by omega) (j := i.val) ?_ refs3_get h) hs
  rw [ha]; exact seq3
theorem inst_of (I : LawInv prog w g ti ow R Ls Lr x dx d r l lr) {od : Obj} (hat : (dx i, od) ∈ R) (N : News g L h N₀) (hN : ∀ p ∈ ow ++ R, p ∈ N₀) : InstAt h (x i) (instObj 275 (dx i)) 275 (some od) :=
  ⟨(newsR N hN _ (I.obj i)).1, rfl, rfl, (newsR N hN _ hat).1⟩
theorem at0 : (0 : Int) = (((0 : Fin 3).val : Nat) : Int) := rfl
theorem at1 : (1 : Int) = (((1 : Fin 3).val : Nat) : Int) := rfl
theorem at2 : (2 : Int) = (((2 : Fin 3).val : Nat) : Int) := rfl
theorem mem_addL : it ∈ addL l₂ it := by unfold addL; split <;> simp_all
theorem mem_addL' {j : Fin 9} (h : it ∈ l₂) : it ∈ addL l₂ j := by
  unfold addL; split
  · exact h
  · exact List.mem_append_left _ h
theorem addL_of_mem (h : it ∈ l₂) : addL l₂ it = l₂ := by unfold addL; rw [if_pos h]
theorem due_uni {b : List (Fin 9)} : due 0 l₂ b = uniL l₂ b := by unfold due; rw [if_pos rfl]
theorem upd_some (h : it ≠ 0) : [it, 0, it].foldl addL l₂ = due 0 l₂ [it, 0] := by
  show addL (addL (addL l₂ it) 0) it = _
  rw [addL_of_mem (mem_addL' mem_addL), due_uni, ← foldl_addL (b := [it, 0]) (by simp [h])]
  rfl
theorem upd_zero : [0, 0, 0].foldl addL l₂ = due 0 l₂ [0] := by
  show addL (addL (addL l₂ 0) 0) 0 = _
  rw [addL_of_mem mem_addL, addL_of_mem mem_addL, due_uni, ← foldl_addL (b := [0]) (by simp)]
  rfl
end
end
section
open PySem PySem.W PySem.Calls PyProof.Rows
theorem of_allLt {D : Nat} {R : List (Addr × Obj)} (h : AllLt D R) : ∀ q ∈ R, @LT.lt Nat _ q.1 D := by
  induction R with
  | nil => intro q hq; cases hq
  | cons p R ih =>
    intro q hq
    rcases List.mem_cons.mp hq with e | hq
    · rw [e]; exact h.1
    · exact ih h.2 q hq
section
variable {prog : Program} {w : World} {A : Around} {E : Value → Shared → Prop} {base ti g h h' h₀ : Heap} {mean : ExcName → Option Value} {mg mb : Str → Option Value} {s : Shared} {k : Nat}
  {ow R R' ps N₀ : List (Addr × Obj)} {Ls Lr L D f ra rb : Addr} {x dx d r : Fin 3 → Addr} {l lr : Fin 3 → List (Fin 9)} {m : Str → Option Value} {i j : Fin 3} {l₂ al bl : List (Fin 9)} {o : Obj} {kd : Int} {t₀ u : Nat}
  {x' dx' d' : Addr} {qual : Str} {scope : Scope} {cdv v : Value} {it : Fin 9} {Q : Value → Shared → Prop} {at_ : Int}
theorem absorb (I : LawInv prog w g ti ow R Ls Lr x dx d r l lr) (N' : News g L h' ((D, o) :: N₀)) (hN : ∀ p ∈ ow ++ R, p ∈ N₀) (l1 : ∀ q ∈ N₀, @LT.lt Nat _ q.1 D) :
    News g L h' (ow ++ ((D, o) :: R)) ∧ LawInv prog w g ti ow ((D, o) :: R) Ls Lr x dx d r l lr ∧ D ≠ Ls ∧ D ≠ Lr := by
  obtain ⟨_, hs, _⟩ := I.sets
  obtain ⟨_, hr, _⟩ := I.rows
  refine ⟨fun p hp => N' p ?_, I.sub (fun p hp => .tail _ hp) fun p hp q hq => ?_, (Nat.ne_of_lt (l1 _ (hN _ (List.mem_append_right _ hs)))).symm, (Nat.ne_of_lt (l1 _ (hN _ (List.mem_append_right _ hr)))).symm⟩
  · rcases List.mem_append.mp hp with hp | hp
    · exact .tail _ (hN _ (List.mem_append_left _ hp))
    · rcases List.mem_cons.mp hp with rfl | hp
      · exact .head _
      · exact .tail _ (hN _ (List.mem_append_right _ hp))
  · rcases List.mem_cons.mp hp with rfl | hp
    · exact (Nat.ne_of_lt (l1 _ (hN _ (List.mem_append_left _ hq)))).symm
    · exact I.sep p hp q hq
theorem call_listrow (F : Fr g L s.heap m) (N : News g L s.heap N₀) (I : LawInv prog w g ti ow R Ls Lr x dx d r l lr) (hN : ∀ p ∈ ow ++ R, p ∈ N₀) (hz : (lr i).length ≤ 100)
    (h : ∀ h' R' D, Fr g L h' m → News g L h' (ow ++ R') → LawInv prog w g ti ow R' Ls Lr x dx d r l lr → RowIn ti R' Ls Lr D (lr i) → Q (.ref D) { s with heap := h' }) :
    wpAny (model prog w) A (call (.type "list") [.ref (r i)]) Q E s := by
  obtain ⟨vs, n, hm, q⟩ := I.row i
  have hl : vs.length ≤ 100 := by rw [q.length]; exact hz
  refine list_copyK F N (PySem.IsL.isList (n := n) (newsR N hN _ hm).1) (fun D c h' F' N' l1 => ?_) (by simp only [List.size_toArray]; exact Nat.le_trans hl (by decide))
  obtain ⟨N2, I2, a, b⟩ := absorb I N' hN l1
  exact h h' _ D F' N2 I2 ⟨⟨vs, c, .head _, q⟩, a, b⟩
end
end
section
open PySem PySem.W PySem.Calls PyProof.Rows
theorem unrEnd_law {h₀ : Heap} {L I : Addr} {it : Obj} {rest : (Str → Option Value) → List (Addr × Obj) → Prop} {s₁ : Shared} {h' : Heap} {tk : Nat} {m' : Str → Option Value} {a b : Addr} {oa ob : Obj} {R : List (Addr × Obj)} (F : Fr h₀ L h' m') (N : News h₀ L h' ((I, it) :: (a, oa) :: (b, ob) :: R))
    (l1 : @LT.lt Nat _ a I ∧ @LT.lt Nat _ b I ∧ AllLt I R) (r : rest m' ((a, oa) :: (b, ob) :: R)) : UnrEnd h₀ L s₁ I it rest { s₁ with heap := h', toks := tk } :=
  UnrEnd.intro F N _ (fun _ h => h) (fun p hp => Nat.ne_of_lt (of_allLt (D := I) (R := (a, oa) :: (b, ob) :: R) l1 p hp)) r
theorem chain2 {m : Str → Option Value} {a1 a2 : Str} {v1 v2 : Value} (h1 : m a1 = some v1) (h2 : m a2 = some v2) : m = (fun y => if y = a1 then some v1 else if y = a2 then some v2 else m y) := by
  funext y
  by_cases q1 : y = a1
  · rw [if_pos q1, q1, h1]
  by_cases q2 : y = a2
  · rw [if_neg q1, if_pos q2, q2, h2]
  · rw [if_neg q1, if_neg q2]
end
end Mine
namespace Mine
open PySem PySem.W PySem.Calls PyProof.Rows
set_option hygiene false in
local macro_rules | `(tactic| k_inst) => `(tactic| (refine' InstAt.of_g ?F ?a ?b; (case F => k_asm); (case a => first | assumption | exact Reads1.gx (by assumption)); (case b => first | assumption | exact Reads1.gdx (by assumption))))
set_option hygiene false in
local macro_rules | `(tactic| k_units) => `(tactic| exact Room.units (Room.deeper (Cx.room (by assumption))))
set_option hygiene false in
local macro_rules | `(tactic| walk_at "compareOp NotIn") => `(tactic| (k_here; (with_reducible show wpAny _ _ (compareOp CmpOp.NotIn _ (Value.ref _)) _ _ _); refine' notIn_K ?T ?m ?B ?v ?u ?_; (case T => exact TupIn.up (by assumption) (by k_asm)); (case m => first | exact News.get (by k_asm) (by k_mem) | exact Fr.keep (by k_asm) _ _ (Reads1.gd (by assumption))); (case B => first | assumption | exact Reads1.bd (by assumption)); (case v => assumption); (case u => k_units); intro tk'))
set_option hygiene false in
local macro_rules | `(tactic| walk_at "compareOp In") => `(tactic| (k_here; (with_reducible show wpAny _ _ (compareOp CmpOp.In _ (Value.ref _)) _ _ _); refine' in_K' ?T ?m ?B ?v ?u ?_; (case T => exact TupIn.up (by assumption) (by k_asm)); (case m => first | exact News.get (by k_asm) (by k_mem) | exact Fr.keep (by k_asm) _ _ (Reads1.gd (by assumption))); (case B => first | assumption | exact Reads1.bd (by assumption)); (case v => assumption); (case u => k_units); intro tk'))
set_option hygiene false in
local macro_rules | `(tactic| walk_at "setItem ref") => `(tactic| (k_here; (with_reducible show wpAny _ _ (setItem (Value.ref _) _ Value.none) _ _ _); refine' setItem_K' ?T ?F ?N ?U ?x ?v ?u ?_; (case T => exact TupIn.up (by assumption) (by k_asm)); (case F => k_asm); (case N => k_asm); (case U => k_updF); (case x => assumption); (case v => assumption); (case u => k_units); intro h' es' n' tk' F' N' x'; (try dsimp only at N'); (try k_sweep)))
set_option hygiene false in
local macro_rules | `(tactic| walk_at "call builtin:dict.pop") => `(tactic| (k_here; (with_reducible show wpAny _ _ (call (Value.builtin "dict.pop") [Value.ref _, _, Value.none]) _ _ _); refine' pop_K' ?T ?F ?N ?U ?x ?v ?u ?_; (case T => exact TupIn.up (by assumption) (by k_asm)); (case F => k_asm); (case N => k_asm); (case U => k_updF); (case x => assumption); (case v => assumption); (case u => k_units); intro h' es' n' tk' F' N' x'; (try dsimp only at N'); (try k_sweep)))
set_option hygiene false in
local macro_rules | `(tactic| walk_at "call builtin:dict.clear") => `(tactic| (k_here; (with_reducible show wpAny _ _ (call (Value.builtin "dict.clear") [Value.ref _]) _ _ _); refine' clear_K' ?T ?F ?N ?U ?x ?_; (case T => exact TupIn.up (by assumption) (by k_asm)); (case F => k_asm); (case N => k_asm); (case U => k_updF); (case x => assumption); intro h' es' n' F' N' x'; (try dsimp only at N'); (try k_sweep)))
set_option hygiene false in
local macro_rules | `(tactic| walk_at "getMethod ref") => `(tactic| (k_here; (with_reducible show wpAny _ _ (getMethod (Value.ref _) (PySem.Str.ofString "pop") _) _ _ _); refine' dictMethod_M ?m PySem.F.slot_dict_pop PySem.F.type_dict_pop ?_; (case m => first | exact News.get (by k_asm) (by k_mem) | exact Fr.keep (by k_asm) _ _ (Reads1.gd (by assumption)))))
set_option hygiene false in
local macro_rules | `(tactic| walk_at "getMethod ref") => `(tactic| (k_here; (with_reducible show wpAny _ _ (getMethod (Value.ref _) (PySem.Str.ofString "popitem") _) _ _ _); refine' dictMethod_M ?m PySem.F.slot_dict_popitem PySem.F.type_dict_popitem ?_; (case m => first | exact News.get (by k_asm) (by k_mem) | exact Fr.keep (by k_asm) _ _ (Reads1.gd (by assumption)))))
set_option hygiene false in
local macro_rules | `(tactic| walk_at "getMethod ref") => `(tactic| (k_here; (with_reducible show wpAny _ _ (getMethod (Value.ref _) (PySem.Str.ofString "clear") _) _ _ _); refine' dictMethod_M ?m PySem.F.slot_dict_clear PySem.F.type_dict_clear ?_; (case m => first | exact News.get (by k_asm) (by k_mem) | exact Fr.keep (by k_asm) _ _ (Reads1.gd (by assumption)))))
set_option hygiene false in
local macro_rules | `(tactic| walk_at "call type:dict nil nil") => `(tactic| (k_here; refine' newDict_M ?F ?N ?T ?_; (case F => k_asm); (case N => k_asm); (case T => exact (by assumption : Top _ _ _ _ _ _).nolimit); intro d' h' F' N' l1 l2 lo'; (try k_lt l1); (try k_sweep)))
set_option hygiene false in
local macro_rules | `(tactic| walk_at "call ref") => `(tactic| (k_here; (with_reducible show wpAny _ _ (call (Value.ref 275) _ _) _ _ _); (try dsimp only [List.nil_append, List.cons_append]); refine' new0_K ?C ?B ?T ?X ?F ?N ?_; (case T => exact TupIn.up (by assumption) (by k_asm)); (case C => assumption); (case B => assumption); (case X => assumption); (case F => k_asm); (case N => k_asm); intro h' x' dx' d' t' n' ep' tk' F' N' off' e1' e2' e3' Bd'; (try simp only [List.mem_cons, List.not_mem_nil, or_false, forall_eq_or_imp, forall_eq, false_implies, implies_true] at off'); (try k_sweep)))
set_option hygiene false in
local macro_rules | `(tactic| walk_at "call ref") => `(tactic| (k_here; (with_reducible show wpAny _ _ (call (Value.ref 36) _ _) _ _ _); (try dsimp only [List.nil_append, List.cons_append]); refine' add_K ?C ?B ?F ?N ?U ?T ?x ?dx ?b ?v ?_; (case C => assumption); (case B => assumption); (case F => k_asm); (case N => k_asm); (case x => first | exact News.get (by k_asm) (by k_mem) | exact Fr.keep (by k_asm) _ _ (by assumption)); (case dx => first | exact News.get (by k_asm) (by k_mem) | exact Fr.keep (by k_asm) _ _ (by assumption)); (case U => k_updF); (case T => exact TupIn.up (by assumption) (by k_asm)); (case b => assumption); (case v => assumption); intro h' es' n' tk' F' N' x'; (try dsimp only at N'); (try k_sweep)))
set_option hygiene false in
local macro_rules | `(tactic| walk_at "call builtin:iter") => `(tactic| (k_here; (with_reducible show wpAny _ _ (call (Value.builtin "iter") [Value.ref _]) _ _ _); refine' iter_M ?F ?N ?m ?l ?_; (case F => k_asm); (case N => k_asm); (case m => first | exact News.get (by k_asm) (by k_mem) | exact Fr.keep (by k_asm) _ _ (Reads1.gd (by assumption))); (case l => first | exact Bears.lo (by assumption) | exact Bears.lo (Reads1.bd (by assumption))); intro I' h' F' N' off'; (try k_sweep)))
set_option hygiene false in
local macro_rules | `(tactic| walk_at "exec For Name Name cons nil") => `(tactic| (k_here; (with_reducible rename Fr _ _ _ _ => lF'); (with_unfolding_all refine' For_invVF lF' ?k1 ?k2 ?_; (case k1 => exact rfl); (case k2 => exact rfl); k_whole)))
set_option hygiene false in
local macro_rules | `(tactic| walk_at "compareOp Is ref ref") => `(tactic| (k_here; first | with_reducible refine is_self_M ?_ | (refine' is_other_M ?n ?x ?y ?_; (case n => first | assumption | exact Ne.symm (by assumption)); (case x => first | exact News.get (by k_asm) (by k_mem) | exact Fr.keep (by k_asm) _ _ (by first | assumption | exact Reads1.gx (by assumption))); (case y => first | exact News.get (by k_asm) (by k_mem) | exact Fr.keep (by k_asm) _ _ (by first | assumption | exact Reads1.gx (by assumption))))))
set_option hygiene false in
local macro_rules | `(tactic| walk_at "call ref") => `(tactic| (k_here; (with_reducible show wpAny _ _ (call (Value.ref 50) _ _) _ _ _); (try dsimp only [List.nil_append, List.cons_append]); refine' discard_K ?C ?B ?F ?N ?U ?T ?x ?dx ?b ?v ?_; (case C => assumption); (case B => assumption); (case F => k_asm); (case N => k_asm); (case x => first | exact News.get (by k_asm) (by k_mem) | exact Fr.keep (by k_asm) _ _ (by assumption)); (case dx => first | exact News.get (by k_asm) (by k_mem) | exact Fr.keep (by k_asm) _ _ (by assumption)); (case U => k_updF); (case T => exact TupIn.up (by assumption) (by k_asm)); (case b => assumption); (case v => assumption); intro h' es' n' tk' F' N' x'; (try dsimp only at N'); (try k_sweep)))
set_option hygiene false in
local macro_rules | `(tactic| walk_at "compareOp NotIn") => `(tactic| (k_here; (with_reducible show wpAny _ _ (compareOp CmpOp.NotIn _ (Value.ref _)) _ _ _); refine' notIn_set ?C ?B ?X ?T ?F ?N ?Rx ?v ?_; (case Rx => assumption); (case C => assumption); (case B => assumption); (case X => assumption); (case T => assumption); (case F => k_asm); (case N => k_asm); (case v => assumption); intro h' tk' F' N'; (try k_sweep)))
set_option hygiene false in
local macro_rules | `(tactic| walk_at "delItem ref") => `(tactic| (k_here; (with_reducible show wpAny _ _ (delItem (Value.ref _) _) _ _ _); refine' delItem_K' ?hh ?T ?F ?N ?U ?x ?v ?u (fun hk => absurd ?m hk) ?_; (case hh => (rename Cx _ _ _ _ _ _ _ _ _ => cX; exact cX.handled)); (case T => exact TupIn.up (by assumption) (by k_asm)); (case F => k_asm); (case N => k_asm); (case U => k_updF); (case x => assumption); (case v => assumption); (case u => k_units); (case m => assumption); intro hk h' es' n' tk' F' N' x'; (try dsimp only at N'); (try k_sweep)))
set_option hygiene false in
local macro_rules | `(tactic| walk_at "call type:list") => `(tactic| (k_here; (with_reducible show wpAny _ _ (call (Value.type _) [Value.ref _]) _ _ _); refine' listM_K ?hh ?F ?N ?m ?B ?_; (case hh => (rename Cx _ _ _ _ _ _ _ _ _ => cX; exact cX.handled)); (case F => k_asm); (case N => k_asm); (case m => first | exact News.get (by k_asm) (by k_mem) | exact Fr.keep (by k_asm) _ _ (Reads1.gd (by assumption))); (case B => first | assumption | exact Reads1.bd (by assumption)); intro D' c' h' tk' F' N' l1; (try k_lt l1); (try k_sweep)))
set_option hygiene false in
local macro_rules | `(tactic| walk_at "delItem ref") => `(tactic| (k_here; (with_reducible show wpAny _ _ (delItem (Value.ref _) _) _ _ _); refine' delItem_K' ?hh ?T ?F ?N ?U ?x ?v ?u ?_ (fun hk => absurd hk ?m); (case hh => (rename Cx _ _ _ _ _ _ _ _ _ => cX; exact cX.handled)); (case T => exact TupIn.up (by assumption) (by k_asm)); (case F => k_asm); (case N => k_asm); (case U => k_updF); (case x => assumption); (case v => assumption); (case u => k_units); (case m => assumption); intro hk h' e' tk' NE'))
set_option hygiene false in
local macro_rules | `(tactic| walk_at "call ref") => `(tactic| (k_here; (with_reducible show wpAny _ _ (call (Value.ref 64) _ _) _ _ _); (try dsimp only [List.nil_append, List.cons_append]); refine' clone_K ?C ?B ?F ?N ?T ?S ?_; (case C => assumption); (case B => assumption); (case F => k_asm); (case N => k_asm); (case T => exact TupIn.up (by assumption) (by k_asm)); (case S => first | exact Reads1.set1 (by assumption) (by k_asm) | exact setIs_new (by k_asm) (by k_mem) (by k_mem) (by k_mem) (by assumption) | exact setIs_of (by k_asm) (by k_asm) (by assumption) (by assumption) (by k_mem) (by assumption)); intro h' x' dx' d' t' n' es' ep' tk' F' N' off' e1' e2' e3' Bd'; (try simp only [List.mem_cons, List.not_mem_nil, or_false, forall_eq_or_imp, forall_eq, false_implies, implies_true] at off'); (try k_sweep)))
set_option hygiene false in
local macro_rules | `(tactic| walk_at "call ref") => `(tactic| (k_here; (with_reducible show wpAny _ _ (call (Value.ref 78) _ _) _ _ _); (try dsimp only [List.nil_append, List.cons_append]); refine' union_update_K ?C ?B ?F ?N ?U ?T ?x ?dx ?b ?S' ?ne ?nd ?_; (case C => assumption); (case B => assumption); (case F => k_asm); (case N => k_asm); (case T => exact TupIn.up (by assumption) (by k_asm)); (case x => first | exact News.get (by k_asm) (by k_mem) | exact Fr.keep (by k_asm) _ _ (by assumption)); (case dx => first | exact News.get (by k_asm) (by k_mem) | exact Fr.keep (by k_asm) _ _ (by assumption)); (case U => k_updF); (case b => assumption); (case S' => first | exact Reads1.set1 (by assumption) (by k_asm) | exact setIs_new (by k_asm) (by k_mem) (by k_mem) (by k_mem) (by assumption) | exact setIs_of (by k_asm) (by k_asm) (by assumption) (by assumption) (by k_mem) (by assumption)); (case ne => first | assumption | exact ne_ng (by k_asm) (by k_mem) (Reads1.gx (by assumption)) | exact ne_ng (by k_asm) (by k_mem) (by assumption) | exact Ne.symm (ne_ng (by k_asm) (by k_mem) (by assumption)) | (show @Ne Nat _ _; omega)); (case nd => first | assumption | exact ne_ng (by k_asm) (by k_mem) (Reads1.gd (by assumption)) | exact ne_ng (by k_asm) (by k_mem) (by assumption) | (show @Ne Nat _ _; omega)); intro h' es' n' tk' F' N' x'; (try dsimp only at N'); (try k_sweep)))
set_option hygiene false in
local macro_rules | `(tactic| walk_at "call ref") => `(tactic| (k_here; (with_reducible show wpAny _ _ (call (Value.ref 85) _ _) _ _ _); (try dsimp only [List.nil_append, List.cons_append]); refine' intersection_update_K ?C ?B ?F ?N ?U ?T ?x ?dx ?b ?S' ?ne ?nd ?_; (case C => assumption); (case B => assumption); (case F => k_asm); (case N => k_asm); (case T => exact TupIn.up (by assumption) (by k_asm)); (case x => first | exact News.get (by k_asm) (by k_mem) | exact Fr.keep (by k_asm) _ _ (by assumption)); (case dx => first | exact News.get (by k_asm) (by k_mem) | exact Fr.keep (by k_asm) _ _ (by assumption)); (case U => k_updF); (case b => assumption); (case S' => first | exact Reads1.set1 (by assumption) (by k_asm) | exact setIs_new (by k_asm) (by k_mem) (by k_mem) (by k_mem) (by assumption) | exact setIs_of (by k_asm) (by k_asm) (by assumption) (by assumption) (by k_mem) (by assumption)); (case ne => first | assumption | exact ne_ng (by k_asm) (by k_mem) (Reads1.gx (by assumption)) | exact ne_ng (by k_asm) (by k_mem) (by assumption) | exact Ne.symm (ne_ng (by k_asm) (by k_mem) (by assumption)) | (show @Ne Nat _ _; omega)); (case nd => first | assumption | exact ne_ng (by k_asm) (by k_mem) (Reads1.gd (by assumption)) | exact ne_ng (by k_asm) (by k_mem) (by assumption) | (show @Ne Nat _ _; omega)); intro h' es' n' tk' F' N' x'; (try dsimp only at N'); (try k_sweep)))
set_option hygiene false in
local macro_rules | `(tactic| walk_at "call ref") => `(tactic| (k_here; (with_reducible show wpAny _ _ (call (Value.ref 92) _ _) _ _ _); (try dsimp only [List.nil_append, List.cons_append]); refine' difference_update_K ?C ?B ?F ?N ?U ?T ?x ?dx ?b ?S' ?ne ?nd ?_; (case C => assumption); (case B => assumption); (case F => k_asm); (case N => k_asm); (case T => exact TupIn.up (by assumption) (by k_asm)); (case x => first | exact News.get (by k_asm) (by k_mem) | exact Fr.keep (by k_asm) _ _ (by assumption)); (case dx => first | exact News.get (by k_asm) (by k_mem) | exact Fr.keep (by k_asm) _ _ (by assumption)); (case U => k_updF); (case b => assumption); (case S' => first | exact Reads1.set1 (by assumption) (by k_asm) | exact setIs_new (by k_asm) (by k_mem) (by k_mem) (by k_mem) (by assumption) | exact setIs_of (by k_asm) (by k_asm) (by assumption) (by assumption) (by k_mem) (by assumption)); (case ne => first | assumption | exact ne_ng (by k_asm) (by k_mem) (Reads1.gx (by assumption)) | exact ne_ng (by k_asm) (by k_mem) (by assumption) | exact Ne.symm (ne_ng (by k_asm) (by k_mem) (by assumption)) | (show @Ne Nat _ _; omega)); (case nd => first | assumption | exact ne_ng (by k_asm) (by k_mem) (Reads1.gd (by assumption)) | exact ne_ng (by k_asm) (by k_mem) (by assumption) | (show @Ne Nat _ _; omega)); intro h' es' n' tk' F' N' x'; (try dsimp only at N'); (try k_sweep)))
set_option hygiene false in
local macro_rules | `(tactic| walk_at "call ref") => `(tactic| (k_here; (with_reducible show wpAny _ _ (call (Value.ref 106) _ _) _ _ _); (try dsimp only [List.nil_append, List.cons_append]); refine' union_K ?C ?B ?F ?N ?T ?S ?S' ?_; (case C => assumption); (case B => assumption); (case F => k_asm); (case N => k_asm); (case T => exact TupIn.up (by assumption) (by k_asm)); (case S => first | exact Reads1.set1 (by assumption) (by k_asm) | exact setIs_new (by k_asm) (by k_mem) (by k_mem) (by k_mem) (by assumption) | exact setIs_of (by k_asm) (by k_asm) (by assumption) (by assumption) (by k_mem) (by assumption)); (case S' => first | exact Reads1.set1 (by assumption) (by k_asm) | exact setIs_new (by k_asm) (by k_mem) (by k_mem) (by k_mem) (by assumption) | exact setIs_of (by k_asm) (by k_asm) (by assumption) (by assumption) (by k_mem) (by assumption)); intro h' x' dx' d' t' n' es' ep' tk' F' N' off' e1' e2' e3' Bd'; (try simp only [List.mem_cons, List.not_mem_nil, or_false, forall_eq_or_imp, forall_eq, false_implies, implies_true] at off'); (try k_sweep)))
set_option hygiene false in
local macro_rules | `(tactic| walk_at "call ref") => `(tactic| (k_here; (with_reducible show wpAny _ _ (call (Value.ref 113) _ _) _ _ _); (try dsimp only [List.nil_append, List.cons_append]); refine' intersection_K ?C ?B ?F ?N ?T ?S ?S' ?_; (case C => assumption); (case B => assumption); (case F => k_asm); (case N => k_asm); (case T => exact TupIn.up (by assumption) (by k_asm)); (case S => first | exact Reads1.set1 (by assumption) (by k_asm) | exact setIs_new (by k_asm) (by k_mem) (by k_mem) (by k_mem) (by assumption) | exact setIs_of (by k_asm) (by k_asm) (by assumption) (by assumption) (by k_mem) (by assumption)); (case S' => first | exact Reads1.set1 (by assumption) (by k_asm) | exact setIs_new (by k_asm) (by k_mem) (by k_mem) (by k_mem) (by assumption) | exact setIs_of (by k_asm) (by k_asm) (by assumption) (by assumption) (by k_mem) (by assumption)); intro h' x' dx' d' t' n' es' ep' tk' F' N' off' e1' e2' e3' Bd'; (try simp only [List.mem_cons, List.not_mem_nil, or_false, forall_eq_or_imp, forall_eq, false_implies, implies_true] at off'); (try k_sweep)))
set_option hygiene false in
local macro_rules | `(tactic| walk_at "call ref") => `(tactic| (k_here; (with_reducible show wpAny _ _ (call (Value.ref 120) _ _) _ _ _); (try dsimp only [List.nil_append, List.cons_append]); refine' difference_K ?C ?B ?F ?N ?T ?S ?S' ?_; (case C => assumption); (case B => assumption); (case F => k_asm); (case N => k_asm); (case T => exact TupIn.up (by assumption) (by k_asm)); (case S => first | exact Reads1.set1 (by assumption) (by k_asm) | exact setIs_new (by k_asm) (by k_mem) (by k_mem) (by k_mem) (by assumption) | exact setIs_of (by k_asm) (by k_asm) (by assumption) (by assumption) (by k_mem) (by assumption)); (case S' => first | exact Reads1.set1 (by assumption) (by k_asm) | exact setIs_new (by k_asm) (by k_mem) (by k_mem) (by k_mem) (by assumption) | exact setIs_of (by k_asm) (by k_asm) (by assumption) (by assumption) (by k_mem) (by assumption)); intro h' x' dx' d' t' n' es' ep' tk' F' N' off' e1' e2' e3' Bd'; (try simp only [List.mem_cons, List.not_mem_nil, or_false, forall_eq_or_imp, forall_eq, false_implies, implies_true] at off'); (try k_sweep)))
set_option hygiene false in
local macro_rules | `(tactic| walk_at "call ref") => `(tactic| (k_here; (with_reducible show wpAny _ _ (call (Value.ref 99) _ _) _ _ _); (try dsimp only [List.nil_append, List.cons_append]); refine' symmetric_difference_update_K ?C ?B ?F ?N ?U ?T ?x ?dx ?b ?S' ?ne ?nd ?_; (case C => assumption); (case B => assumption); (case F => k_asm); (case N => k_asm); (case T => exact TupIn.up (by assumption) (by k_asm)); (case x => first | exact News.get (by k_asm) (by k_mem) | exact Fr.keep (by k_asm) _ _ (by assumption)); (case dx => first | exact News.get (by k_asm) (by k_mem) | exact Fr.keep (by k_asm) _ _ (by assumption)); (case U => k_updF); (case b => assumption); (case S' => first | exact Reads1.set1 (by assumption) (by k_asm) | exact setIs_new (by k_asm) (by k_mem) (by k_mem) (by k_mem) (by assumption) | exact setIs_of (by k_asm) (by k_asm) (by assumption) (by assumption) (by k_mem) (by assumption)); (case ne => first | assumption | exact ne_ng (by k_asm) (by k_mem) (Reads1.gx (by assumption)) | exact ne_ng (by k_asm) (by k_mem) (by assumption) | exact Ne.symm (ne_ng (by k_asm) (by k_mem) (by assumption)) | (show @Ne Nat _ _; omega)); (case nd => first | assumption | exact ne_ng (by k_asm) (by k_mem) (Reads1.gd (by assumption)) | exact ne_ng (by k_asm) (by k_mem) (by assumption) | (show @Ne Nat _ _; omega)); intro h' es' n' tk' F' N' x'; (try dsimp only at N'); (try k_sweep)))
set_option hygiene false in
local macro_rules | `(tactic| walk_at "call ref") => `(tactic| (k_here; (with_reducible show wpAny _ _ (call (Value.ref 127) _ _) _ _ _); (try dsimp only [List.nil_append, List.cons_append]); refine' symmetric_difference_K ?C ?B ?F ?N ?T ?S ?S' ?_; (case C => assumption); (case B => assumption); (case F => k_asm); (case N => k_asm); (case T => exact TupIn.up (by assumption) (by k_asm)); (case S => first | exact Reads1.set1 (by assumption) (by k_asm) | exact setIs_new (by k_asm) (by k_mem) (by k_mem) (by k_mem) (by assumption) | exact setIs_of (by k_asm) (by k_asm) (by assumption) (by assumption) (by k_mem) (by assumption)); (case S' => first | exact Reads1.set1 (by assumption) (by k_asm) | exact setIs_new (by k_asm) (by k_mem) (by k_mem) (by k_mem) (by assumption) | exact setIs_of (by k_asm) (by k_asm) (by assumption) (by assumption) (by k_mem) (by assumption)); intro h' x' dx' d' t' n' es' ep' tk' F' N' off' e1' e2' e3' Bd'; (try simp only [List.mem_cons, List.not_mem_nil, or_false, forall_eq_or_imp, forall_eq, false_implies, implies_true] at off'); (try k_sweep)))
set_option hygiene false in
local macro_rules | `(tactic| walk_at "call ref") => `(tactic| (k_here; (with_reducible show wpAny _ _ (call (Value.ref 78) _ _) _ _ _); (try dsimp only [List.nil_append, List.cons_append]); refine' union_update_self_K ?C ?B ?F ?N ?U ?T ?x ?dx ?b ?_; (case C => assumption); (case B => assumption); (case F => k_asm); (case N => k_asm); (case T => exact TupIn.up (by assumption) (by k_asm)); (case x => first | exact News.get (by k_asm) (by k_mem) | exact Fr.keep (by k_asm) _ _ (by assumption)); (case dx => first | exact News.get (by k_asm) (by k_mem) | exact Fr.keep (by k_asm) _ _ (by assumption)); (case U => k_updF); (case b => assumption);  intro h' es' n' tk' F' N' x'; (try dsimp only at N'); (try k_sweep)))
set_option hygiene false in
local macro_rules | `(tactic| walk_at "call ref") => `(tactic| (k_here; (with_reducible show wpAny _ _ (call (Value.ref 85) _ _) _ _ _); (try dsimp only [List.nil_append, List.cons_append]); refine' intersection_update_self_K ?C ?B ?F ?N ?U ?T ?x ?dx ?b ?_; (case C => assumption); (case B => assumption); (case F => k_asm); (case N => k_asm); (case T => exact TupIn.up (by assumption) (by k_asm)); (case x => first | exact News.get (by k_asm) (by k_mem) | exact Fr.keep (by k_asm) _ _ (by assumption)); (case dx => first | exact News.get (by k_asm) (by k_mem) | exact Fr.keep (by k_asm) _ _ (by assumption)); (case U => k_updF); (case b => assumption);  intro h' es' n' tk' F' N' x'; (try dsimp only at N'); (try k_sweep)))
set_option hygiene false in
local macro_rules | `(tactic| walk_at "call ref") => `(tactic| (k_here; (with_reducible show wpAny _ _ (call (Value.ref 92) _ _) _ _ _); (try dsimp only [List.nil_append, List.cons_append]); refine' difference_update_self_K ?C ?B ?F ?N ?U ?T ?x ?dx ?b ?_; (case C => assumption); (case B => assumption); (case F => k_asm); (case N => k_asm); (case T => exact TupIn.up (by assumption) (by k_asm)); (case x => first | exact News.get (by k_asm) (by k_mem) | exact Fr.keep (by k_asm) _ _ (by assumption)); (case dx => first | exact News.get (by k_asm) (by k_mem) | exact Fr.keep (by k_asm) _ _ (by assumption)); (case U => k_updF); (case b => assumption);  intro h' es' n' tk' F' N' x'; (try dsimp only at N'); (try k_sweep)))
set_option hygiene false in
local macro_rules | `(tactic| walk_at "call ref") => `(tactic| (k_here; (with_reducible show wpAny _ _ (call (Value.ref 99) _ _) _ _ _); (try dsimp only [List.nil_append, List.cons_append]); refine' symmetric_difference_update_self_K ?C ?B ?F ?N ?U ?T ?x ?dx ?b ?_; (case C => assumption); (case B => assumption); (case F => k_asm); (case N => k_asm); (case T => exact TupIn.up (by assumption) (by k_asm)); (case x => first | exact News.get (by k_asm) (by k_mem) | exact Fr.keep (by k_asm) _ _ (by assumption)); (case dx => first | exact News.get (by k_asm) (by k_mem) | exact Fr.keep (by k_asm) _ _ (by assumption)); (case U => k_updF); (case b => assumption);  intro h' es' n' tk' F' N' x'; (try dsimp only at N'); (try k_sweep)))
set_option hygiene false in
local macro_rules | `(tactic| walk_at "call builtin:dict.popitem") => `(tactic| (k_here; (with_reducible show wpAny _ _ (call (Value.builtin "dict.popitem") [Value.ref _]) _ _ _); refine' popitem_K ?F ?N ?U ?T ?x ?_; (case T => exact TupIn.up (by assumption) (by k_asm)); (case F => k_asm); (case N => k_asm); (case U => k_updF); (case x => assumption); intro h' es' n' T' v' F' N' l1 x' hv'; (try dsimp only at N' l1); (try k_lt l1); (try k_sweep)))
set_option hygiene false in
local macro_rules | `(tactic| walk_at "call builtin:len") => `(tactic| (k_here; (with_reducible show wpAny _ _ (call (Value.builtin "len") [Value.ref _]) _ _ _); refine' lenM_K ?F ?T ?m ?B ?_; (case F => k_asm); (case T => exact TupIn.up (by assumption) (by k_asm)); (case m => first | exact News.get (by k_asm) (by k_mem) | exact Fr.keep (by k_asm) _ _ (Reads1.gd (by assumption))); (case B => first | assumption | exact Reads1.bd (by assumption)); intro t' tk'))
set_option hygiene false in
local macro_rules | `(tactic| walk_at "assign Tuple") => `(tactic| (k_here; (with_reducible show wpAny _ _ (assign (Expr.Tuple _ _ _) _ (Value.ref _)) _ _ _); refine' unpackN_ ?k1 ?k2 ?k3 ?k4 ?k5 ?k6 ?_; (case k1 => k_asm); (case k2 => k_asm); (case k3 => exact News.isTup (by k_asm) (by k_mem)); (case k4 => (rename Cx _ _ _ _ _ _ _ _ _ => cX; exact cX.handled)); (case k5 => exact rfl); (case k6 => exact rfl); k_whole; intro h' F' N'; (try k_sweep)))
set_option hygiene false in
local macro_rules | `(tactic| walk_at "leaving ref") => `(tactic| (k_here; first
  | (refine' leave_raiseM ?k1 ?k2 (Heap.MadeExc.of (by assumption)) ?_; (case k1 => assumption); (case k2 => assumption); k_whole; intro h' fl')
  | (refine' leave_newM ?k1 ?k2 (by assumption) ?_; (case k1 => assumption); (case k2 => assumption); k_whole; intro h' fl')
  | (refine' leave_onM ?k1 ?k2 (by assumption) ?_; (case k1 => assumption); (case k2 => assumption); k_whole; intro h' fl')))
set_option hygiene false in
local macro_rules | `(tactic| walk_at "call builtin:isinstance") => `(tactic| (k_here; (with_reducible show wpAny _ _ (call _ [Value.ref _, Value.ref 275]) _ _ _); refine' isinst_list ?X ?y ?_; (case X => k_in); (case y => exact Fr.keep (by k_asm) _ _ (by assumption)); k_whole))
set_option hygiene false in
local macro_rules | `(tactic| walk_at "exec Raise some none") => `(tactic| (k_here; (with_reducible show wpAny _ _ (exec (Stmt.Raise (some (Expr.Call (Expr.Name ("ValueError" : Str) _) (_ :: _) [] _)) none _) _) _ _ _); (with_reducible rename Fr _ _ _ _ => kF); refine' Raise_madeB PySem.F.excCall_ValueError PySem.F.excRaise_ValueError ?hh (name_B kF ?k1 ?k2 ?k3 ?k4 ?k5 ⟨rfl, ?_⟩); (case hh => (rename Cx _ _ _ _ _ _ _ _ _ => cX; exact cX.handled)); (case k1 => k_asm); (case k2 => k_asm); (case k3 => k_is); (case k4 => boot_by_name); (case k5 => decide)))
set_option hygiene false in
local macro_rules | `(tactic| walk_at "exec Raise some none") => `(tactic| (k_here; (with_reducible show wpAny _ _ (exec (Stmt.Raise (some (Expr.Call (Expr.Name ("IndexError" : Str) _) (_ :: _) [] _)) none _) _) _ _ _); (with_reducible rename Fr _ _ _ _ => kF); refine' Raise_madeB PySem.F.excCall_IndexError PySem.F.excRaise_IndexError ?hh (name_B kF ?k1 ?k2 ?k3 ?k4 ?k5 ⟨rfl, ?_⟩); (case hh => (rename Cx _ _ _ _ _ _ _ _ _ => cX; exact cX.handled)); (case k1 => k_asm); (case k2 => k_asm); (case k3 => k_is); (case k4 => boot_by_name); (case k5 => decide)))
set_option hygiene false in
local macro_rules | `(tactic| walk_at "call ref") => `(tactic| (k_here; (with_reducible show wpAny _ _ (call (Value.ref 78) _ _) _ _ _); (try dsimp only [List.nil_append, List.cons_append]); refine' union_update_err_K ?C ?B ?F ?T ?y ?_; (case C => assumption); (case B => assumption); (case F => k_asm); (case T => exact TupIn.up (by assumption) (by k_asm)); (case y => exact Fr.keep (by k_asm) _ _ (by assumption)); k_whole; intro h' tk' e' fl'))
set_option hygiene false in
local macro_rules | `(tactic| walk_at "call ref") => `(tactic| (k_here; (with_reducible show wpAny _ _ (call (Value.ref 216) _ _) _ _ _); (try dsimp only [List.nil_append, List.cons_append]); refine' eq_K ?C ?B ?F ?N ?T ?S ?S' ?_; (case C => assumption); (case B => assumption); (case F => k_asm); (case N => k_asm); (case T => exact TupIn.up (by assumption) (by k_asm)); (case S => first | exact Reads1.set1 (by assumption) (by k_asm) | exact setIs_new (by k_asm) (by k_mem) (by k_mem) (by k_mem) (by assumption) | exact setIs_of (by k_asm) (by k_asm) (by assumption) (by assumption) (by k_mem) (by assumption)); (case S' => first | exact Reads1.set1 (by assumption) (by k_asm) | exact setIs_new (by k_asm) (by k_mem) (by k_mem) (by k_mem) (by assumption) | exact setIs_of (by k_asm) (by k_asm) (by assumption) (by assumption) (by k_mem) (by assumption)); intro h' tk' F' N'; (try k_sweep)))
set_option hygiene false in
local macro_rules | `(tactic| walk_at "call ref") => `(tactic| (k_here; (with_reducible show wpAny _ _ (call (Value.ref 106) _ _) _ _ _); (try dsimp only [List.nil_append, List.cons_append]); refine' union_err_L ?C ?B ?F ?T ?S ?y ?_; (case C => assumption); (case B => assumption); (case F => k_asm); (case T => exact TupIn.up (by assumption) (by k_asm)); (case S => first | exact Reads1.set1 (by assumption) (by k_asm) | exact setIs_new (by k_asm) (by k_mem) (by k_mem) (by k_mem) (by assumption) | exact setIs_of (by k_asm) (by k_asm) (by assumption) (by assumption) (by k_mem) (by assumption)); (case y => exact News.get (by k_asm) (by k_mem)); k_whole; intro h' tk' e' fl'))
set_option hygiene false in
local macro_rules | `(tactic| walk_at "call ref") => `(tactic| (k_here; (with_reducible show wpAny _ _ (call (Value.ref 85) _ _) _ _ _); (try dsimp only [List.nil_append, List.cons_append]); refine' intersection_update_err_L ?C ?B ?F ?T ?y ?_; (case C => assumption); (case B => assumption); (case F => k_asm); (case T => exact TupIn.up (by assumption) (by k_asm)); (case y => exact News.get (by k_asm) (by k_mem)); k_whole; intro h' tk' e' fl'))
set_option hygiene false in
local macro_rules | `(tactic| walk_at "call ref") => `(tactic| (k_here; (with_reducible show wpAny _ _ (call (Value.ref 258) _ _) _ _ _); (try dsimp only [List.nil_append, List.cons_append]); refine' issubset_err_L ?C ?B ?F ?T ?y ?_; (case C => assumption); (case B => assumption); (case F => k_asm); (case T => exact TupIn.up (by assumption) (by k_asm)); (case y => exact News.get (by k_asm) (by k_mem)); k_whole; intro h' tk' e' fl'))
set_option hygiene false in
local macro_rules | `(tactic| walk_at "call ref") => `(tactic| (k_here; (with_reducible show wpAny _ _ (call (Value.ref 272) _ _) _ _ _); (try dsimp only [List.nil_append, List.cons_append]); refine' isdisjoint_err_L ?C ?B ?F ?T ?y ?_; (case C => assumption); (case B => assumption); (case F => k_asm); (case T => exact TupIn.up (by assumption) (by k_asm)); (case y => exact News.get (by k_asm) (by k_mem)); k_whole; intro h' tk' e' fl'))
set_option hygiene false in
local macro_rules | `(tactic| walk_at "call ref") => `(tactic| (k_here; (with_reducible show wpAny _ _ (call (Value.ref 275) _ _) _ _ _); refine stop_ ?_))
set_option hygiene false in
local macro_rules | `(tactic| walk_at "call ref") => `(tactic| (k_here; (with_reducible show wpAny _ _ (call (Value.ref 275) _ _) _ _ _); (try dsimp only [List.nil_append, List.cons_append]); refine' new0_K ?C ?B ?T ?X ?F ?N ?_; (case T => exact TupIn.up (by assumption) (by k_asm)); (case C => assumption); (case B => assumption); (case X => assumption); (case F => k_asm); (case N => k_asm); intro h' x' dx' d' t' n' ep' tk' F' N' off' e1' e2' e3' Bd'; (try simp only [List.mem_cons, List.not_mem_nil, or_false, forall_eq_or_imp, forall_eq, false_implies, implies_true] at off'); (try k_sweep)))
set_option hygiene false in
local macro_rules | `(tactic| walk_at "exec For") => `(tactic| (k_here; refine stop_ ?_))
set_option hygiene false in
local macro_rules | `(tactic| walk_at "exec For Name Subscript cons nil") => `(tactic| (k_here; refine stop_ ?_))
set_option hygiene false in
local macro_rules | `(tactic| walk_at "exec For Name Subscript") => `(tactic| (k_here; refine stop_ ?_))
set_option hygiene false in
local macro_rules | `(tactic| walk_at "call ref") => `(tactic| (k_here; (with_reducible show wpAny _ _ (call (Value.ref 286) _ _) _ _ _); (try dsimp only [List.nil_append, List.cons_append]); rename LawInv _ _ _ _ _ _ _ _ _ _ _ _ _ _ => I0; with_unfolding_all refine' call_items ?C ?B ?F ?N I0 ?S  ?_; (case C => assumption); (case B => assumption); (case F => k_asm); (case N => k_asm); (case S => with_unfolding_all first | exact fun _ h => h | exact fun _ h => .tail _ h | exact fun _ h => .tail _ (.tail _ h) | exact fun _ h => .tail _ (.tail _ (.tail _ h))); intro h' tk' ti' R' DI vsI nI F' N' I' hDI rowI; clear I0; (try dsimp only [List.nil_append, List.cons_append] at N'); (try dsimp only); (try k_sweep)))
set_option hygiene false in
local macro_rules | `(tactic| walk_at "call ref") => `(tactic| (k_here; (with_reducible show wpAny _ _ (call (Value.ref 341) _ _) _ _ _); (try dsimp only [List.nil_append, List.cons_append]); rename LawInv _ _ _ _ _ _ _ _ _ _ _ _ _ _ => I0; with_unfolding_all refine' call_change ?C ?B ?F ?N I0 ?S rfl ?v ?lo0 ?hi6 ?_; (case C => assumption); (case B => assumption); (case F => k_asm); (case N => k_asm); (case S => with_unfolding_all first | exact fun _ h => h | exact fun _ h => .tail _ h | exact fun _ h => .tail _ (.tail _ h) | exact fun _ h => .tail _ (.tail _ (.tail _ h))); (case v => assumption); (case lo0 => omega); (case hi6 => omega); intro h' tk' R' DC lC F' N' I' qC; clear I0; (try dsimp only [List.nil_append, List.cons_append] at N'); (try dsimp only); (try k_sweep)))
set_option hygiene false in
local macro_rules | `(tactic| walk_at "call ref") => `(tactic| (k_here; (with_reducible show wpAny _ _ (call (Value.ref 305) _ _) _ _ _); (try dsimp only [List.nil_append, List.cons_append]); rename LawInv _ _ _ _ _ _ _ _ _ _ _ _ _ _ => I0; with_unfolding_all refine' call_sign ?C ?B ?F ?N I0 ?S  ?_; (case C => assumption); (case B => assumption); (case F => k_asm); (case N => k_asm); (case S => with_unfolding_all first | exact fun _ h => h | exact fun _ h => .tail _ h | exact fun _ h => .tail _ (.tail _ h) | exact fun _ h => .tail _ (.tail _ (.tail _ h))); intro h' tk' R' F' N' I'; clear I0; (try dsimp only [List.nil_append, List.cons_append] at N'); (try dsimp only); (try k_sweep)))
set_option hygiene false in
local macro_rules | `(tactic| walk_at "call ref") => `(tactic| (k_here; (with_reducible show wpAny _ _ (call (Value.ref 312) _ _) _ _ _); (try dsimp only [List.nil_append, List.cons_append]); rename LawInv _ _ _ _ _ _ _ _ _ _ _ _ _ _ => I0; with_unfolding_all refine' call_name ?C ?B ?F ?N I0 ?S  ?_; (case C => assumption); (case B => assumption); (case F => k_asm); (case N => k_asm); (case S => with_unfolding_all first | exact fun _ h => h | exact fun _ h => .tail _ h | exact fun _ h => .tail _ (.tail _ h) | exact fun _ h => .tail _ (.tail _ (.tail _ h))); intro h' tk' R' F' N' I'; clear I0; (try dsimp only [List.nil_append, List.cons_append] at N'); (try dsimp only); (try k_sweep)))
set_option hygiene false in
local macro_rules | `(tactic| walk_at "call ref") => `(tactic| (k_here; (with_reducible show wpAny _ _ (call (Value.ref 211) _ _) _ _ _); (try dsimp only [List.nil_append, List.cons_append]); rename LawInv _ _ _ _ _ _ _ _ _ _ _ _ _ _ => I0; with_unfolding_all refine' call_clear ?C ?B ?F ?N I0 ?S  ?_; (case C => assumption); (case B => assumption); (case F => k_asm); (case N => k_asm); (case S => with_unfolding_all first | exact fun _ h => h | exact fun _ h => .tail _ h | exact fun _ h => .tail _ (.tail _ h) | exact fun _ h => .tail _ (.tail _ (.tail _ h))); intro h' tk' R' F' N' I'; clear I0; (try dsimp only [List.nil_append, List.cons_append] at N'); (try dsimp only); (try k_sweep)))
set_option hygiene false in
local macro_rules | `(tactic| walk_at "call ref") => `(tactic| (k_here; (with_reducible show wpAny _ _ (call (Value.ref 293) _ _) _ _ _); (try dsimp only [List.nil_append, List.cons_append]); rename LawInv _ _ _ _ _ _ _ _ _ _ _ _ _ _ => I0; with_unfolding_all refine' call_new ?C ?B ?F ?N I0 ?S  ?_; (case C => assumption); (case B => assumption); (case F => k_asm); (case N => k_asm); (case S => with_unfolding_all first | exact fun _ h => h | exact fun _ h => .tail _ h | exact fun _ h => .tail _ (.tail _ h) | exact fun _ h => .tail _ (.tail _ (.tail _ h))); intro h' tk' R' DN zN dzN eN F' N' I' hDN qN neN subN; rename RowIn _ _ _ _ _ _ => rowQ; have qC := RowIn.sub rowQ subN; clear rowQ; clear I0; (try dsimp only [List.nil_append, List.cons_append] at N'); (try dsimp only); (try k_sweep)))
set_option hygiene false in
local macro_rules | `(tactic| walk_at "call ref") => `(tactic| (k_here; (with_reducible show wpAny _ _ (call (Value.ref 71) _ _) _ _ _); (try dsimp only [List.nil_append, List.cons_append]); rename LawInv _ _ _ _ _ _ _ _ _ _ _ _ _ _ => I0; with_unfolding_all refine' call_copy ?C ?B ?F ?N I0 ?S  ?_; (case C => assumption); (case B => assumption); (case F => k_asm); (case N => k_asm); (case S => with_unfolding_all first | exact fun _ h => h | exact fun _ h => .tail _ h | exact fun _ h => .tail _ (.tail _ h) | exact fun _ h => .tail _ (.tail _ (.tail _ h))); intro h' tk' R' zC dzC eC F' N' I' qC neC; clear I0; (try dsimp only [List.nil_append, List.cons_append] at N'); (try dsimp only); (try k_sweep)))
set_option hygiene false in
local macro_rules | `(tactic| walk_at "call ref") => `(tactic| (k_here; (with_reducible show wpAny _ _ (call (Value.ref 298) _ _) _ _ _); (try dsimp only [List.nil_append, List.cons_append]); rename LawInv _ _ _ _ _ _ _ _ _ _ _ _ _ _ => I0; with_unfolding_all refine' call_due ?C ?B ?F ?N I0 ?S ?da ?db ?ha ?hb ?_; (case C => assumption); (case B => assumption); (case F => k_asm); (case N => k_asm); (case S => with_unfolding_all first | exact fun _ h => h | exact fun _ h => .tail _ h | exact fun _ h => .tail _ (.tail _ h) | exact fun _ h => .tail _ (.tail _ (.tail _ h))); (case da => with_unfolding_all first | exact RowIn.sub (LawInv.rowIn I0 _) (fun _ h => .tail _ (.tail _ h)) | exact RowIn.sub (LawInv.rowIn I0 _) (fun _ h => h)); (case db => with_unfolding_all first | exact RowIn.sub (LawInv.rowIn I0 _) (fun _ h => .tail _ (.tail _ h)) | exact RowIn.sub (LawInv.rowIn I0 _) (fun _ h => h)); (case ha => exact hlen _); (case hb => exact hlen _); intro h' tk' R' DC F' N' I' qC; clear I0; (try dsimp only [List.nil_append, List.cons_append] at N'); (try dsimp only); (try k_sweep)))
set_option hygiene false in
local macro_rules | `(tactic| walk_at "call ref") => `(tactic| (k_here; (with_reducible show wpAny _ _ (call (Value.ref 331) _ _) _ _ _); (try dsimp only [List.nil_append, List.cons_append]); rename LawInv _ _ _ _ _ _ _ _ _ _ _ _ _ _ => I0; with_unfolding_all refine' call_isrow ?C ?B ?F ?N I0 ?S ?st ?rw ?_; (case C => assumption); (case B => assumption); (case F => k_asm); (case N => k_asm); (case S => with_unfolding_all first | exact fun _ h => h | exact fun _ h => .tail _ h | exact fun _ h => .tail _ (.tail _ h) | exact fun _ h => .tail _ (.tail _ (.tail _ h))); (case st => first | exact qN _ | exact LawInv.setIn I0 _); (case rw => first | assumption | exact LawInv.rowIn I0 _); intro h' tk' F' N'; (try dsimp only [List.nil_append, List.cons_append] at N'); (try dsimp only); (try k_sweep)))
set_option hygiene false in
local macro_rules | `(tactic| walk_at "call type:list") => `(tactic| (k_here; (with_reducible show wpAny _ _ (call (Value.type "list") [Value.ref _] _) _ _ _); (try dsimp only [List.nil_append, List.cons_append]); rename LawInv _ _ _ _ _ _ _ _ _ _ _ _ _ _ => I0; with_unfolding_all refine' call_listrow ?F ?N I0 ?S ?hz ?_; (case F => k_asm); (case N => k_asm); (case S => with_unfolding_all first | exact fun _ h => h | exact fun _ h => .tail _ h | exact fun _ h => .tail _ (.tail _ h) | exact fun _ h => .tail _ (.tail _ (.tail _ h))); (case hz => exact hlen _); intro h' R' DC F' N' I' qC; clear I0; (try dsimp only [List.nil_append, List.cons_append] at N'); (try dsimp only); (try k_sweep)))
set_option hygiene false in
local macro_rules | `(tactic| walk_at "call ref") => `(tactic| (k_here; (with_reducible show wpAny _ _ (call (Value.ref 319) _ _) _ _ _); (try dsimp only [List.nil_append, List.cons_append]); rename LawInv _ _ _ _ _ _ _ _ _ _ _ _ _ _ => I0; with_unfolding_all refine' call_refused ?C ?B ?F ?N I0 ?S  ?_; (case C => assumption); (case B => assumption); (case F => k_asm); (case N => k_asm); (case S => with_unfolding_all first | exact fun _ h => h | exact fun _ h => .tail _ h | exact fun _ h => .tail _ (.tail _ h) | exact fun _ h => .tail _ (.tail _ (.tail _ h))); intro h' tk' F' N'; (try dsimp only [List.nil_append, List.cons_append] at N'); (try dsimp only); (try k_sweep)))
set_option hygiene false in
local macro_rules | `(tactic| walk_at "call ref") => `(tactic| (k_here; (with_reducible show wpAny _ _ (call (Value.ref 336) _ _) _ _ _); (try dsimp only [List.nil_append, List.cons_append]); rename LawInv _ _ _ _ _ _ _ _ _ _ _ _ _ _ => I0; with_unfolding_all refine' call_related ?C ?B ?F ?N I0 ?S  ?_; (case C => assumption); (case B => assumption); (case F => k_asm); (case N => k_asm); (case S => with_unfolding_all first | exact fun _ h => h | exact fun _ h => .tail _ h | exact fun _ h => .tail _ (.tail _ h) | exact fun _ h => .tail _ (.tail _ (.tail _ h))); intro h' tk' F' N'; (try dsimp only [List.nil_append, List.cons_append] at N'); (try dsimp only); (try k_sweep)))
set_option hygiene false in
local macro_rules | `(tactic| walk_at "subscriptTail") => `(tactic| (k_here; (with_reducible show wpAny _ _ (subscriptTail _ _ (Value.ref _) (Value.int _ _)) _ _ _); rename LawInv _ _ _ _ _ _ _ _ _ _ _ _ _ _ => I0; (first | (with_unfolding_all refine' sub_tri (LawInv.setsL I0 ?N ?S) ?ix ?_) | (with_unfolding_all refine' sub_tri (LawInv.rowsL I0 ?N ?S) ?ix ?_)); (case N => k_asm); (case S => with_unfolding_all first | exact fun _ h => h | exact fun _ h => .tail _ h | exact fun _ h => .tail _ (.tail _ h) | exact fun _ h => .tail _ (.tail _ (.tail _ h))); (case ix => first | assumption | exact at0 | exact at1 | exact at2); (try dsimp only)))
set_option hygiene false in
local macro_rules | `(tactic| walk_at "subscriptTail") => `(tactic| (k_here; (with_reducible show wpAny _ _ (subscriptTail _ _ (Value.ref _) (Value.int _ _)) _ _ _); rename LawInv _ _ _ _ _ _ _ _ _ _ _ _ _ _ => I0; with_unfolding_all refine' sub_triT I0 ?N ?S hDN ?ix ?_; (case N => k_asm); (case S => with_unfolding_all first | exact fun _ h => h | exact fun _ h => .tail _ h | exact fun _ h => .tail _ (.tail _ h) | exact fun _ h => .tail _ (.tail _ (.tail _ h))); (case ix => first | assumption | exact at0 | exact at1 | exact at2); (try dsimp only)))
set_option hygiene false in
local macro_rules | `(tactic| walk_at "setItem ref int") => `(tactic| (k_here; refine stop_ ?_))
set_option hygiene false in
local macro_rules | `(tactic| walk_at "setItem ref int") => `(tactic| (k_here; (with_reducible show wpAny _ _ (setItem (Value.ref _) (Value.int _ _) (Value.ref _)) _ _ _); rename LawInv _ _ _ _ _ _ _ _ _ _ _ _ _ _ => I0; with_unfolding_all refine' set_row ?F ?N I0 ?S ?q ?ix ?_; (case F => k_asm); (case N => k_asm); (case S => with_unfolding_all first | exact fun _ h => h | exact fun _ h => .tail _ h | exact fun _ h => .tail _ (.tail _ h) | exact fun _ h => .tail _ (.tail _ (.tail _ h))); (case q => assumption); (case ix => assumption); intro h' R' F' N' I'; clear I0; (try dsimp only [List.nil_append, List.cons_append] at N'); (try dsimp only); (try k_sweep)))
set_option hygiene false in
local macro_rules | `(tactic| walk_at "subscriptTail Call") => `(tactic| (k_here; refine stop_ ?_))
set_option hygiene false in
local macro_rules | `(tactic| walk_at "exec If") => `(tactic| (k_here; rename MarkP => markX; clear markX; refine stop_ ?_))
set_option hygiene false in
local macro_rules | `(tactic| k_inst) => `(tactic| (rename LawInv _ _ _ _ _ _ _ _ _ _ _ _ _ _ => I0; with_unfolding_all refine' inst_of I0 hat ?N ?S; (case N => k_asm); (case S => with_unfolding_all first | exact fun _ h => h | exact fun _ h => .tail _ h | exact fun _ h => .tail _ (.tail _ h) | exact fun _ h => .tail _ (.tail _ (.tail _ h)))))
set_option hygiene false in
local macro_rules | `(tactic| walk_at "call ref") => `(tactic| (k_here; (with_reducible show wpAny _ _ (call (Value.ref 204) _ _) _ _ _); refine stop_ ?_))
set_option hygiene false in
local macro_rules | `(tactic| walk_at "call ref") => `(tactic| (k_here; (with_reducible show wpAny _ _ (call (Value.ref 298) _ _) _ _ _); rename MarkP => markX; clear markX; refine stop_ ?_))
set_option hygiene false in
local macro_rules | `(tactic| walk_at "compareOp NotEq") => `(tactic| (k_here; refine stop_ ?_))
set_option hygiene false in
local macro_rules | `(tactic| walk_at "UnrEnd") => `(tactic| ((with_unfolding_all refine' unrEnd_law ?F ?N ?l1 ?_); (case F => with_unfolding_all assumption); (case N => with_unfolding_all assumption); (case l1 => with_unfolding_all assumption)))
section
open PySem PySem.W PySem.Calls PyProof.Rows
theorem offW9 : True := by
  w_top off
  trivial
theorem t : PySem.Challenge.rw_ab5007_01.Holds := hd (by
  k_go0
  all_goals try k_fold
  rename Fr _ _ _ _ => F
  rename News _ _ _ _ => N
  rename Below _ _ _ _ => B
  rename Frag.In _ _ => X
  rename Top _ _ _ _ _ _ => T
  rename World => w
  rename Shared => s1
  have C := Cx.law X T
  have Tg := tupOf F
  k_steps
  refine go_ ?_
  rename News _ _ _ _ => N1
  rename Fr _ _ _ _ => F1
  refine newT_K (is := [1, 5, 1, 2]) C B (fun b o e q => .inl (Tg b o e q)) X F1 N1 (.head _) (fun j v h => Row.get (.cons ⟨_, .int _ _⟩ (.cons ⟨_, .str _ _⟩ (.cons ⟨_, .int _ _⟩ (.cons ⟨_, .int _ _⟩ .nil)))) h) rfl (fun h2 x2 dx2 d2 t2 n2 es2 ep2 tk2 F2 N2 off2 e21 e22 e23 Bd2 => ?_)
  clear F1 N1
  k_steps
  refine go_ ?_
  rename News _ _ _ _ => N3
  rename Fr _ _ _ _ => F3
  rename_i T0 hT0 lT0 q4 hq4 lq4
  have T3 := cut_of (ps := [_]) F3 N3 (fun p hp => List.mem_singleton.mp hp ▸ .tail _ (.head _))
  have G3 := fun b o => cut_get (ps := [_]) (b := b) (o := o) F3 N3 (fun p hp => List.mem_singleton.mp hp ▸ .tail _ (.head _))
  refine newT_K (ti := cutTo (groundOf F3) _ [_]) (is := [8, 2, 6]) C B (fun b o e q => (T3 b o e).imp id fun q => List.mem_singleton.mp q ▸ .tail _ (.head _)) X F3 N3 (.head _) (fun j v h => Row.get (.cons ⟨_, .tuple (G3 _ _ (.inr (.head _))) rfl rfl (.cons (.int _ _) .nil)⟩ (.cons ⟨_, .int _ _⟩ (.cons ⟨_, .str _ _⟩ .nil))) h) rfl (fun h4 x4 dx4 d4 t4 n4 es4 ep4 tk4 F4 N4 off4 e41 e42 e43 Bd4 => ?_)
  dsimp only [groundOf] at Bd4
  clear F3 N3
  k_steps
  refine go_ ?_
  rename News _ _ _ _ => N5
  rename Fr _ _ _ _ => F5
  rename_i Ls hLs lLs hq tkq r0 hr0 lr0 r1 hr1 lr1 T1 hT1 lT1 r2 hr2 lr2 Lr hLr lLr hz
  (with_unfolding_all refine' For_invVF F5 ?k1 ?k2 ?_; (case k1 => exact rfl); (case k2 => exact rfl); k_whole)
  k_steps
  rename News _ _ _ _ => N6
  rename Fr _ _ _ _ => F6
  rename_i D0 ws0 hw0 hI0 hC0 hL0 l10
  refine for_listN (fun j m₁ news₁ => ∃ (u : Str → Option Value) (ti : Heap) (x dx d r : Fin 3 → Addr) (l : Fin 3 → List (Fin 9)) (Ls Lr : Addr), (m₁ = fun z => if z = Str.ofString "rows" then some (.ref Lr) else if z = Str.ofString "sets" then some (.ref Ls) else u z) ∧ LawInv PySem.Challenge.rw_ab5007_01.row.prog w s1.heap ti [] news₁ Ls Lr x dx d r l l) rfl F6 N6 ?_ ?_ ?_ ?_
  · simp only [List.mem_cons, List.not_mem_nil, or_false, forall_eq_or_imp, forall_eq]
    and_intros <;> (show @Ne Nat _ _; omega)
  · obtain ⟨ti, x, dx, d, r, l, hI⟩ := first_inv F6 N6 Bd' (fold2 ▸ Bd2) (fold4 ▸ Bd4) T3 (off2 _ (at_in 1 rfl)).1 (off4 _ (at_in 6 rfl)).1 (off4 _ (at_in 2 rfl)).1 (off2 _ (at_in 3 rfl)).2.2 (off4 _ (at_in 8 rfl)).2.2 (off4 _ (at_in 4 rfl)).2.2
      (by show @Ne Nat _ _; omega) (by show @Ne Nat _ _; omega) (by show @Ne Nat _ _; omega) (by show @Ne Nat _ _; omega) (by show @Ne Nat _ _; omega) (by show @Ne Nat _ _; omega) (by show @Ne Nat _ _; omega)
    exact ⟨_, ti, x, dx, d, r, l, Ls, Lr, rfl, hI⟩
  · rintro I i number m₁ news₁ h tk oI hv ⟨u, ti, x, dx, d, r, l, Ls, Lr, rfl, Iv⟩ hlI hnI hnl Ft Nt
    obtain ⟨z, t, rfl, _⟩ := IntsAre.at hI0 _ _ hv
    have I1 := Iv.ow' (ow' := [(I, oI), (D0, listOf ws0.toArray 0)]) (fun p hp q hq => by
      simp only [List.mem_cons, List.not_mem_nil, or_false] at hq
      rcases hq with rfl | rfl
      · exact hnI p hp
      · exact hnl p hp)
    have hlen : ∀ i, (l i).length ≤ 100 := fun i => Nat.le_trans (nodup_le (Iv.nd i)) (by decide)
    clear Iv hnI hnl hlI F6 N6 hv hI0 hC0 hL0 l10 lLs lr0 lr1 lT1 lr2 lLr off2 off4 Bd' Bd2 Bd4 T3 G3 lq4 lT0 F N
    dsimp only at Ft ⊢
    k_steps
    refine go_ ?_
    obtain ⟨jt, vt, it, ht1, ht2, ht3, ht4⟩ := item_of rowI (z.fdiv 144)
    refine sub_list (by k_asm) (List.mem_cons_of_mem _ (List.mem_cons_of_mem _ hDI)) ht1 ht3 ht4 ?_
    dsimp only
    clear rowI hDI ht1 ht3 ht4
    obtain ⟨i0, hi0⟩ := fmod3 (z.fdiv 16)
    obtain ⟨j0, hj0⟩ := fmod3 (z.fdiv 48)
    obtain ⟨q0, hq0⟩ := fmod3 (z.fdiv 144)
    obtain ⟨q1, hq1⟩ := fmod3 (z.fdiv 432)
    obtain ⟨hk0, hk1⟩ := fmod_in z 16
    have mark := markP
    k_steps
    refine go_ ?_
    rename News _ _ _ _ => Nk
    rename Fr _ _ _ _ => Fk
    dsimp only at Fk ⊢
    refine wpAny_mono (Q := MidP PySem.Challenge.rw_ab5007_01.row.prog w s1.heap s1.heap.objs.size [(I, oI), (D0, listOf ws0.toArray 0)] Ls Lr (z.fmod 16) ((z.fdiv 16).fmod 3) ((z.fdiv 48).fmod 3) s1) ?_ ?_ (fun _ _ e => e)
    · iterate 7 (first | (k_unfold; (try dsimp only)) | walk1 | (dsimp only; walk1))
      · k_steps
        rename LawInv _ _ _ _ _ _ _ _ _ _ _ _ _ _ => IX
        rename News _ _ _ _ => NX
        rename Fr _ _ _ _ => FX
        exact MidP.intro FX NX IX rfl rfl rfl rfl rfl rfl
      · have mark := markP
        k_steps
        refine go_ ?_
        iterate 7 (first | (k_unfold; (try dsimp only)) | walk1 | (dsimp only; walk1))
        · k_steps
          all_goals
            refine go_ ?_
            rename LawInv _ _ _ _ _ _ _ _ _ _ _ _ _ _ => IX
            rename News _ _ _ _ => NX
            rename Fr _ _ _ _ => FX
            refine set_set FX NX IX (fun _ h => h) (IX.setIn i0) (fun j hj => ⟨IX.neX _ _ (Ne.symm hj), IX.neD _ _ (Ne.symm hj)⟩) hi0 ?_
            intro h' R' F' N' I' keepR
            clear IX keepR NX FX
            dsimp only [List.nil_append, List.cons_append] at N'
            dsimp only
            k_steps
            rename LawInv _ _ _ _ _ _ _ _ _ _ _ _ _ _ => IX
            rename News _ _ _ _ => NX
            rename Fr _ _ _ _ => FX
            exact MidP.intro FX NX IX upd_idem.symm rfl rfl rfl rfl rfl
        · have mark := markP
          k_steps
          refine go_ ?_
          iterate 7 (first | (k_unfold; (try dsimp only)) | walk1 | (dsimp only; walk1))
          · k_steps
            refine go_ ?_
            rename LawInv _ _ _ _ _ _ _ _ _ _ _ _ _ _ => IX
            rename News _ _ _ _ => NX
            rename Fr _ _ _ _ => FX
            refine set_set FX NX IX (fun _ h => h) (qN q1) (fun j _ => neN q1 j) hq0 ?_
            intro h' R' F' N' I' keepR
            rename RowIn _ _ _ _ _ _ => rowQ
            have qC := keepR _ _ rowQ
            clear IX keepR NX FX rowQ
            dsimp only [List.nil_append, List.cons_append] at N'
            dsimp only
            k_steps
            rename LawInv _ _ _ _ _ _ _ _ _ _ _ _ _ _ => IX
            rename News _ _ _ _ => NX
            rename Fr _ _ _ _ => FX
            exact MidP.intro FX NX IX rfl rfl rfl rfl rfl rfl
          · have mark := markP
            k_steps
            refine go_ ?_
            iterate 7 (first | (k_unfold; (try dsimp only)) | walk1 | (dsimp only; walk1))
            · obtain ⟨ta, na, hat⟩ := I'.attrs i0
              k_steps
              refine go_ ?_
              rename LawInv _ _ _ _ _ _ _ _ _ _ _ _ _ _ => IX
              rename News _ _ _ _ => NX
              rename Fr _ _ _ _ => FX
              refine set_set FX NX IX (fun _ h => h) qC (fun j _ => neC j) hj0 ?_
              intro h' R' F' N' I' keepR
              clear IX keepR NX FX qC hat neC
              dsimp only [List.nil_append, List.cons_append] at N'
              dsimp only
              k_steps
              rename LawInv _ _ _ _ _ _ _ _ _ _ _ _ _ _ => IX
              rename News _ _ _ _ => NX
              rename Fr _ _ _ _ => FX
              exact MidP.intro FX NX IX rfl rfl rfl rfl rfl rfl
            · iterate 15 (first | (k_unfold; (try dsimp only)) | walk1 | (dsimp only; walk1))
              · obtain ⟨ta, na, hat⟩ := I'.attrs i0
                k_steps
                refine go_ ?_
                rename LawInv _ _ _ _ _ _ _ _ _ _ _ _ _ _ => IX
                rename News _ _ _ _ => NX
                rename Fr _ _ _ _ => FX
                rename_i D9 h9 l9
                obtain ⟨NA, IA, a9, b9⟩ := absorb IX NX (fun _ h => h) (of_allLt l9)
                refine set_row FX NA IA (fun _ h => h) (l₂ := []) ⟨⟨[], _, .head _, .nil⟩, a9, b9⟩ hi0 ?_
                intro h' R' F' N' I'
                clear IX IA NA NX FX
                dsimp only [List.nil_append, List.cons_append] at N'
                dsimp only
                k_steps
                rename LawInv _ _ _ _ _ _ _ _ _ _ _ _ _ _ => IX
                rename News _ _ _ _ => NX
                rename Fr _ _ _ _ => FX
                exact MidP.intro FX NX IX rfl rfl rfl rfl rfl rfl
              · obtain ⟨ta, na, hat⟩ := I'.attrs i0
                k_steps
                refine go_ ?_
                rename LawInv _ _ _ _ _ _ _ _ _ _ _ _ _ _ => IX
                rename News _ _ _ _ => NX
                rename Fr _ _ _ _ => FX
                rename_i D9 h9 l9
                obtain ⟨NA, IA, a9, b9⟩ := absorb IX NX (fun _ h => h) (of_allLt l9)
                refine call_update (is := [it, 0, it]) C B FX NA IA (fun _ h => h) (.tail _ (.tail _ (.head _))) (.cons ht2 (.cons ⟨_, .int _ _⟩ (.cons ht2 .nil))) ?_
                intro h' tk' R' F' N' I'
                clear IX IA NA NX FX hat l9 a9 b9
                dsimp only [List.nil_append, List.cons_append] at N'
                dsimp only
                k_steps
                refine go_ ?_
                rename LawInv _ _ _ _ _ _ _ _ _ _ _ _ _ _ => IX
                rename News _ _ _ _ => NX
                rename Fr _ _ _ _ => FX
                refine ne_item (j := 0) (IX.tup FX (newsR (ow := [(I, oI), (D0, listOf ws0.toArray 0)]) NX (fun _ h => h))) ht2 ⟨_, .int _ _⟩ (Room.units C.room.deeper (j := 2)) ?_
                have mark := markP
                by_cases hit : it = 0
                · rw [show (!decide (it = 0)) = false from by simp [hit]]
                  k_steps
                  refine go_ ?_
                  rename LawInv _ _ _ _ _ _ _ _ _ _ _ _ _ _ => IX
                  rename News _ _ _ _ => NX
                  rename Fr _ _ _ _ => FX
                  rename_i D9 h9 l9
                  obtain ⟨_, _, a9, b9⟩ := absorb IX NX (fun _ h => h) (of_allLt l9)
                  refine call_due (bl := [0]) C B FX NX IX (fun _ h => .tail _ h) (RowIn.sub (IX.rowIn i0) (fun _ h => .tail _ (.tail _ (.tail _ h)))) ⟨⟨_, _, .head _, .cons ⟨_, .int _ _⟩ .nil⟩, a9, b9⟩ (hlen _) (by simp) ?_
                  intro h' tk' R' DC F' N' I' qC
                  clear IX NX FX
                  dsimp only [List.nil_append, List.cons_append] at N'
                  dsimp only
                  k_steps
                  rename LawInv _ _ _ _ _ _ _ _ _ _ _ _ _ _ => IX
                  rename News _ _ _ _ => NX
                  rename Fr _ _ _ _ => FX
                  exact MidP.intro FX NX IX (by rw [hit, upd_zero]) rfl rfl rfl rfl rfl
                · rw [show (!decide (it = 0)) = true from by simp [hit]]
                  k_steps
                  refine go_ ?_
                  rename LawInv _ _ _ _ _ _ _ _ _ _ _ _ _ _ => IX
                  rename News _ _ _ _ => NX
                  rename Fr _ _ _ _ => FX
                  rename_i D9 h9 l9
                  obtain ⟨_, _, a9, b9⟩ := absorb IX NX (fun _ h => h) (of_allLt l9)
                  refine call_due (bl := [it, 0]) C B FX NX IX (fun _ h => .tail _ h) (RowIn.sub (IX.rowIn i0) (fun _ h => .tail _ (.tail _ (.tail _ h)))) ⟨⟨_, _, .head _, .cons ht2 (.cons ⟨_, .int _ _⟩ .nil)⟩, a9, b9⟩ (hlen _) (by simp) ?_
                  intro h' tk' R' DC F' N' I' qC
                  clear IX NX FX
                  dsimp only [List.nil_append, List.cons_append] at N'
                  dsimp only
                  k_steps
                  rename LawInv _ _ _ _ _ _ _ _ _ _ _ _ _ _ => IX
                  rename News _ _ _ _ => NX
                  rename Fr _ _ _ _ => FX
                  exact MidP.intro FX NX IX (by rw [upd_some hit]) rfl rfl rfl rfl rfl
    · rintro f s' ⟨h', tk', t1', t2', t3', u', ti', R', x, dx, d, r, l, rfl, rfl, F', N', I'⟩
      clear hlen
      dsimp only [List.nil_append, List.cons_append] at N' F'
      dsimp only
      k_steps
      rename LawInv _ _ _ _ _ _ _ _ _ _ _ _ _ _ => IX
      rename News _ _ _ _ => NX
      rename Fr _ _ _ _ => FX
      exact TurnM.intro FX NX IX.sep ⟨_, ti', x, dx, d, r, l, Ls, Lr, chain2 rfl rfl, IX.ow' (by simp)⟩
  · rintro m₁ news₁ h tk ⟨u, ti, x, dx, d, r, l, Ls, Lr, rfl, I'⟩ Fd Nd
    clear F6 N6 hI0 hC0 hL0 l10 lLs lr0 lr1 lT1 lr2 lLr off2 off4 Bd' Bd2 Bd4 T3 G3 lq4 lT0 F N
    dsimp only
    k_steps)
end
end Mine
theorem PySem.Challenge.cw_ab5007_01_holds : PySem.Challenge.rw_ab5007_01.Holds := by
  exact Mine.t
