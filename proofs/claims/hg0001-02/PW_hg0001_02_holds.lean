import PyProof.Rows.All
import Wide.All
import OpenK.AllK
import Wide.FinOn
import Lean
import PySem.Challenge.RW_hg0001_02
open PySem PySem.W PyProof.Rows PySem.Calls
set_option Elab.async false
set_option linter.unusedVariables false
namespace Mine
/-! ### L1 -/
/-! ## heaps and ledgers -/
abbrev Led := List (Addr × Obj)
def Ext (h h' : Heap) : Prop := ∀ b o, h.get? b = some o → h'.get? b = some o
def Has (h : Heap) (l : Led) : Prop := ∀ p ∈ l, h.get? p.1 = some p.2
def Fre (h : Heap) (l : Led) : Prop := ∀ p ∈ l, h.get? p.1 = none
def But (a : Addr) (h h' : Heap) : Prop := ∀ b o, b ≠ a → h.get? b = some o → h'.get? b = some o

theorem Ext.refl {h : Heap} : Ext h h := fun _ _ e => e
theorem Ext.trans {h h' h'' : Heap} (a : Ext h h') (b : Ext h' h'') : Ext h h'' := fun x o e => b x o (a x o e)
theorem Ext.push (h : Heap) (o : Obj) : Ext h (h.push o) := fun _ _ e => Heap.get?_push_of_some _ e
theorem Ext.but {h h' : Heap} (a : Ext h h') (x : Addr) : But x h h' := fun b o _ e => a b o e
theorem Has.ext {h h' : Heap} {l : Led} (x : Has h l) (e : Ext h h') : Has h' l := fun p hp => e _ _ (x p hp)
theorem Has.nil {h : Heap} : Has h [] := fun _ hp => nomatch hp
theorem Has.append {h : Heap} {l l' : Led} (x : Has h l) (y : Has h l') : Has h (l ++ l') := fun p hp => (List.mem_append.mp hp).elim (x p) (y p)
theorem Has.one {h : Heap} {a : Addr} {o : Obj} (e : h.get? a = some o) : Has h [(a, o)] := fun p hp => by rw [List.mem_singleton.mp hp]; exact e
theorem Has.left {h : Heap} {l l' : Led} (x : Has h (l ++ l')) : Has h l := fun p hp => x p (List.mem_append_left _ hp)
theorem Has.right {h : Heap} {l l' : Led} (x : Has h (l ++ l')) : Has h l' := fun p hp => x p (List.mem_append_right _ hp)
theorem Fre.nil {h : Heap} : Fre h [] := fun _ hp => nomatch hp
theorem Fre.append {h : Heap} {l l' : Led} (x : Fre h l) (y : Fre h l') : Fre h (l ++ l') := fun p hp => (List.mem_append.mp hp).elim (x p) (y p)
theorem none_of_ext {h h' : Heap} {a : Addr} (x : Ext h h') (e : h'.get? a = none) : h.get? a = none := by
  cases q : h.get? a with
  | none => rfl
  | some o => rw [x _ _ q] at e; cases e
theorem Fre.of_ext {h h' : Heap} {l : Led} (x : Fre h' l) (e : Ext h h') : Fre h l := fun p hp => none_of_ext e (x p hp)
theorem fresh_size (h : Heap) : h.get? h.objs.size = none := by
  cases q : h.get? h.objs.size with
  | none => rfl
  | some o => exact absurd (Heap.lt_size q) (Nat.lt_irrefl _)
theorem fresh_ge {h : Heap} {a : Addr} (k : h.objs.size ≤ a) : h.get? a = none := by
  cases q : h.get? a with
  | none => rfl
  | some o => exact absurd (Heap.lt_size q) (Nat.not_lt.mpr k)
theorem Fre.one {h : Heap} {a : Addr} {o : Obj} (e : h.get? a = none) : Fre h [(a, o)] := fun p hp => by rw [List.mem_singleton.mp hp]; exact e
theorem ne_of_get {h : Heap} {a b : Addr} {o : Obj} (x : h.get? a = some o) (y : h.get? b = none) : a ≠ b := by
  rintro rfl; rw [x] at y; cases y

/-! ## data -/
inductive D where
  | none
  | bool (b : Bool)
  | int (i : Int)
  | tup (ds : List D)
  | lst (ds : List D)
  | rng (a b : Int)
  | tc (C : Addr) (sel : D)
  | val (v : Value) (d : D)
  | ob (a : Addr) (o : Obj)

mutual
inductive DIn (l : Led) : Value → D → Prop
  | none : DIn l Value.none D.none
  | bool (b : Bool) : DIn l (Value.bool b) (D.bool b)
  | int (i : Int) (t : Tok) : DIn l (Value.int i t) (D.int i)
  | tup {a : Addr} {o : Obj} {vs : List Value} {n : Nat} {ds : List D} : (a, o) ∈ l → o.cls = .type "tuple" → o.data = .seq vs.toArray n → DAll l vs ds → DIn l (Value.ref a) (D.tup ds)
  | lst {a : Addr} {o : Obj} {vs : List Value} {n : Nat} {ds : List D} : (a, o) ∈ l → o.cls = .type "list" → o.data = .seq vs.toArray n → DAll l vs ds → DIn l (Value.ref a) (D.lst ds)
  | rng {a : Addr} {x y : Int} {t u v : Tok} : (a, ({ cls := .type "range", dict := none, data := .fields #[.int x t, .int y u, .int 1 v], slots := #[] } : Obj)) ∈ l → DIn l (Value.ref a) (D.rng x y)
  | tc {x dx C : Addr} {es : List DictEntry} {hsh : Int} {tk n : Nat} {v : Value} {sel : D} : (x, instObj C dx) ∈ l → (dx, dictOf [⟨hsh, .str (Str.ofString "comp_select_list") tk, v⟩] n) ∈ l → DIn l v sel → DIn l (Value.ref x) (D.tc C sel)
  | val {v : Value} {d : D} : DIn l v d → DIn l v (D.val v d)
  | ob {a : Addr} {o : Obj} : (a, o) ∈ l → DIn l (Value.ref a) (D.ob a o)
inductive DAll (l : Led) : List Value → List D → Prop
  | nil : DAll l [] []
  | cons {v : Value} {vs : List Value} {d : D} {ds : List D} : DIn l v d → DAll l vs ds → DAll l (v :: vs) (d :: ds)
end
mutual
theorem DIn.mono {l l' : Led} (hs : ∀ p ∈ l, p ∈ l') : ∀ {v : Value} {d : D}, DIn l v d → DIn l' v d
  | _, _, .none => .none
  | _, _, .bool b => .bool b
  | _, _, .int i t => .int i t
  | _, _, .tup h c x r => .tup (hs _ h) c x (DAll.mono hs r)
  | _, _, .lst h c x r => .lst (hs _ h) c x (DAll.mono hs r)
  | _, _, .rng h => .rng (hs _ h)
  | _, _, .tc (es := es) h h' r => .tc (es := es) (hs _ h) (hs _ h') (DIn.mono hs r)
  | _, _, .val r => .val (DIn.mono hs r)
  | _, _, .ob h => .ob (hs _ h)
theorem DAll.mono {l l' : Led} (hs : ∀ p ∈ l, p ∈ l') : ∀ {vs : List Value} {ds : List D}, DAll l vs ds → DAll l' vs ds
  | _, _, .nil => .nil
  | _, _, .cons h r => .cons (DIn.mono hs h) (DAll.mono hs r)
end
theorem sub_app {l l' : Led} : ∀ p ∈ l', p ∈ l ++ l' := fun _ h => List.mem_append_right _ h
theorem sub_app2 {a b l : Led} : ∀ p ∈ a ++ l, p ∈ (b ++ a) ++ l := fun p hp => by
  rcases List.mem_append.mp hp with h | h
  · exact List.mem_append_left _ (List.mem_append_right _ h)
  · exact List.mem_append_right _ h
section
variable {l : Led} {v : Value} {d : D} {vs ws : List Value} {ds es : List D}
theorem DAll.length (h : DAll l vs ds) : vs.length = ds.length := by
  induction vs generalizing ds with
  | nil => cases h; rfl
  | cons v vs ih => cases h with | cons _ r => rw [List.length_cons, List.length_cons, ih r]
theorem DAll.append (h : DAll l vs ds) (k : DAll l ws es) : DAll l (vs ++ ws) (ds ++ es) := by
  induction vs generalizing ds with
  | nil => cases h; exact k
  | cons v vs ih => cases h with | cons h r => exact .cons h (ih r)
theorem DAll.one (h : DIn l v d) : DAll l [v] [d] := .cons h .nil
theorem DAll.get (h : DAll l vs ds) {k : Nat} {v : Value} (hv : vs[k]? = some v) : ∃ d, ds[k]? = some d ∧ DIn l v d := by
  induction vs generalizing ds k with
  | nil => simp at hv
  | cons w vs ih =>
    cases h with
    | cons h r =>
      cases k with
      | zero => simp at hv; subst hv; exact ⟨_, rfl, h⟩
      | succ k => simpa using ih r (by simpa using hv)
theorem DAll.at (h : DAll l vs ds) {k : Nat} {d : D} (hd : ds[k]? = some d) : ∃ v, vs[k]? = some v ∧ DIn l v d := by
  induction vs generalizing ds k with
  | nil => cases h; simp at hd
  | cons w vs ih =>
    cases h with
    | cons h r =>
      cases k with
      | zero => simp at hd; subst hd; exact ⟨_, rfl, h⟩
      | succ k => simpa using ih r (by simpa using hd)
theorem DAll.take (h : DAll l vs ds) (k : Nat) : DAll l (vs.take k) (ds.take k) := by
  induction vs generalizing ds k with
  | nil => cases h; simpa using DAll.nil
  | cons w vs ih =>
    cases h with
    | cons h r => cases k with
      | zero => exact .nil
      | succ k => exact .cons h (ih r k)
theorem DAll.drop (h : DAll l vs ds) (k : Nat) : DAll l (vs.drop k) (ds.drop k) := by
  induction vs generalizing ds k with
  | nil => cases h; simpa using DAll.nil
  | cons w vs ih =>
    cases h with
    | cons h r => cases k with
      | zero => exact .cons h r
      | succ k => exact ih r k
theorem DAll.reverse (h : DAll l vs ds) : DAll l vs.reverse ds.reverse := by
  induction vs generalizing ds with
  | nil => cases h; exact .nil
  | cons w vs ih => cases h with | cons h r => simpa using (ih r).append (.one h)
theorem DAll.ints {ns : List Int} (h : DAll l vs (ns.map D.int)) : IntsAre vs ns := by
  induction ns generalizing vs with
  | nil => cases h; exact .nil
  | cons n ns ih => cases h with | cons h r => cases h; exact .cons _ _ (ih r)
theorem DAll.of_ints {ns : List Int} (h : IntsAre vs ns) : DAll l vs (ns.map D.int) := by
  induction h with
  | nil => exact .nil
  | cons n t r ih => exact .cons (.int n t) ih
theorem DIn.unval {u : Value} (h : DIn l v (.val u d)) : v = u ∧ DIn l v d := by cases h with | val h => exact ⟨rfl, h⟩
def D.isSome : D → Bool
  | .none => false
  | .val _ _ => false
  | _ => true
theorem DIn.not_none (h : DIn l v d) (hd : d.isSome = true) : v ≠ .none := by
  rintro rfl; cases h <;> simp [D.isSome] at hd
theorem DAll.insert (h : DAll l vs ds) (k : DIn l v d) (n : Nat) : DAll l (vs.take n ++ v :: vs.drop n) (ds.take n ++ d :: ds.drop n) :=
  (h.take n).append (.cons k (h.drop n))
end

/-! ### L2 -/
/-! ## iteration -/
def elems : D → Option (List D)
  | .lst ds => some ds
  | .tup ds => some ds
  | .rng a b => some ((List.range (b - a).toNat).map fun (i : Nat) => D.int (a + (i : Int)))
  | _ => none

structure Iter (prog : Program) (w : World) (A : Around) (l : Led) (ds : List D) (I : Addr) (St : Nat → Heap → Prop) : Prop where
  item : ∀ i (s : Shared) (Q : Option Value → Shared → Prop) (E : Value → Shared → Prop) (d : D), ds[i]? = some d → St i s.heap →
    (∀ v h' tk, DIn l v d → St (i + 1) h' → But I s.heap h' → Q (some v) { s with heap := h', toks := tk }) → wpAny (model prog w) A (pyNext (.ref I)) Q E s
  done : ∀ (s : Shared) (Q : Option Value → Shared → Prop) (E : Value → Shared → Prop), St ds.length s.heap →
    (∀ h' tk, But I s.heap h' → Q none { s with heap := h', toks := tk }) → wpAny (model prog w) A (pyNext (.ref I)) Q E s
  self : ∀ i (s : Shared) (Q : Value → Shared → Prop) (E : Value → Shared → Prop), St i s.heap → Q (.ref I) s → wpAny (model prog w) A (pyIter (.ref I)) Q E s
  frame : ∀ i h h', St i h → (∀ o, h.get? I = some o → h'.get? I = some o) → Has h l → Has h' l → St i h'
  at_ : ∀ i h, St i h → ∃ o, h.get? I = some o
  go : ∀ i (s : Shared) (Q : Unit → Shared → Prop) (E : Value → Shared → Prop) (t : Expr) (v : Value), St i s.heap → Q () s → wpAny (model prog w) A (letOwnedTupleGo t (.ref I) v) Q E s

section
variable {prog : Program} {w : World} {A : Around}

theorem go_other {I : Addr} {o : Obj} {T : String} {vs : Array Value} {s : Shared} {Q : Unit → Shared → Prop} {E : Value → Shared → Prop} {t : Expr} {v : Value}
    (ho : s.heap.get? I = some o) (hc : o.cls = .type T) (hd : o.data = .fields vs)
    (hT : (["enumerate", "zip", "dict_itemiterator", "dict_reverseitemiterator", "odict_iterator", "itertools.zip_longest", "itertools.pairwise"].contains T) = false) (hQ : Q () s) :
    wpAny (model prog w) A (letOwnedTupleGo t (.ref I) v) Q E s := by
  unfold letOwnedTupleGo
  have key : ∀ a : Addr, wpAny (model prog w) A (do
      let o ← load I
      match o.cls, o.data with
      | .type n, .fields vs =>
        if ["enumerate", "zip", "dict_itemiterator", "dict_reverseitemiterator", "odict_iterator", "itertools.zip_longest", "itertools.pairwise"].contains n && vs[0]? == some (rawInt a) then
          rule "for.unpacks-the-owned-tuple"
          updateField I 0 .none
      | _, _ => pure ()) Q E s := by
    intro a
    refine wpAny_bind (wpAny_load ho ?_)
    rw [hc, hd]
    show wpAny _ A (if (["enumerate", "zip", "dict_itemiterator", "dict_reverseitemiterator", "odict_iterator", "itertools.zip_longest", "itertools.pairwise"].contains T && vs[0]? == some (rawInt a)) = true then _ else _) Q E s
    rw [hT, Bool.false_and, if_neg (by decide)]
    exact wpAny_pure hQ
  cases t <;> first
    | exact wpAny_pure hQ
    | (cases v <;> first | exact key _ | exact wpAny_pure hQ)

theorem Iter.of_list (hh : A.handled = none) {l : Led} {a I : Addr} {o : Obj} {vs : List Value} {n : Nat} {ds : List D} (hm : (a, o) ∈ l) (hc : o.cls = .type "list") (hd : o.data = .seq vs.toArray n) (hv : DAll l vs ds) (hne : a ≠ I) :
    Iter prog w A l ds I (fun i h => h.IsListIter I a i ∧ h.IsList a vs.toArray) where
  item := fun i s Q E d hi st hQ => by
    obtain ⟨v, hvi, hD⟩ := hv.at hi
    refine wpAny_pyNext_list_item st.1 st.2 (x := v) (by simpa using hvi) fun h' hit' hs' => ?_
    exact hQ v h' s.toks hD ⟨hit', st.2.extBut hs'.extBut hne⟩ fun b o hb e => hs'.extBut b o hb e
  done := fun s Q E st hQ => wpAny_pyNext_list_end hh st.1 st.2 (by simp [hv.length]) fun h' he' => hQ h' s.toks fun b o hb e => he' b o hb e
  self := fun _ _ _ _ st hQ => wpAny_pyIter_listiter st.1 hQ
  frame := fun i h h' st hI _ Hl' => ⟨let ⟨o, ho, r⟩ := st.1; ⟨o, hI _ ho, r⟩, ⟨o, Hl' _ hm, hc, n, hd⟩⟩
  at_ := fun i h st => let ⟨o, ho, _⟩ := st.1; ⟨o, ho⟩
  go := fun i s Q E t v st hQ => let ⟨_, ho, hc, hd⟩ := st.1; go_other ho hc hd (by decide) hQ

theorem Iter.of_tup (hh : A.handled = none) {l : Led} {a I : Addr} {o : Obj} {vs : List Value} {n : Nat} {ds : List D} (hm : (a, o) ∈ l) (hc : o.cls = .type "tuple") (hd : o.data = .seq vs.toArray n) (hv : DAll l vs ds) (hne : a ≠ I) :
    Iter prog w A l ds I (fun i h => h.IsTupleIter I a i ∧ h.IsTuple a vs.toArray) where
  item := fun i s Q E d hi st hQ => by
    obtain ⟨v, hvi, hD⟩ := hv.at hi
    refine wpAny_pyNext_tuple_item st.1 st.2 (x := v) (by simpa using hvi) fun h' hit' hs' => ?_
    exact hQ v h' s.toks hD ⟨hit', st.2.extBut hs'.extBut hne⟩ fun b o hb e => hs'.extBut b o hb e
  done := fun s Q E st hQ => wpAny_pyNext_tuple_end hh st.1 st.2 (by simp [hv.length]) fun h' he' => hQ h' s.toks fun b o hb e => he' b o hb e
  self := fun _ _ _ _ st hQ => wpAny_pyIter_tupleiter st.1 hQ
  frame := fun i h h' st hI _ Hl' => ⟨let ⟨o, ho, r⟩ := st.1; ⟨o, hI _ ho, r⟩, ⟨o, Hl' _ hm, hc, n, hd⟩⟩
  at_ := fun i h st => let ⟨o, ho, _⟩ := st.1; ⟨o, ho⟩
  go := fun i s Q E t v st hQ => let ⟨_, ho, hc, hd⟩ := st.1; go_other ho hc hd (by decide) hQ

theorem Iter.of_rng (hh : A.handled = none) {l : Led} {I : Addr} {x y : Int} :
    Iter prog w A l ((List.range (y - x).toNat).map fun (i : Nat) => D.int (x + (i : Int))) I (fun i h => IsRangeIter h I (x + (i : Nat) * 1) (((y - x).toNat : Int) - (i : Nat)) 1) where
  item := fun i s Q E d hi st hQ => by
    rw [List.getElem?_map, Option.map_eq_some_iff] at hi
    obtain ⟨j, hj, rfl⟩ := hi
    have hlt : i < (y - x).toNat := by
      have := List.getElem?_eq_some_iff.mp hj
      simpa using this.1
    have hji : j = i := by
      have := List.getElem?_eq_some_iff.mp hj
      simpa using this.2.symm
    subst hji
    refine (Walks.range (prog := prog) (w := w) (A := A) hh I x 1 (y - x).toNat).item j s Q E hlt st fun v h' tk hv st' hk => ?_
    obtain ⟨t, rfl⟩ := hv
    rw [Int.mul_one] at *
    exact hQ _ _ _ (.int _ _) st' fun b o hb e => hk b o (by simpa using hb) e
  done := fun s Q E st hQ => by
    refine (Walks.range (prog := prog) (w := w) (A := A) hh I x 1 (y - x).toNat).done s Q E (by simpa using st) fun h' tk hk => ?_
    exact hQ _ _ fun b o hb e => hk b o (by simpa using hb) e
  self := fun i s Q E st hQ => (Walks.range (prog := prog) (w := w) (A := A) hh I x 1 (y - x).toNat).self i s Q E st hQ
  frame := fun i h h' st hI _ _ => hI _ st
  at_ := fun i h st => ⟨_, st⟩
  go := fun i s Q E t v st hQ => go_other (T := "range_iterator") st rfl rfl (by decide) hQ

/-- what pyIter makes of a datum that has elements -/
theorem iter_any {E : Value → Shared → Prop} {s : Shared} {Q : Value → Shared → Prop} (hh : A.handled = none) {l : Led} {v : Value} {d : D} {ds : List D} (hl : Has s.heap l) (hv : DIn l v d) (he : elems d = some ds)
    (hsm : ∀ a b, d = .rng a b → Builtin.Range.small a b 1 = true)
    (h : ∀ I h' St, Iter prog w A l ds I St → St 0 h' → Ext s.heap h' → s.heap.get? I = none → Q (.ref I) { s with heap := h' }) : wpAny (model prog w) A (pyIter v) Q E s := by
  cases hv with
  | lst hm hc hd hv =>
    cases he
    rename_i a o vs n
    have hL : s.heap.IsList a vs.toArray := ⟨o, hl _ hm, hc, n, hd⟩
    refine wpAny_pyIter_list hL ?_
    have hne : a ≠ s.heap.objs.size := Nat.ne_of_lt (Heap.lt_size (hl _ hm))
    exact h _ _ _ (Iter.of_list hh hm hc hd hv hne) ⟨⟨_, Heap.get?_push_size _ rfl, rfl, rfl⟩, hL.push _⟩ (Ext.push _ _) (fresh_size _)
  | tup hm hc hd hv =>
    cases he
    rename_i a o vs n
    have hL : s.heap.IsTuple a vs.toArray := ⟨o, hl _ hm, hc, n, hd⟩
    refine wpAny_pyIter_tuple hL ?_
    have hne : a ≠ s.heap.objs.size := Nat.ne_of_lt (Heap.lt_size (hl _ hm))
    exact h _ _ _ (Iter.of_tup hh hm hc hd hv hne) ⟨⟨_, Heap.get?_push_size _ rfl, rfl, rfl⟩, hL.push _⟩ (Ext.push _ _) (fresh_size _)
  | rng hm =>
    cases he
    rename_i a x y t u v
    have hr : IsRange s.heap a x y 1 t u v := hl _ hm
    refine wpAny_pyIter_range hr (hsm _ _ rfl) ?_
    refine h _ _ _ (Iter.of_rng hh) ?_ (Ext.push _ _) (fresh_size _)
    have e : Builtin.Range.rangeSize x y 1 = ((y - x).toNat : Int) := by rw [rangeSize_one]; split <;> omega
    rw [e]
    simpa using Heap.get?_push_size (o := { cls := .type "range_iterator", data := .fields #[rawInt x, rawInt ((y - x).toNat : Int), rawInt 1] }) s.heap rfl
  | _ => cases he
end

/-! ### L3 -/
/-! ## the fixed ground of a proof -/
structure Cfg where
  prog : Program
  w : World
  K : Frag
  p : Program
  loose : List Str
  mean : ExcName → Option Value
  mg : Str → Option Value
  mb : Str → Option Value

structure Cfg.G (c : Cfg) (h : Heap) : Prop where
  kin : c.K.In h
  top : Top c.p c.loose c.mean c.mg c.mb h
theorem Cfg.G.ext {c : Cfg} {h h' : Heap} (x : c.G h) (e : Ext h h') : c.G h' := ⟨x.kin.keeps e, x.top.keeps e⟩

/-- room for k more frames -/
structure Room (A : Around) (k : Nat) : Prop where
  hand : A.handled = none
  deep : A.depth + k < recursionLimit
  units : A.units + 8 * k + 200 < cLine

abbrev Sg := List (Str × D)
def Loads (c : Cfg) (env : Env) (h : Heap) (x : Str) (v : Value) : Prop :=
  ∀ (A : Around) (s : Shared) (Q E : Value → Shared → Prop), Ext h s.heap → Q v s → wpAny (model c.prog c.w) A (loadName env x) Q E s
theorem Loads.ext {c : Cfg} {env : Env} {h h' : Heap} {x : Str} {v : Value} (l : Loads c env h x v) (e : Ext h h') : Loads c env h' x v :=
  fun A s Q E k q => l A s Q E (e.trans k) q
def Sig (c : Cfg) (env : Env) (h : Heap) (l : Led) (σ : Sg) : Prop := ∀ x d, σ.lookup x = some d → ∃ v, DIn l v d ∧ Loads c env h x v ∧ ∀ a, env.cells.lookup x = some a → h.IsCell a (some v)
theorem Sig.ext {c : Cfg} {env : Env} {h h' : Heap} {l l' : Led} {σ : Sg} (x : Sig c env h l σ) (e : Ext h h') (k : ∀ p ∈ l, p ∈ l') : Sig c env h' l' σ :=
  fun n d hd => let ⟨v, a, b, z⟩ := x n d hd; ⟨v, a.mono k, b.ext e, fun y hy => (z y hy).keeps e⟩

/-- what a continuation must stand: a value that bears d, in a heap that has only grown -/
def Cont (s : Shared) (l : Led) (d : D) (Q : Value → Shared → Prop) : Prop :=
  ∀ v nw h' tk, Ext s.heap h' → Fre s.heap nw → Has h' nw → DIn (nw ++ l) v d → Q v { s with heap := h', toks := tk }
def Vp (c : Cfg) (A : Around) (t : Sem Value) (s : Shared) (l : Led) (d : D) : Prop :=
  ∀ (Q E : Value → Shared → Prop), Cont s l d Q → wpAny (model c.prog c.w) A t Q E s
def ContB (s : Shared) (b : Bool) (Q : Bool → Shared → Prop) : Prop := ∀ h' tk, Ext s.heap h' → Q b { s with heap := h', toks := tk }
def Vb (c : Cfg) (A : Around) (t : Sem Bool) (s : Shared) (b : Bool) : Prop :=
  ∀ (Q : Bool → Shared → Prop) (E : Value → Shared → Prop), ContB s b Q → wpAny (model c.prog c.w) A t Q E s
def ContL (s : Shared) (l : Led) (ds : List D) (Q : List Value → Shared → Prop) : Prop :=
  ∀ vs nw h' tk, Ext s.heap h' → Fre s.heap nw → Has h' nw → DAll (nw ++ l) vs ds → Q vs { s with heap := h', toks := tk }
def Vl (c : Cfg) (A : Around) (t : Sem (List Value)) (s : Shared) (l : Led) (ds : List D) : Prop :=
  ∀ (Q : List Value → Shared → Prop) (E : Value → Shared → Prop), ContL s l ds Q → wpAny (model c.prog c.w) A t Q E s

def Ev (c : Cfg) (A : Around) (env : Env) (σ : Sg) (e : Expr) (d : D) : Prop :=
  ∀ s l, c.G s.heap → Has s.heap l → Sig c env s.heap l σ → Vp c A (eval e env) s l d
def Tr (c : Cfg) (A : Around) (env : Env) (σ : Sg) (e : Expr) (b : Bool) : Prop :=
  ∀ s l, c.G s.heap → Has s.heap l → Sig c env s.heap l σ → Vb c A (isTrue e env (eval e env)) s b
def Evs (c : Cfg) (A : Around) (env : Env) (σ : Sg) (es : List Expr) (ds : List D) : Prop :=
  ∀ s l, c.G s.heap → Has s.heap l → Sig c env s.heap l σ → ∀ pos, Vl c A (spliced (backTo pos (starEach es env))) s l ds

/-- a step on values -/
def Op1 (c : Cfg) (A : Around) (f : Value → Sem Value) (da d : D) : Prop :=
  ∀ s l va, c.G s.heap → Has s.heap l → DIn l va da → Vp c A (f va) s l d
def Op2 (c : Cfg) (A : Around) (f : Value → Value → Sem Value) (da db d : D) : Prop :=
  ∀ s l va vb, c.G s.heap → Has s.heap l → DIn l va da → DIn l vb db → Vp c A (f va vb) s l d
def OpL (c : Cfg) (A : Around) (f : List Value → Sem Value) (ds : List D) (d : D) : Prop :=
  ∀ s l vs, c.G s.heap → Has s.heap l → DAll l vs ds → Vp c A (f vs) s l d

section
variable {c : Cfg} {A : Around} {env : Env} {σ : Sg}

theorem Cont.from {s : Shared} {l : Led} {d : D} {Q : Value → Shared → Prop} (k : Cont s l d Q) {nw : Led} {h' : Heap} {tk : Nat} (e : Ext s.heap h') (f : Fre s.heap nw) (a : Has h' nw) :
    Cont { s with heap := h', toks := tk } (nw ++ l) d Q := fun v nw' h'' tk' e' f' a' hd => by
  have := k v (nw' ++ nw) h'' tk' (e.trans e') (Fre.append (f'.of_ext e) f) (a'.append (a.ext e')) (by rw [List.append_assoc]; exact hd)
  exact this
theorem Cont.plain {s : Shared} {l : Led} {d : D} {Q : Value → Shared → Prop} (k : Cont s l d Q) {v : Value} (h : DIn l v d) {tk : Nat} : Q v { s with toks := tk } :=
  k v [] s.heap tk .refl .nil .nil h
theorem ContL.from {s : Shared} {l : Led} {ds : List D} {Q : List Value → Shared → Prop} (k : ContL s l ds Q) {nw : Led} {h' : Heap} {tk : Nat} (e : Ext s.heap h') (f : Fre s.heap nw) (a : Has h' nw) :
    ContL { s with heap := h', toks := tk } (nw ++ l) ds Q := fun v nw' h'' tk' e' f' a' hd => by
  have := k v (nw' ++ nw) h'' tk' (e.trans e') (Fre.append (f'.of_ext e) f) (a'.append (a.ext e')) (by rw [List.append_assoc]; exact hd)
  exact this
theorem ContB.from {s : Shared} {b : Bool} {Q : Bool → Shared → Prop} (k : ContB s b Q) {h' : Heap} {tk : Nat} (e : Ext s.heap h') : ContB { s with heap := h', toks := tk } b Q :=
  fun h'' tk' e' => k h'' tk' (e.trans e')

/-- run a, then b, then a step on both -/
theorem Ev.two {a b : Expr} {da db : D} (ha : Ev c A env σ a da) (hb : Ev c A env σ b db) {s : Shared} {l : Led} (G : c.G s.heap) (H : Has s.heap l) (S : Sig c env s.heap l σ) {E : Value → Shared → Prop} {R : Value → Value → Shared → Prop}
    (h : ∀ va vb nw h' tk, Ext s.heap h' → Fre s.heap nw → Has h' nw → DIn (nw ++ l) va da → DIn (nw ++ l) vb db → R va vb { s with heap := h', toks := tk }) :
    wpAny (model c.prog c.w) A (eval a env) (fun va s₁ => wpAny (model c.prog c.w) A (eval b env) (fun vb s₂ => R va vb s₂) E s₁) E s := by
  refine ha s l G H S _ _ fun va nw h' tk e f n hd => ?_
  refine hb { s with heap := h', toks := tk } (nw ++ l) (G.ext e) (n.append (H.ext e)) (S.ext e sub_app) _ _ fun vb nw' h'' tk' e' f' n' hd' => ?_
  exact h va vb (nw' ++ nw) h'' tk' (e.trans e') (Fre.append (f'.of_ext e) f) (n'.append (n.ext e')) (hd.mono sub_app2) (by rw [List.append_assoc]; exact hd')

theorem Ev.bin {a b : Expr} {op : Operator} {pos : Pos} {da db d : D} (ha : Ev c A env σ a da) (hb : Ev c A env σ b db) (ho : Op2 c A (binaryOp op) da db d) : Ev c A env σ (.BinOp a op b pos) d :=
  fun _ _ G H S _ _ k => wpAny_BinOp (Ev.two ha hb G H S fun va vb _ _ _ e f n d1 d2 => ho _ _ va vb (G.ext e) (n.append (H.ext e)) d1 d2 _ _ (k.from e f n))
theorem Ev.cmp {a b : Expr} {op : CmpOp} {pos : Pos} {da db d : D} (ha : Ev c A env σ a da) (hb : Ev c A env σ b db) (ho : Op2 c A (compareOp op) da db d)
    (hm : behindInMarks op b = false := by with_unfolding_all rfl) : Ev c A env σ (.Compare a [op] [b] pos) d :=
  fun _ _ G H S _ _ k => wpAny_Compare1 (Ev.two ha hb G H S fun va vb _ _ _ e f n d1 d2 => ho _ _ va vb (G.ext e) (n.append (H.ext e)) d1 d2 _ _ (k.from e f n)) hm
theorem Ev.una {a : Expr} {op : UnaryOp} {pos : Pos} {da d : D} (ha : Ev c A env σ a da) (ho : Op1 c A (unaryOp op) da d) : Ev c A env σ (.UnaryOp op a pos) d :=
  fun s l G H S Q E k => UnaryOp_ (ha s l G H S _ _ fun va _ _ _ e f n hd => ho _ _ va (G.ext e) (n.append (H.ext e)) hd _ _ (k.from e f n))
theorem Ev.name {x : Str} {pos : Pos} {d : D} (h : σ.lookup x = some d) (hd : (x == ("__debug__" : Str)) = false := by decide) : Ev c A env σ (.Name x pos) d :=
  fun s l G H S Q E k => let ⟨_, hD, hL, _⟩ := S x d h; wpAny_Name (hL A s Q E .refl (k.plain (tk := s.toks) hD)) hd
theorem Ev.unval {e : Expr} {v : Value} {d : D} (h : Ev c A env σ e (.val v d)) : Ev c A env σ e d := fun s l G H S Q E k => h s l G H S Q E fun v nw h' tk e f n hd => k v nw h' tk e f n hd.unval.2
theorem Ev.int {i : Int} {k : Nat} {pos : Pos} : Ev c A env σ (.Constant (.int i) k pos) (.int i) :=
  fun _ _ _ _ _ _ _ q => wpAny_Constant_int (q.plain (.int _ _))
theorem Ev.cbool {b : Bool} {k : Nat} {pos : Pos} : Ev c A env σ (.Constant (.bool b) k pos) (.bool b) :=
  fun s _ _ _ _ _ _ q => Constant_bool (q.plain (tk := s.toks) (.bool _))
theorem Ev.cnone {k : Nat} {pos : Pos} : Ev c A env σ (.Constant .none k pos) .none :=
  fun s _ _ _ _ _ _ q => Constant_none (q.plain (tk := s.toks) .none)
theorem Ev.ifexp {t a b : Expr} {pos : Pos} {r : Bool} {d : D} (ht : Tr c A env σ t r) (h1 : r = true → Ev c A env σ a d) (h2 : r = false → Ev c A env σ b d) : Ev c A env σ (.IfExp t a b pos) d :=
  fun s l G H S Q E k => IfExp_ (ht s l G H S _ _ fun h' tk e => by
    have k' : Cont { s with heap := h', toks := tk } l d Q := k.from (nw := []) e .nil .nil
    cases r with
    | true => exact h1 rfl _ _ (G.ext e) (H.ext e) (S.ext e fun _ h => h) _ _ k'
    | false => exact h2 rfl _ _ (G.ext e) (H.ext e) (S.ext e fun _ h => h) _ _ k')

theorem Tr.cmp {a b : Expr} {op : CmpOp} {pos : Pos} {da db : D} {r : Bool} (ha : Ev c A env σ a da) (hb : Ev c A env σ b db) (ho : Op2 c A (compareOp op) da db (.bool r))
    (hm : behindInMarks op b = false := by with_unfolding_all rfl) : Tr c A env σ (.Compare a [op] [b] pos) r :=
  fun s _ G H S Q _ k => wpAny_isTrue_Compare1 (Ev.two ha hb G H S fun va vb _ _ _ e f n d1 d2 => ho _ _ va vb (G.ext e) (n.append (H.ext e)) d1 d2 _ _ fun v nw' h'' tk' e' f' n' hd => by
    cases hd
    exact wpAny_truthy_bool (k h'' tk' (e.trans e'))) hm
theorem Tr.plain {e : Expr} {r : Bool} (h : Ev c A env σ e (.bool r)) (he : ∀ whole, isTrue e env whole = (do let v ← whole; standAt e.pos; holding [v] (truthy v)) := by intro _; rfl) : Tr c A env σ e r :=
  fun s l G H S Q E k => isTrue_plain (h s l G H S _ _ fun v nw h' tk e f n hd => by
    cases hd
    exact wpAny_truthy_bool (k h' tk e)) (he _)
theorem Tr.not {e : Expr} {pos : Pos} {r : Bool} (h : Tr c A env σ e r) : Tr c A env σ (.UnaryOp .Not e pos) (!r) :=
  fun s l G H S Q E k => isTrue_not (h s l G H S _ _ fun h' tk e => k h' tk e)
theorem Tr.or_nil {pos : Pos} : Tr c A env σ (.BoolOp .Or [] pos) false := fun s _ _ _ _ _ _ k => isTrue_or_nil (k s.heap s.toks .refl)
theorem Tr.and_nil {pos : Pos} : Tr c A env σ (.BoolOp .And [] pos) true := fun s _ _ _ _ _ _ k => isTrue_and_nil (k s.heap s.toks .refl)
theorem Tr.or_cons {x : Expr} {rest : List Expr} {pos : Pos} {r q : Bool} (h : Tr c A env σ x r) (h' : r = false → Tr c A env σ (.BoolOp .Or rest pos) q) : Tr c A env σ (.BoolOp .Or (x :: rest) pos) (r || q) :=
  fun s l G H S Q E k => isTrue_or (h s l G H S _ _ fun hh tk e => by
    cases r with
    | true => exact k hh tk e
    | false => exact h' rfl { s with heap := hh, toks := tk } l (G.ext e) (H.ext e) (S.ext e fun _ h => h) Q E (ContB.from k e))
theorem Tr.and_cons {x : Expr} {rest : List Expr} {pos : Pos} {r q : Bool} (h : Tr c A env σ x r) (h' : r = true → Tr c A env σ (.BoolOp .And rest pos) q) : Tr c A env σ (.BoolOp .And (x :: rest) pos) (r && q) :=
  fun s l G H S Q E k => isTrue_and (h s l G H S _ _ fun hh tk e => by
    cases r with
    | false => exact k hh tk e
    | true => exact h' rfl { s with heap := hh, toks := tk } l (G.ext e) (H.ext e) (S.ext e fun _ h => h) Q E (ContB.from k e))

/-! ### operations on ints, bools, none -/
theorem op_add {a b : Int} : Op2 c A (binaryOp .Add) (.int a) (.int b) (.int (a + b)) := fun s l va vb _ _ ha hb Q E k => by
  cases ha; cases hb; exact PyProof.Rows.add_int (k.plain (.int _ _))
theorem op_sub {a b : Int} : Op2 c A (binaryOp .Sub) (.int a) (.int b) (.int (a - b)) := fun s l va vb _ _ ha hb Q E k => by
  cases ha; cases hb; exact PyProof.Rows.sub_int (k.plain (.int _ _))
theorem op_mul {a b : Int} (hm : IntMulOk a b) : Op2 c A (binaryOp .Mult) (.int a) (.int b) (.int (a * b)) := fun s l va vb _ _ ha hb Q E k => by
  cases ha; cases hb; exact PyProof.Rows.mul_int (k.plain (.int _ _)) hm
theorem op_mod {a b : Int} (hb : b ≠ 0) : Op2 c A (binaryOp .Mod) (.int a) (.int b) (.int (a.fmod b)) := fun s l va vb _ _ ha hb Q E k => by
  cases ha; cases hb; exact PyProof.Rows.mod_int ‹_› (k.plain (.int _ _))
theorem op_fdiv {a b : Int} (hb : b ≠ 0) (hs : b.natAbs < 1073741824) : Op2 c A (binaryOp .FloorDiv) (.int a) (.int b) (.int (a.fdiv b)) := fun s l va vb _ _ ha hb Q E k => by
  cases ha; cases hb; exact floordiv_int ‹_› (k.plain (.int _ _)) (Or.inl (PyProof.noPylong_small hs))
theorem op_pow {a n : Int} (h0 : 0 ≤ n) (h1 : n ≤ 1000000) (ha : a.natAbs < 2 ^ 64) : Op2 c A (binaryOp .Pow) (.int a) (.int n) (.int (a ^ n.toNat)) := fun s l va vb _ _ hva hvb Q E k => by
  cases hva; cases hvb; exact pow_int_small h0 h1 ha (k.plain (.int _ _))
theorem op_neg {a : Int} : Op1 c A (unaryOp .USub) (.int a) (.int (-a)) := fun s l va _ _ ha Q E k => by
  cases ha; exact PyProof.Rows.neg_int (k.plain (.int _ _))
theorem op_lt {a b : Int} : Op2 c A (compareOp .Lt) (.int a) (.int b) (.bool (decide (a < b))) := fun s l va vb _ _ ha hb Q E k => by
  cases ha; cases hb; exact PyProof.Rows.lt_int (k.plain (tk := s.toks) (.bool _))
theorem op_gt {a b : Int} : Op2 c A (compareOp .Gt) (.int a) (.int b) (.bool (decide (b < a))) := fun s l va vb _ _ ha hb Q E k => by
  cases ha; cases hb; exact PyProof.Rows.gt_int (k.plain (tk := s.toks) (.bool _))
theorem op_le {a b : Int} : Op2 c A (compareOp .LtE) (.int a) (.int b) (.bool (decide (a ≤ b))) := fun s l va vb _ _ ha hb Q E k => by
  cases ha; cases hb; exact PyProof.Rows.le_int (k.plain (tk := s.toks) (.bool _))
theorem op_ge {a b : Int} : Op2 c A (compareOp .GtE) (.int a) (.int b) (.bool (decide (b ≤ a))) := fun s l va vb _ _ ha hb Q E k => by
  cases ha; cases hb; exact PyProof.Rows.ge_int (k.plain (tk := s.toks) (.bool _))
theorem op_eq {a b : Int} : Op2 c A (compareOp .Eq) (.int a) (.int b) (.bool (a == b)) := fun s l va vb _ _ ha hb Q E k => by
  cases ha; cases hb; exact PyProof.Rows.eq_int (k.plain (tk := s.toks) (.bool _))
theorem op_ne {a b : Int} : Op2 c A (compareOp .NotEq) (.int a) (.int b) (.bool (a != b)) := fun s l va vb _ _ ha hb Q E k => by
  cases ha; cases hb; exact PyProof.Rows.ne_int (k.plain (tk := s.toks) (.bool _))
theorem op_neb {a b : Bool} : Op2 c A (compareOp .NotEq) (.bool a) (.bool b) (.bool (a != b)) := fun s l va vb _ _ ha hb Q E k => by
  cases ha; cases hb; exact ne_bool (k.plain (tk := s.toks) (.bool _))
theorem op_is_none {d : D} (hd : d.isSome = true) : Op2 c A (compareOp .Is) d .none (.bool false) := fun s l va vb _ _ ha hb Q E k => by
  cases hb; exact is_none_ne (ha.not_none hd) (k.plain (tk := s.toks) (.bool _))
theorem op_is_none' : Op2 c A (compareOp .Is) .none .none (.bool true) := fun s l va vb _ _ ha hb Q E k => by
  cases ha; cases hb; exact is_none_none (k.plain (tk := s.toks) (.bool _))
theorem op_isnot_none {d : D} (hd : d.isSome = true) : Op2 c A (compareOp .IsNot) d .none (.bool true) := fun s l va vb _ _ ha hb Q E k => by
  cases hb; exact isnot_none_ne (ha.not_none hd) (k.plain (tk := s.toks) (.bool _))
theorem op_isnot_none' : Op2 c A (compareOp .IsNot) .none .none (.bool false) := fun s l va vb _ _ ha hb Q E k => by
  cases ha; cases hb; exact isnot_none_none (k.plain (tk := s.toks) (.bool _))
end

/-! ### L4 -/
section
variable {c : Cfg} {A : Around} {env : Env} {σ : Sg}

/-! ### several expressions; displays -/
theorem Evs.nil : Evs c A env σ [] [] := fun s l _ _ _ pos Q E k => spliced_nil (k [] [] s.heap s.toks .refl .nil .nil .nil)
theorem Evs.cons {e : Expr} {rest : List Expr} {d : D} {ds : List D} (h : Ev c A env σ e d) (hr : Evs c A env σ rest ds)
    (he : starEach (e :: rest) env = (false, eval e env) :: starEach rest env := by rfl) : Evs c A env σ (e :: rest) (d :: ds) := fun s l G H S pos Q E k => by
  rw [he]
  show wpAny _ A (spliced ((false, eval e env) :: backTo pos (starEach rest env))) Q E s
  refine spliced_cons (h s l G H S _ _ fun v nw h' tk e f n hd => ?_)
  refine hr { s with heap := h', toks := tk } (nw ++ l) (G.ext e) (n.append (H.ext e)) (S.ext e sub_app) pos _ _ fun vs nw' h'' tk' e' f' n' hd' => ?_
  exact k (v :: vs) (nw' ++ nw) h'' tk' (e.trans e') (Fre.append (f'.of_ext e) f) (n'.append (n.ext e')) (.cons (hd.mono sub_app2) (by rw [List.append_assoc]; exact hd'))

theorem vp_seq {s : Shared} {l : Led} {d : D} {o : Obj} {Q : Value → Shared → Prop} (k : Cont s l d Q) (hf : o.isFreed = false) (hd : DIn ([(s.heap.objs.size, o)] ++ l) (.ref s.heap.objs.size) d) {tk : Nat} :
    Q (.ref s.heap.objs.size) { s with heap := s.heap.push o, toks := tk } :=
  k _ [(s.heap.objs.size, o)] _ _ (Ext.push _ _) (Fre.one (fresh_size _)) (Has.one (Heap.get?_push_size _ hf)) hd
theorem vp_tuple {s : Shared} {l : Led} {vs : List Value} {ds : List D} (h : DAll l vs ds) (hz : ds.length ≤ sizeLine) : Vp c A (newTuple vs) s l (.tup ds) := fun Q E k =>
  wpAny_newObj_type (vp_seq k rfl (.tup (List.mem_append_left _ (.head _)) rfl rfl (h.mono sub_app))) (by show vs.toArray.size ≤ sizeLine; rw [List.size_toArray, h.length]; exact hz)
theorem vp_list {s : Shared} {l : Led} {vs : List Value} {ds : List D} (h : DAll l vs ds) (hz : ds.length ≤ sizeLine) : Vp c A (newList vs) s l (.lst ds) := fun Q E k =>
  wpAny_newObj_type (vp_seq k rfl (.lst (List.mem_append_left _ (.head _)) rfl rfl (h.mono sub_app))) (by show vs.toArray.size ≤ sizeLine; rw [List.size_toArray, h.length]; exact hz)

theorem Ev.tuple {es : List Expr} {n : Nat} {pos : Pos} {ds : List D} (h : Evs c A env σ es ds) (hz : ds.length ≤ sizeLine := by decide) : Ev c A env σ (.Tuple es n pos) (.tup ds) := fun s l G H S Q E k =>
  Tuple_ (h s l G H S pos _ _ fun vs nw h' tk e f n hd => vp_tuple hd hz _ _ (k.from e f n))
theorem Ev.list {es : List Expr} {pos : Pos} {ds : List D} (h : Evs c A env σ es ds) (hz : ds.length ≤ sizeLine := by decide) : Ev c A env σ (.List es pos) (.lst ds) := fun s l G H S Q E k =>
  List_ (h s l G H S pos _ _ fun vs nw h' tk e f n hd => vp_list hd hz _ _ (k.from e f n))

/-! ### an item -/
theorem tailM {prog : Program} {w : World} {E : Value → Shared → Prop} {s : Shared} {value slice : Expr} {o i : Value} {T id : String} {ops : List Value} {Q : Value → Shared → Prop} (hT : s.TypeIs o T)
    (hl : typeLookup (.type T) "__getitem__" = pure (some (.builtin id))) (h : wpAny (model prog w) A (getItem o i) Q E s)
    (hs : subscripted slice false o i = operate ops (getItem o i)) : wpAny (model prog w) A (subscriptTail value slice o i) Q E s := by
  unfold subscriptTail
  refine wpAny_bind ?_
  rw [getitemInPython_of_ne hT.not_modules]
  refine wpAny_bind (wpAny_specialOf hT hl ?_)
  have fin : wpAny (model prog w) A (subscripted slice false o i) (fun r s₃ => wpAny (model prog w) A (letTemporaryGo value o r >>= fun _ => pure r) Q E s₃) E s := by
    rw [hs]
    exact wpAny_operating (wpAny_mono h (fun r s₃ h₃ => wpAny_bind (wpAny_letTemporaryGo (wpAny_pure h₃))) fun _ _ x => x)
  first
    | exact wpAny_pure (wpAny_bind fin)
    | exact wpAny_bind (wpAny_pure (wpAny_bind fin))
    | exact wpAny_bind fin

theorem Ev.sub {v i : Expr} {pos : Pos} {dv di d : D} (hv : Ev c A env σ v dv) (hi : Ev c A env σ i di) (ho : Op2 c A (subscriptTail v i) dv di d) : Ev c A env σ (.Subscript v i pos) d :=
  fun _ _ G H S _ _ k => Subscript_ (Ev.two hv hi G H S fun va vb _ _ _ e f n d1 d2 => ho _ _ va vb (G.ext e) (n.append (H.ext e)) d1 d2 _ _ (k.from e f n))

theorem op_item {v i : Expr} {ds : List D} {k : Int} {d : D} (h0 : 0 ≤ k) (hd : ds[k.toNat]? = some d) (hf : k < 2 ^ 63 := by omega)
    (hs : ∀ o x, subscripted i false o x = operate [o, x] (getItem o x) := by intro _ _; rfl) : Op2 c A (subscriptTail v i) (.lst ds) (.int k) d := fun s l va vb _ H ha hb Q E q => by
  cases ha with
  | lst hm hc hdd hv =>
    cases hb
    obtain ⟨x, hx, hD⟩ := hv.at hd
    have hL : s.heap.IsList _ _ := ⟨_, H _ hm, hc, _, hdd⟩
    exact tailM hL.typeIs slot_list_getitem.lookup (wpAny_getItem_list hL h0 hf (by simpa using hx) (q.plain (tk := s.toks) hD)) (hs _ _)
theorem op_item_neg {v i : Expr} {ds : List D} {k : Int} {d : D} (h0 : k < 0) (h1 : -(ds.length : Int) ≤ k) (hd : ds[(k + ds.length).toNat]? = some d) (hf : -(2 ^ 63) ≤ k := by omega)
    (hs : ∀ o x, subscripted i false o x = operate [o, x] (getItem o x) := by intro _ _; rfl) : Op2 c A (subscriptTail v i) (.lst ds) (.int k) d := fun s l va vb _ H ha hb Q E q => by
  cases ha with
  | lst hm hc hdd hv =>
    cases hb
    obtain ⟨x, hx, hD⟩ := hv.at hd
    have hL : s.heap.IsList _ _ := ⟨_, H _ hm, hc, _, hdd⟩
    have hz := hv.length
    exact tailM hL.typeIs slot_list_getitem.lookup (wpAny_getItem_list_neg hL h0 (by simpa [hz] using h1) hf (by simpa [hz] using hx) (q.plain (tk := s.toks) hD)) (hs _ _)
theorem op_item_tup {v i : Expr} {ds : List D} {k : Int} {d : D} (h0 : 0 ≤ k) (hd : ds[k.toNat]? = some d) (hf : k < 2 ^ 63 := by omega)
    (hs : ∀ o x, subscripted i false o x = operate [o, x] (getItem o x) := by intro _ _; rfl) : Op2 c A (subscriptTail v i) (.tup ds) (.int k) d := fun s l va vb _ H ha hb Q E q => by
  cases ha with
  | tup hm hc hdd hv =>
    rename_i _ _ vs _
    cases hb
    obtain ⟨x, hx, hD⟩ := hv.at hd
    have hT : IsTup s.heap _ _ := ⟨_, H _ hm, hc, _, hdd⟩
    have hlt : k.toNat < ds.length := (List.getElem?_eq_some_iff.mp hd).1
    have hz := hv.length
    refine tailM hT.typeIs slot_tuple_getitem.lookup (getItem_tuple (j := k.toNat) hT (by omega) hf ?_ (by simpa using hx) (q.plain (tk := s.toks) hD)) (hs _ _)
    have hk : ¬ k < 0 := by omega
    have hb : (decide (0 ≤ k) && decide (k < ((vs.toArray.size : Nat) : Int))) = true := by
      simp only [List.size_toArray, hz, Bool.and_eq_true, decide_eq_true_eq]; omega
    show (if (decide (0 ≤ (if k < 0 then k + (vs.toArray.size : Int) else k)) && decide ((if k < 0 then k + (vs.toArray.size : Int) else k) < (vs.toArray.size : Int))) = true then some (if k < 0 then k + (vs.toArray.size : Int) else k).toNat else none) = some k.toNat
    rw [if_neg hk, if_pos hb]

/-! ### slices -/
theorem slicePick_to (items : Array Value) (k : Nat) : slicePick items none (some (k : Int)) none = (items.toList.take k).toArray := by
  by_cases h : k ≤ items.size
  · exact slicePick_upto items k h
  · have e : sliceBounds none (some (k : Int)) none items.size = sliceBounds none (some (items.size : Int)) none items.size := by
      simp only [sliceBounds, Option.getD_none]
      have h1 : ¬ ((k : Int) < 0) := by omega
      have h2 : ¬ ((items.size : Int) < 0) := by omega
      simp only [h1, h2, if_false, show (1 : Int) > 0 by decide, if_true]
      congr 1; congr 1; omega
    have e2 : slicePick items none (some (k : Int)) none = slicePick items none (some (items.size : Int)) none := by unfold slicePick; rw [e]
    rw [e2, slicePick_upto items items.size (Nat.le_refl _), List.take_of_length_le (by simp), List.take_of_length_le (by simp; omega)]
theorem slicePick_last (items : Array Value) (k : Nat) (h0 : 0 < k) (h : k ≤ items.size) : slicePick items (some (-(k : Int))) none none = (items.toList.drop (items.size - k)).toArray := by
  have e : sliceBounds (some (-(k : Int))) none none items.size = sliceBounds (some ((items.size - k : Nat) : Int)) none none items.size := by
    simp only [sliceBounds, Option.getD_none]
    have h1 : (-(k : Int) < 0) := by omega
    have h2 : ¬ (((items.size - k : Nat) : Int) < 0) := by omega
    simp only [h1, h2, if_false, show (1 : Int) > 0 by decide, if_true]
    congr 1; omega
  have e2 : slicePick items (some (-(k : Int))) none none = slicePick items (some ((items.size - k : Nat) : Int)) none none := by unfold slicePick; rw [e]
  rw [e2, slicePick_from items _ (by omega)]
theorem sliceRange_rev (n : Nat) : sliceRange ((n : Int) - 1) (-1) (-1) = (List.range n).map fun k => n - 1 - k := by
  unfold sliceRange
  have hc : (if (-1 : Int) > 0 then (if (n : Int) - 1 < -1 then (-1 - ((n : Int) - 1) + -1 - 1) / -1 else 0) else (if (n : Int) - 1 > -1 then ((n : Int) - 1 - -1 - -1 - 1) / (-(-1)) else 0)).toNat = n := by
    rw [if_neg (by decide)]
    split
    · simp only [Int.neg_neg, Int.ediv_one]; omega
    · omega
  dsimp only
  rw [hc]
  apply List.map_congr_left
  intro k _
  omega
theorem pick_rev {α : Type} (xs : List α) : ((List.range xs.length).map fun k => xs.length - 1 - k).filterMap (xs[·]?) = xs.reverse := by
  rw [List.filterMap_map]
  apply List.ext_getElem?
  intro j
  have key : ∀ (m : Nat), m ≤ xs.length → (List.range m).filterMap ((xs[·]?) ∘ fun k => xs.length - 1 - k) = xs.reverse.take m := by
    intro m
    induction m with
    | zero => intro _; simp
    | succ m ih =>
      intro hm
      rw [List.range_succ, List.filterMap_append, ih (by omega), List.take_succ, List.getElem?_reverse (by omega)]
      simp only [List.filterMap_cons, List.filterMap_nil, Function.comp]
      rw [List.getElem?_eq_getElem (by omega)]
      rfl
  rw [key _ (Nat.le_refl _), List.take_of_length_le (by simp)]
theorem slicePick_rev (items : Array Value) : slicePick items none none (some (-1)) = items.toList.reverse.toArray := by
  unfold slicePick
  congr 1
  have e : sliceBounds none none (some (-1)) items.size = ((items.size : Int) - 1, -1, -1) := by simp [sliceBounds]
  rw [e]
  dsimp only
  rw [sliceRange_rev]
  have := pick_rev items.toList
  simpa using this

/-- the parts of a slice -/
def Part (c : Cfg) (A : Around) (env : Env) (σ : Sg) : Option Expr → Option Int → Prop
  | none, none => True
  | some e, some i => Ev c A env σ e (.int i)
  | _, _ => False
theorem Part.run {oe : Option Expr} {oi : Option Int} (h : Part c A env σ oe oi) {s : Shared} {l : Led} (G : c.G s.heap) (H : Has s.heap l) (S : Sig c env s.heap l σ) {E : Value → Shared → Prop} {R : Value → Shared → Prop}
    (k : ∀ v h' tk, IsPart v oi → Ext s.heap h' → R v { s with heap := h', toks := tk }) : wpAny (model c.prog c.w) A (evalPart oe env) R E s := by
  cases oe with
  | none =>
    cases oi with
    | none => exact wpAny_pure (k .none s.heap s.toks .none .refl)
    | some i => exact h.elim
  | some e =>
    cases oi with
    | none => exact h.elim
    | some i =>
      refine h s l G H S _ _ fun v nw h' tk e f n hd => ?_
      cases hd
      exact k _ _ _ (.int _ _) e
theorem Ev.slice {v : Expr} {lo hi st : Option Expr} {ol oh os : Option Int} {p pos : Pos} {ds es : List D} (hv : Ev c A env σ v (.lst ds)) (h1 : Part c A env σ lo ol) (h2 : Part c A env σ hi oh) (h3 : Part c A env σ st os)
    (h0 : os ≠ some 0) (hpick : ∀ (l : Led) (vs : List Value), DAll l vs ds → DAll l (slicePick vs.toArray ol oh os).toList es) (hz : ds.length ≤ sizeLine)
    (hs : ∀ o x, ∃ ops, subscripted (.Slice lo hi st p) false o x = operate ops (getItem o x)) : Ev c A env σ (.Subscript v (.Slice lo hi st p) pos) (.lst es) := fun s l G H S Q E k => by
  refine Subscript_ (hv s l G H S _ _ fun va nw h' tk e f n hd => ?_)
  refine wpAny_Slice ?_
  have G1 := G.ext e
  have H1 : Has h' (nw ++ l) := n.append (H.ext e)
  have S1 : Sig c env h' (nw ++ l) σ := S.ext e sub_app
  refine h1.run (s := { s with heap := h', toks := tk }) (l := nw ++ l) G1 H1 S1 fun vl hl tl pl el => ?_
  refine h2.run (s := { s with heap := hl, toks := tl }) (l := nw ++ l) (G1.ext el) (H1.ext el) (S1.ext el fun _ h => h) fun vu hu tu pu eu => ?_
  refine h3.run (s := { s with heap := hu, toks := tu }) (l := nw ++ l) ((G1.ext el).ext eu) ((H1.ext el).ext eu) ((S1.ext el fun _ h => h).ext eu fun _ h => h) fun vk hk tk' pk ek => ?_
  have eall : Ext h' hk := (Ext.trans el eu).trans ek
  have H2 : Has hk (nw ++ l) := H1.ext eall
  cases hd with
  | lst hm hc hdd hvv =>
    rename_i a o vs m
    have hL : Heap.IsList (hk.push { cls := .type "slice", data := .fields #[vl, vu, vk] }) a vs.toArray := ⟨o, Heap.get?_push_of_some _ (H2 _ hm), hc, m, hdd⟩
    obtain ⟨ops, hops⟩ := hs (.ref a) (.ref hk.objs.size)
    refine tailM (Heap.IsList.typeIs (s := { s with heap := hk.push { cls := .type "slice", data := .fields #[vl, vu, vk] }, toks := tk' }) hL) slot_list_getitem.lookup (wpAny_getItem_list_slice hL (Heap.IsSliceOf.new ..) pl pu pk h0 ?_ (by rw [List.size_toArray, hvv.length]; exact hz)) hops
    have k2 : Cont { s with heap := hk, toks := tk' } (nw ++ l) (.lst es) Q := k.from (e.trans eall) f (n.ext eall)
    have k3 : Cont { s with heap := hk.push { cls := .type "slice", data := .fields #[vl, vu, vk] }, toks := tk' } (nw ++ l) (.lst es) Q := by
      have := k2.from (nw := []) (h' := hk.push { cls := .type "slice", data := .fields #[vl, vu, vk] }) (tk := tk') (Ext.push _ _) .nil .nil
      exact this
    refine vp_seq k3 rfl (.lst (n := 0) (vs := (slicePick vs.toArray ol oh os).toList) (List.mem_append_left _ (.head _)) rfl (by simp) ((hpick _ _ hvv).mono sub_app))

theorem Ev.slice_to {v e : Expr} {p pos : Pos} {ds : List D} {k : Int} (hv : Ev c A env σ v (.lst ds)) (he : Ev c A env σ e (.int k)) (h0 : 0 ≤ k) (hz : ds.length ≤ sizeLine) :
    Ev c A env σ (.Subscript v (.Slice none (some e) none p) pos) (.lst (ds.take k.toNat)) :=
  Ev.slice (ol := none) (oh := some k) (os := none) hv trivial he trivial (by simp) (fun l vs h => by
    obtain ⟨n, rfl⟩ : ∃ n : Nat, k = n := ⟨k.toNat, by omega⟩
    rw [slicePick_to]
    simpa using h.take n) hz fun o x => ⟨_, rfl⟩
theorem Ev.slice_from {v e : Expr} {p pos : Pos} {ds : List D} {k : Int} (hv : Ev c A env σ v (.lst ds)) (he : Ev c A env σ e (.int k)) (h0 : 0 ≤ k) (h1 : k ≤ ds.length) (hz : ds.length ≤ sizeLine) :
    Ev c A env σ (.Subscript v (.Slice (some e) none none p) pos) (.lst (ds.drop k.toNat)) :=
  Ev.slice (ol := some k) (oh := none) (os := none) hv he trivial trivial (by simp) (fun l vs h => by
    obtain ⟨n, rfl⟩ : ∃ n : Nat, k = n := ⟨k.toNat, by omega⟩
    have hl := h.length
    rw [slicePick_from _ _ (by simp; omega)]
    simpa using h.drop n) hz fun o x => ⟨_, rfl⟩
theorem Ev.slice_last {v e : Expr} {p pos : Pos} {ds : List D} {k : Int} (hv : Ev c A env σ v (.lst ds)) (he : Ev c A env σ e (.int (-k))) (h0 : 0 < k) (h1 : k ≤ ds.length) (hz : ds.length ≤ sizeLine) :
    Ev c A env σ (.Subscript v (.Slice (some e) none none p) pos) (.lst (ds.drop (ds.length - k.toNat))) :=
  Ev.slice (ol := some (-k)) (oh := none) (os := none) hv he trivial trivial (by simp) (fun l vs h => by
    obtain ⟨n, rfl⟩ : ∃ n : Nat, k = n := ⟨k.toNat, by omega⟩
    have hl := h.length
    rw [slicePick_last _ _ (by omega) (by simp; omega)]
    simpa [hl] using h.drop (ds.length - n)) hz fun o x => ⟨_, rfl⟩
theorem Ev.slice_rev {v e : Expr} {p pos : Pos} {ds : List D} (hv : Ev c A env σ v (.lst ds)) (he : Ev c A env σ e (.int (-1))) (hz : ds.length ≤ sizeLine) :
    Ev c A env σ (.Subscript v (.Slice none none (some e) p) pos) (.lst ds.reverse) :=
  Ev.slice (ol := none) (oh := none) (os := some (-1)) hv trivial trivial he (by simp) (fun l vs h => by
    rw [slicePick_rev]
    simpa using h.reverse) hz fun o x => ⟨_, rfl⟩
end

/-! ### L5 -/
section
variable {c : Cfg} {A : Around} {env : Env} {σ : Sg}

/-! ### names of the top and of the builtins -/
def GName (c : Cfg) (env : Env) (x : Str) (f : Value) : Prop :=
  ∀ (A : Around) (s : Shared) (Q E : Value → Shared → Prop) (pos : Pos), c.G s.heap → Q f s → wpAny (model c.prog c.w) A (eval (.Name x pos) env) Q E s
theorem GName.K {x : Str} {v : Value} (e : nsIn c.K mainGlobals x = some (some v)) (hg : env.globals = mainGlobals) (hk : env.scope.kind = .function) (hx : env.kindOf x = some .globalImplicit) (hd : (x == ("__debug__" : Str)) = false := by decide) : GName c env x v :=
  fun A s Q E pos G q => Name_function_global hk hx (loadGlobal_global (env := env) (by rw [hg]; exact G.top.g) (mg_of G.kin G.top.g e) q) hd
theorem GName.B {x : Str} {v : Value} (e : nsIn c.K mainGlobals x = some none) (hb : bootBuiltins x = some v) (hg : env.globals = mainGlobals) (hbn : env.builtins = builtinsNs) (hk : env.scope.kind = .function) (hx : env.kindOf x = some .globalImplicit)
    (hn : x ≠ "__name__" := by decide) (hd : (x == ("__debug__" : Str)) = false := by decide) : GName c env x v :=
  fun A s Q E pos G q => Name_function_global hk hx (loadGlobal_builtin (env := env) (by rw [hg]; exact G.top.g) (mg_none_of G.kin G.top.g e) (by rw [hbn]; exact G.top.b) ((G.top.builtins x hn).trans hb) q) hd

/-! ### calls by a name -/
theorem star_any {pos : Pos} : ∀ {es : List Expr} {ds : List D}, Evs c A env σ es ds → True := fun _ => trivial
def Plain (env : Env) (es : List Expr) : Prop := ∀ pos, (backTo pos (starEach es env)).any (·.1) = false

theorem Ev.callB {x : Str} {p pos : Pos} {id : String} {e : Expr} {rest : List Expr} {ds : List D} {d : D} (hn : GName c env x (.builtin id)) (ha : Evs c A env σ (e :: rest) ds) (ho : OpL c A (fun vs => call (.builtin id) vs) ds d)
    (he : starEach (e :: rest) env = (false, eval e env) :: starEach rest env := by rfl) (hp : (backTo pos (starEach rest env)).any (·.1) = false := by rfl) : Ev c A env σ (.Call (.Name x p) (e :: rest) [] pos) d := fun s l G H S Q E k => by
  refine wpAny_Call_Name_kw (hn A s _ E p G ?_)
  show wpAny _ A (callWith pos (.builtin id) [] (backTo pos (starEach (e :: rest) env)) []) Q E s
  have ha' := ha s l G H S pos
  rw [he] at ha' ⊢
  refine callWith_builtin (by show (false || (backTo pos (starEach rest env)).any (·.1)) = false; rw [hp]; rfl) ?_
  refine evalArgs_plain (ha' _ _ fun vs nw h' tk e f n hd => ?_)
  exact ho _ _ vs (G.ext e) (n.append (H.ext e)) hd _ _ (k.from e f n)
theorem Ev.callT {x : Str} {p pos : Pos} {T : String} {e : Expr} {rest : List Expr} {ds : List D} {d : D} (hn : GName c env x (.type T)) (ha : Evs c A env σ (e :: rest) ds) (ho : OpL c A (fun vs => call (.type T) vs) ds d)
    (he : starEach (e :: rest) env = (false, eval e env) :: starEach rest env := by rfl) (hp : (backTo pos (starEach rest env)).any (·.1) = false := by rfl) : Ev c A env σ (.Call (.Name x p) (e :: rest) [] pos) d := fun s l G H S Q E k => by
  refine wpAny_Call_Name_kw (hn A s _ E p G ?_)
  show wpAny _ A (callWith pos (.type T) [] (backTo pos (starEach (e :: rest) env)) []) Q E s
  have ha' := ha s l G H S pos
  rw [he] at ha' ⊢
  refine PySem.callWith_type (by show (false || (backTo pos (starEach rest env)).any (·.1)) = false; rw [hp]; rfl) ?_
  refine evalArgs_plain (ha' _ _ fun vs nw h' tk e f n hd => ?_)
  exact ho _ _ vs (G.ext e) (n.append (H.ext e)) hd _ _ (k.from e f n)
theorem Ev.callF {x : Str} {p pos : Pos} {a : Addr} {o : Obj} {fd : FuncData} {e : Expr} {rest : List Expr} {ds : List D} {d : D} (hn : GName c env x (.ref a)) (hK : c.K.lookup a = some o) (hfd : o.data = .func fd) (ha : Evs c A env σ (e :: rest) ds) (ho : OpL c A (fun vs => call (.ref a) vs) ds d)
    (he : starEach (e :: rest) env = (false, eval e env) :: starEach rest env := by rfl) : Ev c A env σ (.Call (.Name x p) (e :: rest) [] pos) d := fun s l G H S Q E k => by
  refine wpAny_Call_Name_kw (hn A s _ E p G ?_)
  show wpAny _ A (callWith pos (.ref a) [] (backTo pos (starEach (e :: rest) env)) []) Q E s
  have ha' := ha s l G H S pos
  rw [he] at ha' ⊢
  refine callWith_function (o := o) (fd := fd) ?_
  refine evalArgs_plain (ha' _ _ fun vs nw h' tk e f n hd => ?_)
  exact ⟨⟨(G.ext e).kin _ _ hK, hfd⟩, ho _ _ vs (G.ext e) (n.append (H.ext e)) hd _ _ (k.from e f n)⟩

/-! ### built-in functions -/
theorem call_len {ds : List D} {n : Int} (hn : n = ds.length) (hz : (ds.length : Int) < 2 ^ 63) : OpL c A (fun vs => call (.builtin "len") vs) [.lst ds] (.int n) := fun s l vs G H h Q E k => by
  subst hn
  cases h with
  | cons h r =>
    cases r
    cases h with
    | lst hm hc hdd hv =>
      have hL : s.heap.IsList _ _ := ⟨_, H _ hm, hc, _, hdd⟩
      have e := hv.length
      refine call_len_list hL (by simpa [e] using hz) ?_
      have : (([] : Led) ++ l) = l := rfl
      exact k.plain (by simpa [e] using DIn.int _ _)
theorem call_max2 (hh : A.handled = none) {a b : Int} : OpL c A (fun vs => call (.builtin "max") vs) [.int a, .int b] (.int (max a b)) := fun s l vs G H h Q E k => by
  cases h with
  | cons h r =>
    cases r with
    | cons h' r =>
      cases r; cases h; cases h'
      refine max_two_ints hh fun h' tk e => k _ [] h' tk e .nil .nil ?_
      by_cases q : b > a
      · rw [if_pos q, Int.max_eq_right (by omega)]; exact .int _ _
      · rw [if_neg q, Int.max_eq_left (by omega)]; exact .int _ _
theorem call_min2 (hh : A.handled = none) {a b : Int} : OpL c A (fun vs => call (.builtin "min") vs) [.int a, .int b] (.int (min a b)) := fun s l vs G H h Q E k => by
  cases h with
  | cons h r =>
    cases r with
    | cons h' r =>
      cases r; cases h; cases h'
      refine min_two_ints hh fun h' tk e => k _ [] h' tk e .nil .nil ?_
      by_cases q : b < a
      · rw [if_pos q, Int.min_eq_right (by omega)]; exact .int _ _
      · rw [if_neg q, Int.min_eq_left (by omega)]; exact .int _ _
theorem call_sum (hh : A.handled = none) {ns : List Int} : OpL c A (fun vs => call (.builtin "sum") vs) [.lst (ns.map .int)] (.int ns.sum) := fun s l vs G H h Q E k => by
  cases h with
  | cons h r =>
    cases r
    cases h with
    | lst hm hc hdd hv =>
      have hI := hv.ints
      obtain ⟨xs, hxs⟩ := hI.allInts.items
      have hL : s.heap.IsList _ (intItems xs) := ⟨_, H _ hm, hc, _, by rw [hdd, hxs]⟩
      have hns : xs.toList.map (·.1) = ns := by
        rw [← nums_intItems, ← hxs]
        exact hI.numsOf
      refine sum_intListG hh hL fun h' tk t' e => k _ [] h' tk e .nil .nil ?_
      rw [preSum_eq, hns, List.take_of_length_le (by rw [← hns]; simp)]
      exact .int _ _
theorem call_maxL (hh : A.handled = none) {ns : List Int} {M : Int} (h1 : M ∈ ns) (h2 : ∀ a ∈ ns, a ≤ M) : OpL c A (fun vs => call (.builtin "max") vs) [.lst (ns.map .int)] (.int M) := fun s l vs G H h Q E k => by
  cases h with
  | cons h r =>
    cases r
    cases h with
    | lst hm hc hdd hv =>
      have hI := hv.ints
      obtain ⟨xs, hxs⟩ := hI.allInts.items
      have hL : s.heap.IsList _ (intItems xs) := ⟨_, H _ hm, hc, _, by rw [hdd, hxs]⟩
      have hns : xs.toList.map (·.1) = ns := by
        rw [← nums_intItems, ← hxs]
        exact hI.numsOf
      have hlen : xs.size = ns.length := by rw [← hns]; simp
      have hpos : 0 < xs.size := by rw [hlen]; exact List.length_pos_of_mem h1
      refine max_intList hh hL hpos fun v h' tk hvv e => k v [] h' tk e .nil .nil ?_
      obtain ⟨t, rfl⟩ := intItems_at hvv
      have hb := argBest_gt (numAt xs) (xs.size - 1)
      have hat : ∀ j, numAt xs j = (ns[j]?).getD 0 := fun j => by
        unfold numAt
        rw [← hns, List.getElem?_map, Array.getElem?_toList]
      have hM : numAt xs (argBest (fun i j => decide (numAt xs i > numAt xs j)) (xs.size - 1)) = M := by
        apply Int.le_antisymm
        · rw [hat]
          have hlt : argBest (fun i j => decide (numAt xs i > numAt xs j)) (xs.size - 1) < ns.length := by have := hb.1; omega
          rw [List.getElem?_eq_getElem hlt]
          exact h2 _ (List.getElem_mem hlt)
        · obtain ⟨j, hj, rfl⟩ := List.getElem_of_mem h1
          have := hb.2 j (by omega)
          rw [hat j, List.getElem?_eq_getElem hj] at this
          exact this
      rw [hM]
      exact .int _ _
theorem call_sorted {ns : List Int} {ms : List Int} (hp : ms.Perm ns) (hs : ms.Pairwise (· ≤ ·)) (hz : ns.length < 64) (huniq : ∀ a b : List Int, a.Perm b → a.Pairwise (· ≤ ·) → b.Pairwise (· ≤ ·) → a = b) :
    OpL c A (fun vs => call (.builtin "sorted") vs) [.lst (ns.map .int)] (.lst (ms.map .int)) := fun s l vs G H h Q E k => by
  cases h with
  | cons h r =>
    cases r
    cases h with
    | lst hm hc hdd hv =>
      rename_i a o vs n
      have hI := hv.ints
      have hL : s.heap.IsList a vs.toArray := ⟨_, H _ hm, hc, _, hdd⟩
      have e := hI.length
      refine sorted_ints hL hI (by omega) fun out ns' a1 a2 a3 => ?_
      obtain ⟨n, hn⟩ := sortedAll_at s.heap vs out
      have : ns' = ms := huniq _ _ (a2.trans hp.symm) a3 hs
      subst this
      refine k _ [(s.heap.objs.size + 1, seqObj "list" out n)] _ s.toks (fun _ _ => sortedAll_old) (Fre.one (fresh_ge (Nat.le_succ _))) (Has.one hn) ?_
      exact .lst (vs := out.toList) (n := n) (List.mem_append_left _ (.head _)) rfl (by simp [seqObj]) (DAll.of_ints a1)
theorem call_range1 {n : Int} : OpL c A (fun vs => call (.type "range") vs) [.int n] (.rng 0 n) := fun s l vs G H h Q E k => by
  cases h with
  | cons h r =>
    cases r; cases h
    refine call_range_1 ?_
    exact vp_seq k rfl (.rng (List.mem_append_left _ (.head _)))
theorem call_range2 {m n : Int} : OpL c A (fun vs => call (.type "range") vs) [.int m, .int n] (.rng m n) := fun s l vs G H h Q E k => by
  cases h with
  | cons h r =>
    cases r with
    | cons h' r =>
      cases r; cases h; cases h'
      refine call_range_2 ?_
      exact vp_seq k rfl (.rng (List.mem_append_left _ (.head _)))

/-! ### lists as operands -/
theorem op_cat {ds es : List D} (hz : ds.length + es.length ≤ sizeLine) : Op2 c A (binaryOp .Add) (.lst ds) (.lst es) (.lst (ds ++ es)) := fun s l va vb _ H ha hb Q E k => by
  cases ha with
  | lst hm hc hdd hv =>
    cases hb with
    | lst hm' hc' hdd' hv' =>
      rename_i a o vs n b o' us n'
      obtain ⟨cls, dd, data, sl⟩ := o
      obtain ⟨cls', dd', data', sl'⟩ := o'
      dsimp only at hc hdd hc' hdd'
      subst hc hdd hc' hdd'
      refine concat_meets ⟨_, H _ hm, rfl⟩ ⟨_, H _ hm', rfl⟩ noFill_list_add seq_list_add PySem.F.slot_list_add PySem.F.entry_list_add (PySem.F.args_list_add_2 _ _)
        (list_addW a b vs.toArray us.toArray n n' dd dd' sl sl' (by simpa [hv.length, hv'.length] using hz)) ⟨H _ hm, H _ hm', ?_⟩
      refine vp_seq k rfl (.lst (vs := vs ++ us) (n := 0) (List.mem_append_left _ (.head _)) rfl (by simp) ((hv.append hv').mono sub_app))
theorem op_neL (hu : A.units + 64 < cLine) {ns ms : List Int} : Op2 c A (compareOp .NotEq) (.lst (ns.map .int)) (.lst (ms.map .int)) (.bool (!decide (ns = ms))) := fun s l va vb _ H ha hb Q E k => by
  cases ha with
  | lst hm hc hdd hv =>
    cases hb with
    | lst hm' hc' hdd' hv' =>
      exact ne_intsK ⟨_, H _ hm, hc, _, hdd⟩ hv.ints ⟨_, H _ hm', hc', _, hdd'⟩ hv'.ints hu (k.plain (tk := s.toks) (.bool _))
theorem op_eqL (hu : A.units + 64 < cLine) {ns ms : List Int} : Op2 c A (compareOp .Eq) (.lst (ns.map .int)) (.lst (ms.map .int)) (.bool (decide (ns = ms))) := fun s l va vb _ H ha hb Q E k => by
  cases ha with
  | lst hm hc hdd hv =>
    cases hb with
    | lst hm' hc' hdd' hv' =>
      exact eq_intsK ⟨_, H _ hm, hc, _, hdd⟩ hv.ints ⟨_, H _ hm', hc', _, hdd'⟩ hv'.ints hu (k.plain (tk := s.toks) (.bool _))
end

/-! ### L6 -/
abbrev Rho := Str → Option Value
def upd (ρ : Rho) (x : Str) (v : Value) : Rho := fun y => if y = x then some v else ρ y

/-- the variables of a frame (or of a comprehension's block): W their places, ES h ρ: at h they are ρ, ok x: x is one of them -/
structure Vars (c : Cfg) (env : Env) (ok : Str → Prop) (W : Addr → Prop) (ES : Heap → Rho → Prop) : Prop where
  load : ∀ {h ρ x v}, ES h ρ → ok x → ρ x = some v → Loads c env h x v
  cell : ∀ {h ρ x v a}, ES h ρ → ok x → ρ x = some v → env.cells.lookup x = some a → h.IsCell a (some v)
  store : ∀ {A : Around} {s : Shared} {ρ : Rho} {x : Str} {v : Value} {Q : Unit → Shared → Prop} {E : Value → Shared → Prop}, ok x → ES s.heap ρ →
    (∀ h' tk, ES h' (upd ρ x v) → (∀ b o, ¬ W b → s.heap.get? b = some o → h'.get? b = some o) → Q () { s with heap := h', toks := tk }) → wpAny (model c.prog c.w) A (storeName env x v) Q E s
  keep : ∀ {h h' ρ}, ES h ρ → (∀ b o, W b → h.get? b = some o → h'.get? b = some o) → ES h' ρ
  alive : ∀ {h ρ b}, ES h ρ → W b → ∃ o, h.get? b = some o

/-- what a target's binding makes of the variables -/
structure Bound (l : Led) (bs : Sg) (ρ ρ' : Rho) : Prop where
  new : ∀ x d, bs.lookup x = some d → ∃ v, ρ' x = some v ∧ DIn l v d
  old : ∀ x, bs.lookup x = none → ρ' x = ρ x

section
variable {c : Cfg} {A : Around} {env : Env} {ok : Str → Prop} {W : Addr → Prop} {ES : Heap → Rho → Prop}

def Tgt (c : Cfg) (env : Env) (W : Addr → Prop) (ES : Heap → Rho → Prop) (target : Expr) (d : D) (bs : Sg) : Prop :=
  ∀ (A : Around) (s : Shared) (l : Led) (v : Value) (ρ : Rho) (Q : Unit → Shared → Prop) (E : Value → Shared → Prop), A.handled = none → Has s.heap l → (∀ p ∈ l, ¬ W p.1) → DIn l v d → ES s.heap ρ →
    (∀ h' tk ρ', ES h' ρ' → (∀ b o, ¬ W b → s.heap.get? b = some o → h'.get? b = some o) → Bound l bs ρ ρ' → Q () { s with heap := h', toks := tk }) →
    wpAny (model c.prog c.w) A (assign target env v) Q E s

theorem Tgt.name (V : Vars c env ok W ES) {x : Str} {pos : Pos} {d : D} (hx : ok x) : Tgt c env W ES (.Name x pos) d [(x, d)] := fun A s l v ρ Q E hh H hW hd hE k => by
  refine wpAny_assign_Name (V.store hx hE fun h' tk hE' hk => k h' tk _ hE' hk ⟨fun y e hy => ?_, fun y hy => ?_⟩)
  · simp only [List.lookup_cons, List.lookup_nil] at hy
    by_cases q : y = x
    · subst q
      simp at hy
      subst hy
      exact ⟨v, by simp [upd], hd⟩
    · rw [show (y == x) = false by simpa using q] at hy
      cases hy
  · simp only [List.lookup_cons, List.lookup_nil] at hy
    have q : ¬ y = x := by
      intro q
      rw [show (y == x) = true by simpa using q] at hy
      cases hy
    simp [upd, q]

theorem lookup_append_some {a b : Sg} {x : Str} {d : D} (h : (a ++ b).lookup x = some d) : a.lookup x = some d ∨ (a.lookup x = none ∧ b.lookup x = some d) := by
  rw [List.lookup_append] at h
  cases q : a.lookup x with
  | some e => rw [q] at h; exact .inl (by simpa using h)
  | none => rw [q] at h; exact .inr ⟨rfl, by simpa using h⟩
theorem lookup_append_none {a b : Sg} {x : Str} (h : (a ++ b).lookup x = none) : a.lookup x = none ∧ b.lookup x = none := by
  rw [List.lookup_append] at h
  cases q : a.lookup x with
  | some e => rw [q] at h; simp at h
  | none => rw [q] at h; exact ⟨rfl, by simpa using h⟩

theorem Bound.trans {l : Led} {a b : Sg} {ρ ρ' ρ'' : Rho} (x : Bound l a ρ ρ') (y : Bound l b ρ' ρ'') : Bound l (b ++ a) ρ ρ'' :=
  ⟨fun n d h => by
    rcases lookup_append_some h with h | ⟨h0, h⟩
    · exact y.new n d h
    · rw [y.old n h0]; exact x.new n d h,
  fun n h => by
    have ⟨h1, h2⟩ := lookup_append_none h
    rw [y.old n h1, x.old n h2]⟩
theorem Bound.refl {l : Led} {ρ : Rho} : Bound l [] ρ ρ := ⟨fun _ _ h => by simp at h, fun _ _ => rfl⟩

/-- several targets in order -/
theorem tgts (V : Vars c env ok W ES) : ∀ (ts : List (Value → Sem Unit)) (vs : List Value) (ds : List D) (bss : List Sg) (l : Led),
    DAll l vs ds → ts.length = ds.length → bss.length = ds.length →
    (∀ (i : Nat) (t : Value → Sem Unit) (d : D) (bs : Sg), ts[i]? = some t → ds[i]? = some d → bss[i]? = some bs → ∀ (A : Around) (s : Shared) (v : Value) (ρ : Rho) (Q : Unit → Shared → Prop) (E : Value → Shared → Prop), A.handled = none → Has s.heap l → DIn l v d → ES s.heap ρ →
      (∀ h' tk ρ', ES h' ρ' → (∀ b o, ¬ W b → s.heap.get? b = some o → h'.get? b = some o) → Bound l bs ρ ρ' → Q () { s with heap := h', toks := tk }) → wpAny (model c.prog c.w) A (t v) Q E s) → (∀ p ∈ l, ¬ W p.1) →
    ∀ (A : Around) (s : Shared) (ρ : Rho) (Q : Unit → Shared → Prop) (E : Value → Shared → Prop), A.handled = none → Has s.heap l → ES s.heap ρ →
      (∀ h' tk ρ', ES h' ρ' → (∀ b o, ¬ W b → s.heap.get? b = some o → h'.get? b = some o) → Bound l (bss.foldl (fun acc b => b ++ acc) []) ρ ρ' → Q () { s with heap := h', toks := tk }) →
      wpAny (model c.prog c.w) A (assignInOrder ts vs) Q E s := by
  intro ts vs ds bss l hv h1 h2 ht hW
  suffices ∀ (acc : Sg) (ρ₀ : Rho) (A : Around) (s : Shared) (ρ : Rho) (Q : Unit → Shared → Prop) (E : Value → Shared → Prop), Bound l acc ρ₀ ρ → A.handled = none → Has s.heap l → ES s.heap ρ →
      (∀ h' tk ρ', ES h' ρ' → (∀ b o, ¬ W b → s.heap.get? b = some o → h'.get? b = some o) → Bound l (bss.foldl (fun acc b => b ++ acc) acc) ρ₀ ρ' → Q () { s with heap := h', toks := tk }) →
      wpAny (model c.prog c.w) A (assignInOrder ts vs) Q E s from fun A s ρ Q E hh H hE k => this [] ρ A s ρ Q E .refl hh H hE k
  induction ts generalizing vs ds bss with
  | nil =>
    intro acc ρ₀ A s ρ Q E hb hh H hE k
    have e1 : ds = [] := List.length_eq_zero_iff.mp (by simpa using h1.symm)
    subst e1
    have e2 : bss = [] := List.length_eq_zero_iff.mp (by simpa using h2)
    subst e2
    exact assignInOrder_nil (k s.heap s.toks ρ hE (fun _ _ _ e => e) hb)
  | cons t ts ih =>
    intro acc ρ₀ A s ρ Q E hb hh H hE k
    cases hv with
    | nil => simp at h1
    | cons hd hr =>
      rename_i v vs d ds
      cases bss with
      | nil => simp at h2
      | cons bs bss =>
        refine assignInOrder_cons (ht 0 t d bs rfl rfl rfl A s v ρ _ _ hh H hd hE fun h' tk ρ' hE' hk hb' => ?_)
        have H' : Has h' l := fun p hp => hk _ _ (hW p hp) (H p hp)
        refine ih vs ds bss hr (by simpa using h1) (by simpa using h2) (fun i t' d' bs' e1 e2 e3 => ht (i + 1) t' d' bs' (by simpa using e1) (by simpa using e2) (by simpa using e3)) (bs ++ acc) ρ₀ A { s with heap := h', toks := tk } ρ' Q E (hb.trans hb') hh H' hE' fun h'' tk' ρ'' hE'' hk' hb'' => ?_
        exact k h'' tk' ρ'' hE'' (fun b o hb e => hk' b o hb (hk b o hb e)) hb''

theorem Tgt.tup2 (V : Vars c env ok W ES) {t1 t2 : Expr} {n : Nat} {pos : Pos} {d1 d2 : D} {b1 b2 : Sg} (h1 : Tgt c env W ES t1 d1 b1) (h2 : Tgt c env W ES t2 d2 b2)
    (he : assignEach [t1, t2] env = [(false, assign t1 env), (false, assign t2 env)] := by rfl) : Tgt c env W ES (.Tuple [t1, t2] n pos) (.tup [d1, d2]) (b2 ++ (b1 ++ [])) := fun A s l v ρ Q E hh H hW hd hE k => by
  cases hd with
  | tup hm hc hdd hv =>
    rename_i a o vs m
    have hT : IsTup s.heap a vs.toArray := ⟨o, H _ hm, hc, m, hdd⟩
    have hl := hv.length
    refine assign_Tuple_tuple hh hT (by rw [he]; simpa using hl.symm) (by rw [he]; rfl) fun h' hx => ?_
    rw [he]
    have ex : Ext s.heap h' := fun b o e => hx b o (Nat.ne_of_lt (Heap.lt_size e)) e
    refine tgts V [assign t1 env, assign t2 env] vs [d1, d2] [b1, b2] l hv rfl rfl ?_ hW A { s with heap := h' } ρ Q E hh (H.ext ex) (V.keep hE fun b o _ e => ex b o e) fun h'' tk ρ' hE' hk hb => ?_
    · intro i t d bs e1 e2 e3 A s v ρ Q E hh H hd hE k
      match i, e1, e2, e3 with
      | 0, rfl, rfl, rfl => exact h1 A s l v ρ Q E hh H hW hd hE k
      | 1, rfl, rfl, rfl => exact h2 A s l v ρ Q E hh H hW hd hE k
    · exact k h'' tk ρ' hE' (fun b o hb e => hk b o hb (ex b o e)) hb
end

/-! ### L7 -/
/-! ## the block of a comprehension -/
section
variable {c : Cfg}

def compOk (scope : Scope) (cl : List (Str × Addr)) (x : Str) : Prop := scope.names.lookup x = some .local ∧ cl.lookup x = none

theorem compVars {env : Env} {scope : Scope} {cl : List (Str × Addr)} {C : Addr} (hk : scope.kind = .function) :
    Vars c (compEnvC scope cl C env) (compOk scope cl) (fun b => b = C) (fun h ρ => h.Ns C ρ) where
  load := fun hE hx hv A s Q E e q => wpAny_loadName_local (env := compEnvC scope cl C env) (by simp [compEnvC, relabel, hk]) (lookup_relabel_local hx.1) (hE.keeps e) hv q
  cell := fun hE hx hv hc => by
    have : cl.lookup _ = some _ := hc
    rw [hx.2] at this; cases this
  store := fun {A s ρ x v Q E} hx hE k => wpAny_storeName_local (env := compEnvC scope cl C env) (lookup_relabel_local hx.1) hE (fun h' hn hs => k h' _ hn fun b o hb e => hs.extBut b o hb e) (by simp [compEnvC, relabel, hk])
  keep := fun hE e => hE.at' fun o q => e _ o rfl q
  alive := fun hE hb => by subst hb; obtain ⟨o, _, _, ho, _⟩ := hE; exact ⟨o, ho⟩

abbrev lstO (ys : List Value) : Obj := { cls := .type "list", data := .seq ys.toArray ys.length }

/-- the ground of one block: hb, lb: the heap and the ledger at its start; C its names, D2 its list; τ: what it has of the frame around -/
structure Blk (c : Cfg) (env : Env) (scope : Scope) (cl : List (Str × Addr)) (hb : Heap) (lb : Led) (C D2 : Addr) (τ : Sg) : Prop where
  kind : scope.kind = .function
  G : c.G hb
  ne : C ≠ D2
  newC : hb.get? C = none
  newD : hb.get? D2 = none
  has : Has hb lb
  caps : ∀ y d, τ.lookup y = some d → ∃ v a, DIn lb v d ∧ cl.lookup y = some a ∧ hb.IsCell a (some v) ∧ ((compEnvC scope cl C env).kindOf y = some .cell ∨ (compEnvC scope cl C env).kindOf y = some .free) ∧ (y == ("__classdict__" : Str)) = false

/-- the state of a block -/
structure BSt (hb : Heap) (lb : Led) (C D2 : Addr) (vb : Sg) (l : Led) (outs : List D) (ys : List Value) (m : Rho) (h : Heap) : Prop where
  ext : Ext hb h
  has : Has h l
  sub : ∀ p ∈ lb, p ∈ l
  off : ∀ p ∈ l, p.1 ≠ C ∧ p.1 ≠ D2
  list : h.get? D2 = some (lstO ys)
  all : DAll l ys outs
  ns : h.Ns C m
  vb : ∀ x d, vb.lookup x = some d → ∃ v, m x = some v ∧ DIn l v d

def XBut (C D2 : Addr) (h h' : Heap) : Prop := ∀ b o, b ≠ C → b ≠ D2 → h.get? b = some o → h'.get? b = some o
theorem XBut.trans {C D2 : Addr} {h h' h'' : Heap} (a : XBut C D2 h h') (b : XBut C D2 h' h'') : XBut C D2 h h'' := fun x o h1 h2 e => b x o h1 h2 (a x o h1 h2 e)
theorem Ext.x {C D2 : Addr} {h h' : Heap} (a : Ext h h') : XBut C D2 h h' := fun x o _ _ e => a x o e

/-- a step of a block that adds gs to its list -/
def CP (hb : Heap) (lb : Led) (C D2 : Addr) (T : (Shared → Prop) → (Value → Shared → Prop) → Shared → Prop) (vb : Sg) (gs : List D) : Prop :=
  ∀ (s : Shared) (l : Led) (outs : List D) (ys : List Value) (m : Rho) (Q : Shared → Prop) (E : Value → Shared → Prop), BSt hb lb C D2 vb l outs ys m s.heap → outs.length + gs.length ≤ sizeLine →
    (∀ h tk l' ys' m', XBut C D2 s.heap h → (∀ p ∈ l, p ∈ l') → (∀ p ∈ l', p ∈ l ∨ s.heap.get? p.1 = none) → BSt hb lb C D2 vb l' (outs ++ gs) ys' m' h → (∀ x, (vb.lookup x).isSome → m' x = m x) → Q { s with heap := h, toks := tk }) → T Q E s

section
variable {A : Around} {env : Env} {scope : Scope} {cl : List (Str × Addr)} {hb : Heap} {lb : Led} {C D2 : Addr} {τ vb : Sg}

theorem Blk.sig (B : Blk c env scope cl hb lb C D2 τ) (hvb : ∀ x d, vb.lookup x = some d → compOk scope cl x) {l : Led} {outs : List D} {ys : List Value} {m : Rho} {h : Heap} (S : BSt hb lb C D2 vb l outs ys m h) :
    Sig c (compEnvC scope cl C env) h l (vb ++ τ) := fun x d hx => by
  have V : Vars c (compEnvC scope cl C env) (compOk scope cl) (fun b => b = C) (fun h ρ => h.Ns C ρ) := compVars B.kind
  rcases lookup_append_some hx with hx | ⟨_, hx⟩
  · obtain ⟨v, hv, hd⟩ := S.vb x d hx
    exact ⟨v, hd, V.load S.ns (hvb x d hx) hv, fun a ha => V.cell S.ns (hvb x d hx) hv ha⟩
  · obtain ⟨v, a, hd, hc, hcell, hk, hn⟩ := B.caps x d hx
    have hcell' : h.IsCell a (some v) := hcell.keeps S.ext
    have hfun : (compEnvC scope cl C env).scope.kind = .function := by simp [compEnvC, relabel, B.kind]
    refine ⟨v, hd.mono S.sub, fun A s Q E e q => ?_, fun a' ha' => ?_⟩
    · rcases hk with hk | hk
      · exact wpAny_loadName_cell hfun hk hc (hcell'.keeps e) q
      · exact wpAny_loadName_free hfun hk hc (hcell'.keeps e) q hn
    · have : cl.lookup x = some a' := ha'
      rw [hc] at this
      cases this
      exact hcell'

theorem BSt.grow {l : Led} {outs : List D} {ys : List Value} {m : Rho} {h h' : Heap} (S : BSt hb lb C D2 vb l outs ys m h) (e : Ext h h') {nw : Led} (f : Fre h nw) (n : Has h' nw) : BSt hb lb C D2 vb (nw ++ l) outs ys m h' where
  ext := S.ext.trans e
  has := n.append (S.has.ext e)
  sub := fun p hp => List.mem_append_right _ (S.sub p hp)
  off := fun p hp => by
    rcases List.mem_append.mp hp with hp | hp
    · have := f p hp
      obtain ⟨oC, _, _, hC, _⟩ := S.ns
      exact ⟨(ne_of_get hC this).symm, (ne_of_get S.list this).symm⟩
    · exact S.off p hp
  list := e _ _ S.list
  all := S.all.mono sub_app
  ns := S.ns.keeps e
  vb := fun x d hx => let ⟨v, a, b⟩ := S.vb x d hx; ⟨v, a, b.mono sub_app⟩

def emitW (c : Cfg) (A : Around) (acc : Value) (elt : Expr) (env : Env) (Q : Shared → Prop) (E : Value → Shared → Prop) (s : Shared) : Prop :=
  wpAny (model c.prog c.w) A (eval elt env) (fun v s₁ => wpAny (model c.prog c.w) A (call (.builtin "list.append") [acc, v]) (fun _ s₂ => Q s₂) E s₁) E s
/-- an element of the block, told and put onto the list -/
theorem CP.emit (B : Blk c env scope cl hb lb C D2 τ) (hvb : ∀ x d, vb.lookup x = some d → compOk scope cl x) {elt : Expr} {f : D} (h : Ev c A (compEnvC scope cl C env) (vb ++ τ) elt f) :
    CP hb lb C D2 (emitW c A (.ref D2) elt (compEnvC scope cl C env)) vb [f] := fun s l outs ys m Q E S hz k => by
  refine h s l (B.G.ext S.ext) S.has (B.sig hvb S) _ _ fun v nw h' tk e fr n hd => ?_
  have S1 := S.grow e fr n
  have hlen := S1.all.length
  refine append_at (s := { s with heap := h', toks := tk }) S1.list (fun h₅ hs₅ hD₅ => ?_) (by rw [List.size_toArray, hlen]; simp at hz; omega)
  refine k h₅ tk (nw ++ l) (ys ++ [v]) m ?_ sub_app ?_ ?_ fun _ _ => rfl
  · exact fun b o h1 h2 q => hs₅.extBut b o h2 (e b o q)
  · intro p hp
    rcases List.mem_append.mp hp with hp | hp
    · exact .inr (fr p hp)
    · exact .inl hp
  · have hC : h'.Ns C m := S1.ns
    refine ⟨fun b o q => ?_, fun p hp => hs₅.extBut _ _ (S1.off p hp).2 (S1.has p hp), S1.sub, S1.off, ?_, S1.all.append (.one hd), hC.sameBut hs₅ B.ne, S1.vb⟩
    · exact hs₅.extBut b o (fun z => by rw [z, B.newD] at q; cases q) (S1.ext b o q)
    · rw [hD₅]
      simp [List.push_toArray]
end
end

/-! ### L8 -/
abbrev testsT (ifs : List Expr) (env : Env) : Sem Bool := forIn ifs true fun c r => if r = true then do let ok ← isTrue c env (eval c env); pure (ForInStep.yield ok) else pure (ForInStep.yield r)
def Tests (c : Cfg) (A : Around) (env : Env) (σ : Sg) (ifs : List Expr) (b : Bool) : Prop :=
  ∀ s l, c.G s.heap → Has s.heap l → Sig c env s.heap l σ → Vb c A (testsT ifs env) s b
theorem Tests.nil {c : Cfg} {A : Around} {env : Env} {σ : Sg} : Tests c A env σ [] true := fun s l _ _ _ Q E k => wpAny_tests_nil (k s.heap s.toks .refl)
theorem Tests.one {c : Cfg} {A : Around} {env : Env} {σ : Sg} {e : Expr} {b : Bool} (h : Tr c A env σ e b) : Tests c A env σ [e] b := fun s l G H S Q E k => wpAny_tests_one (h s l G H S Q E k)

/-- one turn of a block's loop, opened -/
def TurnOf (c : Cfg) (A : Around) (e : Expr) (depth : Nat) (it acc : Value) (env : Env) (target : Expr) (ifs : List Expr) (body : (Shared → Prop) → (Value → Shared → Prop) → Shared → Prop) : Prop :=
  ∀ (s : Shared) (Q : Fin → Shared → Prop) (E : Value → Shared → Prop),
    wpAny (model c.prog c.w) A (pyNext it) (fun r s₁ => match r with
      | none => Q (.done .next) s₁
      | some v => wpAny (model c.prog c.w) A (letOwnedTupleGo target it v) (fun _ s₂ => wpAny (model c.prog c.w) A (assign target env v) (fun _ s₃ =>
          wpAny (model c.prog c.w) A (testsT ifs env) (fun ok s₄ => if ok = true then body (fun s₅ => Q (.again (.compLoop e depth it acc env)) s₅) E s₄ else Q (.again (.compLoop e depth it acc env)) s₄) E s₃) E s₂) E s₁) E s →
    wpAny (model c.prog c.w) A (compTurn e depth it acc env) Q E s

def innerW (c : Cfg) (A : Around) (e iter : Expr) (acc : Value) (env : Env) (Q : Shared → Prop) (E : Value → Shared → Prop) (s : Shared) : Prop :=
  wpAny (model c.prog c.w) A (eval iter env) (fun x s₁ => wpAny (model c.prog c.w) A (pyIter x) (fun it s₂ =>
    codeAny (model c.prog c.w) A (.compStart e 1 it acc env) (fun r s' => match r with | .ok _ => Q s' | .error x => cameBackBy (model c.prog c.w) A env E x s') s₂) E s₁) E s

theorem turnOne (c : Cfg) (A : Around) (elt target iter : Expr) (ifs : List Expr) (scope : Scope) (pos : Pos) (it acc : Value) (env : Env) :
    TurnOf c A (.ListComp elt [⟨target, iter, ifs, 0⟩] scope pos) 0 it acc env target ifs (emitW c A acc elt env) := fun s Q E h => by
  rw [compTurn_list]
  refine wpAny_bind (wpAny_standAt (wpAny_bind (wpAny_mono h (fun r s₁ h₁ => ?_) fun _ _ h' => h')))
  cases r with
  | none => exact wpAny_pure h₁
  | some v =>
    refine wpAny_bind (wpAny_mono h₁ (fun _ s₂ h₂ => wpAny_bind (wpAny_mono h₂ (fun _ s₃ h₃ => wpAny_bind (wpAny_mono h₃ (fun ok s₄ h₄ => ?_) fun _ _ h' => h')) fun _ _ h' => h')) fun _ _ h' => h')
    cases ok with
    | false => exact wpAny_pure h₄
    | true => exact wpAny_bind (wpAny_bind (wpAny_mono h₄ (fun x s₅ h₅ => wpAny_bind (wpAny_mono h₅ (fun _ s₆ h₆ => wpAny_pure (wpAny_pure h₆)) fun _ _ h' => h')) fun _ _ h' => h'))

theorem compTurn_two0 (elt t0 i0 t1 i1 : Expr) (f0 f1 : List Expr) (scope : Scope) (pos : Pos) (it acc : Value) (env : Env) :
    compTurn (.ListComp elt [⟨t0, i0, f0, 0⟩, ⟨t1, i1, f1, 0⟩] scope pos) 0 it acc env = (do
      standAt i0.pos
      match ← pyNext it with
      | none => pure (.done .next)
      | some v =>
        letOwnedTupleGo t0 it v
        assign t0 env v
        let mut ok := true
        for c in f0 do
          if ok then ok ← isTrue c env (eval c env)
        if ok then
          let x ← eval i1 env
          standAt i1.pos
          let x ← foldedSetIterable i1 env x
          let _ ← runOwn (.compStart (.ListComp elt [⟨t0, i0, f0, 0⟩, ⟨t1, i1, f1, 0⟩] scope pos) 1 (← holding [x] (pyIter x)) acc env) env
        again (.compLoop (.ListComp elt [⟨t0, i0, f0, 0⟩, ⟨t1, i1, f1, 0⟩] scope pos) 0 it acc env)) := by rfl
theorem compTurn_two1 (elt t0 i0 t1 i1 : Expr) (f0 f1 : List Expr) (scope : Scope) (pos : Pos) (it acc : Value) (env : Env) :
    compTurn (.ListComp elt [⟨t0, i0, f0, 0⟩, ⟨t1, i1, f1, 0⟩] scope pos) 1 it acc env = (do
      standAt i1.pos
      match ← pyNext it with
      | none => pure (.done .next)
      | some v =>
        letOwnedTupleGo t1 it v
        assign t1 env v
        let mut ok := true
        for c in f1 do
          if ok then ok ← isTrue c env (eval c env)
        if ok then
          (do let _ ← call (.builtin "list.append") [acc, ← eval elt env])
        again (.compLoop (.ListComp elt [⟨t0, i0, f0, 0⟩, ⟨t1, i1, f1, 0⟩] scope pos) 1 it acc env)) := by rfl
theorem turnTwo0 (c : Cfg) (A : Around) (elt t0 i0 t1 i1 : Expr) (f0 f1 : List Expr) (scope : Scope) (pos : Pos) (it acc : Value) (env : Env) (hs : ∀ x, foldedSetIterable i1 env x = pure x) :
    TurnOf c A (.ListComp elt [⟨t0, i0, f0, 0⟩, ⟨t1, i1, f1, 0⟩] scope pos) 0 it acc env t0 f0 (innerW c A (.ListComp elt [⟨t0, i0, f0, 0⟩, ⟨t1, i1, f1, 0⟩] scope pos) i1 acc env) := fun s Q E h => by
  rw [compTurn_two0]
  refine wpAny_bind (wpAny_standAt (wpAny_bind (wpAny_mono h (fun r s₁ h₁ => ?_) fun _ _ h' => h')))
  cases r with
  | none => exact wpAny_pure h₁
  | some v =>
    refine wpAny_bind (wpAny_mono h₁ (fun _ s₂ h₂ => wpAny_bind (wpAny_mono h₂ (fun _ s₃ h₃ => wpAny_bind (wpAny_mono h₃ (fun ok s₄ h₄ => ?_) fun _ _ h' => h')) fun _ _ h' => h')) fun _ _ h' => h')
    cases ok with
    | false => exact wpAny_pure h₄
    | true =>
      refine wpAny_bind (wpAny_mono h₄ (fun x s₅ h₅ => wpAny_bind (wpAny_standAt (wpAny_bind (wpAny_of_eq (hs x) (wpAny_bind (wpAny_holding (wpAny_mono h₅ (fun it' s₆ h₆ => ?_) fun _ _ h' => h'))))))) fun _ _ h' => h')
      refine wpAny_bind (wpAny_runOwn (codeAny_mono h₆ fun r s₇ hr => ?_))
      cases r with
      | ok f => exact wpAny_pure hr
      | error x => exact hr
theorem turnTwo1 (c : Cfg) (A : Around) (elt t0 i0 t1 i1 : Expr) (f0 f1 : List Expr) (scope : Scope) (pos : Pos) (it acc : Value) (env : Env) :
    TurnOf c A (.ListComp elt [⟨t0, i0, f0, 0⟩, ⟨t1, i1, f1, 0⟩] scope pos) 1 it acc env t1 f1 (emitW c A acc elt env) := fun s Q E h => by
  rw [compTurn_two1]
  refine wpAny_bind (wpAny_standAt (wpAny_bind (wpAny_mono h (fun r s₁ h₁ => ?_) fun _ _ h' => h')))
  cases r with
  | none => exact wpAny_pure h₁
  | some v =>
    refine wpAny_bind (wpAny_mono h₁ (fun _ s₂ h₂ => wpAny_bind (wpAny_mono h₂ (fun _ s₃ h₃ => wpAny_bind (wpAny_mono h₃ (fun ok s₄ h₄ => ?_) fun _ _ h' => h')) fun _ _ h' => h')) fun _ _ h' => h')
    cases ok with
    | false => exact wpAny_pure h₄
    | true => exact wpAny_bind (wpAny_bind (wpAny_mono h₄ (fun x s₅ h₅ => wpAny_bind (wpAny_mono h₅ (fun _ s₆ h₆ => wpAny_pure (wpAny_pure h₆)) fun _ _ h' => h')) fun _ _ h' => h'))

section
variable {c : Cfg} {A : Around} {env : Env} {scope : Scope} {cl : List (Str × Addr)} {hb : Heap} {lb : Led} {C D2 : Addr} {τ vb : Sg}

theorem flat_take {α β : Type} (ds : List α) (g : α → List β) (i : Nat) (d : α) (h : ds[i]? = some d) : (ds.take (i + 1)).flatMap g = (ds.take i).flatMap g ++ g d := by
  rw [List.take_add_one, h, List.flatMap_append]; simp
theorem flat_le {α β : Type} (ds : List α) (g : α → List β) (i : Nat) : ((ds.take i).flatMap g).length ≤ (ds.flatMap g).length := by
  conv => rhs; rw [← List.take_append_drop i ds]
  rw [List.flatMap_append, List.length_append]; omega

theorem blockLoop (B : Blk c env scope cl hb lb C D2 τ) (hA : A.handled = none) {e target : Expr} {ifs : List Expr} {depth : Nat} {I : Addr} {St : Nat → Heap → Prop} {ds : List D} {l0 : Led} {body : (Shared → Prop) → (Value → Shared → Prop) → Shared → Prop} (hq : ∀ it acc env, (Code.compLoop e depth it acc env).quiet = true)
    (hden : (model c.prog c.w).den (.compLoop e depth (.ref I) (.ref D2) (compEnvC scope cl C env)) = ((compTurn e depth (.ref I) (.ref D2) (compEnvC scope cl C env)).onRaise (fun x => do noteFrame x (compEnvC scope cl C env); theTreesLotGoes x)))
    (hun : A.under (.compLoop e depth (.ref I) (.ref D2) (compEnvC scope cl C env)) = A)
    (It : Iter c.prog c.w A l0 ds I St) (bs : D → Sg) (p : D → Bool) (g : D → List D)
    (hT : TurnOf c A e depth (.ref I) (.ref D2) (compEnvC scope cl C env) target ifs body) (hvb : ∀ x d, vb.lookup x = some d → compOk scope cl x)
    (htgt : ∀ d ∈ ds, Tgt c (compEnvC scope cl C env) (fun b => b = C) (fun h ρ => h.Ns C ρ) target d (bs d))
    (hbs : ∀ d ∈ ds, ∀ x e, (bs d).lookup x = some e → compOk scope cl x ∧ vb.lookup x = none)
    (hp : ∀ d ∈ ds, Tests c A (compEnvC scope cl C env) ((bs d ++ vb) ++ τ) ifs (p d))
    (hbody : ∀ d ∈ ds, p d = true → CP hb lb C D2 body (bs d ++ vb) (g d))
    {s : Shared} {l : Led} {outs : List D} {ys : List Value} {m : Rho} (S : BSt hb lb C D2 vb l outs ys m s.heap) (hl0 : ∀ q ∈ l0, q ∈ l) (hst : St 0 s.heap) (hIC : I ≠ C) (hID : I ≠ D2) (hbI : hb.get? I = none) (hIl : ∀ q ∈ l, q.1 ≠ I)
    (hz : outs.length + (ds.flatMap fun d => if p d then g d else []).length ≤ sizeLine) {R : Result → Shared → Prop}
    (hR : ∀ h tk l' ys' m', (∀ b o, b ≠ C → b ≠ D2 → b ≠ I → s.heap.get? b = some o → h.get? b = some o) → (∀ q ∈ l, q ∈ l') → (∀ q ∈ l', q ∈ l ∨ s.heap.get? q.1 = none) → BSt hb lb C D2 vb l' (outs ++ ds.flatMap fun d => if p d then g d else []) ys' m' h →
      (∀ x, (vb.lookup x).isSome → m' x = m x) → R (.ok .next) { s with heap := h, toks := tk }) :
    codeAny (model c.prog c.w) A (.compLoop e depth (.ref I) (.ref D2) (compEnvC scope cl C env)) R s := by
  refine codeAny_loop (hq _ _ _) (fun n s' => ∃ i h tk l' ys' m', n = ds.length - i ∧ i ≤ ds.length ∧ s' = { s with heap := h, toks := tk } ∧ (∀ b o, b ≠ C → b ≠ D2 → b ≠ I → s.heap.get? b = some o → h.get? b = some o) ∧ (∀ q ∈ l, q ∈ l') ∧
      (∀ q ∈ l', q ∈ l ∨ s.heap.get? q.1 = none) ∧ BSt hb lb C D2 vb l' (outs ++ (ds.take i).flatMap fun d => if p d then g d else []) ys' m' h ∧ (∀ x, (vb.lookup x).isSome → m' x = m x) ∧ St i h ∧ (∀ q ∈ l', q.1 ≠ I)) ?_ ds.length
    ⟨0, s.heap, s.toks, l, ys, m, rfl, Nat.zero_le _, rfl, fun _ _ _ _ _ q => q, fun _ q => q, fun _ q => .inl q, by simpa using S, fun _ _ => rfl, hst, hIl⟩
  rintro n s' ⟨i, h, tk, l', ys', m', rfl, hi, rfl, hx, hsub, hnew, S', hm, hst', hI'⟩
  rw [hun, hden]
  refine wpAny_noted (hT _ _ _ ?_)
  by_cases hlt : i < ds.length
  · obtain ⟨d, hd⟩ : ∃ d, ds[i]? = some d := ⟨_, List.getElem?_eq_getElem hlt⟩
    have hmem : d ∈ ds := List.mem_of_getElem? hd
    refine It.item i _ _ _ d hd hst' fun v h₁ tk₁ hv hst₁ hb₁ => ?_
    dsimp only
    refine It.go (i + 1) { s with heap := h₁, toks := tk₁ } _ _ target v hst₁ ?_
    -- the state behind the next item
    have S₁ : BSt hb lb C D2 vb l' (outs ++ (ds.take i).flatMap fun d => if p d then g d else []) ys' m' h₁ :=
      ⟨fun b o q => hb₁ b o (fun z => by rw [z, hbI] at q; cases q) (S'.ext b o q), fun q hq => hb₁ _ _ (hI' q hq) (S'.has q hq), S'.sub, S'.off, hb₁ _ _ (Ne.symm hID) S'.list, S'.all, S'.ns.at' fun o q => hb₁ _ o (Ne.symm hIC) q, S'.vb⟩
    refine htgt d hmem A { s with heap := h₁, toks := tk₁ } l' v m' _ _ hA S₁.has (fun q hq => (S'.off q hq).1) (hv.mono fun q hq => hsub q (hl0 q hq)) S₁.ns fun h₂ tk₂ m₂ hns₂ hk₂ hbd => ?_
    have S₂ : BSt hb lb C D2 (bs d ++ vb) l' (outs ++ (ds.take i).flatMap fun d => if p d then g d else []) ys' m₂ h₂ := by
      refine ⟨fun b o q => hk₂ b o (fun z => by rw [z, B.newC] at q; cases q) (S₁.ext b o q), fun q hq => hk₂ _ _ (S'.off q hq).1 (S₁.has q hq), S'.sub, S'.off, hk₂ _ _ (Ne.symm B.ne) S₁.list, S'.all, hns₂, fun x e hx => ?_⟩
      rcases lookup_append_some hx with hx | ⟨h0, hx⟩
      · exact hbd.new x e hx
      · rw [hbd.old x h0]; exact S'.vb x e hx
    have hbs' : ∀ x e, (bs d ++ vb).lookup x = some e → compOk scope cl x := fun x e hx => by
      rcases lookup_append_some hx with hx | ⟨_, hx⟩
      · exact (hbs d hmem x e hx).1
      · exact hvb x e hx
    have hm₂ : ∀ x, (vb.lookup x).isSome → m₂ x = m x := fun x hx => by
      have hn : (bs d).lookup x = none := by
        cases q : (bs d).lookup x with
        | none => rfl
        | some e => rw [(hbs d hmem x e q).2] at hx; cases hx
      rw [hbd.old x hn, hm x hx]
    have hst₂ : St (i + 1) h₂ := It.frame _ _ _ hst₁ (fun o q => hk₂ _ o hIC q) (fun q hq => S₁.has q (hsub q (hl0 q hq))) (fun q hq => S₂.has q (hsub q (hl0 q hq)))
    have hx₂ : ∀ b o, b ≠ C → b ≠ D2 → b ≠ I → s.heap.get? b = some o → h₂.get? b = some o := fun b o a1 a2 a3 q => hk₂ b o a1 (hb₁ b o a3 (hx b o a1 a2 a3 q))
    refine hp d hmem { s with heap := h₂, toks := tk₂ } l' (B.G.ext S₂.ext) S₂.has (B.sig hbs' S₂) _ _ fun h₃ tk₃ e₃ => ?_
    have S₃ : BSt hb lb C D2 (bs d ++ vb) l' (outs ++ (ds.take i).flatMap fun d => if p d then g d else []) ys' m₂ h₃ := by
      have := S₂.grow e₃ .nil .nil
      exact this
    have hst₃ : St (i + 1) h₃ := It.frame _ _ _ hst₂ (fun o q => e₃ _ o q) (fun q hq => S₂.has q (hsub q (hl0 q hq))) (fun q hq => S₃.has q (hsub q (hl0 q hq)))
    have hx₃ : ∀ b o, b ≠ C → b ≠ D2 → b ≠ I → s.heap.get? b = some o → h₃.get? b = some o := fun b o a1 a2 a3 q => e₃ b o (hx₂ b o a1 a2 a3 q)
    have dropvb : ∀ {l'' outs'' ys'' m'' h''}, BSt hb lb C D2 (bs d ++ vb) l'' outs'' ys'' m'' h'' → BSt hb lb C D2 vb l'' outs'' ys'' m'' h'' := fun S => ⟨S.ext, S.has, S.sub, S.off, S.list, S.all, S.ns, fun x e hx => S.vb x e (by
      rw [List.lookup_append]
      have hn : (bs d).lookup x = none := by
        cases q : (bs d).lookup x with
        | none => rfl
        | some e' => rw [(hbs d hmem x e' q).2] at hx; cases hx
      rw [hn]; simpa using hx)⟩
    cases hpd : p d with
    | false =>
      simp only [Bool.false_eq_true, if_false]
      refine ⟨trivial, ds.length - (i + 1), by omega, i + 1, h₃, tk₃, l', ys', m₂, rfl, hlt, rfl, hx₃, hsub, hnew, ?_, hm₂, hst₃, hI'⟩
      have e0 : (ds.take (i + 1)).flatMap (fun d => if p d then g d else []) = (ds.take i).flatMap (fun d => if p d then g d else []) := by
        rw [flat_take ds _ i d hd, hpd]; simp
      rw [e0]
      exact dropvb S₃
    | true =>
      simp only [if_true]
      have e0 : (ds.take (i + 1)).flatMap (fun d => if p d then g d else []) = (ds.take i).flatMap (fun d => if p d then g d else []) ++ g d := by
        rw [flat_take ds _ i d hd, hpd]; simp
      refine hbody d hmem hpd { s with heap := h₃, toks := tk₃ } l' _ ys' m₂ _ _ S₃ ?_ fun h₄ tk₄ l₄ ys₄ m₄ hx₄ hsub₄ hnew₄ S₄ hm₄ => ?_
      · have := flat_le ds (fun d => if p d then g d else []) (i + 1)
        rw [e0, List.length_append] at this
        rw [List.length_append]; omega
      · refine ⟨trivial, ds.length - (i + 1), by omega, i + 1, h₄, tk₄, l₄, ys₄, m₄, rfl, hlt, rfl, fun b o a1 a2 a3 q => hx₄ b o a1 a2 (hx₃ b o a1 a2 a3 q), fun q hq => hsub₄ q (hsub q hq), fun q hq => ?_, ?_, fun x hx => ?_, ?_, fun q hq => ?_⟩
        · rcases hnew₄ q hq with z | z
          · exact hnew q z
          · refine .inr ?_
            cases w : s.heap.get? q.1 with
            | none => rfl
            | some o =>
              exfalso
              have z' : h₃.get? q.1 = none := z
              by_cases c1 : q.1 = C
              · exact (S₄.off q hq).1 c1
              · by_cases c2 : q.1 = D2
                · exact (S₄.off q hq).2 c2
                · by_cases c3 : q.1 = I
                  · obtain ⟨oI, hoI⟩ := It.at_ _ _ hst₃
                    rw [c3, hoI] at z'; cases z'
                  · rw [hx₃ _ o c1 c2 c3 w] at z'; cases z'
        · rw [e0, ← List.append_assoc]
          exact dropvb S₄
        · rw [hm₄ x (by
            rw [List.lookup_append]
            cases (bs d).lookup x <;> simp [hx]), hm₂ x hx]
        · exact It.frame _ _ _ hst₃ (fun o q => hx₄ _ o hIC hID q) (fun q hq => S₃.has q (hsub q (hl0 q hq))) (fun q hq => S₄.has q (hsub₄ q (hsub q (hl0 q hq))))
        · rcases hnew₄ q hq with z | z
          · exact hI' q z
          · obtain ⟨oI, hoI⟩ := It.at_ _ _ hst₃
            intro c3
            have z' : h₃.get? q.1 = none := z
            rw [c3, hoI] at z'; cases z'
  · obtain rfl : i = ds.length := Nat.le_antisymm hi (Nat.not_lt.mp hlt)
    refine It.done { s with heap := h, toks := tk } _ _ hst' fun h₁ tk₁ hb₁ => ?_
    dsimp only
    refine hR h₁ tk₁ l' ys' m' (fun b o a1 a2 a3 q => hb₁ b o a3 (hx b o a1 a2 a3 q)) hsub hnew ?_ hm
    rw [List.take_length] at S'
    exact ⟨fun b o q => hb₁ b o (fun z => by rw [z, hbI] at q; cases q) (S'.ext b o q), fun q hq => hb₁ _ _ (hI' q hq) (S'.has q hq), S'.sub, S'.off, hb₁ _ _ (Ne.symm hID) S'.list, S'.all, S'.ns.at' fun o q => hb₁ _ o (Ne.symm hIC) q, S'.vb⟩
end

/-! ### L9 -/
theorem codeAny_compStart1 {prog : Program} {w : World} {A : Around} {R : Result → Shared → Prop} {s : Shared} {elt t0 i0 t1 i1 : Expr} {f0 f1 : List Expr} {scope : Scope} {pos : Pos} {it acc : Value} {env : Env}
    (h0 : codeAny (model prog w) A (.compLoop (.ListComp elt [⟨t0, i0, f0, 0⟩, ⟨t1, i1, f1, 0⟩] scope pos) 1 it acc env) R s)
    (h : wpAny (model prog w) A (pyIter it) (fun it' s' => codeAny (model prog w) A (.compLoop (.ListComp elt [⟨t0, i0, f0, 0⟩, ⟨t1, i1, f1, 0⟩] scope pos) 1 it' acc env) R s')
      (notedBy (model prog w) A env fun x s' => R (.error x) s') s) :
    codeAny (model prog w) A (.compStart (.ListComp elt [⟨t0, i0, f0, 0⟩, ⟨t1, i1, f1, 0⟩] scope pos) 1 it acc env) R s := by
  refine codeAny_of_tree ?_
  show wpAny _ _ ((compStart (.ListComp elt [⟨t0, i0, f0, 0⟩, ⟨t1, i1, f1, 0⟩] scope pos) 1 it acc env).onRaise (fun x => do noteFrame x env; standAt theWindowsPlace)) _ _ s
  refine wpAny_notedAt ?_
  unfold compStart
  show wpAny _ _ (ask >>= _) _ _ s
  refine wpAny_bind (wpAny_askSetting (wpAny_ite ?_))
  split
  · first
      | exact wpAny_bind (wpAny_pure (wpAny_pure (And.intro rfl h0)))
      | exact wpAny_pure (And.intro rfl h0)
  · first
      | exact wpAny_bind (wpAny_rule (wpAny_bind (wpAny_standAt (wpAny_bind (wpAny_mono h (fun it' s' h' => wpAny_pure (And.intro rfl h')) fun _ _ x => x)))))
      | (refine wpAny_bind (wpAny_rule ?_); show wpAny _ _ (standAt i1.pos >>= _) _ _ s; exact wpAny_bind (wpAny_standAt (wpAny_bind (wpAny_mono h (fun it' s' h' => wpAny_pure (And.intro rfl h')) fun _ _ x => x))))

theorem split_led {hb h : Heap} {l l' : Led} (hn : ∀ q ∈ l', q ∈ l ∨ hb.get? q.1 = none) (H : Has h l') : ∃ nw : Led, Fre hb nw ∧ Has h nw ∧ (∀ q ∈ nw, q ∈ l') ∧ ∀ q ∈ l', q ∈ nw ++ l := by
  refine ⟨l'.filter fun q => (hb.get? q.1).isNone, fun q hq => ?_, fun q hq => H q (List.mem_filter.mp hq).1, fun q hq => (List.mem_filter.mp hq).1, fun q hq => ?_⟩
  · simpa using (List.mem_filter.mp hq).2
  · rcases hn q hq with z | z
    · exact List.mem_append_right _ z
    · exact List.mem_append_left _ (List.mem_filter.mpr ⟨hq, by simp [z]⟩)

/-- what a block sees of the frame around it -/
inductive Caps (env : Env) (scope : Scope) (cl : List (Str × Addr)) (σ : Sg) : Sg → Prop
  | nil : Caps env scope cl σ []
  | cons {y : Str} {d : D} {a : Addr} {τ : Sg} : σ.lookup y = some d → cl.lookup y = some a → env.cells.lookup y = some a →
      ((relabel scope env).names.lookup y = some .cell ∨ (relabel scope env).names.lookup y = some .free) → (y == ("__classdict__" : Str)) = false → Caps env scope cl σ τ → Caps env scope cl σ ((y, d) :: τ)

section
variable {c : Cfg} {A : Around} {env : Env} {scope : Scope} {cl : List (Str × Addr)} {σ τ : Sg}

theorem Caps.at {y : Str} {d : D} (h : Caps env scope cl σ τ) (hy : τ.lookup y = some d) : σ.lookup y = some d ∧ (∃ a, cl.lookup y = some a ∧ env.cells.lookup y = some a) ∧
    ((relabel scope env).names.lookup y = some .cell ∨ (relabel scope env).names.lookup y = some .free) ∧ (y == ("__classdict__" : Str)) = false := by
  induction h with
  | nil => simp at hy
  | cons h1 h2 h3 h4 h5 _ ih =>
    rw [List.lookup_cons] at hy
    split at hy
    · rename_i q
      have := beq_iff_eq.mp q
      subst this
      cases hy
      exact ⟨h1, ⟨_, h2, h3⟩, h4, h5⟩
    · exact ih hy

/-- what the block's end hands on -/
def BEnd (hb : Heap) (l : Led) (C D2 : Addr) (outs : List D) (h : Heap) : Prop :=
  ∃ (l' : Led) (ys : List Value) (m : Rho), Ext hb h ∧ (∀ q ∈ l, q ∈ l') ∧ (∀ q ∈ l', q ∈ l ∨ hb.get? q.1 = none) ∧ Has h l' ∧ (∀ q ∈ l', q.1 ≠ C ∧ q.1 ≠ D2) ∧ h.get? D2 = some (lstO ys) ∧ DAll l' ys outs ∧ h.Ns C m ∧ C ≠ D2 ∧ hb.get? C = none ∧ hb.get? D2 = none

/-- the block, from the iterator on -/
theorem blockRun {elt : Expr} {gens : List Comprehension} {pos : Pos} {s : Shared} {l : Led} {I : Addr} {h₂ : Heap} {outs : List D} {RR : Value → Addr → Result → Shared → Prop} {E : Value → Shared → Prop}
    (G : c.G s.heap) (H : Has s.heap l) (S : Sig c env s.heap l σ) (K : Caps env scope cl σ τ) (e₂ : Ext s.heap h₂) (hI : s.heap.get? I = none) (hIlt : I < h₂.objs.size)
    (hcell : ∀ y ∈ scope.names, y.2 ≠ .cell) (hkind : scope.kind = .function)
    (loop : ∀ C D2 h₁ tk m, Blk c env scope cl s.heap l C D2 τ → BSt s.heap l C D2 [] l [] [] m h₁ → I ≠ C → I ≠ D2 → Ext h₂ h₁ →
      (∀ h tk', BEnd s.heap l C D2 outs h → RR (.ref D2) C (.ok .next) { s with heap := h, toks := tk' }) →
      codeAny (model c.prog c.w) A (.compStart (.ListComp elt gens scope pos) 0 (.ref I) (.ref D2) (compEnvC scope cl C env)) (RR (.ref D2) C) { s with heap := h₁, toks := tk })
    (hRR : ∀ C D2 h tk, BEnd s.heap l C D2 outs h → RR (.ref D2) C (.ok .next) { s with heap := h, toks := tk }) :
    wpAny (model c.prog c.w) A (newList []) (fun acc s₃ => wpAny (model c.prog c.w) A (newFunctionEnv scope env.globals cl [] env.qual none .none (some env)) (fun cenv s₄ =>
      codeAny (model c.prog c.w) A (.compStart (.ListComp elt gens scope pos) 0 (.ref I) acc { cenv with scope := relabel scope env }) (RR acc cenv.locals) s₄) E s₃) E { s with heap := h₂ } := by
  refine wpAny_newObj_type (wpAny_newFunctionEnv hcell (by intro y hy; simp at hy) (fun h₁ hns₁ hsb₁ => ?_) hkind)
  dsimp only at hns₁ hsb₁ ⊢
  generalize hH2 : h₂.push { cls := .type "list", dict := none, data := .seq ([] : List Value).toArray } = H2 at hns₁ hsb₁ ⊢
  have hC : H2.objs.size = h₂.objs.size + 1 := by rw [← hH2, Heap.size_push]
  have hCD : H2.objs.size ≠ h₂.objs.size := by rw [hC]; exact Nat.ne_of_gt (Nat.lt_succ_self _)
  have old : Ext h₂ h₁ := fun b o q => by
    refine hsb₁.extBut b o ?_ (Heap.get?_push_of_some _ (hH2 ▸ Heap.get?_push_of_some _ q))
    rw [hC]; exact Nat.ne_of_lt (Nat.lt_succ_of_lt (Heap.lt_size q))
  have hacc : h₁.get? h₂.objs.size = some (lstO []) := hsb₁.extBut _ _ (Ne.symm hCD) (Heap.get?_push_of_some _ (hH2 ▸ Heap.get?_push_size _ rfl))
  have eb : Ext s.heap h₁ := e₂.trans old
  have nC : s.heap.get? H2.objs.size = none := none_of_ext e₂ (fresh_ge (by rw [hC]; exact Nat.le_succ _))
  have nD : s.heap.get? h₂.objs.size = none := none_of_ext e₂ (fresh_size _)
  have B : Blk c env scope cl s.heap l H2.objs.size h₂.objs.size τ := by
    refine ⟨hkind, G, hCD, nC, nD, H, fun y d hy => ?_⟩
    obtain ⟨h1, ⟨a, h2, h3⟩, h4, h5⟩ := K.at hy
    obtain ⟨v, hd, _, hc⟩ := S y d h1
    exact ⟨v, a, hd, h2, hc a h3, h4, h5⟩
  refine loop _ _ h₁ _ _ B ⟨eb, H.ext eb, fun _ h => h, fun q hq => ⟨ne_of_get (H q hq) nC, ne_of_get (H q hq) nD⟩, hacc, .nil, hns₁, fun x d hx => by simp at hx⟩ ?_ ?_ old fun h tk' hE => hRR _ _ h tk' hE
  · rw [hC]; exact Nat.ne_of_lt (Nat.lt_succ_of_lt hIlt)
  · exact Nat.ne_of_lt hIlt

/-- a comprehension of one clause -/
structure Cla (c : Cfg) (A : Around) (env : Env) (scope : Scope) (cl : List (Str × Addr)) (τ : Sg) (elt target : Expr) (ifs : List Expr) (ds : List D) (bs : D → Sg) (p : D → Bool) (f : D → D) : Prop where
  tgt : ∀ d ∈ ds, ∀ C, Tgt c (compEnvC scope cl C env) (fun b => b = C) (fun h ρ => h.Ns C ρ) target d (bs d)
  nm : ∀ d ∈ ds, ∀ x e, (bs d).lookup x = some e → compOk scope cl x
  test : ∀ d ∈ ds, ∀ C, Tests c A (compEnvC scope cl C env) (bs d ++ τ) ifs (p d)
  elt : ∀ d ∈ ds, p d = true → ∀ C, Ev c A (compEnvC scope cl C env) (bs d ++ τ) elt (f d)

theorem iter_lt {prog : Program} {w : World} {l : Led} {ds : List D} {I : Addr} {St : Nat → Heap → Prop} (It : Iter prog w A l ds I St) {h : Heap} {i : Nat} (st : St i h) : I < h.objs.size := by
  obtain ⟨o, ho⟩ := It.at_ _ _ st
  exact Heap.lt_size ho

theorem oneLoop (hA : A.handled = none) {elt target iter : Expr} {ifs : List Expr} {pos : Pos} {ds : List D} {bs : D → Sg} {p : D → Bool} {f : D → D} (O : Cla c A env scope cl τ elt target ifs ds bs p f) (hz : ds.length ≤ sizeLine)
    {s : Shared} {l : Led} {I : Addr} {St : Nat → Heap → Prop} {h₂ : Heap} {l0 : Led} (It : Iter c.prog c.w A l0 ds I St) (hl0 : ∀ q ∈ l0, q ∈ l) (H2 : Has h₂ l) (hst : St 0 h₂) (hI : s.heap.get? I = none) (H : Has s.heap l) {RR : Value → Addr → Result → Shared → Prop}
    (C D2 : Addr) (h₁ : Heap) (tk : Nat) (m : Rho) (B : Blk c env scope cl s.heap l C D2 τ) (S : BSt s.heap l C D2 [] l [] [] m h₁) (hIC : I ≠ C) (hID : I ≠ D2) (e₁ : Ext h₂ h₁)
    (hR : ∀ h tk', BEnd s.heap l C D2 ((ds.filter p).map f) h → RR (.ref D2) C (.ok .next) { s with heap := h, toks := tk' }) :
    codeAny (model c.prog c.w) A (.compStart (.ListComp elt [⟨target, iter, ifs, 0⟩] scope pos) 0 (.ref I) (.ref D2) (compEnvC scope cl C env)) (RR (.ref D2) C) { s with heap := h₁, toks := tk } := by
  have hst₁ : St 0 h₁ := It.frame _ _ _ hst (fun o q => e₁ _ o q) (fun q hq => H2 q (hl0 q hq)) (fun q hq => S.has q (hl0 q hq))
  have hfm : (ds.flatMap fun d => if p d then [f d] else []) = (ds.filter p).map f := by
    clear hst₁ It hl0 O hz hR
    induction ds with
    | nil => rfl
    | cons d ds ih => cases hp : p d <;> simp [hp, ih]
  have loop : codeAny (model c.prog c.w) A (.compLoop (.ListComp elt [⟨target, iter, ifs, 0⟩] scope pos) 0 (.ref I) (.ref D2) (compEnvC scope cl C env)) (RR (.ref D2) C) { s with heap := h₁, toks := tk } := by
    refine blockLoop B hA (fun _ _ _ => rfl) rfl rfl It bs p (fun d => [f d]) (turnOne c A elt target iter ifs scope pos (.ref I) (.ref D2) (compEnvC scope cl C env)) (vb := []) (fun x d hx => by simp at hx) (fun d hd => O.tgt d hd C) (fun d hd x e hx => ⟨O.nm d hd x e hx, by simp⟩)
      (fun d hd => by rw [List.append_nil]; exact O.test d hd C) (fun d hd hp => ?_) S hl0 hst₁ hIC hID hI (fun q hq => ne_of_get (H q hq) hI) ?_ fun h tk' l' ys' m' hx hsub hnew S' hm => ?_
    · refine CP.emit B (fun x e hx => O.nm d hd x e (by rw [List.append_nil] at hx; exact hx)) (by rw [List.append_nil]; exact O.elt d hd hp C)
    · rw [hfm, List.length_map]
      simp only [List.length_nil, Nat.zero_add]
      exact Nat.le_trans (List.length_filter_le _ _) hz
    · refine hR h tk' ⟨l', ys', m', S'.ext, hsub, fun q hq => ?_, S'.has, S'.off, S'.list, ?_, S'.ns, B.ne, B.newC, B.newD⟩
      · rcases hnew q hq with z | z
        · exact .inl z
        · exact .inr (none_of_ext S.ext z)
      · have := S'.all
        rw [List.nil_append, hfm] at this
        exact this
  exact codeAny_compStart_list loop (It.self 0 _ _ _ hst₁ loop)

theorem Ev.comp1 (hA : A.handled = none) {elt target iter : Expr} {ifs : List Expr} {pos : Pos} {di : D} {ds : List D} {bs : D → Sg} {p : D → Bool} {f : D → D} (hi : Ev c A env σ iter di) (he : elems di = some ds)
    (hsm : ∀ a b, di = .rng a b → Builtin.Range.small a b 1 = true) (hz : ds.length ≤ sizeLine) (O : Cla c A env scope cl τ elt target ifs ds bs p f) (K : Caps env scope cl σ τ)
    (hclos : closureFor scope env = pure cl) (hcell : ∀ y ∈ scope.names, y.2 ≠ .cell) (hkind : scope.kind = .function) (hnames : ∀ y ∈ scope.names, y.2 = .local → scope.names.lookup y.1 = some .local)
    (hs : ∀ x, foldedSetIterable iter env x = pure x := by intro _; rfl) :
    Ev c A env σ (.ListComp elt [⟨target, iter, ifs, 0⟩] scope pos) (.lst ((ds.filter p).map f)) := fun s l G H S Q E k => by
  rw [eval_ListComp]
  refine wpAny_comprehension_free (use := none) rfl hs hclos hkind hnames (hi s l G H S _ _ fun v nw h' tk e fr n hd => ?_)
  have G1 := G.ext e
  have H1 : Has h' (nw ++ l) := n.append (H.ext e)
  have S1 : Sig c env h' (nw ++ l) σ := S.ext e sub_app
  refine iter_any (s := { s with heap := h', toks := tk }) hA H1 hd he hsm fun I h₂ St It hst e₂ hI => ?_
  refine blockRun (s := { s with heap := h', toks := tk }) (l := nw ++ l) (σ := σ) (τ := τ) (outs := (ds.filter p).map f) G1 H1 S1 K e₂ hI (iter_lt It hst) hcell hkind ?_ ?_
  · intro C D2 h₁ tk₁ m B S2 hIC hID e₁ hR
    exact oneLoop (s := { s with heap := h', toks := tk }) hA O hz It (fun _ h => h) (H1.ext e₂) hst hI H1 C D2 h₁ tk₁ m B S2 hIC hID e₁ hR
  · rintro C D2 h tk₁ ⟨l', ys, m, eb, hsub, hnew, hl', hoff, hlist, hall, hns, hne, hnC, hnD⟩
    refine ⟨m, hns, fun h'' hs'' => ?_⟩
    have H'' : Has h'' l' := fun q hq => hs''.extBut _ _ (hoff q hq).1 (hl' q hq)
    have D'' : h''.get? D2 = some (lstO ys) := hs''.extBut _ _ (Ne.symm hne) hlist
    obtain ⟨nw', f1, f2, _, f3⟩ := split_led hnew H''
    have eb' : Ext h' h'' := fun b o q => hs''.extBut b o (fun z => by rw [z] at q; have q' : h'.get? C = some o := q; rw [show h'.get? C = none from hnC] at q'; cases q') (eb b o q)
    refine k (.ref D2) (((D2, lstO ys) :: nw') ++ nw) h'' tk₁ (e.trans eb') ?_ ?_ ?_
    · refine Fre.append (fun q hq => ?_) fr
      rcases List.mem_cons.mp hq with rfl | hq
      · exact none_of_ext e hnD
      · exact none_of_ext e (f1 q hq)
    · refine Has.append (fun q hq => ?_) (n.ext eb')
      rcases List.mem_cons.mp hq with rfl | hq
      · exact D''
      · exact f2 q hq
    · refine .lst (vs := ys) (n := ys.length) (List.mem_append_left _ (List.mem_append_left _ (.head _))) rfl rfl (hall.mono fun q hq => ?_)
      have := f3 q hq
      rcases List.mem_append.mp this with z | z
      · exact List.mem_append_left _ (List.mem_append_left _ (List.mem_cons_of_mem _ z))
      · rcases List.mem_append.mp z with z | z
        · exact List.mem_append_left _ (List.mem_append_right _ z)
        · exact List.mem_append_right _ z
end

/-! ### L10 -/
section
variable {c : Cfg} {A : Around} {env : Env} {scope : Scope} {cl : List (Str × Addr)} {σ τ : Sg} {hb : Heap} {lb : Led} {C D2 : Addr}

theorem flat_filter {ds : List D} {p : D → Bool} {f : D → D} : (ds.flatMap fun d => if p d then [f d] else []) = (ds.filter p).map f := by
  induction ds with
  | nil => rfl
  | cons d ds ih => cases hp : p d <;> simp [hp, ih]

theorem CP.inner (B : Blk c env scope cl hb lb C D2 τ) (hA : A.handled = none) {elt t0 i0 t1 i1 : Expr} {f0 f1 : List Expr} {pos : Pos} {vb : Sg} {di : D} {ds : List D} {bs : D → Sg} {p : D → Bool} {f : D → D}
    (hvb : ∀ x d, vb.lookup x = some d → compOk scope cl x) (hi : Ev c A (compEnvC scope cl C env) (vb ++ τ) i1 di) (he : elems di = some ds) (hsm : ∀ a b, di = .rng a b → Builtin.Range.small a b 1 = true)
    (htgt : ∀ d ∈ ds, Tgt c (compEnvC scope cl C env) (fun b => b = C) (fun h ρ => h.Ns C ρ) t1 d (bs d)) (hbs : ∀ d ∈ ds, ∀ x e, (bs d).lookup x = some e → compOk scope cl x ∧ vb.lookup x = none)
    (hp : ∀ d ∈ ds, Tests c A (compEnvC scope cl C env) ((bs d ++ vb) ++ τ) f1 (p d)) (helt : ∀ d ∈ ds, p d = true → Ev c A (compEnvC scope cl C env) ((bs d ++ vb) ++ τ) elt (f d)) :
    CP hb lb C D2 (innerW c A (.ListComp elt [⟨t0, i0, f0, 0⟩, ⟨t1, i1, f1, 0⟩] scope pos) i1 (.ref D2) (compEnvC scope cl C env)) vb ((ds.filter p).map f) := fun s l outs ys m Q E S hz k => by
  refine hi s l (B.G.ext S.ext) S.has (B.sig hvb S) _ _ fun v nw h' tk e fr n hd => ?_
  have S1 := S.grow e fr n
  refine iter_any (s := { s with heap := h', toks := tk }) hA S1.has hd he hsm fun I h₂ St It hst e₂ hI => ?_
  have S2 : BSt hb lb C D2 vb (nw ++ l) outs ys m h₂ := S1.grow e₂ .nil .nil
  obtain ⟨oC, _, _, hC, _⟩ := S1.ns
  have hIC : I ≠ C := Ne.symm (ne_of_get hC hI)
  have hID : I ≠ D2 := Ne.symm (ne_of_get S1.list hI)
  have hIn : s.heap.get? I = none := none_of_ext e hI
  have loop : codeAny (model c.prog c.w) A (.compLoop (.ListComp elt [⟨t0, i0, f0, 0⟩, ⟨t1, i1, f1, 0⟩] scope pos) 1 (.ref I) (.ref D2) (compEnvC scope cl C env))
      (fun r s' => match r with | .ok _ => Q s' | .error x => cameBackBy (model c.prog c.w) A (compEnvC scope cl C env) E x s') { s with heap := h₂, toks := tk } := by
    refine blockLoop B hA (fun _ _ _ => rfl) rfl rfl It bs p (fun d => [f d]) (turnTwo1 c A elt t0 i0 t1 i1 f0 f1 scope pos (.ref I) (.ref D2) (compEnvC scope cl C env)) hvb htgt hbs hp
      (fun d hd' hp' => CP.emit B (fun x e hx => ?_) (helt d hd' hp')) (s := { s with heap := h₂, toks := tk }) S2 (fun _ h => h) hst hIC hID (none_of_ext S1.ext hI) (fun q hq => ne_of_get (S1.has q hq) hI) ?_ fun h tk' l' ys' m' hx hsub hnew S' hm => ?_
    · rcases lookup_append_some hx with hx | ⟨_, hx⟩
      · exact (hbs d hd' x e hx).1
      · exact hvb x e hx
    · rw [flat_filter]; exact hz
    · dsimp only
      rw [flat_filter] at S'
      refine k h tk' l' ys' m' (fun b o a1 a2 q => hx b o a1 a2 (fun z => by rw [z, hIn] at q; cases q) (e₂ _ _ (e b o q))) (fun q hq => hsub q (List.mem_append_right _ hq)) (fun q hq => ?_) S' hm
      rcases hnew q hq with z | z
      · rcases List.mem_append.mp z with z | z
        · exact .inr (fr q z)
        · exact .inl z
      · exact .inr (none_of_ext (e.trans e₂) z)
  exact codeAny_compStart1 loop (It.self 0 _ _ _ hst loop)

/-- a comprehension of two clauses -/
theorem Ev.comp2 (hA : A.handled = none) {elt t0 i0 t1 i1 : Expr} {f0 f1 : List Expr} {pos : Pos} {di : D} {ds : List D} {bs : D → Sg} {p0 : D → Bool} {di1 : D → D} {ds1 : D → List D} {bs1 : D → D → Sg} {p : D → D → Bool} {f : D → D → D}
    (hi : Ev c A env σ i0 di) (he : elems di = some ds) (hsm : ∀ a b, di = .rng a b → Builtin.Range.small a b 1 = true)
    (K : Caps env scope cl σ τ)
    (htgt : ∀ d ∈ ds, ∀ C, Tgt c (compEnvC scope cl C env) (fun b => b = C) (fun h ρ => h.Ns C ρ) t0 d (bs d)) (hbs : ∀ d ∈ ds, ∀ x e, (bs d).lookup x = some e → compOk scope cl x)
    (hp0 : ∀ d ∈ ds, ∀ C, Tests c A (compEnvC scope cl C env) (bs d ++ τ) f0 (p0 d))
    (hi1 : ∀ d ∈ ds, p0 d = true → ∀ C, Ev c A (compEnvC scope cl C env) (bs d ++ τ) i1 (di1 d)) (he1 : ∀ d ∈ ds, p0 d = true → elems (di1 d) = some (ds1 d)) (hsm1 : ∀ d ∈ ds, p0 d = true → ∀ a b, di1 d = .rng a b → Builtin.Range.small a b 1 = true)
    (htgt1 : ∀ d ∈ ds, p0 d = true → ∀ e ∈ ds1 d, ∀ C, Tgt c (compEnvC scope cl C env) (fun b => b = C) (fun h ρ => h.Ns C ρ) t1 e (bs1 d e)) (hbs1 : ∀ d ∈ ds, p0 d = true → ∀ e ∈ ds1 d, ∀ x y, (bs1 d e).lookup x = some y → compOk scope cl x ∧ (bs d).lookup x = none)
    (hp : ∀ d ∈ ds, p0 d = true → ∀ e ∈ ds1 d, ∀ C, Tests c A (compEnvC scope cl C env) ((bs1 d e ++ bs d) ++ τ) f1 (p d e)) (helt : ∀ d ∈ ds, p0 d = true → ∀ e ∈ ds1 d, p d e = true → ∀ C, Ev c A (compEnvC scope cl C env) ((bs1 d e ++ bs d) ++ τ) elt (f d e))
    (hz : (ds.flatMap fun d => if p0 d then ((ds1 d).filter (p d)).map (f d) else []).length ≤ sizeLine)
    (hclos : closureFor scope env = pure cl) (hcell : ∀ y ∈ scope.names, y.2 ≠ .cell) (hkind : scope.kind = .function) (hnames : ∀ y ∈ scope.names, y.2 = .local → scope.names.lookup y.1 = some .local)
    (hs : ∀ x, foldedSetIterable i0 env x = pure x := by intro _; rfl) (hs1 : ∀ env x, foldedSetIterable i1 env x = pure x := by intro _ _; rfl) :
    Ev c A env σ (.ListComp elt [⟨t0, i0, f0, 0⟩, ⟨t1, i1, f1, 0⟩] scope pos) (.lst (ds.flatMap fun d => if p0 d then ((ds1 d).filter (p d)).map (f d) else [])) := fun s l G H S Q E k => by
  rw [eval_ListComp]
  refine wpAny_comprehension_free (use := none) rfl hs hclos hkind hnames (hi s l G H S _ _ fun v nw h' tk e fr n hd => ?_)
  have G1 := G.ext e
  have H1 : Has h' (nw ++ l) := n.append (H.ext e)
  have S1 : Sig c env h' (nw ++ l) σ := S.ext e sub_app
  refine iter_any (s := { s with heap := h', toks := tk }) hA H1 hd he hsm fun I h₂ St It hst e₂ hI => ?_
  refine blockRun (s := { s with heap := h', toks := tk }) (l := nw ++ l) (σ := σ) (τ := τ) (outs := ds.flatMap fun d => if p0 d then ((ds1 d).filter (p d)).map (f d) else []) G1 H1 S1 K e₂ hI (iter_lt It hst) hcell hkind ?_ ?_
  · intro C D2 h₁ tk₁ m B S2 hIC hID e₁ hR
    have hst₁ : St 0 h₁ := It.frame _ _ _ hst (fun o q => e₁ _ o q) (fun q hq => (H1.ext e₂) q hq) (fun q hq => S2.has q hq)
    have loop : codeAny (model c.prog c.w) A (.compLoop (.ListComp elt [⟨t0, i0, f0, 0⟩, ⟨t1, i1, f1, 0⟩] scope pos) 0 (.ref I) (.ref D2) (compEnvC scope cl C env)) (compPost (model c.prog c.w) A E none Q (.ref D2) C) { s with heap := h₁, toks := tk₁ } := by
      refine blockLoop B hA (fun _ _ _ => rfl) rfl rfl It bs p0 (fun d => ((ds1 d).filter (p d)).map (f d)) (turnTwo0 c A elt t0 i0 t1 i1 f0 f1 scope pos (.ref I) (.ref D2) (compEnvC scope cl C env) (hs1 _)) (vb := []) (fun x d hx => by simp at hx) (fun d hd => htgt d hd C) (fun d hd x e hx => ⟨hbs d hd x e hx, by simp⟩)
        (fun d hd => by rw [List.append_nil]; exact hp0 d hd C) (fun d hd hpd => ?_) (s := { s with heap := h₁, toks := tk₁ }) S2 (fun _ h => h) hst₁ hIC hID hI (fun q hq => ne_of_get (H1 q hq) hI) (by simpa using hz) fun h tk' l' ys' m' hx hsub hnew S' hm => ?_
      · rw [List.append_nil]
        exact CP.inner B hA (hbs d hd) (hi1 d hd hpd C) (he1 d hd hpd) (hsm1 d hd hpd) (fun e he => htgt1 d hd hpd e he C) (hbs1 d hd hpd) (fun e he => hp d hd hpd e he C) (fun e he hpe => helt d hd hpd e he hpe C)
      · refine hR h tk' ⟨l', ys', m', S'.ext, hsub, fun q hq => ?_, S'.has, S'.off, S'.list, by simpa using S'.all, S'.ns, B.ne, B.newC, B.newD⟩
        rcases hnew q hq with z | z
        · exact .inl z
        · exact .inr (none_of_ext S2.ext z)
    exact codeAny_compStart_list loop (It.self 0 _ _ _ hst₁ loop)
  · rintro C D2 h tk₁ ⟨l', ys, m, eb, hsub, hnew, hl', hoff, hlist, hall, hns, hne, hnC, hnD⟩
    refine ⟨m, hns, fun h'' hs'' => ?_⟩
    have H'' : Has h'' l' := fun q hq => hs''.extBut _ _ (hoff q hq).1 (hl' q hq)
    have D'' : h''.get? D2 = some (lstO ys) := hs''.extBut _ _ (Ne.symm hne) hlist
    obtain ⟨nw', f1, f2, _, f3⟩ := split_led hnew H''
    have eb' : Ext h' h'' := fun b o q => hs''.extBut b o (fun z => by rw [z] at q; have q' : h'.get? C = some o := q; rw [show h'.get? C = none from hnC] at q'; cases q') (eb b o q)
    refine k (.ref D2) (((D2, lstO ys) :: nw') ++ nw) h'' tk₁ (e.trans eb') ?_ ?_ ?_
    · refine Fre.append (fun q hq => ?_) fr
      rcases List.mem_cons.mp hq with rfl | hq
      · exact none_of_ext e hnD
      · exact none_of_ext e (f1 q hq)
    · refine Has.append (fun q hq => ?_) (n.ext eb')
      rcases List.mem_cons.mp hq with rfl | hq
      · exact D''
      · exact f2 q hq
    · refine .lst (vs := ys) (n := ys.length) (List.mem_append_left _ (List.mem_append_left _ (.head _))) rfl rfl (hall.mono fun q hq => ?_)
      have := f3 q hq
      rcases List.mem_append.mp this with z | z
      · exact List.mem_append_left _ (List.mem_append_left _ (List.mem_cons_of_mem _ z))
      · rcases List.mem_append.mp z with z | z
        · exact List.mem_append_left _ (List.mem_append_right _ z)
        · exact List.mem_append_right _ z
end

/-! ### L11 -/
/-! ## a def's frame -/
structure FrameOk (env : Env) : Prop where
  kind : env.scope.kind = .function
  apart : env.cells.Pairwise fun x y => x.2 ≠ y.2
  above : ∀ n a, (n, a) ∈ env.cells → env.locals < a
def okF (env : Env) (x : Str) : Prop := (env.kindOf x = some .local ∧ env.cells.lookup x = none) ∨ (env.kindOf x = some .cell ∧ (env.cells.lookup x).isSome = true)
def WF (env : Env) (b : Addr) : Prop := b = env.locals ∨ ∃ n, env.cells.lookup n = some b
def look (env : Env) (m cm : Rho) (x : Str) : Option Value := match env.kindOf x with
  | some .local => m x
  | some .cell => cm x
  | _ => none
def ESF (env : Env) (h : Heap) (ρ : Rho) : Prop := ∃ m cm : Rho, h.Ns env.locals m ∧ (∀ n a, env.cells.lookup n = some a → h.IsCell a (cm n)) ∧ ρ = look env m cm

theorem ESF.keep {env : Env} {h h' : Heap} {ρ : Rho} (hE : ESF env h ρ) (e : ∀ b o, WF env b → h.get? b = some o → h'.get? b = some o) : ESF env h' ρ := by
  obtain ⟨m, cm, hn, hc, rfl⟩ := hE
  exact ⟨m, cm, hn.at' fun o q => e _ o (.inl rfl) q, fun n a ha => let ⟨o, ho, r⟩ := hc n a ha; ⟨o, e a o (.inr ⟨n, ha⟩) ho, r⟩, rfl⟩
theorem ESF.alive {env : Env} {h : Heap} {ρ : Rho} {b : Addr} (hE : ESF env h ρ) (hb : WF env b) : ∃ o, h.get? b = some o := by
  obtain ⟨m, cm, hn, hc, rfl⟩ := hE
  rcases hb with rfl | ⟨n, ha⟩
  · obtain ⟨o, _, _, ho, _⟩ := hn; exact ⟨o, ho⟩
  · obtain ⟨o, ho, _⟩ := hc n b ha; exact ⟨o, ho⟩

section
variable {c : Cfg} {A : Around} {env : Env}

theorem frameVars (F : FrameOk env) : Vars c env (okF env) (WF env) (ESF env) where
  load := fun {h ρ x v} hE hx hv A s Q E e q => by
    obtain ⟨m, cm, hn, hc, rfl⟩ := hE
    rcases hx with ⟨hk, hl⟩ | ⟨hk, hl⟩
    · have hv' : m x = some v := by simpa [look, hk] using hv
      exact wpAny_loadName_local F.kind hk (hn.keeps e) hv' q
    · obtain ⟨a, ha⟩ := Option.isSome_iff_exists.mp hl
      have hv' : cm x = some v := by simpa [look, hk] using hv
      exact wpAny_loadName_cell F.kind hk ha (hv' ▸ (hc x a ha).keeps e) q
  cell := fun {h ρ x v a} hE hx hv ha => by
    obtain ⟨m, cm, hn, hc, rfl⟩ := hE
    rcases hx with ⟨hk, hl⟩ | ⟨hk, hl⟩
    · rw [hl] at ha; cases ha
    · have hv' : cm x = some v := by simpa [look, hk] using hv
      exact hv' ▸ hc x a ha
  store := fun {A s ρ x v Q E} hx hE k => by
    obtain ⟨m, cm, hn, hc, rfl⟩ := hE
    rcases hx with ⟨hk, hl⟩ | ⟨hk, hl⟩
    · refine wpAny_storeName_local hk hn (fun h' hn' hs' => k h' _ ⟨_, cm, hn', fun n a ha => (hc n a ha).sameBut hs' (Nat.ne_of_gt (F.above n a (mem_of_lookup ha))), ?_⟩ fun b o hb e => hs'.extBut b o (fun z => hb (.inl z)) e) (by rw [F.kind]; rfl)
      funext y
      by_cases q : y = x
      · subst q; simp [upd, look, hk]
      · simp only [upd, if_neg q, look]
    · obtain ⟨a, ha⟩ := Option.isSome_iff_exists.mp hl
      have hLa := F.above x a (mem_of_lookup ha)
      refine wpAny_storeName_cell F.kind hk ha (hc x a ha) fun h' hc' hs' => k h' s.toks ⟨m, fun y => if y = x then some v else cm y, hn.sameBut hs' (Nat.ne_of_lt hLa), fun n b hb => ?_, ?_⟩ fun b o hb e => hs'.extBut b o (fun z => hb (.inr ⟨x, z ▸ ha⟩)) e
      · show h'.IsCell b (if n = x then some v else cm n)
        by_cases q : n = x
        · subst q
          rw [ha] at hb; cases hb
          simpa using hc'
        · rw [if_neg q]
          exact (hc n b hb).sameBut hs' fun e => q (name_of_addr F.apart (mem_of_lookup hb) (e ▸ mem_of_lookup ha))
      · funext y
        by_cases q : y = x
        · subst q; simp [upd, look, hk]
        · simp only [upd, if_neg q, look]
  keep := fun hE e => hE.keep e
  alive := fun hE hb => hE.alive hb

abbrev Own := Option (Str × List D)
abbrev lsO (vs : List Value) (n : Nat) : Obj := { cls := .type "list", data := .seq vs.toArray n }
def OwnAt (s₀ : Shared) (env : Env) (ρ : Rho) (l fx : Led) (h : Heap) : Own → Prop
  | none => True
  | some (x, ds) => ∃ q vs n, ρ x = some (.ref q) ∧ h.get? q = some (lsO vs n) ∧ DAll l vs ds ∧ s₀.heap.get? q = none ∧ ¬ WF env q ∧ (∀ p ∈ l, p.1 ≠ q) ∧ ∀ p ∈ fx, p.1 ≠ q

/-- the state of a def's frame: s₀, l₀: where the call began; l: what is known of the data; fx: what else must stay; own: the one list that the frame alone holds -/
structure Fst (env : Env) (s₀ : Shared) (l₀ l fx : Led) (own : Own) (σ : Sg) (s : Shared) : Prop where
  same : ∃ h tk, s = { s₀ with heap := h, toks := tk }
  keep : Ext s₀.heap s.heap
  wn : ∀ b, WF env b → s₀.heap.get? b = none
  has : Has s.heap l
  sub : ∀ p ∈ l₀, p ∈ l
  new : ∀ p ∈ l, p ∈ l₀ ∨ s₀.heap.get? p.1 = none
  off : ∀ p ∈ l, ¬ WF env p.1
  hasF : Has s.heap fx
  offF : ∀ q ∈ fx, ¬ WF env q.1 ∧ ∀ p ∈ l, p.1 ≠ q.1
  ok : ∀ x d, σ.lookup x = some d → okF env x
  es : ∃ ρ, ESF env s.heap ρ ∧ (∀ x d, σ.lookup x = some d → ∃ v, ρ x = some v ∧ DIn l v d) ∧ OwnAt s₀ env ρ l fx s.heap own

variable {s₀ s : Shared} {l₀ l fx : Led} {own : Own} {σ : Sg}

theorem Fst.sig (F : FrameOk env) (S : Fst env s₀ l₀ l fx own σ s) : Sig c env s.heap l σ := fun x d hx => by
  obtain ⟨ρ, hE, hσ, _⟩ := S.es
  obtain ⟨v, hv, hd⟩ := hσ x d hx
  exact ⟨v, hd, (frameVars F).load hE (S.ok x d hx) hv, fun a ha => (frameVars (c := c) F).cell hE (S.ok x d hx) hv ha⟩

theorem Fst.grow (S : Fst env s₀ l₀ l fx own σ s) {h' : Heap} {tk : Nat} {nw : Led} (e : Ext s.heap h') (f : Fre s.heap nw) (n : Has h' nw) : Fst env s₀ l₀ (nw ++ l) fx own σ { s with heap := h', toks := tk } where
  same := by obtain ⟨h, t, rfl⟩ := S.same; exact ⟨h', tk, rfl⟩
  keep := S.keep.trans e
  wn := S.wn
  has := n.append (S.has.ext e)
  sub := fun p hp => List.mem_append_right _ (S.sub p hp)
  new := fun p hp => (List.mem_append.mp hp).elim (fun z => .inr (none_of_ext S.keep (f p z))) (S.new p)
  off := fun p hp => (List.mem_append.mp hp).elim (fun z w => by
    obtain ⟨ρ, hE, _⟩ := S.es
    obtain ⟨o, ho⟩ := hE.alive w
    have := f p z
    rw [ho] at this; cases this) (S.off p)
  hasF := S.hasF.ext e
  offF := fun q hq => ⟨(S.offF q hq).1, fun p hp => (List.mem_append.mp hp).elim (fun z => Ne.symm (ne_of_get (S.hasF q hq) (f p z))) ((S.offF q hq).2 p)⟩
  ok := S.ok
  es := by
    obtain ⟨ρ, hE, hσ, ho⟩ := S.es
    refine ⟨ρ, hE.keep fun b o _ q => e b o q, fun x d hx => let ⟨v, a, b⟩ := hσ x d hx; ⟨v, a, b.mono sub_app⟩, ?_⟩
    cases own with
    | none => trivial
    | some z =>
      obtain ⟨q, vs, n', h1, h2, h3, h4, h5, h6, h7⟩ := ho
      exact ⟨q, vs, n', h1, e _ _ h2, h3.mono sub_app, h4, h5, fun p hp => (List.mem_append.mp hp).elim (fun z => Ne.symm (ne_of_get h2 (f p z))) (h6 p), h7⟩

/-- a store into the frame -/
theorem Fst.bind (S : Fst env s₀ l₀ l fx own σ s) {h' : Heap} {tk : Nat} {ρ ρ' : Rho} {bs : Sg} (hE0 : ESF env s.heap ρ) (hσ0 : ∀ x d, σ.lookup x = some d → ∃ v, ρ x = some v ∧ DIn l v d) (ho : OwnAt s₀ env ρ l fx s.heap own)
    (hE : ESF env h' ρ') (hk : ∀ b o, ¬ WF env b → s.heap.get? b = some o → h'.get? b = some o) (hb : Bound l bs ρ ρ') (hok : ∀ x d, bs.lookup x = some d → okF env x) (hown : ∀ y ds, own = some (y, ds) → bs.lookup y = none) :
    Fst env s₀ l₀ l fx own (bs ++ σ) { s with heap := h', toks := tk } where
  same := by obtain ⟨h, t, rfl⟩ := S.same; exact ⟨h', tk, rfl⟩
  keep := fun b o q => hk b o (fun w => by rw [S.wn b w] at q; cases q) (S.keep b o q)
  wn := S.wn
  has := fun p hp => hk _ _ (S.off p hp) (S.has p hp)
  sub := S.sub
  new := S.new
  off := S.off
  hasF := fun p hp => hk _ _ (S.offF p hp).1 (S.hasF p hp)
  offF := S.offF
  ok := fun x d hx => by
    rcases lookup_append_some hx with hx | ⟨_, hx⟩
    · exact hok x d hx
    · exact S.ok x d hx
  es := by
    refine ⟨ρ', hE, fun x d hx => ?_, ?_⟩
    · rcases lookup_append_some hx with hx | ⟨h0, hx⟩
      · exact hb.new x d hx
      · rw [hb.old x h0]; exact hσ0 x d hx
    · cases own with
      | none => trivial
      | some z =>
        obtain ⟨q, vs, n', h1, h2, h3, h4, h5, h6, h7⟩ := ho
        exact ⟨q, vs, n', by rw [hb.old _ (hown _ _ rfl)]; exact h1, hk _ _ h5 h2, h3, h4, h5, h6, h7⟩

theorem Fst.weak (S : Fst env s₀ l₀ l fx own σ s) {σ' : Sg} (h : ∀ x d, σ'.lookup x = some d → σ.lookup x = some d) : Fst env s₀ l₀ l fx own σ' s :=
  { S with ok := fun x d hx => S.ok x d (h x d hx), es := let ⟨ρ, hE, hσ, ho⟩ := S.es; ⟨ρ, hE, fun x d hx => hσ x d (h x d hx), ho⟩ }

/-- the own list is an ordinary datum from here on -/
theorem Fst.freeze {x : Str} {ds : List D} (S : Fst env s₀ l₀ l fx (some (x, ds)) σ s) (hx : okF env x) : ∃ q, Fst env s₀ l₀ (q :: l) fx none ((x, .lst ds) :: σ) s := by
  obtain ⟨ρ, hE, hσ, q, vs, n, h1, h2, h3, h4, h5, h6, h7⟩ := S.es
  refine ⟨(q, lsO vs n), S.same, S.keep, S.wn, fun p hp => ?_, fun p hp => List.mem_cons_of_mem _ (S.sub p hp), fun p hp => ?_, fun p hp => ?_, S.hasF, fun p hp => ⟨(S.offF p hp).1, fun p' hp' => ?_⟩, fun y d hy => ?_, ρ, hE, fun y d hy => ?_, trivial⟩
  · rcases List.mem_cons.mp hp with rfl | hp
    · exact h2
    · exact S.has p hp
  · rcases List.mem_cons.mp hp with rfl | hp
    · exact .inr h4
    · exact S.new p hp
  · rcases List.mem_cons.mp hp with rfl | hp
    · exact h5
    · exact S.off p hp
  · rcases List.mem_cons.mp hp' with rfl | hp'
    · exact Ne.symm (h7 p hp)
    · exact (S.offF p hp).2 p' hp'
  · rw [List.lookup_cons] at hy
    split at hy
    · rename_i z
      rw [beq_iff_eq.mp z]; exact hx
    · exact S.ok y d hy
  · rw [List.lookup_cons] at hy
    split at hy
    · rename_i z
      have := beq_iff_eq.mp z
      subst this
      cases hy
      exact ⟨_, h1, .lst (.head _) rfl rfl (h3.mono fun p hp => List.mem_cons_of_mem _ hp)⟩
    · obtain ⟨v, a, b⟩ := hσ y d hy
      exact ⟨v, a, b.mono fun p hp => List.mem_cons_of_mem _ hp⟩
end

/-! ### L12 -/
/-! ## statements -/
structure Ret (s₀ : Shared) (l₀ l : Led) (s : Shared) : Prop where
  same : ∃ h tk, s = { s₀ with heap := h, toks := tk }
  keep : Ext s₀.heap s.heap
  has : Has s.heap l
  new : ∀ p ∈ l, p ∈ l₀ ∨ s₀.heap.get? p.1 = none

def Ex (c : Cfg) (A : Around) (env : Env) (T : Sem Flow) (own : Own) (σ : Sg) (N : Own → Sg → Prop) (R : D → Prop) : Prop :=
  ∀ (s₀ : Shared) (l₀ l fx : Led) (s : Shared) (Q : Flow → Shared → Prop) (E : Value → Shared → Prop), c.G s₀.heap → Fst env s₀ l₀ l fx own σ s →
    (∀ own' σ' l' s', N own' σ' → (∀ p ∈ l, p ∈ l') → Fst env s₀ l₀ l' fx own' σ' s' → Q .next s') →
    (∀ d v l' s', R d → Ret s₀ l₀ l' s' → DIn l' v d → Q (.ret v) s') → wpAny (model c.prog c.w) A T Q E s

section
variable {c : Cfg} {A : Around} {env : Env} {own : Own} {σ : Sg} {N : Own → Sg → Prop} {R : D → Prop}

theorem Fst.ret {env : Env} {s₀ s : Shared} {l₀ l fx : Led} (S : Fst env s₀ l₀ l fx own σ s) : Ret s₀ l₀ l s := ⟨S.same, S.keep, S.has, S.new⟩
theorem Fst.G {env : Env} {s₀ s : Shared} {l₀ l fx : Led} (S : Fst env s₀ l₀ l fx own σ s) (G : c.G s₀.heap) : c.G s.heap := G.ext S.keep

theorem Ex.mono {T : Sem Flow} {N' : Own → Sg → Prop} {R' : D → Prop} (h : Ex c A env T own σ N R) (hN : ∀ o s, N o s → N' o s) (hR : ∀ d, R d → R' d) : Ex c A env T own σ N' R' :=
  fun s₀ l₀ l fx s Q E G S k1 k2 => h s₀ l₀ l fx s Q E G S (fun o' σ' l' s' n => k1 o' σ' l' s' (hN _ _ n)) fun d v l' s' r => k2 d v l' s' (hR d r)
theorem Ex.weak {T : Sem Flow} {σ' : Sg} (h : Ex c A env T own σ' N R) (hs : ∀ x d, σ'.lookup x = some d → σ.lookup x = some d) : Ex c A env T own σ N R :=
  fun s₀ l₀ l fx s Q E G S k1 k2 => h s₀ l₀ l fx s Q E G (S.weak hs) k1 k2
theorem Ex.freeze {T : Sem Flow} {x : Str} {ds : List D} (h : Ex c A env T none ((x, .lst ds) :: σ) N R) (hx : okF env x) : Ex c A env T (some (x, ds)) σ N R :=
  fun s₀ l₀ l fx s Q E G S k1 k2 => by
    obtain ⟨q, S'⟩ := S.freeze hx
    exact h s₀ l₀ (q :: l) fx s Q E G S' (fun o' σ' l' s' n hl => k1 o' σ' l' s' n fun p hp => hl p (List.mem_cons_of_mem _ hp)) fun d v l' s' r => k2 d v l' s' r

theorem Ex.nil (h : N own σ) : Ex c A env (execs [] env) own σ N R := fun s₀ l₀ l fx s Q E G S k1 k2 => wpAny_execs_nil (k1 own σ l s h (fun _ h => h) S)
theorem Ex.cons {st : Stmt} {rest : List Stmt} {N₁ : Own → Sg → Prop} (h : Ex c A env (exec st env) own σ N₁ R) (hr : ∀ o' σ', N₁ o' σ' → Ex c A env (execs rest env) o' σ' N R) : Ex c A env (execs (st :: rest) env) own σ N R :=
  fun s₀ l₀ l fx s Q E G S k1 k2 => wpAny_execs_cons (h s₀ l₀ l fx s _ E G S (fun o' σ' l' s' n hl S' => hr o' σ' n s₀ l₀ l' fx s' Q E G S' (fun o'' σ'' l'' s'' n' hl' => k1 o'' σ'' l'' s'' n' fun p hp => hl' p (hl p hp)) k2) fun d v l' s' r rt hd => k2 d v l' s' r rt hd)
/-- the next statement makes one state -/
theorem Ex.then {st : Stmt} {rest : List Stmt} {o₁ : Own} {σ₁ : Sg} (h : Ex c A env (exec st env) own σ (fun o s => o = o₁ ∧ s = σ₁) R) (hr : Ex c A env (execs rest env) o₁ σ₁ N R) : Ex c A env (execs (st :: rest) env) own σ N R :=
  Ex.cons h fun o' σ' ⟨h1, h2⟩ => h1 ▸ h2 ▸ hr

theorem Ex.ret (F : FrameOk env) {e : Expr} {pos : Pos} {d : D} (h : Ev c A env σ e d) (hr : R d) : Ex c A env (exec (.Return (some e) pos) env) own σ N R :=
  fun s₀ l₀ l fx s Q E G S k1 k2 => wpAny_Return_some (h s l (S.G G) S.has (S.sig F) _ _ fun v nw h' tk e f n hd => k2 d v (nw ++ l) _ hr (S.grow e f n).ret hd)

theorem Ex.if_ (F : FrameOk env) {t : Expr} {body orelse : List Stmt} {pos : Pos} {b : Bool} (ht : Tr c A env σ t b) (h1 : b = true → Ex c A env (execs body env) own σ N R) (h2 : b = false → Ex c A env (execs orelse env) own σ N R) :
    Ex c A env (exec (.If t body orelse pos) env) own σ N R :=
  fun s₀ l₀ l fx s Q E G S k1 k2 => wpAny_If (ht s l (S.G G) S.has (S.sig F) _ _ fun h' tk e => by
    have S' : Fst env s₀ l₀ l fx own σ { s with heap := h', toks := tk } := S.grow (nw := []) e .nil .nil
    cases b with
    | true => exact h1 rfl s₀ l₀ l fx _ Q E G S' k1 k2
    | false => exact h2 rfl s₀ l₀ l fx _ Q E G S' k1 k2)
/-- a test that must fail: what is within is not reached -/
theorem Ex.skip (F : FrameOk env) {t : Expr} {body : List Stmt} {pos : Pos} {b : Bool} (ht : Tr c A env σ t b) (hb : b = false) (hN : N own σ) : Ex c A env (exec (.If t body [] pos) env) own σ N R :=
  Ex.if_ F ht (fun h => by rw [hb] at h; cases h) fun _ => Ex.nil hN
theorem Ex.take (F : FrameOk env) {t : Expr} {body orelse : List Stmt} {pos : Pos} {b : Bool} (ht : Tr c A env σ t b) (hb : b = true) (h : Ex c A env (execs body env) own σ N R) : Ex c A env (exec (.If t body orelse pos) env) own σ N R :=
  Ex.if_ F ht (fun _ => h) fun h => by rw [hb] at h; cases h
theorem Ex.over (F : FrameOk env) {t : Expr} {body orelse : List Stmt} {pos : Pos} {b : Bool} (ht : Tr c A env σ t b) (hb : b = false) (h : Ex c A env (execs orelse env) own σ N R) : Ex c A env (exec (.If t body orelse pos) env) own σ N R :=
  Ex.if_ F ht (fun h => by rw [hb] at h; cases h) fun _ => h

theorem Ex.assign (F : FrameOk env) {x : Str} {px pos : Pos} {e : Expr} {d : D} (h : Ev c A env σ e d) (hx : okF env x) (hs : swapsWith e (some (.Name x px)) pos.line env = pure false) (ho : ∀ y ds, own = some (y, ds) → ¬ y = x) :
    Ex c A env (exec (.Assign [.Name x px] e pos) env) own σ (fun o s => o = own ∧ s = (x, d) :: σ) R :=
  fun s₀ l₀ l fx s Q E G S k1 k2 => wpAny_Assign_Name (h s l (S.G G) S.has (S.sig F) _ _ fun v nw h' tk e f n hd => by
    have S' := S.grow (tk := tk) e f n
    obtain ⟨ρ, hE, hσ, hown⟩ := S'.es
    refine (frameVars (c := c) F).store (s := { s with heap := h', toks := tk }) hx hE fun h'' tk' hE' hk => ?_
    refine k1 own ((x, d) :: σ) (nw ++ l) _ ⟨rfl, rfl⟩ sub_app ?_
    refine S'.bind (bs := [(x, d)]) hE hσ hown hE' hk ⟨fun y dd hy => ?_, fun y hy => ?_⟩ (fun y dd hy => ?_) fun y ds he => ?_
    · simp only [List.lookup_cons, List.lookup_nil] at hy
      split at hy
      · rename_i q
        have := beq_iff_eq.mp q
        subst this
        cases hy
        exact ⟨v, by simp [upd], hd⟩
      · cases hy
    · simp only [List.lookup_cons, List.lookup_nil] at hy
      split at hy
      · cases hy
      · rename_i q
        have : ¬ y = x := by simpa using q
        simp [upd, this]
    · simp only [List.lookup_cons, List.lookup_nil] at hy
      split at hy
      · rename_i q
        rw [beq_iff_eq.mp q]; exact hx
      · cases hy
    · have := ho y ds he
      simp only [List.lookup_cons, List.lookup_nil]
      rw [show (y == x) = false by simpa using this]) hs

/-- an empty list that the frame alone holds -/
theorem Ex.ownNil (F : FrameOk env) {x : Str} {px pos lp : Pos} (hx : okF env x) (hn : ∀ d, σ.lookup x ≠ some d) : Ex c A env (exec (.Assign [.Name x px] (.List [] lp) pos) env) none σ (fun o s => o = some (x, []) ∧ s = σ) R :=
  fun s₀ l₀ l fx s Q E G S k1 k2 => wpAny_Assign_Name (by
    refine List_ (spliced_nil (wpAny_newObj_type ?_ (by show (0 : Nat) ≤ sizeLine; exact Nat.zero_le _)))
    have e : Ext s.heap (s.heap.push { cls := .type "list", dict := none, data := .seq ([] : List Value).toArray }) := Ext.push _ _
    have S' := S.grow (tk := s.toks) (nw := []) e .nil .nil
    obtain ⟨ρ, hE, hσ, _⟩ := S'.es
    have nq : s.heap.get? s.heap.objs.size = none := fresh_size _
    refine (frameVars (c := c) F).store (s := { s with heap := s.heap.push { cls := .type "list", dict := none, data := .seq ([] : List Value).toArray } }) hx hE fun h'' tk' hE' hk => ?_
    refine k1 (some (x, [])) σ l _ ⟨rfl, rfl⟩ (fun _ h => h) ?_
    have hW : ¬ WF env s.heap.objs.size := fun w => by
      obtain ⟨ρ0, hE0, _⟩ := S.es
      obtain ⟨o, ho⟩ := hE0.alive w
      rw [nq] at ho; cases ho
    have base : Fst env s₀ l₀ l fx none σ { s with heap := h'', toks := tk' } := by
      refine ⟨?_, fun b o q => hk b o (fun w => by rw [S.wn b w] at q; cases q) (S'.keep b o q), S.wn, fun p hp => hk _ _ (S.off p hp) (S'.has p hp), S.sub, S.new, S.off, fun p hp => hk _ _ (S.offF p hp).1 (S'.hasF p hp), S.offF, S.ok, upd ρ x _, hE', fun y d hy => ?_, trivial⟩
      · obtain ⟨h, t, rfl⟩ := S.same; exact ⟨h'', tk', rfl⟩
      · obtain ⟨v, a, b⟩ := hσ y d hy
        have : ¬ y = x := fun z => hn d (z ▸ hy)
        exact ⟨v, by simp [upd, this, a], b⟩
    refine { base with es := ?_ }
    refine ⟨upd ρ x (.ref s.heap.objs.size), hE', fun y d hy => ?_, s.heap.objs.size, [], 0, by simp [upd], hk _ _ hW (Heap.get?_push_size _ rfl), .nil, none_of_ext S.keep nq, hW, fun p hp => ne_of_get (S.has p hp) nq, fun p hp => ne_of_get (S.hasF p hp) nq⟩
    obtain ⟨v, a, b⟩ := hσ y d hy
    have : ¬ y = x := fun z => hn d (z ▸ hy)
    exact ⟨v, by simp [upd, this, a], b⟩)

/-- a target of several names -/
theorem Ex.assignT (F : FrameOk env) (hA : A.handled = none) {elts : List Expr} {n : Nat} {tp pos : Pos} {e : Expr} {d : D} {bs : Sg} (h : Ev c A env σ e d) (ht : Tgt c env (WF env) (ESF env) (.Tuple elts n tp) d bs) (hok : ∀ x d, bs.lookup x = some d → okF env x)
    (ho : ∀ y ds, own = some (y, ds) → bs.lookup y = none) (hs : swapsWithSole [.Tuple elts n tp] e pos.line env = pure false) (hw : swappedStores [.Tuple elts n tp] e env = pure none) :
    Ex c A env (exec (.Assign [.Tuple elts n tp] e pos) env) own σ (fun o s => o = own ∧ s = bs ++ σ) R :=
  fun s₀ l₀ l fx s Q E G S k1 k2 => Assign_Tuple (h s l (S.G G) S.has (S.sig F) _ _ fun v nw h' tk e f n hd => by
    have S' := S.grow (tk := tk) e f n
    obtain ⟨ρ, hE, hσ, hown⟩ := S'.es
    exact ht A _ (nw ++ l) v ρ _ _ hA S'.has S'.off hd hE fun h'' tk' ρ' hE' hk hb => k1 own (bs ++ σ) (nw ++ l) _ ⟨rfl, rfl⟩ sub_app (S'.bind hE hσ hown hE' hk hb hok ho)) hs hw

theorem zip_rev {α β : Type} : ∀ (xs : List α) (ys : List β), xs.length = ys.length → xs.reverse.zip ys.reverse = (xs.zip ys).reverse
  | [], [], _ => rfl
  | x :: xs, y :: ys, h => by
    have h' : xs.length = ys.length := by simpa using h
    rw [List.reverse_cons, List.reverse_cons, List.zip_append (by simpa using h'), zip_rev xs ys h']
    simp
/-- names stored in the reverse order -/
theorem binds_rev (F : FrameOk env) : ∀ (xs : List Str) (vs : List Value) (ds : List D) (l : Led), DAll l vs ds → xs.length = ds.length → (∀ x ∈ xs, okF env x) → (∀ p ∈ l, ¬ WF env p.1) →
    ∀ (acc : Sg) (ρ₀ : Rho) (A : Around) (s : Shared) (ρ : Rho) (Q : Unit → Shared → Prop) (E : Value → Shared → Prop), Bound l acc ρ₀ ρ → Has s.heap l → ESF env s.heap ρ →
      (∀ h' tk ρ', ESF env h' ρ' → (∀ b o, ¬ WF env b → s.heap.get? b = some o → h'.get? b = some o) → Bound l ((xs.zip ds).reverse ++ acc) ρ₀ ρ' → Q () { s with heap := h', toks := tk }) →
      wpAny (model c.prog c.w) A (assignInOrder (xs.map fun n => bindName env n) vs) Q E s
  | [], vs, ds, l, hv, hl, hok, hW, acc, ρ₀, A, s, ρ, Q, E, hb, H, hE, k => by
    exact assignInOrder_nil (k s.heap s.toks ρ hE (fun _ _ _ e => e) (by simpa using hb))
  | x :: xs, [], ds, l, hv, hl, hok, hW, acc, ρ₀, A, s, ρ, Q, E, hb, H, hE, k => by
    cases hv; simp at hl
  | x :: xs, v :: vs, [], l, hv, hl, hok, hW, acc, ρ₀, A, s, ρ, Q, E, hb, H, hE, k => by
    cases hv
  | x :: xs, v :: vs, d :: ds, l, hv, hl, hok, hW, acc, ρ₀, A, s, ρ, Q, E, hb, H, hE, k => by
    cases hv with
    | cons hd hr =>
      refine assignInOrder_cons (wpAny_bindName ((frameVars (c := c) F).store (hok x (.head _)) hE fun h' tk hE' hk => ?_))
      have hb1 : Bound l [(x, d)] ρ (upd ρ x v) := by
        refine ⟨fun y dd hy => ?_, fun y hy => ?_⟩
        · simp only [List.lookup_cons, List.lookup_nil] at hy
          split at hy
          · rename_i q
            have := beq_iff_eq.mp q
            subst this
            cases hy
            exact ⟨v, by simp [upd], hd⟩
          · cases hy
        · simp only [List.lookup_cons, List.lookup_nil] at hy
          split at hy
          · cases hy
          · rename_i q
            have : ¬ y = x := by simpa using q
            simp [upd, this]
      refine binds_rev F xs vs ds l hr (by simpa using hl) (fun y hy => hok y (List.mem_cons_of_mem _ hy)) hW ([(x, d)] ++ acc) ρ₀ A { s with heap := h', toks := tk } _ Q E (hb.trans hb1) (fun p hp => hk _ _ (hW p hp) (H p hp)) hE' fun h'' tk' ρ' hE'' hk' hb'' => ?_
      exact k h'' tk' ρ' hE'' (fun b o w e => hk' b o w (hk b o w e)) (by simpa using hb'')

theorem Ex.assignSw (F : FrameOk env) (hA : A.handled = none) {elts : List Expr} {n : Nat} {tp pos : Pos} {e : Expr} {ds : List D} {xs : List Str} (h : Ev c A env σ e (.tup ds)) (hl : xs.length = ds.length) (hok : ∀ x ∈ xs, okF env x)
    (ho : ∀ y es, own = some (y, es) → (xs.zip ds).lookup y = none) (hs : swapsWithSole [.Tuple elts n tp] e pos.line env = pure false) (hw : swappedStores [.Tuple elts n tp] e env = pure (some xs)) :
    Ex c A env (exec (.Assign [.Tuple elts n tp] e pos) env) own σ (fun o s => o = own ∧ s = (xs.zip ds) ++ σ) R :=
  fun s₀ l₀ l fx s Q E G S k1 k2 => Assign_Tuple_swapped (h s l (S.G G) S.has (S.sig F) _ _ fun v nw h' tk e f n hd => by
    have S' := S.grow (tk := tk) e f n
    cases hd with
    | tup hm hc hdd hv =>
      rename_i a o vs m
      have hT : IsTup h' a vs.toArray := ⟨o, S'.has _ hm, hc, m, hdd⟩
      have hvl := hv.length
      have en : xs.length = vs.toArray.size := by simp [hvl, hl]
      rw [en]
      refine unpackItems_tuple (s := { s with heap := h', toks := tk }) hA hT fun h₁ hx => ?_
      have e₁ : Ext h' h₁ := fun b o e => hx b o (Nat.ne_of_lt (Heap.lt_size e)) e
      have S₁ : Fst env s₀ l₀ (nw ++ l) fx own σ { s with heap := h₁, toks := tk } := S'.grow (nw := []) e₁ .nil .nil
      obtain ⟨ρ, hE, hσ, hown⟩ := S₁.es
      have hrev : DAll (nw ++ l) vs.toArray.toList.reverse ds.reverse := by simpa using hv.reverse
      refine binds_rev (c := c) F xs.reverse vs.toArray.toList.reverse ds.reverse (nw ++ l) hrev (by simpa using hl) (fun x hx => hok x (by simpa using hx)) S₁.off [] ρ A { s with heap := h₁, toks := tk } ρ _ _ .refl S₁.has hE fun h'' tk' ρ' hE' hk hb => ?_
      have ez : (xs.reverse.zip ds.reverse).reverse = xs.zip ds := by
        rw [zip_rev xs ds hl, List.reverse_reverse]
      rw [ez, List.append_nil] at hb
      refine k1 own ((xs.zip ds) ++ σ) (nw ++ l) _ ⟨rfl, rfl⟩ sub_app (S₁.bind hE hσ hown hE' hk hb (fun x d hx => hok x ?_) ho)
      have := mem_of_lookup hx
      exact (List.of_mem_zip this).1) hs hw
end

/-! ### L13 -/
theorem forRun {prog : Program} {w : World} {A : Around} {s : Shared} {R : Result → Shared → Prop} {target : Expr} {it : Value} {body orelse : List Stmt} {env : Env} (I : Nat → Shared → Prop)
    (turn : ∀ n s, I n s → wpAny (model prog w) A (pyNext it) (fun r s₁ => match r with
      | none => wpAny (model prog w) A (execs orelse env) (fun f s₃ => R (.ok f) s₃) (notedBy (model prog w) A env fun e s' => R (.error e) s') s₁
      | some v => wpAny (model prog w) A (letOwnedTupleGo target it v) (fun _ s₁' => wpAny (model prog w) A (assign target env v) (fun _ s₂ => wpAny (model prog w) A (execs body env) (fun f s₃ => match f with
          | .next | .cont => ∃ m, m < n ∧ I m s₃
          | .brk => R (.ok .next) s₃
          | .ret v => R (.ok (.ret v)) s₃) (notedBy (model prog w) A env fun e s' => R (.error e) s') s₂) (notedBy (model prog w) A env fun e s' => R (.error e) s') s₁') (notedBy (model prog w) A env fun e s' => R (.error e) s') s₁) (notedBy (model prog w) A env fun e s' => R (.error e) s') s)
    (n : Nat) (h : I n s) : codeAny (model prog w) A (.forLoop target it body orelse env) R s := by
  refine codeAny_loop' rfl I (fun n s hI => ?_) n h
  show wpAny _ A ((forTurn target it body orelse env).onRaise (fun x => do noteFrame x env; theTreesLotGoes x)) _ _ s
  refine wpAny_noted ?_
  simp only [forTurn]
  refine wpAny_bind (wpAny_standAt (wpAny_bind (wpAny_onRaise (wpAny_mono (turn n s hI) (fun r s₁ h₁ => ?_) fun _ _ h' => wpAny_standAt h'))))
  cases r with
  | none => exact wpAny_pure (.inr ⟨rfl, codeAny_block h₁⟩)
  | some v =>
    refine wpAny_bind (wpAny_mono h₁ (fun _ s₁' h₁' => wpAny_bind (wpAny_mono h₁' (fun _ s₂ h₂ => wpAny_bind (wpAny_mono h₂ (fun f s₃ h₃ => ?_) fun _ _ h' => h')) fun _ _ h' => h')) fun _ _ h' => h')
    cases f with
    | next => exact wpAny_pure (.inl ⟨rfl, h₃⟩)
    | cont => exact wpAny_pure (.inl ⟨rfl, h₃⟩)
    | brk => exact wpAny_pure h₃
    | ret v => exact wpAny_pure h₃

section
variable {c : Cfg} {A : Around} {env : Env} {own : Own} {σ : Sg} {N : Own → Sg → Prop} {R : D → Prop}

theorem Fst.addfx {s₀ s : Shared} {l₀ l fx : Led} (S : Fst env s₀ l₀ l fx own σ s) {I : Addr} {o : Obj} {h' : Heap} {tk : Nat} (e : Ext s.heap h') (hI : s.heap.get? I = none) (ho : h'.get? I = some o) : Fst env s₀ l₀ l ((I, o) :: fx) own σ { s with heap := h', toks := tk } := by
  have S' : Fst env s₀ l₀ l fx own σ { s with heap := h', toks := tk } := S.grow (nw := []) e .nil .nil
  have hW : ¬ WF env I := fun w => by
    obtain ⟨ρ0, hE0, _⟩ := S.es
    obtain ⟨o, ho⟩ := hE0.alive w
    rw [hI] at ho; cases ho
  refine { S' with hasF := fun p hp => ?_, offF := fun p hp => ?_, es := ?_ }
  · rcases List.mem_cons.mp hp with rfl | hp
    · exact ho
    · exact S'.hasF p hp
  · rcases List.mem_cons.mp hp with rfl | hp
    · exact ⟨hW, fun p hp => ne_of_get (S.has p hp) hI⟩
    · exact S'.offF p hp
  · obtain ⟨ρ, hE, hσ, hown⟩ := S.es
    refine ⟨ρ, hE.keep fun b o _ q => e b o q, hσ, ?_⟩
    cases own with
    | none => trivial
    | some z =>
      obtain ⟨q, vs, n', h1, h2, h3, h4, h5, h6, h7⟩ := hown
      exact ⟨q, vs, n', h1, e _ _ h2, h3, h4, h5, h6, fun p hp => by
        rcases List.mem_cons.mp hp with rfl | hp
        · exact Ne.symm (ne_of_get h2 hI)
        · exact h7 p hp⟩

theorem Fst.butfx {s₀ s : Shared} {l₀ l fx : Led} {I : Addr} {o : Obj} (S : Fst env s₀ l₀ l ((I, o) :: fx) own σ s) (hI : s₀.heap.get? I = none) (hfx : ∀ p ∈ fx, p.1 ≠ I) {h' : Heap} {tk : Nat} (e : But I s.heap h') : Fst env s₀ l₀ l fx own σ { s with heap := h', toks := tk } where
  same := by obtain ⟨h, t, rfl⟩ := S.same; exact ⟨h', tk, rfl⟩
  keep := fun b o q => e b o (fun z => by rw [z, hI] at q; cases q) (S.keep b o q)
  wn := S.wn
  has := fun p hp => e _ _ ((S.offF (I, o) (.head _)).2 p hp) (S.has p hp)
  sub := S.sub
  new := S.new
  off := S.off
  hasF := fun p hp => e _ _ (hfx p hp) (S.hasF p (List.mem_cons_of_mem _ hp))
  offF := fun p hp => S.offF p (List.mem_cons_of_mem _ hp)
  ok := S.ok
  es := by
    obtain ⟨ρ, hE, hσ, hown⟩ := S.es
    refine ⟨ρ, hE.keep fun b o w q => e b o (fun z => (S.offF (I, _) (.head _)).1 (z ▸ w)) q, hσ, ?_⟩
    cases own with
    | none => trivial
    | some z =>
      obtain ⟨q, vs, n', h1, h2, h3, h4, h5, h6, h7⟩ := hown
      exact ⟨q, vs, n', h1, e _ _ (Ne.symm (h7 (I, o) (.head _))) h2, h3, h4, h5, h6, fun p hp => h7 p (List.mem_cons_of_mem _ hp)⟩
theorem Fst.turnfx {s₀ s : Shared} {l₀ l fx : Led} {I : Addr} {o o' : Obj} (S : Fst env s₀ l₀ l ((I, o) :: fx) own σ s) (hI : s₀.heap.get? I = none) (hfx : ∀ p ∈ fx, p.1 ≠ I) {h' : Heap} {tk : Nat} (e : But I s.heap h') (ho : h'.get? I = some o') : Fst env s₀ l₀ l ((I, o') :: fx) own σ { s with heap := h', toks := tk } := by
  have S' : Fst env s₀ l₀ l fx own σ { s with heap := h', toks := tk } := S.butfx hI hfx e
  refine { S' with hasF := fun p hp => ?_, offF := fun p hp => ?_, es := ?_ }
  · rcases List.mem_cons.mp hp with rfl | hp
    · exact ho
    · exact S'.hasF p hp
  · rcases List.mem_cons.mp hp with rfl | hp
    · exact S.offF (I, o) (.head _)
    · exact S'.offF p hp
  · obtain ⟨ρ, hE, hσ, hown⟩ := S.es
    refine ⟨ρ, hE.keep fun b o w q => e b o (fun z => (S.offF (I, _) (.head _)).1 (z ▸ w)) q, hσ, ?_⟩
    cases own with
    | none => trivial
    | some z =>
      obtain ⟨q, vs, n', h1, h2, h3, h4, h5, h6, h7⟩ := hown
      exact ⟨q, vs, n', h1, e _ _ (Ne.symm (h7 (I, o) (.head _))) h2, h3, h4, h5, h6, fun p hp => by
        rcases List.mem_cons.mp hp with rfl | hp
        · exact h7 (I, o) (.head _)
        · exact h7 p (List.mem_cons_of_mem _ hp)⟩

theorem Ex.for_ (F : FrameOk env) (hA : A.handled = none) {target iter : Expr} {body : List Stmt} {pos : Pos} {di : D} {ds : List D} (bs : D → Sg) (Inv : Nat → Own → Sg → Prop) (hi : Ev c A env σ iter di) (he : elems di = some ds)
    (hsm : ∀ a b, di = .rng a b → Builtin.Range.small a b 1 = true)
    (htgt : ∀ d ∈ ds, Tgt c env (WF env) (ESF env) target d (bs d)) (hok : ∀ d ∈ ds, ∀ x e, (bs d).lookup x = some e → okF env x)
    (hown : ∀ i own σ d, Inv i own σ → d ∈ ds → ∀ y es, own = some (y, es) → (bs d).lookup y = none) (h0 : Inv 0 own σ)
    (hbody : ∀ i d own σ, ds[i]? = some d → Inv i own σ → Ex c A env (execs body env) own (bs d ++ σ) (Inv (i + 1)) R)
    (hs : ∀ x, foldedSetIterable iter env x = pure x := by intro _; rfl) :
    Ex c A env (exec (.For target iter body [] pos) env) own σ (Inv ds.length) R :=
  fun s₀ l₀ l fx s Q E G S k1 k2 => wpAny_For (hi s l (S.G G) S.has (S.sig F) _ _ fun v nw h' tk e f n hd => by
    have S1 : Fst env s₀ l₀ (nw ++ l) fx own σ { s with heap := h', toks := tk } := S.grow e f n
    refine iter_any (s := { s with heap := h', toks := tk }) hA S1.has hd he hsm fun I h₂ St It hst e₂ hI => ?_
    obtain ⟨oI, hoI⟩ := It.at_ _ _ hst
    have S2 : Fst env s₀ l₀ (nw ++ l) ((I, oI) :: fx) own σ { s with heap := h₂, toks := tk } := S1.addfx e₂ hI hoI
    have hI0 : s₀.heap.get? I = none := none_of_ext S1.keep hI
    have hfx : ∀ p ∈ fx, p.1 ≠ I := fun p hp => ne_of_get (S1.hasF p hp) hI
    refine forRun (fun n s' => ∃ i own' σ' l' o', n = ds.length - i ∧ i ≤ ds.length ∧ Inv i own' σ' ∧ (∀ p ∈ nw ++ l, p ∈ l') ∧ Fst env s₀ l₀ l' ((I, o') :: fx) own' σ' s' ∧ St i s'.heap) ?_ ds.length
      ⟨0, own, σ, nw ++ l, oI, rfl, Nat.zero_le _, h0, fun _ h => h, S2, hst⟩
    rintro n s' ⟨i, own', σ', l', o', rfl, hi, hInv, hsub, S3, hst3⟩
    by_cases hlt : i < ds.length
    · obtain ⟨d, hd⟩ : ∃ d, ds[i]? = some d := ⟨_, List.getElem?_eq_getElem hlt⟩
      have hmem : d ∈ ds := List.mem_of_getElem? hd
      refine It.item i s' _ _ d hd hst3 fun v₁ h₁ tk₁ hv hst₁ hb₁ => ?_
      dsimp only
      refine It.go (i + 1) { s' with heap := h₁, toks := tk₁ } _ _ target v₁ hst₁ ?_
      obtain ⟨o₁, ho₁⟩ := It.at_ _ _ hst₁
      have S4 : Fst env s₀ l₀ l' ((I, o₁) :: fx) own' σ' { s' with heap := h₁, toks := tk₁ } := S3.turnfx hI0 hfx hb₁ ho₁
      obtain ⟨ρ, hE, hσ, hO⟩ := S4.es
      refine htgt d hmem A { s' with heap := h₁, toks := tk₁ } l' v₁ ρ _ _ hA S4.has S4.off (hv.mono hsub) hE fun h₂' tk₂ ρ' hE' hk hb => ?_
      have S5 : Fst env s₀ l₀ l' ((I, o₁) :: fx) own' (bs d ++ σ') { s' with heap := h₂', toks := tk₂ } := S4.bind hE hσ hO hE' hk hb (hok d hmem) (hown i own' σ' d hInv hmem)
      have hst₂ : St (i + 1) h₂' := It.frame _ _ _ hst₁ (fun o q => hk _ o (S4.offF (I, o₁) (.head _)).1 q) (fun p hp => S4.has p (hsub p hp)) (fun p hp => S5.has p (hsub p hp))
      refine hbody i d own' σ' hd hInv s₀ l₀ l' ((I, o₁) :: fx) _ _ _ G S5 (fun own'' σ'' l'' s'' hN hl' S6 => ?_) fun dd v l'' s'' hr rt hd' => ?_
      · refine ⟨ds.length - (i + 1), by omega, i + 1, own'', σ'', l'', o₁, rfl, hlt, hN, fun p hp => hl' p (hsub p hp), S6, ?_⟩
        refine It.frame _ _ _ hst₂ (fun o q => ?_) (fun p hp => S5.has p (hsub p hp)) (fun p hp => S6.has p (hl' p (hsub p hp)))
        have a1 := S5.hasF (I, o₁) (.head _)
        have a2 := S6.hasF (I, o₁) (.head _)
        have : h₂'.get? I = some o := q
        have a1' : h₂'.get? I = some o₁ := a1
        rw [a1'] at this
        cases this
        exact a2
      · exact k2 dd v l'' s'' hr rt hd'
    · obtain rfl : i = ds.length := Nat.le_antisymm hi (Nat.not_lt.mp hlt)
      refine It.done s' _ _ hst3 fun h₁ tk₁ hb₁ => ?_
      dsimp only
      refine wpAny_execs_nil (k1 own' σ' l' _ hInv (fun p hp => hsub p (List.mem_append_right _ hp)) (S3.butfx hI0 hfx hb₁))) hs

theorem Ex.while_ (F : FrameOk env) {t : Expr} {body : List Stmt} {pos : Pos} (Inv : Nat → Own → Sg → Prop) {n : Nat} (h0 : Inv n own σ)
    (turn : ∀ n own σ, Inv n own σ → ∃ b, Tr c A env σ t b ∧ (b = true → Ex c A env (execs body env) own σ (fun o s => ∃ m, m < n ∧ Inv m o s) R) ∧ (b = false → N own σ)) :
    Ex c A env (exec (.While t body [] pos) env) own σ N R :=
  fun s₀ l₀ l fx s Q E G S k1 k2 => wpAny_While (by
    refine codeAny_whileLoop (fun n s' => ∃ own' σ' l', Inv n own' σ' ∧ (∀ p ∈ l, p ∈ l') ∧ Fst env s₀ l₀ l' fx own' σ' s') ?_ n ⟨own, σ, l, h0, fun _ h => h, S⟩
    rintro n s' ⟨own', σ', l', hInv, hsub, S1⟩
    obtain ⟨b, ht, h1, h2⟩ := turn n own' σ' hInv
    refine ht s' l' (S1.G G) S1.has (S1.sig F) _ _ fun h' tk e => ?_
    have S2 : Fst env s₀ l₀ l' fx own' σ' { s' with heap := h', toks := tk } := S1.grow (nw := []) e .nil .nil
    cases b with
    | true =>
      simp only [if_true]
      refine h1 rfl s₀ l₀ l' fx _ _ _ G S2 (fun own'' σ'' l'' s'' hN hl' S3 => ?_) fun d v l'' s'' hr rt hd => ?_
      · obtain ⟨m, hm, hI⟩ := hN
        exact ⟨m, hm, own'', σ'', l'', hI, fun p hp => hl' p (hsub p hp), S3⟩
      · exact k2 d v l'' s'' hr rt hd
    | false =>
      simp only [Bool.false_eq_true, if_false]
      exact wpAny_execs_nil (k1 own' σ' l' _ (h2 rfl) hsub S2))
end

/-! ### L14 -/
/-! ## calls of the text's defs -/
theorem BindsTo.peeks {K : Frag} {s : Shared} {fd : FuncData} {args : Args} {binds : List (Str × Value)} (X : K.In s.heap) (e : ∀ S, peek K S (bindArgs fd args) = some binds) : BindsTo s fd args binds :=
  fun M A E Q q => (Looks.of_peek (M := M) X (e _)) A Q E s (fun _ _ h => h) q

theorem Room.deeper {A : Around} {k : Nat} (r : Room A (k + 1)) (env : Env) : Room (A.deeper env) k :=
  ⟨r.hand, by show A.depth + 1 + k < recursionLimit; have := r.deep; omega, by show A.units + 3 + 8 * k + 200 < cLine; have := r.units; omega⟩
theorem Room.less {A : Around} {j k : Nat} (r : Room A k) (h : j ≤ k) : Room A j := ⟨r.hand, by have := r.deep; omega, by have := r.units; omega⟩

theorem bindL_get {kindOf : Str → Option NameKind} : ∀ (binds : List (Str × Value)) (m : Rho) (x : Str) (v : Value), (binds.map (·.1)).Nodup → (x, v) ∈ binds → kindOf x = some .local → bindL kindOf binds m x = some v
  | [], _, _, _, _, h, _ => nomatch h
  | (n, u) :: r, m, x, v, hn, h, hk => by
    unfold bindL
    have hn' := List.nodup_cons.mp (show (n :: r.map (·.1)).Nodup from hn)
    rcases List.mem_cons.mp h with e | h
    · cases e
      rw [if_pos hk]
      have keep : ∀ (r : List (Str × Value)) (m : Rho), n ∉ r.map (·.1) → bindL kindOf r m n = m n := by
        intro r
        induction r with
        | nil => intro m _; rfl
        | cons p r ih =>
          intro m hx
          obtain ⟨n', u'⟩ := p
          unfold bindL
          simp only [List.map_cons, List.mem_cons, not_or] at hx
          rw [ih _ hx.2]
          split
          · simp [hx.1]
          · rfl
      rw [keep r _ hn'.1]
      simp
    · exact bindL_get r _ x v hn'.2 h hk
theorem bindC_get {kindOf : Str → Option NameKind} : ∀ (binds : List (Str × Value)) (m : Rho) (x : Str) (v : Value), (binds.map (·.1)).Nodup → (x, v) ∈ binds → ¬ kindOf x = some .local → bindC kindOf binds m x = some v
  | [], _, _, _, _, h, _ => nomatch h
  | (n, u) :: r, m, x, v, hn, h, hk => by
    unfold bindC
    have hn' := List.nodup_cons.mp (show (n :: r.map (·.1)).Nodup from hn)
    rcases List.mem_cons.mp h with e | h
    · cases e
      rw [if_neg hk]
      have keep : ∀ (r : List (Str × Value)) (m : Rho), n ∉ r.map (·.1) → bindC kindOf r m n = m n := by
        intro r
        induction r with
        | nil => intro m _; rfl
        | cons p r ih =>
          intro m hx
          obtain ⟨n', u'⟩ := p
          unfold bindC
          simp only [List.map_cons, List.mem_cons, not_or] at hx
          rw [ih _ hx.2]
          split
          · rfl
          · simp [hx.1]
      rw [keep r _ hn'.1]
      simp
    · exact bindC_get r _ x v hn'.2 h hk

theorem cellsFrom_none {x : Str} : ∀ (names : List (Str × NameKind)) (n : Nat) (acc : List (Str × Addr)), (names.any fun p => p.1 == x && p.2 == .cell) = false → acc.lookup x = none → (cellsFrom n names acc).lookup x = none
  | [], _, _, _, h => h
  | (y, k) :: r, n, acc, hn, h => by
    unfold cellsFrom
    simp only [List.any_cons, Bool.or_eq_false_iff] at hn
    split
    · rename_i hk
      refine cellsFrom_none r _ _ hn.2 ?_
      have : (y == x) = false := by
        have := hn.1
        rw [hk, Bool.and_true] at this
        exact this
      rw [List.lookup_cons]
      have h2 : (x == y) = false := by
        cases q : x == y with
        | false => rfl
        | true => rw [beq_iff_eq.mp q] at this; simp at this
      rw [h2]; exact h
    · exact cellsFrom_none r _ _ hn.2 h

/-- a name of a def's scope that is its own -/
def okB (scope : Scope) (x : Str) : Bool := (decide (scope.names.lookup x = some .local) && !(scope.names.any fun p => p.1 == x && p.2 == .cell)) || decide (scope.names.lookup x = some .cell)
theorem okF_of {fd : FuncData} {L a : Addr} {x : Str} (h : okB fd.scope x = true) : okF (callEnvC fd L a) x := by
  unfold okB at h
  rw [Bool.or_eq_true] at h
  rcases h with h | h
  · rw [Bool.and_eq_true, decide_eq_true_eq, Bool.not_eq_true'] at h
    exact .inl ⟨h.1, cellsFrom_none _ _ _ h.2 rfl⟩
  · rw [decide_eq_true_eq] at h
    exact .inr ⟨h, cellsFrom_some _ _ _ (.inl h)⟩

section
variable {c : Cfg} {A : Around}

theorem call_fn_code {s : Shared} {l : Led} {a : Addr} {o : Obj} {fd : FuncData} {body : List Stmt} {vs ws : List Value} {es : List D} {names : List Str} {k : Nat} {R : Result → Shared → Prop} (hK : c.K.lookup a = some o) (hfd : o.data = .func fd) (hcode : codeIn c.K fd.code fd.qualname = true)
    (hbody : fd.body = .stmts body) (hclo : fd.closure = []) (hco : fd.scope.isCoroutine = false) (hgen : fd.scope.isGenerator = false) (hkind : fd.scope.kind = .function)
    (G : c.G s.heap) (H : Has s.heap l) (hr : Room A (k + 1)) (hbind : ∀ S, peek c.K S (bindArgs fd ⟨vs, []⟩) = some (names.zip ws)) (hws : DAll l ws es) (hlen : names.length = es.length) (hnd : names.Nodup) (hok : ∀ x ∈ names, okB fd.scope x = true)
    (hB : ∀ L env s' E', L = s.heap.objs.size → env = callEnvC fd L a → FrameOk env → Room (A.deeper env) k → Fst env s l l [] none (names.zip es) s' →
      wpAny (model c.prog c.w) (A.deeper env) (execs body env) (fun f s'' => R (.ok (.ret (match f with | .ret v => v | _ => .none))) s'') E' s') : codeAny (model c.prog c.w) A (.call (.ref a) ⟨vs, []⟩) R s := by
  refine (codeAny_call_function (by have := hr.deep; omega) (G.kin _ _ hK) hfd hco hgen hbody (codeRec_of G.kin hcode) ?_)
  refine BindsTo.peeks G.kin hbind _ _ _ _ ?_
  rw [hclo]
  have hwl := hws.length
  refine wpAny_newFunctionEnv_cells hkind (fun x hx => ?_) fun env he s' x => ?_
  · have hxn : x.1 ∈ names := (List.of_mem_zip hx).1
    have := hok x.1 hxn
    unfold okB at this
    rw [Bool.or_eq_true] at this
    rcases this with h | h
    · rw [Bool.and_eq_true, decide_eq_true_eq] at h; exact .inl h.1
    · rw [decide_eq_true_eq] at h; exact .inr ⟨h, cellsFrom_some _ _ _ (.inl h)⟩
  · have he' : env = callEnvC fd s.heap.objs.size a := he
    have F : FrameOk env := ⟨by rw [he']; exact hkind, x.apart, x.above⟩
    refine ⟨(G.top.nolimit).keeps x.toInCall.keep, codeAny_func ?_⟩
    have hnd' : ((names.zip ws).map (·.1)).Nodup := by
      rw [List.map_fst_zip (by omega)]; exact hnd
    have wn : ∀ b, WF env b → s.heap.get? b = none := fun b hb => by
      rcases hb with rfl | ⟨n, hb⟩
      · exact fresh_ge x.toInCall.fresh
      · exact fresh_ge (Nat.le_trans x.toInCall.fresh (Nat.le_of_lt (x.above n b (mem_of_lookup hb))))
    have S : Fst env s l l [] none (names.zip es) s' := by
      refine ⟨x.toInCall.same, x.toInCall.keep, wn, H.ext x.toInCall.keep, fun _ h => h, fun _ h => .inl h, fun p hp w => ?_, fun _ h => (nomatch h), fun _ h => (nomatch h), fun n e hn => ?_, _, ⟨_, _, x.toInCall.ns, x.cell, rfl⟩, fun n e hn => ?_, trivial⟩
      · have := wn _ w
        rw [H p hp] at this; cases this
      · rw [he']
        exact okF_of (hok n (List.of_mem_zip (mem_of_lookup hn)).1)
      · have hmem : (n, e) ∈ names.zip es := mem_of_lookup hn
        obtain ⟨i, hi, hie⟩ := List.getElem_of_mem hmem
        have h1 : names[i]? = some n := by
          have : i < names.length := by simp at hi; omega
          rw [List.getElem_zip] at hie
          cases hie
          exact List.getElem?_eq_getElem this
        have h2 : es[i]? = some e := by
          have : i < es.length := by simp at hi; omega
          rw [List.getElem_zip] at hie
          cases hie
          exact List.getElem?_eq_getElem this
        obtain ⟨v, hv, hd⟩ := hws.at h2
        have hmv : (n, v) ∈ names.zip ws := by
          refine List.mem_of_getElem? (i := i) ?_
          rw [List.getElem?_zip_eq_some]
          exact ⟨h1, hv⟩
        refine ⟨v, ?_, hd⟩
        have hokn : okF env n := by rw [he']; exact okF_of (hok n (List.of_mem_zip hmem).1)
        rcases hokn with ⟨hk, _⟩ | ⟨hk, _⟩
        · simp only [look, hk]
          exact bindL_get _ _ _ _ hnd' hmv hk
        · simp only [look, hk]
          exact bindC_get _ _ _ _ hnd' hmv (by rw [hk]; decide)
    exact hB s.heap.objs.size env s' _ rfl he' F (hr.deeper env) S

theorem call_fn_raw {s : Shared} {l : Led} {a : Addr} {o : Obj} {fd : FuncData} {body : List Stmt} {vs ws : List Value} {es : List D} {names : List Str} {k : Nat} {Q E : Value → Shared → Prop} (hK : c.K.lookup a = some o) (hfd : o.data = .func fd) (hcode : codeIn c.K fd.code fd.qualname = true)
    (hbody : fd.body = .stmts body) (hclo : fd.closure = []) (hco : fd.scope.isCoroutine = false) (hgen : fd.scope.isGenerator = false) (hkind : fd.scope.kind = .function)
    (G : c.G s.heap) (H : Has s.heap l) (hr : Room A (k + 1)) (hbind : ∀ S, peek c.K S (bindArgs fd ⟨vs, []⟩) = some (names.zip ws)) (hws : DAll l ws es) (hlen : names.length = es.length) (hnd : names.Nodup) (hok : ∀ x ∈ names, okB fd.scope x = true)
    (hB : ∀ L env s' E', env = callEnvC fd L a → FrameOk env → Room (A.deeper env) k → Fst env s l l [] none (names.zip es) s' →
      wpAny (model c.prog c.w) (A.deeper env) (execs body env) (fun f s'' => Q (match f with | .ret v => v | _ => .none) s'') E' s') : wpAny (model c.prog c.w) A (call (.ref a) vs) Q E s :=
  wpAny_call (call_fn_code hK hfd hcode hbody hclo hco hgen hkind G H hr hbind hws hlen hnd hok fun L env s' E' _ he F r S => hB L env s' E' he F r S)

theorem call_fn {s : Shared} {l : Led} {a : Addr} {o : Obj} {fd : FuncData} {body : List Stmt} {vs ws : List Value} {es : List D} {names : List Str} {d : D} {k : Nat} (hK : c.K.lookup a = some o) (hfd : o.data = .func fd) (hcode : codeIn c.K fd.code fd.qualname = true)
    (hbody : fd.body = .stmts body) (hclo : fd.closure = []) (hco : fd.scope.isCoroutine = false) (hgen : fd.scope.isGenerator = false) (hkind : fd.scope.kind = .function)
    (G : c.G s.heap) (H : Has s.heap l) (hr : Room A (k + 1)) (hbind : ∀ S, peek c.K S (bindArgs fd ⟨vs, []⟩) = some (names.zip ws)) (hws : DAll l ws es) (hlen : names.length = es.length) (hnd : names.Nodup) (hok : ∀ x ∈ names, okB fd.scope x = true)
    (hB : ∀ L env, env = callEnvC fd L a → FrameOk env → Room (A.deeper env) k → Ex c (A.deeper env) env (execs body env) none (names.zip es) (fun _ _ => d = .none) (fun e => e = d)) : Vp c A (call (.ref a) vs) s l d := fun Q E q =>
  call_fn_raw hK hfd hcode hbody hclo hco hgen hkind G H hr hbind hws hlen hnd hok fun L env s' E' he F hr' S => by
    refine hB L env he F hr' s l l [] s' _ _ G S (fun o' σ' l' s'' hN hl' S' => ?_) fun e v l' s'' hR rt hd => ?_
    · dsimp only
      subst hN
      obtain ⟨h, tk, rfl⟩ := S'.same
      exact q .none [] h tk S'.keep .nil .nil .none
    · dsimp only
      subst hR
      obtain ⟨h, tk, rfl⟩ := rt.same
      obtain ⟨nw, f1, f2, _, f3⟩ := split_led rt.new rt.has
      exact q v nw h tk rt.keep f1 f2 (hd.mono f3)

/-- what a def of the text does -/
def Fn (c : Cfg) (a : Addr) (k : Nat) (Rel : List D → D → Prop) : Prop := ∀ (A : Around), Room A k → ∀ ds d, Rel ds d → OpL c A (fun vs => call (.ref a) vs) ds d
end

/-! ### L15 -/
section
variable {c : Cfg} {A : Around} {env : Env} {σ : Sg} {R : D → Prop}

/-- the own list has been set anew -/
theorem Fst.own_set {s₀ s : Shared} {l₀ l fx : Led} {y : Str} {ds ds' : List D} (S : Fst env s₀ l₀ l fx (some (y, ds)) σ s) {ρ : Rho} {q : Addr} {h' : Heap} {tk : Nat} {vs' : List Value} {n' : Nat} (hE : ESF env s.heap ρ) (hσ : ∀ x d, σ.lookup x = some d → ∃ v, ρ x = some v ∧ DIn l v d)
    (h1 : ρ y = some (.ref q)) (h4 : s₀.heap.get? q = none) (h5 : ¬ WF env q) (h6 : ∀ p ∈ l, p.1 ≠ q) (h7 : ∀ p ∈ fx, p.1 ≠ q) (hq : h'.get? q = some (lsO vs' n')) (hd : DAll l vs' ds') (hb : But q s.heap h') :
    Fst env s₀ l₀ l fx (some (y, ds')) σ { s with heap := h', toks := tk } where
  same := by obtain ⟨h, t, rfl⟩ := S.same; exact ⟨h', tk, rfl⟩
  keep := fun b o e => hb b o (fun z => by rw [z, h4] at e; cases e) (S.keep b o e)
  wn := S.wn
  has := fun p hp => hb _ _ (h6 p hp) (S.has p hp)
  sub := S.sub
  new := S.new
  off := S.off
  hasF := fun p hp => hb _ _ (h7 p hp) (S.hasF p hp)
  offF := S.offF
  ok := S.ok
  es := ⟨ρ, hE.keep fun b o w e => hb b o (fun z => h5 (z ▸ w)) e, hσ, q, vs', n', h1, hq, hd, h4, h5, h6, h7⟩

theorem Ex.ownCall (F : FrameOk env) {x y : Str} {p py pos pos' : Pos} {a : Addr} {o : Obj} {fd : FuncData} {e : Expr} {ds ds' : List D} {dx : D} (hy : okF env y) (hyd : (y == ("__debug__" : Str)) = false) (hn : GName c env x (.ref a)) (hK : c.K.lookup a = some o) (hfd : o.data = .func fd) (he : Ev c A env σ e dx)
    (hcall : ∀ s l q vs n v Q E, c.G s.heap → Has s.heap l → s.heap.get? q = some (lsO vs n) → DAll l vs ds → DIn l v dx → (∀ h' tk vs' n', h'.get? q = some (lsO vs' n') → DAll l vs' ds' → But q s.heap h' → Q .none { s with heap := h', toks := tk }) → wpAny (model c.prog c.w) A (call (.ref a) [.ref q, v]) Q E s)
    (hst : starEach [.Name y py, e] env = [(false, eval (.Name y py) env), (false, eval e env)] := by rfl) (hs : swapsWith (.Call (.Name x p) [.Name y py, e] [] pos) none pos'.line env = pure false := by rfl) :
    Ex c A env (exec (.Expr (.Call (.Name x p) [.Name y py, e] [] pos) pos') env) (some (y, ds)) σ (fun o s => o = some (y, ds') ∧ s = σ) R :=
  fun s₀ l₀ l fx s Q E G S k1 k2 => wpAny_Expr_any (by
    refine wpAny_Call_Name_kw (hn A s _ E p (S.G G) ?_)
    show wpAny _ A (callWith pos (.ref a) [] (backTo pos (starEach [.Name y py, e] env)) []) _ E s
    rw [hst]
    refine callWith_function (o := o) (fd := fd) ?_
    refine evalArgs_plain ?_
    refine spliced_cons (wpAny_Name ?_ hyd)
    obtain ⟨ρ, hE, hσ, q, vs, n, h1, h2, h3, h4, h5, h6, h7⟩ := S.es
    refine (frameVars (c := c) F).load hE hy h1 A s _ E .refl ?_
    refine spliced_cons (he s l (S.G G) S.has (S.sig F) _ _ fun v nw h' tk e' f' n' hd => ?_)
    refine spliced_nil ?_
    have S' : Fst env s₀ l₀ (nw ++ l) fx (some (y, ds)) σ { s with heap := h', toks := tk } := S.grow e' f' n'
    have h6' : ∀ p ∈ nw ++ l, p.1 ≠ q := fun p hp => (List.mem_append.mp hp).elim (fun z => Ne.symm (ne_of_get h2 (f' p z))) (h6 p)
    refine ⟨⟨(S'.G G).kin _ _ hK, hfd⟩, ?_⟩
    refine hcall { s with heap := h', toks := tk } (nw ++ l) q vs n v _ _ (S'.G G) S'.has (e' _ _ h2) (h3.mono sub_app) hd fun h'' tk' vs' n'' hq hda hb => ?_
    refine k1 (some (y, ds')) σ (nw ++ l) _ ⟨rfl, rfl⟩ sub_app ?_
    exact S'.own_set (hE.keep fun b o _ w => e' b o w) (fun x d hx => let ⟨v, a, b⟩ := hσ x d hx; ⟨v, a, b.mono sub_app⟩) h1 h4 h5 h6' h7 hq hda hb) (by unfold interactive; rw [F.kind]; rfl) hs
end

/-! ### L16 -/
section
variable {c : Cfg} {A : Around} {env : Env} {scope : Scope} {cl : List (Str × Addr)} {σ τ : Sg}

theorem Tr.conv {e : Expr} {b b' : Bool} (h : Tr c A env σ e b) (hb : b = b') : Tr c A env σ e b' := hb ▸ h
theorem Ev.conv {e : Expr} {d d' : D} (h : Ev c A env σ e d) (hd : d = d') : Ev c A env σ e d' := hd ▸ h

/-- the cells that a block sees -/
def clFor (scope : Scope) (env : Env) : List (Str × Addr) := scope.names.foldl (fun cs x => if x.2 == .free then (x.1, (env.cells.lookup x.1).getD 0) :: cs else cs) []

theorem Ev.compG (hA : A.handled = none) {α β : Type} (enc : α → D) (dec : D → α) (hdec : ∀ x, dec (enc x) = x) (enc' : β → D) {xs : List α} (q : α → Bool) (g : α → β) (bs : α → Sg)
    {elt target iter : Expr} {ifs : List Expr} {pos : Pos} {di : D} (hi : Ev c A env σ iter di) (he : elems di = some (xs.map enc))
    (hsm : ∀ a b, di = .rng a b → Builtin.Range.small a b 1 = true) (hz : xs.length ≤ sizeLine)
    (hclos : closureFor scope env = pure (clFor scope env)) (K : Caps env scope (clFor scope env) σ τ)
    (htgt : ∀ x ∈ xs, ∀ C, Tgt c (compEnvC scope (clFor scope env) C env) (fun b => b = C) (fun h ρ => h.Ns C ρ) target (enc x) (bs x))
    (hnm : ∀ x ∈ xs, ∀ y e, (bs x).lookup y = some e → compOk scope (clFor scope env) y)
    (htest : ∀ x ∈ xs, ∀ C, Tests c A (compEnvC scope (clFor scope env) C env) (bs x ++ τ) ifs (q x))
    (helt : ∀ x ∈ xs, q x = true → ∀ C, Ev c A (compEnvC scope (clFor scope env) C env) (bs x ++ τ) elt (enc' (g x)))
    (hcell : ∀ y ∈ scope.names, y.2 ≠ .cell) (hkind : scope.kind = .function) (hnames : ∀ y ∈ scope.names, y.2 = .local → scope.names.lookup y.1 = some .local)
    (hs : ∀ x, foldedSetIterable iter env x = pure x := by intro _; rfl) :
    Ev c A env σ (.ListComp elt [⟨target, iter, ifs, 0⟩] scope pos) (.lst (((xs.filter q).map g).map enc')) := by
  refine Ev.conv (Ev.comp1 (bs := fun d => bs (dec d)) (p := fun d => q (dec d)) (f := fun d => enc' (g (dec d))) hA hi he hsm (by rw [List.length_map]; exact hz) ⟨?_, ?_, ?_, ?_⟩ K hclos hcell hkind hnames hs) ?_
  · intro d hd C
    obtain ⟨x, hx, rfl⟩ := List.mem_map.mp hd
    rw [hdec]; exact htgt x hx C
  · intro d hd y e hy
    obtain ⟨x, hx, rfl⟩ := List.mem_map.mp hd
    rw [hdec] at hy; exact hnm x hx y e hy
  · intro d hd C
    obtain ⟨x, hx, rfl⟩ := List.mem_map.mp hd
    rw [hdec]; exact htest x hx C
  · intro d hd hq C
    obtain ⟨x, hx, rfl⟩ := List.mem_map.mp hd
    rw [hdec] at hq ⊢; exact helt x hx hq C
  · rw [List.filter_map, List.map_map, List.map_map]
    congr 1
    have : ((fun d => q (dec d)) ∘ enc) = q := by funext x; simp [hdec]
    rw [this]
    apply List.map_congr_left
    intro x _
    simp [hdec]

theorem Ev.comp2G (hA : A.handled = none) {α β γ : Type} (enc : α → D) (dec : D → α) (hdec : ∀ x, dec (enc x) = x) (enc1 : γ → D) (dec1 : D → γ) (hdec1 : ∀ x, dec1 (enc1 x) = x) (enc' : β → D) {xs : List α} {ys : List γ} (q : α → γ → Bool) (g : α → γ → β) (bs : α → Sg) (bs1 : γ → Sg)
    {elt t0 i0 t1 i1 : Expr} {f1 : List Expr} {pos : Pos} {di di1 : D} (hi : Ev c A env σ i0 di) (he : elems di = some (xs.map enc))
    (hsm : ∀ a b, di = .rng a b → Builtin.Range.small a b 1 = true)
    (hclos : closureFor scope env = pure (clFor scope env)) (K : Caps env scope (clFor scope env) σ τ)
    (htgt : ∀ x ∈ xs, ∀ C, Tgt c (compEnvC scope (clFor scope env) C env) (fun b => b = C) (fun h ρ => h.Ns C ρ) t0 (enc x) (bs x))
    (hnm : ∀ x ∈ xs, ∀ y e, (bs x).lookup y = some e → compOk scope (clFor scope env) y)
    (hi1 : ∀ x ∈ xs, ∀ C, Ev c A (compEnvC scope (clFor scope env) C env) (bs x ++ τ) i1 di1) (he1 : elems di1 = some (ys.map enc1)) (hsm1 : ∀ a b, di1 = .rng a b → Builtin.Range.small a b 1 = true)
    (htgt1 : ∀ y ∈ ys, ∀ C, Tgt c (compEnvC scope (clFor scope env) C env) (fun b => b = C) (fun h ρ => h.Ns C ρ) t1 (enc1 y) (bs1 y))
    (hnm1 : ∀ x ∈ xs, ∀ y ∈ ys, ∀ n e, (bs1 y).lookup n = some e → compOk scope (clFor scope env) n ∧ (bs x).lookup n = none)
    (htest : ∀ x ∈ xs, ∀ y ∈ ys, ∀ C, Tests c A (compEnvC scope (clFor scope env) C env) ((bs1 y ++ bs x) ++ τ) f1 (q x y))
    (helt : ∀ x ∈ xs, ∀ y ∈ ys, q x y = true → ∀ C, Ev c A (compEnvC scope (clFor scope env) C env) ((bs1 y ++ bs x) ++ τ) elt (enc' (g x y)))
    (hz : (xs.flatMap fun x => (ys.filter (q x)).map (g x)).length ≤ sizeLine)
    (hcell : ∀ y ∈ scope.names, y.2 ≠ .cell) (hkind : scope.kind = .function) (hnames : ∀ y ∈ scope.names, y.2 = .local → scope.names.lookup y.1 = some .local)
    (hs : ∀ x, foldedSetIterable i0 env x = pure x := by intro _; rfl) (hs1 : ∀ env x, foldedSetIterable i1 env x = pure x := by intro _ _; rfl) :
    Ev c A env σ (.ListComp elt [⟨t0, i0, [], 0⟩, ⟨t1, i1, f1, 0⟩] scope pos) (.lst ((xs.flatMap fun x => (ys.filter (q x)).map (g x)).map enc')) := by
  have key : ((xs.map enc).flatMap fun d => if (fun _ => true : D → Bool) d = true then ((ys.map enc1).filter fun e => q (dec d) (dec1 e)).map (fun e => enc' (g (dec d) (dec1 e))) else []) = (xs.flatMap fun x => (ys.filter (q x)).map (g x)).map enc' := by
    rw [List.flatMap_map, List.map_flatMap]
    congr 1
    funext x
    rw [hdec, if_pos rfl, List.filter_map, List.map_map, List.map_map]
    have : ((fun e => q x (dec1 e)) ∘ enc1) = q x := by funext y; simp [hdec1]
    rw [this]
    apply List.map_congr_left
    intro y _
    simp [hdec1]
  refine Ev.conv (Ev.comp2 (bs := fun d => bs (dec d)) (p0 := fun _ => true) (di1 := fun _ => di1) (ds1 := fun _ => ys.map enc1) (bs1 := fun _ e => bs1 (dec1 e)) (p := fun d e => q (dec d) (dec1 e)) (f := fun d e => enc' (g (dec d) (dec1 e))) hA hi he hsm K ?_ ?_ (fun _ _ _ => Tests.nil) ?_ (fun _ _ _ => he1) (fun _ _ _ => hsm1) ?_ ?_ ?_ ?_ ?_ hclos hcell hkind hnames hs hs1) (congrArg D.lst key)
  · intro d hd C
    obtain ⟨x, hx, rfl⟩ := List.mem_map.mp hd
    rw [hdec]; exact htgt x hx C
  · intro d hd y e hy
    obtain ⟨x, hx, rfl⟩ := List.mem_map.mp hd
    rw [hdec] at hy; exact hnm x hx y e hy
  · intro d hd _ C
    obtain ⟨x, hx, rfl⟩ := List.mem_map.mp hd
    rw [hdec]; exact hi1 x hx C
  · intro d hd _ e hy C
    obtain ⟨y, hy', rfl⟩ := List.mem_map.mp hy
    rw [hdec1]; exact htgt1 y hy' C
  · intro d hd _ e hy n v hn
    obtain ⟨x, hx, rfl⟩ := List.mem_map.mp hd
    obtain ⟨y, hy', rfl⟩ := List.mem_map.mp hy
    rw [hdec1] at hn
    rw [hdec]; exact hnm1 x hx y hy' n v hn
  · intro d hd _ e hy C
    obtain ⟨x, hx, rfl⟩ := List.mem_map.mp hd
    obtain ⟨y, hy', rfl⟩ := List.mem_map.mp hy
    rw [hdec, hdec1]; exact htest x hx y hy' C
  · intro d hd _ e hy hq C
    obtain ⟨x, hx, rfl⟩ := List.mem_map.mp hd
    obtain ⟨y, hy', rfl⟩ := List.mem_map.mp hy
    rw [hdec, hdec1] at hq ⊢; exact helt x hx y hy' hq C
  · rw [key, List.length_map]; exact hz

/-! ### data of ints -/
def decI : D → Int
  | .int i => i
  | _ => 0
theorem decI_int (i : Int) : decI (.int i) = i := rfl
def rangeI (a b : Int) : List Int := (List.range (b - a).toNat).map fun (i : Nat) => a + (i : Int)
theorem elems_rng {a b : Int} : elems (.rng a b) = some ((rangeI a b).map D.int) := by
  simp only [elems, rangeI, List.map_map]; rfl
theorem elems_lst {ds : List D} : elems (.lst ds) = some ds := rfl
theorem mem_rangeI {a b i : Int} : i ∈ rangeI a b ↔ a ≤ i ∧ i < b := by
  unfold rangeI
  simp only [List.mem_map, List.mem_range]
  constructor
  · rintro ⟨j, hj, rfl⟩; omega
  · intro ⟨h1, h2⟩; exact ⟨(i - a).toNat, by omega, by omega⟩
theorem rangeI_length {a b : Int} : (rangeI a b).length = (b - a).toNat := by simp [rangeI]
theorem rng_small {a b : Int} (h : -1000000 < a) (h' : a < 1000000) (k : -1000000 < b) (k' : b < 1000000) : ∀ x y, D.rng a b = .rng x y → Builtin.Range.small x y 1 = true := by
  intro x y e
  cases e
  exact small_one (by omega) (by omega) (by omega) (by omega)
end

/-! ### L17 -/
abbrev selName : Str := Str.ofString "comp_select_list"
section
variable {c : Cfg} {A : Around} {env : Env} {σ : Sg}

theorem room_make {k : Nat} {C : Addr} {vs : List Value} (r : Room A (k + 1)) : Room (A.under (.builtin "type.__call__" ⟨.ref C :: vs, []⟩)) k := by
  have e : (A.under (.builtin "type.__call__" ⟨.ref C :: vs, []⟩)).depth = A.depth + 1 := depth_under_kw A C vs []
  have u : (A.under (.builtin "type.__call__" ⟨.ref C :: vs, []⟩)).units = A.units + 1 := rfl
  exact ⟨r.hand, by rw [e]; have := r.deep; omega, by rw [u]; have := r.units; omega⟩

theorem Ev.callK {x : Str} {p pos : Pos} {f : Value} {e : Expr} {rest : List Expr} {ds : List D} {d : D} (hn : GName c env x f) (hk : keepIn c.K f = true) (ha : Evs c A env σ (e :: rest) ds) (ho : OpL c A (fun vs => call f vs) ds d)
    (he : starEach (e :: rest) env = (false, eval e env) :: starEach rest env := by rfl) (hp : ∀ pos, (backTo pos (starEach rest env)).any (·.1) = false := by intro _; rfl) : Ev c A env σ (.Call (.Name x p) (e :: rest) [] pos) d := fun s l G H S Q E k => by
  refine wpAny_Call_Name_kw (hn A s _ E p G ?_)
  show wpAny _ A (callWith pos f [] (backTo pos (starEach (e :: rest) env)) []) Q E s
  refine callWith_K G.kin hk (ha s l G H S pos _ _ fun vs nw h' tk e f n hd => ?_) he (hp pos)
  exact ⟨(G.ext e).kin, ho _ _ vs (G.ext e) (n.append (H.ext e)) hd _ _ (k.from e f n)⟩

/-- a method of an object -/
theorem Ev.callM {o : Expr} {name : Str} {apos pos : Pos} {C f : Addr} {sel : D} {e : Expr} {rest : List Expr} {ds : List D} {d : D} (ho : Ev c A env σ o (.tc C sel))
    (hga : findIn c.K (.ref C) "__getattribute__" = some (some (.builtin "object.__getattribute__"))) (hgk : findIn c.K (.ref C) "__getattr__" = some none) (hf : findIn c.K (.ref C) name = some (some (.ref f))) (ht : typeIn c.K (.ref f) = some (.type "function"))
    (hnm : ((Str.ofString "comp_select_list") == name) = false) (hk : keepIn c.K (.ref f) = true) (ha : Evs c A env σ (e :: rest) ds) (hop : OpL c A (fun vs => call (.ref f) vs) (.tc C sel :: ds) d) (pl : Sem Bool)
    (hm : eval (.Call (.Attribute o name apos) (e :: rest) [] pos) env = (do
      let ov ← eval o env
      standAt apos.atName
      let (f, first) ← holding [ov] (getMethod ov name pl)
      callWith pos f first (backTo pos (starEach (e :: rest) env)) []))
    (he : starEach (e :: rest) env = (false, eval e env) :: starEach rest env := by rfl) (hp : ∀ pos, (backTo pos (starEach rest env)).any (·.1) = false := by intro _; rfl) :
    Ev c A env σ (.Call (.Attribute o name apos) (e :: rest) [] pos) d := fun s l G H S Q E k => by
  refine MethodCall_ (pl := pl) (ho s l G H S _ _ fun ov nw h' tk e1 f1 n1 hd => ?_) hm
  have H1 := n1.append (H.ext e1)
  have G1 := G.ext e1
  have hd' := hd
  cases hd with
  | tc hx hdx hv =>
    rename_i x dx es hsh tk1 n v
    refine method_fn (s := { s with heap := h', toks := tk }) (ox := instObj C dx) (od := some (dictOf [⟨hsh, .str selName tk1, v⟩] n)) G1.kin ⟨H1 _ hx, rfl, rfl, H1 _ hdx⟩ hga hgk hf ht ?_ ?_
    · show ((getL name [⟨hsh, .str selName tk1, v⟩]).map _) = _
      unfold getL
      have : (Value.str selName tk1).isStr name = false := hnm
      rw [List.find?_cons, this]
      rfl
    · refine callWith_K (h₀ := h') G1.kin hk (ha { s with heap := h', toks := tk } (nw ++ l) G1 H1 (S.ext e1 sub_app) pos _ _ fun vs nw' h'' tk' e2 f2 n2 hds => ?_) he (hp pos)
      refine ⟨(G1.ext e2).kin, ?_⟩
      have k' := (k.from (tk := tk) e1 f1 n1).from (tk := tk') e2 f2 n2
      exact hop { s with heap := h'', toks := tk' } (nw' ++ (nw ++ l)) (.ref x :: vs) (G1.ext e2) (n2.append (H1.ext e2)) (.cons (hd'.mono sub_app) hds) _ _ k'

/-- a name that an object holds -/
theorem Ev.attr {x : Str} {xp pos : Pos} {C : Addr} {ds : List D} (ho : Ev c A env σ (.Name x xp) (.tc C (.lst ds)))
    (hga : findIn c.K (.ref C) "__getattribute__" = some (some (.builtin "object.__getattribute__"))) (hh : hasDictIn c.K C = true) (ha : findIn c.K (.ref C) selName = some none) :
    Ev c A env σ (.Attribute (.Name x xp) selName pos) (.lst ds) := fun s l G H S Q E k => by
  refine Attribute_name (ho s l G H S _ _ fun ov nw h' tk e1 f1 n1 hd => ?_)
  have H1 := n1.append (H.ext e1)
  have G1 := G.ext e1
  cases hd with
  | tc hx hdx hv =>
    rename_i x dx es hsh tk1 n v
    refine get_value (v := v) (s := { s with heap := h', toks := tk }) (ox := instObj C dx) (od := some (dictOf [⟨hsh, .str selName tk1, v⟩] n)) G1.kin ⟨H1 _ hx, rfl, rfl, H1 _ hdx⟩ hga (findObj_own (v := v) hh ha rfl ?_) ?_ ?_
    · show getL selName [⟨hsh, .str selName tk1, v⟩] = _
      unfold getL
      have : (Value.str selName tk1).isStr selName = true := by show (selName == selName) = true; simp
      rw [List.find?_cons, this]
    · cases hv; rfl
    · exact (k.from (tk := tk) e1 f1 n1).plain hv

/-- an object made -/
theorem op_make {C fI : Addr} {o : Obj} {fd : FuncData} {p1 p2 p3 p4 : Pos} {k : Nat} {sel : D} (hr : Room A (k + 2)) (hm : makesIn c.K C = true) (hi : findIn c.K (.ref C) "__init__" = some (some (.ref fI))) (hf : typeIn c.K (.ref fI) = some (.type "function"))
    (hK : c.K.lookup fI = some o) (hfd : o.data = .func fd) (hcode : codeIn c.K fd.code fd.qualname = true)
    (hbody : fd.body = .stmts [.Assign [.Attribute (.Name "self" p1) selName p2] (.Name selName p3) p4]) (hclo : fd.closure = []) (hco : fd.scope.isCoroutine = false) (hgen : fd.scope.isGenerator = false) (hkind : fd.scope.kind = .function)
    (hbind : ∀ S a b, peek c.K S (bindArgs fd ⟨[a, b], []⟩) = some ((["self", selName] : List Str).zip [a, b])) (hok : ∀ x ∈ (["self", selName] : List Str), okB fd.scope x = true)
    (hs : findIn c.K (.ref C) "__setattr__" = some (some (.builtin "object.__setattr__"))) (hp : plainOver c.K C = true) (ht : takerIn c.K C selName = some none) (hh : hasDictIn c.K C = true) :
    OpL c A (fun vs => call (.ref C) vs) [sel] (.tc C sel) := fun s l vs G H hvs Q E q => by
  cases hvs with
  | cons hv hn =>
    cases hn
    rename_i vv
    refine wpAny_call ?_
    obtain ⟨h0, g, dr, tk0, os⟩ := s
    refine make_core (makes_of G.kin hm) (looks_findIn G.kin hi) (fun self => bind_fn G.kin self hf) (.inl rfl) ?_
    let h2 := (h0.push emptyDict).push (instObj C h0.objs.size)
    have e2 : Ext h0 h2 := (Ext.push _ _).trans (Ext.push _ _)
    have hx : h2.get? (h0.objs.size + 1) = some (instObj C h0.objs.size) := by
      have := Heap.get?_push_size (o := instObj C h0.objs.size) (h0.push emptyDict) rfl
      rwa [Heap.size_push] at this
    have hdx : h2.get? h0.objs.size = some emptyDict := Heap.get?_push_of_some _ (Heap.get?_push_size _ rfl)
    have G2 : c.G h2 := G.ext e2
    have H2 : Has h2 l := H.ext e2
    -- the class of the new one is not known yet to the ledger: its value is carried by name alone
    refine call_fn_code (c := c) (s := ⟨h2, g, dr, tk0, os⟩) (l := (h0.objs.size + 1, instObj C h0.objs.size) :: (h0.objs.size, emptyDict) :: l) (names := ["self", selName]) (ws := [.ref (h0.objs.size + 1), vv]) (es := [.val (.ref (h0.objs.size + 1)) (.ob (h0.objs.size + 1) (instObj C h0.objs.size)), .val vv sel]) (k := k) hK hfd hcode hbody hclo hco hgen hkind G2 ?_ (room_make hr) (fun S => hbind S _ _) ?_ rfl (by decide) hok ?_
    · intro p hp
      rcases List.mem_cons.mp hp with rfl | hp
      · exact hx
      rcases List.mem_cons.mp hp with rfl | hp
      · exact hdx
      · exact H2 p hp
    · exact .cons (.val (.ob (.head _))) (.one (.val (hv.mono fun p hp => List.mem_cons_of_mem _ (List.mem_cons_of_mem _ hp))))
    · intro L env s' E' hL he F hr' S
      refine wpAny_execs_cons (plainObj_wpAny_Assign_Attribute ?_ rfl)
      obtain ⟨va, hda, hLa, _⟩ := S.sig (c := c) F selName (.val vv sel) rfl
      obtain ⟨rfl, _⟩ := hda.unval
      obtain ⟨vb, hdb, hLb, _⟩ := S.sig (c := c) F "self" (.val (.ref (h0.objs.size + 1)) _) rfl
      obtain ⟨rfl, _⟩ := hdb.unval
      refine wpAny_Name (hLa _ s' _ _ .refl ?_) (by decide)
      refine wpAny_Name (hLb _ s' _ _ .refl ?_) (by decide)
      have hx' := S.has _ (.head _)
      have hdx' := S.has _ (.tail _ (.head _))
      obtain ⟨ρ, ⟨m, cm, hns, _⟩, _⟩ := S.es
      have hLe : env.locals = L := by rw [he]; rfl
      have e0 : Ext h0 s'.heap := e2.trans S.keep
      have hsz : h2.objs.size = h0.objs.size + 2 := by show ((h0.push emptyDict).push _).objs.size = _; rw [Heap.size_push, Heap.size_push]
      have Fr0 : Fr h0 env.locals s'.heap m := ⟨hns, e0, by rw [hLe, hL]; show h0.objs.size ≤ h2.objs.size; omega⟩
      have hoff : ∀ p ∈ [(h0.objs.size + 1, instObj C h0.objs.size), (h0.objs.size, emptyDict)], p.1 ≠ env.locals := by
        intro p hp
        have : p.1 ≤ h0.objs.size + 1 := by
          rcases List.mem_cons.mp hp with rfl | hp
          · exact Nat.le_refl _
          · rw [List.mem_singleton.mp hp]; exact Nat.le_succ _
        rw [hLe, hL]; show p.1 ≠ h2.objs.size; omega
      have N0 : News h0 env.locals s'.heap [(h0.objs.size + 1, instObj C h0.objs.size), (h0.objs.size, dictOf [] 0)] := by
        intro p hp
        rcases List.mem_cons.mp hp with rfl | hp
        · exact ⟨hx', hoff _ (.head _), fresh_ge (Nat.le_succ _)⟩
        · rw [List.mem_singleton.mp hp]
          exact ⟨hdx', hoff _ (.tail _ (.head _)), fresh_size _⟩
      refine set_dict Fr0 G.kin N0 (ox := instObj C h0.objs.size) (dx := h0.objs.size) ⟨hx', rfl, rfl, hdx'⟩ rfl hs hp ht hh rfl rfl (.tail (Nat.succ_ne_self _) (.head (fun _ h => nomatch h))) (by show 1 ≤ 1000; decide) fun h' F' N' => ?_
      refine wpAny_execs_nil ?_
      dsimp only
      refine ⟨rfl, ?_⟩
      obtain ⟨hh, tt, rfl⟩ := S.same
      refine q (.ref (h0.objs.size + 1)) [(h0.objs.size + 1, instObj C h0.objs.size), (h0.objs.size, dictOf [⟨PyData.keyHash c.w.params selName, .str selName (tt + 1), va⟩] 1)] h' _ F'.keep ?_ ?_ ?_
      · intro p hp; exact (N' p hp).2.2
      · intro p hp; exact (N' p hp).1
      · exact .tc (es := []) (List.mem_append_left _ (.head _)) (List.mem_append_left _ (.tail _ (.head _))) (hv.mono sub_app)
end

/-! ### L18 -/
theorem okS {env : Env} {bs : Sg} (h : ∀ p ∈ bs, okF env p.1) : ∀ x d, bs.lookup x = some d → okF env x := fun x d hx => h (x, d) (mem_of_lookup hx)

theorem cellsAre_at {cm : Str → Option Value} : ∀ {cs : List (Str × Addr)} {cells : List (Addr × Obj)}, CellsAre cm cs cells → ∀ n a, cs.lookup n = some a → ∃ o, (a, o) ∈ cells ∧ o.data = .cell (cm n)
  | _, _, .nil, n, a, h => by simp at h
  | _, _, .cons (n := n') hd r, n, a, h => by
    rw [List.lookup_cons] at h
    split at h
    · rename_i q
      have q := beq_iff_eq.mp q
      subst q
      cases h
      exact ⟨_, .head _, hd⟩
    · obtain ⟨o, ho, hc⟩ := cellsAre_at r n a h
      exact ⟨o, .tail _ ho, hc⟩

theorem cellsFrom_apart : ∀ (names : List (Str × NameKind)) (n lo : Nat) (acc : List (Str × Addr)), (∀ p ∈ acc, lo ≤ p.2 ∧ p.2 < n) → acc.Pairwise (fun x y => x.2 ≠ y.2) → lo ≤ n →
    (∀ p ∈ cellsFrom n names acc, lo ≤ p.2) ∧ (cellsFrom n names acc).Pairwise fun x y => x.2 ≠ y.2
  | [], n, lo, acc, h, hp, _ => ⟨fun p hp => (h p hp).1, hp⟩
  | (x, k) :: r, n, lo, acc, h, hp, hn => by
    unfold cellsFrom
    split
    · refine cellsFrom_apart r (n + 1) lo _ (fun p hp => ?_) (List.pairwise_cons.mpr ⟨fun y hy => ?_, hp⟩) (Nat.le_succ_of_le hn)
      · rcases List.mem_cons.mp hp with rfl | hp
        · exact ⟨hn, Nat.lt_succ_self _⟩
        · exact ⟨(h p hp).1, Nat.lt_succ_of_lt (h p hp).2⟩
      · exact Nat.ne_of_gt (h y hy).2
    · exact cellsFrom_apart r n lo acc h hp hn
theorem cells_apart (names : List (Str × NameKind)) (L : Nat) : (∀ n a, (n, a) ∈ cellsFrom (L + 1) names [] → L < a) ∧ (cellsFrom (L + 1) names []).Pairwise fun x y => x.2 ≠ y.2 := by
  have := cellsFrom_apart names (L + 1) (L + 1) [] (fun _ h => nomatch h) List.Pairwise.nil (Nat.le_refl _)
  exact ⟨fun n a h => this.1 (n, a) h, this.2⟩

theorem law_open {c : Cfg} {A : Around} {env : Env} {body : List Stmt} {s₁ : Shared} {h₁ : Heap} {tk₁ : Nat} {m cm : Str → Option Value} {cells : List (Addr × Obj)} {a : Addr} {vs : List Value} {ns : List Int} {Q : Flow → Shared → Prop} {E : Value → Shared → Prop}
    (KX : c.K.In s₁.heap) (T : Top c.p c.loose c.mean c.mg c.mb s₁.heap) (hL : s₁.heap.IsList a vs.toArray) (hI : IntsAre vs ns)
    (F : Fr s₁.heap env.locals h₁ m) (N : News s₁.heap env.locals h₁ cells) (X : CellsAre cm env.cells cells) (hkind : env.scope.kind = .function) (hap : env.cells.Pairwise fun x y => x.2 ≠ y.2) (hab : ∀ n a, (n, a) ∈ env.cells → env.locals < a)
    (hLs : s₁.heap.objs.size ≤ env.locals) (hm : look env m cm "script" = some (.ref a)) (hok : okF env "script")
    (hEx : FrameOk env → Ex c A env (execs body env) none [(("script" : Str), .lst (ns.map .int))] (fun _ _ => False) (fun d => d = .bool true))
    (hQ : ∀ s', (∃ h tk, s' = { s₁ with heap := h, toks := tk }) → Ext s₁.heap s'.heap → Q (.ret (.bool true)) s') :
    wpAny (model c.prog c.w) A (execs body env) Q E { s₁ with heap := h₁, toks := tk₁ } := by
  obtain ⟨o, ho, hc, n, hd⟩ := hL
  have FO : FrameOk env := ⟨hkind, hap, hab⟩
  have wn : ∀ b, WF env b → s₁.heap.get? b = none := fun b hb => by
    rcases hb with rfl | ⟨n, hb⟩
    · exact fresh_ge hLs
    · exact fresh_ge (Nat.le_trans hLs (Nat.le_of_lt (hab n b (mem_of_lookup hb))))
  have S : Fst env s₁ [(a, o)] [(a, o)] [] none [(("script" : Str), .lst (ns.map .int))] { s₁ with heap := h₁, toks := tk₁ } := by
    refine ⟨⟨h₁, tk₁, rfl⟩, F.keep, wn, Has.one (F.keep _ _ ho), fun _ h => h, fun _ h => .inl h, fun p hp w => ?_, fun _ h => (nomatch h), fun _ h => (nomatch h), fun x d hx => ?_, _, ⟨m, cm, F.ns, fun n b hb => ?_, rfl⟩, fun x d hx => ?_, trivial⟩
    · have := wn _ w
      rw [List.mem_singleton.mp hp] at this
      rw [ho] at this; cases this
    · rw [List.lookup_cons] at hx
      split at hx
      · rename_i q; rw [beq_iff_eq.mp q]; exact hok
      · cases hx
    · obtain ⟨o, ho, hd⟩ := cellsAre_at X n b hb
      exact ⟨o, (N _ ho).1, hd⟩
    · rw [List.lookup_cons] at hx
      split at hx
      · rename_i q
        have q := beq_iff_eq.mp q
        subst q
        cases hx
        exact ⟨_, hm, .lst (.head _) hc hd (DAll.of_ints hI)⟩
      · cases hx
  refine hEx FO s₁ [(a, o)] [(a, o)] [] _ Q E ⟨KX, T⟩ S (fun _ _ _ _ h => h.elim) fun d v l' s' hr rt hd => ?_
  subst hr
  cases hd
  exact hQ s' rt.same rt.keep

/-! ### L19 -/
section
variable {c : Cfg} {A : Around} {env : Env} {σ : Sg}

def ltT (a b x y : Int) : Bool := if a = x then decide (b < y) else decide (a < x)
theorem op_ltT (hu : A.units + 64 < cLine) {a b x y : Int} : Op2 c A (compareOp .Lt) (.tup [.int a, .int b]) (.tup [.int x, .int y]) (.bool (ltT a b x y)) := fun s l va vb _ H ha hb Q E k => by
  cases ha with
  | tup hm hc hdd hv =>
    cases hb with
    | tup hm' hc' hdd' hv' =>
      rename_i ra oa xs na rb ob ys nb
      cases hv with
      | cons h1 hv => cases hv with
        | cons h2 hv =>
          cases hv
          cases hv' with
          | cons h3 hv' => cases hv' with
            | cons h4 hv' =>
              cases hv'
              cases h1; cases h2; cases h3; cases h4
              have hT : s.TypeIs (.ref ra) "tuple" := ⟨oa, H _ hm, hc⟩
              have hT' : s.TypeIs (.ref rb) "tuple" := ⟨ob, H _ hm', hc'⟩
              have fin : Q (.bool (ltT a b x y)) s := k.plain (tk := s.toks) (.bool _)
              refine wpAny_richCompare_same_room (op := .Lt) hT hT' F.slot_tuple_lt (wpAny_call_entry F.slot_tuple_lt hT F.entry_tuple_lt ?_ (F.args_tuple_lt_2 _ _)) (by omega)
              show wpAny _ _ (isInstance (.ref rb) (.type "tuple") >>= _) _ _ s
              refine wpAny_bind (wpAny_isInstance hT' isSubtype_tuple_tuple ?_)
              simp only [Bool.not_true, Bool.false_eq_true, if_false]
              refine wpAny_bind (wpAny_tupleItemsOf (H _ hm) hdd ?_)
              refine wpAny_bind (wpAny_tupleItemsOf (H _ hm') hdd' ?_)
              refine wpAny_bind ?_
              simp only [List.zip_cons_cons, List.zip_nil_right, List.forIn_cons, List.forIn_nil]
              refine wpAny_bind (wpAny_bind (wpAny_eqBool_int ?_))
              by_cases e1 : a = x
              · subst e1
                have e0 : (a == a) = true := by simp
                rw [e0]
                simp only [Bool.not_true, Bool.false_eq_true, if_false]
                refine wpAny_pure (wpAny_bind (wpAny_bind (wpAny_eqBool_int ?_)))
                by_cases e2 : b = y
                · subst e2
                  have e0 : (b == b) = true := by simp
                  rw [e0]
                  simp only [Bool.not_true, Bool.false_eq_true, if_false]
                  refine wpAny_pure (wpAny_pure ?_)
                  have : ltT a b a b = false := by simp [ltT]
                  rw [this] at fin
                  exact wpAny_pure ⟨_, rfl, (fun e => nomatch e), fin⟩
                · have e0 : (b == y) = false := by simpa using e2
                  rw [e0]
                  simp only [Bool.not_false, if_true]
                  have : ltT a b a y = decide (b < y) := by simp [ltT]
                  rw [this] at fin
                  refine wpAny_bind (wpAny_bind (wpAny_rule (wpAny_pure (wpAny_bind (show wpAny _ _ (compareOp .Lt (.int b _) (.int y _)) _ _ _ from PyProof.Rows.lt_int ?_)))))
                  exact wpAny_pure (wpAny_pure (wpAny_pure ⟨_, rfl, (fun e => nomatch e), fin⟩))
              · have e0 : (a == x) = false := by simpa using e1
                rw [e0]
                simp only [Bool.not_false, if_true]
                have : ltT a b x y = decide (a < x) := by simp [ltT, e1]
                rw [this] at fin
                refine wpAny_bind (wpAny_bind (wpAny_rule (wpAny_pure (wpAny_bind (show wpAny _ _ (compareOp .Lt (.int a _) (.int x _)) _ _ _ from PyProof.Rows.lt_int ?_)))))
                exact wpAny_pure (wpAny_pure (wpAny_pure ⟨_, rfl, (fun e => nomatch e), fin⟩))
end

/-! ### L20 -/
section
variable {c : Cfg} {A : Around} {env : Env} {own : Own} {σ : Sg} {R : D → Prop}

/-- from one state of the frame to the next: pv, pv' are objects that others hold -/
theorem Fst.next {s₀ s : Shared} {l₀ l fx pv pv' nw : Led} (S : Fst env s₀ l₀ l (pv ++ fx) own σ s) {h' : Heap} {tk : Nat}
    (hI : ∀ r ∈ pv, s₀.heap.get? r.1 = none) (hfx : ∀ p ∈ fx, ∀ r ∈ pv, p.1 ≠ r.1) (keep : ∀ b o, (∀ r ∈ pv, b ≠ r.1) → s.heap.get? b = some o → h'.get? b = some o)
    (hnew : Has h' pv') (hpv : ∀ p ∈ pv', (∃ r ∈ pv, p.1 = r.1) ∨ s.heap.get? p.1 = none) (fr : Fre s.heap nw) (hn : Has h' nw) (dis : ∀ p ∈ nw, ∀ r ∈ pv', p.1 ≠ r.1) :
    Fst env s₀ l₀ (nw ++ l) (pv' ++ fx) own σ { s with heap := h', toks := tk } := by
  have offp : ∀ r ∈ pv, ¬ WF env r.1 ∧ ∀ p ∈ l, p.1 ≠ r.1 := fun r hr => S.offF r (List.mem_append_left _ hr)
  have fW : ∀ a, s.heap.get? a = none → ¬ WF env a := fun a ha w => by
    obtain ⟨ρ0, hE0, _⟩ := S.es
    obtain ⟨o, ho⟩ := hE0.alive w
    rw [ha] at ho; cases ho
  refine ⟨?_, fun b o q => keep b o (fun r hr z => ?_) (S.keep b o q), S.wn, fun p hp => ?_, fun p hp => List.mem_append_right _ (S.sub p hp), fun p hp => ?_, fun p hp => ?_, fun p hp => ?_, fun q hq => ?_, S.ok, ?_⟩
  · obtain ⟨h, t, rfl⟩ := S.same; exact ⟨h', tk, rfl⟩
  · rw [z, hI r hr] at q; cases q
  · rcases List.mem_append.mp hp with hp | hp
    · exact hn p hp
    · exact keep _ _ (fun r hr => (offp r hr).2 p hp) (S.has p hp)
  · rcases List.mem_append.mp hp with hp | hp
    · exact .inr (none_of_ext S.keep (fr p hp))
    · exact S.new p hp
  · rcases List.mem_append.mp hp with hp | hp
    · exact fW _ (fr p hp)
    · exact S.off p hp
  · rcases List.mem_append.mp hp with hp | hp
    · exact hnew p hp
    · exact keep _ _ (fun r hr => hfx p hp r hr) (S.hasF p (List.mem_append_right _ hp))
  · rcases List.mem_append.mp hq with hq' | hq'
    · refine ⟨?_, fun p hp => ?_⟩
      · rcases hpv q hq' with ⟨r, hr, e⟩ | e
        · rw [e]; exact (offp r hr).1
        · exact fW _ e
      · rcases List.mem_append.mp hp with hp | hp
        · exact dis p hp q hq'
        · rcases hpv q hq' with ⟨r, hr, e⟩ | e
          · rw [e]; exact (offp r hr).2 p hp
          · exact ne_of_get (S.has p hp) e
    · refine ⟨(S.offF q (List.mem_append_right _ hq')).1, fun p hp => ?_⟩
      rcases List.mem_append.mp hp with hp | hp
      · exact Ne.symm (ne_of_get (S.hasF q (List.mem_append_right _ hq')) (fr p hp))
      · exact (S.offF q (List.mem_append_right _ hq')).2 p hp
  · obtain ⟨ρ, hE, hσ, hown⟩ := S.es
    refine ⟨ρ, hE.keep fun b o w q => keep b o (fun r hr z => (offp r hr).1 (z ▸ w)) q, fun x d hx => let ⟨v, a, b⟩ := hσ x d hx; ⟨v, a, b.mono sub_app⟩, ?_⟩
    cases own with
    | none => trivial
    | some z =>
      obtain ⟨q, vs, n', h1, h2, h3, h4, h5, h6, h7⟩ := hown
      refine ⟨q, vs, n', h1, keep _ _ (fun r hr => Ne.symm (h7 r (List.mem_append_left _ hr))) h2, h3.mono sub_app, h4, h5, fun p hp => ?_, fun p hp => ?_⟩
      · rcases List.mem_append.mp hp with hp | hp
        · exact Ne.symm (ne_of_get h2 (fr p hp))
        · exact h6 p hp
      · rcases List.mem_append.mp hp with hp | hp
        · rcases hpv p hp with ⟨r, hr, e⟩ | e
          · rw [e]; exact h7 r (List.mem_append_left _ hr)
          · exact Ne.symm (ne_of_get h2 e)
        · exact h7 p (List.mem_append_right _ hp)

/-! ### [x] * n -/
theorem rep_all {l : Led} {i : Int} {t : Tok} : ∀ n : Nat, DAll l (List.replicate n (Value.int i t)) (List.replicate n (D.int i))
  | 0 => .nil
  | n + 1 => .cons (.int i t) (rep_all n)
theorem Ev.mulL {e b : Expr} {p pos : Pos} {i k : Int} (he : Ev c A env σ e (.int i)) (hb : Ev c A env σ b (.int k)) (h0 : 0 ≤ k) (h1 : k < 1000) (hst : starEach [e] env = [(false, eval e env)] := by rfl) :
    Ev c A env σ (.BinOp (.List [e] p) .Mult b pos) (.lst (List.replicate k.toNat (.int i))) := fun s l G H S Q E q => by
  refine wpAny_BinOp (List_ ((Evs.cons he Evs.nil hst) s l G H S p _ _ fun vs nw h' tk e f n hd => ?_))
  cases hd with
  | cons hx hn =>
    cases hn
    cases hx
    rename_i t
    refine wpAny_newObj_type ?_ (by show (1 : Nat) ≤ sizeLine; decide)
    have e1 : Ext h' (h'.push { cls := .type "list", dict := none, data := .seq ([Value.int i t] : List Value).toArray }) := Ext.push _ _
    refine hb { s with heap := h'.push { cls := .type "list", dict := none, data := .seq ([Value.int i t] : List Value).toArray }, toks := tk } l (G.ext (e.trans e1)) (H.ext (e.trans e1)) (S.ext (e.trans e1) fun _ h => h) _ _ fun vb nw' h'' tk' e2 f2 n2 hd2 => ?_
    cases hd2
    rename_i u
    have hl : h''.get? h'.objs.size = some { cls := .type "list", dict := none, data := .seq ([Value.int i t] : List Value).toArray 0, slots := #[] } := e2 _ _ (Heap.get?_push_size _ rfl)
    refine wpAny_binaryOp_repeat_ref (T := "list") (U := "int") (by decide) ⟨_, hl, rfl⟩ (fun s' => typeIs_int s' k u) noFill_list_mul F.fills_int_mul F.slot_int_rmul repeat_list F.slot_int_index.lookup
      (call_meets F.slot_int_rmul (typeIs_int _ k u) F.entry_int_rmul (F.args_int_rmul_2 _ _) (int___rmul___int_list k u _ _ 0)
        ⟨hl, rfl, ⟨_, hl, rfl⟩, call_meets F.slot_list_mul ⟨_, hl, rfl⟩ F.entry_list_mul (F.args_list_mul_2 _ _)
          (AutoListH.list___mul___list_int_3 _ _ 0 k u (by simp [Builtin.List.listFitsIndex]; omega) (by simp; omega) (by simp [Builtin.List.listTooLong, sizeLine]; omega))
          ⟨hl, ?_⟩⟩)
    refine q _ [(h''.objs.size, lsO (List.replicate k.toNat (.int i t)) 0)] _ tk' ((e.trans e1).trans (e2.trans (Ext.push _ _))) (Fre.one (none_of_ext ((e.trans e1).trans e2) (fresh_size _))) (Has.one ?_) ?_
    · refine (Heap.get?_push_size _ rfl).trans ?_
      have key : ∀ n : Nat, (List.foldl (fun x1 x2 => x1 ++ x2) #[] (List.replicate n #[Value.int i t])).toList = List.replicate n (Value.int i t) := by
        intro n
        have : ∀ (n : Nat) (acc : Array Value), (List.foldl (fun x1 x2 => x1 ++ x2) acc (List.replicate n #[Value.int i t])).toList = acc.toList ++ List.replicate n (Value.int i t) := by
          intro n
          induction n with
          | zero => intro acc; simp
          | succ n ih => intro acc; rw [List.replicate_succ, List.foldl_cons, ih]; simp [List.replicate_succ]
        simpa using this n #[]
      have key' := key k.toNat
      simp only [List.isEmpty_toArray, List.isEmpty_cons, Bool.false_eq_true, if_false]
      rw [← key', Array.toArray_toList]
    · exact .lst (vs := List.replicate k.toNat (.int i t)) (n := 0) (List.mem_append_left _ (.head _)) rfl rfl (rep_all _)

/-! ### a test of three -/
theorem Tr.chain {a b e : Expr} {op op' : CmpOp} {pos : Pos} {da db de : D} {r r' : Bool} (ha : Ev c A env σ a da) (hb : Ev c A env σ b db) (he : Ev c A env σ e de) (ho : Op2 c A (compareOp op) da db (.bool r)) (ho' : Op2 c A (compareOp op') db de (.bool r'))
    (hm : lastMarks [op, op'] [b, e] = false := by with_unfolding_all rfl) : Tr c A env σ (.Compare a [op, op'] [b, e] pos) (r && r') := fun s l G H S Q E k => by
  refine isTrue_chain (ha s l G H S _ _ fun va nw h1 tk e1 f1 n1 d1 => test_link ?_) hm
  have G1 := G.ext e1
  have H1 := n1.append (H.ext e1)
  have S1 := S.ext e1 (sub_app (l := nw))
  refine hb { s with heap := h1, toks := tk } (nw ++ l) G1 H1 S1 _ _ fun vb nw2 h2 tk2 e2 f2 n2 d2 => ?_
  have G2 := G1.ext e2
  have H2 := n2.append (H1.ext e2)
  have S2 := S1.ext e2 (sub_app (l := nw2))
  refine ho { s with heap := h2, toks := tk2 } (nw2 ++ (nw ++ l)) va vb G2 H2 (d1.mono sub_app) d2 _ _ fun v nw3 h3 tk3 e3 f3 n3 d3 => ?_
  cases d3
  refine wpAny_truthy_bool ?_
  cases r with
  | false => exact k h3 tk3 (e1.trans (e2.trans e3))
  | true =>
    simp only [if_true]
    have G3 := G2.ext e3
    have H3 := n3.append (H2.ext e3)
    have S3 := S2.ext e3 (sub_app (l := nw3))
    refine test_last (he { s with heap := h3, toks := tk3 } _ G3 H3 S3 _ _ fun vc nw4 h4 tk4 e4 f4 n4 d4 => ?_)
    refine ho' { s with heap := h4, toks := tk4 } _ vb vc (G3.ext e4) (n4.append (H3.ext e4)) ((d2.mono (sub_app (l := nw3))).mono (sub_app (l := nw4))) d4 _ _ fun v nw5 h5 tk5 e5 f5 n5 d5 => ?_
    cases d5
    refine wpAny_truthy_bool ?_
    rw [Bool.true_and] at k
    exact k h5 tk5 (e1.trans (e2.trans (e3.trans (e4.trans e5))))

/-! ### for .. in enumerate(a list) -/
theorem Ex.forEnum (F : FrameOk env) (hA : A.handled = none) {elts : List Expr} {tn : Nat} {tp : Pos} {arg : Expr} {xp ip : Pos} {body : List Stmt} {pos : Pos} {ds : List D} {own : Own} (bs : Nat → D → Sg) (Inv : Nat → Own → Sg → Prop)
    (hg : GName c env "enumerate" (.type "enumerate")) (hi : Ev c A env σ arg (.lst ds)) (hst : starEach [arg] env = [(false, eval arg env)])
    (htgt : ∀ (i : Nat) d, ds[i]? = some d → Tgt c env (WF env) (ESF env) (.Tuple elts tn tp) (.tup [.int (i : Int), d]) (bs i d)) (hok : ∀ i d, ds[i]? = some d → ∀ x e, (bs i d).lookup x = some e → okF env x)
    (hown : ∀ i own σ d, Inv i own σ → ds[i]? = some d → ∀ y es, own = some (y, es) → (bs i d).lookup y = none) (h0 : Inv 0 own σ)
    (hbody : ∀ i d own σ, ds[i]? = some d → Inv i own σ → Ex c A env (execs body env) own (bs i d ++ σ) (Inv (i + 1)) R)
    (hs : ∀ x, foldedSetIterable (.Call (.Name "enumerate" xp) [arg] [] ip) env x = pure x := by intro _; rfl) :
    Ex c A env (exec (.For (.Tuple elts tn tp) (.Call (.Name "enumerate" xp) [arg] [] ip) body [] pos) env) own σ (Inv ds.length) R :=
  fun s₀ l₀ l fx s Q E G S k1 k2 => wpAny_For (wpAny_Call_Name_kw (hg A s _ E xp (S.G G) (by
    show wpAny _ A (callWith ip (.type "enumerate") [] (backTo ip (starEach [arg] env)) []) _ E s
    rw [hst]
    refine PySem.callWith_type rfl (evalArgs_plain (spliced_cons (hi s l (S.G G) S.has (S.sig F) _ _ fun v nw h' tk e f n hd => spliced_nil ?_)))
    have S1 : Fst env s₀ l₀ (nw ++ l) fx own σ { s with heap := h', toks := tk } := S.grow e f n
    cases hd with
    | lst hm hc hdd hv =>
      rename_i a o vs m
      have hL : h'.IsList a vs.toArray := ⟨o, S1.has _ hm, hc, m, hdd⟩
      refine call_enumerate_list (s := { s with heap := h', toks := tk }) hL fun h₂ he hit hsz hk => ?_
      refine wpAny_pyIter_enum he ?_
      have hIE : h'.get? (h'.objs.size + 1) = none := fresh_ge (Nat.le_succ _)
      have hII : h'.get? h'.objs.size = none := fresh_size _
      obtain ⟨oit, hoit, _⟩ := id hit
      have S2 : Fst env s₀ l₀ (nw ++ l) ([(h'.objs.size + 1, _), (h'.objs.size, oit)] ++ fx) own σ { s with heap := h₂, toks := tk } :=
        Fst.next (pv := []) (nw := []) S1 (fun _ h => nomatch h) (fun _ _ _ h => nomatch h) (fun b o _ q => hk b o q) (fun p hp => by
          rcases List.mem_cons.mp hp with rfl | hp
          · exact he
          · rw [List.mem_singleton.mp hp]; exact hoit) (fun p hp => .inr (by
          rcases List.mem_cons.mp hp with rfl | hp
          · exact hIE
          · rw [List.mem_singleton.mp hp]; exact hII)) .nil .nil (fun _ h => nomatch h)
      have z1 : s₀.heap.get? (h'.objs.size + 1) = none := none_of_ext S1.keep hIE
      have z2 : s₀.heap.get? h'.objs.size = none := none_of_ext S1.keep hII
      have hfx : ∀ p ∈ fx, ∀ b, b = h'.objs.size + 1 ∨ b = h'.objs.size → p.1 ≠ b := fun p hp b hb => by
        rcases hb with rfl | rfl
        · exact ne_of_get (S1.hasF p hp) hIE
        · exact ne_of_get (S1.hasF p hp) hII
      generalize hE1 : h'.objs.size + 1 = en at *
      generalize hI1 : h'.objs.size = it at *
      have hne : en ≠ it := by omega
      refine forRun (fun n s' => ∃ i own' σ' l' oe oi old, n = ds.length - i ∧ i ≤ ds.length ∧ Inv i own' σ' ∧ (∀ p ∈ nw ++ l, p ∈ l') ∧ Fst env s₀ l₀ l' ([(en, oe), (it, oi)] ++ fx) own' σ' s' ∧ IsEnum s'.heap en it i old ∧ s'.heap.IsListIter it a i) ?_ ds.length
        ⟨0, own, σ, nw ++ l, _, oit, _, rfl, Nat.zero_le _, h0, fun _ h => h, S2, he, hit⟩
      rintro n s' ⟨i, own', σ', l', oe, oi, old, rfl, hi, hInv, hsub, S3, he3, hit3⟩
      have hL3 : s'.heap.IsList a vs.toArray := ⟨o, S3.has _ (hsub _ hm), hc, m, hdd⟩
      have hlen := hv.length
      by_cases hlt : i < ds.length
      · obtain ⟨d, hd⟩ : ∃ d, ds[i]? = some d := ⟨_, List.getElem?_eq_getElem hlt⟩
        obtain ⟨x, hx, hD⟩ := hv.at hd
        refine wpAny_pyNext_enum_item he3 hit3 hL3 (x := x) (by simpa using hx) hne fun h₃ heo hit4 htup hsz3 hk3 => ?_
        dsimp only
        refine wpAny_letOwnedTupleGo_enum (s := { s' with heap := h₃, toks := s'.toks + 1 }) heo fun h₄ he5 hs5 => ?_
        have hq : s'.heap.get? s'.heap.objs.size = none := fresh_size _
        have hqe : s'.heap.objs.size ≠ en := fun z => by rw [z] at hq; rw [he3] at hq; cases hq
        obtain ⟨oi4, hoi4, _⟩ := id hit4
        have hoi5 : h₄.get? it = some oi4 := hs5.extBut _ _ (Ne.symm hne) hoi4
        have hqi : s'.heap.objs.size ≠ it := fun z => by
          obtain ⟨o3, ho3, _⟩ := hit3
          rw [z, ho3] at hq; cases hq
        have ht5 : h₄.get? s'.heap.objs.size = some { cls := .type "tuple", data := .seq #[.int i s'.toks, x] } := hs5.extBut _ _ hqe htup
        have S5 : Fst env s₀ l₀ ([(s'.heap.objs.size, { cls := .type "tuple", data := .seq #[.int i s'.toks, x] })] ++ l') ([(en, _), (it, oi4)] ++ fx) own' σ' { s' with heap := h₄, toks := s'.toks + 1 } :=
          Fst.next S3 (fun r hr => by
            rcases List.mem_cons.mp hr with rfl | hr
            · exact z1
            · rw [List.mem_singleton.mp hr]; exact z2) (fun p hp r hr => by
            rcases List.mem_cons.mp hr with rfl | hr
            · exact hfx p hp _ (.inl rfl)
            · rw [List.mem_singleton.mp hr]; exact hfx p hp _ (.inr rfl)) (fun b o hb q => hs5.extBut b o (hb (en, _) (.head _)) (hk3 b o (hb (en, _) (.head _)) (hb (it, _) (.tail _ (.head _))) q)) (fun p hp => by
            rcases List.mem_cons.mp hp with rfl | hp
            · exact he5
            · rw [List.mem_singleton.mp hp]; exact hoi5) (fun p hp => by
            rcases List.mem_cons.mp hp with rfl | hp
            · exact .inl ⟨_, .head _, rfl⟩
            · rw [List.mem_singleton.mp hp]; exact .inl ⟨_, .tail _ (.head _), rfl⟩) (Fre.one hq) (Has.one ht5) (fun p hp r hr => by
            rw [List.mem_singleton.mp hp]
            rcases List.mem_cons.mp hr with rfl | hr
            · exact hqe
            · rw [List.mem_singleton.mp hr]; exact hqi)
        obtain ⟨ρ, hE, hσ, hO⟩ := S5.es
        have hdt : DIn ([(s'.heap.objs.size, ({ cls := .type "tuple", data := .seq #[.int i s'.toks, x] } : Obj))] ++ l') (.ref s'.heap.objs.size) (.tup [.int i, d]) :=
          .tup (vs := [.int i s'.toks, x]) (n := 0) (.head _) rfl rfl (.cons (.int _ _) (.one (hD.mono fun p hp => List.mem_append_right _ (hsub p hp))))
        refine htgt i d hd A { s' with heap := h₄, toks := s'.toks + 1 } _ _ ρ _ _ hA S5.has S5.off hdt hE fun h₅ tk₅ ρ' hE' hk' hb => ?_
        have S6 := S5.bind (tk := tk₅) hE hσ hO hE' hk' hb (hok i d hd) (hown i own' σ' d hInv hd)
        refine hbody i d own' σ' hd hInv s₀ l₀ _ _ _ _ _ G S6 (fun own'' σ'' l'' s'' hN hl' S7 => ?_) fun dd v l'' s'' hr rt hd' => k2 dd v l'' s'' hr rt hd'
        have ee : s''.heap.get? en = _ := S7.hasF (en, _) (.head _)
        have ei : s''.heap.get? it = some oi4 := S7.hasF (it, oi4) (.tail _ (.head _))
        refine ⟨ds.length - (i + 1), by omega, i + 1, own'', σ'', l'', _, _, x, rfl, hlt, hN, fun p hp => hl' p (List.mem_append_right _ (hsub p hp)), S7, ?_, ?_⟩
        · have : ((i + 1 : Nat) : Int) = (i : Int) + 1 := by omega
          rw [IsEnum, this]
          exact ee
        · obtain ⟨o4, ho4, r4⟩ := hit4
          rw [hoi4] at ho4
          cases ho4
          exact ⟨_, ei, r4⟩
      · obtain rfl : i = ds.length := Nat.le_antisymm hi (Nat.not_lt.mp hlt)
        refine wpAny_pyNext_enum_end hA he3 hit3 hL3 (by simp [hlen]) fun h₃ hb3 => ?_
        dsimp only
        have S8 : Fst env s₀ l₀ l' fx own' σ' { s' with heap := h₃, toks := s'.toks } := Fst.next (pv' := []) (nw := []) S3 (fun r hr => by
            rcases List.mem_cons.mp hr with rfl | hr
            · exact z1
            · rw [List.mem_singleton.mp hr]; exact z2) (fun p hp r hr => by
            rcases List.mem_cons.mp hr with rfl | hr
            · exact hfx p hp _ (.inl rfl)
            · rw [List.mem_singleton.mp hr]; exact hfx p hp _ (.inr rfl)) (fun b o hb q => hb3 b o (hb (it, _) (.tail _ (.head _))) q) (fun _ h => nomatch h) (fun _ h => nomatch h) .nil .nil (fun _ h => nomatch h)
        exact wpAny_execs_nil (k1 own' σ' l' _ hInv (fun p hp => hsub p (List.mem_append_right _ hp)) S8)))) hs

/-! ### x = [.. for ..], x a name of the frame's own -/
theorem Ex.assignComp (F : FrameOk env) (hA : A.handled = none) {scope : Scope} {τ : Sg} {α β : Type} (enc : α → D) (dec : D → α) (hdec : ∀ x, dec (enc x) = x) (enc' : β → D) {xs : List α} (q : α → Bool) (g : α → β) (bs : α → Sg)
    {y : Str} {py spos : Pos} {elt target iter : Expr} {ifs : List Expr} {pos : Pos} {di : D} (hi : Ev c A env σ iter di) (he : elems di = some (xs.map enc))
    (hsm : ∀ a b, di = .rng a b → Builtin.Range.small a b 1 = true) (hz : xs.length ≤ sizeLine)
    (hclos : closureFor scope env = pure (clFor scope env)) (K : Caps env scope (clFor scope env) σ τ)
    (htgt : ∀ x ∈ xs, ∀ C, Tgt c (compEnvC scope (clFor scope env) C env) (fun b => b = C) (fun h ρ => h.Ns C ρ) target (enc x) (bs x))
    (hnm : ∀ x ∈ xs, ∀ y e, (bs x).lookup y = some e → compOk scope (clFor scope env) y)
    (htest : ∀ x ∈ xs, ∀ C, Tests c A (compEnvC scope (clFor scope env) C env) (bs x ++ τ) ifs (q x))
    (helt : ∀ x ∈ xs, q x = true → ∀ C, Ev c A (compEnvC scope (clFor scope env) C env) (bs x ++ τ) elt (enc' (g x)))
    (hcell : ∀ y ∈ scope.names, y.2 ≠ .cell) (hkind : scope.kind = .function) (hnames : ∀ y ∈ scope.names, y.2 = .local → scope.names.lookup y.1 = some .local)
    (hy : okF env y) (hsw : swapsWith (.ListComp elt [⟨target, iter, ifs, 0⟩] scope pos) (some (.Name y py)) spos.line env = pure true)
    (hs : ∀ x, foldedSetIterable iter env x = pure x := by intro _; rfl) :
    Ex c A env (exec (.Assign [.Name y py] (.ListComp elt [⟨target, iter, ifs, 0⟩] scope pos) spos) env) none σ (fun o s => o = none ∧ s = (y, .lst (((xs.filter q).map g).map enc')) :: σ) R :=
  fun s₀ l₀ l fx s Q E G S k1 k2 => by
  have key : ((xs.map enc).filter fun d => q (dec d)).map (fun d => enc' (g (dec d))) = ((xs.filter q).map g).map enc' := by
    have e1 : ((fun d => q (dec d)) ∘ enc) = q := by funext x; simp [hdec]
    have e2 : ((fun d => enc' (g (dec d))) ∘ enc) = enc' ∘ g := by funext x; simp [hdec]
    rw [List.filter_map, List.map_map, List.map_map, e1, e2]
  rw [← key] at k1
  have O : Cla c A env scope (clFor scope env) τ elt target ifs (xs.map enc) (fun d => bs (dec d)) (fun d => q (dec d)) (fun d => enc' (g (dec d))) := by
    refine ⟨?_, ?_, ?_, ?_⟩
    · intro d hd C
      obtain ⟨x, hx, rfl⟩ := List.mem_map.mp hd
      rw [hdec]; exact htgt x hx C
    · intro d hd y e hy
      obtain ⟨x, hx, rfl⟩ := List.mem_map.mp hd
      rw [hdec] at hy; exact hnm x hx y e hy
    · intro d hd C
      obtain ⟨x, hx, rfl⟩ := List.mem_map.mp hd
      rw [hdec]; exact htest x hx C
    · intro d hd hq C
      obtain ⟨x, hx, rfl⟩ := List.mem_map.mp hd
      rw [hdec] at hq ⊢; exact helt x hx hq C
  rw [exec_Assign_Name_used _ _ _ _ hsw]
  refine wpAny_bind (wpAny_standAt (wpAny_bind ?_))
  show wpAny _ A (do let _ ← comprehension (.ListComp elt [⟨target, iter, ifs, 0⟩] scope pos) scope env _ (newList []) false (eval iter env) (some (PySem.assign (.Name y py) env))) _ _ s
  refine wpAny_bind (wpAny_mono (wpAny_comprehension_free (use := some (PySem.assign (.Name y py) env)) (Q := fun _ s' => Q .next s') rfl hs hclos hkind hnames
    (hi s l (S.G G) S.has (S.sig F) _ _ fun v nw h' tk e fr n hd => ?_)) (fun _ s' hq => wpAny_pure (wpAny_pure hq)) fun _ _ e => e)
  have S1 : Fst env s₀ l₀ (nw ++ l) fx none σ { s with heap := h', toks := tk } := S.grow e fr n
  refine iter_any (s := { s with heap := h', toks := tk }) hA S1.has hd he hsm fun I h₂ St It hst e₂ hI => ?_
  refine blockRun (s := { s with heap := h', toks := tk }) (l := nw ++ l) (σ := σ) (τ := τ) (outs := ((xs.map enc).filter fun d => q (dec d)).map (fun d => enc' (g (dec d)))) (S1.G G) S1.has (S1.sig F) K e₂ hI (iter_lt It hst) hcell hkind ?_ ?_
  · intro C D2 h₁ tk₁ m B S2 hIC hID e₁ hR
    exact oneLoop (s := { s with heap := h', toks := tk }) (RR := fun acc C => compPost (model c.prog c.w) A E (some (PySem.assign (.Name y py) env)) (fun _ s' => Q .next s') acc C) hA O (by rw [List.length_map]; exact hz) It (fun _ h => h) (S1.has.ext e₂) hst hI S1.has C D2 h₁ tk₁ m B S2 hIC hID e₁ hR
  · rintro C D2 h tk₁ ⟨l', ys, m, eb, hsub, hnew, hl', hoff, hlist, hall, hns, hne, hnC, hnD⟩
    obtain ⟨oC, _, _, hoC, _⟩ := id hns
    obtain ⟨nw', f1, f2, f4, f3⟩ := split_led hnew hl'
    have S3 : Fst env s₀ l₀ (((D2, lstO ys) :: nw') ++ (nw ++ l)) ([(C, oC)] ++ fx) none σ { s with heap := h, toks := tk₁ } :=
      Fst.next (pv := []) S1 (fun _ h => nomatch h) (fun _ _ _ h => nomatch h) (fun b o _ q => eb b o q) (Has.one hoC) (fun p hp => .inr (by rw [List.mem_singleton.mp hp]; exact hnC)) (fun p hp => by
        rcases List.mem_cons.mp hp with rfl | hp
        · exact hnD
        · exact f1 p hp) (fun p hp => by
        rcases List.mem_cons.mp hp with rfl | hp
        · exact hlist
        · exact f2 p hp) (fun p hp r hr => by
        rw [List.mem_singleton.mp hr]
        rcases List.mem_cons.mp hp with rfl | hp
        · exact Ne.symm hne
        · exact (hoff p (f4 p hp)).1)
    have hD : DIn (((D2, lstO ys) :: nw') ++ (nw ++ l)) (.ref D2) (.lst (((xs.map enc).filter fun d => q (dec d)).map (fun d => enc' (g (dec d))))) :=
      .lst (vs := ys) (n := ys.length) (List.mem_append_left _ (.head _)) rfl rfl (hall.mono fun p hp => by
        rcases List.mem_append.mp (f3 p hp) with z | z
        · exact List.mem_append_left _ (List.mem_cons_of_mem _ z)
        · exact List.mem_append_right _ z)
    obtain ⟨ρ, hE, hσ, hO⟩ := S3.es
    show wpAny _ A (PySem.assign (.Name y py) env (.ref D2)) _ _ _
    refine Tgt.name (c := c) (frameVars F) hy A { s with heap := h, toks := tk₁ } _ _ ρ _ _ hA S3.has S3.off hD hE fun h₅ tk₅ ρ' hE' hk' hb => ?_
    have S4 := S3.bind (tk := tk₅) hE hσ hO hE' hk' hb (fun x d hx => by
      rw [List.lookup_cons] at hx
      split at hx
      · rename_i q; rw [beq_iff_eq.mp q]; exact hy
      · cases hx) (fun _ _ h => nomatch h)
    have hCW : ¬ WF env C := (S3.offF (C, oC) (.head _)).1
    refine ⟨m, hns.at' fun o q => hk' _ o hCW q, fun h₆ hs₆ => ?_⟩
    have z1 : s₀.heap.get? C = none := none_of_ext S1.keep hnC
    have S5 : Fst env s₀ l₀ (((D2, lstO ys) :: nw') ++ (nw ++ l)) fx none _ { s with heap := h₆, toks := tk₅ } := Fst.next (pv := [(C, oC)]) (pv' := []) (nw := []) S4 (fun r hr => by rw [List.mem_singleton.mp hr]; exact z1) (fun p hp r hr => by
        rw [List.mem_singleton.mp hr]
        exact ne_of_get (S1.hasF p hp) hnC) (fun b o hb q => hs₆.extBut b o (hb (C, oC) (.head _)) q) (fun _ h => nomatch h) (fun _ h => nomatch h) .nil .nil (fun _ h => nomatch h)
    exact k1 none _ _ _ ⟨rfl, rfl⟩ (fun p hp => List.mem_append_right _ (List.mem_append_right _ hp)) S5
end

/-! ### T2 -/
set_option maxRecDepth 100000 in
set_option maxHeartbeats 8000000 in
open_top hd02 for PySem.Challenge.rw_hg0001_02

set_option maxRecDepth 100000

/-! ### E1 -/
theorem bt_len : bootBuiltins "len" = some (.builtin "len") := by decide +kernel
theorem bt_max : bootBuiltins "max" = some (.builtin "max") := by decide +kernel
theorem bt_min : bootBuiltins "min" = some (.builtin "min") := by decide +kernel
theorem bt_sum : bootBuiltins "sum" = some (.builtin "sum") := by decide +kernel
theorem bt_sorted : bootBuiltins "sorted" = some (.builtin "sorted") := by decide +kernel
theorem bt_range : bootBuiltins "range" = some (.type "range") := by decide +kernel
theorem bt_enumerate : bootBuiltins "enumerate" = some (.type "enumerate") := by decide +kernel

local macro_rules | `(tactic| walk_at "ev fit") => `(tactic| first | assumption | omega | (simp only [List.length_append, List.length_map, List.length_cons, List.length_nil, List.length_take, List.length_drop, List.length_range, sizeLine_eq] at *; omega))
local macro_rules | `(tactic| walk_at "gn") => `(tactic| first
  | (refine GName.B rfl ?b (by subst_vars; rfl) (by subst_vars; rfl) (by subst_vars; rfl) (by subst_vars; rfl); (case b => first | exact bt_len | exact bt_max | exact bt_min | exact bt_sum | exact bt_sorted | exact bt_range | exact bt_enumerate))
  | exact GName.K rfl (by subst_vars; rfl) (by subst_vars; rfl) (by subst_vars; rfl))
local macro_rules | `(tactic| walk_at "ev op") => `(tactic| first
  | exact op_add | exact op_sub | exact op_lt | exact op_gt | exact op_le | exact op_ge | exact op_eq | exact op_ne | exact op_neb | exact op_neg
  | exact op_fdiv (by decide) (by decide) | exact op_mod (by decide) | exact op_is_none' | exact op_is_none rfl | exact op_isnot_none' | exact op_isnot_none rfl)
local macro_rules | `(tactic| walk_at "ev call") => `(tactic| first
  | exact call_len rfl (by walk_at "ev fit")
  | exact call_max2 (by assumption) | exact call_min2 (by assumption)
  | exact call_sum (by assumption)
  | exact call_range1 | exact call_range2)
local macro_rules | `(tactic| walk_at "evs") => `(tactic| first
  | exact Evs.nil
  | (refine' Evs.cons ?a ?b; (case a => walk_at "ev"); (case b => walk_at "evs")))
local macro_rules | `(tactic| walk_at "ev") => `(tactic| first
  | exact Ev.name rfl
  | exact Ev.int
  | exact Ev.cbool
  | exact Ev.cnone
  | (refine' Ev.bin ?a ?b ?o; (case a => walk_at "ev"); (case b => walk_at "ev"); (case o => walk_at "ev op"))
  | (refine' Ev.cmp ?a ?b ?o; (case a => walk_at "ev"); (case b => walk_at "ev"); (case o => walk_at "ev op"))
  | (refine' Ev.una ?a ?o; (case a => walk_at "ev"); (case o => walk_at "ev op"))
  | (refine' Ev.callB ?g ?a ?o; (case g => walk_at "gn"); (case a => walk_at "evs"); (case o => walk_at "ev call"))
  | (refine' Ev.callT ?g ?a ?o; (case g => walk_at "gn"); (case a => walk_at "evs"); (case o => walk_at "ev call"))
  | (refine' Ev.tuple ?a (by simp [sizeLine_eq]); (case a => walk_at "evs"))
  | (refine' Ev.list ?a (by simp [sizeLine_eq]); (case a => walk_at "evs")))
local macro_rules | `(tactic| walk_at "tr") => `(tactic| first
  | (refine' Tr.cmp ?a ?b ?o; (case a => walk_at "ev"); (case b => walk_at "ev"); (case o => walk_at "ev op"))
  | (refine' Tr.plain ?a; (case a => walk_at "ev")))
local macro_rules | `(tactic| walk_at "okf") => `(tactic| (subst_vars; exact okF_of rfl))
local macro_rules | `(tactic| walk_at "okl") => `(tactic| (subst_vars; first | exact .inl ⟨rfl, rfl⟩ | exact .inr ⟨rfl, rfl⟩))
local macro_rules | `(tactic| walk_at "okl1") => `(tactic| refine okS (List.forall_mem_cons.mpr ⟨by walk_at "okl", fun _ h => nomatch h⟩))
local macro_rules | `(tactic| walk_at "okl2") => `(tactic| refine okS (List.forall_mem_cons.mpr ⟨by walk_at "okl", List.forall_mem_cons.mpr ⟨by walk_at "okl", fun _ h => nomatch h⟩⟩))
local macro_rules | `(tactic| walk_at "cap") => `(tactic| (repeat (first | exact Caps.nil | refine Caps.cons rfl (by subst_vars; rfl) (by subst_vars; rfl) (by subst_vars; first | exact .inl rfl | exact .inr rfl) (by decide) ?_)))
local macro_rules | `(tactic| walk_at "nm1") => `(tactic| (intro x hx y e hy; rw [List.lookup_cons] at hy; split at hy; (rename_i q; rw [beq_iff_eq.mp q]; subst_vars; exact ⟨rfl, rfl⟩); (cases hy)))
local macro_rules | `(tactic| walk_at "tg1") => `(tactic| exact fun x hx C => Tgt.name (compVars rfl) (by subst_vars; exact ⟨rfl, rfl⟩))
local macro_rules | `(tactic| walk_at "own") => `(tactic| (intro _ _ h; cases h))

/-- σ has what τ has -/
def Cov (τ σ : Sg) : Prop := ∀ x d, τ.lookup x = some d → σ.lookup x = some d
theorem Cov.nil {σ : Sg} : Cov [] σ := fun x d h => by simp at h
theorem Cov.cons {σ τ : Sg} {x : Str} {d : D} (h : σ.lookup x = some d) (r : Cov τ σ) : Cov ((x, d) :: τ) σ := fun y e hy => by
  rw [List.lookup_cons] at hy
  split at hy
  · rename_i q
    rw [beq_iff_eq.mp q]; cases hy; exact h
  · exact r y e hy
theorem Cov.refl {σ : Sg} : Cov σ σ := fun _ _ h => h
local macro_rules | `(tactic| walk_at "cov") => `(tactic| (repeat (first | exact Cov.nil | refine Cov.cons rfl ?_)))

theorem Ev.weak {c : Cfg} {A : Around} {env : Env} {σ τ : Sg} {e : Expr} {d : D} (h : Ev c A env τ e d) (k : Cov τ σ) : Ev c A env σ e d := fun s l G H S => h s l G H fun x d hx => S x d (k x d hx)
theorem Tr.weak {c : Cfg} {A : Around} {env : Env} {σ τ : Sg} {e : Expr} {b : Bool} (h : Tr c A env τ e b) (k : Cov τ σ) : Tr c A env σ e b := fun s l G H S => h s l G H fun x d hx => S x d (k x d hx)

/-- the halving, with the answers of the tests -/
def bis (p : Nat → Bool) (lo hi : Nat) : Nat :=
  if h : lo < hi then (if p ((lo + hi) / 2) then bis p ((lo + hi) / 2 + 1) hi else bis p lo ((lo + hi) / 2)) else lo
termination_by hi - lo
decreasing_by all_goals omega
theorem bis_lt {p : Nat → Bool} {lo hi : Nat} (h : lo < hi) : bis p lo hi = if p ((lo + hi) / 2) then bis p ((lo + hi) / 2 + 1) hi else bis p lo ((lo + hi) / 2) := by
  rw [bis]; simp [h]
theorem bis_ge {p : Nat → Bool} {lo hi : Nat} (h : ¬ lo < hi) : bis p lo hi = lo := by
  rw [bis]; simp [h]

section
variable {prog : Program} {w : World} {p : Program} {loose : List Str} {mean : ExcName → Option Value} {mg mb : Str → Option Value}
noncomputable abbrev C1 (prog : Program) (w : World) (p : Program) (loose : List Str) (mean : ExcName → Option Value) (mg mb : Str → Option Value) : Cfg := ⟨prog, w, hd02.heap_39 w.params, p, loose, mean, mg, mb⟩

theorem bisect_left_fn {A : Around} {s : Shared} {l : Led} {v1 v2 v3 v4 : Value} {ds : List D} {dx : D} {pr : Nat → Bool} (G : (C1 prog w p loose mean mg mb).G s.heap) (H : Has s.heap l) (hr : Room A 1)
    (hws : DAll l [v1, v2, v3, v4] [.lst ds, dx, .int 0, .none]) (hz : ds.length ≤ sizeLine)
    (hlt : ∀ (A : Around), Room A 0 → ∀ i d, ds[i]? = some d → Op2 (C1 prog w p loose mean mg mb) A (compareOp .Lt) d dx (.bool (pr i))) :
    Vp (C1 prog w p loose mean mg mb) A (call (.ref 32) [v1, v2, v3, v4]) s l (.int (bis pr 0 ds.length : Nat)) := by
  have hz' : (ds.length : Int) < 2 ^ 63 := by rw [sizeLine_eq] at hz; omega
  refine call_fn (k := 0) (names := ["a", "x", "lo", "hi", "key"]) (ws := [v1, v2, v3, v4, .none]) (es := [.lst ds, dx, .int 0, .none, .none]) rfl rfl rfl rfl rfl rfl rfl rfl G H hr (fun S => rfl) ?_ rfl (by decide) (by decide) ?_
  · exact hws.append (.one .none)
  · intro L env he F hr
    have hA := hr.hand
    change Ex _ _ _ _ none [(("a" : Str), D.lst ds), (("x" : Str), dx), (("lo" : Str), .int 0), (("hi" : Str), .none), (("key" : Str), .none)] _ _
    -- the raise is not reached
    refine Ex.then (Ex.skip F (Tr.cmp (by walk_at "ev") (by walk_at "ev") (by walk_at "ev op")) (by decide) ⟨rfl, rfl⟩) ?_
    -- hi = len(a)
    refine Ex.then (o₁ := none) (σ₁ := [(("hi" : Str), .int ds.length), (("a" : Str), D.lst ds), (("x" : Str), dx), (("lo" : Str), .int 0), (("hi" : Str), .none), (("key" : Str), .none)])
      (Ex.take F (Tr.cmp (by walk_at "ev") (by walk_at "ev") (by walk_at "ev op")) rfl (Ex.then (Ex.assign F (by walk_at "ev") (by walk_at "okf") rfl (by walk_at "own")) (Ex.nil ⟨rfl, rfl⟩))) ?_
    -- the loop
    refine Ex.cons (N₁ := fun o σ => o = none ∧ Cov [(("lo" : Str), .int (bis pr 0 ds.length : Nat))] σ) (Ex.take F (Tr.cmp (by walk_at "ev") (by walk_at "ev") (by walk_at "ev op")) rfl (Ex.cons (Ex.while_ F (n := ds.length)
      (fun n o σ => o = none ∧ ∃ lo hi : Nat, n = hi - lo ∧ hi ≤ ds.length ∧ bis pr lo hi = bis pr 0 ds.length ∧ Cov [(("lo" : Str), .int lo), (("hi" : Str), .int hi), (("a" : Str), .lst ds), (("x" : Str), dx)] σ)
      (N := fun o σ => o = none ∧ Cov [(("lo" : Str), .int (bis pr 0 ds.length : Nat))] σ) ⟨rfl, 0, ds.length, rfl, Nat.le_refl _, rfl, by walk_at "cov"⟩ ?_) fun o σ h => Ex.nil h)) ?_
    · rintro n o σ ⟨rfl, lo, hi, rfl, hhi, hb, hcov⟩
      refine ⟨decide ((lo : Int) < (hi : Int)), ?_, fun h => ?_, fun h => ?_⟩
      · refine Tr.weak ?_ hcov
        walk_at "tr"
      · have hlt' : lo < hi := by have := of_decide_eq_true h; omega
        have hmid : ((lo : Int) + (hi : Int)).fdiv 2 = ((lo + hi) / 2 : Nat) := by rw [Int.fdiv_eq_ediv_of_nonneg _ (by decide)]; omega
        have hml : (lo + hi) / 2 < ds.length := by omega
        obtain ⟨dm, hdm⟩ : ∃ d, ds[(lo + hi) / 2]? = some d := ⟨_, List.getElem?_eq_getElem hml⟩
        refine Ex.weak ?_ hcov
        refine Ex.then (Ex.assign F (by walk_at "ev") (by walk_at "okf") rfl (by walk_at "own")) ?_
        rw [hmid]
        have hit : Ev (C1 prog w p loose mean mg mb) (A.deeper env) env [(("mid" : Str), .int ((lo + hi) / 2 : Nat)), (("lo" : Str), .int lo), (("hi" : Str), .int hi), (("a" : Str), .lst ds), (("x" : Str), dx)] (.Subscript (.Name "a" ⟨16, 15, 16, 16⟩) (.Name "mid" ⟨16, 17, 16, 20⟩) ⟨16, 15, 16, 21⟩) dm :=
          Ev.sub (by walk_at "ev") (by walk_at "ev") (op_item (by omega) (by rw [Int.toNat_natCast]; exact hdm) (by omega))
        rw [bis_lt hlt'] at hb
        cases hp : pr ((lo + hi) / 2) with
        | true =>
          rw [hp, if_pos rfl] at hb
          refine Ex.cons (Ex.take F (Tr.cmp hit (by walk_at "ev") (hlt _ hr _ _ hdm)) hp (Ex.then (Ex.assign F (by walk_at "ev") (by walk_at "okf") rfl (by walk_at "own")) (Ex.nil ?_))) fun o σ h => Ex.nil h
          exact ⟨hi - ((lo + hi) / 2 + 1), by omega, rfl, (lo + hi) / 2 + 1, hi, rfl, hhi, hb, by walk_at "cov"⟩
        | false =>
          rw [hp, if_neg (by decide)] at hb
          refine Ex.cons (Ex.over F (Tr.cmp hit (by walk_at "ev") (hlt _ hr _ _ hdm)) hp (Ex.then (Ex.assign F (by walk_at "ev") (by walk_at "okf") rfl (by walk_at "own")) (Ex.nil ?_))) fun o σ h => Ex.nil h
          exact ⟨(lo + hi) / 2 - lo, by omega, rfl, lo, (lo + hi) / 2, rfl, by omega, hb, by walk_at "cov"⟩
      · have hge : ¬ lo < hi := by have := of_decide_eq_false h; omega
        rw [bis_ge hge] at hb
        refine ⟨rfl, Cov.cons ?_ Cov.nil⟩
        rw [← hb]
        exact hcov _ _ rfl
    · rintro o σ ⟨rfl, hcov⟩
      refine Ex.weak ?_ hcov
      exact Ex.cons (N₁ := fun _ _ => False) (Ex.ret F (by walk_at "ev") rfl) fun _ _ h => h.elim

end

/-! ### E2 -/
section
variable {prog : Program} {w : World} {p : Program} {loose : List Str} {mean : ExcName → Option Value} {mg mb : Str → Option Value}
theorem upd_seq {h : Heap} {a : Addr} {vs ws : List Value} {n : Nat} (hl : h.get? a = some (lsO vs n)) (f : Array Value → Array Value) (he : f vs.toArray = ws.toArray) : ∃ n', (h.update a (Obj.mapSeq f)).get? a = some (lsO ws n') := by
  have q := PySem.IsL.update hl f
  rw [he] at q
  exact ⟨_, q⟩
theorem Evs.go {c : Cfg} {A : Around} {env : Env} {σ : Sg} {es : List Expr} {ds : List D} (h : Evs c A env σ es ds) {s : Shared} {l : Led} (G : c.G s.heap) (H : Has s.heap l) (S : Sig c env s.heap l σ) {pos : Pos} {Q : List Value → Shared → Prop} {E : Value → Shared → Prop} (k : ContL s l ds Q) :
    wpAny (model c.prog c.w) A (spliced (backTo pos (starEach es env))) Q E s := h s l G H S pos Q E k
theorem list_insert_any {M : Program} {W : World} {A : Around} {s : Shared} {Q E : Value → Shared → Prop} {a : Addr} {vs : List Value} {n : Nat} {x : Nat} {xi : Int} {u : Tok} {y : Value} (hl : s.heap.get? a = some (lsO vs n)) (hz : vs.length ≤ sizeLine) (hx : x ≤ vs.length) (hxi : xi = x)
    (h : ∀ h' n', h'.get? a = some (lsO (vs.take x ++ y :: vs.drop x) n') → But a s.heap h' → Q .none { s with heap := h' }) : wpAny (model M W) A (call (.builtin "list.insert") [.ref a, .int xi u, y]) Q E s := by
  have hfit : Builtin.List.listFitsIndex xi = true := by
    unfold Builtin.List.listFitsIndex
    rw [sizeLine_eq] at hz
    simp only [Bool.and_eq_true, decide_eq_true_eq]
    omega
  have hm0 := @PySem.AutoSeq1.list_insert_list_int_val_1
  have hm1 := hm0 a vs.toArray n
  have hm2 := hm1 xi u y
  have hm3 := hm2 (by rw [hfit]; decide)
  have hm := hm3 (by rw [List.size_toArray]; exact hz)
  obtain ⟨n', hn⟩ := upd_seq (ws := vs.take x ++ y :: vs.drop x) hl (fun xs : Array Value => have k := if xi < 0 then (xi + (xs.size : Int)).toNat else min xi.toNat xs.size; (xs.extract 0 k).push y ++ xs.extract k) (by
    have e1 : (if xi < 0 then (xi + (vs.toArray.size : Int)).toNat else min xi.toNat vs.toArray.size) = x := by
      rw [if_neg (by omega), List.size_toArray]; omega
    dsimp only
    rw [e1, kl_ins_eq])
  refine call_meets PySem.F.slot_list_insert ⟨_, hl, rfl⟩ PySem.F.entry_list_insert (PySem.F.args_list_insert_3 _ _ _) hm ⟨hl, h _ n' hn fun b o hb e => (Heap.SameBut.update s.heap a _).extBut b o hb e⟩

theorem insort_left_fn {A : Around} {s : Shared} {l : Led} {q : Addr} {vs : List Value} {n : Nat} {v : Value} {ds : List D} {dx : D} {pr : Nat → Bool} {Q E : Value → Shared → Prop} (G : (C1 prog w p loose mean mg mb).G s.heap) (H : Has s.heap l) (hq : s.heap.get? q = some (lsO vs n)) (hr : Room A 2)
    (hv : DAll l vs ds) (hx : DIn l v dx) (hz : ds.length ≤ sizeLine) (hi : bis pr 0 ds.length ≤ ds.length)
    (hlt : ∀ (A : Around), Room A 0 → ∀ i d, ds[i]? = some d → Op2 (C1 prog w p loose mean mg mb) A (compareOp .Lt) d dx (.bool (pr i)))
    (hQ : ∀ h' tk vs' n', h'.get? q = some (lsO vs' n') → DAll l vs' (ds.take (bis pr 0 ds.length) ++ dx :: ds.drop (bis pr 0 ds.length)) → But q s.heap h' → Q .none { s with heap := h', toks := tk }) :
    wpAny (model prog w) A (call (.ref 23) [.ref q, v]) Q E s := by
  refine call_fn_raw (c := C1 prog w p loose mean mg mb) (k := 1) (l := (q, lsO vs n) :: l) (names := ["a", "x", "lo", "hi", "key"]) (ws := [.ref q, v, .int 0 189, .none, .none]) (es := [.val (.ref q) (.lst ds), .val v dx, .int 0, .none, .none]) rfl rfl rfl rfl rfl rfl rfl rfl G ?_ hr (fun S => rfl) ?_ rfl (by decide) (by decide) ?_
  · intro p hp
    rcases List.mem_cons.mp hp with rfl | hp
    · exact hq
    · exact H p hp
  · have up : ∀ p ∈ l, p ∈ (q, lsO vs n) :: l := fun p hp => List.mem_cons_of_mem _ hp
    exact .cons (.val (.lst (.head _) rfl rfl (hv.mono up))) (.cons (.val (hx.mono up)) (.cons (.int 0 _) (.cons .none (.one .none))))
  · intro L env s' E' he F hr' S
    have hA := hr'.hand
    change Fst env s _ _ _ none [(("a" : Str), D.val (.ref q) (.lst ds)), (("x" : Str), .val v dx), (("lo" : Str), .int 0), (("hi" : Str), .none), (("key" : Str), .none)] s' at S
    refine wpAny_execs_cons ((Ex.take (c := C1 prog w p loose mean mg mb) (N := fun o σ => o = none ∧ σ = [(("lo" : Str), .int (bis pr 0 ds.length : Nat)), (("a" : Str), D.val (.ref q) (.lst ds)), (("x" : Str), .val v dx), (("lo" : Str), .int 0), (("hi" : Str), .none), (("key" : Str), .none)]) (R := fun _ => False) F
      (Tr.cmp (by walk_at "ev") (by walk_at "ev") (by walk_at "ev op")) rfl (Ex.then (Ex.assign F (Ev.callF (d := .int (bis pr 0 ds.length : Nat)) (by walk_at "gn") rfl rfl (Evs.cons (Ev.unval (Ev.name rfl)) (Evs.cons (Ev.unval (Ev.name rfl)) (by walk_at "evs"))) ?_) (by walk_at "okf") rfl (by walk_at "own")) (Ex.nil ⟨rfl, rfl⟩))) s _ _ _ s' _ _ G S ?_ ?_)
    · intro s₁ l₁ ws G₁ H₁ hws
      cases hws with
      | cons h1 hws => cases hws with
        | cons h2 hws => cases hws with
          | cons h3 hws => cases hws with
            | cons h4 hws =>
              cases hws
              exact bisect_left_fn G₁ H₁ hr' (.cons h1 (.cons h2 (.cons h3 (.cons h4 .nil)))) hz hlt
    · rintro o σ l' s₁ ⟨rfl, rfl⟩ hl S₁
      refine wpAny_execs_cons (wpAny_Expr_any (MethodCall_ ?_) (by subst_vars; rfl) (by subst_vars; rfl))
      obtain ⟨va, hda, hLa, _⟩ := S₁.sig (c := C1 prog w p loose mean mg mb) F "a" (.val (.ref q) (.lst ds)) rfl
      obtain ⟨rfl, _⟩ := hda.unval
      refine wpAny_Name (hLa _ s₁ _ _ .refl ?_) (by decide)
      have hq₁ : s₁.heap.get? q = some (lsO vs n) := S₁.has (q, lsO vs n) (hl _ (.head _))
      refine getMethod_builtin (T := "list") ⟨_, hq₁, rfl⟩ PySem.F.plainAttrs_list PySem.F.slot_list_insert PySem.F.type_list_insert (fun a ha => by cases ha; exact ⟨_, hq₁, rfl⟩) ?_
      refine callWith_method1 (Evs.go (c := C1 prog w p loose mean mg mb) (σ := [(("lo" : Str), .int (bis pr 0 ds.length : Nat)), (("a" : Str), D.val (.ref q) (.lst ds)), (("x" : Str), .val v dx), (("lo" : Str), .int 0), (("hi" : Str), .none), (("key" : Str), .none)]) (ds := [.int (bis pr 0 ds.length : Nat), .val v dx]) ?ev (S₁.G G) S₁.has (S₁.sig F) fun ws nw h₂ tk₂ e₂ f₂ n₂ hws => ?_)
      case ev => exact Evs.cons (Ev.name rfl) (Evs.cons (Ev.name rfl) Evs.nil)
      cases hws with
      | cons h1 hws => cases hws with
        | cons h2 hws =>
          cases hws
          cases h1
          obtain ⟨rfl, _⟩ := h2.unval
          have hlen := hv.length
          refine list_insert_any (s := { s₁ with heap := h₂, toks := tk₂ }) (e₂ _ _ hq₁) (by omega) (by omega) rfl fun h₃ n₃ hq₃ hb₃ => ?_
          refine wpAny_execs_nil ?_
          dsimp only
          obtain ⟨h, tk, rfl⟩ := S₁.same
          exact hQ h₃ tk₂ _ n₃ hq₃ (hv.insert hx _) fun b o hb e => hb₃ b o hb (e₂ _ _ (S₁.keep b o e))
    · intro d v l' s' hf
      exact hf.elim
end

/-! ### E6 -/
section
variable {prog : Program} {w : World} {p : Program} {loose : List Str} {mean : ExcName → Option Value} {mg mb : Str → Option Value}
theorem make_tc_fn {A : Around} (hr : Room A 3) {sel : D} : OpL (C1 prog w p loose mean mg mb) A (fun vs => call (.ref 56) vs) [sel] (.tc 56 sel) :=
  op_make (k := 1) hr rfl rfl rfl rfl rfl rfl rfl rfl rfl rfl rfl (fun _ _ _ => rfl) (by decide) rfl rfl rfl rfl

def cmpI (a b : Int) : Int := if a < b then -1 else if b < a then 1 else 0
theorem compare_fn {A : Around} (hr : Room A 2) {i a b : Int} {ls rs : List D} (hi0 : 0 ≤ i) (hi1 : i < 100) (hl : ls[i.toNat]? = some (.int a)) (hrr : rs[i.toNat]? = some (.int b)) :
    OpL (C1 prog w p loose mean mg mb) A (fun vs => call (.ref 53) vs) [.tc 56 (.lst [.tup [.int i, .int 1]]), .tup ls, .tup rs] (.int (cmpI a b)) := fun s l vs G H hvs => by
  refine call_fn (k := 1) (names := ["self", "left", "right"]) (ws := vs) (es := [.tc 56 (.lst [.tup [.int i, .int 1]]), .tup ls, .tup rs]) rfl rfl rfl rfl rfl rfl rfl rfl G H hr (fun S => ?_) hvs rfl (by decide) (by decide) ?_
  · cases hvs with
    | cons h1 h2 => cases h2 with
      | cons h2 h3 => cases h3 with
        | cons h3 h4 => cases h4; rfl
  · intro L env he F hr'
    have hA := hr'.hand
    change Ex _ _ _ _ none [(("self" : Str), D.tc 56 (.lst [.tup [.int i, .int 1]])), (("left" : Str), .tup ls), (("right" : Str), .tup rs)] _ _
    refine Ex.cons (N₁ := fun o σ => o = none ∧ cmpI a b = 0) (Ex.mono (Ex.for_ F hA (fun d => match d with | .tup [x, y] => [(("direction" : Str), y), (("index" : Str), x)] | _ => [])
      (fun j o σ => o = none ∧ (j = 0 ∨ cmpI a b = 0) ∧ Cov [(("left" : Str), .tup ls), (("right" : Str), .tup rs)] σ) (Ev.attr (Ev.name rfl) rfl rfl rfl) elems_lst (by intro a b h; cases h) ?_ ?_ ?_ ⟨rfl, .inl rfl, by walk_at "cov"⟩ ?_) (fun o σ h => ⟨h.1, h.2.1.resolve_left (by simp)⟩) fun _ h => h) ?_
    · intro d hd
      rw [List.mem_singleton.mp hd]
      exact Tgt.tup2 (frameVars F) (Tgt.name (frameVars F) (by walk_at "okf")) (Tgt.name (frameVars F) (by walk_at "okf"))
    · intro d hd x e hx
      rw [List.mem_singleton.mp hd] at hx
      rw [List.lookup_cons] at hx
      split at hx
      · rename_i q; rw [beq_iff_eq.mp q]; walk_at "okf"
      · rw [List.lookup_cons] at hx
        split at hx
        · rename_i q; rw [beq_iff_eq.mp q]; walk_at "okf"
        · cases hx
    · rintro j own σ d ⟨rfl, _⟩ hd
      walk_at "own"
    · rintro j d own σ hd ⟨rfl, _, hcov⟩
      obtain ⟨rfl, rfl⟩ : j = 0 ∧ d = .tup [.int i, .int 1] := by
        match j, hd with
        | 0, hd => cases hd; exact ⟨rfl, rfl⟩
      have hcov' : Cov [(("direction" : Str), .int 1), (("index" : Str), .int i), (("left" : Str), .tup ls), (("right" : Str), .tup rs)] ([(("direction" : Str), .int 1), (("index" : Str), .int i)] ++ σ) :=
        Cov.cons rfl (Cov.cons rfl (Cov.cons (hcov _ _ rfl) (Cov.cons (hcov _ _ rfl) Cov.nil)))
      refine Ex.weak ?_ hcov'
      refine Ex.then (Ex.assign F (Ev.sub (Ev.name rfl) (Ev.name rfl) (op_item_tup hi0 hl (by omega))) (by walk_at "okf") rfl (by walk_at "own")) ?_
      refine Ex.then (Ex.assign F (Ev.sub (Ev.name rfl) (Ev.name rfl) (op_item_tup hi0 hrr (by omega))) (by walk_at "okf") rfl (by walk_at "own")) ?_
      by_cases h1 : a < b
      · refine Ex.cons (N₁ := fun _ _ => False) (Ex.take F (Tr.cmp (Ev.name rfl) (Ev.name rfl) op_lt) (decide_eq_true h1) (Ex.cons (N₁ := fun _ _ => False) (Ex.ret F (Ev.una (Ev.name rfl) op_neg) (by rw [cmpI, if_pos h1])) fun _ _ h => h.elim)) fun _ _ h => h.elim
      · refine Ex.then (Ex.skip F (Tr.cmp (Ev.name rfl) (Ev.name rfl) op_lt) (decide_eq_false h1) ⟨rfl, rfl⟩) ?_
        by_cases h2 : b < a
        · refine Ex.cons (N₁ := fun _ _ => False) (Ex.take F (Tr.cmp (Ev.name rfl) (Ev.name rfl) op_gt) (decide_eq_true h2) (Ex.cons (N₁ := fun _ _ => False) (Ex.ret F (Ev.name rfl) (by rw [cmpI, if_neg h1, if_pos h2])) fun _ _ h => h.elim)) fun _ _ h => h.elim
        · refine Ex.then (Ex.skip F (Tr.cmp (Ev.name rfl) (Ev.name rfl) op_gt) (decide_eq_false h2) ⟨rfl, rfl⟩) (Ex.nil ?_)
          exact ⟨rfl, .inr (by rw [cmpI, if_neg h1, if_neg h2]), Cov.cons rfl (Cov.cons rfl Cov.nil)⟩
    · rintro o σ ⟨rfl, h0⟩
      rw [h0]
      exact Ex.cons (N₁ := fun _ _ => False) (Ex.ret F Ev.int rfl) fun _ _ h => h.elim
end

/-! ### E3 -/
section
variable {prog : Program} {w : World} {p : Program} {loose : List Str} {mean : ExcName → Option Value} {mg mb : Str → Option Value}
/-! ## things, and the most that can be carried -/
def getI (ns : List Int) (j : Int) : Int := (ns[j.toNat]?).getD 0
theorem getI_at {ns : List Int} {j : Int} (h0 : 0 ≤ j) (h1 : j < ns.length) : (ns.map D.int)[j.toNat]? = some (.int (getI ns j)) := by
  have : j.toNat < ns.length := by omega
  simp [getI, this]
def encP (p : Int × Int) : D := .tup [.int p.1, .int p.2]
def decP : D → Int × Int
  | .tup [.int a, .int b] => (a, b)
  | _ => (0, 0)
theorem decP_encP (p : Int × Int) : decP (encP p) = p := rfl
def getP (ps : List (Int × Int)) (j : Nat) : Int × Int := (ps[j]?).getD (1, 1)
theorem getP_at {ps : List (Int × Int)} {j : Nat} (h1 : j < ps.length) : (ps.map encP)[j]? = some (encP (getP ps j)) := by
  simp [getP, h1]
def thingF (n : Int) : Int × Int := (1 + n.fmod 8, 1 + (n.fdiv 8).fmod 9)
theorem law_thing_fn {A : Around} (hr : Room A 1) {n : Int} : OpL (C1 prog w p loose mean mg mb) A (fun vs => call (.ref 67) vs) [.int n] (encP (thingF n)) := fun s l vs G H hvs => by
  refine call_fn (k := 0) (names := ["number"]) (ws := vs) (es := [.int n]) rfl rfl rfl rfl rfl rfl rfl rfl G H hr (fun S => ?_) hvs rfl (by decide) (by decide) ?_
  · cases hvs with
    | cons h1 h2 => cases h2; rfl
  · intro L env he F hr'
    change Ex _ _ _ _ none [(("number" : Str), D.int n)] _ _
    exact Ex.cons (N₁ := fun _ _ => False) (Ex.ret F (by walk_at "ev") rfl) fun _ _ h => h.elim

def stepM (B : Int) (found : List Int) (p : Int × Int) : List Int := (rangeI 0 (B + 1)).map fun k => if p.1 ≤ k then max (getI found k) (getI found (k - p.1) + p.2) else getI found k
def mostF (ps : List (Int × Int)) (B : Int) : List Int := ps.foldl (stepM B) (List.replicate (B + 1).toNat 0)
theorem stepM_length {B : Int} {f : List Int} {p : Int × Int} : (stepM B f p).length = (B + 1).toNat := by simp [stepM, rangeI_length]
theorem foldM_length {B : Int} : ∀ (ps : List (Int × Int)) (f : List Int), f.length = (B + 1).toNat → (ps.foldl (stepM B) f).length = (B + 1).toNat
  | [], f, h => h
  | p :: ps, f, h => foldM_length ps _ stepM_length
theorem mostF_length {ps : List (Int × Int)} {B : Int} : (mostF ps B).length = (B + 1).toNat := foldM_length ps _ (by simp)
theorem foldl_take_succ {α β : Type} (f : β → α → β) (xs : List α) (b : β) (i : Nat) (x : α) (h : xs[i]? = some x) : (xs.take (i + 1)).foldl f b = f ((xs.take i).foldl f b) x := by
  rw [List.take_add_one, h, Option.toList_some, List.foldl_append]; rfl
theorem get_map_P {ps : List (Int × Int)} {i : Nat} {d : D} (h : (ps.map encP)[i]? = some d) : ∃ n, ps[i]? = some n ∧ d = encP n := by
  rw [List.getElem?_map, Option.map_eq_some_iff] at h
  obtain ⟨n, h1, h2⟩ := h
  exact ⟨n, h1, h2.symm⟩
theorem law_most_fn {A : Around} (hr : Room A 1) {ps : List (Int × Int)} {B : Int} (hps : ∀ p ∈ ps, 1 ≤ p.1) (hB0 : 0 ≤ B) (hB1 : B < 500) : OpL (C1 prog w p loose mean mg mb) A (fun vs => call (.ref 72) vs) [.lst (ps.map encP), .int B] (.lst ((mostF ps B).map .int)) := fun s l vs G H hvs => by
  refine call_fn (k := 0) (names := ["things", "bound"]) (ws := vs) (es := [.lst (ps.map encP), .int B]) rfl rfl rfl rfl rfl rfl rfl rfl G H hr (fun S => ?_) hvs rfl (by decide) (by decide) ?_
  · cases hvs with
    | cons h1 h2 => cases h2 with
      | cons h2 h3 => cases h3; rfl
  · intro L env he F hr'
    have hA := hr'.hand
    change Ex _ _ _ _ none [(("things" : Str), D.lst (ps.map encP)), (("bound" : Str), .int B)] _ _
    refine Ex.then (Ex.assign (d := .lst ((List.replicate (B + 1).toNat (0 : Int)).map .int)) F (Ev.conv (Ev.mulL Ev.int (k := B + 1) (by walk_at "ev") (by omega) (by omega)) (by simp)) (by walk_at "okf") (by subst_vars; rfl) (by walk_at "own")) ?_
    refine Ex.cons (N₁ := fun o σ => o = none ∧ Cov [(("found" : Str), .lst ((mostF ps B).map .int))] σ) (Ex.mono (Ex.for_ F hA (fun d => [(("worth" : Str), .int (decP d).2), (("weight" : Str), .int (decP d).1)])
      (fun i o σ => o = none ∧ Cov [(("found" : Str), .lst (((ps.take i).foldl (stepM B) (List.replicate (B + 1).toNat 0)).map .int)), (("bound" : Str), .int B)] σ) (di := .lst (ps.map encP)) (Ev.name rfl) elems_lst (by intro a b h; cases h) ?_ ?_ ?_ ⟨rfl, by walk_at "cov"⟩ ?_) (fun o σ h => ⟨h.1, by
        have := h.2 (Str.ofString "found") _ rfl
        rw [List.length_map, List.take_length] at this
        exact Cov.cons this Cov.nil⟩) fun _ h => h) ?_
    · intro d hd
      obtain ⟨x, hx, rfl⟩ := List.mem_map.mp hd
      exact Tgt.tup2 (frameVars F) (Tgt.name (frameVars F) (by walk_at "okf")) (Tgt.name (frameVars F) (by walk_at "okf"))
    · intro d hd
      exact okS (List.forall_mem_cons.mpr ⟨by walk_at "okf", List.forall_mem_cons.mpr ⟨by walk_at "okf", fun _ h => nomatch h⟩⟩)
    · rintro j own σ d ⟨rfl, _⟩ hd
      walk_at "own"
    · rintro i d own σ hd ⟨rfl, hcov⟩
      obtain ⟨⟨wt, wo⟩, hn, rfl⟩ := get_map_P hd
      have hw : 1 ≤ wt := hps _ (List.mem_of_getElem? hn)
      obtain ⟨f, hf⟩ : ∃ f, f = (ps.take i).foldl (stepM B) (List.replicate (B + 1).toNat 0) := ⟨_, rfl⟩
      have hfl : f.length = (B + 1).toNat := by rw [hf]; exact foldM_length _ _ (by simp)
      rw [← hf] at hcov
      refine Ex.weak (σ' := [(("worth" : Str), .int wo), (("weight" : Str), .int wt), (("found" : Str), .lst (f.map .int)), (("bound" : Str), .int B)]) ?_ (Cov.cons rfl (Cov.cons rfl (Cov.cons (hcov _ _ rfl) (Cov.cons (hcov _ _ rfl) Cov.nil))))
      refine Ex.then (Ex.assign (d := .lst ((stepM B f (wt, wo)).map .int)) F (Ev.conv (Ev.compG (xs := rangeI 0 (B + 1)) (τ := [(("found" : Str), .lst (f.map .int)), (("weight" : Str), .int wt), (("worth" : Str), .int wo)]) hA D.int decI decI_int D.int (fun _ => true) (fun k => if wt ≤ k then max (getI f k) (getI f (k - wt) + wo) else getI f k) (fun j => [(("k" : Str), .int j)])
        (Ev.callT (by walk_at "gn") (Evs.cons (by walk_at "ev") Evs.nil) call_range1) elems_rng (rng_small (by omega) (by omega) (by omega) (by omega)) (by rw [rangeI_length, sizeLine_eq]; omega) (by subst_vars; rfl) (by walk_at "cap") (by walk_at "tg1") (by walk_at "nm1") (fun _ _ _ => Tests.nil) ?elt (by decide) rfl (by decide)) (by rw [List.filter_eq_self.mpr (fun _ _ => rfl)]; rfl)) (by walk_at "okf") (by subst_vars; rfl) (by walk_at "own")) (Ex.nil ?_)
      case elt =>
        intro k hk _ C
        rw [mem_rangeI] at hk
        refine Ev.ifexp (r := decide (wt ≤ k)) (Tr.cmp (Ev.name rfl) (Ev.name rfl) op_ge) ?_ ?_
        · intro h
          have h := of_decide_eq_true h
          rw [if_pos h]
          exact Ev.callB (by walk_at "gn") (Evs.cons (Ev.sub (Ev.name rfl) (Ev.name rfl) (op_item (by omega) (getI_at (by omega) (by omega)) (by omega))) (Evs.cons (Ev.bin (Ev.sub (Ev.name rfl) (Ev.bin (Ev.name rfl) (Ev.name rfl) op_sub) (op_item (by omega) (getI_at (by omega) (by omega)) (by omega))) (Ev.name rfl) op_add) Evs.nil)) (call_max2 hA)
        · intro h
          have h := of_decide_eq_false h
          rw [if_neg h]
          exact Ev.sub (Ev.name rfl) (Ev.name rfl) (op_item (by omega) (getI_at (by omega) (by omega)) (by omega))
      · rw [foldl_take_succ _ _ _ _ _ hn, ← hf]
        exact ⟨rfl, by walk_at "cov"⟩
    · rintro o σ ⟨rfl, hcov⟩
      refine Ex.weak ?_ hcov
      exact Ex.cons (N₁ := fun _ _ => False) (Ex.ret F (Ev.name rfl) rfl) fun _ _ h => h.elim
end

/-! ### E4 -/
section
variable {prog : Program} {w : World} {p : Program} {loose : List Str} {mean : ExcName → Option Value} {mg mb : Str → Option Value}
/-! ## by parts -/
theorem okC {scope : Scope} {cl : List (Str × Addr)} {bs : Sg} (h : ∀ p ∈ bs, compOk scope cl p.1) : ∀ y e, bs.lookup y = some e → compOk scope cl y := fun y e hy => h (y, e) (mem_of_lookup hy)
def ltP (xs : List (Int × Int)) (x : Int × Int) (j : Nat) : Bool := match xs[j]? with
  | some q => ltT q.1 q.2 x.1 x.2
  | none => false
theorem ltP_op {c : Cfg} {xs : List (Int × Int)} {x : Int × Int} (A : Around) (hA : Room A 0) (i : Nat) (d : D) (h : (xs.map encP)[i]? = some d) : Op2 c A (compareOp .Lt) d (encP x) (.bool (ltP xs x i)) := by
  obtain ⟨n, h1, rfl⟩ := get_map_P h
  have : ltP xs x i = ltT n.1 n.2 x.1 x.2 := by simp [ltP, h1]
  rw [this]
  exact op_ltT (by have := hA.units; omega)
theorem bis_le {p : Nat → Bool} : ∀ (n lo hi : Nat), hi - lo ≤ n → lo ≤ hi → lo ≤ bis p lo hi ∧ bis p lo hi ≤ hi := by
  intro n
  induction n with
  | zero => intro lo hi h1 h2; rw [bis_ge (by omega)]; omega
  | succ n ih =>
    intro lo hi h1 h2
    by_cases h : lo < hi
    · rw [bis_lt h]
      split
      · have := ih ((lo + hi) / 2 + 1) hi (by omega) (by omega); omega
      · have := ih lo ((lo + hi) / 2) (by omega) (by omega); omega
    · rw [bis_ge h]; omega
theorem bis_le' {p : Nat → Bool} {n : Nat} : bis p 0 n ≤ n := (bis_le n 0 n (by omega) (by omega)).2
def insT (xs : List (Int × Int)) (x : Int × Int) : List (Int × Int) := xs.take (bis (ltP xs x) 0 xs.length) ++ x :: xs.drop (bis (ltP xs x) 0 xs.length)
theorem insT_length (xs : List (Int × Int)) (x : Int × Int) : (insT xs x).length = xs.length + 1 := by
  have := bis_le' (p := ltP xs x) (n := xs.length)
  simp only [insT, List.length_append, List.length_cons, List.length_take, List.length_drop]
  omega
theorem insT_mem {xs : List (Int × Int)} {x y : Int × Int} (h : y ∈ insT xs x) : y = x ∨ y ∈ xs := by
  rcases List.mem_append.mp h with h | h
  · exact .inr (List.mem_of_mem_take h)
  · rcases List.mem_cons.mp h with h | h
    · exact .inl h
    · exact .inr (List.mem_of_mem_drop h)
theorem insT_map (xs : List (Int × Int)) (x : Int × Int) : (xs.map encP).take (bis (ltP xs x) 0 (xs.map encP).length) ++ encP x :: (xs.map encP).drop (bis (ltP xs x) 0 (xs.map encP).length) = (insT xs x).map encP := by
  rw [List.length_map, ← List.map_take, ← List.map_drop]
  simp [insT]
def keyP (ps : List (Int × Int)) (j : Nat) : Int × Int := (0 - ((getP ps j).2 * 840).fdiv (getP ps j).1, (j : Int))
def ordN (ps : List (Int × Int)) : Nat → List (Int × Int)
  | 0 => []
  | n + 1 => insT (ordN ps n) (keyP ps n)
theorem ordN_length (ps : List (Int × Int)) : ∀ n, (ordN ps n).length = n
  | 0 => rfl
  | n + 1 => by rw [ordN, insT_length, ordN_length ps n]
theorem ordN_mem (ps : List (Int × Int)) : ∀ n x, x ∈ ordN ps n → ∃ j, j < n ∧ x = keyP ps j
  | 0, x, h => by cases h
  | n + 1, x, h => by
    rcases insT_mem h with h | h
    · exact ⟨n, Nat.lt_succ_self _, h⟩
    · obtain ⟨j, hj, e⟩ := ordN_mem ps n x h
      exact ⟨j, Nat.lt_succ_of_lt hj, e⟩
def partsF (ps : List (Int × Int)) : List (Int × Int) := (ordN ps ps.length).map fun t => getP ps t.2.toNat
theorem mulOk840 {a : Int} : IntMulOk a 840 := IntMulOk.of_right (by decide +kernel)
theorem law_by_parts_fn {A : Around} (hr : Room A 3) {ps : List (Int × Int)} (hps : ∀ p ∈ ps, 1 ≤ p.1 ∧ p.1 ≤ 8) (hz : ps.length ≤ 100) : OpL (C1 prog w p loose mean mg mb) A (fun vs => call (.ref 77) vs) [.lst (ps.map encP)] (.lst ((partsF ps).map encP)) := fun s l vs G H hvs => by
  refine call_fn (k := 2) (names := ["things"]) (ws := vs) (es := [.lst (ps.map encP)]) rfl rfl rfl rfl rfl rfl rfl rfl G H hr (fun S => ?_) hvs rfl (by decide) (by decide) ?_
  · cases hvs with
    | cons h1 h2 => cases h2; rfl
  · intro L env he F hr'
    have hA := hr'.hand
    change Ex _ _ _ _ none [(("things" : Str), D.lst (ps.map encP))] _ _
    refine Ex.then (Ex.ownNil F (by walk_at "okf") (fun d h => by cases h)) ?_
    refine Ex.cons (N₁ := fun o σ => o = some (("order" : Str), ((ordN ps ps.length).map encP)) ∧ Cov [(("things" : Str), D.lst (ps.map encP))] σ) (Ex.mono (Ex.forEnum F hA (fun i d => [(("worth" : Str), .int (decP d).2), (("weight" : Str), .int (decP d).1), (("k" : Str), .int (i : Int))])
      (fun i o σ => o = some (("order" : Str), ((ordN ps i).map encP)) ∧ Cov [(("things" : Str), D.lst (ps.map encP))] σ) (ds := ps.map encP) (by walk_at "gn") (Ev.name rfl) rfl ?_ ?_ ?_ ⟨rfl, by walk_at "cov"⟩ ?_) (fun o σ h => by rw [List.length_map] at h; exact h) fun _ h => h) ?_
    · intro i d hd
      obtain ⟨⟨wt, wo⟩, hn, rfl⟩ := get_map_P hd
      exact Tgt.tup2 (frameVars F) (Tgt.name (frameVars F) (by walk_at "okf")) (Tgt.tup2 (frameVars F) (Tgt.name (frameVars F) (by walk_at "okf")) (Tgt.name (frameVars F) (by walk_at "okf")))
    · intro i d hd
      exact okS (List.forall_mem_cons.mpr ⟨by walk_at "okf", List.forall_mem_cons.mpr ⟨by walk_at "okf", List.forall_mem_cons.mpr ⟨by walk_at "okf", fun _ h => nomatch h⟩⟩⟩)
    · rintro i own σ d ⟨rfl, _⟩ hd y es h
      cases h; rfl
    · rintro i d own σ hd ⟨rfl, hcov⟩
      obtain ⟨⟨wt, wo⟩, hn, rfl⟩ := get_map_P hd
      have hw : 1 ≤ wt ∧ wt ≤ 8 := hps _ (List.mem_of_getElem? hn)
      have hi : i < ps.length := (List.getElem?_eq_some_iff.mp hn).1
      have hg : getP ps i = (wt, wo) := by simp [getP, hn]
      refine Ex.cons (N₁ := fun o s => o = some (("order" : Str), ((ordN ps (i + 1)).map encP)) ∧ Cov [(("things" : Str), D.lst (ps.map encP))] s) ?_ fun o s h => Ex.nil h
      refine Ex.mono (Ex.ownCall (dx := encP (keyP ps i)) (ds' := (ordN ps (i + 1)).map encP) F (by walk_at "okf") (by decide) (by walk_at "gn") rfl rfl (Ev.tuple (ds := [.int (keyP ps i).1, .int (keyP ps i).2]) (Evs.cons (Ev.conv (d := .int (0 - (wo * 840).fdiv wt)) (Ev.bin Ev.int (Ev.bin (Ev.bin (Ev.name rfl) Ev.int (op_mul mulOk840)) (Ev.name rfl) (op_fdiv (by show wt ≠ 0; omega) (by show wt.natAbs < 1073741824; omega))) op_sub) (by simp [keyP, hg])) (by walk_at "evs")) (by simp [sizeLine_eq])) ?_) (fun o s h => ⟨h.1, ?_⟩) fun _ h => h
      · intro s l q vs m v Q E G H hq hv hx hQ
        refine insort_left_fn G H hq hr' hv hx (by rw [List.length_map, ordN_length, sizeLine_eq]; omega) bis_le' ltP_op ?_
        rw [insT_map]
        exact hQ
      · rw [h.2]
        exact Cov.cons (hcov _ _ rfl) Cov.nil
    · rintro o σ ⟨rfl, hcov⟩
      refine Ex.weak ?_ hcov
      refine Ex.freeze ?_ (by walk_at "okf")
      refine Ex.cons (N₁ := fun _ _ => False) (Ex.ret F (Ev.conv (Ev.compG (xs := ordN ps ps.length) (τ := [(("things" : Str), .lst (ps.map encP))]) hA encP decP decP_encP encP (fun _ => true) (fun t => getP ps t.2.toNat) (fun t => [(("k" : Str), .int t.2), (("told" : Str), .int t.1)]) (Ev.name rfl) elems_lst (by intro a b h; cases h) (by rw [ordN_length, sizeLine_eq]; omega) (by subst_vars; rfl) (by walk_at "cap") ?tgt ?nm (fun _ _ _ => Tests.nil) ?elt (by decide) rfl (by decide)) (by rw [List.filter_eq_self.mpr (fun _ _ => rfl)]; rfl)) rfl) fun _ _ h => h.elim
      case tgt => exact fun x hx C => Tgt.tup2 (compVars rfl) (Tgt.name (compVars rfl) (by subst_vars; exact ⟨rfl, rfl⟩)) (Tgt.name (compVars rfl) (by subst_vars; exact ⟨rfl, rfl⟩))
      case nm =>
        exact fun x hx => okC (List.forall_mem_cons.mpr ⟨by subst_vars; exact ⟨rfl, rfl⟩, List.forall_mem_cons.mpr ⟨by subst_vars; exact ⟨rfl, rfl⟩, fun _ h => nomatch h⟩⟩)
      case elt =>
        intro x hx _ C
        obtain ⟨j, hj, rfl⟩ := ordN_mem ps _ x hx
        have hj' : (keyP ps j).2.toNat = j := by simp [keyP]
        refine Ev.sub (Ev.name rfl) (Ev.name rfl) (op_item (by simp [keyP]) ?_ (by simp [keyP]; omega))
        show (ps.map encP)[(keyP ps j).2.toNat]? = some (encP (getP ps (keyP ps j).2.toNat))
        rw [hj']
        exact getP_at hj
end

/-! ### F1 -/
section
variable {prog : Program} {w : World} {p : Program} {loose : List Str} {mean : ExcName → Option Value} {mg mb : Str → Option Value}
/-! ## the plain law -/
def tsOf (ns : List Int) : List (Int × Int) := (ns.take 6).map thingF
def bOf (ns : List Int) : Int := 8 + ns.sum.fmod 13
def Fine (p : Int × Int) : Prop := 1 ≤ p.1 ∧ p.1 ≤ 8 ∧ 1 ≤ p.2 ∧ p.2 ≤ 9
theorem tsOf_length (ns : List Int) : (tsOf ns).length ≤ 6 := by simp [tsOf]; omega
theorem tsOf_fine (ns : List Int) : ∀ p ∈ tsOf ns, Fine p := by
  intro p hp
  obtain ⟨n, _, rfl⟩ := List.mem_map.mp hp
  simp only [Fine, thingF]
  rw [Int.fmod_eq_emod_of_nonneg _ (by decide), Int.fmod_eq_emod_of_nonneg _ (by decide)]
  omega
theorem bOf_bound (ns : List Int) : 8 ≤ bOf ns ∧ bOf ns ≤ 20 := by
  simp only [bOf]
  rw [Int.fmod_eq_emod_of_nonneg _ (by decide)]
  omega
theorem getP_fine {ps : List (Int × Int)} (h : ∀ p ∈ ps, Fine p) (j : Nat) : Fine (getP ps j) := by
  unfold getP
  cases e : ps[j]? with
  | none => exact ⟨by decide, by decide, by decide, by decide⟩
  | some p => exact h p (List.mem_of_getElem? e)
theorem partsF_length (ps : List (Int × Int)) : (partsF ps).length = ps.length := by rw [partsF, List.length_map, ordN_length]
theorem partsF_fine {ps : List (Int × Int)} (h : ∀ p ∈ ps, Fine p) : ∀ p ∈ partsF ps, Fine p := by
  intro p hp
  obtain ⟨t, _, rfl⟩ := List.mem_map.mp hp
  exact getP_fine h _
def wtS (ps : List (Int × Int)) : Int := (ps.map (·.1)).sum
def woS (ps : List (Int × Int)) : Int := (ps.map (·.2)).sum
def takeB (lot k : Int) : Bool := (lot.fdiv (2 ^ k.toNat)).fmod 2 == 1
def takenF (ps : List (Int × Int)) (lot : Int) : List (Int × Int) := ((rangeI 0 ps.length).filter (takeB lot)).map fun k => getP ps k.toNat
def bestStep (ps : List (Int × Int)) (B : Int) (b : Int) (lot : Int) : Int := if wtS (takenF ps lot) ≤ B then max b (woS (takenF ps lot)) else b
def bestF (ps : List (Int × Int)) (B : Int) : Int := (rangeI 0 (2 ^ ps.length)).foldl (bestStep ps B) 0
abbrev GPart := Option (Int × Int × Int × Int)
def partD : GPart → D
  | none => .none
  | some (a, b, c, d) => .tup [.int a, .int b, .int c, .int d]
abbrev GSt := Int × Int × GPart
def stepG (s : GSt) (p : Int × Int) : GSt := if p.1 ≤ s.1 then (s.1 - p.1, s.2.1 + p.2, s.2.2) else match s.2.2 with
  | none => (s.1, s.2.1, some (p.1, p.2, s.1, s.2.1))
  | some _ => s
def greedyF (ps : List (Int × Int)) (B : Int) : GSt := (partsF ps).foldl stepG (B, 0, none)
def maxL (a : Int) (ns : List Int) : Int := ns.foldl max a
theorem maxL_mem : ∀ (ns : List Int) (a : Int), maxL a ns ∈ a :: ns
  | [], a => List.mem_cons_self ..
  | n :: ns, a => by
    have := maxL_mem ns (max a n)
    rw [show maxL a (n :: ns) = maxL (max a n) ns from rfl]
    rcases List.mem_cons.mp this with h | h
    · rw [h]
      rcases Int.le_total a n with h' | h'
      · rw [Int.max_eq_right h']; exact .tail _ (.head _)
      · rw [Int.max_eq_left h']; exact .head _
    · exact .tail _ (.tail _ h)
theorem le_maxL : ∀ (ns : List Int) (a : Int), ∀ x ∈ a :: ns, x ≤ maxL a ns
  | [], a, x, h => by rw [List.mem_singleton.mp h]; exact Int.le_refl _
  | n :: ns, a, x, h => by
    rw [show maxL a (n :: ns) = maxL (max a n) ns from rfl]
    have h0 := le_maxL ns (max a n) (max a n) (List.mem_cons_self ..)
    rcases List.mem_cons.mp h with h | h
    · subst h; omega
    · rcases List.mem_cons.mp h with h | h
      · subst h; omega
      · exact le_maxL ns _ x (List.mem_cons_of_mem _ h)
theorem mulOk {a b : Int} (h : a.natAbs < 2 ^ 64) : IntMulOk a b := IntMulOk.of_left (intBits_le_iff.mpr h)

theorem part_fine : ∀ (l : List (Int × Int)), (∀ p ∈ l, Fine p) → ∀ s : GSt, (∀ a b c d, s.2.2 = some (a, b, c, d) → Fine (a, b)) → ∀ a b c d, (l.foldl stepG s).2.2 = some (a, b, c, d) → Fine (a, b)
  | [], _, s, hs => hs
  | p :: l, hl, s, hs => by
    refine part_fine l (fun q hq => hl q (List.mem_cons_of_mem _ hq)) (stepG s p) ?_
    obtain ⟨rm, wh, pt⟩ := s
    intro a b c d h
    unfold stepG at h
    split at h
    · exact hs a b c d h
    · cases pt with
      | none => simp at h; obtain ⟨rfl, rfl, _⟩ := h; exact hl p (List.mem_cons_self ..)
      | some x => exact hs a b c d h
theorem g10 {ps : List (Int × Int)} {B : Int} (hp : ∀ p ∈ ps, Fine p) {a b c d : Int} (h : (greedyF ps B).2.2 = some (a, b, c, d)) : Fine (a, b) :=
  part_fine _ (partsF_fine hp) (B, 0, none) (fun _ _ _ _ h => by cases h) a b c d h
/-! ### sums and sublists -/
theorem wtS_cons (p : Int × Int) (l : List (Int × Int)) : wtS (p :: l) = p.1 + wtS l := by simp [wtS]
theorem woS_cons (p : Int × Int) (l : List (Int × Int)) : woS (p :: l) = p.2 + woS l := by simp [woS]
theorem wtS_append (l m : List (Int × Int)) : wtS (l ++ m) = wtS l + wtS m := by simp [wtS]
theorem woS_append (l m : List (Int × Int)) : woS (l ++ m) = woS l + woS m := by simp [woS]
theorem wtS_perm {l m : List (Int × Int)} (h : l.Perm m) : wtS l = wtS m := by
  induction h with
  | nil => rfl
  | cons x _ ih => rw [wtS_cons, wtS_cons, ih]
  | swap x y l => simp only [wtS_cons]; omega
  | trans _ _ a b => rw [a, b]
theorem woS_perm {l m : List (Int × Int)} (h : l.Perm m) : woS l = woS m := by
  induction h with
  | nil => rfl
  | cons x _ ih => rw [woS_cons, woS_cons, ih]
  | swap x y l => simp only [woS_cons]; omega
  | trans _ _ a b => rw [a, b]
theorem wtS_nonneg : ∀ {l : List (Int × Int)}, (∀ p ∈ l, Fine p) → 0 ≤ wtS l
  | [], _ => by simp [wtS]
  | p :: l, h => by
    have := (h p (List.mem_cons_self ..)).1
    have := wtS_nonneg (l := l) fun q hq => h q (List.mem_cons_of_mem _ hq)
    rw [wtS_cons]; omega
theorem woS_sub {s l : List (Int × Int)} (h : s.Sublist l) (hl : ∀ p ∈ l, Fine p) : woS s ≤ woS l := by
  induction h with
  | slnil => exact Int.le_refl _
  | cons a _ ih =>
    have := ih fun q hq => hl q (List.mem_cons_of_mem _ hq)
    have := (hl a (List.mem_cons_self ..)).2.2.1
    rw [woS_cons]; omega
  | cons_cons a _ ih =>
    have := ih fun q hq => hl q (List.mem_cons_of_mem _ hq)
    rw [woS_cons, woS_cons]; omega
theorem perm_sub {α : Type} {l m : List α} (h : l.Perm m) : ∀ s : List α, s.Sublist l → ∃ s' : List α, s'.Sublist m ∧ s'.Perm s := by
  induction h with
  | nil => exact fun s hs => ⟨s, hs, .refl _⟩
  | cons x _ ih =>
    intro s hs
    cases hs with
    | cons _ h => obtain ⟨s', a, b⟩ := ih s h; exact ⟨s', a.cons _, b⟩
    | cons_cons _ h => obtain ⟨s', a, b⟩ := ih _ h; exact ⟨x :: s', a.cons_cons _, b.cons _⟩
  | swap x y l =>
    intro s hs
    cases hs with
    | cons _ h =>
      cases h with
      | cons _ h => exact ⟨s, (h.cons _).cons _, .refl _⟩
      | cons_cons _ h => exact ⟨_, (h.cons _).cons_cons _, .refl _⟩
    | cons_cons _ h =>
      cases h with
      | cons _ h => exact ⟨_, (h.cons_cons _).cons _, .refl _⟩
      | cons_cons _ h => exact ⟨_, (h.cons_cons _).cons_cons _, .swap _ _ _⟩
  | trans _ _ a b =>
    intro s hs
    obtain ⟨s1, h1, h2⟩ := a s hs
    obtain ⟨s2, h3, h4⟩ := b s1 h1
    exact ⟨s2, h3, h4.trans h2⟩
/-! ### the table -/
structure Spec (B : Int) (pre : List (Int × Int)) (f : List Int) : Prop where
  up : ∀ k, 0 ≤ k → k ≤ B → ∀ s : List (Int × Int), s.Sublist pre → wtS s ≤ k → woS s ≤ getI f k
  at_ : ∀ k, 0 ≤ k → k ≤ B → ∃ s : List (Int × Int), s.Sublist pre ∧ wtS s ≤ k ∧ woS s = getI f k
theorem getI_step {B : Int} {f : List Int} {p : Int × Int} {k : Int} (h0 : 0 ≤ k) (h1 : k ≤ B) : getI (stepM B f p) k = if p.1 ≤ k then max (getI f k) (getI f (k - p.1) + p.2) else getI f k := by
  have hk : k.toNat < (rangeI 0 (B + 1)).length := by rw [rangeI_length]; omega
  conv => lhs; rw [getI, stepM]
  rw [List.getElem?_map, List.getElem?_eq_getElem hk]
  simp only [Option.map_some, Option.getD_some]
  have : (rangeI 0 (B + 1))[k.toNat] = k := by simp [rangeI]; omega
  rw [this]
theorem Spec.step {B : Int} {pre : List (Int × Int)} {f : List Int} {p : Int × Int} (S : Spec B pre f) (hf : ∀ q ∈ pre, Fine q) (hp : Fine p) : Spec B (pre ++ [p]) (stepM B f p) where
  up := fun k h0 h1 s hs hw => by
    obtain ⟨s1, s2, rfl, hs1, hs2⟩ := List.sublist_append_iff.mp hs
    rw [getI_step h0 h1]
    have hn : 0 ≤ wtS s1 := wtS_nonneg fun q hq => hf q (hs1.subset hq)
    cases hs2 with
    | cons _ h =>
      cases h
      rw [List.append_nil] at hw ⊢
      have := S.up k h0 h1 s1 hs1 hw
      split <;> omega
    | cons_cons _ h =>
      cases h
      rw [wtS_append, wtS_cons] at hw
      rw [woS_append, woS_cons]
      have e1 : wtS [] = 0 := rfl
      have e2 : woS [] = 0 := rfl
      have h1' := hp.1
      have := S.up (k - p.1) (by omega) (by omega) s1 hs1 (by omega)
      rw [if_pos (by omega)]
      omega
  at_ := fun k h0 h1 => by
    rw [getI_step h0 h1]
    obtain ⟨s, a, b, e⟩ := S.at_ k h0 h1
    have a' : s.Sublist (pre ++ [p]) := a.trans (List.sublist_append_left ..)
    split
    · obtain ⟨s', a2, b2, e2⟩ := S.at_ (k - p.1) (by omega) (by have := hp.1; omega)
      by_cases hm : getI f (k - p.1) + p.2 ≤ getI f k
      · rw [Int.max_eq_left hm]; exact ⟨s, a', b, e⟩
      · rw [Int.max_eq_right (by omega)]
        refine ⟨s' ++ [p], a2.append (List.Sublist.refl _), ?_, ?_⟩
        · rw [wtS_append, wtS_cons]; have : wtS [] = 0 := rfl; omega
        · rw [woS_append, woS_cons]; have : woS [] = 0 := rfl; omega
    · exact ⟨s, a', b, e⟩
theorem Spec.fold {B : Int} : ∀ (l pre : List (Int × Int)) (f : List Int), (∀ q ∈ pre ++ l, Fine q) → Spec B pre f → Spec B (pre ++ l) (l.foldl (stepM B) f)
  | [], pre, f, _, S => by simpa using S
  | p :: l, pre, f, hf, S => by
    have := Spec.fold l (pre ++ [p]) (stepM B f p) (by simpa using hf) (S.step (fun q hq => hf q (List.mem_append_left _ hq)) (hf p (by simp)))
    simpa using this
theorem spec_most {B : Int} {ps : List (Int × Int)} (hf : ∀ q ∈ ps, Fine q) : Spec B ps (mostF ps B) := by
  have base : Spec B [] (List.replicate (B + 1).toNat 0) := by
    have hz : ∀ k, getI (List.replicate (B + 1).toNat 0) k = 0 := fun k => by
      unfold getI
      rw [List.getElem?_replicate]
      split <;> rfl
    refine ⟨fun k _ _ s hs _ => ?_, fun k _ _ => ⟨[], .slnil, by simpa [wtS], by rw [hz]; rfl⟩⟩
    rw [List.sublist_nil.mp hs, hz]; exact Int.le_refl _
  have := Spec.fold ps [] _ (by simpa using hf) base
  rw [List.nil_append] at this
  exact this
/-! ### the lots -/
theorem map_getP (ps : List (Int × Int)) : (List.range ps.length).map (getP ps) = ps := by
  apply List.ext_getElem
  · simp
  · intro i h1 h2
    simp [getP, List.getElem?_eq_getElem h2]
theorem mask (s ps : List (Int × Int)) (h : s.Sublist ps) : ∃ b : Nat → Bool, ((List.range ps.length).filter b).map (getP ps) = s := by
  induction h with
  | slnil => exact ⟨fun _ => false, rfl⟩
  | @cons s ps a _ ih =>
    obtain ⟨b, e⟩ := ih
    refine ⟨fun i => match i with | 0 => false | i + 1 => b i, ?_⟩
    rw [List.length_cons, List.range_succ_eq_map, List.filter_cons]
    simp only [Bool.false_eq_true, if_false]
    rw [List.filter_map, List.map_map, ← e]
    rfl
  | @cons_cons s ps a _ ih =>
    obtain ⟨b, e⟩ := ih
    refine ⟨fun i => match i with | 0 => true | i + 1 => b i, ?_⟩
    rw [List.length_cons, List.range_succ_eq_map, List.filter_cons]
    simp only [if_true]
    rw [List.map_cons, List.filter_map, List.map_map, ← e]
    rfl
theorem bits_of (b : Nat → Bool) : ∀ n : Nat, ∃ x : Nat, x < 2 ^ n ∧ ∀ i, i < n → x.testBit i = b i
  | 0 => ⟨0, by decide, fun i h => by omega⟩
  | n + 1 => by
    obtain ⟨x, hx, hb⟩ := bits_of b n
    have hp : 2 ^ (n + 1) = 2 ^ n + 2 ^ n := by rw [Nat.pow_succ]; omega
    cases hn : b n with
    | false =>
      refine ⟨x, by omega, fun i hi => ?_⟩
      by_cases e : i = n
      · subst e; rw [hn]; exact Nat.testBit_lt_two_pow hx
      · exact hb i (by omega)
    | true =>
      refine ⟨2 ^ n + x, by omega, fun i hi => ?_⟩
      by_cases e : i = n
      · subst e; rw [Nat.testBit_two_pow_add_eq, Nat.testBit_lt_two_pow hx, hn]; rfl
      · rw [Nat.testBit_two_pow_add_gt (by omega)]; exact hb i (by omega)
theorem takeB_bit (x i : Nat) : takeB (x : Int) (0 + (i : Int)) = x.testBit i := by
  have e : (0 + (i : Int)).toNat = i := by omega
  have h2 : ((2 : Int) ^ i) = ((2 ^ i : Nat) : Int) := by simp
  rw [takeB, e, h2, Nat.testBit_eq_decide_div_mod_eq, Int.fdiv_eq_ediv_of_nonneg _ (Int.natCast_nonneg _), Int.fmod_eq_emod_of_nonneg _ (by decide), ← Int.natCast_ediv]
  have h3 : (((x / 2 ^ i : Nat) : Int) % 2 == 1) = decide (((x / 2 ^ i : Nat) : Int) % 2 = 1) := rfl
  rw [h3]
  congr 1
  apply propext
  omega
theorem takenF_eq (ps : List (Int × Int)) (lot : Int) : takenF ps lot = ((List.range ps.length).filter fun (i : Nat) => takeB lot (0 + (i : Int))).map (getP ps) := by
  rw [takenF, rangeI, List.filter_map, List.map_map]
  have e : ((ps.length : Int) - 0).toNat = ps.length := by omega
  rw [e]
  apply List.map_congr_left
  intro i _
  show getP ps (0 + (i : Int)).toNat = getP ps i
  congr 1; omega
theorem taken_sub (ps : List (Int × Int)) (lot : Int) : (takenF ps lot).Sublist ps := by
  rw [takenF_eq]
  have := (List.filter_sublist (p := fun i : Nat => takeB lot (0 + (i : Int))) (l := List.range ps.length)).map (getP ps)
  rwa [map_getP] at this
theorem taken_any {s ps : List (Int × Int)} (h : s.Sublist ps) : ∃ lot ∈ rangeI 0 (2 ^ ps.length), takenF ps lot = s := by
  obtain ⟨b, e⟩ := mask s ps h
  obtain ⟨x, hx, hb⟩ := bits_of b ps.length
  have h2 : ((2 : Int) ^ ps.length) = ((2 ^ ps.length : Nat) : Int) := by simp
  refine ⟨(x : Int), mem_rangeI.mpr ⟨by omega, by rw [h2]; omega⟩, ?_⟩
  rw [takenF_eq, ← e]
  congr 1
  apply List.filter_congr
  intro i hi
  rw [takeB_bit]
  exact hb i (List.mem_range.mp hi)
theorem best_up {ps : List (Int × Int)} {B X : Int} : ∀ (l : List Int) (b : Int), b ≤ X → (∀ lot ∈ l, wtS (takenF ps lot) ≤ B → woS (takenF ps lot) ≤ X) → l.foldl (bestStep ps B) b ≤ X
  | [], b, h, _ => h
  | lot :: l, b, h, hl => by
    refine best_up l _ ?_ fun q hq => hl q (List.mem_cons_of_mem _ hq)
    unfold bestStep
    split
    · have := hl lot (List.mem_cons_self ..) (by assumption); omega
    · exact h
theorem best_ge {ps : List (Int × Int)} {B : Int} : ∀ (l : List Int) (b : Int), b ≤ l.foldl (bestStep ps B) b ∧ ∀ lot ∈ l, wtS (takenF ps lot) ≤ B → woS (takenF ps lot) ≤ l.foldl (bestStep ps B) b
  | [], b => ⟨Int.le_refl _, fun _ h => nomatch h⟩
  | lot :: l, b => by
    obtain ⟨h1, h2⟩ := best_ge (ps := ps) (B := B) l (bestStep ps B b lot)
    have h3 : b ≤ bestStep ps B b lot := by unfold bestStep; split <;> omega
    refine ⟨Int.le_trans h3 h1, fun q hq hw => ?_⟩
    rcases List.mem_cons.mp hq with rfl | hq
    · have : woS (takenF ps q) ≤ bestStep ps B b q := by unfold bestStep; rw [if_pos hw]; omega
      exact Int.le_trans this h1
    · exact h2 q hq hw
theorem best_most {ps : List (Int × Int)} {B : Int} (hp : ∀ p ∈ ps, Fine p) (hB : 0 ≤ B) : getI (mostF ps B) B = bestF ps B := by
  have S := spec_most (B := B) hp
  apply Int.le_antisymm
  · obtain ⟨s, a, b, e⟩ := S.at_ B hB (Int.le_refl _)
    obtain ⟨lot, hl, rfl⟩ := taken_any a
    rw [← e]
    exact (best_ge _ 0).2 lot hl b
  · refine best_up _ 0 ?_ fun lot _ hw => S.up B hB (Int.le_refl _) _ (taken_sub ps lot) hw
    exact S.up B hB (Int.le_refl _) [] (List.nil_sublist _) hB
theorem best_is {ps : List (Int × Int)} {B : Int} (hp : ∀ p ∈ ps, Fine p) (hB : 0 ≤ B) : (∀ s : List (Int × Int), s.Sublist ps → wtS s ≤ B → woS s ≤ bestF ps B) ∧ ∃ s : List (Int × Int), s.Sublist ps ∧ wtS s ≤ B ∧ woS s = bestF ps B := by
  rw [← best_most hp hB]
  have S := spec_most (B := B) hp
  exact ⟨S.up B hB (Int.le_refl _), S.at_ B hB (Int.le_refl _)⟩
/-! ### the order -/
def LeT (p q : Int × Int) : Prop := p.1 < q.1 ∨ (p.1 = q.1 ∧ p.2 ≤ q.2)
theorem bis_spec {p : Nat → Bool} {n : Nat} (hp : ∀ i j, i ≤ j → j < n → p j = true → p i = true) : ∀ (d lo hi : Nat), hi - lo ≤ d → lo ≤ hi → hi ≤ n → (∀ j, j < lo → p j = true) → (∀ j, hi ≤ j → j < n → p j = false) →
    (∀ j, j < bis p lo hi → p j = true) ∧ ∀ j, bis p lo hi ≤ j → j < n → p j = false := by
  intro d
  induction d with
  | zero => intro lo hi h1 h2 h3 h4 h5; rw [bis_ge (by omega)]; exact ⟨h4, fun j hj => h5 j (by omega)⟩
  | succ d ih =>
    intro lo hi h1 h2 h3 h4 h5
    by_cases h : lo < hi
    · rw [bis_lt h]
      cases q : p ((lo + hi) / 2) with
      | true =>
        rw [if_pos rfl]
        refine ih _ _ (by omega) (by omega) h3 (fun j hj => hp j ((lo + hi) / 2) (by omega) (by omega) q) h5
      | false =>
        rw [if_neg (by decide)]
        refine ih _ _ (by omega) (by omega) (by omega) h4 fun j hj hjn => ?_
        cases q' : p j with
        | false => rfl
        | true => rw [hp _ j hj hjn q'] at q; cases q
    · rw [bis_ge h]; exact ⟨h4, fun j hj => h5 j (by omega)⟩
theorem ltP_at {xs : List (Int × Int)} {x : Int × Int} {j : Nat} (h : j < xs.length) : ltP xs x j = ltT xs[j].1 xs[j].2 x.1 x.2 := by
  simp [ltP, h]
theorem insT_sorted {xs : List (Int × Int)} (hs : xs.Pairwise LeT) (x : Int × Int) : (insT xs x).Pairwise LeT := by
  have hp := bis_spec (p := ltP xs x) (n := xs.length) (fun i j h hj q => by
    have hi : i < xs.length := Nat.lt_of_le_of_lt h hj
    rw [ltP_at hj] at q
    rw [ltP_at hi]
    rcases Nat.lt_or_ge i j with h' | h'
    · have := List.pairwise_iff_getElem.mp hs i j hi hj h'
      unfold LeT at this
      unfold ltT at *
      split at q <;> split <;> simp only [decide_eq_true_eq] at * <;> omega
    · have : i = j := by omega
      subst this; exact q) xs.length 0 xs.length (by omega) (by omega) (by omega) (fun j hj => by omega) (fun j h1 h2 => by omega)
  have hle := bis_le' (p := ltP xs x) (n := xs.length)
  obtain ⟨h1, h2⟩ := hp
  unfold insT
  generalize bis (ltP xs x) 0 xs.length = k at *
  rw [List.pairwise_append, List.pairwise_cons]
  have ht : ∀ a ∈ xs.take k, LeT a x := fun a ha => by
    obtain ⟨j, hj, rfl⟩ := List.getElem_of_mem ha
    rw [List.length_take] at hj
    have := h1 j (by omega)
    rw [ltP_at (by omega)] at this
    rw [List.getElem_take]
    unfold ltT at this
    unfold LeT
    split at this <;> simp only [decide_eq_true_eq] at this <;> omega
  have hd : ∀ a ∈ xs.drop k, LeT x a := fun a ha => by
    obtain ⟨j, hj, rfl⟩ := List.getElem_of_mem ha
    rw [List.length_drop] at hj
    have := h2 (k + j) (by omega) (by omega)
    rw [ltP_at (by omega)] at this
    rw [List.getElem_drop]
    unfold ltT at this
    unfold LeT
    split at this <;> simp only [decide_eq_false_iff_not] at this <;> omega
  refine ⟨hs.sublist (List.take_sublist ..), ⟨hd, hs.sublist (List.drop_sublist ..)⟩, fun a ha b hb => ?_⟩
  have h3 := ht a ha
  rcases List.mem_cons.mp hb with rfl | hb
  · exact h3
  · have h4 := hd b hb
    unfold LeT at *
    omega
theorem ordN_sorted (ps : List (Int × Int)) : ∀ n, (ordN ps n).Pairwise LeT
  | 0 => .nil
  | n + 1 => insT_sorted (ordN_sorted ps n) _
theorem ordN_perm (ps : List (Int × Int)) : ∀ n, (ordN ps n).Perm ((List.range n).map (keyP ps))
  | 0 => .refl _
  | n + 1 => by
    rw [List.range_succ, List.map_append]
    have h1 : (insT (ordN ps n) (keyP ps n)).Perm (keyP ps n :: ordN ps n) := by
      refine List.perm_middle.trans ?_
      rw [List.take_append_drop]
    refine h1.trans (((ordN_perm ps n).cons _).trans ?_)
    exact List.perm_append_comm (l₁ := [keyP ps n])
theorem parts_perm (ps : List (Int × Int)) : (partsF ps).Perm ps := by
  have h := (ordN_perm ps ps.length).map fun t => getP ps t.2.toNat
  rw [List.map_map] at h
  have e : (List.range ps.length).map ((fun t : Int × Int => getP ps t.2.toNat) ∘ keyP ps) = ps := by
    conv => rhs; rw [← map_getP ps]
    apply List.map_congr_left
    intro i _
    show getP ps ((i : Int)).toNat = getP ps i
    rw [Int.toNat_natCast]
  rw [e] at h
  exact h
/-- worth by weight grows no more along the order -/
def Rat (p q : Int × Int) : Prop := q.2 * p.1 ≤ p.2 * q.1
theorem told_mul {a b : Int} (h : 1 ≤ a ∧ a ≤ 8) : (b * 840).fdiv a * a = b * 840 := by
  rw [Int.fdiv_eq_ediv_of_nonneg _ (by omega)]
  apply Int.ediv_mul_cancel
  have h8 : a = 1 ∨ a = 2 ∨ a = 3 ∨ a = 4 ∨ a = 5 ∨ a = 6 ∨ a = 7 ∨ a = 8 := by omega
  have : a ∣ 840 := by
    rcases h8 with h | h | h | h | h | h | h | h <;> subst h <;> decide
  exact Int.dvd_trans this (Int.dvd_mul_left _ _)
theorem told_rat {p q : Int × Int} (hp : Fine p) (hq : Fine q) (h : 0 - (p.2 * 840).fdiv p.1 ≤ 0 - (q.2 * 840).fdiv q.1) : Rat p q := by
  have e1 := told_mul (b := p.2) ⟨hp.1, hp.2.1⟩
  have e2 := told_mul (b := q.2) ⟨hq.1, hq.2.1⟩
  unfold Rat
  generalize (p.2 * 840).fdiv p.1 = x at *
  generalize (q.2 * 840).fdiv q.1 = y at *
  have hxy : y ≤ x := by omega
  have hpq : 0 ≤ p.1 * q.1 := Int.mul_nonneg (by have := hp.1; omega) (by have := hq.1; omega)
  have h3 := Int.mul_le_mul_of_nonneg_right hxy hpq
  have l1 : y * (p.1 * q.1) = (q.2 * p.1) * 840 := by
    rw [Int.mul_comm p.1 q.1, ← Int.mul_assoc, e2, Int.mul_assoc, Int.mul_comm 840, ← Int.mul_assoc]
  have l2 : x * (p.1 * q.1) = (p.2 * q.1) * 840 := by
    rw [← Int.mul_assoc, e1, Int.mul_assoc, Int.mul_comm 840, ← Int.mul_assoc]
  rw [l1, l2] at h3
  omega
theorem parts_sorted {ps : List (Int × Int)} (hp : ∀ p ∈ ps, Fine p) : (partsF ps).Pairwise Rat := by
  unfold partsF
  rw [List.pairwise_map]
  refine (ordN_sorted ps ps.length).imp_of_mem fun {a b} ha hb h => ?_
  obtain ⟨i, hi, rfl⟩ := ordN_mem ps _ a ha
  obtain ⟨j, hj, rfl⟩ := ordN_mem ps _ b hb
  have e1 : (keyP ps i).2.toNat = i := by simp [keyP]
  have e2 : (keyP ps j).2.toNat = j := by simp [keyP]
  rw [e1, e2]
  refine told_rat (getP_fine hp i) (getP_fine hp j) ?_
  unfold LeT at h
  simp only [keyP] at h
  omega
/-! ### the greedy lot -/
structure GInv (B : Int) (pre : List (Int × Int)) (s : GSt) : Prop where
  lot : ∃ T : List (Int × Int), T.Sublist pre ∧ s.1 = B - wtS T ∧ 0 ≤ s.1 ∧ s.2.1 = woS T
  none_ : s.2.2 = none → s.1 = B - wtS pre ∧ s.2.1 = woS pre
  some_ : ∀ a b c d, s.2.2 = some (a, b, c, d) → ∃ p1 p2 : List (Int × Int), pre = p1 ++ (a, b) :: p2 ∧ c = B - wtS p1 ∧ 0 ≤ c ∧ c < a ∧ d = woS p1 ∧ d ≤ s.2.1
theorem GInv.step {B : Int} {pre : List (Int × Int)} {s : GSt} {p : Int × Int} (I : GInv B pre s) (hp : Fine p) : GInv B (pre ++ [p]) (stepG s p) := by
  obtain ⟨rm, wh, pt⟩ := s
  obtain ⟨⟨T, t1, t2, t3, t4⟩, n, m⟩ := I
  dsimp only at *
  have z1 : wtS [] = 0 := rfl
  have z2 : woS [] = 0 := rfl
  by_cases h : p.1 ≤ rm
  · have e : stepG (rm, wh, pt) p = (rm - p.1, wh + p.2, pt) := by simp [stepG, h]
    rw [e]
    refine ⟨⟨T ++ [p], t1.append (List.Sublist.refl _), ?_, ?_, ?_⟩, fun hn => ?_, fun a b c d hs => ?_⟩
    · rw [wtS_append, wtS_cons]; dsimp only; omega
    · dsimp only; omega
    · rw [woS_append, woS_cons]; dsimp only; omega
    · have := n hn
      rw [wtS_append, wtS_cons, woS_append, woS_cons]; dsimp only; omega
    · obtain ⟨p1, p2, e1, e2, e3, e4, e5, e6⟩ := m a b c d hs
      refine ⟨p1, p2 ++ [p], by rw [e1]; simp, e2, e3, e4, e5, ?_⟩
      have := hp.2.2.1
      dsimp only; omega
  · cases pt with
    | none =>
      have e : stepG (rm, wh, none) p = (rm, wh, some (p.1, p.2, rm, wh)) := by simp [stepG, h]
      rw [e]
      have hn := n rfl
      refine ⟨⟨T, t1.trans (List.sublist_append_left ..), t2, t3, t4⟩, (fun hx => by cases hx), fun a b c d hs => ?_⟩
      cases hs
      exact ⟨pre, [], rfl, hn.1, t3, by omega, hn.2, Int.le_refl _⟩
    | some x =>
      have e : stepG (rm, wh, some x) p = (rm, wh, some x) := by simp [stepG, h]
      rw [e]
      refine ⟨⟨T, t1.trans (List.sublist_append_left ..), t2, t3, t4⟩, (fun hx => by cases hx), fun a b c d hs => ?_⟩
      obtain ⟨p1, p2, e1, e2, e3, e4, e5, e6⟩ := m a b c d hs
      exact ⟨p1, p2 ++ [p], by rw [e1]; simp, e2, e3, e4, e5, e6⟩
theorem GInv.fold {B : Int} : ∀ (l pre : List (Int × Int)) (s : GSt), (∀ q ∈ l, Fine q) → GInv B pre s → GInv B (pre ++ l) (l.foldl stepG s)
  | [], pre, s, _, I => by simpa using I
  | p :: l, pre, s, hf, I => by
    have := GInv.fold l (pre ++ [p]) (stepG s p) (fun q hq => hf q (List.mem_cons_of_mem _ hq)) (I.step (hf p (List.mem_cons_self ..)))
    simpa using this
theorem ginv {ps : List (Int × Int)} {B : Int} (hp : ∀ p ∈ ps, Fine p) (hB : 0 ≤ B) : GInv B (partsF ps) (greedyF ps B) := by
  have base : GInv B [] (B, 0, none) := ⟨⟨[], .slnil, by simp [wtS], hB, rfl⟩, fun _ => ⟨by simp [wtS], rfl⟩, fun a b c d h => by cases h⟩
  have := GInv.fold (partsF ps) [] _ (partsF_fine hp) base
  rw [List.nil_append] at this
  exact this
theorem dz1 {a b : Int} {s l : List (Int × Int)} (h : s.Sublist l) (hl : ∀ q ∈ l, b * q.1 ≤ q.2 * a) : woS s * a + b * wtS l ≤ woS l * a + b * wtS s := by
  induction h with
  | slnil => exact Int.le_refl _
  | cons q _ ih =>
    have h1 := ih fun r hr => hl r (List.mem_cons_of_mem _ hr)
    have h2 := hl q (List.mem_cons_self ..)
    rw [wtS_cons, woS_cons, Int.mul_add, Int.add_mul]; omega
  | cons_cons q _ ih =>
    have h1 := ih fun r hr => hl r (List.mem_cons_of_mem _ hr)
    simp only [wtS_cons, woS_cons, Int.mul_add, Int.add_mul]; omega
theorem dz2 {a b : Int} : ∀ {s : List (Int × Int)}, (∀ q ∈ s, q.2 * a ≤ b * q.1) → woS s * a ≤ b * wtS s
  | [], _ => by simp [wtS, woS]
  | q :: s, h => by
    have h1 := dz2 (s := s) fun r hr => h r (List.mem_cons_of_mem _ hr)
    have h2 := h q (List.mem_cons_self ..)
    rw [wtS_cons, woS_cons, Int.mul_add, Int.add_mul]; omega
theorem dantzig {ps : List (Int × Int)} {B : Int} (hp : ∀ p ∈ ps, Fine p) (hB : 0 ≤ B) {a b c d : Int} (h : (greedyF ps B).2.2 = some (a, b, c, d)) :
    bestF ps B * a ≤ d * a + b * c ∧ 0 ≤ c ∧ c < a ∧ d ≤ (greedyF ps B).2.1 ∧ (a, b) ∈ ps := by
  obtain ⟨p1, p2, e1, e2, e3, e4, e5, e6⟩ := (ginv hp hB).some_ a b c d h
  have hmem : (a, b) ∈ ps := (parts_perm ps).subset (by rw [e1]; simp)
  refine ⟨?_, e3, e4, e6, hmem⟩
  obtain ⟨s, h1, h2, h3⟩ := (best_is hp hB).2
  obtain ⟨s', h4, h5⟩ := perm_sub (parts_perm ps).symm s h1
  rw [← wtS_perm h5] at h2
  rw [← woS_perm h5] at h3
  have hsort := parts_sorted hp
  rw [e1] at h4 hsort
  obtain ⟨s1, s2, rfl, hs1, hs2⟩ := List.sublist_append_iff.mp h4
  rw [List.pairwise_append] at hsort
  obtain ⟨_, q2, q3⟩ := hsort
  rw [List.pairwise_cons] at q2
  have d1 := dz1 (a := a) (b := b) hs1 fun q hq => q3 q hq (a, b) (List.mem_cons_self ..)
  have d2 := dz2 (a := a) (b := b) (s := s2) fun q hq => by
    rcases List.mem_cons.mp (hs2.subset hq) with rfl | hq
    · exact Int.le_refl _
    · exact q2.1 q hq
  have hb : 0 ≤ b := by have := (hp _ hmem).2.2.1; simp only at this; omega
  have d3 := Int.mul_le_mul_of_nonneg_left h2 hb
  rw [wtS_append, Int.mul_add] at d3
  rw [← h3, woS_append, Int.add_mul, e2, Int.mul_sub, e5]
  omega

section
variable {ps : List (Int × Int)} {B : Int} (hp : ∀ p ∈ ps, Fine p) (hn : ps.length ≤ 6) (hB : 8 ≤ B ∧ B ≤ 20)
include hp hn hB
theorem g1 : getI (mostF ps B) B = bestF ps B := best_most hp (by omega)
theorem g2 : mostF ps.reverse B = mostF ps B := by
  have hp' : ∀ p ∈ ps.reverse, Fine p := fun p h => hp p (List.mem_reverse.mp h)
  have S := spec_most (B := B) hp
  have S' := spec_most (B := B) hp'
  have key : ∀ k, 0 ≤ k → k ≤ B → getI (mostF ps.reverse B) k = getI (mostF ps B) k := fun k h0 h1 => by
    apply Int.le_antisymm
    · obtain ⟨s, a, b, e⟩ := S'.at_ k h0 h1
      have a' : s.reverse.Sublist ps := by simpa using a.reverse
      have pr := List.reverse_perm s
      rw [← e, ← woS_perm pr]
      exact S.up k h0 h1 _ a' (by rw [wtS_perm pr]; exact b)
    · obtain ⟨s, a, b, e⟩ := S.at_ k h0 h1
      have pr := List.reverse_perm s
      rw [← e, ← woS_perm pr]
      exact S'.up k h0 h1 _ a.reverse (by rw [wtS_perm pr]; exact b)
  apply List.ext_getElem
  · rw [mostF_length, mostF_length]
  · intro i h1 h2
    have := key i (by omega) (by rw [mostF_length] at h2; omega)
    unfold getI at this
    rw [Int.toNat_natCast, List.getElem?_eq_getElem h1, List.getElem?_eq_getElem h2] at this
    exact this
theorem g3 : ((rangeI 1 (partsF ps).length).filter fun k => decide ((getP (partsF ps) (k - 1).toNat).2 * (getP (partsF ps) k.toNat).1 < (getP (partsF ps) k.toNat).2 * (getP (partsF ps) (k - 1).toNat).1)) = [] := by
  rw [List.filter_eq_nil_iff]
  intro k hk
  rw [mem_rangeI] at hk
  have h1 : (k - 1).toNat < (partsF ps).length := by omega
  have h2 : k.toNat < (partsF ps).length := by omega
  have := List.pairwise_iff_getElem.mp (parts_sorted hp) _ _ h1 h2 (by omega)
  unfold Rat at this
  rw [decide_eq_true_eq, getP, getP, List.getElem?_eq_getElem h1, List.getElem?_eq_getElem h2]
  simp only [Option.getD_some]
  omega
theorem g5 : ¬ bestF ps B < (greedyF ps B).2.1 := by
  obtain ⟨T, t1, t2, t3, t4⟩ := (ginv hp (B := B) (by omega)).lot
  obtain ⟨s', h4, h5⟩ := perm_sub (parts_perm ps) T t1
  have := (best_is hp (B := B) (by omega)).1 s' h4 (by rw [wtS_perm h5]; omega)
  rw [woS_perm h5] at this
  omega
theorem g6 {a b c d : Int} (h : (greedyF ps B).2.2 = some (a, b, c, d)) : ¬ d * a + b * c < bestF ps B * a := by
  have := (dantzig hp (by omega) h).1
  omega
theorem g7 (h : (greedyF ps B).2.2 = none) : bestF ps B = (greedyF ps B).2.1 := by
  have h5 := g5 hp hn hB
  have := (ginv hp (B := B) (by omega)).none_ h
  obtain ⟨s, h1, h2, h3⟩ := (best_is hp (B := B) (by omega)).2
  have h4 := woS_sub h1 hp
  rw [woS_perm (parts_perm ps)] at this
  omega
theorem g4 : ¬ 2 * maxL (greedyF ps B).2.1 (ps.map (·.2)) < bestF ps B := by
  have hm := le_maxL (ps.map (·.2)) (greedyF ps B).2.1
  have h0 := hm _ (List.mem_cons_self ..)
  obtain ⟨T, t1, t2, t3, t4⟩ := (ginv hp (B := B) (by omega)).lot
  have hw : 0 ≤ (greedyF ps B).2.1 := by
    rw [t4]
    have := woS_sub (List.nil_sublist T) (fun q hq => partsF_fine hp q (t1.subset hq))
    exact this
  cases hg : (greedyF ps B).2.2 with
  | none => have := g7 hp hn hB hg; omega
  | some x =>
    obtain ⟨a, b, c, d⟩ := x
    obtain ⟨h1, h2, h3, h4, h5⟩ := dantzig hp (B := B) (by omega) hg
    have hb := hm b (List.mem_cons_of_mem _ (List.mem_map.mpr ⟨_, h5, rfl⟩))
    have hb0 : 0 ≤ b := by have := (hp _ h5).2.2.1; simp only at this; omega
    have h6 := Int.mul_le_mul_of_nonneg_left (show c ≤ a by omega) hb0
    have h7 : bestF ps B * a ≤ (d + b) * a := by rw [Int.add_mul]; omega
    have h8 := Int.le_of_mul_le_mul_right h7 (show 0 < a by omega)
    omega
theorem g8 : ((rangeI 1 (B + 1)).filter fun k => !(decide (getI (mostF ps B) (k - 1) ≤ getI (mostF ps B) k) && decide (getI (mostF ps B) k ≤ getI (mostF ps B) (k - 1) + maxL 0 (ps.map (·.2))))) = [] := by
  rw [List.filter_eq_nil_iff]
  intro k hk
  rw [mem_rangeI] at hk
  have S := spec_most (B := B) hp
  have hm := le_maxL (ps.map (·.2)) 0
  have h0 := hm _ (List.mem_cons_self ..)
  have a1 : getI (mostF ps B) (k - 1) ≤ getI (mostF ps B) k := by
    obtain ⟨s, a, b, e⟩ := S.at_ (k - 1) (by omega) (by omega)
    rw [← e]
    exact S.up k (by omega) (by omega) s a (by omega)
  have a2 : getI (mostF ps B) k ≤ getI (mostF ps B) (k - 1) + maxL 0 (ps.map (·.2)) := by
    obtain ⟨s, a, b, e⟩ := S.at_ k (by omega) (by omega)
    rw [← e]
    cases s with
    | nil =>
      have := S.up (k - 1) (by omega) (by omega) [] (List.nil_sublist _) (by show (0 : Int) ≤ k - 1; omega)
      omega
    | cons q s =>
      have hq : q ∈ ps := a.subset (List.mem_cons_self ..)
      have h1 := hm q.2 (List.mem_cons_of_mem _ (List.mem_map.mpr ⟨q, hq, rfl⟩))
      have h2 := (hp q hq).1
      rw [wtS_cons] at b
      have := S.up (k - 1) (by omega) (by omega) s ((List.sublist_cons_self ..).trans a) (by omega)
      rw [woS_cons]; omega
  rw [decide_eq_true a1, decide_eq_true a2]
  decide
end
theorem g9 {ps : List (Int × Int)} : (ps.flatMap fun x => (ps.filter fun y => (decide (cmpI x.2 y.2 < 0) != decide (x.2 < y.2))).map fun _ => (1 : Int)) = [] := by
  rw [List.flatMap_eq_nil_iff]
  intro x _
  rw [List.map_eq_nil_iff, List.filter_eq_nil_iff]
  intro y _
  have : decide (cmpI x.2 y.2 < 0) = decide (x.2 < y.2) := by
    unfold cmpI
    rcases Int.lt_trichotomy x.2 y.2 with h | h | h
    · rw [if_pos h]; simp [h]
    · rw [h, if_neg (by omega), if_neg (by omega)]; simp
    · rw [if_neg (by omega), if_pos h]; simp; omega
  simp [this]
end

/-! ### M2 -/
section
variable {prog : Program} {w : World} {p : Program} {loose : List Str} {mean : ExcName → Option Value} {mg mb : Str → Option Value}
end
set_option maxHeartbeats 8000000 in
theorem tt2 : PySem.Challenge.rw_hg0001_02.Holds := by
  refine Mine.hd02 ?_
  k_go0
  rename_i w s₀ s₁ mg mb G Y fa o pm doc ho hg KX X V GL T B TE TW _ _ _ _ _ cda ns _ _ _ _ _ _ _ a vs _ hL ra w1 r0 hI hr hc1 hc2 K0 hD h₁ tk₁ F o1 o2 o3 o4 o5 l1 l2 l3 l4 l5 N0 X0
  refine law_open (c := C1 _ w _ _ _ mg mb) KX T hL hI F N0 X0 rfl ?ap ?ab (Nat.le_refl _) rfl ?ok ?ex ?q
  case ap => exact (cells_apart _ _).2
  case ab => exact (cells_apart _ _).1
  case ok => exact .inl ⟨rfl, rfl⟩
  case q =>
    rintro s' ⟨h, tk, rfl⟩ h2
    exact ⟨.inl ⟨.bool true, .bool true, [], rfl, fun _ => rfl, .bool true, (by first | (with_unfolding_all rfl) | kernel_rfl), fun _ => ⟨List.nodup_nil, fun _ h => nomatch h⟩⟩, h2, rfl, hg⟩
  have hns : ns.length ≤ 63 := by omega
  clear hD r0 w1 ra T B TE TW GL G Y X V K0 l1 l2 l3 l4 l5 N0 X0 F hL hr hI KX hg ho hc1 hc2
  intro F
  generalize hen : envOfC _ _ _ _ _ = env at F ⊢
  generalize hA' : callerA.deeper env = A
  have hA : A.handled = none := by rw [← hA']; rfl
  have hr : Room A 6 := by rw [← hA']; exact ⟨rfl, by show 1 + claimMargin + 1 + 6 < recursionLimit; decide, by show 4 + 3 + 8 * 6 + 200 < cLine; decide⟩
  clear hA'
  have hT := tsOf_length ns
  have hTf := tsOf_fine ns
  have hBb := bOf_bound ns
  have hr4 : Room A 4 := hr.less (by omega)
  have hr3 : Room A 3 := hr.less (by omega)
  have hr2 : Room A 2 := hr.less (by omega)
  have hr1 : Room A 1 := hr.less (by omega)
  have hu : A.units + 64 < cLine := by have := hr.units; omega
  obtain ⟨ts, hts⟩ : ∃ ts, ts = tsOf ns := ⟨_, rfl⟩
  obtain ⟨B, hB⟩ : ∃ B, B = bOf ns := ⟨_, rfl⟩
  -- things
  refine Ex.then (o₁ := none) (σ₁ := [(("things" : Str), .lst (ts.map encP)), (("script" : Str), .lst (ns.map .int))]) (Ex.assign F (Ev.conv (Ev.compG (xs := ns.take 6) (τ := []) hA D.int decI decI_int encP (fun _ => true) thingF (fun j => [(("number" : Str), .int j)])
    (Ev.slice_to (k := 6) (Ev.name rfl) Ev.int (by omega) (by rw [List.length_map, sizeLine_eq]; omega))
    (by rw [elems_lst, List.map_take]; rfl) (by intro a b h; cases h) (by simp [sizeLine_eq]; omega) (by subst_vars; rfl) Caps.nil (by walk_at "tg1") (by walk_at "nm1") (fun _ _ _ => Tests.nil) (fun x hx _ C => Ev.callF (by walk_at "gn") rfl rfl (by walk_at "evs") (law_thing_fn hr1)) (by decide) rfl (by decide)) (by rw [hts, List.filter_eq_self.mpr (fun _ _ => rfl)]; rfl)) (by walk_at "okl") (by subst_vars; rfl) (by walk_at "own")) ?_
  -- bound
  refine Ex.then (Ex.assign (d := .int B) F (Ev.conv (Ev.bin Ev.int (Ev.bin (Ev.callB (by walk_at "gn") (Evs.cons (Ev.name rfl) Evs.nil) (call_sum hA)) Ev.int (op_mod (by decide))) op_add) (by rw [hB, bOf])) (by walk_at "okl") rfl (by walk_at "own")) ?_
  have hTl : ts.length ≤ 6 := by rw [hts]; exact hT
  have hTf : ∀ p ∈ ts, Fine p := by rw [hts]; exact hTf
  have hBb : 8 ≤ B ∧ B ≤ 20 := by rw [hB]; exact hBb
  clear hts hB hT
  have hTr : ∀ p ∈ ts.reverse, Fine p := fun p hp => hTf p (List.mem_reverse.mp hp)
  have hmo := mostF_length (ps := ts) (B := B)
  -- most, best
  refine Ex.then (o₁ := none) (σ₁ := [(("best" : Str), .int 0), (("most" : Str), .lst ((mostF ts B).map .int)), (("bound" : Str), .int B), (("things" : Str), .lst (ts.map encP)), (("script" : Str), .lst (ns.map .int))])
    (Ex.assignT F hA (d := .tup [.lst ((mostF ts B).map .int), .int 0]) (Ev.tuple (Evs.cons (Ev.callF (by walk_at "gn") rfl rfl (by walk_at "evs") (law_most_fn hr1 (fun p hp => (hTf p hp).1) (by omega) (by omega))) (by walk_at "evs")) (by simp [sizeLine_eq]))
      (Tgt.tup2 (frameVars F) (Tgt.name (frameVars F) (by walk_at "okl")) (Tgt.name (frameVars F) (by walk_at "okl"))) (by walk_at "okl2") (by walk_at "own") (by subst_vars; rfl) (by subst_vars; rfl)) ?_
  -- REST
  have hpw : (1 : Int) ≤ 2 ^ ts.length ∧ (2 : Int) ^ ts.length ≤ 64 := by
    have : ∀ n : Nat, n ≤ 6 → (1 : Int) ≤ 2 ^ n ∧ (2 : Int) ^ n ≤ 64 := by
      intro n hn
      match n, hn with
      | 0, _ => decide
      | 1, _ => decide
      | 2, _ => decide
      | 3, _ => decide
      | 4, _ => decide
      | 5, _ => decide
      | 6, _ => decide
    exact this _ hTl
  have hlt : ∀ {c : Cfg} {σ : Sg}, Ev c A env ((("things" : Str), .lst (ts.map encP)) :: σ) (.Name "things" ⟨0, 0, 0, 0⟩) (.lst (ts.map encP)) := fun {c σ} => Ev.name rfl
  clear hlt
  let β : Sg := [(("most" : Str), .lst ((mostF ts B).map .int)), (("bound" : Str), .int B), (("things" : Str), .lst (ts.map encP))]
  refine Ex.cons (N₁ := fun o σ => o = none ∧ Cov ((("best" : Str), .int (bestF ts B)) :: β) σ) (Ex.mono (Ex.for_ F hA (fun d => [(("lot" : Str), d)]) (fun i o σ => o = none ∧ Cov ((("best" : Str), .int (((rangeI 0 (2 ^ ts.length)).take i).foldl (bestStep ts B) 0)) :: β) σ) (di := .rng 0 (2 ^ ts.length)) (Ev.conv (Ev.callT (by walk_at "gn") (Evs.cons (Ev.bin (Ev.int) (Ev.callB (d := .int ts.length) (by walk_at "gn") (Evs.cons (Ev.name rfl) Evs.nil) (call_len (by rw [List.length_map]) (by rw [List.length_map]; omega))) (op_pow (by omega) (by omega) (by decide))) Evs.nil) call_range1) (by simp)) elems_rng (rng_small (by omega) (by omega) (by omega) (by omega)) (fun d _ => Tgt.name (frameVars F) (by walk_at "okl")) (fun d _ => by walk_at "okl1") (by rintro _ _ _ _ ⟨rfl, _⟩ _; walk_at "own") ⟨rfl, by walk_at "cov"⟩ ?lots) (fun o σ h => ⟨h.1, by
      have h2 := h.2
      rw [List.length_map, List.take_length] at h2
      exact h2⟩) fun _ h => h) ?_
  case lots =>
    rintro i d own σ hd ⟨rfl, hcov⟩
    obtain ⟨lot, hlot, rfl⟩ : ∃ lot, (rangeI 0 (2 ^ ts.length))[i]? = some lot ∧ d = .int lot := by
      rw [List.getElem?_map, Option.map_eq_some_iff] at hd
      obtain ⟨n, h1, h2⟩ := hd
      exact ⟨n, h1, h2.symm⟩
    have hstep : ((rangeI 0 (2 ^ ts.length)).take (i + 1)).foldl (bestStep ts B) 0 = bestStep ts B (((rangeI 0 (2 ^ ts.length)).take i).foldl (bestStep ts B) 0) lot := foldl_take_succ _ _ _ _ _ hlot
    rw [hstep]
    generalize ((rangeI 0 (2 ^ ts.length)).take i).foldl (bestStep ts B) 0 = b0 at *
    refine Ex.weak (σ' := (("lot" : Str), .int lot) :: (("best" : Str), .int b0) :: β) ?_ (Cov.cons rfl (Cov.cons (hcov _ _ rfl) (Cov.cons (hcov _ _ rfl) (Cov.cons (hcov _ _ rfl) (Cov.cons (hcov _ _ rfl) Cov.nil)))))
    refine Ex.then (σ₁ := (("taken" : Str), .lst ((takenF ts lot).map encP)) :: (("lot" : Str), .int lot) :: (("best" : Str), .int b0) :: β) (Ex.assignComp (xs := rangeI 0 ts.length) (τ := [(("things" : Str), .lst (ts.map encP)), (("lot" : Str), .int lot)]) F hA D.int decI decI_int encP (takeB lot) (fun k => getP ts k.toNat) (fun j => [(("k" : Str), .int j)])
      (Ev.callT (by walk_at "gn") (Evs.cons (Ev.callB (d := .int ts.length) (by walk_at "gn") (Evs.cons (Ev.name rfl) Evs.nil) (call_len (by rw [List.length_map]) (by rw [List.length_map]; omega))) Evs.nil) call_range1) elems_rng (rng_small (by omega) (by omega) (by omega) (by omega)) (by rw [rangeI_length, sizeLine_eq]; omega) (by subst_vars; rfl) (by walk_at "cap") (by walk_at "tg1") (by walk_at "nm1") ?test ?elt (by decide) rfl (by decide) (by walk_at "okl") (by subst_vars; rfl)) ?_
    case test =>
      intro k hk C
      rw [mem_rangeI] at hk
      have hk2 : (2 : Int) ^ k.toNat ≠ 0 ∧ ((2 : Int) ^ k.toNat).natAbs < 1073741824 := by
        have : ∀ n : Nat, n < 6 → (2 : Int) ^ n ≠ 0 ∧ ((2 : Int) ^ n).natAbs < 1073741824 := by
          intro n hn
          match n, hn with
          | 0, _ => decide
          | 1, _ => decide
          | 2, _ => decide
          | 3, _ => decide
          | 4, _ => decide
          | 5, _ => decide
        exact this _ (by omega)
      exact Tests.one (Tr.cmp (Ev.bin (Ev.bin (Ev.name rfl) (Ev.bin Ev.int (Ev.name rfl) (op_pow (by omega) (by omega) (by decide))) (op_fdiv hk2.1 hk2.2)) Ev.int (op_mod (by decide))) Ev.int op_eq)
    case elt =>
      intro k hk _ C
      rw [mem_rangeI] at hk
      exact Ev.sub (Ev.name rfl) (Ev.name rfl) (op_item (by omega) (getP_at (by omega)) (by omega))
    have htl : (takenF ts lot).length ≤ ts.length := by
      rw [takenF, List.length_map]
      have := List.length_filter_le (takeB lot) (rangeI 0 ts.length)
      rw [rangeI_length] at this; omega
    refine Ex.cons (N₁ := fun o σ => o = none ∧ Cov ((("best" : Str), .int (bestStep ts B b0 lot)) :: β) σ) (Ex.if_ (b := decide (wtS (takenF ts lot) ≤ B)) F (Tr.cmp (Ev.callB (by walk_at "gn") (Evs.cons (Ev.conv (d' := .lst (((takenF ts lot).map (·.1)).map .int)) (Ev.compG (xs := takenF ts lot) (τ := []) hA encP decP decP_encP D.int (fun _ => true) (fun p => p.1) (fun p => [(("worth" : Str), .int p.2), (("weight" : Str), .int p.1)])
        (Ev.name rfl) elems_lst (by intro a b h; cases h) (by rw [sizeLine_eq]; omega) (by subst_vars; rfl) Caps.nil ?tgt ?nm (fun _ _ _ => Tests.nil) (fun _ _ _ _ => Ev.name rfl) (by decide) rfl (by decide)) (by rw [List.filter_eq_self.mpr (fun _ _ => rfl)])) Evs.nil) (call_sum hA)) (Ev.name rfl) op_le) ?yes ?no) fun o s h => Ex.nil h
    case tgt => exact fun x hx C => Tgt.tup2 (compVars rfl) (Tgt.name (compVars rfl) (by subst_vars; exact ⟨rfl, rfl⟩)) (Tgt.name (compVars rfl) (by subst_vars; exact ⟨rfl, rfl⟩))
    case nm => exact fun x hx => okC (List.forall_mem_cons.mpr ⟨by subst_vars; exact ⟨rfl, rfl⟩, List.forall_mem_cons.mpr ⟨by subst_vars; exact ⟨rfl, rfl⟩, fun _ h => nomatch h⟩⟩)
    case yes =>
      intro h
      have h := of_decide_eq_true h
      have e : bestStep ts B b0 lot = max b0 (woS (takenF ts lot)) := by rw [bestStep, if_pos h]
      rw [e]
      refine Ex.then (Ex.assign (d := .int (max b0 (woS (takenF ts lot)))) F (Ev.callB (by walk_at "gn") (Evs.cons (Ev.name rfl) (Evs.cons (Ev.callB (by walk_at "gn") (Evs.cons (Ev.conv (d' := .lst (((takenF ts lot).map (·.2)).map .int)) (Ev.compG (xs := takenF ts lot) (τ := []) hA encP decP decP_encP D.int (fun _ => true) (fun p => p.2) (fun p => [(("worth" : Str), .int p.2), (("weight" : Str), .int p.1)])
        (Ev.name rfl) elems_lst (by intro a b h; cases h) (by rw [sizeLine_eq]; omega) (by subst_vars; rfl) Caps.nil ?tgt ?nm (fun _ _ _ => Tests.nil) (fun _ _ _ _ => Ev.name rfl) (by decide) rfl (by decide)) (by rw [List.filter_eq_self.mpr (fun _ _ => rfl)])) Evs.nil) (call_sum hA)) Evs.nil)) (call_max2 hA)) (by walk_at "okl") (by subst_vars; rfl) (by walk_at "own")) (Ex.nil ⟨rfl, Cov.cons rfl (Cov.cons rfl (Cov.cons rfl (Cov.cons rfl Cov.nil)))⟩)
      case tgt => exact fun x hx C => Tgt.tup2 (compVars rfl) (Tgt.name (compVars rfl) (by subst_vars; exact ⟨rfl, rfl⟩)) (Tgt.name (compVars rfl) (by subst_vars; exact ⟨rfl, rfl⟩))
      case nm => exact fun x hx => okC (List.forall_mem_cons.mpr ⟨by subst_vars; exact ⟨rfl, rfl⟩, List.forall_mem_cons.mpr ⟨by subst_vars; exact ⟨rfl, rfl⟩, fun _ h => nomatch h⟩⟩)
    case no =>
      intro h
      have h := of_decide_eq_false h
      have e : bestStep ts B b0 lot = b0 := by rw [bestStep, if_neg h]
      rw [e]
      exact Ex.nil ⟨rfl, Cov.cons rfl (Cov.cons rfl (Cov.cons rfl (Cov.cons rfl Cov.nil)))⟩
  rintro o σ ⟨rfl, hcov⟩
  refine Ex.weak ?_ hcov
  clear hcov
  have hx1 := g1 hTf hTl hBb
  have hx2 := g2 hTf hTl hBb
  generalize hbe : bestF ts B = best at *
  -- the first test
  refine Ex.then (Ex.skip F (Tr.or_cons (Tr.cmp (Ev.sub (Ev.name rfl) (Ev.name rfl) (op_item (by omega) (getI_at (by omega) (by omega)) (by omega))) (Ev.name rfl) op_ne) fun _ => Tr.or_cons (Tr.cmp (Ev.callF (by walk_at "gn") rfl rfl (Evs.cons (Ev.conv (d' := .lst (ts.reverse.map encP)) (Ev.slice_rev (Ev.name rfl) (by first | exact Ev.int | exact Ev.una Ev.int op_neg) (by rw [List.length_map, sizeLine_eq]; omega)) (by simp [List.map_reverse])) (by walk_at "evs")) (law_most_fn hr1 (fun p hp => (hTr p hp).1) (by omega) (by omega))) (Ev.name rfl) (op_neL hu)) fun _ => Tr.or_nil) (by rw [hx1, hx2]; simp) ⟨rfl, rfl⟩) ?_
  -- by parts
  have hof := partsF_fine hTf
  have hol := partsF_length ts
  have hx3 := g3 hTf hTl hBb
  have hx4 := g4 hTf hTl hBb
  have hx5 := g5 hTf hTl hBb
  have hx6 := fun {a b c d : Int} => g6 (a := a) (b := b) (c := c) (d := d) hTf hTl hBb
  have hx7 := g7 hTf hTl hBb
  have hx8 := g8 hTf hTl hBb
  rw [hbe] at hx4 hx5 hx7
  simp only [hbe] at hx6
  have hgr : greedyF ts B = (partsF ts).foldl stepG (B, 0, none) := rfl
  refine Ex.then (Ex.assign (d := .lst ((partsF ts).map encP)) F (Ev.callF (by walk_at "gn") rfl rfl (by walk_at "evs") (law_by_parts_fn hr3 (fun p hp => ⟨(hTf p hp).1, (hTf p hp).2.1⟩) (by omega))) (by walk_at "okl") (by subst_vars; rfl) (by walk_at "own")) ?_
  generalize hord : partsF ts = ord at *
  have hfp : ∀ j, Fine (getP ord j) := getP_fine hof
  refine Ex.then (Ex.skip F (Tr.cmp (Ev.compG (xs := rangeI 1 ord.length) (τ := [(("order" : Str), .lst (ord.map encP))]) hA D.int decI decI_int D.int (fun k => decide ((getP ord (k - 1).toNat).2 * (getP ord k.toNat).1 < (getP ord k.toNat).2 * (getP ord (k - 1).toNat).1)) id (fun j => [(("k" : Str), .int j)])
      (Ev.callT (by walk_at "gn") (Evs.cons Ev.int (Evs.cons (Ev.callB (d := .int ord.length) (by walk_at "gn") (Evs.cons (Ev.name rfl) Evs.nil) (call_len (by rw [List.length_map]) (by rw [List.length_map]; omega))) Evs.nil)) call_range2) elems_rng (rng_small (by omega) (by omega) (by omega) (by omega)) (by rw [rangeI_length, sizeLine_eq]; omega) (by subst_vars; rfl) (by walk_at "cap") (by walk_at "tg1") (by walk_at "nm1") ?test ?elt (by decide) rfl (by decide))
    (Ev.list (ds := []) Evs.nil (by simp [sizeLine_eq])) (op_neL (ms := []) hu)) (by rw [hx3]; rfl) ⟨rfl, rfl⟩) ?_
  case test =>
    intro k hk C
    rw [mem_rangeI] at hk
    have f1 := hfp (k - 1).toNat
    have f2 := hfp k.toNat
    refine Tests.one (Tr.cmp (Ev.bin (Ev.sub (Ev.sub (Ev.name rfl) (Ev.bin (Ev.name rfl) Ev.int op_sub) (op_item (by omega) (getP_at (by omega)) (by omega))) Ev.int (op_item_tup (by decide) rfl (by decide))) (Ev.sub (Ev.sub (Ev.name rfl) (Ev.name rfl) (op_item (by omega) (getP_at (by omega)) (by omega))) Ev.int (op_item_tup (by decide) rfl (by decide))) (op_mul (mulOk (by have := f1.2.2; omega))))
      (Ev.bin (Ev.sub (Ev.sub (Ev.name rfl) (Ev.name rfl) (op_item (by omega) (getP_at (by omega)) (by omega))) Ev.int (op_item_tup (by decide) rfl (by decide))) (Ev.sub (Ev.sub (Ev.name rfl) (Ev.bin (Ev.name rfl) Ev.int op_sub) (op_item (by omega) (getP_at (by omega)) (by omega))) Ev.int (op_item_tup (by decide) rfl (by decide))) (op_mul (mulOk (by have := f2.2.2; omega)))) op_lt)
  case elt => exact fun x hx _ C => Ev.name rfl
  -- the greedy lot
  refine Ex.then (Ex.assignSw (xs := ["room", "whole", "part"]) (ds := [.int B, .int 0, .none]) F hA (Ev.tuple (by walk_at "evs") (by simp [sizeLine_eq])) rfl (by
    intro x hx
    rcases List.mem_cons.mp hx with rfl | hx
    · walk_at "okl"
    rcases List.mem_cons.mp hx with rfl | hx
    · walk_at "okl"
    · rw [List.mem_singleton.mp hx]; walk_at "okl") (by walk_at "own") (by subst_vars; rfl) (by subst_vars; rfl)) ?_
  let γ : Sg := (("best" : Str), .int best) :: (("order" : Str), .lst (ord.map encP)) :: β
  refine Ex.cons (N₁ := fun o σ => o = none ∧ Cov ((("room" : Str), .int (greedyF ts B).1) :: (("whole" : Str), .int (greedyF ts B).2.1) :: (("part" : Str), partD (greedyF ts B).2.2) :: γ) σ) (Ex.mono (Ex.for_ F hA (fun d => [(("worth" : Str), .int (decP d).2), (("weight" : Str), .int (decP d).1)])
    (fun i o σ => o = none ∧ ∃ st : GSt, st = (ord.take i).foldl stepG (B, 0, none) ∧ Cov ((("room" : Str), .int st.1) :: (("whole" : Str), .int st.2.1) :: (("part" : Str), partD st.2.2) :: γ) σ) (di := .lst (ord.map encP)) (Ev.name rfl) elems_lst (by intro a b h; cases h) ?tgt ?ok (by rintro _ _ _ _ ⟨rfl, _⟩ _; walk_at "own") ⟨rfl, (B, 0, none), rfl, by walk_at "cov"⟩ ?greedy) (fun o σ h => ⟨h.1, by
      obtain ⟨_, st, hst, h2⟩ := h
      rw [List.length_map, List.take_length] at hst
      rw [hgr, ← hst]
      exact h2⟩) fun _ h => h) ?_
  case tgt =>
    intro d hd
    obtain ⟨x, hx, rfl⟩ := List.mem_map.mp hd
    exact Tgt.tup2 (frameVars F) (Tgt.name (frameVars F) (by walk_at "okl")) (Tgt.name (frameVars F) (by walk_at "okl"))
  case ok => exact fun d hd => by walk_at "okl2"
  case greedy =>
    rintro i d own σ hd ⟨rfl, st, hst, hcov⟩
    obtain ⟨⟨wt, wo⟩, hn, rfl⟩ := get_map_P hd
    have hstep : (ord.take (i + 1)).foldl stepG (B, 0, none) = stepG st (wt, wo) := by rw [hst]; exact foldl_take_succ _ _ _ _ _ hn
    rw [hstep]
    clear hstep hst
    obtain ⟨rm, wh, pt⟩ := st
    refine Ex.weak (σ' := (("worth" : Str), .int wo) :: (("weight" : Str), .int wt) :: (("room" : Str), .int rm) :: (("whole" : Str), .int wh) :: (("part" : Str), partD pt) :: γ) ?_ (Cov.cons rfl (Cov.cons rfl (Cov.cons (hcov _ _ rfl) (Cov.cons (hcov _ _ rfl) (Cov.cons (hcov _ _ rfl) (Cov.cons (hcov _ _ rfl) (Cov.cons (hcov _ _ rfl) (Cov.cons (hcov _ _ rfl) (Cov.cons (hcov _ _ rfl) (Cov.cons (hcov _ _ rfl) Cov.nil))))))))))
    refine Ex.cons (N₁ := fun o σ => o = none ∧ ∃ st' : GSt, st' = stepG (rm, wh, pt) (wt, wo) ∧ Cov ((("room" : Str), .int st'.1) :: (("whole" : Str), .int st'.2.1) :: (("part" : Str), partD st'.2.2) :: γ) σ) ?_ fun o s h => Ex.nil h
    by_cases hfit : wt ≤ rm
    · have e : stepG (rm, wh, pt) (wt, wo) = (rm - wt, wh + wo, pt) := by simp [stepG, hfit]
      refine Ex.take F (Tr.cmp (Ev.name rfl) (Ev.name rfl) op_le) (decide_eq_true hfit) ?_
      refine Ex.then (Ex.assignSw (xs := ["room", "whole"]) (ds := [.int (rm - wt), .int (wh + wo)]) F hA (Ev.tuple (by walk_at "evs") (by simp [sizeLine_eq])) rfl (by
        intro x hx
        rcases List.mem_cons.mp hx with rfl | hx
        · walk_at "okl"
        · rw [List.mem_singleton.mp hx]; walk_at "okl") (by walk_at "own") (by subst_vars; rfl) (by subst_vars; rfl)) (Ex.nil ⟨rfl, _, e.symm, ?_⟩)
      exact Cov.cons rfl (Cov.cons rfl (Cov.cons rfl (Cov.cons rfl (Cov.cons rfl (Cov.cons rfl (Cov.cons rfl (Cov.cons rfl Cov.nil)))))))
    · refine Ex.over F (Tr.cmp (Ev.name rfl) (Ev.name rfl) op_le) (decide_eq_false hfit) ?_
      cases pt with
      | none =>
        have e : stepG (rm, wh, none) (wt, wo) = (rm, wh, some (wt, wo, rm, wh)) := by simp [stepG, hfit]
        refine Ex.cons (N₁ := fun o σ => o = none ∧ ∃ st' : GSt, st' = stepG (rm, wh, none) (wt, wo) ∧ Cov ((("room" : Str), .int st'.1) :: (("whole" : Str), .int st'.2.1) :: (("part" : Str), partD st'.2.2) :: γ) σ) (Ex.take F (Tr.cmp (Ev.name rfl) Ev.cnone op_is_none') rfl (Ex.then (Ex.assign (d := .tup [.int wt, .int wo, .int rm, .int wh]) F (Ev.tuple (by walk_at "evs") (by simp [sizeLine_eq])) (by walk_at "okl") (by subst_vars; rfl) (by walk_at "own")) (Ex.nil ⟨rfl, _, e.symm, ?_⟩))) fun o s h => Ex.nil h
        exact Cov.cons rfl (Cov.cons rfl (Cov.cons rfl (Cov.cons rfl (Cov.cons rfl (Cov.cons rfl (Cov.cons rfl (Cov.cons rfl Cov.nil)))))))
      | some x =>
        obtain ⟨a, b, c, d⟩ := x
        have e : stepG (rm, wh, some (a, b, c, d)) (wt, wo) = (rm, wh, some (a, b, c, d)) := by simp [stepG, hfit]
        refine Ex.cons (N₁ := fun o σ => o = none ∧ ∃ st' : GSt, st' = stepG (rm, wh, some (a, b, c, d)) (wt, wo) ∧ Cov ((("room" : Str), .int st'.1) :: (("whole" : Str), .int st'.2.1) :: (("part" : Str), partD st'.2.2) :: γ) σ) (Ex.skip F (Tr.cmp (Ev.name rfl) Ev.cnone (op_is_none rfl)) rfl ⟨rfl, _, e.symm, ?_⟩) fun o s h => Ex.nil h
        exact Cov.cons rfl (Cov.cons rfl (Cov.cons rfl (Cov.cons rfl (Cov.cons rfl (Cov.cons rfl (Cov.cons rfl (Cov.cons rfl Cov.nil)))))))
  rintro o σ ⟨rfl, hcov⟩
  refine Ex.weak ?_ hcov
  clear hcov
  clear hgr
  have hx10 := fun {a b c d : Int} => g10 (B := B) (a := a) (b := b) (c := c) (d := d) hTf
  generalize greedyF ts B = gs at *
  obtain ⟨rm, wh, pt⟩ := gs
  dsimp only at hx4 hx5 hx6 hx7 hx10 ⊢
  have hfl := Nat.le_trans (List.length_filter_le (fun (_ : Int × Int) => true) ts) hTl
  -- half
  refine Ex.then (Ex.skip F (Tr.or_cons (Tr.cmp (Ev.bin Ev.int (Ev.callB (d := .int (maxL wh (ts.map (·.2)))) (by walk_at "gn") (Evs.cons (Ev.conv (d' := .lst ((wh :: ts.map (·.2)).map .int)) (Ev.bin (Ev.list (ds := [.int wh]) (by walk_at "evs") (by simp [sizeLine_eq])) (Ev.compG (xs := ts) (τ := []) hA encP decP decP_encP D.int (fun _ => true) (fun p => p.2) (fun p => [(("worth" : Str), .int p.2), (("weight" : Str), .int p.1)])
        (Ev.name rfl) elems_lst (by intro a b h; cases h) (by rw [sizeLine_eq]; omega) (by subst_vars; rfl) Caps.nil ?tgt ?nm (fun _ _ _ => Tests.nil) (fun _ _ _ _ => Ev.name rfl) (by decide) rfl (by decide)) (op_cat (by simp [sizeLine_eq]; omega))) (by rw [List.filter_eq_self.mpr (fun _ _ => rfl)]; rfl)) Evs.nil) (call_maxL hA (maxL_mem _ _) (le_maxL _ _))) (op_mul (mulOk (by decide)))) (Ev.name rfl) op_lt) fun _ => Tr.or_cons (Tr.cmp (Ev.name rfl) (Ev.name rfl) op_gt) fun _ => Tr.or_nil) (by simp only [Bool.or_false, Bool.or_eq_false_iff, decide_eq_false_iff_not]; exact ⟨hx4, hx5⟩) ⟨rfl, rfl⟩) ?_
  case tgt => exact fun x hx C => Tgt.tup2 (compVars rfl) (Tgt.name (compVars rfl) (by subst_vars; exact ⟨rfl, rfl⟩)) (Tgt.name (compVars rfl) (by subst_vars; exact ⟨rfl, rfl⟩))
  case nm => exact fun x hx => okC (List.forall_mem_cons.mpr ⟨by subst_vars; exact ⟨rfl, rfl⟩, List.forall_mem_cons.mpr ⟨by subst_vars; exact ⟨rfl, rfl⟩, fun _ h => nomatch h⟩⟩)
  -- Dantzig; none left over
  have two : ∀ {rest : List Stmt} {N : Own → Sg → Prop} {R : D → Prop} {c : Cfg} {t1 t2 : Expr} {b1 b2 : List Stmt} {p1 p2 : Pos} {σ : Sg}, Tr c A env σ t1 false → Tr c A env σ t2 false → Ex c A env (execs rest env) none σ N R → Ex c A env (execs (.If t1 b1 [] p1 :: .If t2 b2 [] p2 :: rest) env) none σ N R := fun h1 h2 h =>
    Ex.then (Ex.skip F h1 rfl ⟨rfl, rfl⟩) (Ex.then (Ex.skip F h2 rfl ⟨rfl, rfl⟩) h)
  refine two ?dz ?nl ?_
  case dz =>
    cases pt with
    | none => exact Tr.conv (Tr.and_cons (Tr.cmp (Ev.name rfl) Ev.cnone op_isnot_none') fun h => by cases h) (Bool.false_and false)
    | some x =>
      obtain ⟨a, b, c, d⟩ := x
      have hf := hx10 rfl
      have h6 := hx6 rfl
      refine Tr.conv (Tr.and_cons (Tr.cmp (Ev.name rfl) Ev.cnone (op_isnot_none rfl)) fun _ => Tr.and_cons (Tr.cmp (Ev.bin (Ev.name rfl) (Ev.sub (Ev.name rfl) Ev.int (op_item_tup (d := .int a) (by decide) rfl (by decide))) (op_mul (IntMulOk.of_right (intBits_le_iff.mpr (by have := hf.1; have := hf.2.1; omega)))))
        (Ev.bin (Ev.bin (Ev.sub (Ev.name rfl) Ev.int (op_item_tup (d := .int d) (by decide) rfl (by decide))) (Ev.sub (Ev.name rfl) Ev.int (op_item_tup (d := .int a) (by decide) rfl (by decide))) (op_mul (IntMulOk.of_right (intBits_le_iff.mpr (by have := hf.1; have := hf.2.1; omega))))) (Ev.bin (Ev.sub (Ev.name rfl) Ev.int (op_item_tup (d := .int b) (by decide) rfl (by decide))) (Ev.sub (Ev.name rfl) Ev.int (op_item_tup (d := .int c) (by decide) rfl (by decide))) (op_mul (mulOk (by have := hf.2.2.1; have := hf.2.2.2; omega)))) op_add) op_gt) fun _ => Tr.and_nil) ?_
      rw [decide_eq_false h6]; rfl
  case nl =>
    cases pt with
    | none => exact Tr.conv (Tr.and_cons (Tr.cmp (Ev.name rfl) Ev.cnone op_is_none') fun _ => Tr.and_cons (Tr.cmp (Ev.name rfl) (Ev.name rfl) op_ne) fun _ => Tr.and_nil) (by rw [hx7 rfl]; simp)
    | some x =>
      obtain ⟨a, b, c, d⟩ := x
      exact Tr.conv (Tr.and_cons (q := false) (Tr.cmp (Ev.name rfl) Ev.cnone (op_is_none rfl)) fun h => by cases h) (Bool.false_and false)
  -- it grows
  refine Ex.then (Ex.skip F (Tr.cmp (Ev.compG (xs := rangeI 1 (B + 1)) (τ := [(("most" : Str), .lst ((mostF ts B).map .int)), (("things" : Str), .lst (ts.map encP))]) hA D.int decI decI_int D.int (fun k => !(decide (getI (mostF ts B) (k - 1) ≤ getI (mostF ts B) k) && decide (getI (mostF ts B) k ≤ getI (mostF ts B) (k - 1) + maxL 0 (ts.map (·.2))))) id (fun j => [(("k" : Str), .int j)])
      (Ev.callT (by walk_at "gn") (by walk_at "evs") call_range2) elems_rng (rng_small (by omega) (by omega) (by omega) (by omega)) (by rw [rangeI_length, sizeLine_eq]; omega) (by subst_vars; rfl) (by walk_at "cap") (by walk_at "tg1") (by walk_at "nm1") ?test ?elt (by decide) rfl (by decide))
    (Ev.list (ds := []) Evs.nil (by simp [sizeLine_eq])) (op_neL (ms := []) hu)) (by rw [hx8]; rfl) ⟨rfl, rfl⟩) ?_
  case test =>
    intro k hk C
    rw [mem_rangeI] at hk
    refine Tests.one (Tr.not (Tr.chain (Ev.sub (Ev.name rfl) (Ev.bin (Ev.name rfl) Ev.int op_sub) (op_item (by omega) (getI_at (by omega) (by omega)) (by omega))) (Ev.sub (Ev.name rfl) (Ev.name rfl) (op_item (by omega) (getI_at (by omega) (by omega)) (by omega)))
      (Ev.bin (Ev.sub (Ev.name rfl) (Ev.bin (Ev.name rfl) Ev.int op_sub) (op_item (by omega) (getI_at (by omega) (by omega)) (by omega))) (Ev.callB (d := .int (maxL 0 (ts.map (·.2)))) (by walk_at "gn") (Evs.cons (Ev.conv (d' := .lst (((0 : Int) :: ts.map (·.2)).map .int)) (Ev.bin (Ev.list (ds := [.int 0]) (by walk_at "evs") (by simp [sizeLine_eq])) (Ev.compG (xs := ts) (τ := []) hA encP decP decP_encP D.int (fun _ => true) (fun p => p.2) (fun p => [(("worth" : Str), .int p.2), (("weight" : Str), .int p.1)])
        (Ev.name rfl) elems_lst (by intro a b h; cases h) (by rw [sizeLine_eq]; omega) (by subst_vars; rfl) Caps.nil ?tgt ?nm (fun _ _ _ => Tests.nil) (fun _ _ _ _ => Ev.name rfl) (by decide) rfl (by decide)) (op_cat (by simp [sizeLine_eq]; omega))) (by rw [List.filter_eq_self.mpr (fun _ _ => rfl)]; rfl)) Evs.nil) (call_maxL hA (maxL_mem _ _) (le_maxL _ _))) op_add) op_le op_le))
    case tgt => exact fun x hx C => Tgt.tup2 (compVars rfl) (Tgt.name (compVars rfl) (by subst_vars; exact ⟨rfl, rfl⟩)) (Tgt.name (compVars rfl) (by subst_vars; exact ⟨rfl, rfl⟩))
    case nm => exact fun x hx => okC (List.forall_mem_cons.mpr ⟨by subst_vars; exact ⟨rfl, rfl⟩, List.forall_mem_cons.mpr ⟨by subst_vars; exact ⟨rfl, rfl⟩, fun _ h => nomatch h⟩⟩)
  case elt => exact fun x hx _ C => Ev.name rfl
  -- compare
  refine Ex.then (Ex.assign (d := .tc 56 (.lst [.tup [.int 1, .int 1]])) F (Ev.callK (by walk_at "gn") rfl (Evs.cons (Ev.list (Evs.cons (Ev.tuple (by walk_at "evs") (by simp [sizeLine_eq])) Evs.nil) (by simp [sizeLine_eq])) Evs.nil) (make_tc_fn hr3)) (by walk_at "okl") (by subst_vars; rfl) (by walk_at "own")) ?_
  refine Ex.cons (N₁ := fun _ _ => False) (Ex.ret F (Ev.cmp (Ev.comp2G (xs := ts) (ys := ts) (τ := [(("things" : Str), .lst (ts.map encP)), (("told" : Str), .tc 56 (.lst [.tup [.int 1, .int 1]]))]) hA encP decP decP_encP encP decP decP_encP D.int (fun x y => (decide (cmpI x.2 y.2 < 0) != decide (x.2 < y.2))) (fun _ _ => 1) (fun j => [(("one" : Str), encP j)]) (fun j => [(("other" : Str), encP j)])
      (Ev.name rfl) elems_lst (by intro a b h; cases h) (by subst_vars; rfl) (by walk_at "cap") (by walk_at "tg1") (by walk_at "nm1") (fun _ _ _ => Ev.name rfl) elems_lst (by intro a b h; cases h) (by walk_at "tg1") ?nm1 ?test (fun _ _ _ _ _ _ => Ev.int) ?z (by decide) rfl (by decide))
    (Ev.list (ds := []) Evs.nil (by simp [sizeLine_eq])) (op_eqL (ms := []) hu)) (by rw [g9]; rfl)) fun _ _ h => h.elim
  case nm1 =>
    intro x hx y hy n e hn
    rw [List.lookup_cons] at hn
    split at hn
    · rename_i q; rw [beq_iff_eq.mp q]; subst_vars; exact ⟨⟨rfl, rfl⟩, rfl⟩
    · cases hn
  case test =>
    intro x hx y hy C
    refine Tests.one (Tr.cmp (Ev.cmp (Ev.callM (Ev.name rfl) rfl rfl rfl rfl rfl rfl (Evs.cons (Ev.name rfl) (Evs.cons (Ev.name rfl) Evs.nil)) (compare_fn (a := x.2) (b := y.2) hr2 (by decide) (by decide) rfl rfl) _ rfl) Ev.int op_lt) (Ev.cmp (Ev.sub (Ev.name rfl) Ev.int (op_item_tup (d := .int x.2) (by decide) rfl (by decide))) (Ev.sub (Ev.name rfl) Ev.int (op_item_tup (d := .int y.2) (by decide) rfl (by decide))) op_lt) op_neb)
  case z => rw [g9]; exact Nat.zero_le _
section
end

end Mine

theorem PySem.Challenge.cw_hg0001_02_holds : PySem.Challenge.rw_hg0001_02.Holds := by
  exact Mine.tt2
