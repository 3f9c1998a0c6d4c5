import PyProof.Rows.All
import Wide.All
import OpenK.AllK
import Wide.FinOn
import PySem.Challenge.RW_fq5031_01
open PySem PySem.W PyProof.Rows PySem.Calls
set_option Elab.async false
set_option linter.unusedVariables false
set_option maxRecDepth 100000

namespace Mine
/-! part Fq1 -/

/-! heaps that only grow; what is known of a list or a tuple outlives stores into frames, cells, iterators -/
abbrev Up (h h' : Heap) : Prop := ∀ b o, h.get? b = some o → h'.get? b = some o
def SeqUp (h h' : Heap) : Prop := ∀ b o xs n, h.get? b = some o → o.data = .seq xs n → h'.get? b = some o
theorem Up.seq {h h' : Heap} (k : Up h h') : SeqUp h h' := fun b o _ _ e _ => k b o e
theorem SeqUp.trans {h h' h'' : Heap} (k : SeqUp h h') (l : SeqUp h' h'') : SeqUp h h'' := fun b o xs n e d => l b o xs n (k b o xs n e d) d
theorem SeqUp.but {h h' : Heap} {a : Addr} (k : Heap.ExtBut a h h') (hn : ∀ o xs n, h.get? a = some o → o.data ≠ .seq xs n) : SeqUp h h' := fun b o xs n e d => by
  by_cases q : b = a
  · subst q; exact absurd d (hn o xs n e)
  · exact k b o q e
theorem SeqUp.ns {h h' : Heap} {a : Addr} {m : Str → Option Value} (k : Heap.SameBut a h h') (hn : h.Ns a m) : SeqUp h h' := .but k.extBut fun o xs n e d => by
  obtain ⟨o', es, ep, e', d', _⟩ := hn
  rw [e] at e'; cases e'; rw [d] at d'; cases d'

theorem carve (H : Heap) (p : Addr → Prop) : ∃ g : Heap, (∀ b o, g.get? b = some o → H.get? b = some o ∧ p b) ∧ ∀ b o, H.get? b = some o → p b → g.get? b = some o := by
  classical
  obtain ⟨objs, l⟩ := H
  refine ⟨⟨objs.mapIdx fun i o => if p i then o else { o with data := .freed }, l⟩, ?_, ?_⟩
  · intro b o e
    obtain ⟨e1, e2⟩ := Heap.get?_some_iff.mp e
    rw [Array.getElem?_mapIdx] at e1
    obtain ⟨x, hx, rfl⟩ := Option.map_eq_some_iff.mp e1
    by_cases q : p b
    · rw [if_pos q] at e2 ⊢; exact ⟨Heap.get?_some_iff.mpr ⟨hx, e2⟩, q⟩
    · rw [if_neg q] at e2; exact absurd e2 (by obtain ⟨_, _, _, _⟩ := x; simp [Obj.isFreed])
  · intro b o e q
    obtain ⟨e1, e2⟩ := Heap.get?_some_iff.mp e
    refine Heap.get?_some_iff.mpr ⟨?_, e2⟩
    rw [Array.getElem?_mapIdx]
    exact Option.map_eq_some_iff.mpr ⟨o, e1, by rw [if_pos q]⟩

/-- what a run from s to s' that began over the known part h leaves: the known part g -/
structure Ran (h g : Heap) (s s' : Shared) : Prop where
  keeps : Keeps s s'
  up : Up h g
  low : Up g s'.heap
  new : ∀ b o, g.get? b = some o → h.get? b = some o ∨ s.heap.get? b = none

theorem Ran.refl {h : Heap} {s : Shared} (k : Up h s.heap) : Ran h h s s := ⟨⟨s.heap, s.toks, rfl, fun _ _ e => e⟩, fun _ _ e => e, k, fun _ _ e => .inl e⟩
theorem keeps_trans {s s' s'' : Shared} (k : Keeps s s') (l : Keeps s' s'') : Keeps s s'' := by
  obtain ⟨h, t, rfl, k⟩ := k
  obtain ⟨h', t', rfl, l⟩ := l
  exact ⟨h', t', rfl, fun b o e => l b o (k b o e)⟩
theorem keeps_up {s s' : Shared} (k : Keeps s s') : Up s.heap s'.heap := by obtain ⟨h, t, rfl, k⟩ := k; exact k
theorem Ran.trans {h g g' : Heap} {s s' s'' : Shared} (a : Ran h g s s') (b : Ran g g' s' s'') : Ran h g' s s'' :=
  ⟨keeps_trans a.keeps b.keeps, fun c o e => b.up c o (a.up c o e), b.low, fun c o e => by
    rcases b.new c o e with e | e
    · exact a.new c o e
    · refine .inr ?_
      cases q : s.heap.get? c with
      | none => rfl
      | some o' => rw [keeps_up a.keeps c o' q] at e; cases e⟩

def Gives {α : Type} (M : Model) (A : Around) (h : Heap) (t : Sem α) (P : α → Heap → Prop) : Prop :=
  ∀ (Q : α → Shared → Prop) (E : Value → Shared → Prop) (s : Shared), Up h s.heap → (∀ v s' g, Ran h g s s' → P v g → Q v s') → wpAny M A t Q E s

section
variable {α β : Type} {M : Model} {A : Around} {h : Heap}
theorem Gives.run {t : Sem α} {P : α → Heap → Prop} {Q : α → Shared → Prop} {E : Value → Shared → Prop} {s : Shared} (x : Gives M A s.heap t P)
    (k : ∀ v s' g, Keeps s s' → Up s.heap g → Up g s'.heap → P v g → Q v s') : wpAny M A t Q E s :=
  x Q E s (fun _ _ e => e) fun v s' g r p => k v s' g r.keeps r.up r.low p
theorem Gives.pure {a : α} {P : α → Heap → Prop} (p : P a h) : Gives M A h (pure a) P := fun _ _ _ k q => wpAny_pure (q _ _ h (.refl k) p)
theorem Gives.bind {m : Sem α} {f : α → Sem β} {P : α → Heap → Prop} {P' : β → Heap → Prop} (x : Gives M A h m P) (y : ∀ v g, Up h g → P v g → Gives M A g (f v) P') : Gives M A h (m >>= f) P' :=
  fun Q E s k q => wpAny_bind (x _ E s k fun v s' g r p => y v g r.up p Q E s' r.low fun v' s'' g' r' p' => q v' s'' g' (r.trans r') p')
theorem Gives.mono {t : Sem α} {P P' : α → Heap → Prop} (x : Gives M A h t P) (y : ∀ v g, Up h g → P v g → P' v g) : Gives M A h t P' :=
  fun Q E s k q => x Q E s k fun v s' g r p => q v s' g r (y v g r.up p)
theorem Gives.looks {t : Sem α} {r : α} {P : α → Heap → Prop} (x : Looks M h t r) (p : P r h) : Gives M A h t P := fun Q E s k q => x A Q E s k (q r s h (.refl k) p)
theorem Gives.holding {vs : List Value} {t : Sem α} {P : α → Heap → Prop} (x : Gives M A h t P) : Gives M A h (holding vs t) P := fun Q E s k q => wpAny_holding (x Q E s k q)
theorem Gives.of_in1 {t : Sem α} {P : α → Heap → Prop} (x : Gives M A.in1 h t P) : Gives M A h t P := fun Q E s k q => wpAny_of_in1 (x Q E s k q)

/-- from a plain rule: what is told of any part that holds h and all that is new -/
theorem gives_of {t : Sem α} {P : α → Heap → Prop}
    (x : ∀ (Q : α → Shared → Prop) (E : Value → Shared → Prop) (s : Shared), Up h s.heap →
      (∀ v s', Keeps s s' → (∀ g, Up h g → Up g s'.heap → (∀ b o, s'.heap.get? b = some o → s.heap.get? b = none → g.get? b = some o) → P v g) → Q v s') → wpAny M A t Q E s) : Gives M A h t P :=
  fun Q E s k q => x Q E s k fun v s' ks p => by
    obtain ⟨g, g1, g2⟩ := carve s'.heap fun b => (h.get? b).isSome = true ∨ s.heap.get? b = none
    have up : Up h g := fun b o e => g2 b o (keeps_up ks b o (k b o e)) (.inl (by rw [e]; rfl))
    refine q v s' g ⟨ks, up, fun b o e => (g1 b o e).1, fun b o e => ?_⟩ (p g up (fun b o e => (g1 b o e).1) fun b o e e' => g2 b o e (.inr e'))
    obtain ⟨e1, e2 | e2⟩ := g1 b o e
    · obtain ⟨o', e3⟩ := Option.isSome_iff_exists.mp e2
      have := keeps_up ks b o' (k b o' e3)
      rw [e1] at this; cases this; exact .inl e3
    · exact .inr e2
/-- no new object is told of -/
theorem gives_flat {t : Sem α} {P : α → Prop}
    (x : ∀ (Q : α → Shared → Prop) (E : Value → Shared → Prop) (s : Shared), Up h s.heap → (∀ v s', Keeps s s' → P v → Q v s') → wpAny M A t Q E s) : Gives M A h t fun v _ => P v :=
  gives_of fun Q E s k q => x Q E s k fun v s' ks p => q v s' ks fun _ _ _ _ => p
end

theorem keeps_refl (s : Shared) : Keeps s s := ⟨s.heap, s.toks, rfl, fun _ _ e => e⟩
theorem keeps_tok (s : Shared) (t : Nat) : Keeps s { s with toks := t } := ⟨s.heap, t, rfl, fun _ _ e => e⟩
theorem keeps_push (s : Shared) (o : Obj) : Keeps s { s with heap := s.heap.push o } := ⟨_, s.toks, rfl, fun _ _ e => Heap.get?_push_of_some _ e⟩
theorem none_size (h : Heap) : h.get? h.objs.size = none := by
  cases q : h.get? h.objs.size with
  | none => rfl
  | some o => exact absurd (Heap.lt_size q) (Nat.lt_irrefl _)

/-! what values bear -/
def StrV (_ : Heap) (v : Value) (x : Str) : Prop := ∃ t, v = .str x t
def IntV (_ : Heap) (v : Value) (i : Int) : Prop := ∃ t, v = .int i t
def LstV {α : Type} (R : Heap → Value → α → Prop) (h : Heap) (v : Value) (l : List α) : Prop := ∃ a vs, v = .ref a ∧ h.IsList a (List.toArray vs) ∧ Paired (R h) vs l
def TupV {α : Type} (R : Heap → Value → α → Prop) (h : Heap) (v : Value) (l : List α) : Prop := ∃ a vs, v = .ref a ∧ h.IsTuple a (List.toArray vs) ∧ Paired (R h) vs l
def Stable {α : Type} (R : Heap → Value → α → Prop) : Prop := ∀ h h' v a, SeqUp h h' → R h v a → R h' v a
theorem strV_st : Stable StrV := fun _ _ _ _ _ x => x
theorem intV_st : Stable IntV := fun _ _ _ _ _ x => x
theorem paired_mono {α β : Type} {F F' : α → β → Prop} (f : ∀ a b, F a b → F' a b) : ∀ {l : List α} {k : List β}, Paired F l k → Paired F' l k
  | _, _, .nil => .nil
  | _, _, .cons x r => .cons (f _ _ x) (paired_mono f r)
theorem isList_seq {h h' : Heap} {a : Addr} {vs : Array Value} (k : SeqUp h h') (x : h.IsList a vs) : h'.IsList a vs := by
  obtain ⟨o, e, c, n, d⟩ := x; exact ⟨o, k a o _ _ e d, c, n, d⟩
theorem isTuple_seq {h h' : Heap} {a : Addr} {vs : Array Value} (k : SeqUp h h') (x : h.IsTuple a vs) : h'.IsTuple a vs := by
  obtain ⟨o, e, c, n, d⟩ := x; exact ⟨o, k a o _ _ e d, c, n, d⟩
theorem lstV_st {α : Type} {R : Heap → Value → α → Prop} (s : Stable R) : Stable (LstV R) := fun _ _ _ _ k ⟨a, vs, e, l, p⟩ => ⟨a, vs, e, isList_seq k l, paired_mono (fun _ _ x => s _ _ _ _ k x) p⟩
theorem tupV_st {α : Type} {R : Heap → Value → α → Prop} (s : Stable R) : Stable (TupV R) := fun _ _ _ _ k ⟨a, vs, e, l, p⟩ => ⟨a, vs, e, isTuple_seq k l, paired_mono (fun _ _ x => s _ _ _ _ k x) p⟩


/-! part Fq2 -/

/-- iterating xv, from any heap over h: a walk of n values, the j-th one of which P j -/
def Iter (prog : Program) (w : World) (h : Heap) (xv : Value) (n : Nat) (P : Nat → Value → Prop) : Prop :=
  ∀ (A : Around) (Q : Value → Shared → Prop) (E : Value → Shared → Prop) (s : Shared), A.handled = none → Up h s.heap →
    (∀ s' I fp St, Keeps s s' → s.heap.get? I = none → (∀ A' : Around, A'.handled = none → Walks prog w A' I fp [I] n P St) → (∀ i h, St i h → ∃ o, h.get? I = some o) → St 0 s'.heap → (∀ b ∈ fp, b < s'.heap.objs.size) → (∀ b ∈ fp, b ≠ I → ∃ o, h.get? b = some o) →
      Q (.ref I) s') → wpAny (model prog w) A (pyIter xv) Q E s

section
variable {prog : Program} {w : World} {h : Heap}
theorem lt_push (h : Heap) (o : Obj) {b : Addr} (x : b < h.objs.size) : b < (h.push o).objs.size := by rw [Heap.size_push]; exact Nat.lt_succ_of_lt x
theorem size_lt_push (h : Heap) (o : Obj) : h.objs.size < (h.push o).objs.size := by rw [Heap.size_push]; exact Nat.lt_succ_self _
theorem iter_list {a : Addr} {vs : Array Value} (hl : h.IsList a vs) : Iter prog w h (.ref a) vs.size (fun i v => vs[i]? = some v) := fun A Q E s hA k q => by
  have hl' : s.heap.IsList a vs := hl.at fun o e => k a o e
  have ha : a < s.heap.objs.size := by obtain ⟨o, e, _⟩ := hl'; exact Heap.lt_size e
  refine wpAny_pyIter_list hl' (q _ s.heap.objs.size [s.heap.objs.size, a] (fun i h => h.IsListIter s.heap.objs.size a i ∧ h.IsList a vs) (keeps_push s _) (none_size _)
    (fun A' hA' => Walks.list hA' _ a (Nat.ne_of_lt ha) vs) (fun i h st => let ⟨o, e, _⟩ := st.1; ⟨o, e⟩) ⟨⟨_, Heap.get?_push_size _ rfl, rfl, rfl⟩, hl'.push _⟩ (fun b hb => ?_) fun b hb hne => ?_)
  · simp only [List.mem_cons, List.not_mem_nil, or_false] at hb
    rcases hb with rfl | rfl
    · exact size_lt_push _ _
    · exact lt_push _ _ ha
  · simp only [List.mem_cons, List.not_mem_nil, or_false] at hb
    rcases hb with rfl | rfl
    · exact absurd rfl hne
    · obtain ⟨o, e, _⟩ := hl; exact ⟨o, e⟩
theorem iter_tuple {a : Addr} {vs : Array Value} (hl : h.IsTuple a vs) : Iter prog w h (.ref a) vs.size (fun i v => vs[i]? = some v) := fun A Q E s hA k q => by
  have hl' : s.heap.IsTuple a vs := hl.at fun o e => k a o e
  have ha : a < s.heap.objs.size := by obtain ⟨o, e, _⟩ := hl'; exact Heap.lt_size e
  refine wpAny_pyIter_tuple hl' (q _ s.heap.objs.size [s.heap.objs.size, a] (fun i h => h.IsTupleIter s.heap.objs.size a i ∧ h.IsTuple a vs) (keeps_push s _) (none_size _)
    (fun A' hA' => Walks.tuple hA' _ a (Nat.ne_of_lt ha) vs) (fun i h st => let ⟨o, e, _⟩ := st.1; ⟨o, e⟩) ⟨⟨_, Heap.get?_push_size _ rfl, rfl, rfl⟩, hl'.at fun o e => Heap.get?_push_of_some _ e⟩ (fun b hb => ?_) fun b hb hne => ?_)
  · simp only [List.mem_cons, List.not_mem_nil, or_false] at hb
    rcases hb with rfl | rfl
    · exact size_lt_push _ _
    · exact lt_push _ _ ha
  · simp only [List.mem_cons, List.not_mem_nil, or_false] at hb
    rcases hb with rfl | rfl
    · exact absurd rfl hne
    · obtain ⟨o, e, _⟩ := hl; exact ⟨o, e⟩
theorem iter_str {x : Str} {t : Tok} : Iter prog w h (.str x t) x.cps.size (SignAt x) := fun A Q E s hA k q => by
  cases ha : x.cps.all (· < 128)
  · refine wpAny_pyIter_wide ha (q _ s.heap.objs.size [s.heap.objs.size] (fun i h => h.IsStrIter s.heap.objs.size "str_iterator" x t i) (keeps_push s _) (none_size _) (fun A' hA' => Walks.strWide hA' _ x t)
      (fun i h st => let ⟨o, e, _⟩ := st; ⟨o, e⟩) ⟨_, Heap.get?_push_size _ rfl, rfl, rfl⟩ (fun b hb => ?_) fun b hb hne => absurd (List.mem_singleton.mp hb) hne)
    rw [List.mem_singleton.mp hb]; exact size_lt_push _ _
  · refine wpAny_pyIter_ascii ha (q _ s.heap.objs.size [s.heap.objs.size] (fun i h => h.IsStrIter s.heap.objs.size "str_ascii_iterator" x t i) (keeps_push s _) (none_size _) (fun A' hA' => Walks.strAscii hA' _ x t)
      (fun i h st => let ⟨o, e, _⟩ := st; ⟨o, e⟩) ⟨_, Heap.get?_push_size _ rfl, rfl, rfl⟩ (fun b hb => ?_) fun b hb hne => absurd (List.mem_singleton.mp hb) hne)
    rw [List.mem_singleton.mp hb]; exact size_lt_push _ _
theorem iter_range {r : Addr} {a b c : Int} {t u v : Tok} {n : Nat} (hr : IsRange h r a b c t u v) (hs : Builtin.Range.small a b c = true) (hn : Builtin.Range.rangeSize a b c = (n : Int)) :
    Iter prog w h (.ref r) n (fun i v => ∃ t, v = .int (a + i * c) t) := fun A Q E s hA k q => by
  refine wpAny_pyIter_range (k _ _ hr) hs (q _ s.heap.objs.size [s.heap.objs.size] (fun i h => IsRangeIter h s.heap.objs.size (a + (i : Nat) * c) ((n : Int) - (i : Nat)) c) (keeps_push s _) (none_size _)
    (fun A' hA' => Walks.range hA' _ a c n) (fun i h st => ⟨_, st⟩) ?_ (fun b hb => ?_) fun b hb hne => absurd (List.mem_singleton.mp hb) hne)
  · rw [hn]
    show (s.heap.push _).get? _ = _
    rw [Heap.get?_push_size _ rfl]
    simp
  · rw [List.mem_singleton.mp hb]; exact size_lt_push _ _
end
noncomputable def carved (H : Heap) (p : Addr → Prop) : Heap := Classical.choose (carve H p)
theorem carved_out {H : Heap} {p : Addr → Prop} {b : Addr} {o : Obj} (e : (carved H p).get? b = some o) : H.get? b = some o ∧ p b := (Classical.choose_spec (carve H p)).1 b o e
theorem carved_in {H : Heap} {p : Addr → Prop} {b : Addr} {o : Obj} (e : H.get? b = some o) (q : p b) : (carved H p).get? b = some o := (Classical.choose_spec (carve H p)).2 b o e q

/-- what a comprehension's block asks of its test and its element, over the part g₁ -/
structure Block (prog : Program) (w : World) (A : Around) (env : Env) (scope : Scope) (cl : List (Str × Addr)) (x : Str) (ifs : List Expr) (elt : Expr) (g₁ : Heap) (n : Nat) (P : Nat → Value → Prop) (p : Nat → Bool)
    (F : Nat → Value → Heap → Prop) : Prop where
  tests : ∀ C g i v m, i < n → P i v → Up g₁ g → g.Ns C m → m x = some v → Gives (model prog w) A g
    (forIn ifs true fun c r => if r = true then do let ok ← isTrue c (compEnvC scope cl C env) (eval c (compEnvC scope cl C env)); pure (ForInStep.yield ok) else pure (ForInStep.yield r)) fun b _ => b = p i
  elt : ∀ C g i v m, i < n → P i v → p i = true → Up g₁ g → g.Ns C m → m x = some v → Gives (model prog w) A g (eval elt (compEnvC scope cl C env)) (F i)

theorem paired_append {α β : Type} {F : α → β → Prop} {a a' : List α} {b b' : List β} (x : Paired F a b) (y : Paired F a' b') : Paired F (a ++ a') (b ++ b') := by
  induction x with
  | nil => exact y
  | cons h _ ih => exact .cons h ih

section
variable {prog : Program} {w : World} {A : Around} {env : Env} {h : Heap}
theorem comp_core {elt iter : Expr} {x : Str} {px : Pos} {ifs : List Expr} {scope : Scope} {cl : List (Str × Addr)} {pos ps : Pos} {n : Nat} {P : Nat → Value → Prop} (p : Nat → Bool) (F : Nat → Value → Heap → Prop)
    {use : Option (Value → Sem Unit)} {Q E : Value → Shared → Prop} {s : Shared}
    (hF : ∀ i v g g', SeqUp g g' → F i v g → F i v g') (hh : A.handled = none)
    (hclos : closureFor scope env = pure cl) (hcell : ∀ y ∈ scope.names, y.2 ≠ .cell) (hkind : scope.kind = .function)
    (hnames : ∀ y ∈ scope.names, y.2 = .local → scope.names.lookup y.1 = some .local) (hx : scope.names.lookup x = some .local) (hsz : n ≤ sizeLine)
    (hiter : Gives (model prog w) A h (eval iter env) fun xv g₁ => Iter prog w g₁ xv n P ∧ Block prog w A env scope cl x ifs elt g₁ n P p F)
    (hs : ∀ x, foldedSetIterable iter env x = pure x) (k : Up h s.heap)
    (fin : ∀ (D C : Nat) m' ys (h₂ : Heap) tk, s.heap.get? D = none → s.heap.get? C = none → D ≠ C → (∀ b o, s.heap.get? b = some o → h₂.get? b = some o) → h₂.Ns C m' → h₂.IsList D (List.toArray ys) →
      (∀ g, Up h g → (∀ (b : Nat) o, b ≠ C → h₂.get? b = some o → s.heap.get? b = none → g.get? b = some o) → Paired (fun i y => F i y g) ((List.range n).filter p) ys) →
      compPost (model prog w) A E use Q (.ref D) C (.ok .next) { s with heap := h₂, toks := tk }) :
    wpAny (model prog w) A (comprehension (.ListComp elt [⟨.Name x px, iter, ifs, 0⟩] scope pos) scope env ps (newList []) false (eval iter env) use) Q E s := by
  refine wpAny_comprehension_free (use := use) rfl hs hclos hkind hnames (hiter _ E s k fun xv s₁ g₁ r₁ hi => hi.1 A _ E s₁ hh r₁.low fun s₂ I fp St k₂ hI hW hIo hst hfp hfk => ?_)
  have W := hW A hh
  have B := hi.2
  have up₁ : Up g₁ s₂.heap := fun b o e => keeps_up k₂ b o (r₁.low b o e)
  have upS : Up s.heap s₂.heap := fun b o e => keeps_up k₂ b o (keeps_up r₁.keeps b o e)
  have hIg : g₁.get? I = none := by
    cases e : g₁.get? I with
    | none => rfl
    | some o => rw [r₁.low I o e] at hI; cases hI
  have hIs : s.heap.get? I = none := by
    cases e : s.heap.get? I with
    | none => rfl
    | some o => rw [keeps_up r₁.keeps I o e] at hI; cases hI
  refine wpAny_newObj_type (wpAny_newFunctionEnv hcell (by intro y hy; simp at hy) (fun h₁ hns₁ hsb₁ => ?_) hkind)
  dsimp only at hns₁ hsb₁ ⊢
  generalize hD0 : s₂.heap.objs.size = D
  generalize hH2 : s₂.heap.push { cls := .type "list", dict := none, data := .seq ([] : List Value).toArray } = H2 at hns₁ hsb₁ ⊢
  have hC0 : H2.objs.size = D + 1 := by rw [← hH2, Heap.size_push, hD0]
  generalize hCC : H2.objs.size = C at hns₁ hsb₁ hC0 ⊢
  have hDC : D ≠ C := by rw [hC0]; exact Nat.ne_of_lt (Nat.lt_succ_self _)
  have below : ∀ b, b < D → b ≠ C ∧ b ≠ D := fun b hb => ⟨by rw [hC0]; exact Nat.ne_of_lt (Nat.lt_succ_of_lt hb), Nat.ne_of_lt hb⟩
  have hDf : D ∉ fp := fun hm => Nat.lt_irrefl _ (hD0 ▸ hfp _ hm)
  have hCf : C ∉ fp := fun hm => by have := hfp _ hm; rw [hC0, hD0] at this; exact Nat.lt_irrefl _ (Nat.lt_of_succ_lt this)
  have old : ∀ b o, s₂.heap.get? b = some o → h₁.get? b = some o := fun b o e => hsb₁.extBut b o (below b (hD0 ▸ Heap.lt_size e)).1 (Heap.get?_push_of_some _ (hH2 ▸ Heap.get?_push_of_some _ e))
  have hacc : h₁.PlainList D #[] := ⟨_, hsb₁.extBut _ _ hDC (Heap.get?_push_of_some _ (hH2 ▸ hD0 ▸ Heap.get?_push_size _ rfl))⟩
  have hst₁ : St 0 h₁ := W.frame _ _ _ hst fun b _ o e => old b o e
  have ofS : ∀ b o, s.heap.get? b = some o → b ≠ C ∧ b ≠ D ∧ b ≠ I := fun b o e => ⟨(below b (hD0 ▸ Heap.lt_size (upS b o e))).1, (below b (hD0 ▸ Heap.lt_size (upS b o e))).2, fun z => by rw [z, hIs] at e; cases e⟩
  have ofG : ∀ b o, g₁.get? b = some o → b ≠ C ∧ b ≠ D ∧ b ≠ I := fun b o e => ⟨(below b (hD0 ▸ Heap.lt_size (up₁ b o e))).1, (below b (hD0 ▸ Heap.lt_size (up₁ b o e))).2, fun z => by rw [z, hIg] at e; cases e⟩
  have hIfp : I ∈ fp := W.sub I (by simp)
  have hCI : C ≠ I := fun z => hCf (z ▸ hIfp)
  have hDI : D ≠ I := fun z => hDf (z ▸ hIfp)
  have nI : ∀ b, b ≠ I → b ∉ [I] := fun b hb hm => hb (List.mem_singleton.mp hm)
  have gS : ∀ b o, g₁.get? b = some o → (∃ o, h.get? b = some o) ∨ s.heap.get? b = none := fun b o e => (r₁.new b o e).imp (fun e => ⟨o, e⟩) id
  -- the part in which the elements are told of
  generalize hT : (fun H => carved H fun b => (b ≠ D ∧ b ≠ I) ∧ ((∃ o, h.get? b = some o) ∨ s.heap.get? b = none)) = T
  have Tout : ∀ H b o, (T H).get? b = some o → H.get? b = some o ∧ (b ≠ D ∧ b ≠ I) ∧ ((∃ o, h.get? b = some o) ∨ s.heap.get? b = none) := fun H b o e => by rw [← hT] at e; exact carved_out e
  have Tin : ∀ H b o, H.get? b = some o → b ≠ D → b ≠ I → ((∃ o, h.get? b = some o) ∨ s.heap.get? b = none) → (T H).get? b = some o := fun H b o e e1 e2 e3 => by rw [← hT]; exact carved_in e ⟨⟨e1, e2⟩, e3⟩
  have hx' : (compEnvC scope cl C env).kindOf x = some .local := lookup_relabel_local hx
  have hp' : ((compEnvC scope cl C env).scope.kind == .class || ((compEnvC scope cl C env).scope.kind == .module && (compEnvC scope cl C env).locals != (compEnvC scope cl C env).globals)) = false := by simp [compEnvC, relabel, hkind]
  have loop : ∀ s₃ : Shared, s₃ = { s₂ with heap := h₁, toks := s₂.toks + ([] : List (Str × Value)).length } →
      codeAny (model prog w) A (.compLoop (.ListComp elt [⟨.Name x px, iter, ifs, 0⟩] scope pos) 0 (.ref I) (.ref D) (compEnvC scope cl C env))
        (compPost (model prog w) A E use Q (.ref D) C) s₃ := by
    rintro s₃ rfl
    refine codeAny_compLoop_tests
      (fun k' s' => ∃ h' tk m' ys i, s' = { s₂ with heap := h', toks := tk } ∧ i ≤ n ∧ k' = n + 1 - i ∧ St i h' ∧ h'.PlainList D (List.toArray ys) ∧ h'.Ns C m' ∧ Up g₁ h' ∧ Up s.heap h' ∧
        Paired (fun j y => F j y (T h')) ((List.range i).filter p) ys) ?_ (n + 1)
      ⟨h₁, _, _, [], 0, rfl, Nat.zero_le _, rfl, hst₁, hacc, hns₁, fun b o e => old b o (up₁ b o e), fun b o e => old b o (upS b o e), by simpa using Paired.nil⟩
    rintro k' s' ⟨h', tk, m', ys, i, rfl, hin, rfl, hst', hacc', hn', hg', hS', hFy⟩
    by_cases hlt : i < n
    · refine W.item i _ _ _ hlt hst' fun v h₂ tk₂ hPv hst₂ hk₂ => ?_
      refine wpAny_assign_Name (wpAny_storeName_local hx' (hn'.at' fun o e => hk₂ _ o (nI C hCI) e) (fun h₃ hn₃ hs₃ => ?_) hp')
      have up₃ : ∀ b o, b ≠ C → b ≠ I → h'.get? b = some o → h₃.get? b = some o := fun b o hbC hbI e => hs₃.extBut b o hbC (hk₂ b o (nI b hbI) e)
      have hst₃ : St (i + 1) h₃ := W.frame _ _ _ hst₂ fun b hb o e => hs₃.extBut b o (fun z => hCf ((show b = C from z) ▸ hb)) e
      have hg₃ : Up g₁ h₃ := fun b o e => up₃ b o (ofG b o e).1 (ofG b o e).2.2 (hg' b o e)
      have hS₃ : Up s.heap h₃ := fun b o e => up₃ b o (ofS b o e).1 (ofS b o e).2.2 (hS' b o e)
      have hacc₃ : h₃.PlainList D (List.toArray ys) := hacc'.at fun o e => up₃ _ o hDC hDI e
      obtain ⟨oI, hoI⟩ := hIo _ _ hst₃
      -- the part over which test and element are run: g₁ and the block's own frame
      generalize hgeE : (carved h₃ fun b => (∃ o, g₁.get? b = some o) ∨ b = C) = ge
      have hge : Up g₁ ge := fun b o e => by rw [← hgeE]; exact carved_in (hg₃ b o e) (.inl ⟨o, e⟩)
      have hlow : Up ge h₃ := fun b o e => by rw [← hgeE] at e; exact (carved_out e).1
      have hnE : ge.Ns C (fun y => if y = x then some v else m' y) := hn₃.at' fun o e => by rw [← hgeE]; exact carved_in e (.inr rfl)
      have geIn : ∀ b o, ge.get? b = some o → (∃ o, g₁.get? b = some o) ∨ b = C := fun b o e => by rw [← hgeE] at e; exact (carved_out e).2
      refine B.tests C ge i v _ hlt hPv hge hnE (by simp) _ _ _ hlow fun ok s₄ g₄ r₄ hok => ?_
      subst hok
      obtain ⟨h₄, tk₄, rfl, up₄⟩ := r₄.keeps
      have up34 : ∀ b o, b ≠ C → b ≠ I → h'.get? b = some o → h₄.get? b = some o := fun b o x y e => up₄ b o (up₃ b o x y e)
      have seq34 : SeqUp (T h') (T h₄) := fun b o xs nn e d => by
        obtain ⟨e1, ⟨e2, e3⟩, e4⟩ := Tout _ _ _ e
        refine Tin _ _ _ (up34 b o (fun z => ?_) e3 e1) e2 e3 e4
        subst z
        obtain ⟨o', _, _, e', d', _⟩ := hn'; rw [e1] at e'; cases e'; rw [d] at d'; cases d'
      have hacc₄ : h₄.PlainList D (List.toArray ys) := hacc₃.at fun o e => up₄ _ o e
      have hn₄ := hn₃.keeps up₄
      have hst₄ : St (i + 1) h₄ := W.frame _ _ _ hst₃ fun b _ o e => up₄ b o e
      have hFy₄ := paired_mono (F' := fun j y => F j y (T h₄)) (fun j y z => hF j y _ _ seq34 z) hFy
      cases hpi : p i with
      | false =>
        simp only [Bool.false_eq_true, if_false]
        refine ⟨n + 1 - (i + 1), by omega, h₄, tk₄, _, ys, i + 1, rfl, hlt, rfl, hst₄, hacc₄, hn₄, fun b o e => up₄ b o (hg₃ b o e), fun b o e => up₄ b o (hS₃ b o e), ?_⟩
        rw [List.range_succ, List.filter_append, List.filter_cons_of_neg (by simp [hpi]), List.filter_nil, List.append_nil]
        exact hFy₄
      | true =>
        simp only [if_true]
        have hge₄ : Up ge h₄ := fun b o e => up₄ b o (hlow b o e)
        refine B.elt C ge i v _ hlt hPv hpi hge hnE (by simp) _ _ _ hge₄ fun y s₅ g₅ r₅ hy => ?_
        obtain ⟨h₅, tk₅, rfl, up₅⟩ := r₅.keeps
        have hys : (List.toArray ys).size ≤ sizeLine := by
          have e1 := hFy.length
          have e2 : ((List.range i).filter p).length ≤ (List.range i).length := List.length_filter_le _ _
          rw [List.length_range] at e2
          rw [List.size_toArray]
          omega
        refine wpAny_list_append_plain (hsz := hys) (hacc₄.at fun o e => up₅ _ o e) fun h₆ hl₆ hs₆ => ?_
        have seq46 : SeqUp (T h₄) (T h₆) := fun b o xs nn e d => by
          obtain ⟨e1, ⟨e2, e3⟩, e4⟩ := Tout _ _ _ e
          exact Tin _ _ _ (hs₆.extBut b o e2 (up₅ b o e1)) e2 e3 e4
        have seq56 : SeqUp g₅ (T h₆) := fun b o xs nn e d => by
          have e1 : h₅.get? b = some o := r₅.low b o e
          have e2 : b ≠ D ∧ b ≠ I ∧ ((∃ o, h.get? b = some o) ∨ s.heap.get? b = none) := by
            rcases r₅.new b o e with e3 | e3
            · rcases geIn b o e3 with ⟨o', e4⟩ | e4
              · exact ⟨(ofG b o' e4).2.1, (ofG b o' e4).2.2, gS b o' e4⟩
              · subst e4
                obtain ⟨o', _, _, e', d', _⟩ := hnE; rw [e3] at e'; cases e'; rw [d] at d'; cases d'
            · refine ⟨fun z => ?_, fun z => ?_, .inr ?_⟩
              · subst z; obtain ⟨_, e4⟩ := hacc₄; rw [e4] at e3; cases e3
              · subst z; rw [up₄ _ _ hoI] at e3; cases e3
              · cases z : s.heap.get? b with
                | none => rfl
                | some o' => rw [up₄ _ _ (hS₃ b o' z)] at e3; cases e3
          exact Tin _ _ _ (hs₆.extBut b o e2.1 e1) e2.1 e2.2.1 e2.2.2
        refine ⟨n + 1 - (i + 1), by omega, h₆, tk₅, _, ys ++ [y], i + 1, rfl, hlt, rfl, W.frame _ _ _ hst₄ fun b hb o e => hs₆.extBut b o (fun z => hDf (z ▸ hb)) (up₅ b o e), by simpa using hl₆,
          (hn₄.keeps up₅).sameBut hs₆ (Ne.symm hDC), fun b o e => hs₆.extBut b o (ofG b o e).2.1 (up₅ b o (up₄ b o (hg₃ b o e))), fun b o e => hs₆.extBut b o (ofS b o e).2.1 (up₅ b o (up₄ b o (hS₃ b o e))), ?_⟩
        rw [List.range_succ, List.filter_append, List.filter_cons_of_pos hpi, List.filter_nil]
        exact paired_append (paired_mono (fun j y z => hF j y _ _ seq46 z) hFy₄) (.cons (hF i y _ _ seq56 hy) .nil)
    · have hie : i = n := by omega
      subst hie
      refine W.done _ _ _ hst' fun h₂ tk₂ hk₂ => ?_
      have up23 : ∀ b o, b ≠ I → h'.get? b = some o → h₂.get? b = some o := fun b o hbI e => hk₂ b o (nI b hbI) e
      obtain ⟨nD, hDl⟩ := hacc'
      have hDs : s.heap.get? D = none := by
        cases z : s.heap.get? D with
        | none => rfl
        | some o => exact absurd rfl (ofS D o z).2.1
      have hCs : s.heap.get? C = none := by
        cases z : s.heap.get? C with
        | none => rfl
        | some o => exact absurd rfl (ofS C o z).1
      have kS : ∀ b o, s.heap.get? b = some o → h₂.get? b = some o := fun b o e => up23 b o (ofS b o e).2.2 (hS' b o e)
      have est : ({ s₂ with heap := h₂, toks := tk₂ } : Shared) = { s with heap := h₂, toks := tk₂ } := by obtain ⟨_, _, e1, _⟩ := r₁.keeps; obtain ⟨_, _, e2, _⟩ := k₂; rw [e2, e1]
      show compPost (model prog w) A E use Q (.ref D) C (.ok .next) { s₂ with heap := h₂, toks := tk₂ }
      rw [est]
      refine fin D C m' ys h₂ tk₂ hDs hCs hDC kS (hn'.at' fun o e => up23 C o hCI e) ⟨_, up23 D _ hDI hDl, rfl, _, rfl⟩ fun g ug ng => paired_mono (fun j y z => hF j y _ _ (fun b o xs nn e d => ?_) z) hFy
      obtain ⟨e1, ⟨e2, e3⟩, e4⟩ := Tout _ _ _ e
      have hbC : b ≠ C := fun z => by subst z; obtain ⟨o', _, _, e', d', _⟩ := hn'; rw [e1] at e'; cases e'; rw [d] at d'; cases d'
      have e5 := up23 b o e3 e1
      rcases e4 with ⟨o', e6⟩ | e6
      · have e7 : h₂.get? b = some o' := kS b o' (k b o' e6)
        rw [e5] at e7; cases e7; exact ug b _ e6
      · exact ng b o hbC e5 e6
  exact codeAny_compStart_list (loop _ rfl) (W.self 0 _ _ _ hst₁ (loop _ rfl))
theorem comp_gives {elt iter : Expr} {x : Str} {px : Pos} {ifs : List Expr} {scope : Scope} {cl : List (Str × Addr)} {pos : Pos} {n : Nat} {P : Nat → Value → Prop} (p : Nat → Bool) (F : Nat → Value → Heap → Prop)
    (hF : ∀ i v g g', SeqUp g g' → F i v g → F i v g') (hh : A.handled = none)
    (hclos : closureFor scope env = pure cl) (hcell : ∀ y ∈ scope.names, y.2 ≠ .cell) (hkind : scope.kind = .function)
    (hnames : ∀ y ∈ scope.names, y.2 = .local → scope.names.lookup y.1 = some .local) (hx : scope.names.lookup x = some .local) (hsz : n ≤ sizeLine)
    (hiter : Gives (model prog w) A h (eval iter env) fun xv g₁ => Iter prog w g₁ xv n P ∧ Block prog w A env scope cl x ifs elt g₁ n P p F)
    (hs : ∀ x, foldedSetIterable iter env x = pure x) :
    Gives (model prog w) A h (eval (.ListComp elt [⟨.Name x px, iter, ifs, 0⟩] scope pos) env)
      fun v g => ∃ a ys, v = .ref a ∧ g.IsList a (List.toArray ys) ∧ Paired (fun i y => F i y g) ((List.range n).filter p) ys := by
  refine gives_of fun Q E s k q => ?_
  rw [eval_ListComp]
  refine comp_core p F hF hh hclos hcell hkind hnames hx hsz hiter hs k fun D C m' ys h₂ tk hD hC hDC kS hn hl hp => ?_
  refine ⟨m', hn, fun h₃ hs₃ => q _ _ ⟨h₃, tk, rfl, fun b o e => hs₃.extBut b o (fun z => by subst z; rw [hC] at e; cases e) (kS b o e)⟩ fun g ug lg ng => ?_⟩
  obtain ⟨o, e, r⟩ := hl
  exact ⟨D, ys, rfl, ⟨o, ng D o (hs₃.extBut D o hDC e) hD, r⟩, hp g ug fun b o hb e e' => ng b o (hs₃.extBut b o hb e) e'⟩
end

/-! part Fq3 -/

section
variable {α β γ δ : Type} {M : Model} {A : Around} {h : Heap}
theorem gives_nest {t : Sem β} {t' : Sem α} {f : α → Sem β} {P : β → Heap → Prop} (rule : ∀ (Q : β → Shared → Prop) E s, wpAny M A t' (fun a s₁ => wpAny M A (f a) Q E s₁) E s → wpAny M A t Q E s)
    (x : Gives M A h t' fun a g => Gives M A g (f a) P) : Gives M A h t P :=
  fun Q E s k q => rule Q E s (x _ E s k fun v s' g r y => y Q E s' r.low fun v' s'' g' r' p => q v' s'' g' (r.trans r') p)
theorem gives_nest2 {t : Sem γ} {t' : Sem α} {f : α → Sem β} {k : α → β → Sem γ} {P : γ → Heap → Prop} (rule : ∀ (Q : γ → Shared → Prop) E s, wpAny M A t' (fun a s₁ => wpAny M A (f a) (fun b s₂ => wpAny M A (k a b) Q E s₂) E s₁) E s → wpAny M A t Q E s)
    (x : Gives M A h t' fun a g => Gives M A g (f a) fun b g' => Gives M A g' (k a b) P) : Gives M A h t P :=
  fun Q E s kk q => rule Q E s (x _ E s kk fun a s' g r y => y _ E s' r.low fun b s'' g' r' z => z Q E s'' r'.low fun v s₃ g'' r'' p => q v s₃ g'' ((r.trans r').trans r'') p)
theorem gives_nest3 {t : Sem δ} {t' : Sem α} {f : α → Sem β} {k : α → β → Sem γ} {l : α → β → γ → Sem δ} {P : δ → Heap → Prop}
    (rule : ∀ (Q : δ → Shared → Prop) E s, wpAny M A t' (fun a s₁ => wpAny M A (f a) (fun b s₂ => wpAny M A (k a b) (fun c s₃ => wpAny M A (l a b c) Q E s₃) E s₂) E s₁) E s → wpAny M A t Q E s)
    (x : Gives M A h t' fun a g => Gives M A g (f a) fun b g' => Gives M A g' (k a b) fun c g'' => Gives M A g'' (l a b c) P) : Gives M A h t P :=
  fun Q E s kk q => rule Q E s (x _ E s kk fun a s' g r y => y _ E s' r.low fun b s'' g' r' z => z _ E s'' r'.low fun c s₃ g'' r'' u => u Q E s₃ r''.low fun v s₄ g₃ r₃ p => q v s₄ g₃ (((r.trans r').trans r'').trans r₃) p)
theorem gives_via {t t' : Sem α} {P : α → Heap → Prop} (rule : ∀ (Q : α → Shared → Prop) E s, wpAny M A t' Q E s → wpAny M A t Q E s) (x : Gives M A h t' P) : Gives M A h t P :=
  fun Q E s k q => rule Q E s (x Q E s k q)
theorem Gives.eq {t t' : Sem α} {P : α → Heap → Prop} (e : t = t') (x : Gives M A h t' P) : Gives M A h t P := e ▸ x
/-- a step that makes nothing: only ids of values turn -/
theorem gives_tok {t : Sem α} {P : α → Heap → Prop} (x : ∀ (Q : α → Shared → Prop) (E : Value → Shared → Prop) (s : Shared), Up h s.heap → (∀ v tk, P v h → Q v { s with toks := tk }) → wpAny M A t Q E s) : Gives M A h t P :=
  fun Q E s k q => x Q E s k fun v tk p => q v _ h ⟨keeps_tok s tk, fun _ _ e => e, k, fun _ _ e => .inl e⟩ p
theorem ran_tok {s : Shared} {tk : Nat} (k : Up h s.heap) : Ran h h s { s with toks := tk } := ⟨keeps_tok s tk, fun _ _ e => e, k, fun _ _ e => .inl e⟩
end

section
variable {M : Model} {A : Around} {h : Heap} {env : Env} {pos : Pos} {P : Value → Heap → Prop}
theorem gv_name {x : Str} {v : Value} (l : Looks M h (loadName env x) v) (p : P v h) (hd : (x == ("__debug__" : Str)) = false := by decide) : Gives M A h (eval (.Name x pos) env) P :=
  fun Q E s k q => wpAny_Name (l A Q E s k (q v s h (.refl k) p)) hd
theorem gv_int {i : Int} {n : Nat} (p : ∀ t, P (.int i t) h) : Gives M A h (eval (.Constant (.int i) n pos) env) P :=
  fun Q E s k q => wpAny_Constant_int (q _ _ h (ran_tok k) (p _))
theorem gv_str {x : Str} {n : Nat} (p : ∀ t, P (.str x t) h) : Gives M A h (eval (.Constant (.str x) n pos) env) P :=
  fun Q E s k q => wpAny_mkText (q _ _ h (ran_tok k) (p _))
theorem gv_none {n : Nat} (p : P .none h) : Gives M A h (eval (.Constant .none n pos) env) P := Gives.pure p
theorem gv_bool {b : Bool} {n : Nat} (p : P (.bool b) h) : Gives M A h (eval (.Constant (.bool b) n pos) env) P := Gives.pure p
theorem gv_binop {l r : Expr} {op : Operator} (x : Gives M A h (eval l env) fun a g => Gives M A g (eval r env) fun b g' => Gives M A g' (binaryOp op a b) P) : Gives M A h (eval (.BinOp l op r pos) env) P :=
  gives_nest2 (fun _ _ _ => wpAny_BinOp) x
theorem gv_cmp {l r : Expr} {op : CmpOp} (x : Gives M A h (eval l env) fun a g => Gives M A g (eval r env) fun b g' => Gives M A g' (compareOp op a b) P) (hb : behindInMarks op r = false := by rfl) : Gives M A h (eval (.Compare l [op] [r] pos) env) P :=
  gives_nest2 (fun _ _ _ x => wpAny_Compare1 x hb) x
theorem gt_cmp {l r : Expr} {op : CmpOp} {whole : Sem Value} {P : Bool → Heap → Prop}
    (x : Gives M A h (eval l env) fun a g => Gives M A g (eval r env) fun b g' => Gives M A g' (compareOp op a b) fun c g'' => Gives M A g'' (truthy c) P) (hb : behindInMarks op r = false := by rfl) :
    Gives M A h (PySem.isTrue (.Compare l [op] [r] pos) env whole) P :=
  gives_nest3 (fun _ _ _ x => wpAny_isTrue_Compare1 x hb) x
theorem gt_bool {b : Bool} {P : Bool → Heap → Prop} (p : P b h) : Gives M A h (truthy (.bool b)) P := fun Q E s k q => wpAny_truthy_bool (q b s h (.refl k) p)
theorem gv_sub {value slice : Expr} (x : Gives M A h (eval value env) fun o g => Gives M A g (eval slice env) fun i g' => Gives M A g' (subscriptTail value slice o i) P) : Gives M A h (eval (.Subscript value slice pos) env) P :=
  gives_nest2 (fun _ _ _ => Subscript_) x
theorem gv_call {func : Expr} {args : List Expr} (x : Gives M A h (eval func env) fun f g => Gives M A g (callWith pos f [] (backTo pos (starEach args env)) []) P)
    (he : eval (.Call func args [] pos) env = (do callWith pos (← eval func env) [] (backTo pos (starEach args env)) (backToKw pos (keywordEach [] env))) := by rfl) : Gives M A h (eval (.Call func args [] pos) env) P :=
  gives_nest (fun _ _ _ x => Call_ x he) x
theorem gv_meth {o : Expr} {name : Str} {apos : Pos} {args : List Expr} {pl : Sem Bool} (x : Gives M A h (eval o env) fun ov g => Gives M A g (getMethod ov name pl) fun fx g' => Gives M A g' (callWith pos fx.1 fx.2 (backTo pos (starEach args env)) []) P)
    (he : eval (.Call (.Attribute o name apos) args [] pos) env = (do let ov ← eval o env; standAt apos.atName; let (f, first) ← holding [ov] (getMethod ov name pl); callWith pos f first (backTo pos (starEach args env)) (backToKw pos (keywordEach [] env))) := by rfl) :
    Gives M A h (eval (.Call (.Attribute o name apos) args [] pos) env) P :=
  gives_nest2 (fun _ _ _ x => methodCall_KW x he) x

/-- how a callee is kept -/
def Kept (M : Model) (h : Heap) (f : Value) : Prop := ∃ k, (k = Keeper.frame ∨ k = Keeper.machine ∨ k = Keeper.boundFrame) ∧ Looks M h (keeperOf f) k
theorem kept_builtin {id : String} : Kept M h (.builtin id) := ⟨.machine, .inr (.inl rfl), Looks.of_pure rfl⟩
theorem kept_type {T : String} : Kept M h (.type T) := ⟨.machine, .inr (.inl rfl), Looks.of_pure rfl⟩
theorem Kept.up {f : Value} {h' : Heap} (x : Kept M h f) (k : Up h h') : Kept M h' f := let ⟨a, b, c⟩ := x; ⟨a, b, c.keeps k⟩

theorem evalArgs_flat {E : Value → Shared → Prop} {s : Shared} {f : Value} {Q : Args → Shared → Prop} : ∀ {args : List (Bool × Sem Value)}, args.any (·.1) = false → wpAny M A (spliced args) (fun vs s₁ => Q ⟨vs, []⟩ s₁) E s → wpAny M A (evalArgs f true args []) Q E s
  | [], _, x => by
    unfold evalArgs
    show wpAny M A (spliced [] >>= _) Q E s
    refine wpAny_bind (wpAny_mono x (fun vs s₁ h₁ => wpAny_bind (wpAny_pure (wpAny_holding ?_))) fun _ _ e => e)
    exact wpAny_bind (wpAny_pure (wpAny_bind (wpAny_pure (wpAny_pure h₁))))
  | (false, t) :: rest, _, x => evalArgs_plain x
  | (true, t) :: rest, e, x => by simp at e
theorem gv_callWith {f : Value} {first : List Value} {args : List (Bool × Sem Value)} (hk : Kept M h f) (x : Gives M A h (spliced args) fun vs g => Gives M A g (call f (first ++ vs) []) P) (hplain : args.any (·.1) = false := by rfl) :
    Gives M A h (callWith pos f first args []) P := fun Q E s k q =>
  callWith_of (P := fun h' => Up h h') (by rw [hplain]; rfl) (fun h' u => hk.up u) (evalArgs_flat hplain (x _ E s k fun vs s₁ g r y => ⟨fun b o e => r.low b o (r.up b o e), y Q E s₁ r.low fun v s₂ g' r' p => q v s₂ g' (r.trans r') p⟩))
theorem gs_nil {P : List Value → Heap → Prop} (p : P [] h) : Gives M A h (spliced []) P := Gives.pure p
theorem gs_cons {t : Sem Value} {rest : List (Bool × Sem Value)} {P : List Value → Heap → Prop} (x : Gives M A h t fun v g => Gives M A g (spliced rest) fun vs g' => P (v :: vs) g') : Gives M A h (spliced ((false, t) :: rest)) P :=
  fun Q E s k q => Calls.spliced_cons (x _ E s k fun v s₁ g r y => y _ E s₁ r.low fun vs s₂ g' r' p => q _ s₂ g' (r.trans r') p)
/-- one argument, two, starred ones -/
theorem gv_call1 {f : Value} {first : List Value} {e : Expr} (hk : Kept M h f) (x : Gives M A h (eval e env) fun v g => Gives M A g (call f (first ++ [v]) []) P) (he : backTo pos (starEach [e] env) = [(false, eval e env)] := by rfl) :
    Gives M A h (callWith pos f first (backTo pos (starEach [e] env)) []) P := he ▸ gv_callWith hk (gs_cons (x.mono fun v g u y => gs_nil y))
theorem gv_call2 {f : Value} {first : List Value} {e e' : Expr} (hk : Kept M h f) (x : Gives M A h (eval e env) fun v g => Gives M A g (eval e' env) fun v' g' => Gives M A g' (call f (first ++ [v, v']) []) P)
    (he : backTo pos (starEach [e, e'] env) = [(false, eval e env), (false, eval e' env)] := by rfl) :
    Gives M A h (callWith pos f first (backTo pos (starEach [e, e'] env)) []) P := he ▸ gv_callWith hk (gs_cons (x.mono fun v g u y => gs_cons (y.mono fun v g u y => gs_nil y)))
theorem gv_call0 {f : Value} {first : List Value} (hk : Kept M h f) (x : Gives M A h (call f first []) P) : Gives M A h (callWith pos f first (backTo pos (starEach [] env)) []) P :=
  gv_callWith (args := []) hk (gs_nil (by rw [List.append_nil]; exact x))
/-- the values behind a star -/
def Starred (M : Model) (A : Around) (h : Heap) (v : Value) (P : List Value → Heap → Prop) : Prop := Gives M A h (notIterableAtAll v) fun b g => b = false ∧ Gives M A g (collect v) P
theorem gv_callS {f : Value} {first : List Value} {e : Expr} {p : Pos} (hk : Kept M h f) (x : Gives M A h (eval e env) fun v g => Starred M A g v fun vs g' => Gives M A g' (call f (first ++ vs) []) P)
    (he : starEach [.Starred e p] env = [(true, eval e env)] := by rfl) : Gives M A h (callWith pos f first (backTo pos (starEach [.Starred e p] env)) []) P := fun Q E s k q => by
  rw [he]
  exact ks_call (P := fun h' => Up h h') rfl (fun h' u => hk.up u) (ks_lone (x _ E s k fun v s₁ g r y => y _ E s₁ r.low fun b s₂ g' r' z => ⟨z.1, z.2 _ E s₂ r'.low fun vs s₃ g'' r'' u =>
    ⟨fun b o e => r''.low b o (r''.up b o (r'.up b o (r.up b o e))), u Q E s₃ r''.low fun v s₄ g₄ r₄ p => q v s₄ g₄ (((r.trans r').trans r'').trans r₄) p⟩⟩))
end

section
variable {prog : Program} {w : World} {A : Around} {h : Heap}
theorem starred_seq {a : Addr} {T : String} {o : Obj} {its : Array Value} {n : Nat} {P : List Value → Heap → Prop} (ha : h.get? a = some o) (hc : o.cls = .type T) (hd : o.data = .seq its n) (hT : T = "list" ∨ T = "tuple") (hz : its.size ≤ sizeLine) (p : P its.toList h) :
    Starred (model prog w) A h (.ref a) P := by
  refine fun Q E s k q => ?_
  have hTy : s.TypeIs (.ref a) T := ⟨o, k a o ha, hc⟩
  have z : Gives (model prog w) A h (collect (.ref a)) P := fun Q E s k q => wpAny_collect_seq a hT (k a o ha) hc hd (fun h' hk => q _ _ h ⟨⟨h', s.toks, rfl, hk⟩, fun _ _ e => e, fun b o e => hk b o (k b o e), fun _ _ e => .inl e⟩ p) hz
  unfold notIterableAtAll
  rcases hT with rfl | rfl
  · exact wpAny_bind (wpAny_specialOf hTy PySem.F.slot_list_iter.lookup (wpAny_pure (q false s h (.refl k) ⟨rfl, z⟩)))
  · exact wpAny_bind (wpAny_specialOf hTy PySem.F.slot_tuple_iter.lookup (wpAny_pure (q false s h (.refl k) ⟨rfl, z⟩)))
theorem starred_list {a : Addr} {vs : List Value} {P : List Value → Heap → Prop} (x : h.IsList a (List.toArray vs)) (hz : vs.length ≤ sizeLine) (p : P vs h) : Starred (model prog w) A h (.ref a) P := by
  obtain ⟨o, e, c, n, d⟩ := x; exact starred_seq e c d (.inl rfl) (by simpa using hz) (by simpa using p)
theorem starred_tuple {a : Addr} {vs : List Value} {P : List Value → Heap → Prop} (x : h.IsTuple a (List.toArray vs)) (hz : vs.length ≤ sizeLine) (p : P vs h) : Starred (model prog w) A h (.ref a) P := by
  obtain ⟨o, e, c, n, d⟩ := x; exact starred_seq e c d (.inr rfl) (by simpa using hz) (by simpa using p)
end

/-! part Fq4 -/

section
variable {prog : Program} {w : World} {A : Around} {h : Heap} {a b : Int} {t u : Tok} {x y : Str}
theorem op_add : Gives (model prog w) A h (binaryOp .Add (.int a t) (.int b u)) fun v g => IntV g v (a + b) := fun Q E s k q => PyProof.Rows.add_int (q _ _ h (ran_tok k) ⟨_, rfl⟩)
theorem op_sub : Gives (model prog w) A h (binaryOp .Sub (.int a t) (.int b u)) fun v g => IntV g v (a - b) := fun Q E s k q => PyProof.Rows.sub_int (q _ _ h (ran_tok k) ⟨_, rfl⟩)
theorem op_mod (hb : b ≠ 0) : Gives (model prog w) A h (binaryOp .Mod (.int a t) (.int b u)) fun v g => IntV g v (a.fmod b) := fun Q E s k q => PyProof.Rows.mod_int hb (q _ _ h (ran_tok k) ⟨_, rfl⟩)
theorem op_floordiv (hb : b ≠ 0) (hs : b.natAbs < 1073741824) : Gives (model prog w) A h (binaryOp .FloorDiv (.int a t) (.int b u)) fun v g => IntV g v (a.fdiv b) := fun Q E s k q => floordiv_int hb (q _ _ h (ran_tok k) ⟨_, rfl⟩) (.inl (PyProof.noPylong_small hs))
theorem op_cat (hsz : x.length + y.length ≤ sizeLine) : Gives (model prog w) A h (binaryOp .Add (.str x t) (.str y u)) fun v g => StrV g v (x ++ y) := fun Q E s k q => PyProof.Rows.add_str (fun t' tk => q _ _ h (ran_tok k) ⟨_, rfl⟩) hsz
theorem op_eqi : Gives (model prog w) A h (compareOp .Eq (.int a t) (.int b u)) fun v _ => v = .bool (a == b) := fun Q E s k q => PyProof.Rows.eq_int (q _ _ h (.refl k) rfl)
theorem op_nei : Gives (model prog w) A h (compareOp .NotEq (.int a t) (.int b u)) fun v _ => v = .bool (a != b) := fun Q E s k q => PyProof.Rows.ne_int (q _ _ h (.refl k) rfl)
theorem op_lti : Gives (model prog w) A h (compareOp .Lt (.int a t) (.int b u)) fun v _ => v = .bool (decide (a < b)) := fun Q E s k q => PyProof.Rows.lt_int (q _ _ h (.refl k) rfl)
theorem op_eqs : Gives (model prog w) A h (compareOp .Eq (.str x t) (.str y u)) fun v _ => v = .bool (x == y) := fun Q E s k q => PyProof.Rows.eq_str (q _ _ h (.refl k) rfl)
theorem op_nes : Gives (model prog w) A h (compareOp .NotEq (.str x t) (.str y u)) fun v _ => v = .bool (x != y) := fun Q E s k q => PyProof.Rows.ne_str (q _ _ h (.refl k) rfl)
theorem op_is_none {v : Value} : Gives (model prog w) A h (compareOp .Is v .none) fun r _ => r = .bool (v == .none) := fun Q E s k q => is_none (q _ _ h (.refl k) rfl)

/-! len -/
theorem op_len_list {l : Addr} {vs : Array Value} (hl : h.IsList l vs) (hf : (vs.size : Int) < 2 ^ 63) : Gives (model prog w) A h (call (.builtin "len") [.ref l]) fun v g => IntV g v vs.size :=
  fun Q E s k q => PyProof.Rows.len_list (hl.at fun o e => k l o e) hf (q _ _ h (ran_tok k) ⟨_, rfl⟩)
theorem op_len_tuple {l : Addr} {vs : Array Value} (hl : h.IsTuple l vs) (hf : (vs.size : Int) < 2 ^ 63) : Gives (model prog w) A h (call (.builtin "len") [.ref l]) fun v g => IntV g v vs.size :=
  fun Q E s k q => PyProof.Rows.len_tuple (hl.at fun o e => k l o e) hf (q _ _ h (ran_tok k) ⟨_, rfl⟩)
theorem op_len_str (hf : (x.length : Int) < 2 ^ 63) : Gives (model prog w) A h (call (.builtin "len") [.str x t]) fun v g => IntV g v x.length :=
  fun Q E s k q => PyProof.Rows.len_str (by omega) (q _ _ h (ran_tok k) ⟨_, rfl⟩)

/-! new objects -/
theorem no_size {h : Heap} {s : Shared} (k : Up h s.heap) : h.get? s.heap.objs.size = none := by
  cases e : h.get? s.heap.objs.size with
  | none => rfl
  | some o => have := k _ _ e; rw [none_size] at this; cases this
theorem gv_newSeq {T : String} {vs : List Value} (hz : vs.length ≤ sizeLine) {M : Model} :
    Gives M A h (newObj (.type T) (.seq vs.toArray)) fun v g => ∃ a, v = .ref a ∧ h.get? a = none ∧ g.get? a = some { cls := .type T, data := .seq vs.toArray } :=
  gives_of fun Q E s k q => wpAny_newObj_type (q _ _ (keeps_push s _) fun g ug lg ng => ⟨_, rfl, no_size k, ng _ _ (Heap.get?_push_size _ rfl) (none_size _)⟩) (by show (List.toArray vs).size ≤ sizeLine; simpa using hz)
theorem gv_newList {vs : List Value} (hz : vs.length ≤ sizeLine) {M : Model} : Gives M A h (newList vs) fun v g => ∃ a, v = .ref a ∧ h.get? a = none ∧ g.IsList a (List.toArray vs) :=
  (gv_newSeq hz).mono fun v g u ⟨a, e, n, o⟩ => ⟨a, e, n, ⟨_, o, rfl, 0, rfl⟩⟩
theorem gv_newTuple {vs : List Value} (hz : vs.length ≤ sizeLine) {M : Model} : Gives M A h (newTuple vs) fun v g => ∃ a, v = .ref a ∧ h.get? a = none ∧ g.IsTuple a (List.toArray vs) :=
  (gv_newSeq hz).mono fun v g u ⟨a, e, n, o⟩ => ⟨a, e, n, ⟨_, o, rfl, 0, rfl⟩⟩
theorem gv_tuple {M : Model} {env : Env} {elts : List Expr} {n : Nat} {pos : Pos} {P : Value → Heap → Prop} (x : Gives M A h (spliced (backTo pos (starEach elts env))) fun vs g => Gives M A g (newTuple vs) P) : Gives M A h (eval (.Tuple elts n pos) env) P :=
  gives_nest (fun _ _ _ => Tuple_) x
theorem gv_list {M : Model} {env : Env} {elts : List Expr} {pos : Pos} {P : Value → Heap → Prop} (x : Gives M A h (spliced (backTo pos (starEach elts env))) fun vs g => Gives M A g (newList vs) P) : Gives M A h (eval (.List elts pos) env) P :=
  gives_nest (fun _ _ _ => List_) x

/-! items and slices -/
theorem op_item_list {value slice : Expr} {l : Addr} {vs : List Value} {k : Nat} {v : Value} {P : Value → Heap → Prop} (hl : h.IsList l (List.toArray vs)) (hk : vs[k]? = some v) (hf : (k : Int) < 2 ^ 63) (p : P v h)
    (hs : subscripted slice false (.ref l) (.int k u) = operate [.ref l, .int k u] (getItem (.ref l) (.int k u)) := by rfl) : Gives (model prog w) A h (subscriptTail value slice (.ref l) (.int k u)) P :=
  fun Q E s kk q => by
    have hl' : s.heap.IsList l (List.toArray vs) := hl.at fun o e => kk l o e
    exact tail_any hl'.typeIs slot_list_getitem.lookup (wpAny_getItem_list hl' (Int.natCast_nonneg k) hf (by simpa using hk) (q _ _ h (.refl kk) p)) hs
theorem op_item_tuple {value slice : Expr} {l : Addr} {vs : List Value} {k : Nat} {v : Value} {P : Value → Heap → Prop} (hl : h.IsTuple l (List.toArray vs)) (hk : vs[k]? = some v) (hf : (k : Int) < 2 ^ 63) (p : P v h)
    (hs : subscripted slice false (.ref l) (.int k u) = operate [.ref l, .int k u] (getItem (.ref l) (.int k u)) := by rfl) : Gives (model prog w) A h (subscriptTail value slice (.ref l) (.int k u)) P :=
  fun Q E s kk q => by
    have hlt : k < vs.length := by
      rcases Nat.lt_or_ge k vs.length with z | z
      · exact z
      · rw [List.getElem?_eq_none z] at hk; cases hk
    exact item_tupleT (j := k) (hl.at fun o e => kk l o e) (by omega) hf (by
      have h1 : ¬ ((k : Int) < 0) := by omega
      have h2 : (0 : Int) ≤ k ∧ (k : Int) < vs.length := ⟨by omega, by omega⟩
      simp [seqIndex?, h1, h2]) hk (q _ _ h (.refl kk) p) hs
theorem op_item_list_last {value slice : Expr} {l : Addr} {vs : List Value} {v : Value} {P : Value → Heap → Prop} (hl : h.IsList l (List.toArray vs)) (hk : vs.getLast? = some v) (p : P v h)
    (hs : subscripted slice false (.ref l) (.int (-1) u) = operate [.ref l, .int (-1) u] (getItem (.ref l) (.int (-1) u)) := by rfl) : Gives (model prog w) A h (subscriptTail value slice (.ref l) (.int (-1) u)) P :=
  fun Q E s kk q => by
    have hl' : s.heap.IsList l (List.toArray vs) := hl.at fun o e => kk l o e
    have hne : vs ≠ [] := fun z => by subst z; cases hk
    have hpos : 1 ≤ vs.length := List.length_pos_iff.mpr hne
    rw [List.getLast?_eq_getElem?] at hk
    have hsz : (List.toArray vs).size = vs.length := by simp
    refine tail_any hl'.typeIs slot_list_getitem.lookup (wpAny_getItem_list_neg hl' (by decide) (by rw [hsz]; omega) (by decide) (x := v) ?_ (q _ _ h (.refl kk) p)) hs
    rw [hsz]
    have e : ((-1 : Int) + (vs.length : Int)).toNat = vs.length - 1 := by omega
    rw [e]
    simpa using hk

theorem ran_push {h : Heap} {s : Shared} {o : Obj} (k : Up h s.heap) (hf : o.isFreed = false) : ∃ g, Ran h g s { s with heap := s.heap.push o } ∧ g.get? s.heap.objs.size = some o := by
  obtain ⟨g, g1, g2⟩ := carve (s.heap.push o) fun b => (h.get? b).isSome = true ∨ b = s.heap.objs.size
  refine ⟨g, ⟨keeps_push s o, fun b o' e => g2 b o' (Heap.get?_push_of_some _ (k b o' e)) (.inl (by rw [e]; rfl)), fun b o' e => (g1 b o' e).1, fun b o' e => ?_⟩, g2 _ _ (Heap.get?_push_size _ hf) (.inr rfl)⟩
  obtain ⟨e1, e2 | e2⟩ := g1 b o' e
  · obtain ⟨o₂, e3⟩ := Option.isSome_iff_exists.mp e2
    have := Heap.get?_push_of_some o (k b o₂ e3)
    rw [e1] at this; cases this; exact .inl e3
  · exact .inr (by rw [e2]; exact none_size _)
/-- a slice object -/
theorem gv_slice {M : Model} {env : Env} {lower upper : Option Expr} {pos : Pos} {P : Value → Heap → Prop}
    (x : Gives M A h (evalPart lower env) fun l g => Gives M A g (evalPart upper env) fun u g' => ∀ a g'', Up g' g'' → g''.IsSliceOf a l u .none → P (.ref a) g'') : Gives M A h (eval (.Slice lower upper none pos) env) P := fun Q E s k q =>
  wpAny_Slice (x _ E s k fun l s₁ g r y => y _ E s₁ r.low fun u s₂ g' r' z => by
    rw [evalPart_none]
    obtain ⟨g'', r'', e⟩ := ran_push (o := { cls := .type "slice", data := .fields #[l, u, .none] }) r'.low rfl
    exact wpAny_pure (q _ _ g'' ((r.trans r').trans r'') (z _ _ r''.up ⟨_, e, rfl, rfl⟩)))
theorem op_slice_list {value slice : Expr} {l sl : Addr} {vs : List Value} {lv uv : Value} {lo hi : Option Int} {P : Value → Heap → Prop} (hl : h.IsList l (List.toArray vs)) (hz : vs.length ≤ sizeLine) (hsl : h.IsSliceOf sl lv uv .none) (p1 : IsPart lv lo) (p2 : IsPart uv hi)
    (p : ∀ a g, Up h g → h.get? a = none → g.IsList a (slicePick (List.toArray vs) lo hi none) → P (.ref a) g)
    (hs : subscripted slice false (.ref l) (.ref sl) = operate [.ref sl, .ref l] (getItem (.ref l) (.ref sl)) := by rfl) : Gives (model prog w) A h (subscriptTail value slice (.ref l) (.ref sl)) P := fun Q E s k q => by
  have hl' : s.heap.IsList l (List.toArray vs) := hl.at fun o e => k l o e
  have hs' : s.heap.IsSliceOf sl lv uv .none := by obtain ⟨o, e, r⟩ := hsl; exact ⟨o, k _ _ e, r⟩
  obtain ⟨g, r, e⟩ := ran_push (o := { cls := .type "list", data := .seq (slicePick (List.toArray vs) lo hi none) }) k rfl
  exact tail_any hl'.typeIs slot_list_getitem.lookup (wpAny_getItem_list_slice hl' hs' p1 p2 .none (by simp) (q _ _ g r (p _ g r.up (no_size k) ⟨_, e, rfl, 0, rfl⟩)) (by simpa using hz)) hs
theorem op_slice_str {value slice : Expr} {x : Str} {t : Tok} {sl : Addr} {l u : Option (Int × Tok)} {P : Value → Heap → Prop} (hx : x.length ≤ sizeLine) (hsl : h.IsSliceOf sl (partValue l) (partValue u) .none) (p : ∀ t', P (.str (Txt.slice x (l.map (·.1)) (u.map (·.1))) t') h)
    (hs : subscripted slice false (.str x t) (.ref sl) = operate [.ref sl, .str x t] (getItem (.str x t) (.ref sl)) := by rfl) : Gives (model prog w) A h (subscriptTail value slice (.str x t) (.ref sl)) P := fun Q E s k q => by
  obtain ⟨o, e, r⟩ := hsl
  refine tail_any (typeIs_str s x t) F.slot_str_getitem.lookup (wpAny_getItem_str_slice (l := l) (u := u) (st := none) ⟨o, k _ _ e, r⟩ rfl ?_) hs
  exact post_val_or_str ⟨Nat.le_trans (Txt.slice_le x _ _) hx, fun t' tk => q _ _ h (ran_tok k) (p t')⟩
/-! strings -/
theorem op_item_str {value slice : Expr} {x : Str} {t : Tok} {k c : Nat} {P : Value → Heap → Prop} (hk : x.cps[k]? = some c) (hf : (k : Int) < 2 ^ 63) (p : ∀ t', P (.str ⟨#[c]⟩ t') h)
    (hs : subscripted slice false (.str x t) (.int k u) = operate [.str x t, .int k u] (getItem (.str x t) (.int k u)) := by rfl) : Gives (model prog w) A h (subscriptTail value slice (.str x t) (.int k u)) P := fun Q E s kk q => by
  have hlt : k < x.length := by
    rcases Nat.lt_or_ge k x.cps.size with z | z
    · exact z
    · rw [Array.getElem?_eq_none z] at hk; cases hk
  have h1 : ¬ ((k : Int) < 0) := by omega
  have h2 : (0 : Int) ≤ k ∧ (k : Int) < x.length := ⟨by omega, by omega⟩
  refine tail_any (typeIs_str s x t) F.slot_str_getitem.lookup (PySem.P.getItem_str (c := c) ?_ ?_ (q _ _ h (ran_tok kk) (p _))) hs
  · rw [Bool.or_eq_false_iff]; exact ⟨decide_eq_false (by omega), decide_eq_false (by omega)⟩
  · simp [seqIndex?, h1, h2, hk]
theorem op_split {x : Str} {t : Tok} (hx : x.length + 2 ≤ sizeLine) : Gives (model prog w) A h (call (.builtin "str.split") [.str x t]) fun v g => LstV StrV g v (Txt.words x) := by
  refine gives_of fun Q E s k q => ?_
  have hn : (Builtin.Str.spaceWords x (x.length + 1)).length ≤ sizeLine := by
    have e1 := (StrLaws.sw_weight x).1
    have e2 := StrLaws.len_le_wsum (Builtin.Str.spaceWords x (x.length + 1))
    omega
  have pv : ∀ l : List (Str × Tok), Paired (StrV s.heap) (strValues l) (l.map (·.1)) := fun l => by
    induction l with
    | nil => exact .nil
    | cons p l ih => exact .cons ⟨_, rfl⟩ ih
  have fin : ∀ (l : List (Str × Tok)) (tk : Nat), l.map (·.1) = Txt.words x → Q (.ref s.heap.objs.size) { s with heap := s.heap.push { cls := .type "list", data := .seq (strValues l).toArray }, toks := tk } := fun l tk e =>
    q _ _ ⟨_, tk, rfl, fun _ _ e => Heap.get?_push_of_some _ e⟩ fun g ug lg ng => ⟨_, _, rfl, ⟨_, ng _ _ (Heap.get?_push_size _ rfl) (none_size _), rfl, 0, rfl⟩, e ▸ paired_mono (fun _ _ z => z) (pv l)⟩
  refine call_meets F.slot_str_split (typeIs_str _ _ _) F.entry_str_split (F.args_str_split_1 _) (meets_str_split_space x t (by omega) hn) ?_
  cases hw : Builtin.Str.spaceWords x (x.length + 1) == [(0, x.length)]
  · simp only [Bool.false_eq_true, if_false]
    rw [strsFrom_eq]
    exact fin (numbered s.toks (PySem.wordsOf x)) _ ((numbered_texts _ _).trans (if_neg (ne_true_of_eq_false hw)).symm)
  · simp only [if_true]
    exact fin [(x, t)] s.toks (if_pos hw).symm
theorem strs_values : ∀ {vs : List Value} {xs : List Str}, Paired (StrV h) vs xs → ∃ l : List (Str × Tok), vs = strValues l ∧ l.map (·.1) = xs
  | _, _, .nil => ⟨[], rfl, rfl⟩
  | _, _, .cons ⟨t, e⟩ r => by obtain ⟨l, e1, e2⟩ := strs_values r; exact ⟨(_, t) :: l, by rw [e, e1]; rfl, by rw [List.map_cons, e2]⟩
theorem op_join {x : Str} {t : Tok} {a : Addr} {vs : List Value} {xs : List Str} (hl : h.IsList a (List.toArray vs)) (p : Paired (StrV h) vs xs) (hok : JoinOk x xs = true) :
    Gives (model prog w) A h (call (.builtin "str.join") [.str x t, .ref a]) fun v g => StrV g v (Txt.join x xs) := fun Q E s k q => by
  obtain ⟨l, e1, e2⟩ := strs_values p
  subst e1
  exact SC.join (hl.at fun o e => k a o e) e2 hok fun t' tk => q _ _ h (ran_tok k) ⟨_, rfl⟩
theorem gm_split {x : Str} {t : Tok} {pl : Sem Bool} {P : Value × List Value → Heap → Prop} {M : Model} (p : P (.builtin "str.split", [.str x t]) h) : Gives M A h (getMethod (.str x t) "split" pl) P := fun Q E s k q => GM.split (q _ _ h (.refl k) p)
theorem gm_join {x : Str} {t : Tok} {pl : Sem Bool} {P : Value × List Value → Heap → Prop} {M : Model} (p : P (.builtin "str.join", [.str x t]) h) : Gives M A h (getMethod (.str x t) "join" pl) P := fun Q E s k q => GM.join (q _ _ h (.refl k) p)
end

/-! part Fq5 -/

/-! the items: signs and words, pairs of signs -/
inductive It where
  | s (x : Str)
  | p (x y : Str)
  deriving DecidableEq
def ItV (h : Heap) (v : Value) : It → Prop
  | .s x => StrV h v x
  | .p x y => TupV StrV h v [x, y]
theorem itV_st : Stable ItV := fun h h' v a k x => by
  cases a with
  | s x => exact x
  | p x y => exact tupV_st strV_st _ _ _ _ k x
def itP : It → PyData
  | .s x => .str x
  | .p x y => .tuple [.str x, .str y]
def itOk : It → Bool
  | .s x => PyData.strOk x
  | .p x y => PyData.strOk x && PyData.strOk y
theorem it_reads {h : Heap} {v : Value} {a : It} (x : ItV h v a) : ∃ as, Reads h v (itP a) as := by
  cases a with
  | s x => obtain ⟨t, rfl⟩ := x; exact ⟨_, .str _ _⟩
  | p x y =>
    obtain ⟨a, vs, rfl, ⟨o, ho, hc, n, hd⟩, p⟩ := x
    cases p with
    | cons p1 r =>
      cases r with
      | cons p2 r =>
        cases r
        obtain ⟨t, rfl⟩ := p1
        obtain ⟨u, rfl⟩ := p2
        exact ⟨_, .tuple ho hc hd (.cons (.str _ _) (.cons (.str _ _) .nil))⟩
theorem its_reads {h : Heap} : ∀ {vs : List Value} {l : List It}, Paired (ItV h) vs l → ∃ as, ReadsAll h vs (l.map itP) as
  | _, _, .nil => ⟨_, .nil⟩
  | _, _, .cons x r => by
    obtain ⟨as, p⟩ := it_reads x
    obtain ⟨bs, q⟩ := its_reads r
    exact ⟨_, .cons p q⟩
theorem row_reads {h : Heap} {v : Value} {l : List It} (x : LstV ItV h v l) : ∃ as, Reads h v (.list (l.map itP)) as := by
  obtain ⟨a, vs, rfl, ⟨o, ho, hc, n, hd⟩, p⟩ := x
  obtain ⟨as, q⟩ := its_reads p
  exact ⟨_, .list ho hc hd (by simpa using q)⟩
theorem it_lay {a : It} (x : itOk a = true) : (itP a).canLay0 = true ∧ (itP a).depth ≤ 1 := by
  cases a with
  | s x => exact ⟨by simpa [itP, PyData.canLay0, itOk] using x, by simp [itP, PyData.depth]⟩
  | p x y =>
    simp only [itOk, Bool.and_eq_true] at x
    refine ⟨by simp [itP, PyData.canLay0, PyData.canLayAll0, x.1, x.2], by simp [itP, PyData.depth, PyData.depthAll]⟩
theorem row_lay : ∀ {l : List It}, l.all itOk = true → PyData.canLayAll0 (l.map itP) = true ∧ PyData.depthAll (l.map itP) ≤ 1
  | [], _ => ⟨rfl, by simp [PyData.depthAll]⟩
  | a :: l, e => by
    simp only [List.all_cons, Bool.and_eq_true] at e
    have h1 := it_lay e.1
    have h2 := row_lay e.2
    refine ⟨by simp [PyData.canLayAll0, h1.1, h2.1], ?_⟩
    simp only [List.map_cons, PyData.depthAll]
    omega
theorem row_shaped {l : List It} (e : l.all itOk = true) : SeqAt.shaped (.list (l.map itP)) = true := by
  have h := row_lay e
  unfold SeqAt.shaped
  simp only [PyData.canLay0, h.1, Bool.true_and, PyData.depth]
  exact decide_eq_true (by omega)
theorem it_eqv (a b : It) : PyData.eqv (itP a) (itP b) = decide (a = b) := by
  rw [Bool.eq_iff_iff]
  cases a <;> cases b <;> simp [itP, PyData.eqv, PyData.eqvAll]
theorem row_eqv : ∀ (l k : List It), PyData.eqvAll (l.map itP) (k.map itP) = decide (l = k)
  | [], [] => rfl
  | [], _ :: _ => rfl
  | _ :: _, [] => rfl
  | a :: l, b :: k => by
    simp only [List.map_cons, PyData.eqvAll, it_eqv, row_eqv l k, List.cons.injEq]
    rw [Bool.eq_iff_iff]; simp
section
variable {prog : Program} {w : World} {A : Around} {h : Heap}
theorem op_eq_rows {v u : Value} {l k : List It} (x : LstV ItV h v l) (y : LstV ItV h u k) (e : l.all itOk = true) (f : k.all itOk = true) (hu : A.units + 64 < cLine) :
    Gives (model prog w) A h (compareOp .Eq v u) fun r _ => r = .bool (decide (l = k)) := fun Q E s kk q => by
  obtain ⟨as, r1⟩ := row_reads x
  obtain ⟨bs, r2⟩ := row_reads y
  exact eq_dataH (Reads.keeps kk r1) (Reads.keeps kk r2) (row_shaped e) (row_shaped f) hu (q _ _ h (.refl kk) (by simp only [PyData.eqv]; rw [row_eqv]))
theorem op_ne_rows {v u : Value} {l k : List It} (x : LstV ItV h v l) (y : LstV ItV h u k) (e : l.all itOk = true) (f : k.all itOk = true) (hu : A.units + 64 < cLine) :
    Gives (model prog w) A h (compareOp .NotEq v u) fun r _ => r = .bool (!decide (l = k)) := fun Q E s kk q => by
  obtain ⟨as, r1⟩ := row_reads x
  obtain ⟨bs, r2⟩ := row_reads y
  exact ne_dataH (Reads.keeps kk r1) (Reads.keeps kk r2) (row_shaped e) (row_shaped f) hu (q _ _ h (.refl kk) (by simp only [PyData.eqv]; rw [row_eqv]))
theorem op_ne_its {v u : Value} {a b : It} (x : ItV h v a) (y : ItV h u b) (e : itOk a = true) (f : itOk b = true) (hu : A.units + 64 < cLine) :
    Gives (model prog w) A h (compareOp .NotEq v u) fun r _ => r = .bool (!decide (a = b)) := fun Q E s kk q => by
  obtain ⟨as, r1⟩ := it_reads x
  obtain ⟨bs, r2⟩ := it_reads y
  have sh : ∀ {a : It}, itOk a = true → SeqAt.shaped (itP a) = true := fun {a} e => by
    have := it_lay e
    unfold SeqAt.shaped
    rw [this.1, Bool.true_and]; exact decide_eq_true (by omega)
  exact ne_dataH (Reads.keeps kk r1) (Reads.keeps kk r2) (sh e) (sh f) hu (q _ _ h (.refl kk) (by rw [it_eqv]))

/-! range -/
theorem op_range1 {n : Int} {t : Tok} (h0 : 0 ≤ n) (h1 : n < 2 ^ 62) : Gives (model prog w) A h (call (.type "range") [.int n t]) fun v g => Iter prog w g v n.toNat fun i v => ∃ t, v = .int (i : Int) t := fun Q E s k q => by
  refine call_range_1 ?_
  obtain ⟨g, r, e⟩ := ran_push (o := { cls := .type "range", data := .fields #[.int 0 s.toks, .int n t, .int 1 (s.toks + 1)] }) k rfl
  refine q _ _ g (r.trans ⟨keeps_tok _ _, fun _ _ e => e, r.low, fun _ _ e => .inl e⟩) ?_
  have z := iter_range (prog := prog) (w := w) (n := n.toNat) e (small_one (by decide) (by decide) (by omega) h1) (by rw [rangeSize_one]; split <;> omega)
  simpa using z
theorem op_range2 {a b : Int} {t u : Tok} (h0 : -(2 ^ 62) ≤ a) (h0' : a < 2 ^ 62) (h1 : -(2 ^ 62) ≤ b) (h1' : b < 2 ^ 62) : Gives (model prog w) A h (call (.type "range") [.int a t, .int b u]) fun v g => Iter prog w g v (b - a).toNat fun i v => ∃ t, v = .int (a + i) t := fun Q E s k q => by
  refine call_range_2 ?_
  obtain ⟨g, r, e⟩ := ran_push (o := { cls := .type "range", data := .fields #[.int a t, .int b u, .int 1 s.toks] }) k rfl
  refine q _ _ g (r.trans ⟨keeps_tok _ _, fun _ _ e => e, r.low, fun _ _ e => .inl e⟩) ?_
  have z := iter_range (prog := prog) (w := w) (n := (b - a).toNat) e (small_one h0 h0' h1 h1') (by rw [rangeSize_one]; split <;> omega)
  simpa using z

/-! min, max -/
theorem op_max {xv : Value} {n : Nat} {P : Nat → Value → Prop} {val : Nat → Int} (it : Iter prog w h xv n P) (hn : 0 < n) (hv : ∀ i v, P i v → ∃ t, v = .int (val i) t) (hh : A.handled = none) :
    Gives (model prog w) A h (call (.builtin "max") [xv]) fun v g => ∃ m, IntV g v m ∧ (∃ i, i < n ∧ val i = m) ∧ ∀ i, i < n → val i ≤ m := fun Q E s k q => by
  refine call_max_walk (it A.in1 _ E s hh k fun s' I fp St ks hI W hIo st hfp hfk => ⟨I, fp, [I], n, P, St, _, rfl, W A.in1 hh, st, hfp, hn, CmpOf.ints_gt val hv, fun v h' tk hp hk => ?_⟩)
  obtain ⟨t, rfl⟩ := hv _ _ hp
  obtain ⟨h1, h2⟩ := argBest_gt val (n - 1)
  refine q _ _ h ⟨?_, fun _ _ e => e, fun b o e => ?_, fun _ _ e => .inl e⟩ ⟨_, ⟨t, rfl⟩, ⟨_, by omega, rfl⟩, fun i hi => h2 i (by omega)⟩
  · obtain ⟨h₁, t₁, rfl, u₁⟩ := ks
    exact ⟨h', tk, rfl, fun b o e => hk b o (fun z => by rw [List.mem_singleton.mp z] at e; rw [e] at hI; cases hI) (u₁ b o e)⟩
  · exact hk b o (fun z => by rw [List.mem_singleton.mp z] at e; rw [k _ _ e] at hI; cases hI) (keeps_up ks b o (k b o e))
theorem op_min {xv : Value} {n : Nat} {P : Nat → Value → Prop} {val : Nat → Int} (it : Iter prog w h xv n P) (hn : 0 < n) (hv : ∀ i v, P i v → ∃ t, v = .int (val i) t) (hh : A.handled = none) :
    Gives (model prog w) A h (call (.builtin "min") [xv]) fun v g => ∃ m, IntV g v m ∧ (∃ i, i < n ∧ val i = m) ∧ ∀ i, i < n → m ≤ val i := fun Q E s k q => by
  refine call_min_walk (it A.in1 _ E s hh k fun s' I fp St ks hI W hIo st hfp hfk => ⟨I, fp, [I], n, P, St, _, rfl, W A.in1 hh, st, hfp, hn, CmpOf.ints_lt val hv, fun v h' tk hp hk => ?_⟩)
  obtain ⟨t, rfl⟩ := hv _ _ hp
  obtain ⟨h1, h2⟩ := argBest_lt val (n - 1)
  refine q _ _ h ⟨?_, fun _ _ e => e, fun b o e => ?_, fun _ _ e => .inl e⟩ ⟨_, ⟨t, rfl⟩, ⟨_, by omega, rfl⟩, fun i hi => h2 i (by omega)⟩
  · obtain ⟨h₁, t₁, rfl, u₁⟩ := ks
    exact ⟨h', tk, rfl, fun b o e => hk b o (fun z => by rw [List.mem_singleton.mp z] at e; rw [e] at hI; cases hI) (u₁ b o e)⟩
  · exact hk b o (fun z => by rw [List.mem_singleton.mp z] at e; rw [k _ _ e] at hI; cases hI) (keeps_up ks b o (k b o e))
theorem op_min_two {a b : Int} {t u : Tok} (hh : A.handled = none) : Gives (model prog w) A h (call (.builtin "min") [.int a t, .int b u]) fun v g => IntV g v (min a b) := fun Q E s k q => by
  refine min_two_ints hh fun h' tk hk => q _ _ h ⟨⟨h', tk, rfl, hk⟩, fun _ _ e => e, fun b o e => hk b o (k b o e), fun _ _ e => .inl e⟩ ?_
  by_cases c : b < a
  · rw [if_pos c]; exact ⟨u, by rw [Int.min_eq_right (by omega)]⟩
  · rw [if_neg c]; exact ⟨t, by rw [Int.min_eq_left (by omega)]⟩

/-! isinstance, truth -/
theorem op_isi_str_str {x : Str} {t : Tok} : Gives (model prog w) A h (call (.builtin "isinstance") [.str x t, .type "str"]) fun v _ => v = .bool true := fun Q E s k q =>
  IsiPair.str_str (q _ _ h (.refl k) rfl)
theorem op_isi_list_str {a : Addr} {vs : Array Value} (hl : h.IsList a vs) : Gives (model prog w) A h (call (.builtin "isinstance") [.ref a, .type "str"]) fun v _ => v = .bool false := fun Q E s k q => by
  obtain ⟨o, e, c, r⟩ := hl
  exact IsiPair.list_str (k a o e) c (q _ _ h (ran_tok k) rfl)
theorem op_isi_list_bytes {a : Addr} {vs : Array Value} (hl : h.IsList a vs) : Gives (model prog w) A h (call (.builtin "isinstance") [.ref a, .type "bytes"]) fun v _ => v = .bool false := fun Q E s k q => by
  obtain ⟨o, e, c, r⟩ := hl
  exact IsiPair.list_bytes (k a o e) c (q _ _ h (ran_tok k) rfl)
theorem gt_int {i : Int} {t : Tok} {P : Bool → Heap → Prop} (p : P (i != 0) h) : Gives (model prog w) A h (truthy (.int i t)) P := fun Q E s k q => PyProof.Rows.truthy_int (q _ _ h (.refl k) p)
theorem gt_none {P : Bool → Heap → Prop} (p : P false h) : Gives (model prog w) A h (truthy .none) P := fun Q E s k q => truthy_none (q _ _ h (.refl k) p)
theorem gt_list {a : Addr} {vs : List Value} {P : Bool → Heap → Prop} (hl : h.IsList a (List.toArray vs)) (hf : (vs.length : Int) < 2 ^ 63) (p : P (decide (vs ≠ [])) h) : Gives (model prog w) A h (truthy (.ref a)) P := fun Q E s k q => by
  refine wpAny_truthy_list (hl.at fun o e => k a o e) (by simpa using hf) (q _ _ h (ran_tok k) ?_)
  cases vs <;> exact p
theorem gt_tuple {a : Addr} {vs : List Value} {P : Bool → Heap → Prop} (hl : h.IsTuple a (List.toArray vs)) (hf : (vs.length : Int) < 2 ^ 63) (p : P (decide (vs ≠ [])) h) : Gives (model prog w) A h (truthy (.ref a)) P := fun Q E s k q => by
  refine truthy_tuple (hl.at fun o e => k a o e) (by simpa using hf) (q _ _ h (ran_tok k) ?_)
  cases vs <;> exact p
end

/-! part Fq6 -/

/-- what a bare draw from an iterator does -/
structure Drawn (prog : Program) (w : World) (I : Nat) (fp : List Nat) (n : Nat) (P : Nat → Value → Prop) (St : Nat → Heap → Prop) : Prop where
  sub : I ∈ fp
  frame : ∀ i h h', St i h → (∀ b ∈ fp, ∀ o, h.get? b = some o → h'.get? b = some o) → St i h'
  look : ∀ i h, St i h → ∃ o, h.get? I = some o
  item : ∀ (A : Around) i (s : Shared) (Q : Value → Shared → Prop) (E : Value → Shared → Prop), A.handled = none → i < n → St i s.heap →
    (∀ v h' tk, P i v → St (i + 1) h' → Heap.ExtBut I s.heap h' → Q v { s with heap := h', toks := tk }) → wpAny (model prog w) A (Builtin.SmallTypes.nextOf (.ref I)) Q E s
  done : ∀ (A : Around) (s : Shared) (Q : Value → Shared → Prop) (E : Value → Shared → Prop), A.handled = none → St n s.heap →
    (∀ h' e, Heap.ExtBut I s.heap h' → (∃ o, h'.get? e = some o ∧ o.cls = .type "StopIteration") → E (.ref e) { s with heap := h' }) → wpAny (model prog w) A (Builtin.SmallTypes.nextOf (.ref I)) Q E s

section
variable {prog : Program} {w : World}
theorem Drawn.list (I a : Nat) (hne : a ≠ I) (vs : Array Value) : Drawn prog w I [I, a] vs.size (fun i v => vs[i]? = some v) (fun i h => h.IsListIter I a i ∧ h.IsList a vs) where
  sub := by simp
  frame := fun _ _ _ st hk => ⟨st.1.at fun o e => hk I (by simp) o e, st.2.at fun o e => hk a (by simp) o e⟩
  look := fun _ _ st => let ⟨o, e, _⟩ := st.1; ⟨o, e⟩
  item := fun A i s Q E hh hi st hQ => wpAny_nextOf_list_item st.1 st.2 (Array.getElem?_eq_getElem hi) fun h' h1 hs => hQ _ h' s.toks (Array.getElem?_eq_getElem hi) ⟨h1, st.2.extBut hs.extBut hne⟩ hs.extBut
  done := fun A s Q E hh st hE => wpAny_nextOf_list_end hh st.1 st.2 (Array.getElem?_eq_none (Nat.le_refl _)) fun h' e hs he => hE h' e hs he
theorem Drawn.ascii (I : Nat) (x : Str) (t : Tok) : Drawn prog w I [I] x.cps.size (SignAt x) (fun i h => h.IsStrIter I "str_ascii_iterator" x t i) where
  sub := by simp
  frame := fun _ _ _ st hk => by obtain ⟨o, e, r⟩ := st; exact ⟨o, hk I (by simp) o e, r⟩
  look := fun _ _ st => let ⟨o, e, _⟩ := st; ⟨o, e⟩
  item := fun A i s Q E hh hi st hQ => wpAny_nextOf_ascii_item st (Array.getElem?_eq_getElem hi) fun h' h1 hs => hQ _ h' _ ⟨_, _, Array.getElem?_eq_getElem hi, rfl⟩ h1 hs.extBut
  done := fun A s Q E hh st hE => wpAny_nextOf_ascii_end hh st (Array.getElem?_eq_none (Nat.le_refl _)) fun h' e hs he => hE h' e hs he
theorem Drawn.wide (I : Nat) (x : Str) (t : Tok) : Drawn prog w I [I] x.cps.size (SignAt x) (fun i h => h.IsStrIter I "str_iterator" x t i) where
  sub := by simp
  frame := fun _ _ _ st hk => by obtain ⟨o, e, r⟩ := st; exact ⟨o, hk I (by simp) o e, r⟩
  look := fun _ _ st => let ⟨o, e, _⟩ := st; ⟨o, e⟩
  item := fun A i s Q E hh hi st hQ => wpAny_nextOf_wide_item st (Array.getElem?_eq_getElem hi) fun h' h1 hs => hQ _ h' _ ⟨_, _, Array.getElem?_eq_getElem hi, rfl⟩ h1 hs.extBut
  done := fun A s Q E hh st hE => wpAny_nextOf_wide_end hh st (Array.getElem?_eq_none (Nat.le_refl _)) fun h' e hs he => hE h' e hs he
end

/-- a cursor -/
structure Cu (prog : Program) (w : World) where
  I : Nat
  fp : List Nat
  n : Nat
  P : Nat → Value → Prop
  St : Nat → Heap → Prop
  ok : Drawn prog w I fp n P St

def ZObj (h : Heap) (z TI TO : Nat) (f0 : Value) (f1 : Bool) : Prop := h.get? z = some { cls := .type "zip", dict := none, data := .fields #[f0, .bool f1, .bool false, .ref TI, .ref TO], slots := #[] }
structure ZApart {prog : Program} {w : World} (z TI TO : Nat) (ks : List (Cu prog w)) : Prop where
  zTI : TI ≠ z
  zTO : TO ≠ z
  TITO : TI ≠ TO
  out : ∀ c ∈ ks, z ∉ c.fp ∧ TO ∉ c.fp ∧ c.I ≠ z ∧ c.I ≠ TI ∧ c.I ≠ TO
  pair : ks.Pairwise fun c c' => c.I ∉ c'.fp ∧ c'.I ∉ c.fp
  few : ks.length ≤ 8
structure ZSt {prog : Program} {w : World} (h : Heap) (z TI TO : Nat) (ks : List (Cu prog w)) (i : Nat) : Prop where
  obj : ∃ f0 f1, ZObj h z TI TO f0 f1 ∧ (f0 = .none ∨ ∃ a : Nat, f0 = rawInt a)
  its : h.get? TI = some { cls := .type "tuple", data := .seq (ks.map fun c => Value.ref c.I).toArray }
  own : ∃ xs : Array Value, h.get? TO = some { cls := .type "tuple", data := .seq xs } ∧ xs.size = ks.length
  sts : ∀ c ∈ ks, c.St i h

section
variable {prog : Program} {w : World} {A : Around} {E : Value → Shared → Prop} {s : Shared}
theorem seq_upd {T : Addr} {xs : Array Value} {x : Value} {k : Nat} {Q : Unit → Shared → Prop} (hT : s.heap.get? T = some { cls := .type "tuple", data := .seq xs }) (hz : xs.size ≤ 8)
    (h : ∀ h', h'.get? T = some { cls := .type "tuple", data := .seq (xs.setIfInBounds k x) } → Heap.SameBut T s.heap h' → Q () { s with heap := h' }) :
    wpAny (model prog w) A (updateSeq T (·.setIfInBounds k x)) Q E s := by
  refine wpAny_updateSeq hT rfl (h _ ?_ (Heap.SameBut.update ..)) (Nat.le_trans hz (by decide)) (by rw [Array.size_setIfInBounds]; exact Nat.le_trans hz (by decide))
  rw [Heap.get?_update_self _ hT rfl]
  simp [Obj.mapSeq]
theorem alive_any {a : Addr} {Q : Option Obj → Shared → Prop} (h : Q (s.heap.get? a) s) : wpAny (model prog w) A (loadIfAlive a) Q E s := fun _ _ _ => h
theorem zfree {z TI TO : Nat} {f0 : Value} {f1 : Bool} {Q : Bool → Shared → Prop} (hz : ZObj s.heap z TI TO f0 f1) (hf : f0 = .none ∨ ∃ a : Nat, f0 = rawInt a)
    (q1 : Q true s) (q2 : ∀ h', ZObj h' z TI TO f0 true → Heap.SameBut z s.heap h' → Q false { s with heap := h' }) : wpAny (model prog w) A (Builtin.SmallTypes.ownedTupleIsFree (.ref z)) Q E s := by
  unfold Builtin.SmallTypes.ownedTupleIsFree
  refine wpAny_bind (wpAny_field hz rfl (x := f0) rfl ?_)
  rcases hf with rfl | ⟨a, rfl⟩
  · exact wpAny_pure q1
  · show wpAny _ _ (loadIfAlive ((a : Int).toNat) >>= _) _ _ _
    refine wpAny_bind (alive_any ?_)
    cases (s.heap.get? ((a : Int).toNat)).isNone with
    | true => simp only [if_true]; exact wpAny_pure q1
    | false =>
      simp only [Bool.false_eq_true, if_false]
      refine wpAny_bind (wpAny_field hz rfl (x := .bool f1) rfl ?_)
      cases f1 with
      | true =>
        rw [if_neg (show ¬ ((Value.bool true != Value.bool true) = true) from Bool.false_ne_true)]
        exact wpAny_pure (q2 _ hz (Heap.SameBut.refl _ _))
      | false =>
        rw [if_pos (show (Value.bool false != Value.bool true) = true from rfl)]
        refine wpAny_bind (wpAny_setField_rec hz (by simp) fun h₃ he₃ hs₃ => wpAny_pure (q2 _ he₃ hs₃))

theorem zip_next {z TI TO : Nat} {ks : List (Cu prog w)} {i : Nat} {Q : Value → Shared → Prop} (hh : A.handled = none) (D : ZApart z TI TO ks) (hne : ks ≠ []) (hi : ∀ c ∈ ks, i ≤ c.n) (st : ZSt s.heap z TI TO ks i)
    (hQ : (∀ c ∈ ks, i < c.n) → ∀ h' tk (T : Nat) vs, s.heap.get? T = none → h'.IsTuple T (List.toArray vs) → Paired (fun c v => c.P i v) ks vs → ZSt h' z TI TO ks (i + 1) →
      (∀ b o, b ≠ z → b ≠ TO → (∀ c ∈ ks, b ≠ c.I) → s.heap.get? b = some o → h'.get? b = some o) → Q (.ref T) { s with heap := h', toks := tk })
    (hE : (∃ c ∈ ks, i = c.n) → ∀ h' tk e, (∀ b o, b ≠ z → b ≠ TO → (∀ c ∈ ks, b ≠ c.I) → s.heap.get? b = some o → h'.get? b = some o) → (∃ o, h'.get? e = some o ∧ o.cls = .type "StopIteration") → E (.ref e) { s with heap := h', toks := tk }) :
    wpAny (model prog w) A (Builtin.«zip.__next__» ⟨[.ref z], []⟩) (fun fin s' => ∃ v, fin = .done (.ret v) ∧ Q v s') E s := by
  obtain ⟨⟨f0, f1, hz, hf⟩, hTI, ⟨xs, hTO, hxs⟩, hst⟩ := st
  show wpAny _ _ (field (.ref z) 2 >>= _) _ _ _
  refine wpAny_bind (wpAny_field hz rfl (x := .bool false) rfl ?_)
  show wpAny _ _ (field (.ref z) 3 >>= _) _ _ _
  refine wpAny_bind (wpAny_field hz rfl (x := .ref TI) rfl ?_)
  refine wpAny_bind (wpAny_seqItems hTI rfl ?_)
  dsimp only
  rw [if_neg (by simpa using hne)]
  refine wpAny_bind (zfree hz hf ?_ fun h₁ hz₁ hs₁ => ?_)
  · simp only [if_true]
    refine wpAny_bind (wpAny_rule ?_)
    refine wpAny_bind (wpAny_field hz rfl (x := .ref TO) rfl ?_)
    refine wpAny_bind (wpAny_setField_rec hz (by simp) fun h₁ hz₁ hs₁ => ?_)
    replace hz₁ : ZObj h₁ z TI TO .ellipsis f1 := hz₁
    refine wpAny_bind (wpAny_forIn_list _ (fun rest b s' => b = (none, ()) ∧ ∃ h' tk dn rs vs ys, s' = { s with heap := h', toks := tk } ∧ ks = dn ++ rs ∧ rest = (rs.map fun c => Value.ref c.I).zipIdx dn.length ∧
      (∀ c ∈ dn, i < c.n ∧ c.St (i + 1) h') ∧ (∀ c ∈ rs, c.St i h') ∧ Paired (fun c v => c.P i v) dn vs ∧ h'.get? TO = some { cls := .type "tuple", data := .seq (List.toArray (vs ++ ys)) } ∧ ys.length = rs.length ∧
      ZObj h' z TI TO .ellipsis f1 ∧ (∀ b o, b ≠ z → b ≠ TO → (∀ c ∈ ks, b ≠ c.I) → s.heap.get? b = some o → h'.get? b = some o)) _ ?turn ?fin _ _
      ⟨rfl, h₁, s.toks, [], ks, [], xs.toList, rfl, rfl, rfl, fun _ h => absurd h (by simp), fun c hc => c.ok.frame _ _ _ (hst c hc) fun b hb o e => hs₁.extBut b o (fun x => (D.out c hc).1 (x ▸ hb)) e, .nil,
        hs₁.extBut _ _ D.zTO (by simpa using hTO), by simpa using hxs, hz₁, fun b o e1 e2 e3 e => hs₁.extBut b o e1 e⟩)
    case turn =>
      rintro x rest b s' ⟨rfl, h', tk, dn, rs, vs, ys, rfl, hks, hrest, hdn, hrs, hpv, hto, hys, hzo, hkeep⟩
      cases rs with
      | nil => simp at hrest
      | cons c rs =>
        simp only [List.map_cons, List.zipIdx_cons, List.cons.injEq] at hrest
        obtain ⟨rfl, hrest⟩ := hrest
        have hc : c ∈ ks := by rw [hks]; simp
        have hcD := D.out c hc
        have hpair := D.pair
        rw [hks, List.pairwise_append, List.pairwise_cons] at hpair
        have hlt := hi c hc
        have step : ∀ (h₂ : Heap), Heap.ExtBut c.I h' h₂ → ∀ b o, b ≠ z → b ≠ TO → (∀ c ∈ ks, b ≠ c.I) → s.heap.get? b = some o → h₂.get? b = some o := fun h₂ hx b o e1 e2 e3 e => hx b o (e3 c hc) (hkeep b o e1 e2 e3 e)
        rcases Nat.lt_or_ge i c.n with hlt' | hge
        · refine wpAny_bind (wpAny_onRaise ?_)
          show wpAny _ _ (Builtin.SmallTypes.nextOf (.ref c.I) >>= _) _ _ _
          refine wpAny_bind (c.ok.item _ i _ _ _ hh hlt' (hrs c (by simp)) fun v h₂ tk₂ hv hst₂ hx => wpAny_pure ?_)
          dsimp only at hx ⊢
          have hto₂ : h₂.get? TO = some { cls := .type "tuple", data := .seq (List.toArray (vs ++ ys)) } := hx _ _ (Ne.symm hcD.2.2.2.2) hto
          refine wpAny_bind (wpAny_seqItems hto₂ rfl ?_)
          have hsz : (List.toArray (vs ++ ys)).size ≤ 8 := by
            have e1 := hpv.length
            have e2 : ks.length = dn.length + (rs.length + 1) := by rw [hks, List.length_append, List.length_cons]
            have e3 := D.few
            simp only [List.size_toArray, List.length_append]
            simp only [List.length_cons] at hys
            omega
          refine wpAny_bind (seq_upd hto₂ hsz fun h₃ hto₃ hs₃ => wpAny_bind (wpAny_letGo (wpAny_pure ?_)))
          cases ys with
          | nil => simp at hys
          | cons y ys =>
            refine ⟨rfl, h₃, tk₂, dn ++ [c], rs, vs ++ [v], ys, rfl, by rw [hks]; simp, by simpa using hrest, ?_, ?_, paired_append hpv (.cons hv .nil), ?_, by simpa using hys, ?_, ?_⟩
            · intro c' hc'
              rcases List.mem_append.mp hc' with hc' | hc'
              · have hk' : c' ∈ ks := by rw [hks]; exact List.mem_append_left _ hc'
                refine ⟨(hdn c' hc').1, c'.ok.frame _ _ _ (hdn c' hc').2 fun b hb o e => hs₃.extBut b o (fun x => (D.out c' hk').2.1 (x ▸ hb)) (hx b o (fun x => ?_) e)⟩
                exact (hpair.2.2 c' hc' c (by simp)).2 (x ▸ hb)
              · rw [List.mem_singleton.mp hc']
                exact ⟨hlt', c.ok.frame _ _ _ hst₂ fun b hb o e => hs₃.extBut b o (fun x => hcD.2.1 (x ▸ hb)) e⟩
            · intro c' hc'
              have hk' : c' ∈ ks := by rw [hks]; exact List.mem_append_right _ (List.mem_cons_of_mem _ hc')
              exact c'.ok.frame _ _ _ (hrs c' (List.mem_cons_of_mem _ hc')) fun b hb o e => hs₃.extBut b o (fun x => (D.out c' hk').2.1 (x ▸ hb)) (hx b o (fun x => (hpair.2.1.1 c' hc').1 (x ▸ hb)) e)
            · rw [hto₃]
              have e1 := hpv.length
              simp [e1]
            · exact hs₃.extBut _ _ D.zTO.symm (hx _ _ (Ne.symm hcD.2.2.1) hzo)
            · exact fun b o e1 e2 e3 e => hs₃.extBut b o e2 (step h₂ hx b o e1 e2 e3 e)
        · have hin : i = c.n := by omega
          refine wpAny_bind (wpAny_onRaise ?_)
          show wpAny _ _ (Builtin.SmallTypes.nextOf (.ref c.I) >>= _) _ _ _
          refine wpAny_bind (c.ok.done _ _ _ _ hh (hin ▸ hrs c (by simp)) fun h₂ e hx he => ?_)
          dsimp only at hx ⊢
          have hz₂ : ZObj h₂ z TI TO .ellipsis f1 := hx _ _ (Ne.symm hcD.2.2.1) hzo
          obtain ⟨oe, he1, he2⟩ := he
          refine wpAny_setField_rec hz₂ (by simp) fun h₃ hz₃ hs₃ => hE ⟨c, hc, hin⟩ _ _ _ (fun b o e1 e2 e3 e => hs₃.extBut b o e1 (step h₂ hx b o e1 e2 e3 e)) ⟨oe, hs₃.extBut _ _ (fun x => ?_) he1, he2⟩
          subst x; rw [hz₂] at he1; cases he1; simp at he2
    case fin =>
      rintro b s' ⟨rfl, h', tk, dn, rs, vs, ys, rfl, hks, hrest, hdn, hrs, hpv, hto, hys, hzo, hkeep⟩
      have hrs0 : rs = [] := by cases rs with | nil => rfl | cons c rs => simp [List.zipIdx_cons] at hrest
      subst hrs0
      have hys0 : ys = [] := List.length_eq_zero_iff.mp hys
      subst hys0
      rw [List.append_nil] at hks hto
      subst hks
      have hsz : vs.length ≤ sizeLine := by rw [← hpv.length]; exact Nat.le_trans D.few (by decide)
      refine wpAny_bind (wpAny_seqItems hto rfl ?_)
      refine wpAny_bind (wpAny_newTuple ?_ (by simpa using hsz))
      unfold Builtin.SmallTypes.ownedTupleHandOut
      generalize hT : h'.objs.size = T
      have hzlt : z < T := hT ▸ Heap.lt_size hzo
      have hz₂ : ZObj (h'.push { cls := .type "tuple", data := .seq (List.toArray (List.toArray vs).toList) }) z TI TO .ellipsis f1 := Heap.get?_push_of_some _ hzo
      have hTn : s.heap.get? T = none := by
        cases e : s.heap.get? T with
        | none => rfl
        | some o =>
          by_cases c1 : T = z
          · exact absurd c1 (Nat.ne_of_gt hzlt)
          · have e0 : h'.get? T = none := hT ▸ none_size _
            by_cases c2 : T = TO
            · rw [c2, hto] at e0; cases e0
            · by_cases c3 : ∀ c ∈ ks, T ≠ c.I
              · rw [hkeep T o c1 c2 c3 e] at e0; cases e0
              · refine absurd (fun c hc x => ?_) c3
                obtain ⟨o', e1⟩ := c.ok.look _ _ (hdn c hc).2
                rw [← x, e0] at e1; cases e1
      refine wpAny_bind (wpAny_bind (wpAny_setField_rec hz₂ (by simp) fun h₃ hz₃ hs₃ => ?_))
      replace hz₃ : ZObj h₃ z TI TO (rawInt T) f1 := hz₃
      refine wpAny_setField_rec hz₃ (by simp) fun h₄ hz₄ hs₄ => ?_
      replace hz₄ : ZObj h₄ z TI TO (rawInt T) false := hz₄
      have up : ∀ b o, b ≠ z → h'.get? b = some o → h₄.get? b = some o := fun b o e1 e => hs₄.extBut b o e1 (hs₃.extBut b o e1 (Heap.get?_push_of_some _ e))
      refine wpAny_pure ⟨_, rfl, ?_⟩
      refine hQ (fun c hc => (hdn c hc).1) h₄ tk T vs hTn ⟨_, hs₄.extBut _ _ (Nat.ne_of_gt hzlt) (hs₃.extBut _ _ (Nat.ne_of_gt hzlt) (hT ▸ Heap.get?_push_size _ rfl)), rfl, 0, by simp⟩ hpv
        ⟨⟨_, _, hz₄, .inr ⟨T, rfl⟩⟩, up _ _ D.zTI (hkeep _ _ D.zTI D.TITO (fun c hc => (D.out c hc).2.2.2.1.symm) hTI), ⟨_, up _ _ D.zTO hto, by simpa using hpv.length.symm⟩,
          fun c hc => c.ok.frame _ _ _ (hdn c hc).2 fun b hb o e => up b o (fun x => (D.out c hc).1 (x ▸ hb)) e⟩
        fun b o e1 e2 e3 e => up b o e1 (hkeep b o e1 e2 e3 e)
  · simp only [Bool.false_eq_true, if_false]
    refine wpAny_bind (PySem.wpAny_forIn_array' _ (fun rest b s' => ∃ h' tk dn rs vs, b = (none, List.toArray vs) ∧ s' = { s with heap := h', toks := tk } ∧ ks = dn ++ rs ∧ rest = (rs.map fun c => Value.ref c.I) ∧
      (∀ c ∈ dn, i < c.n ∧ c.St (i + 1) h') ∧ (∀ c ∈ rs, c.St i h') ∧ Paired (fun c v => c.P i v) dn vs ∧ ZObj h' z TI TO f0 true ∧ (∀ b o, b ≠ z → (∀ c ∈ ks, b ≠ c.I) → s.heap.get? b = some o → h'.get? b = some o)) _ ?turn ?fin _ _
      ⟨h₁, s.toks, [], ks, [], rfl, rfl, rfl, by simp, fun _ h => absurd h (by simp), fun c hc => c.ok.frame _ _ _ (hst c hc) fun b hb o e => hs₁.extBut b o (fun x => (D.out c hc).1 (x ▸ hb)) e, .nil,
        hz₁, fun b o e1 e3 e => hs₁.extBut b o e1 e⟩)
    case turn =>
      rintro x rest b s' ⟨h', tk, dn, rs, vs, rfl, rfl, hks, hrest, hdn, hrs, hpv, hzo, hkeep⟩
      cases rs with
      | nil => simp at hrest
      | cons c rs =>
        simp only [List.map_cons, List.cons.injEq] at hrest
        obtain ⟨rfl, hrest⟩ := hrest
        have hc : c ∈ ks := by rw [hks]; simp
        have hcD := D.out c hc
        have hpair := D.pair
        rw [hks, List.pairwise_append, List.pairwise_cons] at hpair
        have hlt := hi c hc
        refine wpAny_bind (wpAny_holding ?_)
        show wpAny _ _ (Builtin.SmallTypes.nextOf (.ref c.I) >>= _) _ _ _
        rcases Nat.lt_or_ge i c.n with hlt' | hge
        · refine wpAny_bind (c.ok.item _ i _ _ _ hh hlt' (hrs c (by simp)) fun v h₂ tk₂ hv hst₂ hx => wpAny_pure (wpAny_pure ?_))
          refine ⟨h₂, tk₂, dn ++ [c], rs, vs ++ [v], by simp, rfl, by rw [hks]; simp, hrest, ?_, ?_, paired_append hpv (.cons hv .nil), hx _ _ (Ne.symm hcD.2.2.1) hzo, fun b o e1 e3 e => hx b o (e3 c hc) (hkeep b o e1 e3 e)⟩
          · intro c' hc'
            rcases List.mem_append.mp hc' with hc' | hc'
            · exact ⟨(hdn c' hc').1, c'.ok.frame _ _ _ (hdn c' hc').2 fun b hb o e => hx b o (fun x => (hpair.2.2 c' hc' c (by simp)).2 (x ▸ hb)) e⟩
            · rw [List.mem_singleton.mp hc']; exact ⟨hlt', hst₂⟩
          · intro c' hc'
            exact c'.ok.frame _ _ _ (hrs c' (List.mem_cons_of_mem _ hc')) fun b hb o e => hx b o (fun x => (hpair.2.1.1 c' hc').1 (x ▸ hb)) e
        · have hin : i = c.n := by omega
          refine wpAny_bind (c.ok.done _ _ _ _ hh (hin ▸ hrs c (by simp)) fun h₂ e hx he => ?_)
          exact hE ⟨c, hc, hin⟩ _ _ _ (fun b o e1 e2 e3 e => hx b o (e3 c hc) (hkeep b o e1 e3 e)) he
    case fin =>
      rintro b s' ⟨h', tk, dn, rs, vs, rfl, rfl, hks, hrest, hdn, hrs, hpv, hzo, hkeep⟩
      have hrs0 : rs = [] := by cases rs with | nil => rfl | cons c rs => simp at hrest
      subst hrs0
      rw [List.append_nil] at hks
      subst hks
      have hsz : vs.length ≤ sizeLine := by rw [← hpv.length]; exact Nat.le_trans D.few (by decide)
      refine wpAny_bind (wpAny_newTuple ?_ (by simpa using hsz))
      generalize hT : h'.objs.size = T
      have hTn : s.heap.get? T = none := by
        cases e : s.heap.get? T with
        | none => rfl
        | some o =>
          have e0 : h'.get? T = none := hT ▸ none_size _
          by_cases c1 : T = z
          · rw [c1, hzo] at e0; cases e0
          · by_cases c3 : ∀ c ∈ ks, T ≠ c.I
            · rw [hkeep T o c1 c3 e] at e0; cases e0
            · refine absurd (fun c hc x => ?_) c3
              obtain ⟨o', e1⟩ := c.ok.look _ _ (hdn c hc).2
              rw [← x, e0] at e1; cases e1
      have up : ∀ b o, h'.get? b = some o → (h'.push { cls := .type "tuple", data := .seq (List.toArray (List.toArray vs).toList) }).get? b = some o := fun b o e => Heap.get?_push_of_some _ e
      refine wpAny_pure ⟨_, rfl, ?_⟩
      have hTO' := hkeep _ _ D.zTO (fun c hc => (D.out c hc).2.2.2.2.symm) hTO
      have hTI' := hkeep _ _ D.zTI (fun c hc => (D.out c hc).2.2.2.1.symm) hTI
      exact hQ (fun c hc => (hdn c hc).1) _ tk T vs hTn ⟨_, hT ▸ Heap.get?_push_size _ rfl, rfl, 0, by simp⟩ hpv
        ⟨⟨_, _, up _ _ hzo, hf⟩, up _ _ hTI', ⟨_, up _ _ hTO', hxs⟩, fun c hc => c.ok.frame _ _ _ (hdn c hc).2 fun b hb o e => up b o e⟩
        fun b o e1 e2 e3 e => up b o (hkeep b o e1 e3 e)

theorem zip_pyNext {z TI TO : Nat} {ks : List (Cu prog w)} {i : Nat} {Q : Option Value → Shared → Prop} (hh : A.handled = none) (D : ZApart z TI TO ks) (hne : ks ≠ []) (hi : ∀ c ∈ ks, i ≤ c.n) (st : ZSt s.heap z TI TO ks i)
    (hQ : (∀ c ∈ ks, i < c.n) → ∀ h' tk (T : Nat) vs, s.heap.get? T = none → h'.IsTuple T (List.toArray vs) → Paired (fun c v => c.P i v) ks vs → ZSt h' z TI TO ks (i + 1) →
      (∀ b o, b ≠ z → b ≠ TO → (∀ c ∈ ks, b ≠ c.I) → s.heap.get? b = some o → h'.get? b = some o) → Q (some (.ref T)) { s with heap := h', toks := tk })
    (hE : (∃ c ∈ ks, i = c.n) → ∀ h' tk, (∀ b o, b ≠ z → b ≠ TO → (∀ c ∈ ks, b ≠ c.I) → s.heap.get? b = some o → h'.get? b = some o) → Q none { s with heap := h', toks := tk }) :
    wpAny (model prog w) A (pyNext (.ref z)) Q E s := by
  have hT : s.TypeIs (.ref z) "zip" := by obtain ⟨_, _, e, _⟩ := st.obj; exact ⟨_, e, rfl⟩
  unfold pyNext
  refine wpAny_bind (wpAny_attempt (wpAny_callSpecial?_slot (name := Str.ofString "__next__") hT F.slot_zip_next
    (wpAny_call_entry F.slot_zip_next hT F.entry_zip_next (zip_next (A := A.in1) hh D hne hi st (fun h0 h' tk T vs a b c d e => wpAny_pure (hQ h0 h' tk T vs a b c d e)) fun h0 h' tk e hk he => ?_) (F.args_zip_next_1 _))))
  obtain ⟨o, ho, hc⟩ := he
  refine wpAny_bind (wpAny_isInstance (T := "StopIteration") (b := true) ⟨o, ho, hc⟩ isSubtype_stop ?_)
  exact wpAny_pure (hE h0 _ _ hk)
theorem zip_pyIter {z TI TO : Nat} {ks : List (Cu prog w)} {i : Nat} {Q : Value → Shared → Prop} (st : ZSt s.heap z TI TO ks i) (h : Q (.ref z) s) : wpAny (model prog w) A (pyIter (.ref z)) Q E s := by
  have hT : s.TypeIs (.ref z) "zip" := by obtain ⟨_, _, e, _⟩ := st.obj; exact ⟨_, e, rfl⟩
  refine wpAny_pyIter_slot hT F.slot_zip_iter (wpAny_call_entry F.slot_zip_iter hT F.entry_zip_iter ?_ (F.args_zip_iter_1 _))
  show wpAny _ _ (ret (.ref z)) _ _ s
  exact wpAny_pure ⟨_, rfl, "zip", _, hT, F.slot_zip_next.lookup, h⟩
end

/-! part Fq7 -/

/-- what is drawn from a list or a text -/
inductive Src (h : Heap) : Value → Nat → (Nat → Value → Prop) → Prop
  | list {a : Addr} {vs : Array Value} : h.IsList a vs → Src h (.ref a) vs.size (fun i v => vs[i]? = some v)
  | str {x : Str} {t : Tok} : Src h (.str x t) x.cps.size (SignAt x)

theorem ltN {h : Heap} {a : Nat} {o : Obj} (e : h.get? a = some o) : a < h.objs.size := Heap.lt_size e
section
variable {prog : Program} {w : World} {A : Around} {E : Value → Shared → Prop} {s : Shared} {h : Heap}
theorem Src.up {h h' : Heap} {v : Value} {n : Nat} {P : Nat → Value → Prop} (k : Up h h') : Src h v n P → Src h' v n P
  | .list hl => .list (hl.at fun o e => k _ o e)
  | .str => .str
theorem src_iter {v : Value} {n : Nat} {P : Nat → Value → Prop} {Q : Value → Shared → Prop} (x : Src h v n P) (k : Up h s.heap)
    (q : ∀ (c : Cu prog w) o, c.n = n → c.P = P → c.I = s.heap.objs.size → o.isFreed = false → c.St 0 (s.heap.push o) → (∀ (b : Nat), b ∈ c.fp → b = c.I ∨ ∃ o, h.get? b = some o) → Q (.ref c.I) { s with heap := s.heap.push o }) : wpAny (model prog w) A (pyIter v) Q E s := by
  cases x with
  | @list a vs hl =>
    have hl' : s.heap.IsList a vs := hl.at fun o e => k _ o e
    have ha : a < s.heap.objs.size := by obtain ⟨o, e, _⟩ := hl'; exact ltN e
    refine wpAny_pyIter_list hl' (q ⟨_, _, _, _, _, Drawn.list s.heap.objs.size a (Nat.ne_of_lt ha) vs⟩ _ rfl rfl rfl rfl ⟨⟨_, Heap.get?_push_size _ rfl, rfl, rfl⟩, hl'.push _⟩ fun b hb => ?_)
    simp only [List.mem_cons, List.not_mem_nil, or_false] at hb
    rcases hb with rfl | rfl
    · exact .inl rfl
    · obtain ⟨o, e, _⟩ := hl; exact .inr ⟨o, e⟩
  | @str x t =>
    cases ha : x.cps.all (· < 128)
    · refine wpAny_pyIter_wide ha (q ⟨_, _, _, _, _, Drawn.wide s.heap.objs.size x t⟩ _ rfl rfl rfl rfl ⟨_, Heap.get?_push_size _ rfl, rfl, rfl⟩ fun b hb => .inl (List.mem_singleton.mp hb))
    · refine wpAny_pyIter_ascii ha (q ⟨_, _, _, _, _, Drawn.ascii s.heap.objs.size x t⟩ _ rfl rfl rfl rfl ⟨_, Heap.get?_push_size _ rfl, rfl, rfl⟩ fun b hb => .inl (List.mem_singleton.mp hb))

structure CuAt (h : Heap) (n : Nat) (h' : Heap) (c : Cu prog w) : Prop where
  st : c.St 0 h'
  ge : n ≤ c.I
  lt : c.I < h'.objs.size
  fp : ∀ (b : Nat), b ∈ c.fp → b = c.I ∨ ∃ o, h.get? b = some o
theorem iterAll_srcs {vs : List Value} {sp : List (Nat × (Nat → Value → Prop))} {Q : List Value → Shared → Prop} (x : Paired (fun v p => Src h v p.1 p.2) vs sp) (k : Up h s.heap)
    (q : ∀ (ks : List (Cu prog w)) h', ks.map (fun c => (c.n, c.P)) = sp → Up s.heap h' → s.heap.objs.size ≤ h'.objs.size → (∀ c ∈ ks, CuAt h s.heap.objs.size h' c) →
      ks.Pairwise (fun c c' => c.I < c'.I) → Q (ks.map fun c => .ref c.I) { s with heap := h' }) : wpAny (model prog w) A (Builtin.SmallTypes.iterAll vs) Q E s := by
  unfold Builtin.SmallTypes.iterAll
  refine wpAny_bind (wpAny_forIn_list _ (fun rest b s' => ∃ (ks : List (Cu prog w)) (h' : Heap) (sp1 sp2 : List (Nat × (Nat → Value → Prop))), b = List.toArray (ks.map fun c => Value.ref c.I) ∧ s' = { s with heap := h' } ∧ sp = sp1 ++ sp2 ∧ ks.map (fun c => (c.n, c.P)) = sp1 ∧
    Paired (fun v p => Src h v p.1 p.2) rest sp2 ∧ Up s.heap h' ∧ s.heap.objs.size ≤ h'.objs.size ∧ (∀ c ∈ ks, CuAt h s.heap.objs.size h' c) ∧
    ks.Pairwise (fun c c' => c.I < c'.I)) _ ?turn ?fin vs #[] ⟨[], s.heap, [], sp, rfl, rfl, rfl, rfl, x, fun _ _ e => e, Nat.le_refl _, by simp, .nil⟩)
  case turn =>
    rintro v rest b s' ⟨ks, h', sp1, sp2, rfl, rfl, hsp, hks, hp, hup, hsz, hall, hpw⟩
    cases hp with
    | @cons _ p _ _ hv hr =>
      refine wpAny_bind (wpAny_holding (src_iter hv (fun b o e => hup b o (k b o e)) fun c o e1 e2 e3 e4 e5 e6 => wpAny_pure ?_))
      dsimp only at e3 e5 e6 ⊢
      refine ⟨ks ++ [c], h'.push o, sp1 ++ [p], _, by simp, rfl, by rw [hsp]; simp, by simp [hks, e1, e2], hr, fun b o e => Heap.get?_push_of_some _ (hup b o e), by rw [Heap.size_push]; omega, ?_, ?_⟩
      · intro c' hc'
        rcases List.mem_append.mp hc' with hc' | hc'
        · have a := hall c' hc'
          exact ⟨c'.ok.frame _ _ _ a.st fun b hb o e => Heap.get?_push_of_some _ e, a.ge, by have := a.lt; rw [Heap.size_push]; omega, a.fp⟩
        · rw [List.mem_singleton.mp hc']
          exact ⟨e5, by omega, by rw [Heap.size_push]; omega, e6⟩
      · rw [List.pairwise_append]
        refine ⟨hpw, by simp, fun c1 h1 c2 h2 => ?_⟩
        rw [List.mem_singleton.mp h2]
        have := (hall c1 h1).lt
        omega
  case fin =>
    rintro b s' ⟨ks, h', sp1, sp2, rfl, rfl, hsp, hks, hp, hup, hsz, hall, hpw⟩
    cases hp
    rw [List.append_nil] at hsp
    exact wpAny_pure (q ks h' (hks.trans hsp.symm) hup hsz hall hpw)

theorem zip_new {vs : List Value} {sp : List (Nat × (Nat → Value → Prop))} {Q : Value → Shared → Prop} (x : Paired (fun v p => Src h v p.1 p.2) vs sp) (k : Up h s.heap) (hfew : vs.length ≤ 8)
    (q : ∀ (ks : List (Cu prog w)) (z TI TO : Nat) (h' : Heap), ks.map (fun c => (c.n, c.P)) = sp → Up s.heap h' → s.heap.get? z = none → s.heap.get? TO = none → (∀ c ∈ ks, s.heap.get? c.I = none) → (∀ c ∈ ks, ∀ (b : Nat), b ∈ c.fp → b = c.I ∨ ∃ o, h.get? b = some o) → s.heap.get? TI = none →
      ZApart z TI TO ks → ZSt h' z TI TO ks 0 → Q (.ref z) { s with heap := h' }) :
    wpAny (model prog w) A (Builtin.«zip.__new__» ⟨.type "zip" :: vs, []⟩) (fun fin s' => ∃ v, fin = .done (.ret v) ∧ Q v s') E s := by
  show wpAny _ _ ((isType (.type "zip") >>= _) >>= _) _ _ _
  refine wpAny_bind (wpAny_bind (wpAny_of_eq (a := true) rfl ?_))
  show wpAny _ _ (isSubtype (.type "zip") (.type "zip") >>= _) _ _ _
  refine wpAny_bind (wpAny_of_eq (a := true) sub_zip (wpAny_pure ?_))
  show wpAny _ _ (Builtin.SmallTypes.iterAll vs >>= _) _ _ _
  refine wpAny_bind (iterAll_srcs x k fun ks h' hks hup hsz hall hpw => ?_)
  have hlen : ks.length = vs.length := by have e1 := x.length; have e2 := congrArg List.length hks; rw [List.length_map] at e2; omega
  have hbig : (8 : Nat) ≤ sizeLine := by decide
  refine wpAny_bind (wpAny_newTuple ?_ (by rw [List.length_map]; omega))
  refine wpAny_bind (wpAny_newTuple ?_ (by rw [List.length_map, List.length_map]; omega))
  unfold Builtin.SmallTypes.newRecord
  refine wpAny_bind (wpAny_newObj_type ?_ (by show 5 ≤ _; decide))
  dsimp only
  generalize e1 : h'.objs.size = TI
  generalize eh2 : h'.push _ = h2
  generalize e2 : h2.objs.size = TO
  generalize eh3 : h2.push _ = h3
  generalize e3 : h3.objs.size = z
  have s2 : TO = TI + 1 := by rw [← e2, ← eh2, Heap.size_push, e1]
  have s3 : z = TO + 1 := by rw [← e3, ← eh3, Heap.size_push, e2]
  have n1 : ∀ (b : Nat), s.heap.objs.size ≤ b → s.heap.get? b = none := fun b hb => by
    cases e : s.heap.get? b with
    | none => rfl
    | some o => exact absurd (ltN e) (by omega)
  have old : ∀ c ∈ ks, ∀ (b : Nat), b ∈ c.fp → b < TI := fun c hc b hb => by
    rcases (hall c hc).fp b hb with e | ⟨o, e⟩
    · rw [e, ← e1]; exact (hall c hc).lt
    · rw [← e1]; exact ltN (hup b o (k b o e))
  have pls : ∀ c ∈ ks, c.I < TI := fun c hc => e1 ▸ (hall c hc).lt
  refine wpAny_pure ⟨_, rfl, q ks z TI TO _ hks (fun b o e => ?_) (n1 _ (by omega)) (n1 _ (by omega)) (fun c hc => n1 _ (hall c hc).ge) (fun c hc => (hall c hc).fp) (n1 _ (by omega)) ?_ ?_⟩
  · exact Heap.get?_push_of_some _ (eh3 ▸ Heap.get?_push_of_some _ (eh2 ▸ Heap.get?_push_of_some _ (hup b o e)))
  · refine ⟨by omega, by omega, by omega, fun c hc => ⟨fun hb => ?_, fun hb => ?_, ?_, ?_, ?_⟩, hpw.imp_of_mem fun {c c'} hc hc' hlt => ⟨fun hb => ?_, fun hb => ?_⟩, by omega⟩
    · have := old c hc _ hb; omega
    · have := old c hc _ hb; omega
    · have := pls c hc; omega
    · have := pls c hc; omega
    · have := pls c hc; omega
    · rcases (hall c' hc').fp _ hb with e | ⟨o, e⟩
      · omega
      · have := ltN (k _ _ e); have := (hall c hc).ge; omega
    · rcases (hall c hc).fp _ hb with e | ⟨o, e⟩
      · omega
      · have := ltN (k _ _ e); have := (hall c' hc').ge; omega
  · refine ⟨⟨.none, false, ?_, .inl rfl⟩, ?_, ⟨List.toArray ((ks.map fun c => Value.ref c.I).map fun _ => Value.none), ?_, ?_⟩, fun c hc => c.ok.frame _ _ _ (hall c hc).st fun b hb o e => Heap.get?_push_of_some _ (eh3 ▸ Heap.get?_push_of_some _ (eh2 ▸ Heap.get?_push_of_some _ e))⟩
    · rw [← e3]; exact Heap.get?_push_size _ rfl
    · exact Heap.get?_push_of_some _ (eh3 ▸ Heap.get?_push_of_some _ (eh2 ▸ e1 ▸ Heap.get?_push_size _ rfl))
    · exact Heap.get?_push_of_some _ (eh3 ▸ e2 ▸ Heap.get?_push_size _ rfl)
    · simp

theorem args_object_init_4 (a b c d : Value) : argsOk "object.__init__" ⟨[a, b, c, d], []⟩ := by
  unfold argsOk; rw [signature?_of (id := "object.__init__") (n := ['_', '_', 't', 'i', 'n', 'i', '_', '_']) (o := ['t', 'c', 'e', 'j', 'b', 'o']) (by kernel_rfl) F.owner_object]; kernel_rfl
theorem args_object_init_5 (a b c d e : Value) : argsOk "object.__init__" ⟨[a, b, c, d, e], []⟩ := by
  unfold argsOk; rw [signature?_of (id := "object.__init__") (n := ['_', '_', 't', 'i', 'n', 'i', '_', '_']) (o := ['t', 'c', 'e', 'j', 'b', 'o']) (by kernel_rfl) F.owner_object]; kernel_rfl
theorem zTypeCall_1 (a : Value) : checkTypeCall "zip" ⟨[a], []⟩ = pure () := by kernel_rfl
theorem zNewCall_1 (a : Value) : checkBuiltinCall "zip.__new__" ⟨[.type "zip", a], []⟩ = pure () := by kernel_rfl
theorem zTypeCall_2 (a b : Value) : checkTypeCall "zip" ⟨[a, b], []⟩ = pure () := by kernel_rfl
theorem zNewCall_2 (a b : Value) : checkBuiltinCall "zip.__new__" ⟨[.type "zip", a, b], []⟩ = pure () := by kernel_rfl
theorem zTypeCall_3 (a b c : Value) : checkTypeCall "zip" ⟨[a, b, c], []⟩ = pure () := by kernel_rfl
theorem zNewCall_3 (a b c : Value) : checkBuiltinCall "zip.__new__" ⟨[.type "zip", a, b, c], []⟩ = pure () := by kernel_rfl
theorem zTypeCall_4 (a b c d : Value) : checkTypeCall "zip" ⟨[a, b, c, d], []⟩ = pure () := by kernel_rfl
theorem zNewCall_4 (a b c d : Value) : checkBuiltinCall "zip.__new__" ⟨[.type "zip", a, b, c, d], []⟩ = pure () := by kernel_rfl
theorem zip_call {vs : List Value} {sp : List (Nat × (Nat → Value → Prop))} {Q : Value → Shared → Prop} (x : Paired (fun v p => Src h v p.1 p.2) vs sp) (k : Up h s.heap) (hfew : vs.length ≤ 4) (hpos : vs ≠ [])
    (q : ∀ (ks : List (Cu prog w)) (z TI TO : Nat) (h' : Heap), ks.map (fun c => (c.n, c.P)) = sp → Up s.heap h' → s.heap.get? z = none → s.heap.get? TO = none → (∀ c ∈ ks, s.heap.get? c.I = none) → (∀ c ∈ ks, ∀ (b : Nat), b ∈ c.fp → b = c.I ∨ ∃ o, h.get? b = some o) → s.heap.get? TI = none →
      ZApart z TI TO ks → ZSt h' z TI TO ks 0 → Q (.ref z) { s with heap := h' }) :
    wpAny (model prog w) A (call (.type "zip") vs) Q E s := by
  have c1 : checkTypeCall "zip" ⟨vs, []⟩ = pure () := by
    rcases vs with _ | ⟨a, _ | ⟨b, _ | ⟨c, _ | ⟨d, _ | ⟨e, l⟩⟩⟩⟩⟩
    · exact absurd rfl hpos
    · exact zTypeCall_1 _
    · exact zTypeCall_2 _ _
    · exact zTypeCall_3 _ _ _
    · exact zTypeCall_4 _ _ _ _
    · exact absurd hfew (by simp only [List.length_cons]; omega)
  have c2 : checkBuiltinCall "zip.__new__" ⟨.type "zip" :: vs, []⟩ = pure () := by
    rcases vs with _ | ⟨a, _ | ⟨b, _ | ⟨c, _ | ⟨d, _ | ⟨e, l⟩⟩⟩⟩⟩
    · exact absurd rfl hpos
    · exact zNewCall_1 _
    · exact zNewCall_2 _ _
    · exact zNewCall_3 _ _ _
    · exact zNewCall_4 _ _ _ _
    · exact absurd hfew (by simp only [List.length_cons]; omega)
  have c3 : ∀ obj, argsOk "object.__init__" ⟨obj :: vs, []⟩ := by
    intro obj
    rcases vs with _ | ⟨a, _ | ⟨b, _ | ⟨c, _ | ⟨d, _ | ⟨e, l⟩⟩⟩⟩⟩
    · exact absurd rfl hpos
    · exact F.args_object_init_2 _ _
    · exact F.args_object_init_3 _ _ _
    · exact args_object_init_4 _ _ _ _
    · exact args_object_init_5 _ _ _ _ _
    · exact absurd hfew (by simp only [List.length_cons]; omega)
  refine callType_newIn F.called_zip (by decide) c1 c2 c3 F.entry_zip_new (MeetsIn.of_wp (S := fun A R s => wpAny (model prog w) A.in1 (Builtin.«zip.__new__» ⟨.type "zip" :: vs, []⟩) (fun fin s' => ∃ v, fin = .done (.ret v) ∧ R (.ok (.ret v)) s') (fun e s' => R (.error e) s') s) fun A R s h => h) ?_
  refine zip_new x k (by omega) fun ks z TI TO h' a1 a2 a3 a4 a5 a6 a7 a8 a9 => ⟨?_, q ks z TI TO h' a1 a2 a3 a4 a5 a6 a7 a8 a9⟩
  obtain ⟨_, _, e, _⟩ := a9.obj; exact ⟨_, e, rfl⟩
end

/-! part Fq8 -/

/-- an iterator whose items list() gathers -/
structure Lister (prog : Program) (w : World) (h₁ : Heap) (T : String) (z n : Nat) (Inv : Nat → List Value → Heap → Prop) (Fin : List Value → Heap → Prop) : Prop where
  nl : (Value.type T == Value.type "list") = false ∧ (Value.type T == Value.type "tuple") = false ∧ (["set", "frozenset", "dict", "dict_keys", "dict_values", "dict_items"].any (Value.type T == .type ·)) = false
  type : ∀ S acc h, Inv S acc h → ∃ o, h.get? z = some o ∧ o.cls = .type T
  start : ∀ (S : Nat) h, h₁.get? S = none → (∀ (b : Nat) o, h₁.get? b = some o → h.get? b = some o) → Inv S [] h
  frame : ∀ (S : Nat) acc h h', h₁.get? S = none → Inv S acc h → (∀ (b : Nat) o, b ≠ S → h.get? b = some o → h'.get? b = some o) → Inv S acc h'
  len : ∀ S acc h, Inv S acc h → acc.length ≤ n
  small : n < sizeLine
  self : ∀ (A : Around) S acc (s : Shared) (Q : Value → Shared → Prop) (E : Value → Shared → Prop), A.handled = none → Inv S acc s.heap → Q (.ref z) s → wpAny (model prog w) A (pyIter (.ref z)) Q E s
  hint : ∀ (A : Around) S (s : Shared) (Q : Bool → Shared → Prop) (E : Value → Shared → Prop), A.handled = none → Inv S [] s.heap → (∀ b tk, Q b { s with toks := tk }) → wpAny (model prog w) A (Builtin.List.listLengthHint (.ref z)) Q E s
  step : ∀ (A : Around) (S : Nat) acc (s : Shared) (Q : Option Value → Shared → Prop) (E : Value → Shared → Prop), A.handled = none → h₁.get? S = none → (∃ o, s.heap.get? S = some o) → Inv S acc s.heap →
    (∀ v h' tk, Inv S (acc ++ [v]) h' → (∀ o, s.heap.get? S = some o → h'.get? S = some o) → Q (some v) { s with heap := h', toks := tk }) →
    (∀ h' tk, Fin acc h' → (∀ o, s.heap.get? S = some o → h'.get? S = some o) → Q none { s with heap := h', toks := tk }) → wpAny (model prog w) A (pyNext (.ref z)) Q E s

section
variable {prog : Program} {w : World} {A : Around} {R : Result → Shared → Prop} {h₁ : Heap} {T : String} {z n : Nat} {Inv : Nat → List Value → Heap → Prop} {Fin : List Value → Heap → Prop}
theorem lister_loop (W : Lister prog w h₁ T z n Inv Fin) (hh : A.handled = none) (S : Nat) (hS0 : h₁.get? S = none) (res : Value) : ∀ (k : Nat) (s : Shared) (acc : List Value) (c : Nat), n - acc.length = k → Inv S acc s.heap →
    s.heap.get? S = some { cls := .type "list", dict := none, data := .seq (List.toArray acc) c, slots := #[] } →
    (∀ h' tk acc' c', h'.get? S = some { cls := .type "list", dict := none, data := .seq (List.toArray acc') c', slots := #[] } → Fin acc' h' → R (.ok (.ret res)) { s with heap := h', toks := tk }) →
    codeAny (model prog w) A (.builtin "list.extend.loop" ⟨[.ref S, .ref z, res], []⟩) R s := by
  intro k
  induction k with
  | zero =>
    intro s acc c hk hI hS hR
    refine codeAny_builtin F.entry_extend_loop ?_
    rw [Around.under_plainId F.plain_extend_loop _]
    show wpAny _ A.in1 (pyNext (.ref z) >>= _) _ _ s
    refine wpAny_bind (W.step A.in1 S acc s _ _ hh hS0 ⟨_, hS⟩ hI (fun v h' tk hI' hk' => ?_) fun h' tk hF hk' => wpAny_pure (hR _ _ _ c (hk' _ hS) hF))
    have := W.len _ _ _ hI'
    rw [List.length_append] at this
    exact absurd this (by simp only [List.length_singleton]; omega)
  | succ k ih =>
    intro s acc c hk hI hS hR
    refine codeAny_builtin F.entry_extend_loop ?_
    rw [Around.under_plainId F.plain_extend_loop _]
    show wpAny _ A.in1 (pyNext (.ref z) >>= _) _ _ s
    refine wpAny_bind (W.step A.in1 S acc s _ _ hh hS0 ⟨_, hS⟩ hI (fun v h' tk hI' hk' => ?_) fun h' tk hF hk' => wpAny_pure (hR _ _ _ c (hk' _ hS) hF))
    show wpAny _ A.in1 (updateSeq S (·.push v) >>= _) _ _ _
    have hl := W.len _ _ _ hI
    have hsm := W.small
    have hS' := hk' _ hS
    have hu : ∃ c', (h'.update S (Obj.mapSeq (·.push v))).get? S = some { cls := .type "list", dict := none, data := .seq (List.toArray (acc ++ [v])) c', slots := #[] } := by
      rw [show List.toArray (acc ++ [v]) = (List.toArray acc).push v from by simp]
      exact ⟨_, Heap.get?_update_self (Obj.mapSeq (·.push v)) hS' rfl⟩
    obtain ⟨c', hu⟩ := hu
    refine wpAny_bind (wpAny_updateSeq hS' rfl (wpAny_pure ⟨plainId_quiet F.plain_extend_loop _, ih _ (acc ++ [v]) c' (by rw [List.length_append, List.length_singleton]; omega) (W.frame S _ h' _ hS0 hI' fun b o hb e => (Heap.get?_update_other _ _ (Ne.symm hb)).trans e)
      hu fun h'' tk' acc' c' a b => hR h'' tk' acc' c' a b⟩) (by rw [List.size_toArray]; omega) (by show ((List.toArray acc).push v).size ≤ _; rw [Array.size_push, List.size_toArray]; omega))

theorem lister_extend {s : Shared} (W : Lister prog w h₁ T z n Inv Fin) (hh : A.handled = none) (S : Nat) (hS0 : h₁.get? S = none) (hSz : S ≠ z) (res : Value) (c₀ : Nat) (hI : Inv S [] s.heap)
    (hS : s.heap.get? S = some { cls := .type "list", data := .seq #[] c₀ })
    (hR : ∀ h' tk acc' c', h'.get? S = some { cls := .type "list", dict := none, data := .seq (List.toArray acc') c', slots := #[] } → Fin acc' h' → R (.ok (.ret res)) { s with heap := h', toks := tk }) :
    wpAny (model prog w) A.in1 (Builtin.List.listExtendWith (.ref S) (.ref z) res)
      (fun fin s' => match fin with | .done f => R (.ok f) s' | .again c' => c'.quiet = true ∧ codeAny (model prog w) A c' R s') (fun e s' => R (.error e) s') s := by
  unfold Builtin.List.listExtendWith
  refine wpAny_bind (wpAny_typeOf (T := T) (W.type _ _ _ hI) ?_)
  have h1 : Builtin.List.listSameRef (.ref S) (.ref z) = false := by simp [Builtin.List.listSameRef, hSz]
  simp only [h1, W.nl.1, W.nl.2.1, Bool.or_false, Bool.false_eq_true, if_false]
  refine wpAny_bind (W.self A.in1 _ _ _ _ _ hh hI ?_)
  refine wpAny_bind (wpAny_holding (W.hint A.in1 S _ _ _ hh hI fun b tk => ?_))
  have key : ∀ (h' : Heap) (c₁ : Nat), (∀ b o, b ≠ S → s.heap.get? b = some o → h'.get? b = some o) → h'.get? S = some { cls := .type "list", dict := none, data := .seq #[] c₁, slots := #[] } →
      wpAny (model prog w) A.in1 (again (.builtin "list.extend.loop" ⟨[.ref S, .ref z, res], []⟩)) (fun fin s' => match fin with | .done f => R (.ok f) s' | .again c' => c'.quiet = true ∧ codeAny (model prog w) A c' R s') (fun e s' => R (.error e) s') { s with heap := h', toks := tk } := fun h' c₁ hk hS' =>
    wpAny_pure ⟨plainId_quiet F.plain_extend_loop _, lister_loop W hh S hS0 res _ _ [] c₁ rfl (W.frame S _ _ _ hS0 hI hk) hS' fun h'' tk' acc' c' a b => hR h'' tk' acc' c' a b⟩
  cases b with
  | false =>
    refine wpAny_ite_split (fun hab => absurd (show (false || (["set", "frozenset", "dict", "dict_keys", "dict_values", "dict_items"].any (Value.type T == .type ·))) = true from hab) (by rw [W.nl.2.2]; decide)) (fun _ => ?_)
    exact key s.heap _ (fun _ _ _ e => e) hS
  | true =>
    simp only [Bool.true_or, if_true]
    refine wpAny_bind (wpAny_rule ?_)
    refine wpAny_bind ?_
    show wpAny _ A.in1 (updateSeq S (·.push .none) >>= fun _ => updateSeq S (·.pop)) _ _ _
    refine wpAny_bind (wpAny_updateSeq hS rfl ?_)
    have hS₂ := Heap.get?_update_self (Obj.mapSeq (·.push Value.none)) hS rfl
    refine wpAny_updateSeq (hz := by seq_fits) hS₂ rfl ?_
    have hS₃ := Heap.get?_update_self (Obj.mapSeq (·.pop)) hS₂ rfl
    exact key _ _ (fun b o hb e => (Heap.get?_update_other _ _ (Ne.symm hb)).trans ((Heap.get?_update_other _ _ (Ne.symm hb)).trans e)) hS₃

theorem lister_init {s : Shared} (W : Lister prog w h₁ T z n Inv Fin) (hh : A.handled = none) (S : Nat) (hS0 : h₁.get? S = none) (hSz : S ≠ z) (hI : Inv S [] s.heap)
    (hS : s.heap.get? S = some { cls := .type "list", data := .seq #[] })
    (hR : ∀ h' tk acc' c', h'.get? S = some { cls := .type "list", dict := none, data := .seq (List.toArray acc') c', slots := #[] } → Fin acc' h' → R (.ok (.ret .none)) { s with heap := h', toks := tk }) :
    wpAny (model prog w) A.in1 (Builtin.«list.__init__» ⟨[.ref S, .ref z], []⟩)
      (fun fin s' => match fin with | .done f => R (.ok f) s' | .again c' => c'.quiet = true ∧ codeAny (model prog w) A c' R s') (fun e s' => R (.error e) s') s := by
  show wpAny _ A.in1 (do let old ← Builtin.List.listItems (.ref S); Builtin.List.listUpdate (.ref S) (fun _ => #[]); letGo old.toList.reverse; Builtin.List.listExtendWith (.ref S) (.ref z) .none) _ _ s
  refine wpAny_bind ?_
  unfold Builtin.List.listItems
  refine wpAny_bind (wpAny_seqItems hS rfl (wpAny_pure ?_))
  show wpAny _ A.in1 (updateSeq S (fun _ => #[]) >>= fun _ => letGo (#[] : Array Value).toList.reverse >>= fun _ => Builtin.List.listExtendWith (.ref S) (.ref z) .none) _ _ s
  refine wpAny_bind (wpAny_updateSeq hS rfl ?_)
  have hS₂ := Heap.get?_update_self (Obj.mapSeq (fun _ => (#[] : Array Value))) hS rfl
  refine wpAny_bind (wpAny_letGo ?_)
  exact lister_extend W hh S hS0 hSz .none _ (W.frame S _ _ _ hS0 hI fun b o hb e => (Heap.get?_update_other _ _ (Ne.symm hb)).trans e) hS₂ fun h' tk acc' c' a b => hR h' tk acc' c' a b

theorem call_list_lister {s : Shared} {E : Value → Shared → Prop} {Q : Value → Shared → Prop} (W : Lister prog w s.heap T z n Inv Fin) (hh : A.handled = none)
    (hQ : ∀ h' tk acc (S : Nat) c, s.heap.get? S = none → h'.get? S = some { cls := .type "list", dict := none, data := .seq (List.toArray acc) c, slots := #[] } → Fin acc h' → Q (.ref S) { s with heap := h', toks := tk }) :
    wpAny (model prog w) A (call (.type "list") [.ref z]) Q E s := by
  have hS0 : s.heap.get? s.heap.objs.size = none := none_size _
  have hI0 := W.start s.heap.objs.size s.heap hS0 fun _ _ e => e
  have hSz : s.heap.objs.size ≠ z := fun e => by obtain ⟨o, ho, _⟩ := W.type _ _ _ hI0; rw [← e, hS0] at ho; cases ho
  refine callType_codes (Q₁ := fun obj s₁ => obj = .ref s.heap.objs.size ∧ s₁ = { s with heap := s.heap.push { cls := .type "list", data := .seq #[] } }) F.called_list (F.typeCall_list_1 _) F.entry_list_init
    (code_list_new _ ⟨rfl, rfl⟩) fun obj s₁ h₁ => ?_
  obtain ⟨rfl, rfl⟩ := h₁
  have hS : (s.heap.push { cls := .type "list", data := .seq #[] }).get? s.heap.objs.size = some { cls := .type "list", data := .seq #[] } := Heap.get?_push_size _ rfl
  exact ⟨⟨_, hS, rfl⟩, F.args_list_init_2 _ _, lister_init (A := A.in1) W hh _ hS0 hSz (W.start _ _ hS0 fun b o e => Heap.get?_push_of_some _ e) hS fun h' tk acc' c' a b => ⟨rfl, hQ h' tk acc' _ c' hS0 a b⟩⟩
end

/-! part Fq9 -/

theorem zip_no_len : typeLookup (.type "zip") "__len__" = pure none := by rw [typeLookup_type, builtinLookup_eq_fast]; kernel_rfl
theorem zip_no_hint : typeLookup (.type "zip") "__length_hint__" = pure none := by rw [typeLookup_type, builtinLookup_eq_fast]; kernel_rfl
theorem lri_no_len : typeLookup (.type "list_reverseiterator") "__len__" = pure none := by rw [typeLookup_type, builtinLookup_eq_fast]; kernel_rfl
theorem lri_hint : typeLookup (.type "list_reverseiterator") "__length_hint__" = pure (some (.builtin "list_reverseiterator.__length_hint__")) := by rw [typeLookup_type, builtinLookup_eq_fast]; kernel_rfl

section
variable {prog : Program} {w : World}
/-- gathering a zip -/
def ZInv (h₀ : Heap) (z TI TO : Nat) (ks : List (Cu prog w)) (n S : Nat) (acc : List Value) (h : Heap) : Prop :=
  acc.length ≤ n ∧ ZSt h z TI TO ks acc.length ∧ Up h₀ h ∧ ∀ (j : Nat) v, acc[j]? = some v → ∃ (T : Nat) (vs : List Value), v = .ref T ∧ h.IsTuple T (List.toArray vs) ∧ Paired (fun c v => c.P j v) ks vs ∧ h₀.get? T = none ∧ T ≠ S ∧ T ≠ z ∧ T ≠ TO ∧ ∀ c ∈ ks, T ≠ c.I
def ZFin (h₀ : Heap) (ks : List (Cu prog w)) (n : Nat) (acc : List Value) (h : Heap) : Prop :=
  acc.length = n ∧ Up h₀ h ∧ ∀ (j : Nat) v, acc[j]? = some v → ∃ (T : Nat) (vs : List Value), v = .ref T ∧ h.IsTuple T (List.toArray vs) ∧ Paired (fun c v => c.P j v) ks vs ∧ h₀.get? T = none
theorem ZSt.frame {h h' : Heap} {z TI TO i : Nat} {ks : List (Cu prog w)} (st : ZSt h z TI TO ks i) (k : ∀ (b : Nat) o, (b = z ∨ b = TI ∨ b = TO ∨ ∃ c ∈ ks, b ∈ c.fp) → h.get? b = some o → h'.get? b = some o) : ZSt h' z TI TO ks i where
  obj := by obtain ⟨a, b, e, r⟩ := st.obj; exact ⟨a, b, k _ _ (.inl rfl) e, r⟩
  its := k _ _ (.inr (.inl rfl)) st.its
  own := by obtain ⟨a, e, r⟩ := st.own; exact ⟨a, k _ _ (.inr (.inr (.inl rfl))) e, r⟩
  sts := fun c hc => c.ok.frame _ _ _ (st.sts c hc) fun b hb o e => k b o (.inr (.inr (.inr ⟨c, hc, hb⟩))) e
theorem zip_lister {h₀ h₁ : Heap} {z TI TO n : Nat} {ks : List (Cu prog w)} (D : ZApart z TI TO ks) (hne : ks ≠ []) (hn : (∀ c ∈ ks, n ≤ c.n) ∧ ∃ c ∈ ks, c.n = n) (hsm : n < sizeLine) (up : Up h₀ h₁)
    (hz : h₀.get? z = none) (hTO : h₀.get? TO = none) (hI : ∀ c ∈ ks, h₀.get? c.I = none) (hfp : ∀ c ∈ ks, ∀ (b : Nat), b ∈ c.fp → ∃ o, h₁.get? b = some o) (st : ZSt h₁ z TI TO ks 0) :
    Lister prog w h₁ "zip" z n (ZInv h₀ z TI TO ks n) (ZFin h₀ ks n) where
  nl := ⟨by decide, by decide, by decide⟩
  type := fun S acc h x => by obtain ⟨_, _, e, _⟩ := x.2.1.obj; exact ⟨_, e, rfl⟩
  start := fun S h hS k => ⟨Nat.zero_le _, st.frame fun b o _ e => k b o e, fun b o e => k b o (up b o e), fun j v e => by simp at e⟩
  frame := fun S acc h h' hS x k => by
    obtain ⟨x1, x2, x3, x4⟩ := x
    have ne : ∀ (b : Nat), (∃ o, h₁.get? b = some o) → b ≠ S := fun b ⟨o, e⟩ z => by rw [z, hS] at e; cases e
    refine ⟨x1, x2.frame fun b o hb e => k b o (ne b ?_) e, fun b o e => k b o (ne b ⟨o, up b o e⟩) (x3 b o e), fun j v e => ?_⟩
    · rcases hb with rfl | rfl | rfl | ⟨c, hc, hb⟩
      · obtain ⟨_, _, e, _⟩ := st.obj; exact ⟨_, e⟩
      · exact ⟨_, st.its⟩
      · obtain ⟨_, e, _⟩ := st.own; exact ⟨_, e⟩
      · exact hfp c hc b hb
    · obtain ⟨T, vs, a1, a2, a3, a4, a5, a6⟩ := x4 j v e
      exact ⟨T, vs, a1, by obtain ⟨o, e1, r⟩ := a2; exact ⟨o, k T o a5 e1, r⟩, a3, a4, a5, a6⟩
  len := fun S acc h x => x.1
  small := hsm
  self := fun A S acc s Q E hh x q => zip_pyIter x.2.1 q
  hint := fun A S s Q E hh x q => by
    have hT : s.TypeIs (.ref z) "zip" := by obtain ⟨_, _, e, _⟩ := x.2.1.obj; exact ⟨_, e, rfl⟩
    unfold Builtin.List.listLengthHint
    refine wpAny_bind (wpAny_specialOf hT zip_no_len ?_)
    show wpAny _ _ (specialOf (Value.ref z) (Str.ofString "__length_hint__") >>= _) _ _ _
    exact wpAny_bind (wpAny_specialOf hT zip_no_hint (wpAny_pure (q true s.toks)))
  step := fun A S acc s Q E hh hS hSo x q1 q2 => by
    obtain ⟨x1, x2, x3, x4⟩ := x
    have neS : ∀ (b : Nat), (∃ o, h₁.get? b = some o) → S ≠ b := fun b ⟨o, e⟩ z => by rw [← z, hS] at e; cases e
    have S1 : S ≠ z := neS _ (by obtain ⟨_, _, e, _⟩ := st.obj; exact ⟨_, e⟩)
    have S2 : S ≠ TO := neS _ (by obtain ⟨_, e, _⟩ := st.own; exact ⟨_, e⟩)
    have S3 : ∀ c ∈ ks, S ≠ c.I := fun c hc => neS _ (hfp c hc _ c.ok.sub)
    have b0 : ∀ (b : Nat) o, h₀.get? b = some o → b ≠ z ∧ b ≠ TO ∧ ∀ c ∈ ks, b ≠ c.I := fun b o e => ⟨fun h => (by rw [h, hz] at e; cases e), fun h => (by rw [h, hTO] at e; cases e), fun c hc h => (by rw [h, hI c hc] at e; cases e)⟩
    refine zip_pyNext hh D hne (fun c hc => Nat.le_trans x1 (hn.1 c hc)) x2 (fun hlt h' tk T vs hT hTup hp hst hk => ?_) fun hend h' tk hk => ?_
    · refine q1 _ _ _ ⟨?_, ?_, fun b o e => hk b o (b0 b o e).1 (b0 b o e).2.1 (b0 b o e).2.2 (x3 b o e), fun j v e => ?_⟩ fun o e => hk _ _ S1 S2 S3 e
      · obtain ⟨c, hc, e⟩ := hn.2
        have := hlt c hc
        rw [List.length_append, List.length_singleton]; omega
      · rw [List.length_append, List.length_singleton]; exact hst
      · have neT : ∀ (b : Nat) o, s.heap.get? b = some o → T ≠ b := fun b o e z => by rw [← z, hT] at e; cases e
        by_cases hj : j < acc.length
        · rw [List.getElem?_append_left hj] at e
          obtain ⟨T', vs', a1, a2, a3, a4, a5, a6, a7, a8⟩ := x4 j v e
          exact ⟨T', vs', a1, by obtain ⟨o, e1, r⟩ := a2; exact ⟨o, hk T' o a6 a7 a8 e1, r⟩, a3, a4, a5, a6, a7, a8⟩
        · rw [List.getElem?_append_right (by omega)] at e
          have hj' : j = acc.length := by
            rcases Nat.eq_or_lt_of_le (Nat.le_of_not_lt hj) with h | h
            · exact h.symm
            · rw [List.getElem?_eq_none (by simp only [List.length_singleton]; omega)] at e; cases e
          subst hj'
          simp at e
          subst e
          obtain ⟨oS, hoS⟩ := hSo
          obtain ⟨_, _, ez, _⟩ := x2.obj
          obtain ⟨_, eT, _⟩ := x2.own
          refine ⟨T, vs, rfl, hTup, hp, ?_, neT _ _ hoS, neT _ _ ez, neT _ _ eT, fun c hc => ?_⟩
          · cases e : h₀.get? T with
            | none => rfl
            | some o => rw [x3 T o e] at hT; cases hT
          · obtain ⟨o, e⟩ := c.ok.look _ _ (x2.sts c hc)
            exact neT _ _ e
    · refine q2 _ _ ⟨?_, fun b o e => hk b o (b0 b o e).1 (b0 b o e).2.1 (b0 b o e).2.2 (x3 b o e), fun j v e => ?_⟩ fun o e => hk _ _ S1 S2 S3 e
      · obtain ⟨c, hc, e⟩ := hend
        have := hn.1 c hc
        omega
      · obtain ⟨T', vs', a1, a2, a3, a4, a5, a6, a7, a8⟩ := x4 j v e
        exact ⟨T', vs', a1, by obtain ⟨o, e1, r⟩ := a2; exact ⟨o, hk T' o a6 a7 a8 e1, r⟩, a3, a4⟩

/-- a walk whose items are told without a heap -/
theorem walk_lister {h₁ : Heap} {T : String} {I n : Nat} {fp : List Nat} {P : Nat → Value → Prop} {St : Nat → Heap → Prop}
    (nl : (Value.type T == Value.type "list") = false ∧ (Value.type T == Value.type "tuple") = false ∧ (["set", "frozenset", "dict", "dict_keys", "dict_values", "dict_items"].any (Value.type T == .type ·)) = false)
    (W : ∀ A : Around, A.handled = none → Walks prog w A I fp [I] n P St) (type : ∀ i h, St i h → ∃ o, h.get? I = some o ∧ o.cls = .type T) (hst : St 0 h₁) (hfp : ∀ b ∈ fp, ∃ o, h₁.get? b = some o) (hsm : n < sizeLine)
    {h₀ : Heap} (up : Up h₀ h₁) (hI0 : h₀.get? I = none)
    (hint : ∀ (A : Around) (s : Shared) (Q : Bool → Shared → Prop) (E : Value → Shared → Prop), A.handled = none → St 0 s.heap → (∀ b tk, Q b { s with toks := tk }) → wpAny (model prog w) A (Builtin.List.listLengthHint (.ref I)) Q E s) :
    Lister prog w h₁ T I n (fun S acc h => acc.length ≤ n ∧ St acc.length h ∧ Up h₀ h ∧ ∀ (j : Nat) v, acc[j]? = some v → P j v) (fun acc h => acc.length = n ∧ Up h₀ h ∧ ∀ (j : Nat) v, acc[j]? = some v → P j v) where
  nl := nl
  type := fun S acc h x => type _ _ x.2.1
  start := fun S h hS k => ⟨Nat.zero_le _, (W {} rfl).frame _ _ _ hst fun b _ o e => k b o e, fun b o e => k b o (up b o e), fun j v e => by simp at e⟩
  frame := fun S acc h h' hS x k => by
    have ne : ∀ (b : Nat), (∃ o, h₁.get? b = some o) → b ≠ S := fun b ⟨o, e⟩ z => by rw [z, hS] at e; cases e
    exact ⟨x.1, (W {} rfl).frame _ _ _ x.2.1 fun b hb o e => k b o (ne b (hfp b hb)) e, fun b o e => k b o (ne b ⟨o, up b o e⟩) (x.2.2.1 b o e), x.2.2.2⟩
  len := fun S acc h x => x.1
  small := hsm
  self := fun A S acc s Q E hh x q => (W A hh).self _ _ _ _ x.2.1 q
  hint := fun A S s Q E hh x q => hint A s Q E hh x.2.1 q
  step := fun A S acc s Q E hh hS hSo x q1 q2 => by
    obtain ⟨x1, x2, x3, x4⟩ := x
    obtain ⟨oI, hoI⟩ := hfp I ((W {} rfl).sub I (by simp))
    have hSI : S ≠ I := fun e => by rw [e, hoI] at hS; cases hS
    have nI : ∀ (b : Nat) o, h₀.get? b = some o → b ∉ [I] := fun b o e hb => by rw [List.mem_singleton.mp hb, hI0] at e; cases e
    have nS : S ∉ [I] := fun h => hSI (List.mem_singleton.mp h)
    rcases Nat.lt_or_ge acc.length n with hlt | hge
    · refine (W A hh).item _ _ _ _ hlt x2 fun v h' tk hp hst' hk => q1 _ _ _ ⟨?_, ?_, fun b o e => hk b o (nI b o e) (x3 b o e), fun j v e => ?_⟩ fun o e => hk _ _ nS e
      · rw [List.length_append, List.length_singleton]; omega
      · rw [List.length_append, List.length_singleton]; exact hst'
      · by_cases hj : j < acc.length
        · rw [List.getElem?_append_left hj] at e
          exact x4 j v e
        · rw [List.getElem?_append_right (by omega)] at e
          have hj' : j = acc.length := by
            rcases Nat.eq_or_lt_of_le (Nat.le_of_not_lt hj) with h | h
            · exact h.symm
            · rw [List.getElem?_eq_none (by simp only [List.length_singleton]; omega)] at e; cases e
          subst hj'
          simp at e
          subst e
          exact hp
    · have hin : acc.length = n := by omega
      exact (W A hh).done _ _ _ (hin ▸ x2) fun h' tk hk => q2 _ _ ⟨hin, fun b o e => hk b o (nI b o e) (x3 b o e), x4⟩ fun o e => hk _ _ nS e
theorem lri_lister {h₀ h₁ : Heap} {I l : Nat} {vs : Array Value} (hne : l ≠ I) (hst : h₁.IsRevIter I l ((vs.size : Int) - 1)) (hl : h₁.IsList l vs) (hsm : vs.size < sizeLine) (up : Up h₀ h₁) (hI0 : h₀.get? I = none) :
    Lister prog w h₁ "list_reverseiterator" I vs.size (fun S acc h => acc.length ≤ vs.size ∧ (acc.length ≤ vs.size ∧ h.IsRevIter I l ((vs.size : Int) - 1 - (acc.length : Int)) ∧ h.IsList l vs) ∧ Up h₀ h ∧ ∀ (j : Nat) v, acc[j]? = some v → vs[vs.size - 1 - j]? = some v)
      (fun acc h => acc.length = vs.size ∧ Up h₀ h ∧ ∀ (j : Nat) v, acc[j]? = some v → vs[vs.size - 1 - j]? = some v) :=
  walk_lister (St := fun i h => i ≤ vs.size ∧ h.IsRevIter I l ((vs.size : Int) - 1 - (i : Int)) ∧ h.IsList l vs) ⟨by decide, by decide, by decide⟩ (fun A hh => Walks.listRev hh I l hne vs) (fun i h x => by obtain ⟨o, e, c, r⟩ := x.2.1; exact ⟨o, e, c⟩)
    ⟨Nat.zero_le _, by simpa using hst, hl⟩ (fun b hb => by
      simp only [List.mem_cons, List.not_mem_nil, or_false] at hb
      rcases hb with rfl | rfl
      · obtain ⟨o, e, _⟩ := hst; exact ⟨o, e⟩
      · obtain ⟨o, e, _⟩ := hl; exact ⟨o, e⟩) hsm up hI0 fun A s Q E hh x q => by
    have hT : s.TypeIs (.ref I) "list_reverseiterator" := by obtain ⟨o, e, c, r⟩ := x.2.1; exact ⟨o, e, c⟩
    unfold Builtin.List.listLengthHint
    refine wpAny_bind (wpAny_specialOf hT lri_no_len ?_)
    show wpAny _ _ (specialOf (Value.ref I) (Str.ofString "__length_hint__") >>= _) _ _ _
    refine wpAny_bind (wpAny_specialOf hT lri_hint ?_)
    generalize hid : ("list_reverseiterator.__length_hint__" : String) = id0
    wp_delta
    rw [show splitId id0 = some ("list_reverseiterator", "__length_hint__") from by subst hid; decide +kernel]
    subst hid
    refine wpAny_bind (wpAny_isInstance (b := true) hT (by rw [isSubtype_type]; kernel_rfl) ?_)
    exact wpAny_pure (q false s.toks)
end

/-! part Fq10 -/

theorem slot_rev_init : Slot "reversed" "__init__" "object.__init__" :=
  .of (owner := "object") (n := "__init__") (by rw [typeLookup_type, builtinLookup_eq_fast]; kernel_rfl) (by decide +kernel) (by decide +kernel) (by decide +kernel)
    (by first | exact .inl (by decide +kernel) | exact .inr (by decide +kernel)) (by rw [isSubtype_type]; kernel_rfl)
theorem slot_rev_iter : Slot "reversed" "__iter__" "reversed.__iter__" :=
  .of (owner := "reversed") (n := "__iter__") (by rw [typeLookup_type, builtinLookup_eq_fast]; kernel_rfl) (by decide +kernel) (by decide +kernel) (by decide +kernel)
    (by first | exact .inl (by decide +kernel) | exact .inr (by decide +kernel)) (by rw [isSubtype_type]; kernel_rfl)
theorem slot_rev_next : Slot "reversed" "__next__" "reversed.__next__" :=
  .of (owner := "reversed") (n := "__next__") (by rw [typeLookup_type, builtinLookup_eq_fast]; kernel_rfl) (by decide +kernel) (by decide +kernel) (by decide +kernel)
    (by first | exact .inl (by decide +kernel) | exact .inr (by decide +kernel)) (by rw [isSubtype_type]; kernel_rfl)
theorem slot_rev_hint : Slot "reversed" "__length_hint__" "reversed.__length_hint__" :=
  .of (owner := "reversed") (n := "__length_hint__") (by rw [typeLookup_type, builtinLookup_eq_fast]; kernel_rfl) (by decide +kernel) (by decide +kernel) (by decide +kernel)
    (by first | exact .inl (by decide +kernel) | exact .inr (by decide +kernel)) (by rw [isSubtype_type]; kernel_rfl)
theorem owner_rev : Manifest.owners.lookup (String.ofList ['d', 'e', 's', 'r', 'e', 'v', 'e', 'r'].reverse) = some Manifest.sig_reversed := by kernel_rfl
theorem args_rev_iter_1 (a : Value) : argsOk "reversed.__iter__" ⟨[a], []⟩ := by
  unfold argsOk; rw [signature?_of (id := "reversed.__iter__") (n := ['_', '_', 'r', 'e', 't', 'i', '_', '_']) (o := ['d', 'e', 's', 'r', 'e', 'v', 'e', 'r']) (by kernel_rfl) owner_rev]; kernel_rfl
theorem args_rev_next_1 (a : Value) : argsOk "reversed.__next__" ⟨[a], []⟩ := by
  unfold argsOk; rw [signature?_of (id := "reversed.__next__") (n := ['_', '_', 't', 'x', 'e', 'n', '_', '_']) (o := ['d', 'e', 's', 'r', 'e', 'v', 'e', 'r']) (by kernel_rfl) owner_rev]; kernel_rfl
theorem args_rev_hint_1 (a : Value) : argsOk "reversed.__length_hint__" ⟨[a], []⟩ := by
  unfold argsOk; rw [signature?_of (id := "reversed.__length_hint__") (n := ['_', '_', 't', 'n', 'i', 'h', '_', 'h', 't', 'g', 'n', 'e', 'l', '_', '_']) (o := ['d', 'e', 's', 'r', 'e', 'v', 'e', 'r']) (by kernel_rfl) owner_rev]; kernel_rfl
theorem entry_rev_next : entryFor table "reversed.__next__" = some Builtin.«reversed.__next__» := entryFor_of_tree (by kernel_rfl)
theorem entry_rev_hint : entryFor table "reversed.__length_hint__" = some Builtin.«reversed.__length_hint__» := entryFor_of_tree (by kernel_rfl)
theorem entry_rev_iter : entryFor table "reversed.__iter__" = some Builtin.«dict_keyiterator.__iter__» :=
  entryFor_alias (id' := "dict_keyiterator.__iter__") (by kernel_rfl) (by first | rfl | decide +kernel | (unfold String.splitOn; simp +decide [String.splitOnAux])) (by decide +kernel) (by kernel_rfl)
theorem called_rev : TypeCalled "reversed" "reversed.__new__" "object.__init__" :=
  ⟨by decide +kernel, F.create_reversed, ⟨_, _, F.mro_reversed⟩, F.made_reversed, F.plain_reversed_new, F.sub_reversed_self, slot_rev_init⟩
theorem str_no_rev : typeLookup (.type "str") "__reversed__" = pure none := by rw [typeLookup_type, builtinLookup_eq_fast]; kernel_rfl
theorem rev_no_len : typeLookup (.type "reversed") "__len__" = pure none := by rw [typeLookup_type, builtinLookup_eq_fast]; kernel_rfl
theorem str_no_dict : isSubtype (.type "str") (.type "dict") = pure false := by rw [isSubtype_type]; kernel_rfl

abbrev IsRevS (h : Heap) (I : Nat) (x : Str) (t : Tok) (i : Int) : Prop := h.get? I = some { cls := .type "reversed", dict := none, data := .fields #[.str x t, rawInt i], slots := #[] }
section
variable {prog : Program} {w : World} {A : Around} {E : Value → Shared → Prop} {s : Shared} {x : Str} {t : Tok}
theorem rev_new {Q : Value → Shared → Prop} (hx : (x.length : Int) < 2 ^ 63)
    (q : ∀ h' tk (I : Nat), s.heap.get? I = none → Up s.heap h' → IsRevS h' I x t ((x.length : Int) - 1) → Q (.ref I) { s with heap := h', toks := tk }) :
    wpAny (model prog w) A (Builtin.«reversed.__new__» ⟨[.type "reversed", .str x t], []⟩) (fun fin s' => ∃ v, fin = .done (.ret v) ∧ Q v s') E s := by
  unfold Builtin.«reversed.__new__»
  refine wpAny_bind (wpAny_of_eq (newClass_reversed _) ?_)
  try dsimp only
  refine wpAny_bind (wpAny_of_eq (a := ()) (by first | rfl | kernel_rfl) ?_)
  refine wpAny_bind (wpAny_of_eq (a := ()) (by first | rfl | kernel_rfl) ?_)
  try dsimp only
  refine wpAny_bind (wpAny_specialOf (typeIs_str s x t) str_no_rev ?_)
  try dsimp only
  refine wpAny_bind ?_
  show wpAny _ _ (isInstance (.str x t) (.type "dict") >>= _) _ _ _
  refine wpAny_bind (wpAny_isInstance (T := "str") (v := .str x t) (b := false) rfl str_no_dict ?_)
  simp only [Bool.false_eq_true, if_false]
  refine wpAny_bind (wpAny_specialOf (typeIs_str s x t) F.slot_str_getitem.lookup ?_)
  refine wpAny_pure ?_
  rw [if_neg (by decide)]
  refine wpAny_bind (PyProof.Rows.len_str (by omega) ?_)
  refine wpAny_bind (m := asInt? _) (wpAny_pure ?_)
  dsimp only
  refine wpAny_bind ?_
  unfold Builtin.SmallTypes.newRecord
  refine wpAny_newObj_type ?_ (by show 2 ≤ _; decide)
  exact wpAny_pure ⟨_, rfl, q _ _ _ (none_size _) (fun b o e => Heap.get?_push_of_some _ e) (Heap.get?_push_size _ rfl)⟩
theorem call_reversed_str {Q : Value → Shared → Prop} (hx : (x.length : Int) < 2 ^ 63)
    (q : ∀ h' tk (I : Nat), s.heap.get? I = none → Up s.heap h' → IsRevS h' I x t ((x.length : Int) - 1) → Q (.ref I) { s with heap := h', toks := tk }) :
    wpAny (model prog w) A (call (.type "reversed") [.str x t]) Q E s := by
  refine callType_newIn called_rev (by decide) (F.typeCall_reversed_1 _) (F.newCall_reversed_1 _) (fun obj => F.args_object_init_2 obj _) F.entry_reversed_new
    (MeetsIn.of_wp (S := fun A R s => wpAny (model prog w) A.in1 (Builtin.«reversed.__new__» ⟨[.type "reversed", .str x t], []⟩) (fun fin s' => ∃ v, fin = .done (.ret v) ∧ R (.ok (.ret v)) s') (fun e s' => R (.error e) s') s) fun A R s h => h) ?_
  exact rev_new hx fun h' tk I a b c => ⟨⟨_, c, rfl⟩, q h' tk I a b c⟩
theorem rev_next_item {I : Nat} {i : Nat} {c : Nat} {Q : Option Value → Shared → Prop} (hI : IsRevS s.heap I x t (i : Int)) (hc : x.cps[i]? = some c) (hx : (x.length : Int) < 2 ^ 63)
    (q : ∀ h' tk u, IsRevS h' I x t ((i : Int) - 1) → Heap.SameBut I s.heap h' → Q (some (.str ⟨#[c]⟩ u)) { s with heap := h', toks := tk }) : wpAny (model prog w) A (pyNext (.ref I)) Q E s := by
  have hT : s.TypeIs (.ref I) "reversed" := ⟨_, hI, rfl⟩
  have hlt : i < x.length := by
    rcases Nat.lt_or_ge i x.cps.size with z | z
    · exact z
    · rw [Array.getElem?_eq_none z] at hc; cases hc
  unfold pyNext
  refine wpAny_bind (wpAny_attempt (wpAny_callSpecial?_slot (name := Str.ofString "__next__") hT slot_rev_next
    (wpAny_call_entry slot_rev_next hT entry_rev_next ?_ (args_rev_next_1 _))))
  unfold Builtin.«reversed.__next__»
  refine wpAny_bind (wpAny_of_eq (a := (Value.ref I, [])) rfl ?_)
  try dsimp only
  refine wpAny_bind (wpAny_field hI rfl (x := .str x t) rfl ?_)
  refine wpAny_bind (wpAny_field hI rfl (x := rawInt (i : Int)) rfl ?_)
  show wpAny _ _ (if (i : Int) < 0 then _ else _) _ _ s
  rw [if_neg (by omega)]
  refine wpAny_bind (wpAny_specialOf (typeIs_str s x t) F.slot_str_getitem.lookup ?_)
  simp only [Option.isNone_some, Bool.false_eq_true, if_false]
  refine wpAny_bind (wpAny_mkInt ?_)
  refine wpAny_bind (wpAny_attempt ?_)
  refine PySem.P.getItem_str (c := c) ?_ ?_ ?_
  · rw [Bool.or_eq_false_iff]; exact ⟨decide_eq_false (by omega), decide_eq_false (by omega)⟩
  · have h1 : ¬ ((i : Int) < 0) := by omega
    have h2 : (0 : Int) ≤ i ∧ (i : Int) < x.length := ⟨by omega, by omega⟩
    simp [seqIndex?, h1, h2, hc]
  · dsimp only
    refine wpAny_bind (wpAny_field hI rfl (x := rawInt (i : Int)) rfl ?_)
    refine wpAny_bind (wpAny_setField_rec hI (by simp) fun h' hz hs => ?_)
    exact wpAny_pure ⟨_, rfl, wpAny_pure (q h' _ _ hz hs)⟩
theorem rev_next_end {I : Nat} {Q : Option Value → Shared → Prop} (hh : A.handled = none) (hI : IsRevS s.heap I x t (-1))
    (q : ∀ h' tk, Heap.ExtBut I s.heap h' → Q none { s with heap := h', toks := tk }) : wpAny (model prog w) A (pyNext (.ref I)) Q E s := by
  have hT : s.TypeIs (.ref I) "reversed" := ⟨_, hI, rfl⟩
  unfold pyNext
  refine wpAny_bind (wpAny_attempt (wpAny_callSpecial?_slot (name := Str.ofString "__next__") hT slot_rev_next
    (wpAny_call_entry slot_rev_next hT entry_rev_next ?_ (args_rev_next_1 _))))
  unfold Builtin.«reversed.__next__»
  refine wpAny_bind (wpAny_of_eq (a := (Value.ref I, [])) rfl ?_)
  try dsimp only
  refine wpAny_bind (wpAny_field hI rfl (x := .str x t) rfl ?_)
  refine wpAny_bind (wpAny_field hI rfl (x := rawInt (-1)) rfl ?_)
  show wpAny _ _ (if (-1 : Int) < 0 then _ else _) _ _ s
  rw [if_pos (by decide)]
  refine wpAny_bind (wpAny_rule ?_)
  refine wpAny_bind ?_
  show wpAny _ _ (setField (.ref I) 1 (rawInt (-1)) >>= fun _ => setField (.ref I) 0 .none) _ _ _
  refine wpAny_bind (wpAny_setField_rec hI (by simp) fun h₁ hz₁ hs₁ => ?_)
  replace hz₁ : IsRevS h₁ I x t (-1) := hz₁
  refine wpAny_setField_rec hz₁ (by simp) fun h₂ hz₂ hs₂ => ?_
  first
  | show wpAny _ _ (newExc (.type "StopIteration") [] >>= _) _ _ _
  | (refine wpAny_bind ?_; show wpAny _ _ (newExc (.type "StopIteration") [] >>= _) _ _ _)
  refine wpAny_bind ?_
  simp only [newExc, newTuple]
  refine wpAny_bind (wpAny_newObj_type ?_ (by size_fits))
  refine wpAny_bind (m := firstArgMember _ _) (wpAny_of_eq (a := Value.none) (by first | rfl | (simp only [firstArgMember]; rfl)) ?_)
  refine wpAny_newObj_type ?_ (by size_fits)
  simp only [raiseNew]
  refine wpAny_bind (wpAny_handled ?_)
  first | rw [show A.in1.handled = none from hh] | rw [hh]
  refine wpAny_bind (wpAny_pure (wpAny_throw ?_))
  refine wpAny_bind (wpAny_isInstance (T := "StopIteration") (b := true) ⟨_, Heap.get?_push_size _ rfl, rfl⟩ isSubtype_stop ?_)
  exact wpAny_pure (q _ _ (((hs₁.extBut.trans hs₂.extBut).push _).push _))
theorem rev_iter {I : Nat} {i : Int} {Q : Value → Shared → Prop} (hI : IsRevS s.heap I x t i) (h : Q (.ref I) s) : wpAny (model prog w) A (pyIter (.ref I)) Q E s := by
  have hT : s.TypeIs (.ref I) "reversed" := ⟨_, hI, rfl⟩
  refine wpAny_pyIter_slot hT slot_rev_iter (wpAny_call_entry slot_rev_iter hT entry_rev_iter ?_ (args_rev_iter_1 _))
  show wpAny _ _ (ret (.ref I)) _ _ s
  exact wpAny_pure ⟨_, rfl, "reversed", _, hT, slot_rev_next.lookup, h⟩
theorem walks_revS (hh : A.handled = none) (I : Nat) (hx : (x.length : Int) < 2 ^ 63) :
    Walks prog w A I [I] [I] x.cps.size (fun i v => SignAt x (x.cps.size - 1 - i) v) (fun i h => i ≤ x.cps.size ∧ IsRevS h I x t ((x.length : Int) - 1 - (i : Int))) where
  sub := fun b hb => hb
  frame := fun _ _ _ y hk => ⟨y.1, hk I (by simp) _ y.2⟩
  item := fun i s Q E hi y hQ => by
    have hlen : x.length = x.cps.size := rfl
    have e : (x.length : Int) - 1 - (i : Int) = ((x.cps.size - 1 - i : Nat) : Int) := by omega
    have hit := y.2
    rw [e] at hit
    have hc : x.cps[x.cps.size - 1 - i]? = some (x.cps[x.cps.size - 1 - i]'(by omega)) := Array.getElem?_eq_getElem (by omega)
    refine rev_next_item hit hc hx fun h' tk u hit' hs' => ?_
    have e2 : ((x.cps.size - 1 - i : Nat) : Int) - 1 = (x.length : Int) - 1 - ((i + 1 : Nat) : Int) := by omega
    rw [e2] at hit'
    exact hQ _ h' tk ⟨_, u, hc, rfl⟩ ⟨hi, hit'⟩ fun b o hb eo => hs'.extBut b o (fun h => hb (by simp [h])) eo
  done := fun s Q E y hQ => by
    have hlen : x.length = x.cps.size := rfl
    have e : (x.length : Int) - 1 - (x.cps.size : Int) = -1 := by omega
    have hit := y.2
    rw [e] at hit
    exact rev_next_end hh hit fun h' tk he' => hQ h' tk fun b o hb eo => he' b o (fun h => hb (by simp [h])) eo
  self := fun _ _ _ _ y hQ => rev_iter y.2 hQ
theorem revs_lister {h₀ h₁ : Heap} {I : Nat} (hst : IsRevS h₁ I x t ((x.length : Int) - 1)) (hsm : x.cps.size < sizeLine) (up : Up h₀ h₁) (hI0 : h₀.get? I = none) :
    Lister prog w h₁ "reversed" I x.cps.size (fun S acc h => acc.length ≤ x.cps.size ∧ (acc.length ≤ x.cps.size ∧ IsRevS h I x t ((x.length : Int) - 1 - (acc.length : Int))) ∧ Up h₀ h ∧ ∀ (j : Nat) v, acc[j]? = some v → SignAt x (x.cps.size - 1 - j) v)
      (fun acc h => acc.length = x.cps.size ∧ Up h₀ h ∧ ∀ (j : Nat) v, acc[j]? = some v → SignAt x (x.cps.size - 1 - j) v) := by
  have hlen : x.length = x.cps.size := rfl
  have hx : (x.length : Int) < 2 ^ 63 := by have : sizeLine = 2 ^ 24 := rfl; omega
  refine walk_lister (St := fun i h => i ≤ x.cps.size ∧ IsRevS h I x t ((x.length : Int) - 1 - (i : Int))) ⟨by decide, by decide, by decide⟩ (fun A hh => walks_revS hh I hx) (fun i h y => ⟨_, y.2, rfl⟩)
    ⟨Nat.zero_le _, by simpa using hst⟩ (fun b hb => by rw [List.mem_singleton.mp hb]; exact ⟨_, hst⟩) hsm up hI0 fun A s Q E hh y q => ?_
  have hT : s.TypeIs (.ref I) "reversed" := ⟨_, y.2, rfl⟩
  unfold Builtin.List.listLengthHint
  refine wpAny_bind (wpAny_specialOf hT rev_no_len ?_)
  show wpAny _ _ (specialOf (Value.ref I) (Str.ofString "__length_hint__") >>= _) _ _ _
  refine wpAny_bind (wpAny_specialOf hT slot_rev_hint.lookup ?_)
  generalize hid : ("reversed.__length_hint__" : String) = id0
  wp_delta
  rw [show splitId id0 = some ("reversed", "__length_hint__") from by subst hid; decide +kernel]
  subst hid
  refine wpAny_bind (wpAny_isInstance (b := true) hT (by rw [isSubtype_type]; kernel_rfl) ?_)
  refine wpAny_ite_split (fun hab => absurd hab (by decide)) (fun _ => ?_)
  refine wpAny_ite_split (fun hab => absurd hab (by decide +kernel)) (fun _ => ?_)
  refine wpAny_bind (wpAny_rule ?_)
  refine wpAny_bind (wpAny_of_eq (slot_rev_hint.bind _) ?_)
  dsimp only
  refine wpAny_bind (wpAny_attempt (wpAny_call_entry slot_rev_hint hT entry_rev_hint ?_ (args_rev_hint_1 _)))
  unfold Builtin.«reversed.__length_hint__»
  refine wpAny_bind (wpAny_of_eq (a := Value.ref I) rfl ?_)
  refine wpAny_bind (wpAny_field y.2 rfl (x := .str x t) rfl ?_)
  show wpAny _ _ (if (Value.str x t == Value.none) = true then _ else _) _ _ _
  rw [if_neg (show ¬ ((Value.str x t == Value.none) = true) from Bool.false_ne_true)]
  refine wpAny_bind (PyProof.Rows.len_str (by omega) ?_)
  refine wpAny_bind (m := asInt? _) (wpAny_pure ?_)
  dsimp only
  have hy0 := y.2
  rw [show (x.length : Int) - 1 - ((0 : Nat) : Int) = (x.length : Int) - 1 from by omega] at hy0
  refine wpAny_bind (wpAny_field hy0 rfl (x := rawInt ((x.length : Int) - 1)) rfl ?_)
  show wpAny _ _ (if (x.length : Int) < (x.length : Int) - 1 + 1 then _ else _) _ _ _
  rw [if_neg (by omega)]
  refine wpAny_bind (wpAny_mkInt (wpAny_pure ⟨_, rfl, ?_⟩))
  dsimp only
  have hs24 : sizeLine = 2 ^ 24 := rfl
  refine wpAny_bind (m := asInt? _) (wpAny_pure ?_)
  dsimp only
  rw [show (x.length : Int) - 1 + 1 = (x.length : Int) from by omega]
  have f1 : Builtin.List.listFitsIndex (x.length : Int) = true := by
    unfold Builtin.List.listFitsIndex
    rw [Bool.and_eq_true]; exact ⟨decide_eq_true (by omega), decide_eq_true (by omega)⟩
  have f2 : Builtin.List.listTooLong (x.length : Int).toNat = false := decide_eq_false (by omega)
  rw [if_neg (by rw [f1]; decide), if_neg (by omega), if_neg (by rw [f2]; decide)]
  exact wpAny_pure (q _ _)
end

/-! part Fq11 -/

/-- e makes an iterator z -/
def Makes (M : Model) (A : Around) (h : Heap) (t : Sem Value) (K : Shared → Nat → Shared → Prop) : Prop :=
  ∀ (Q : Value → Shared → Prop) (E : Value → Shared → Prop) (s : Shared), Up h s.heap → (∀ s₁ z, Keeps s s₁ → K s z s₁ → Q (.ref z) s₁) → wpAny M A t Q E s

section
variable {prog : Program} {w : World} {A : Around} {h : Heap} {env : Env} {pos : Pos}
/-- one argument, which is an iterator just made -/
theorem call_made {f : Value} {e : Expr} {K : Shared → Nat → Shared → Prop} {E : Value → Shared → Prop} {Q : Value → Shared → Prop} {s : Shared} (hk : Kept (model prog w) h f) (m : Makes (model prog w) A h (eval e env) K) (k : Up h s.heap)
    (q : ∀ s₁ z, Keeps s s₁ → K s z s₁ → wpAny (model prog w) A (call f [.ref z] []) Q E s₁)
    (he : backTo pos (starEach [e] env) = [(false, eval e env)] := by rfl) : wpAny (model prog w) A (callWith pos f [] (backTo pos (starEach [e] env)) []) Q E s := by
  rw [he]
  exact callWith_of (P := fun h' => Up h h') rfl (fun h' u => hk.up u) (evalArgs_flat rfl (Calls.spliced_cons (m _ E s k fun s₁ z ks hK => wpAny_pure ⟨fun b o e => keeps_up ks b o (k b o e), q s₁ z ks hK⟩)))

/-- what list() gathers -/
def Listed (prog : Program) (w : World) (h : Heap) (P : Value → Heap → Prop) (s : Shared) (z : Nat) (s₁ : Shared) : Prop :=
  ∃ T n Inv Fn, Lister prog w s₁.heap T z n Inv Fn ∧ ∀ acc h', Fn acc h' → Up s.heap h' ∧ ∀ (R : Nat) g, Up h g → Up g h' → (∀ b o, h'.get? b = some o → s.heap.get? b = none → g.get? b = some o) → g.IsList R (List.toArray acc) → P (.ref R) g
theorem gv_list_of {e : Expr} {p : Pos} {P : Value → Heap → Prop} (hh : A.handled = none) (hn : Looks (model prog w) h (loadName env "list") (.type "list")) (m : Makes (model prog w) A h (eval e env) (Listed prog w h P))
    (he : backTo pos (starEach [e] env) = [(false, eval e env)] := by rfl)
    (he' : eval (.Call (.Name "list" p) [e] [] pos) env = (do callWith pos (← eval (.Name "list" p) env) [] (backTo pos (starEach [e] env)) (backToKw pos (keywordEach [] env))) := by rfl) :
    Gives (model prog w) A h (eval (.Call (.Name "list" p) [e] [] pos) env) P := gives_of fun Q E s k q => by
  refine Call_ (wpAny_Name (hn A _ E s k ?_) (by decide)) he'
  refine call_made kept_type m k (fun s₁ z ks ⟨T, n, Inv, Fn, W, hF⟩ => ?_) he
  refine call_list_lister W hh fun h' tk acc S c hS0 hS hf => ?_
  obtain ⟨up, hP⟩ := hF acc h' hf
  refine q _ _ (by obtain ⟨_, _, rfl, _⟩ := ks; exact ⟨h', tk, rfl, up⟩) fun g ug lg ng => hP S g ug lg ng ⟨_, ng _ _ hS ?_, rfl, c, rfl⟩
  cases z : s.heap.get? S with
  | none => rfl
  | some o => rw [keeps_up ks S o z] at hS0; cases hS0

/-- a zip made -/
def Zipped (prog : Program) (w : World) (h : Heap) (C : List (Nat × (Nat → Value → Prop)) → Heap → Prop) (s : Shared) (z : Nat) (s₁ : Shared) : Prop :=
  ∃ (g gs : Heap) (s₂ : Shared) (sp : List (Nat × (Nat → Value → Prop))) (ks : List (Cu prog w)) (TI TO : Nat), Ran h g s s₂ ∧ Up gs g ∧ C sp gs ∧ ks.map (fun c => (c.n, c.P)) = sp ∧ Keeps s₂ s₁ ∧ s₂.heap.get? z = none ∧ s₂.heap.get? TO = none ∧ s₂.heap.get? TI = none ∧ (∀ c ∈ ks, s₂.heap.get? c.I = none) ∧
    (∀ c ∈ ks, ∀ (b : Nat), b ∈ c.fp → b = c.I ∨ ∃ o, gs.get? b = some o) ∧ ZApart z TI TO ks ∧ ZSt s₁.heap z TI TO ks 0 ∧ ks ≠ []
theorem makes_zip {e : Expr} {p p' : Pos} {C : List (Nat × (Nat → Value → Prop)) → Heap → Prop} (hn : Looks (model prog w) h (loadName env "zip") (.type "zip"))
    (x : Gives (model prog w) A h (eval e env) fun v g => Starred (model prog w) A g v fun vs g' => ∃ sp gs, Up gs g' ∧ Paired (fun v p => Src gs v p.1 p.2) vs sp ∧ vs.length ≤ 4 ∧ vs ≠ [] ∧ C sp gs)
    (he : starEach [.Starred e p'] env = [(true, eval e env)] := by rfl)
    (he' : eval (.Call (.Name "zip" p) [.Starred e p'] [] pos) env = (do callWith pos (← eval (.Name "zip" p) env) [] (backTo pos (starEach [.Starred e p'] env)) (backToKw pos (keywordEach [] env))) := by rfl) :
    Makes (model prog w) A h (eval (.Call (.Name "zip" p) [.Starred e p'] [] pos) env) (Zipped prog w h C) := fun Q E s k q => by
  refine Call_ (wpAny_Name (hn A _ E s k ?_) (by decide)) he'
  rw [he]
  refine ks_call (P := fun h' => Up h h') rfl (fun h' u => kept_type.up u) (ks_lone (x _ E s k fun v s₁ g r y => y _ E s₁ r.low fun b s₂ g' r' z => ⟨z.1, z.2 _ E s₂ r'.low fun vs s₃ g'' r'' u =>
    ⟨fun b o e => r''.low b o (r''.up b o (r'.up b o (r.up b o e))), ?_⟩⟩))
  obtain ⟨sp, gs, ugs, hp, h4, hne, hC⟩ := u
  refine zip_call hp (fun b o e => r''.low b o (ugs b o e)) h4 hne fun ks z TI TO h' a1 a2 a3 a4 a5 a6 a7 a8 a9 => ?_
  have rr := (r.trans r').trans r''
  have kk : Keeps s₃ { s₃ with heap := h' } := ⟨h', s₃.toks, rfl, a2⟩
  refine q _ z (keeps_trans rr.keeps kk) ⟨g'', gs, s₃, sp, ks, TI, TO, rr, ugs, hC, a1, kk, a3, a4, a7, a5, a6, a8, a9, fun hks => ?_⟩
  subst hks
  subst a1
  cases vs with
  | nil => exact hne rfl
  | cons _ _ => cases hp
theorem listed_zip {C : List (Nat × (Nat → Value → Prop)) → Heap → Prop} {P : Value → Heap → Prop} {s : Shared} {z : Nat} {s₁ : Shared} (y : Zipped prog w h C s z s₁)
    (hC : ∀ sp g, C sp g → ∃ n, n < sizeLine ∧ (∀ p ∈ sp, n ≤ p.1) ∧ (∃ p ∈ sp, p.1 = n) ∧ ∀ (R : Nat) ts g', Up g g' → g'.IsList R (List.toArray ts) → ts.length = n →
      (∀ (j : Nat) t, ts[j]? = some t → ∃ (T : Nat) (vs : List Value), t = .ref T ∧ g'.IsTuple T (List.toArray vs) ∧ Paired (fun p v => p.2 j v) sp vs) → P (.ref R) g') : Listed prog w h P s z s₁ := by
  obtain ⟨gz, g, s₂, sp, ks, TI, TO, rr, ugz, hc, hks, kk, n1, n2, n3, n4, hfp, D, st, hne⟩ := y
  obtain ⟨n, hsm, hle, hex, hP⟩ := hC sp g hc
  subst hks
  have up : Up s₂.heap s₁.heap := keeps_up kk
  refine ⟨"zip", n, _, _, zip_lister (h₀ := s₂.heap) D hne ⟨fun c hc => hle _ (List.mem_map_of_mem hc), ?_⟩ hsm up n1 n2 n4 (fun c hc b hb => ?_) st, fun acc h' hF => ⟨fun b o e => hF.2.1 b o (keeps_up rr.keeps b o e), fun R g' ug lg ng hR => ?_⟩⟩
  · obtain ⟨p, hp, e⟩ := hex
    obtain ⟨c, hc, rfl⟩ := List.mem_map.mp hp
    exact ⟨c, hc, e⟩
  · rcases hfp c hc b hb with rfl | ⟨o, e⟩
    · exact c.ok.look _ _ (st.sts c hc)
    · exact ⟨o, up b o (rr.low b o (ugz b o e))⟩
  · have ugg : Up g g' := fun b o e => by
      rcases rr.new b o (ugz b o e) with e1 | e1
      · exact ug b o e1
      · exact ng b o (hF.2.1 b o (rr.low b o (ugz b o e))) e1
    refine hP R acc g' ugg hR hF.1 fun j t e => ?_
    obtain ⟨T, vs, a1, ⟨o, a2, a2'⟩, a3, a4⟩ := hF.2.2 j t e
    refine ⟨T, vs, a1, ⟨o, ng T o a2 ?_, a2'⟩, ?_⟩
    · cases z : s.heap.get? T with
      | none => rfl
      | some o => rw [keeps_up rr.keeps T o z] at a4; cases a4
    · clear hle hex hP hC hc n4 hfp D st hne hF a1 a2 a2' e ugz
      induction a3 with
      | nil => exact .nil
      | cons x _ ih => exact .cons x ih

/-- reversed(e), of a list or of a text -/
def Reversed (prog : Program) (w : World) (h : Heap) (C : Value → Heap → Prop) (s : Shared) (z : Nat) (s₁ : Shared) : Prop :=
  ∃ (g : Heap) (s₂ : Shared) (v : Value), Ran h g s s₂ ∧ C v g ∧ Keeps s₂ s₁ ∧ s₂.heap.get? z = none ∧
    ((∃ (a : Nat) (vs : List Value), v = .ref a ∧ g.IsList a (List.toArray vs) ∧ s₁.heap.IsRevIter z a ((vs.length : Int) - 1)) ∨ ∃ x t, v = .str x t ∧ IsRevS s₁.heap z x t ((x.length : Int) - 1))
theorem makes_rev {e : Expr} {p : Pos} {C : Value → Heap → Prop} (hn : Looks (model prog w) h (loadName env "reversed") (.type "reversed"))
    (x : Gives (model prog w) A h (eval e env) fun v g => C v g ∧ ((∃ (a : Nat) (vs : List Value), v = .ref a ∧ g.IsList a (List.toArray vs)) ∨ ∃ x t, v = .str x t ∧ (x.length : Int) < 2 ^ 63))
    (he : backTo pos (starEach [e] env) = [(false, eval e env)] := by rfl)
    (he' : eval (.Call (.Name "reversed" p) [e] [] pos) env = (do callWith pos (← eval (.Name "reversed" p) env) [] (backTo pos (starEach [e] env)) (backToKw pos (keywordEach [] env))) := by rfl) :
    Makes (model prog w) A h (eval (.Call (.Name "reversed" p) [e] [] pos) env) (Reversed prog w h C) := fun Q E s k q => by
  refine Call_ (wpAny_Name (hn A _ E s k ?_) (by decide)) he'
  rw [he]
  refine callWith_of (P := fun h' => Up h h') rfl (fun h' u => kept_type.up u) (evalArgs_flat rfl (Calls.spliced_cons (x _ E s k fun v s₂ g r y => wpAny_pure ⟨fun b o e => r.low b o (r.up b o e), ?_⟩)))
  rcases y with ⟨hC, ⟨a, vs, rfl, hl⟩ | ⟨x, t, rfl, hx⟩⟩
  · refine call_reversed_list (hl.at fun o e => r.low a o e) ?_
    have kk : Keeps s₂ { s₂ with heap := s₂.heap.push (revObj a ((vs.toArray.size : Int) - 1)) } := ⟨_, s₂.toks, rfl, fun b o e => Heap.get?_push_of_some _ e⟩
    refine q _ _ (keeps_trans r.keeps kk) ⟨g, s₂, _, r, hC, kk, none_size _, .inl ⟨a, vs, rfl, hl, ⟨_, Heap.get?_push_size _ rfl, rfl, ?_⟩⟩⟩
    simp [revObj]
  · refine call_reversed_str hx fun h' tk I hI up hR => ?_
    have kk : Keeps s₂ { s₂ with heap := h', toks := tk } := ⟨_, tk, rfl, up⟩
    exact q _ _ (keeps_trans r.keeps kk) ⟨g, s₂, _, r, hC, kk, hI, .inr ⟨x, t, rfl, hR⟩⟩
theorem listed_rev {C : Value → Heap → Prop} {P : Value → Heap → Prop} {s : Shared} {z : Nat} {s₁ : Shared} (y : Reversed prog w h C s z s₁)
    (hl : ∀ g (a : Nat) vs, C (.ref a) g → g.IsList a (List.toArray vs) → vs.length < sizeLine ∧ ∀ (R : Nat) g', Up g g' → g'.IsList R (List.toArray vs.reverse) → P (.ref R) g')
    (hs : ∀ g x t, C (.str x t) g → x.cps.size < sizeLine ∧ ∀ (R : Nat) ts g', Up g g' → g'.IsList R (List.toArray ts) → ts.length = x.cps.size → (∀ (j : Nat) t, ts[j]? = some t → SignAt x (x.cps.size - 1 - j) t) → P (.ref R) g') : Listed prog w h P s z s₁ := by
  obtain ⟨g, s₂, v, rr, hc, kk, n1, y⟩ := y
  have up : Up s₂.heap s₁.heap := keeps_up kk
  rcases y with ⟨a, vs, rfl, hg, hst⟩ | ⟨x, t, rfl, hst⟩
  · obtain ⟨hsm, hP⟩ := hl g a vs hc hg
    have hl₁ : s₁.heap.IsList a (List.toArray vs) := hg.at fun o e => up a o (rr.low a o e)
    have hne : a ≠ z := fun e => by subst e; obtain ⟨o, e1, _⟩ := hg; rw [rr.low a o e1] at n1; cases n1
    refine ⟨_, _, _, _, lri_lister (h₀ := s₂.heap) hne (by simpa using hst) hl₁ (by simpa using hsm) up n1, fun acc h' hF => ⟨fun b o e => hF.2.1 b o (keeps_up rr.keeps b o e), fun R g' ug lg ng hR => ?_⟩⟩
    have ugg : Up g g' := fun b o e => by
      rcases rr.new b o e with e1 | e1
      · exact ug b o e1
      · exact ng b o (hF.2.1 b o (rr.low b o e)) e1
    refine hP R g' ugg ?_
    have : acc = vs.reverse := by
      have h1 := hF.1
      have h2 := hF.2.2
      simp only [List.size_toArray, List.getElem?_toArray] at h1 h2
      refine List.ext_getElem? fun j => ?_
      by_cases hj : j < acc.length
      · rw [List.getElem?_reverse (by omega), h2 j _ (List.getElem?_eq_getElem hj), List.getElem?_eq_getElem hj]
      · rw [List.getElem?_eq_none (by omega), List.getElem?_eq_none (by rw [List.length_reverse]; omega)]
    rw [← this]; exact hR
  · obtain ⟨hsm, hP⟩ := hs g x t hc
    refine ⟨_, _, _, _, revs_lister (h₀ := s₂.heap) hst hsm up n1, fun acc h' hF => ⟨fun b o e => hF.2.1 b o (keeps_up rr.keeps b o e), fun R g' ug lg ng hR => ?_⟩⟩
    have ugg : Up g g' := fun b o e => by
      rcases rr.new b o e with e1 | e1
      · exact ug b o e1
      · exact ng b o (hF.2.1 b o (rr.low b o e)) e1
    exact hP R acc g' ugg hR hF.1 hF.2.2
end

/-! part Fq12 -/

theorem slot_map_init : Slot "map" "__init__" "object.__init__" :=
  .of (owner := "object") (n := "__init__") (by rw [typeLookup_type, builtinLookup_eq_fast]; kernel_rfl) (by decide +kernel) (by decide +kernel) (by decide +kernel)
    (by first | exact .inl (by decide +kernel) | exact .inr (by decide +kernel)) (by rw [isSubtype_type]; kernel_rfl)
theorem slot_map_iter : Slot "map" "__iter__" "map.__iter__" :=
  .of (owner := "map") (n := "__iter__") (by rw [typeLookup_type, builtinLookup_eq_fast]; kernel_rfl) (by decide +kernel) (by decide +kernel) (by decide +kernel)
    (by first | exact .inl (by decide +kernel) | exact .inr (by decide +kernel)) (by rw [isSubtype_type]; kernel_rfl)
theorem slot_map_next : Slot "map" "__next__" "map.__next__" :=
  .of (owner := "map") (n := "__next__") (by rw [typeLookup_type, builtinLookup_eq_fast]; kernel_rfl) (by decide +kernel) (by decide +kernel) (by decide +kernel)
    (by first | exact .inl (by decide +kernel) | exact .inr (by decide +kernel)) (by rw [isSubtype_type]; kernel_rfl)
theorem owner_map : Manifest.owners.lookup (String.ofList ['p', 'a', 'm'].reverse) = some Manifest.sig_map := by kernel_rfl
theorem args_map_iter_1 (a : Value) : argsOk "map.__iter__" ⟨[a], []⟩ := by
  unfold argsOk; rw [signature?_of (id := "map.__iter__") (n := ['_', '_', 'r', 'e', 't', 'i', '_', '_']) (o := ['p', 'a', 'm']) (by kernel_rfl) owner_map]; kernel_rfl
theorem args_map_next_1 (a : Value) : argsOk "map.__next__" ⟨[a], []⟩ := by
  unfold argsOk; rw [signature?_of (id := "map.__next__") (n := ['_', '_', 't', 'x', 'e', 'n', '_', '_']) (o := ['p', 'a', 'm']) (by kernel_rfl) owner_map]; kernel_rfl
theorem entry_map_next : entryFor table "map.__next__" = some Builtin.«map.__next__» := entryFor_of_tree (by kernel_rfl)
theorem entry_map_new : entryFor table "map.__new__" = some Builtin.«map.__new__» := entryFor_of_tree (by kernel_rfl)
theorem entry_map_iter : entryFor table "map.__iter__" = some Builtin.«dict_keyiterator.__iter__» :=
  entryFor_alias (id' := "dict_keyiterator.__iter__") (by kernel_rfl) (by first | rfl | decide +kernel | (unfold String.splitOn; simp +decide [String.splitOnAux])) (by decide +kernel) (by kernel_rfl)
theorem sub_map : isSubtype (.type "map") (.type "map") = pure true := by rw [isSubtype_type]; kernel_rfl
theorem mro_map : mroOf (.type "map") = pure [.type "map", .type "object"] := by rw [mroOf_type]; kernel_rfl
theorem lookup_map_new : typeLookup (.type "map") "__new__" = pure (some (.builtin "map.__new__")) := by rw [typeLookup_type, builtinLookup_eq_fast]; kernel_rfl
theorem called_map : TypeCalled "map" "map.__new__" "object.__init__" :=
  ⟨by decide +kernel, by decide +kernel, ⟨_, _, mro_map⟩, madeBy_type mro_map lookup_map_new (by decide +kernel), by decide +kernel, sub_map, slot_map_init⟩
theorem mTypeCall_2 (a b : Value) : checkTypeCall "map" ⟨[a, b], []⟩ = pure () := by kernel_rfl
theorem mNewCall_2 (a b : Value) : checkBuiltinCall "map.__new__" ⟨[.type "map", a, b], []⟩ = pure () := by kernel_rfl

def LenV (h : Heap) (v : Value) (n : Nat) : Prop := (∃ (b : Nat) (xs : Array Value), v = .ref b ∧ h.IsList b xs ∧ xs.size = n ∧ n < sizeLine) ∨ ∃ x t, v = .str x t ∧ x.length = n ∧ n < sizeLine
def refsOf (vs : List Value) : List Nat := vs.filterMap fun | .ref b => some b | _ => none
theorem LenV.at {h h' : Heap} {v : Value} {n : Nat} (x : LenV h v n) (k : ∀ (b : Nat) o, v = .ref b → h.get? b = some o → h'.get? b = some o) : LenV h' v n := by
  rcases x with ⟨b, xs, rfl, hl, r⟩ | y
  · exact .inl ⟨b, xs, rfl, hl.at fun o e => k b o rfl e, r⟩
  · exact .inr y
section
variable {prog : Program} {w : World} {A : Around} {E : Value → Shared → Prop} {s : Shared} {h : Heap}
theorem op_lenV {v : Value} {n : Nat} (x : LenV h v n) : Gives (model prog w) A h (call (.builtin "len") [v]) fun v g => IntV g v n := by
  have hs : sizeLine = 2 ^ 24 := rfl
  rcases x with ⟨b, xs, rfl, hl, rfl, hf⟩ | ⟨x, t, rfl, rfl, hf⟩
  · exact op_len_list hl (by omega)
  · exact op_len_str (by omega)

theorem nextOf_tuple_item {it t : Nat} {i : Nat} {items : Array Value} {x : Value} {Q : Value → Shared → Prop} (hit : s.heap.IsTupleIter it t i)
    (ht : s.heap.IsTuple t items) (hx : items[i]? = some x)
    (hQ : ∀ h', h'.IsTupleIter it t (i + 1) → Heap.SameBut it s.heap h' → Q x { s with heap := h' }) :
    wpAny (model prog w) A (Builtin.SmallTypes.nextOf (.ref it)) Q E s := by
  obtain ⟨o, ho, hc, hd⟩ := id hit
  obtain ⟨ol, hol, _, nl, hdl⟩ := ht
  unfold Builtin.SmallTypes.nextOf
  refine wpAny_bind (wpAny_callSpecial?_slot (name := Str.ofString "__next__") hit.typeIs F.slot_tuple_iterator_next
    (wpAny_call_entry F.slot_tuple_iterator_next hit.typeIs F.entry_tuple_iterator_next ?_ (F.args_tuple_iterator_next_1 _)))
  show wpAny _ _ (field (.ref it) 0 >>= _) _ _ s
  refine wpAny_bind (wpAny_field ho hd (x := .ref t) rfl ?_)
  show wpAny _ _ (if (Value.ref t == Value.none) = true then _ else _) _ _ s
  rw [if_neg (show ¬ ((Value.ref t == Value.none) = true) from Bool.false_ne_true)]
  show wpAny _ _ (field (.ref it) 1 >>= _) _ _ s
  refine wpAny_bind (wpAny_field ho hd (x := .int i 0) rfl ?_)
  show wpAny _ _ (seqItems? (.ref t) >>= _) _ _ s
  refine wpAny_bind (wpAny_seqItems hol hdl ?_)
  simp only [Int.toNat_natCast, hx]
  refine wpAny_bind (wpAny_setField ho hd (by simp) (wpAny_pure ⟨x, rfl, wpAny_pure (hQ _ ?_ (Heap.SameBut.update ..))⟩))
  exact ⟨_, Heap.get?_update_self _ ho (Obj.isFreed_of_fields (Obj.data_mapFields hd _)), (Obj.cls_mapFields ..).trans hc, by
    rw [Obj.data_mapFields hd]; simp [rawInt]⟩
theorem nextOf_tuple_end {it l : Nat} {i : Nat} {items : Array Value} {Q : Value → Shared → Prop} (hh : A.handled = none)
    (hit : s.heap.IsTupleIter it l i) (hl : s.heap.IsTuple l items) (hx : items[i]? = none)
    (hE : ∀ h' e, Heap.ExtBut it s.heap h' → (∃ o, h'.get? e = some o ∧ o.cls = .type "StopIteration") → E (.ref e) { s with heap := h' }) :
    wpAny (model prog w) A (Builtin.SmallTypes.nextOf (.ref it)) Q E s := by
  obtain ⟨o, ho, hc, hd⟩ := id hit
  obtain ⟨ol, hol, _, nl, hdl⟩ := hl
  unfold Builtin.SmallTypes.nextOf
  refine wpAny_bind (wpAny_callSpecial?_slot (name := Str.ofString "__next__") hit.typeIs F.slot_tuple_iterator_next
    (wpAny_call_entry F.slot_tuple_iterator_next hit.typeIs F.entry_tuple_iterator_next ?_ (F.args_tuple_iterator_next_1 _)))
  show wpAny _ _ (field (.ref it) 0 >>= _) _ _ s
  refine wpAny_bind (wpAny_field ho hd (x := .ref l) rfl ?_)
  show wpAny _ _ (if (Value.ref l == Value.none) = true then _ else _) _ _ s
  rw [if_neg (show ¬ ((Value.ref l == Value.none) = true) from Bool.false_ne_true)]
  show wpAny _ _ (field (.ref it) 1 >>= _) _ _ s
  refine wpAny_bind (wpAny_field ho hd (x := .int i 0) rfl ?_)
  show wpAny _ _ (seqItems? (.ref l) >>= _) _ _ s
  refine wpAny_bind (wpAny_seqItems hol hdl ?_)
  simp only [Int.toNat_natCast, hx]
  refine wpAny_bind (wpAny_rule (wpAny_bind (wpAny_setField ho hd (by simp) ?_)))
  show wpAny _ _ (newExc (.type "StopIteration") [] >>= _) _ _ _
  refine wpAny_bind ?_
  simp only [newExc, newTuple]
  refine wpAny_bind (wpAny_newObj_type ?_ (by size_fits))
  refine wpAny_bind (m := firstArgMember _ _) (wpAny_of_eq (a := Value.none) (by first | rfl | (simp only [firstArgMember]; rfl)) ?_)
  refine wpAny_newObj_type ?_ (by size_fits)
  simp only [raiseNew]
  refine wpAny_bind (wpAny_handled ?_)
  first | rw [show A.in1.handled = none from hh] | rw [hh]
  refine wpAny_bind (wpAny_pure (wpAny_throw ?_))
  exact hE _ _ (((Heap.SameBut.update ..).extBut.push _).push _) ⟨_, Heap.get?_push_size _ rfl, rfl⟩

/-- map(len, a) at its i-th turn -/
structure MapSt (z TI I a : Nat) (vs : List Value) (ns : List Nat) (i : Nat) (h : Heap) : Prop where
  le : i ≤ vs.length
  obj : h.get? z = some { cls := .type "map", dict := none, data := .fields #[.ref TI, .builtin "len"], slots := #[] }
  its : h.get? TI = some { cls := .type "tuple", data := .seq #[.ref I] }
  cur : h.IsTupleIter I a i
  tup : h.IsTuple a (List.toArray vs)
  lens : Paired (LenV h) vs ns
theorem MapSt.frame {z TI I a : Nat} {vs : List Value} {ns : List Nat} {i : Nat} {h h' : Heap} (x : MapSt z TI I a vs ns i h) (k : ∀ (b : Nat), b ∈ z :: TI :: I :: a :: refsOf vs → ∀ o, h.get? b = some o → h'.get? b = some o) : MapSt z TI I a vs ns i h' where
  le := x.le
  obj := k z (by simp) _ x.obj
  its := k TI (by simp) _ x.its
  cur := by obtain ⟨o, e, r⟩ := x.cur; exact ⟨o, k I (by simp) o e, r⟩
  tup := by obtain ⟨o, e, r⟩ := x.tup; exact ⟨o, k a (by simp) o e, r⟩
  lens := by
    have y := x.lens
    have kk : ∀ (b : Nat), b ∈ refsOf vs → ∀ o, h.get? b = some o → h'.get? b = some o := fun b hb => k b (by simp [hb])
    clear x k
    induction y with
    | nil => exact .nil
    | @cons v n l m hx hr ih =>
      refine .cons (hx.at fun b o e => kk b ?_ o) (ih fun b hb => kk b ?_)
      · subst e; simp [refsOf]
      · unfold refsOf at hb ⊢; rw [List.filterMap_cons]; split
        · exact hb
        · exact List.mem_cons_of_mem _ hb
theorem paired_at {α β : Type} {F : α → β → Prop} : ∀ {l : List α} {k : List β} (p : Paired F l k) (i : Nat) (a : α), l[i]? = some a → ∃ b, k[i]? = some b ∧ F a b
  | _, _, .nil, i, a, e => by simp at e
  | _, _, .cons x r, 0, a, e => by simp at e; subst e; exact ⟨_, by simp, x⟩
  | _, _, .cons x r, i + 1, a, e => by simp at e; simpa using paired_at r i a e
theorem walks_map (hh : A.handled = none) {z TI I a : Nat} {vs : List Value} {ns : List Nat} (hne : I ≠ z ∧ I ≠ TI ∧ I ≠ a ∧ I ∉ refsOf vs) :
    Walks prog w A z (z :: TI :: I :: a :: refsOf vs) [I] vs.length (fun i v => ∃ n t, ns[i]? = some n ∧ v = .int (n : Int) t) (MapSt z TI I a vs ns) where
  sub := fun b hb => by rw [List.mem_singleton.mp hb]; simp
  frame := fun i h h' x k => x.frame fun b hb o e => k b hb o e
  item := fun i s Q E hi x hQ => by
    have hT : s.TypeIs (.ref z) "map" := ⟨_, x.obj, rfl⟩
    unfold pyNext
    refine wpAny_bind (wpAny_attempt (wpAny_callSpecial?_slot (name := Str.ofString "__next__") hT slot_map_next
      (wpAny_call_entry slot_map_next hT entry_map_next ?_ (args_map_next_1 _))))
    unfold Builtin.«map.__next__»
    refine wpAny_bind (wpAny_of_eq (a := (Value.ref z, [])) rfl ?_)
    try dsimp only
    refine wpAny_bind (wpAny_field x.obj rfl (x := .ref TI) rfl ?_)
    refine wpAny_bind (wpAny_seqItems x.its rfl ?_)
    obtain ⟨v, hv⟩ : ∃ v, vs[i]? = some v := ⟨_, List.getElem?_eq_getElem hi⟩
    obtain ⟨n, hn, hlen⟩ := paired_at x.lens i v hv
    simp only [← Array.forIn_toList, List.forIn_cons, List.forIn_nil]
    refine wpAny_bind (wpAny_bind (wpAny_bind (wpAny_holding (nextOf_tuple_item x.cur x.tup (by simpa using hv) fun h₁ hc₁ hs₁ => ?_))))
    refine wpAny_pure (wpAny_pure ?_)
    have k₁ : ∀ (b : Nat) o, b ≠ I → s.heap.get? b = some o → h₁.get? b = some o := fun b o hb e => hs₁.extBut b o hb e
    refine wpAny_bind (wpAny_field (k₁ _ _ (Ne.symm hne.1) x.obj) rfl (x := .builtin "len") rfl ?_)
    have hx₁ : MapSt z TI I a vs ns (i + 1) h₁ := by
      have y : MapSt z TI I a vs ns i s.heap := x
      refine ⟨hi, k₁ _ _ (Ne.symm hne.1) x.obj, k₁ _ _ (Ne.symm hne.2.1) x.its, hc₁, by obtain ⟨o, e, r⟩ := x.tup; exact ⟨o, k₁ _ o (Ne.symm hne.2.2.1) e, r⟩, ?_⟩
      have z := x.lens
      have kk : ∀ (b : Nat), b ∈ refsOf vs → ∀ o, s.heap.get? b = some o → h₁.get? b = some o := fun b hb o => k₁ b o fun e => hne.2.2.2 (e ▸ hb)
      clear y x hv hn hlen hQ hi hc₁ hs₁ k₁ hne hT
      induction z with
      | nil => exact .nil
      | @cons v n l m hx hr ih =>
        refine .cons (hx.at fun b o e => kk b ?_ o) (ih fun b hb => kk b ?_)
        · subst e; simp [refsOf]
        · unfold refsOf at hb ⊢; rw [List.filterMap_cons]; split
          · exact hb
          · exact List.mem_cons_of_mem _ hb
    obtain ⟨n', hn', hlen'⟩ := paired_at hx₁.lens i v hv
    rw [hn] at hn'; cases hn'
    refine wpAny_bind (wpAny_holding ?_)
    refine (op_lenV hlen').run (fun r s₂ g ks up low hr => ?_)
    obtain ⟨t, rfl⟩ := hr
    obtain ⟨h₂, tk₂, rfl, k₂⟩ := ks
    refine wpAny_bind (wpAny_letGo ?_)
    refine wpAny_pure ⟨_, rfl, wpAny_pure (hQ _ h₂ tk₂ ⟨n, t, hn, rfl⟩ (hx₁.frame fun b hb o e => k₂ b o e) fun b o hb e => k₂ b o (k₁ b o (fun z => hb (by simp [z])) e))⟩
  done := fun s Q E x hQ => by
    have hT : s.TypeIs (.ref z) "map" := ⟨_, x.obj, rfl⟩
    unfold pyNext
    refine wpAny_bind (wpAny_attempt (wpAny_callSpecial?_slot (name := Str.ofString "__next__") hT slot_map_next
      (wpAny_call_entry slot_map_next hT entry_map_next ?_ (args_map_next_1 _))))
    unfold Builtin.«map.__next__»
    refine wpAny_bind (wpAny_of_eq (a := (Value.ref z, [])) rfl ?_)
    try dsimp only
    refine wpAny_bind (wpAny_field x.obj rfl (x := .ref TI) rfl ?_)
    refine wpAny_bind (wpAny_seqItems x.its rfl ?_)
    simp only [← Array.forIn_toList, List.forIn_cons, List.forIn_nil]
    refine wpAny_bind (wpAny_bind (wpAny_bind (wpAny_holding (nextOf_tuple_end (by first | exact hh) x.cur x.tup (by simp) fun h₁ e hs₁ he => ?_))))
    obtain ⟨o, ho, hc⟩ := he
    refine wpAny_bind (wpAny_isInstance (T := "StopIteration") (b := true) ⟨o, ho, hc⟩ isSubtype_stop ?_)
    exact wpAny_pure (hQ _ _ fun b o hb e => hs₁ b o (fun z => hb (by simp [z])) e)
  self := fun i s Q E x hQ => by
    have hT : s.TypeIs (.ref z) "map" := ⟨_, x.obj, rfl⟩
    refine wpAny_pyIter_slot hT slot_map_iter (wpAny_call_entry slot_map_iter hT entry_map_iter ?_ (args_map_iter_1 _))
    show wpAny _ _ (ret (.ref z)) _ _ s
    exact wpAny_pure ⟨_, rfl, "map", _, hT, slot_map_next.lookup, hQ⟩

theorem refs_lt {vs : List Value} {ns : List Nat} (hl : Paired (LenV h) vs ns) : ∀ (b : Nat), b ∈ refsOf vs → ∃ o, h.get? b = some o := fun b hb => by
  induction hl with
  | nil => simp [refsOf] at hb
  | @cons v n l m hx hr ih =>
    unfold refsOf at hb ih
    rw [List.filterMap_cons] at hb
    rcases hx with ⟨b', xs, rfl, hl', _⟩ | ⟨x, t, rfl, _⟩
    · rcases List.mem_cons.mp hb with rfl | hb
      · obtain ⟨o, e, _⟩ := hl'; exact ⟨o, e⟩
      · exact ih hb
    · exact ih hb
theorem map_new {a : Nat} {vs : List Value} {ns : List Nat} {Q : Value → Shared → Prop} (ht : h.IsTuple a (List.toArray vs)) (hl : Paired (LenV h) vs ns) (k : Up h s.heap)
    (q : ∀ h' (z TI I : Nat), Up s.heap h' → s.heap.get? z = none → s.heap.get? I = none → MapSt z TI I a vs ns 0 h' → (I ≠ z ∧ I ≠ TI ∧ I ≠ a ∧ I ∉ refsOf vs) → Q (.ref z) { s with heap := h' }) :
    wpAny (model prog w) A (Builtin.«map.__new__» ⟨[.type "map", .builtin "len", .ref a], []⟩) (fun fin s' => ∃ v, fin = .done (.ret v) ∧ Q v s') E s := by
  have ht' : s.heap.IsTuple a (List.toArray vs) := ht.at fun o e => k a o e
  unfold Builtin.«map.__new__»
  show wpAny _ _ ((isType (.type "map") >>= _) >>= _) _ _ _
  refine wpAny_bind (wpAny_bind (wpAny_of_eq (a := true) rfl ?_))
  show wpAny _ _ (isSubtype (.type "map") (.type "map") >>= _) _ _ _
  refine wpAny_bind (wpAny_of_eq (a := true) sub_map (wpAny_pure ?_))
  try dsimp only
  refine wpAny_bind (wpAny_of_eq (a := ()) (by first | rfl | kernel_rfl) ?_)
  show wpAny _ _ (Builtin.SmallTypes.iterAll [.ref a] >>= _) _ _ _
  refine wpAny_bind ?_
  unfold Builtin.SmallTypes.iterAll
  simp only [List.forIn_cons, List.forIn_nil]
  refine wpAny_bind (wpAny_bind (wpAny_bind (wpAny_holding (wpAny_pyIter_tuple ht' ?_))))
  refine wpAny_pure (wpAny_pure (wpAny_pure ?_))
  refine wpAny_bind (wpAny_newTuple ?_ (by show 1 ≤ _; decide))
  unfold Builtin.SmallTypes.newRecord
  refine wpAny_bind (wpAny_newObj_type ?_ (by show 2 ≤ _; decide))
  dsimp only
  generalize e1 : s.heap.objs.size = I
  generalize eh1 : s.heap.push _ = h1
  generalize e2 : h1.objs.size = TI
  generalize eh2 : h1.push _ = h2
  generalize e3 : h2.objs.size = z
  have s2 : TI = I + 1 := by rw [← e2, ← eh1, Heap.size_push, e1]
  have s3 : z = TI + 1 := by rw [← e3, ← eh2, Heap.size_push, e2]
  have n1 : ∀ (b : Nat), s.heap.objs.size ≤ b → s.heap.get? b = none := fun b hb => by
    cases e : s.heap.get? b with
    | none => rfl
    | some o => exact absurd (ltN e) (by omega)
  have upa : ∀ b o, s.heap.get? b = some o → (h2.push { cls := .type "map", data := .fields #[.ref TI, .builtin "len"] }).get? b = some o := fun b o e => Heap.get?_push_of_some _ (eh2 ▸ Heap.get?_push_of_some _ (eh1 ▸ Heap.get?_push_of_some _ e))
  have la : a < s.heap.objs.size := by obtain ⟨o, e, _⟩ := ht'; exact ltN e
  refine wpAny_pure ⟨_, rfl, q _ z TI I upa (n1 _ (by omega)) (n1 _ (by omega)) ⟨Nat.zero_le _, ?_, ?_, ?_, ht'.at fun o e => upa a o e, ?_⟩ ⟨by omega, by omega, by omega, fun hb => ?_⟩⟩
  · rw [← e3]; exact Heap.get?_push_size _ rfl
  · exact Heap.get?_push_of_some _ (eh2 ▸ e2 ▸ Heap.get?_push_size _ rfl)
  · exact ⟨_, Heap.get?_push_of_some _ (eh2 ▸ Heap.get?_push_of_some _ (eh1 ▸ e1 ▸ Heap.get?_push_size _ rfl)), rfl, rfl⟩
  · exact paired_mono (fun v n x => x.at fun b o _ e => upa b o (k b o e)) hl
  · have := refs_lt hl _ hb
    obtain ⟨o, e⟩ := this
    have := ltN (k _ o e); omega
theorem gv_max_map {env : Env} {pos pos' p p' p'' : Pos} {e : Expr} (hh : A.handled = none) (h1 : Looks (model prog w) h (loadName env "max") (.builtin "max")) (h2 : Looks (model prog w) h (loadName env "map") (.type "map")) (h3 : Looks (model prog w) h (loadName env "len") (.builtin "len"))
    {C : List Nat → Prop} (x : Gives (model prog w) A h (eval e env) fun v g => ∃ a vs ns, v = .ref a ∧ g.IsTuple a (List.toArray vs) ∧ Paired (LenV g) vs ns ∧ ns ≠ [] ∧ C ns)
    (he : backTo pos' (starEach [.Name "len" p'', e] env) = [(false, eval (.Name "len" p'') env), (false, eval e env)] := by rfl)
    (he' : eval (.Call (.Name "map" p') [.Name "len" p'', e] [] pos') env = (do callWith pos' (← eval (.Name "map" p') env) [] (backTo pos' (starEach [.Name "len" p'', e] env)) (backToKw pos' (keywordEach [] env))) := by rfl)
    (he'' : eval (.Call (.Name "max" p) [.Call (.Name "map" p') [.Name "len" p'', e] [] pos'] [] pos) env = (do callWith pos (← eval (.Name "max" p) env) [] (backTo pos (starEach [.Call (.Name "map" p') [.Name "len" p'', e] [] pos'] env)) (backToKw pos (keywordEach [] env))) := by rfl)
    (he3 : backTo pos (starEach [.Call (.Name "map" p') [.Name "len" p'', e] [] pos'] env) = [(false, eval (.Call (.Name "map" p') [.Name "len" p'', e] [] pos') env)] := by rfl) :
    Gives (model prog w) A h (eval (.Call (.Name "max" p) [.Call (.Name "map" p') [.Name "len" p'', e] [] pos'] [] pos) env) fun v _ => ∃ (m : Int) (ns : List Nat) (t : Tok), v = .int m t ∧ C ns ∧ (∃ n ∈ ns, (n : Int) = m) ∧ ∀ n ∈ ns, (n : Int) ≤ m := gives_flat fun Q E s k q => by
  refine Call_ (wpAny_Name (h1 A _ E s k ?_) (by decide)) he''
  refine call_made (K := fun s z s₁ => ∃ TI I a vs ns, s.heap.get? I = none ∧ MapSt z TI I a vs ns 0 s₁.heap ∧ (I ≠ z ∧ I ≠ TI ∧ I ≠ a ∧ I ∉ refsOf vs) ∧ ns ≠ [] ∧ C ns) kept_builtin (fun Q E s k q => ?_) k (fun s₁ z ks hK => ?_) he3
  · refine Call_ (wpAny_Name (h2 A _ E s k ?_) (by decide)) he'
    rw [he]
    refine callWith_of (P := fun h' => Up h h') rfl (fun h' u => kept_type.up u) (evalArgs_flat rfl (Calls.spliced_cons (wpAny_Name (h3 A _ E s k ?_) (by decide))))
    refine Calls.spliced_cons (x _ E s k fun v s₂ g r y => wpAny_pure ⟨fun b o e => r.low b o (r.up b o e), ?_⟩)
    obtain ⟨a, vs, ns, rfl, ht, hl, hne, hC⟩ := y
    refine callType_newIn called_map (by decide) (mTypeCall_2 _ _) (mNewCall_2 _ _) (fun obj => F.args_object_init_3 obj _ _) entry_map_new
      (MeetsIn.of_wp (S := fun A R s => wpAny (model prog w) A.in1 (Builtin.«map.__new__» ⟨[.type "map", .builtin "len", .ref a], []⟩) (fun fin s' => ∃ v, fin = .done (.ret v) ∧ R (.ok (.ret v)) s') (fun e s' => R (.error e) s') s) fun A R s h => h) ?_
    refine map_new ht hl r.low fun h' z TI I up hz hI st hd => ⟨⟨_, st.obj, rfl⟩, q _ z (keeps_trans r.keeps ⟨h', s₂.toks, rfl, up⟩) ⟨TI, I, a, vs, ns, ?_, st, hd, hne, hC⟩⟩
    cases e : s.heap.get? I with
    | none => rfl
    | some o => rw [keeps_up r.keeps I o e] at hI; cases hI
  · obtain ⟨TI, I, a, vs, ns, hI0, st, hd, hne, hC⟩ := hK
    have hlen := st.lens.length
    have hpos : 0 < vs.length := by rw [hlen]; exact List.length_pos_iff.mpr hne
    have W := walks_map (prog := prog) (w := w) (A := A.in1) (vs := vs) (ns := ns) hh hd
    refine call_max_walk ((walks_map (prog := prog) (w := w) (A := A.in1) (vs := vs) (ns := ns) hh hd).self 0 _ _ _ st ?_)
    refine ⟨z, _, [I], vs.length, _, _, _, rfl, W, st, fun b hb => ?_, hpos, CmpOf.ints_gt (fun i => ((ns.getD i 0 : Nat) : Int)) (fun i v ⟨n, t, e1, e2⟩ => ⟨t, by rw [e2, List.getD_eq_getElem?_getD, e1]; rfl⟩), fun v h' tk hp hk => ?_⟩
    · simp only [List.mem_cons] at hb
      rcases hb with rfl | rfl | rfl | rfl | hb
      · exact ltN st.obj
      · exact ltN st.its
      · obtain ⟨o, e, _⟩ := st.cur; exact ltN e
      · obtain ⟨o, e, _⟩ := st.tup; exact ltN e
      · obtain ⟨o, e⟩ := refs_lt st.lens b hb
        exact ltN e
    · obtain ⟨n, t, hn, rfl⟩ := hp
      obtain ⟨h1', h2'⟩ := argBest_gt (fun i => ((ns.getD i 0 : Nat) : Int)) (vs.length - 1)
      obtain ⟨h₁, t₁, rfl, u₁⟩ := ks
      refine q _ _ ⟨h', tk, rfl, fun b o e => hk b o (fun hb => ?_) (u₁ b o e)⟩ ⟨n, ns, t, rfl, hC, ⟨n, List.mem_of_getElem? hn, rfl⟩, fun n' hn' => ?_⟩
      · rw [List.mem_singleton.mp hb, hI0] at e; cases e
      · obtain ⟨j, hj, rfl⟩ := List.getElem_of_mem hn'
        have := h2' j (by omega)
        rw [show ns.getD j 0 = ns[j] from by rw [List.getD_eq_getElem?_getD, List.getElem?_eq_getElem hj]; rfl] at this
        have e2 : ∀ i, ns[i]? = some n → ((ns.getD i 0 : Nat) : Int) = n := fun i e => by rw [List.getD_eq_getElem?_getD, e]; rfl
        exact Int.le_trans this (Int.le_of_eq (e2 _ hn))
end

/-! part Fq13 -/

/-! a set's table of eight places -/
structure Small8 (t : SetTable) (n : Nat) : Prop where
  mask : t.mask = 7
  dum : t.dummies = #[]
  size : t.place.size = n
  lt : ∀ (i j : Nat), t.place[i]? = some j → j < 8
theorem slot_live {t : SetTable} {j i : Nat} (e : t.slot j = .live i) : t.place[i]? = some j := by
  unfold SetTable.slot at e
  dsimp only at e
  split at e
  · rename_i h
    cases e
    exact eq_of_beq h
  · split at e <;> cases e
theorem slot_not_dummy {t : SetTable} (hd : t.dummies = #[]) {j : Nat} : t.slot j ≠ .dummy := by
  unfold SetTable.slot
  dsimp only
  have h : SetTable.has t.dummies j = false := by rw [hd]; simp [SetTable.has]
  rw [h]
  split <;> simp
/-- one of the eight is empty -/
theorem some_empty {t : SetTable} {n : Nat} (x : Small8 t n) (hn : n < 8) : ∃ j, j < 8 ∧ t.slot j = .empty := by
  apply Classical.byContradiction
  intro hno
  have all : ∀ j, j < 8 → ∃ i, t.place[i]? = some j := fun j hj => by
    cases e : t.slot j with
    | empty => exact absurd ⟨j, hj, e⟩ hno
    | dummy => exact absurd e (slot_not_dummy x.dum)
    | live i => exact ⟨i, slot_live e⟩
  have sub : List.range 8 ⊆ t.place.toList := fun j hj => by
    obtain ⟨i, hi⟩ := all j (List.mem_range.mp hj)
    rw [Array.mem_toList_iff]
    exact Array.mem_of_getElem? hi
  have nd : (List.range 8).Nodup := List.nodup_range
  have := List.Nodup.length_le_of_subset nd sub
  rw [List.length_range, Array.length_toList, x.size] at this
  omega

/-- the probe's k-th turn -/
def turn (b : Nat) : Nat → SetTable.Probe
  | 0 => { j := b % 8, more := 0, i := b % 8, perturb := b, dummy := none }
  | k + 1 => { j := ((turn b k).i * 5 + 1 + (turn b k).perturb / 32) % 8, more := 0, i := ((turn b k).i * 5 + 1 + (turn b k).perturb / 32) % 8, perturb := (turn b k).perturb / 32, dummy := none }
theorem turn_facts (b : Nat) : ∀ k, (turn b k).more = 0 ∧ (turn b k).j = (turn b k).i ∧ (turn b k).i < 8 ∧ (turn b k).perturb = b / 32 ^ k ∧ (turn b k).dummy = none
  | 0 => ⟨rfl, rfl, Nat.mod_lt _ (by decide), by simp [turn], rfl⟩
  | k + 1 => by
    obtain ⟨_, _, _, h, _⟩ := turn_facts b k
    refine ⟨rfl, rfl, Nat.mod_lt _ (by decide), ?_, rfl⟩
    show (turn b k).perturb / 32 = _
    rw [h, Nat.div_div_eq_div_mul, Nat.pow_succ]
theorem turn_next {t : SetTable} (hm : t.mask = 7) (b k : Nat) : t.advance (turn b k) = turn b (k + 1) := by
  obtain ⟨h1, h2, h3, h4, h5⟩ := turn_facts b k
  unfold SetTable.advance
  rw [if_neg (by rw [h1]; decide)]
  simp only [SetTable.leap, hm]
  have hr : ∀ i, i < 8 → SetTable.runEnd 7 i - i = 0 := fun i hi => by unfold SetTable.runEnd; rw [if_neg (by omega)]; omega
  rw [hr _ (Nat.mod_lt _ (by decide))]
  simp only [turn, h5]
theorem turn_start {t : SetTable} (hm : t.mask = 7) (h : Int) : t.probeStart h = turn (SetTable.bits h) 0 := by
  unfold SetTable.probeStart
  simp only [hm, turn]
  have hr : ∀ i, i < 8 → SetTable.runEnd 7 i - i = 0 := fun i hi => by unfold SetTable.runEnd; rw [if_neg (by omega)]; omega
  rw [hr _ (Nat.mod_lt _ (by decide))]
theorem cyc : ∀ i : Nat, i < 8 → ∀ j : Nat, j < 8 → ∃ m, m < 8 ∧ Nat.rec (motive := fun _ => Nat) i (fun _ x => (x * 5 + 1) % 8) m = j := by decide
theorem turn_reaches (b : Nat) (hb : b < 2 ^ 64) (j : Nat) (hj : j < 8) : ∃ k, k ≤ 20 ∧ (turn b k).j = j := by
  have late : ∀ m, (turn b (13 + m)).i = Nat.rec (motive := fun _ => Nat) (turn b 13).i (fun _ x => (x * 5 + 1) % 8) m := fun m => by
    induction m with
    | zero => rfl
    | succ m ih =>
      show ((turn b (13 + m)).i * 5 + 1 + (turn b (13 + m)).perturb / 32) % 8 = _
      have hp : (turn b (13 + m)).perturb / 32 = 0 := by
        rw [(turn_facts b (13 + m)).2.2.2.1]
        have h1 : b / 32 ^ (13 + m) = 0 := Nat.div_eq_of_lt (Nat.lt_of_lt_of_le hb (by
          rw [Nat.pow_add]
          exact Nat.le_trans (by decide) (Nat.le_mul_of_pos_right _ (Nat.pow_pos (by decide)))))
        rw [h1]
      rw [hp, Nat.add_zero, ih]
  obtain ⟨m, hm, e⟩ := cyc _ (turn_facts b 13).2.2.1 j hj
  exact ⟨13 + m, by omega, by rw [(turn_facts b (13 + m)).2.1, late, e]⟩
theorem bits_lt (h : Int) : SetTable.bits h < 2 ^ 64 := by
  unfold SetTable.bits
  have := Int.emod_lt_of_pos h (b := 2 ^ 64) (by decide)
  have := Int.emod_nonneg h (b := 2 ^ 64) (by decide)
  omega
/-- probing from the k-th turn on meets an empty place or one of the same hash, no later than the K-th -/
theorem probe_go {t : SetTable} {n : Nat} (x : Small8 t n) (hashAt : Nat → Int) (h : Int) (b K : Nat) (hK : t.slot (turn b K).j = .empty) : ∀ (d k fuel : Nat), k + d = K → d < fuel →
    (∃ k', SetTable.probe.go t hashAt h fuel (turn b k) = some (.empty (turn b k').j none) ∧ k ≤ k' ∧ k' ≤ K ∧ t.slot (turn b k').j = .empty) ∨
      ∃ k' i, SetTable.probe.go t hashAt h fuel (turn b k) = some (.candidate (turn b k').j i (turn b (k' + 1))) ∧ k ≤ k' ∧ k' < K ∧ t.slot (turn b k').j = .live i ∧ hashAt i = h
  | d, k, 0, _, hf => by omega
  | d, k, fuel + 1, hk, hf => by
    cases e : t.slot (turn b k).j with
    | empty => exact .inl ⟨k, by unfold SetTable.probe.go; simp only [e, (turn_facts b k).2.2.2.2], Nat.le_refl _, by omega, e⟩
    | dummy => exact absurd e (slot_not_dummy x.dum)
    | live i =>
      have hne : k ≠ K := fun z => by rw [z, hK] at e; cases e
      by_cases hh : hashAt i = h
      · exact .inr ⟨k, i, by unfold SetTable.probe.go; simp only [e, hh, beq_self_eq_true, if_true, turn_next x.mask], Nat.le_refl _, by omega, e, hh⟩
      · have hgo : SetTable.probe.go t hashAt h (fuel + 1) (turn b k) = SetTable.probe.go t hashAt h fuel (turn b (k + 1)) := by
          conv => lhs; unfold SetTable.probe.go
          simp only [e, turn_next x.mask]
          rw [if_neg (by simpa using hh)]
        rw [hgo]
        rcases probe_go x hashAt h b K hK (d - 1) (k + 1) fuel (by omega) (by omega) with ⟨k', a1, a2, a3, a4⟩ | ⟨k', i', a1, a2, a3, a4, a5⟩
        · exact .inl ⟨k', a1, by omega, a3, a4⟩
        · exact .inr ⟨k', i', a1, by omega, a3, a4, a5⟩
theorem probe_from {t : SetTable} {n : Nat} (x : Small8 t n) (hashAt : Nat → Int) (h : Int) (b K k : Nat) (hK : t.slot (turn b K).j = .empty) (hk : k ≤ K) (hK20 : K ≤ 20) :
    (∃ k', t.probe hashAt h (turn b k) = some (.empty (turn b k').j none) ∧ k ≤ k' ∧ k' ≤ K ∧ t.slot (turn b k').j = .empty) ∨
      ∃ k' i, t.probe hashAt h (turn b k) = some (.candidate (turn b k').j i (turn b (k' + 1))) ∧ k ≤ k' ∧ k' < K ∧ t.slot (turn b k').j = .live i ∧ hashAt i = h := by
  unfold SetTable.probe
  exact probe_go x hashAt h b K hK (K - k) k _ (by omega) (by rw [x.mask]; simp only [SetTable.turns]; omega)
theorem insertAt_size {α : Type} (xs : Array α) (p : Nat) (x : α) (hp : p ≤ xs.size) : (SetTable.insertAt xs p x).size = xs.size + 1 := by
  unfold SetTable.insertAt
  simp only [Array.size_append, Array.size_push, Array.size_extract]
  omega
theorem insertAt_mem {α : Type} (xs : Array α) (p : Nat) (x y : α) (h : y ∈ (SetTable.insertAt xs p x).toList) : y = x ∨ y ∈ xs.toList := by
  unfold SetTable.insertAt at h
  rw [Array.toList_append, Array.toList_push, List.mem_append, List.mem_append] at h
  rcases h with (h | h) | h
  · exact .inr (by rw [Array.toList_extract] at h; simp only [List.extract_eq_take_drop] at h; exact List.mem_of_mem_drop (List.mem_of_mem_take h))
  · exact .inl (List.mem_singleton.mp h)
  · exact .inr (by rw [Array.toList_extract] at h; simp only [List.extract_eq_take_drop] at h; exact List.mem_of_mem_drop (List.mem_of_mem_take h))
theorem below_le (xs : Array Nat) (j : Nat) : SetTable.below xs j ≤ xs.size := by
  have go : ∀ fuel lo hi, lo ≤ hi → hi ≤ xs.size → SetTable.below.go xs j fuel lo hi ≤ xs.size := fun fuel => by
    induction fuel with
    | zero => intro lo hi h1 h2; unfold SetTable.below.go; omega
    | succ fuel ih =>
      intro lo hi h1 h2
      unfold SetTable.below.go
      split
      · dsimp only
        split
        · exact ih _ _ (by omega) h2
        · exact ih _ _ (by omega) (by omega)
      · omega
  exact go _ _ _ (Nat.zero_le _) (Nat.le_refl _)
theorem put_small {t : SetTable} {n j : Nat} (x : Small8 t n) (hj : j < 8) : Small8 (t.put j).1 (n + 1) ∧ (t.put j).2 ≤ n := by
  unfold SetTable.put
  dsimp only
  have hd : SetTable.has t.dummies j = false := by rw [x.dum]; simp [SetTable.has]
  rw [hd]
  refine ⟨⟨x.mask, x.dum, ?_, fun i j' e => ?_⟩, ?_⟩
  · show (SetTable.insertAt _ _ _).size = _
    rw [insertAt_size _ _ _ (below_le _ _), x.size]
  · have e' : (SetTable.insertAt t.place (SetTable.below t.place j) j)[i]? = some j' := e
    have hm : j' ∈ (SetTable.insertAt t.place (SetTable.below t.place j) j).toList := by
      rw [Array.mem_toList_iff]; exact Array.mem_of_getElem? e'
    rcases insertAt_mem _ _ _ _ hm with rfl | hm
    · exact hj
    · obtain ⟨i', hi'⟩ := List.getElem?_of_mem hm
      exact x.lt i' j' (by rw [← Array.getElem?_toList]; exact hi')
  · have := below_le t.place j
    rw [x.size] at this
    exact this

/-! part Fq14 -/

section
variable {prog : Program} {w : World} {A : Around} {E : Value → Shared → Prop} {s : Shared} {h : Heap}
abbrev Key (prog : Program) (w : World) (h : Heap) (ks : List Str) (a : Nat) : Prop := IsTupleKey (PySem.strKind prog w) h ks a
theorem strs_items {vs : List Value} {xs : List Str} (p : Paired (StrV h) vs xs) : ItemsAre (PySem.strKind prog w) xs vs := by
  induction p with
  | nil => exact .nil
  | cons x _ ih => obtain ⟨t, rfl⟩ := x; exact .cons (by simp [PySem.strKind, Value.isStrOf]) ih
theorem key_of {a : Nat} {vs : List Value} {xs : List Str} (ht : h.IsTuple a (List.toArray vs)) (p : Paired (StrV h) vs xs) : Key prog w h xs a := by
  obtain ⟨o, e, c, n, d⟩ := ht
  exact ⟨o, _, n, e, c, d, by simpa using strs_items p⟩
theorem Key.at {h h' : Heap} {a : Nat} {xs : List Str} (x : Key prog w h xs a) (k : ∀ o, h.get? a = some o → h'.get? a = some o) : Key prog w h' xs a := by
  obtain ⟨o, i, n, e, r⟩ := x; exact ⟨o, i, n, k o e, r⟩
theorem items_str {xs : List Str} {vs : List Value} (p : ItemsAre (PySem.strKind prog w) xs vs) : ∀ v ∈ vs, ∃ x t, v = .str x t := by
  induction p with
  | nil => simp
  | cons x _ ih =>
    intro v hv
    rcases List.mem_cons.mp hv with rfl | hv
    · obtain ⟨t, e⟩ := Value.isStrOf_shape x; exact ⟨_, t, e⟩
    · exact ih v hv

theorem not_classy {a : Nat} {xs : List Str} {Q : Bool → Shared → Prop} (x : Key prog w s.heap xs a) (q : Q false s) : wpAny (model prog w) A (ofAClassStatement 8 (.ref a)) Q E s := by
  have hT := x.typeIs
  obtain ⟨o, items, n, ho, hc, hd, hi⟩ := x
  unfold ofAClassStatement
  refine wpAny_bind (wpAny_typeOf hT ?_)
  dsimp only
  refine wpAny_bind (wpAny_pure ?_)
  simp only [Bool.not_true, Bool.false_eq_true, if_false]
  refine wpAny_bind (wpAny_seqItems ho hd ?_)
  dsimp only
  refine wpAny_bind (PySem.wpAny_forIn_array' _ (fun rest b s' => b = (none, ()) ∧ s' = s ∧ ∀ v ∈ rest, ∃ x t, v = .str x t) _ ?turn ?fin _ _ ⟨rfl, rfl, items_str hi⟩)
  case turn =>
    rintro v rest b s' ⟨rfl, rfl, hv⟩
    obtain ⟨y, t, rfl⟩ := hv v (by simp)
    refine wpAny_bind (wpAny_pure ?_)
    exact wpAny_pure ⟨rfl, rfl, fun v h => hv v (List.mem_cons_of_mem _ h)⟩
  case fin =>
    rintro b s' ⟨rfl, rfl, _⟩
    exact wpAny_pure q
theorem not_seen {a : Nat} {xs : List Str} {l : List Value} {Q : Bool → Shared → Prop} (x : Key prog w s.heap xs a) (hl : ∀ v ∈ l, ∃ b ys, v = .ref b ∧ Key prog w s.heap ys b) (q : Q false s) : wpAny (model prog w) A (searchCouldBeSeen (.ref a) l) Q E s := by
  unfold searchCouldBeSeen
  refine wpAny_bind (wpAny_forIn_list _ (fun rest b s' => b = (none, ()) ∧ s' = s ∧ ∀ v ∈ rest, ∃ b ys, v = .ref b ∧ Key prog w s.heap ys b) _ ?turn ?fin _ _ ⟨rfl, rfl, hl⟩)
  case turn =>
    rintro v rest b s' ⟨rfl, rfl, hv⟩
    obtain ⟨b, ys, rfl, hb⟩ := hv v (by simp)
    have hr : ∀ v ∈ rest, ∃ b ys, v = .ref b ∧ Key prog w s'.heap ys b := fun v h => hv v (List.mem_cons_of_mem _ h)
    dsimp only
    by_cases c : ((a == b) || (carriedByValue (.ref a) && carriedByValue (.ref b))) = true
    · rw [if_pos c]; exact wpAny_pure ⟨rfl, rfl, hr⟩
    · rw [if_neg c]
      refine wpAny_bind (wpAny_eqIsQuiet_tuple x ?_)
      simp only [Bool.not_true, Bool.false_eq_true, if_false]
      refine wpAny_bind (wpAny_eqIsQuiet_tuple hb ?_)
      simp only [Bool.not_true, Bool.false_eq_true, if_false]
      refine wpAny_bind (not_classy x ?_)
      simp only [Bool.false_eq_true, if_false]
      refine wpAny_bind (not_classy hb ?_)
      simp only [Bool.false_eq_true, if_false]
      exact wpAny_pure ⟨rfl, rfl, hr⟩
  case fin =>
    rintro b s' ⟨rfl, rfl, _⟩
    exact wpAny_pure q

/-- a set of pairs -/
structure PairSet (prog : Program) (w : World) (H : Heap) (S : Nat) (es : Array (Int × Value)) (ep : Nat) (t : SetTable) : Prop where
  obj : ∃ o, H.get? S = some o ∧ o.ExactSet ∧ o.data = .set es ep t
  small : Small8 t es.size
  few : es.size ≤ 4
  keys : ∀ e ∈ es.toList, ∃ a ks, e.2 = .ref a ∧ Key prog w H ks a ∧ e.1 = tupleKeyHash (PySem.strKind prog w) ks
theorem PairSet.fits {H : Heap} {S : Nat} {es : Array (Int × Value)} {ep : Nat} {t : SetTable} (x : PairSet prog w H S es ep t) : t.fits es.size = true := by
  unfold SetTable.fits SetTable.fill
  have h1 := x.small.size
  have h2 := x.few
  rw [x.small.dum, x.small.mask, h1]
  simp only [beq_self_eq_true, Bool.true_and]
  exact decide_eq_true (by show es.size + 0 ≤ 7; omega)
theorem same_ref {b : Nat} {Q : Bool → Shared → Prop} (q : Q true s) : wpAny (model prog w) A (isSame (.ref b) (.ref b)) Q E s := by
  unfold isSame
  dsimp only
  rw [if_pos (by simp)]
  exact wpAny_pure q
theorem probe_from' {t : SetTable} {n : Nat} (x : Small8 t n) {f : Nat → Int} {h : Int} {b K k : Nat} {r : Option SetTable.Met} (hr : t.probe f h (turn b k) = r) (hK : t.slot (turn b K).j = .empty) (hk : k ≤ K) (hK20 : K ≤ 20) :
    (∃ k', r = some (.empty (turn b k').j none) ∧ k ≤ k' ∧ k' ≤ K ∧ t.slot (turn b k').j = .empty) ∨
      ∃ k' i, r = some (.candidate (turn b k').j i (turn b (k' + 1))) ∧ k ≤ k' ∧ k' < K ∧ t.slot (turn b k').j = .live i ∧ f i = h := by
  subst hr; exact probe_from x f h b K k hK hk hK20
theorem search_any {S : Nat} {es : Array (Int × Value)} {ep : Nat} {t : SetTable} {a : Nat} {ks : List Str} {Q : SetFound → Shared → Prop} (hu : A.units < cLine) (x : PairSet prog w s.heap S es ep t) (hk : Key prog w s.heap ks a) {K : Nat} (hK20 : K ≤ 20)
    (hK : t.slot (turn (SetTable.bits (tupleKeyHash (PySem.strKind prog w) ks)) K).j = .empty)
    (q1 : (∃ e ∈ es.toList, ∃ b, e.2 = .ref b ∧ Key prog w s.heap ks b) → Q (.there none) s) (q2 : ∀ j, j < 8 → t.slot j = .empty → (∃ k, k ≤ K ∧ j = (turn (SetTable.bits (tupleKeyHash (PySem.strKind prog w) ks)) k).j) → Q (.free j false) s) : ∀ (d fuel k : Nat) (stand : Option SetTable.Probe), k + d = K → d < fuel →
    stand.getD (t.probeStart (tupleKeyHash (PySem.strKind prog w) ks)) = turn (SetTable.bits (tupleKeyHash (PySem.strKind prog w) ks)) k → wpAny (model prog w) A (setSearchFrom S (.ref a) (tupleKeyHash (PySem.strKind prog w) ks) true fuel stand) Q E s
  | d, 0, k, stand, _, hf, _ => by omega
  | d, fuel + 1, k, stand, hd, hf, hst => by
    obtain ⟨o, ho, hex, hdat⟩ := x.obj
    generalize hH : tupleKeyHash (PySem.strKind prog w) ks = H at *
    unfold setSearchFrom
    refine wpAny_bind (wpAny_setState_of ho hdat x.fits ?_)
    dsimp only
    rw [if_neg (by unfold SetTable.gaveWay; rw [x.small.mask]; decide)]
    rw [hst]
    generalize hr : t.probe _ H _ = r
    rcases probe_from' x.small hr hK (by omega) hK20 with ⟨k', rfl, a2, a3, a4⟩ | ⟨k', i, rfl, a2, a3, a4, a5⟩
    · dsimp only
      exact wpAny_pure (q2 _ (by rw [(turn_facts _ k').2.1]; exact (turn_facts _ k').2.2.1) a4 ⟨k', a3, rfl⟩)
    · dsimp only
      have hi : i < es.size := by
        have := slot_live a4
        rcases Nat.lt_or_ge i t.place.size with z | z
        · rw [x.small.size] at z; exact z
        · rw [Array.getElem?_eq_none z] at this; cases this
      have hei : es[i]? = some es[i] := Array.getElem?_eq_getElem hi
      obtain ⟨b, ys, hb, hkb, hhb⟩ := x.keys es[i] (by simp)
      have rest : wpAny (model prog w) A (do
          let some (_, y) := es[i]? | unsupported "internal:set-entry"
          let equal ← holding [y] (eqBool y (.ref a))
          let (es', _, t') ← setState S
          if true && equal then return .there none
          let some same := t'.sameMemory t.moves t.mask | unsupported "set.changed-during-lookup:is-the-new-block-at-the-old-address"
          let still ← match (if same then t'.slot (turn (SetTable.bits H) k').j else .empty) with
            | .live i' => match es'[i']? with
              | some (_, y') => do pure (if ← isSame y' y then some i' else none)
              | none => pure none
            | _ => pure none
          match still with
          | none => rule "set.search.anew"; setSearchFrom S (.ref a) H true fuel none
          | some i' => if equal then return .there (some i') else setSearchFrom S (.ref a) H true fuel (some (turn (SetTable.bits H) (k' + 1)))) Q E s := by
        rw [hei]
        have hy : es[i] = (es[i].1, .ref b) := by rw [← hb]
        rw [hy]
        dsimp only
        refine wpAny_bind (wpAny_holding (wpAny_eqBool_tuple hu hkb hk ?_))
        refine wpAny_bind (wpAny_setState_of ho hdat x.fits ?_)
        dsimp only
        by_cases e : ys = ks
        · subst e
          simp only [decide_true, Bool.and_self, if_true]
          exact wpAny_pure (q1 ⟨es[i], by simp, b, hb, hkb⟩)
        · have e' : decide (ys = ks) = false := decide_eq_false e
          simp only [e', Bool.and_false, Bool.false_eq_true, if_false]
          have hsm : t.sameMemory t.moves t.mask = some true := by unfold SetTable.sameMemory; rw [if_pos (by simp)]
          rw [hsm]
          dsimp only
          simp only [if_true]
          rw [a4]
          dsimp only
          rw [hei, hy]
          dsimp only
          refine wpAny_bind (same_ref (wpAny_bind (wpAny_pure ?_)))
          simp only [if_true]
          subst hH
          exact search_any hu x hk hK20 hK q1 q2 (K - (k' + 1)) fuel (k' + 1) _ (by omega) (by omega) rfl
      have hled : ∀ (f : Bool), wpAny (model prog w) A (searchCouldBeSeen (.ref a) ((es.filter (·.1 == H)).toList.map (·.2))) (fun r s' => r = false ∧ s' = s) E s := fun _ => not_seen hk (fun v hv => by
        obtain ⟨e, he, rfl⟩ := List.mem_map.mp hv
        rw [Array.toList_filter] at he
        obtain ⟨b, ys, a, c, _⟩ := x.keys e (List.mem_filter.mp he).1
        exact ⟨b, ys, a, c⟩) ⟨rfl, rfl⟩
      cases hl : t.led with
      | true =>
        simp only [Bool.not_true, Bool.false_eq_true, if_false]
        exact rest
      | false =>
        simp only [Bool.not_false, if_true]
        refine wpAny_bind (wpAny_mono (hled true) (fun r s' hh => ?_) fun _ _ e => e)
        obtain ⟨rfl, rfl⟩ := hh
        simp only [Bool.false_eq_true, if_false]
        exact rest
end

/-! part Fq15 -/

section
variable {prog : Program} {w : World} {A : Around} {E : Value → Shared → Prop} {s : Shared} {h : Heap}
theorem hash_by_value {a : Nat} {ks : List Str} {Q : Bool → Shared → Prop} (x : Key prog w s.heap ks a) (q : ∀ b, Q b s) : wpAny (model prog w) A (hashByValue 8 (.ref a)) Q E s := by
  have hT := x.typeIs
  obtain ⟨o, items, n, ho, hc, hd, hi⟩ := x
  unfold hashByValue
  refine wpAny_bind (wpAny_specialOf hT F.slot_tuple_hash.lookup ?_)
  dsimp only
  refine wpAny_bind (wpAny_seqItems ho hd ?_)
  dsimp only [Option.getD]
  refine wpAny_bind (PySem.wpAny_forIn_array' _ (fun rest b s' => (b.1 = none ∨ ∃ r, b.1 = some r) ∧ s' = s ∧ ∀ v ∈ rest, ∃ x t, v = .str x t) _ ?turn ?fin _ _ ⟨.inl rfl, rfl, items_str hi⟩)
  case turn =>
    rintro v rest b s' ⟨_, rfl, hv⟩
    obtain ⟨y, t, rfl⟩ := hv v (by simp)
    refine wpAny_bind (wpAny_pure ?_)
    simp only [Bool.not_false, if_true]
    exact wpAny_pure (wpAny_pure (q _))
  case fin =>
    rintro ⟨b, u⟩ s' ⟨hb, rfl, _⟩
    rcases hb with hb | ⟨r, hb⟩
    · dsimp only at hb; subst hb; exact wpAny_pure (q _)
    · dsimp only at hb; subst hb; exact wpAny_pure (q _)

theorem insertAt_old {α : Type} (xs : Array α) (p : Nat) (x y : α) (hp : p ≤ xs.size) (h : y ∈ (SetTable.insertAt xs p x).toList) : y = x ∨ y ∈ xs.toList := insertAt_mem xs p x y h
/-- one pair more -/
theorem add_pair {S : Nat} {es : Array (Int × Value)} {ep : Nat} {t : SetTable} {a : Nat} {ks : List Str} {Q : Bool → Shared → Prop} (hu : A.units < cLine) (x : PairSet prog w s.heap S es ep t) (h3 : es.size ≤ 3) (hk : Key prog w s.heap ks a) (haS : a ≠ S)
    {K : Nat} (hK20 : K ≤ 20) (hK : t.slot (turn (SetTable.bits (tupleKeyHash (PySem.strKind prog w) ks)) K).j = .empty)
    (q1 : (∃ e ∈ es.toList, ∃ b, e.2 = .ref b ∧ Key prog w s.heap ks b) → ∀ tk, Q false { s with toks := tk })
    (q2 : ∀ h' tk j p ep' t', p ≤ es.size → j < 8 → (∃ k, k ≤ K ∧ j = (turn (SetTable.bits (tupleKeyHash (PySem.strKind prog w) ks)) k).j) → Heap.SameBut S s.heap h' → t'.place = (t.put j).1.place → PairSet prog w h' S (SetTable.insertAt es p (tupleKeyHash (PySem.strKind prog w) ks, .ref a)) ep' t' → Q true { s with heap := h', toks := tk }) :
    wpAny (model prog w) A (setAdd S (.ref a)) Q E s := by
  unfold setAdd
  refine wpAny_holding ?_
  refine wpAny_bind (wpAny_pyHash_tuple hu hk ?_)
  have x' : PairSet prog w ({ s with toks := s.toks + (ks.length + 1) } : Shared).heap S es ep t := x
  unfold setAddHashed setAddHashedIn
  obtain ⟨o, ho, hex, hdat⟩ := x.obj
  refine wpAny_holding ?_
  refine wpAny_bind (wpAny_setState_of ho hdat x.fits ?_)
  dsimp only
  have hns : byScan (.ref a) es = false := by unfold byScan; simp [Value.scannable]
  rw [hns]
  simp only [Bool.false_eq_true, if_false]
  unfold setSearch
  refine wpAny_bind (search_any hu x' hk hK20 hK (fun e => ?_) (fun j hj hse hjk => ?_) K 100000 0 none (by omega) (by omega) (by rw [turn_start x.small.mask]; rfl))
  · dsimp only
    exact wpAny_pure (q1 e _)
  · dsimp only
    refine wpAny_bind (wpAny_setState_of ho hdat x.fits ?_)
    dsimp only
    obtain ⟨hps, hpn⟩ := put_small x.small hj
    have fin : ∀ t' : SetTable, Small8 t' (es.size + 1) → t'.place = (t.put j).1.place → wpAny (model prog w) A (do
        storeSet S (SetTable.insertAt es (t.put j).2 (tupleKeyHash (PySem.strKind prog w) ks, .ref a)) t'
        if !false && t'.tooFull then setRelay S (SetTable.grown (es.size + 1))
        return true) Q E { s with toks := s.toks + (ks.length + 1) } := fun t' ht' hpl => by
      have hsz : (SetTable.insertAt es (t.put j).2 (tupleKeyHash (PySem.strKind prog w) ks, Value.ref a)).size = es.size + 1 := insertAt_size _ _ _ hpn
      refine wpAny_bind (wpAny_storeSet_of ho hdat ?_ (by rw [hsz]; exact Nat.le_trans (Nat.succ_le_succ h3) (by decide)))
      have hfull : t'.tooFull = false := by
        unfold SetTable.tooFull SetTable.fill
        rw [ht'.dum, ht'.mask, ht'.size]
        exact decide_eq_false (by show ¬ (es.size + 1 + 0) * 5 ≥ 21; omega)
      simp only [hfull, Bool.and_false, Bool.false_eq_true, if_false]
      have hget : (s.heap.update S (Obj.putSet (SetTable.insertAt es (t.put j).2 (tupleKeyHash (PySem.strKind prog w) ks, Value.ref a)) t')).get? S = some (Obj.putSet (SetTable.insertAt es (t.put j).2 (tupleKeyHash (PySem.strKind prog w) ks, Value.ref a)) t' o) := by
        refine Heap.get?_update_self _ ho ?_
        obtain ⟨c, d, dat, sl⟩ := o
        dsimp only at hdat
        subst hdat
        rfl
      have kept : ∀ (b : Nat) o', b ≠ S → s.heap.get? b = some o' → (s.heap.update S (Obj.putSet (SetTable.insertAt es (t.put j).2 (tupleKeyHash (PySem.strKind prog w) ks, Value.ref a)) t')).get? b = some o' := fun b o' hb e => (Heap.get?_update_other _ _ (Ne.symm hb)).trans e
      refine wpAny_pure (q2 _ _ j _ (ep + 1) t' hpn hj hjk (Heap.SameBut.update ..) hpl ⟨⟨_, hget, ?_, ?_⟩, by rw [hsz]; exact ht', by rw [hsz]; omega, fun e he => ?_⟩)
      · obtain ⟨c, d, dat, sl⟩ := o
        dsimp only at hdat
        subst hdat
        exact hex
      · obtain ⟨c, d, dat, sl⟩ := o
        dsimp only at hdat
        subst hdat
        rfl
      · rcases insertAt_mem _ _ _ _ he with rfl | he
        · exact ⟨a, ks, rfl, hk.at fun o e => kept a o haS e, rfl⟩
        · obtain ⟨b, ys, e1, e2, e3⟩ := x.keys e he
          refine ⟨b, ys, e1, e2.at fun o' e => kept b o' (fun z => ?_) e, e3⟩
          subst z
          obtain ⟨o2, i2, n2, e4, e5, _⟩ := e2
          rw [ho] at e4; cases e4
          rw [hex.1] at e5; exact absurd e5 (by decide)
    cases hp : (t.put j).1.plain with
    | false =>
      simp only [Bool.false_eq_true, if_false]
      refine wpAny_bind (wpAny_pure ?_)
      simp only [if_true]
      exact fin _ hps rfl
    | true =>
      simp only [if_true]
      refine wpAny_bind (hash_by_value (s := { s with toks := s.toks + (ks.length + 1) }) hk fun b => ?_)
      cases b with
      | true => simp only [if_true]; exact fin _ hps rfl
      | false =>
        simp only [Bool.false_eq_true, if_false]
        exact fin _ ⟨hps.mask, hps.dum, hps.size, hps.lt⟩ rfl
/-- the same pair met again, in a set of one -/
theorem hit_pair {S : Nat} {ep : Nat} {t : SetTable} {a b : Nat} {ks : List Str} {Q : Bool → Shared → Prop} (hu : A.units < cLine) (x : PairSet prog w s.heap S #[(tupleKeyHash (PySem.strKind prog w) ks, .ref b)] ep t) (hk : Key prog w s.heap ks a) (hb : Key prog w s.heap ks b)
    (hs : t.slot (turn (SetTable.bits (tupleKeyHash (PySem.strKind prog w) ks)) 0).j = .live 0) (q : ∀ tk, Q false { s with toks := tk }) : wpAny (model prog w) A (setAdd S (.ref a)) Q E s := by
  obtain ⟨je, hje, hse⟩ := some_empty x.small (by show 1 < 8; decide)
  obtain ⟨K, hK20, hKe⟩ := turn_reaches (SetTable.bits (tupleKeyHash (PySem.strKind prog w) ks)) (bits_lt _) je hje
  unfold setAdd
  refine wpAny_holding ?_
  refine wpAny_bind (wpAny_pyHash_tuple hu hk ?_)
  unfold setAddHashed setAddHashedIn
  obtain ⟨o, ho, hex, hdat⟩ := x.obj
  refine wpAny_holding ?_
  refine wpAny_bind (wpAny_setState_of ho hdat x.fits ?_)
  dsimp only
  have hns : ∀ es, byScan (.ref a) es = false := fun es => by unfold byScan; simp [Value.scannable]
  rw [hns]
  simp only [Bool.false_eq_true, if_false]
  unfold setSearch setSearchFrom
  refine wpAny_bind (wpAny_bind (wpAny_setState_of ho hdat x.fits ?_))
  dsimp only
  rw [if_neg (by unfold SetTable.gaveWay; rw [x.small.mask]; decide)]
  rw [show (none : Option SetTable.Probe).getD (t.probeStart (tupleKeyHash (PySem.strKind prog w) ks)) = turn (SetTable.bits (tupleKeyHash (PySem.strKind prog w) ks)) 0 from by rw [← turn_start x.small.mask]; rfl]
  generalize hr : t.probe _ (tupleKeyHash (PySem.strKind prog w) ks) _ = r
  have hr' : r = some (.candidate (turn (SetTable.bits (tupleKeyHash (PySem.strKind prog w) ks)) 0).j 0 (t.advance (turn (SetTable.bits (tupleKeyHash (PySem.strKind prog w) ks)) 0))) := by
    rw [← hr]
    unfold SetTable.probe SetTable.turns
    rw [x.small.mask]
    show SetTable.probe.go t _ _ (219 + 1) _ = _
    unfold SetTable.probe.go
    simp only [hs]
    rw [if_pos (by exact beq_self_eq_true (tupleKeyHash (PySem.strKind prog w) ks))]
  subst hr'
  dsimp only
  have fin : ∀ tk, wpAny (model prog w) A (pure false) Q E { s with toks := tk } := fun tk => wpAny_pure (q tk)
  have hled : wpAny (model prog w) A (searchCouldBeSeen (.ref a) (((#[(tupleKeyHash (PySem.strKind prog w) ks, Value.ref b)] : Array (Int × Value)).filter (·.1 == tupleKeyHash (PySem.strKind prog w) ks)).toList.map (·.2)))
      (fun r s' => r = false ∧ s' = { s with toks := s.toks + (ks.length + 1) }) E { s with toks := s.toks + (ks.length + 1) } := not_seen (s := { s with toks := s.toks + (ks.length + 1) }) hk (fun v hv => by
    obtain ⟨e, he, rfl⟩ := List.mem_map.mp hv
    rw [Array.toList_filter] at he
    obtain ⟨b, ys, a, c, _⟩ := x.keys e (List.mem_filter.mp he).1
    exact ⟨b, ys, a, c⟩) ⟨rfl, rfl⟩
  cases hl : t.led with
  | true =>
    simp only [Bool.not_true, Bool.false_eq_true, if_false]
    show wpAny _ _ (holding [Value.ref b] (eqBool (.ref b) (.ref a)) >>= _) _ _ _
    refine wpAny_bind (wpAny_holding (wpAny_eqBool_tuple (s := { s with toks := s.toks + (ks.length + 1) }) hu hb hk ?_))
    refine wpAny_bind (wpAny_setState_of (s := { s with toks := s.toks + (ks.length + 1) }) ho hdat x.fits ?_)
    dsimp only
    simp only [decide_true, Bool.and_self, if_true]
    exact wpAny_pure (fin _)
  | false =>
    simp only [Bool.not_false, if_true]
    refine wpAny_bind (wpAny_mono hled (fun r s' hh => ?_) fun _ _ e => e)
    obtain ⟨rfl, rfl⟩ := hh
    simp only [Bool.false_eq_true, if_false]
    show wpAny _ _ (holding [Value.ref b] (eqBool (.ref b) (.ref a)) >>= _) _ _ _
    refine wpAny_bind (wpAny_holding (wpAny_eqBool_tuple (s := { s with toks := s.toks + (ks.length + 1) }) hu hb hk ?_))
    refine wpAny_bind (wpAny_setState_of (s := { s with toks := s.toks + (ks.length + 1) }) ho hdat x.fits ?_)
    dsimp only
    simp only [decide_true, Bool.and_self, if_true]
    exact wpAny_pure (fin _)
end

/-! part Fq16 -/

theorem sub_tuple_set : isSubtype (.type "tuple") (.type "set") = pure false := by rw [isSubtype_type]; kernel_rfl
theorem sub_tuple_frozenset : isSubtype (.type "tuple") (.type "frozenset") = pure false := by rw [isSubtype_type]; kernel_rfl
def freshSet (led : Bool) : Obj := { cls := .type "set", dict := none, data := .set #[] 0 (.fresh 0 0 led) }
section
variable {prog : Program} {w : World} {A : Around} {R : Result → Shared → Prop}
theorem set_loop {I a S : Nat} (hIS : I ≠ S) (hIa : a ≠ I) (haS : a ≠ S) {items : List Value} {Inv : Nat → Heap → Prop} (U : Nat)
    (frame : ∀ i h h', Inv i h → (∀ (b : Nat) o, b ≠ I → h.get? b = some o → h'.get? b = some o) → Inv i h')
    (step : ∀ (A' : Around) i v (s' : Shared) (Q : Bool → Shared → Prop) (E : Value → Shared → Prop), A'.units ≤ U → items[i]? = some v → Inv i s'.heap → (∀ r h' tk, Inv (i + 1) h' → Heap.SameBut S s'.heap h' → Q r { s' with heap := h', toks := tk }) → wpAny (model prog w) A' (setAdd S v) Q E s') :
    ∀ (k i : Nat) (A : Around) (s : Shared), A.handled = none → A.units + 1 ≤ U → items.length - i = k → i ≤ items.length → s.heap.IsTupleIter I a i → s.heap.IsTuple a (List.toArray items) → Inv i s.heap →
      (∀ h' tk, Inv items.length h' → (∀ (b : Nat) o, b ≠ I → b ≠ S → s.heap.get? b = some o → h'.get? b = some o) → R (.ok (.ret .none)) { s with heap := h', toks := tk }) →
      codeAny (model prog w) A (.builtin "set.update.loop" ⟨[.ref S, .ref I], []⟩) R s := by
  intro k
  induction k with
  | zero =>
    intro i A s hh hU hk hi hit ht hI hR
    have hin : i = items.length := by omega
    subst hin
    refine codeAny_builtin PyProof.Rows.F.entry_set_update_loop ?_
    rw [Around.under_plainId PyProof.Rows.F.plain_set_update_loop _]
    show wpAny _ A.in1 (pyNext (.ref I) >>= _) _ _ s
    refine wpAny_bind (wpAny_pyNext_tuple_end (by simpa using hh) hit ht (by simp) fun h' he => ?_)
    show wpAny _ A.in1 (ret Value.none) _ _ _
    exact wpAny_pure (hR h' s.toks (frame _ _ _ hI fun b o hb e => he b o hb e) fun b o hb _ e => he b o hb e)
  | succ k ih =>
    intro i A s hh hU hk hi hit ht hI hR
    have hlt : i < items.length := by omega
    refine codeAny_builtin PyProof.Rows.F.entry_set_update_loop ?_
    rw [Around.under_plainId PyProof.Rows.F.plain_set_update_loop _]
    show wpAny _ A.in1 (pyNext (.ref I) >>= _) _ _ s
    obtain ⟨v, hv⟩ : ∃ v, items[i]? = some v := ⟨_, List.getElem?_eq_getElem hlt⟩
    refine wpAny_bind (wpAny_pyNext_tuple_item hit ht (by simpa using hv) fun h₁ hit₁ hs₁ => ?_)
    show wpAny _ A.in1 (holding [v] (setAdd S v) >>= _) _ _ _
    refine wpAny_bind (wpAny_holding (step A.in1 i v _ _ _ (by simpa [Around.in1] using hU) hv (frame _ _ _ hI fun b o hb e => hs₁.extBut b o hb e) fun r h₂ tk hI₂ hs₂ => ?_))
    refine wpAny_pure ⟨plainId_quiet PyProof.Rows.F.plain_set_update_loop _, ih (i + 1) A _ hh hU (by omega) hlt (by obtain ⟨o, e, r⟩ := hit₁; exact ⟨o, hs₂.extBut _ _ hIS e, r⟩) ((ht.at fun o e => hs₁.extBut a o hIa e).at fun o e => hs₂.extBut a o haS e) hI₂ fun h' tk hI' hk' => ?_⟩
    exact hR h' tk hI' fun b o hb hb' e => hk' b o hb hb' (hs₂.extBut b o hb' (hs₁.extBut b o hb e))
end
section
variable {prog : Program} {w : World} {A : Around} {E : Value → Shared → Prop} {s : Shared}
set_option maxHeartbeats 3200000 in
theorem call_set_tuple {l : Nat} {items : List Value} {Inv : Nat → Heap → Prop} {Q : Value → Shared → Prop} (hh : A.handled = none) (hl : s.heap.IsTuple l (List.toArray items))
    (h0 : ∀ led, Inv 0 (s.heap.push (freshSet led)))
    (frame : ∀ i h h', Inv i h → (∀ (b : Nat) o, b ≠ s.heap.objs.size + 1 → h.get? b = some o → h'.get? b = some o) → Inv i h')
    (step : ∀ (A' : Around) i v (s' : Shared) (Q : Bool → Shared → Prop) (E : Value → Shared → Prop), A'.units ≤ A.units + 8 → items[i]? = some v → Inv i s'.heap → (∀ r h' tk, Inv (i + 1) h' → Heap.SameBut s.heap.objs.size s'.heap h' → Q r { s' with heap := h', toks := tk }) → wpAny (model prog w) A' (setAdd s.heap.objs.size v) Q E s')
    (q : ∀ h' tk, Inv items.length h' → Up s.heap h' → Q (.ref s.heap.objs.size) { s with heap := h', toks := tk }) :
    wpAny (model prog w) A (call (.type "set") [.ref l]) Q E s := by
  obtain ⟨c, tl, hmro⟩ := F.called_set.mro
  have hmade := F.called_set.made
  have hsub := F.called_set.sub
  refine wpAny_call (codeAny_of_tree ?_)
  show wpAny _ _ (callAny (.type "set") _) _ _ _
  refine wpAny_pure ⟨Code.quiet_builtin _ (by decide +kernel), codeAny_builtin F.entry_type_call ?_⟩
  rw [Around.under_plain (weight_type_call_type "set" [.ref l] []) rfl]
  have h1 := F.called_set.notType
  have h2 := F.called_set.canCreate
  have hct := F.typeCall_set_1 (.ref l)
  repeat (any_goals (first | assumption | wp_step))
  refine codeAny_mono (code_set_new_1 (.ref l) (E := E) (Q₁ := fun obj s₁ => ∃ led : Bool, obj = .ref s.heap.objs.size ∧ s₁ = { s with heap := s.heap.push (freshSet led) }) fun led => ⟨led, rfl, rfl⟩) fun r s₁ hr => ?_
  cases r with
  | error e => exact hr
  | ok fl =>
    cases fl with
    | ret obj =>
      obtain ⟨led, rfl, rfl⟩ := hr
      have hS : (s.heap.push (freshSet led)).get? s.heap.objs.size = some (freshSet led) := Heap.get?_push_size _ rfl
      have hT : Shared.TypeIs { s with heap := s.heap.push (freshSet led) } (.ref s.heap.objs.size) "set" := ⟨_, hS, rfl⟩
      have hli := F.called_set.init.lookup
      have hbi := F.called_set.init.bind (.ref s.heap.objs.size)
      repeat (any_goals (first | assumption | wp_step))
      refine codeAny_mono (codeAny_call_builtin (R := wants (fun r s₂ => r = .none ∧ ∃ h' tk, s₂ = { s with heap := h', toks := tk } ∧ Inv items.length h' ∧ Up s.heap h') E) F.called_set.init.plain F.entry_set_init (check_set_init_1 hT ?_)) fun r₂ s₂ hr₂ => ?_
      · obtain ⟨ol, hol, hcl, nl, hdl⟩ := id hl
        obtain ⟨ocls, odict, odata, oslots⟩ := ol
        simp only at hcl hdl
        subst hcl; subst hdl
        have hol' : (s.heap.push (freshSet led)).get? l = some { cls := .type "tuple", dict := odict, data := .seq (List.toArray items) nl, slots := oslots } := Heap.get?_push_of_some _ hol
        have hsls := sub_tuple_set
        have hslf := sub_tuple_frozenset
        have hne : (Value.type "tuple" == Value.type "dict") = false := by decide
        have hl1 : (s.heap.push (freshSet led)).IsTuple l (List.toArray items) := ⟨_, hol', rfl, nl, rfl⟩
        unfold freshSet at hS hT hol' hl1 ⊢
        unfold Builtin.«set.__init__» noKeywords Builtin.Frozenset.updateFrom
        generalize hPI : pyIter = PI
        wp_walk
        subst hPI
        refine wpAny_pyIter_tuple hl1 ?_
        refine wpAny_bind (wpAny_runValue ?_)
        have hlS : l < s.heap.objs.size := ltN hol
        have hIe : (s.heap.push { cls := .type "set", dict := none, data := .set #[] 0 (.fresh 0 0 led) }).objs.size = s.heap.objs.size + 1 := Heap.size_push ..
        dsimp only
        rw [hIe]
        refine set_loop (I := s.heap.objs.size + 1) (a := l) (S := s.heap.objs.size) (by omega) (by omega) (by omega) (A.units + 8) frame step (items.length - 0) 0 _ _ ?_ ?_ rfl (Nat.zero_le _) ?_ ?_ ?_ ?_
        · exact hh
        · show A.units + 1 + 1 + 1 ≤ A.units + 8; omega
        · show Heap.IsTupleIter (Heap.push _ _) _ _ _
          rw [← hIe]; exact ⟨_, Heap.get?_push_size _ rfl, rfl, rfl⟩
        · exact hl1.at fun o e => Heap.get?_push_of_some _ e
        · exact frame _ _ _ (h0 led) fun b o hb e => Heap.get?_push_of_some _ e
        · intro h' tk hI hk
          show wpAny _ _ _ _ _ _
          refine wpAny_pure ?_
          show wpAny _ _ (ret Value.none) _ _ _
          refine wpAny_pure ⟨rfl, h', tk, rfl, hI, fun b o e => ?_⟩
          have hb := ltN e
          exact hk b o (by omega) (by omega) (Heap.get?_push_of_some _ (Heap.get?_push_of_some _ e))
      · cases r₂ with
        | error e => exact hr₂
        | ok fl₂ =>
          cases fl₂ with
          | ret r =>
            obtain ⟨rfl, h', tk, rfl, hS', hk'⟩ := hr₂
            repeat (any_goals (first | assumption | wp_step))
            exact q _ _ hS' hk'
          | _ => exact hr₂.elim
    | _ => exact hr.elim
end

/-! part Fq17 -/

/-- how many are distinct, as far as one is asked for -/
def Cnt {α : Type} (l : List α) (n : Nat) : Prop := (l = [] → n = 0) ∧ (l ≠ [] → 1 ≤ n ∧ (n = 1 ↔ ∀ a ∈ l, ∀ b ∈ l, a = b))
theorem Cnt.more {α : Type} {l : List α} {n : Nat} {x : α} (c : Cnt l n) (hx : x ∈ l) : Cnt (l ++ [x]) n := by
  have hne : l ≠ [] := fun e => by rw [e] at hx; cases hx
  obtain ⟨h1, h2⟩ := c.2 hne
  refine ⟨by simp, fun _ => ⟨h1, h2.trans ⟨fun h a ha b hb => ?_, fun h a ha b hb => h a (List.mem_append_left _ ha) b (List.mem_append_left _ hb)⟩⟩⟩
  have m : ∀ y, y ∈ l ++ [x] → y ∈ l := fun y hy => by
    rcases List.mem_append.mp hy with hy | hy
    · exact hy
    · rw [List.mem_singleton.mp hy]; exact hx
  exact h a (m a ha) b (m b hb)
theorem Cnt.new {α : Type} {l : List α} {n : Nat} {x : α} (c : Cnt l n) (hx : x ∉ l) : Cnt (l ++ [x]) (n + 1) := by
  refine ⟨by simp, fun _ => ⟨by omega, ?_⟩⟩
  cases l with
  | nil => rw [c.1 rfl]; simp
  | cons y l =>
    obtain ⟨h1, h2⟩ := c.2 (by simp)
    constructor
    · intro h; omega
    · intro h
      have := h y (by simp) x (by simp)
      subst this
      exact absurd (by simp) hx
theorem take_succ' {α : Type} {l : List α} {i : Nat} {x : α} (e : l[i]? = some x) : l.take (i + 1) = l.take i ++ [x] := by
  rw [List.take_add_one, e]; rfl

section
variable {prog : Program} {w : World} {A : Around} {h : Heap}
/-- a set that counts -/
def SetCnt {α : Type} (g : Heap) (v : Value) (l : List α) : Prop := ∃ (a : Nat) (o : Obj) (es : Array (Int × Value)) (ep : Nat) (t : SetTable), v = .ref a ∧ g.get? a = some o ∧ o.ExactSet ∧ o.data = .set es ep t ∧ t.fits es.size = true ∧ Cnt l es.size ∧ es.size < 4096
theorem op_len_cnt {α : Type} {v : Value} {l : List α} (x : SetCnt h v l) : Gives (model prog w) A h (call (.builtin "len") [v]) fun r _ => ∃ (n : Nat) (t : Tok), r = .int (n : Int) t ∧ Cnt l n := fun Q E s k q => by
  obtain ⟨a, o, es, ep, t, rfl, ho, hex, hd, hf, hc, hsm⟩ := x
  exact call_len_set (k _ _ ho) hex hd hf (by omega) (q _ _ h (ran_tok k) ⟨_, _, rfl, hc⟩)
theorem scan_fresh (led : Bool) : (SetTable.fresh 0 0 led).fits 0 = true := by cases led <;> rfl
theorem op_set_strs {l : Nat} {vs : List Value} {xs : List Str} (hh : A.handled = none) (hl : h.IsTuple l (List.toArray vs)) (p : Paired (StrV h) vs xs) (h4 : xs.length ≤ 4) :
    Gives (model prog w) A h (call (.type "set") [.ref l]) fun v g => SetCnt g v xs := gives_of fun Q E s k q => by
  have hl' : s.heap.IsTuple l (List.toArray vs) := hl.at fun o e => k l o e
  have hlen := p.length
  refine call_set_tuple (Inv := fun i h' => ∃ n, h'.SetOf (PySem.strKind prog w) s.heap.objs.size (fun k => decide (k ∈ xs.take i)) n ∧ Cnt (xs.take i) n ∧ n ≤ i ∧ i ≤ xs.length) hh hl' (fun led => ?_) (fun i h₁ h₂ x kk => ?_) (fun A' i v s' Q' E' hu hv x qq => ?_) (fun h' tk x up => ?_)
  · refine ⟨0, ⟨_, #[], 0, .fresh 0 0 led, Heap.get?_push_size _ rfl, ⟨rfl, rfl, rfl⟩, rfl, ?_, ?_, by decide, scan_fresh led, rfl⟩, ⟨fun _ => rfl, fun e => absurd rfl e⟩, Nat.le_refl _, Nat.zero_le _⟩
    · intro e he; cases he
    · intro k; simp
  · obtain ⟨n, ⟨o, es, ep, t, ho, r⟩, r'⟩ := x
    exact ⟨n, ⟨o, es, ep, t, kk _ _ (Nat.ne_of_lt (Nat.lt_succ_self _)) ho, r⟩, r'⟩
  · obtain ⟨n, hS, hc, hn, hi⟩ := x
    obtain ⟨y, hy, t, rfl⟩ := paired_at p i v hv
    have hil : i < xs.length := by
      rcases Nat.lt_or_ge i xs.length with z | z
      · exact z
      · rw [List.getElem?_eq_none z] at hy; cases hy
    unfold setAdd
    refine wpAny_holding ?_
    refine wpAny_bind ((PySem.strKind prog w).pyHash (k := y) (by simp [PySem.strKind, Value.isStrOf]) ?_)
    refine wpAny_setAddHashed_of (knd := PySem.strKind prog w) (s := { s' with toks := s'.toks + 1 }) (by simp [PySem.strKind, Value.isStrOf]) rfl hS (by unfold scanBound; omega) fun h' hsb hS2 => ?_
    refine qq _ h' _ ?_ hsb
    by_cases hm : y ∈ xs.take i
    · refine ⟨n, SetOf_congr hS2 (fun k' => ?_) (by rw [if_pos (decide_eq_true hm)]), by rw [take_succ' hy]; exact hc.more hm, by omega, hil⟩
      rw [take_succ' hy]
      by_cases e : k' = y
      · subst e; simp [hm]
      · simp [e]
    · refine ⟨n + 1, SetOf_congr hS2 (fun k' => ?_) (by rw [if_neg (by simpa using hm)]), by rw [take_succ' hy]; exact hc.new hm, by omega, hil⟩
      rw [take_succ' hy]
      by_cases e : k' = y
      · subst e; simp
      · simp [e]
  · obtain ⟨n, ⟨o, es, ep, t, ho, hex, hd, _, _, hb, hf, rfl⟩, hc, hn, _⟩ := x
    rw [List.take_of_length_le (by omega)] at hc
    exact q _ _ ⟨h', tk, rfl, up⟩ fun g ug lg ng => ⟨_, o, es, ep, t, rfl, ng _ _ ho (none_size _), hex, hd, hf, hc, hb⟩
theorem op_set_pairs {l : Nat} {vs : List Value} {ds : List (List Str)} (hh : A.handled = none) (hu0 : A.units + 16 < cLine) (hl : h.IsTuple l (List.toArray vs)) (p : Paired (TupV StrV h) vs ds) (h4 : ds.length ≤ 4) :
    Gives (model prog w) A h (call (.type "set") [.ref l]) fun v g => SetCnt g v ds := gives_of fun Q E s k q => by
  have hl' : s.heap.IsTuple l (List.toArray vs) := hl.at fun o e => k l o e
  have hlen := p.length
  have keys : ∀ (i : Nat) v, vs[i]? = some v → ∃ (a : Nat) (ks : List Str), ds[i]? = some ks ∧ v = .ref a ∧ Key prog w s.heap ks a ∧ a < s.heap.objs.size := fun i v hv => by
    obtain ⟨ks, hk, a, us, rfl, ht, hp⟩ := paired_at p i v hv
    have ht' : s.heap.IsTuple a (List.toArray us) := ht.at fun o e => k a o e
    exact ⟨a, ks, hk, rfl, key_of ht' (paired_mono (fun _ _ z => z) hp), by obtain ⟨o, e, _⟩ := ht'; exact ltN e⟩
  refine call_set_tuple (Inv := fun i h' => i ≤ ds.length ∧ (∀ (b : Nat) o, s.heap.get? b = some o → h'.get? b = some o) ∧ ∃ es ep t, PairSet prog w h' s.heap.objs.size es ep t ∧ (∀ e ∈ es.toList, ∃ (a : Nat), e.2 = .ref a ∧ a < s.heap.objs.size) ∧ Cnt (ds.take i) es.size ∧ es.size ≤ i ∧
      (∀ e ∈ es.toList, ∃ (b : Nat) (ks : List Str), e.2 = .ref b ∧ Key prog w h' ks b ∧ ks ∈ ds.take i) ∧ (es.size = 1 → ∃ (b : Nat) (ks : List Str), es = #[(tupleKeyHash (PySem.strKind prog w) ks, .ref b)] ∧ Key prog w h' ks b ∧ t.slot (turn (SetTable.bits (tupleKeyHash (PySem.strKind prog w) ks)) 0).j = .live 0 ∧ ks ∈ ds.take i)) hh hl' (fun led => ?_) (fun i h₁ h₂ x kk => ?_) (fun A' i v s' Q' E' hu hv x qq => ?_) (fun h' tk x up => ?_)
  · refine ⟨Nat.zero_le _, fun b o e => Heap.get?_push_of_some _ e, #[], 0, .fresh 0 0 led, ⟨⟨_, Heap.get?_push_size _ rfl, ⟨rfl, rfl, rfl⟩, rfl⟩, ⟨rfl, rfl, rfl, fun i j e => by simp [SetTable.fresh] at e⟩, by decide, by simp⟩, by simp, ⟨fun _ => rfl, fun e => absurd rfl e⟩, Nat.le_refl _, by simp, fun e => by cases e⟩
  · obtain ⟨x0, x1, es, ep, t, x2, x3, x4, x5, x6, x7⟩ := x
    have mv : ∀ (a : Nat) ks, a < s.heap.objs.size → Key prog w h₁ ks a → Key prog w h₂ ks a := fun a ks ha y => y.at fun o e => kk a o (by omega) e
    refine ⟨x0, fun b o e => kk b o (by have := ltN e; omega) (x1 b o e), es, ep, t, ⟨?_, x2.small, x2.few, fun e he => ?_⟩, x3, x4, x5, fun e he => ?_, fun h1 => ?_⟩
    · obtain ⟨o, e, r⟩ := x2.obj; exact ⟨o, kk _ o (by omega) e, r⟩
    · obtain ⟨a, ks, e1, e2, e3⟩ := x2.keys e he
      obtain ⟨a', e4, e5⟩ := x3 e he
      rw [e1] at e4; cases e4
      exact ⟨a, ks, e1, mv a ks e5 e2, e3⟩
    · obtain ⟨b, ks, e1, e2, e3⟩ := x6 e he
      obtain ⟨a', e4, e5⟩ := x3 e he
      rw [e1] at e4; cases e4
      exact ⟨b, ks, e1, mv b ks e5 e2, e3⟩
    · obtain ⟨b, ks, e1, e2, e3, e6⟩ := x7 h1
      obtain ⟨a', e4, e5⟩ := x3 (tupleKeyHash (PySem.strKind prog w) ks, .ref b) (by rw [e1]; simp)
      cases e4
      exact ⟨b, ks, e1, mv b ks e5 e2, e3, e6⟩
  · obtain ⟨x0, x1, es, ep, t, x2, x3, x4, x5, x6, x7⟩ := x
    obtain ⟨a, ks, hks, rfl, hk0, ha⟩ := keys i v hv
    have hil : i < ds.length := by
      rcases Nat.lt_or_ge i ds.length with z | z
      · exact z
      · rw [List.getElem?_eq_none z] at hks; cases hks
    have hk : Key prog w s'.heap ks a := hk0.at fun o e => x1 a o e
    have huc : A'.units < cLine := by omega
    have haS : a ≠ s.heap.objs.size := by omega
    have htk := take_succ' hks
    -- nothing turns
    have same : ks ∈ ds.take i → ∀ tk, Q' false { s' with toks := tk } := fun hm tk => by
      refine qq false s'.heap tk ⟨hil, x1, es, ep, t, x2, x3, by rw [htk]; exact x4.more hm, by omega, fun e he => ?_, fun h1 => ?_⟩ (.refl _ _)
      · obtain ⟨b, ks', e1, e2, e3⟩ := x6 e he
        exact ⟨b, ks', e1, e2, by rw [htk]; exact List.mem_append_left _ e3⟩
      · obtain ⟨b, ks', e1, e2, e3, e4⟩ := x7 h1
        exact ⟨b, ks', e1, e2, e3, by rw [htk]; exact List.mem_append_left _ e4⟩
    by_cases hit : es.size = 1 ∧ ks ∈ ds.take i
    · obtain ⟨b, ks', e1, e2, e3, e4⟩ := x7 hit.1
      have hall := ((x4.2 (fun z => by rw [z] at e4; cases e4)).2.mp hit.1) ks' e4 ks hit.2
      subst hall
      subst e1
      exact hit_pair huc x2 hk e2 e3 (same hit.2)
    · -- a place that is free
      have hK : ∃ K, K ≤ 20 ∧ t.slot (turn (SetTable.bits (tupleKeyHash (PySem.strKind prog w) ks)) K).j = .empty ∧ (es.size = 0 → K = 0) := by
        by_cases h0 : es.size = 0
        · refine ⟨0, by omega, ?_, fun _ => rfl⟩
          cases e : t.slot (turn (SetTable.bits (tupleKeyHash (PySem.strKind prog w) ks)) 0).j with
          | empty => rfl
          | dummy => exact absurd e (slot_not_dummy x2.small.dum)
          | live i' =>
            have := slot_live e
            rw [Array.getElem?_eq_none (by rw [x2.small.size, h0]; omega)] at this; cases this
        · obtain ⟨je, hje, hse⟩ := some_empty x2.small (by have := x2.few; omega)
          obtain ⟨K, hK20, hKe⟩ := turn_reaches (SetTable.bits (tupleKeyHash (PySem.strKind prog w) ks)) (bits_lt _) je hje
          exact ⟨K, hK20, hKe ▸ hse, fun z => absurd z h0⟩
      obtain ⟨K, hK20, hKe, hK0⟩ := hK
      refine add_pair huc x2 (by omega) hk haS hK20 hKe (fun ⟨e, he, b, e1, e2⟩ => same ?_) (fun h' tk j pp ep' t' hpp hj hjk hsb hpl hps => ?_)
      · obtain ⟨b', ks', e3, e4, e5⟩ := x6 e he
        rw [e1] at e3; cases e3
        rw [e2.inj e4]; exact e5
      · have hsz : (SetTable.insertAt es pp (tupleKeyHash (PySem.strKind prog w) ks, Value.ref a)).size = es.size + 1 := insertAt_size _ _ _ hpp
        have mv : ∀ (b : Nat) ks, b < s.heap.objs.size → Key prog w s'.heap ks b → Key prog w h' ks b := fun b ks hb y => y.at fun o e => hsb.extBut b o (Nat.ne_of_lt hb) e
        have out : ∀ e ∈ (SetTable.insertAt es pp (tupleKeyHash (PySem.strKind prog w) ks, Value.ref a)).toList, ∃ (a : Nat), e.2 = .ref a ∧ a < s.heap.objs.size := fun e he => by
          rcases insertAt_mem _ _ _ _ he with rfl | he
          · exact ⟨a, rfl, ha⟩
          · exact x3 e he
        have in6 : ∀ e ∈ (SetTable.insertAt es pp (tupleKeyHash (PySem.strKind prog w) ks, Value.ref a)).toList, ∃ (b : Nat) (ks : List Str), e.2 = .ref b ∧ Key prog w h' ks b ∧ ks ∈ ds.take (i + 1) := fun e he => by
          rcases insertAt_mem _ _ _ _ he with rfl | he
          · exact ⟨a, ks, rfl, mv a ks ha hk, by rw [htk]; simp⟩
          · obtain ⟨b, ks', e1, e2, e3⟩ := x6 e he
            obtain ⟨a', e4, e5⟩ := x3 e he
            rw [e1] at e4; cases e4
            exact ⟨b, ks', e1, mv b ks' e5 e2, by rw [htk]; exact List.mem_append_left _ e3⟩
        refine qq true h' tk ⟨hil, fun b o e => hsb.extBut b o (Nat.ne_of_lt (ltN e)) (x1 b o e), _, ep', t', hps, out, ?_, by rw [hsz]; omega, in6, fun h1 => ?_⟩ hsb
        · rw [htk, hsz]
          by_cases hm : ks ∈ ds.take i
          · have hne : ds.take i ≠ [] := fun z => by rw [z] at hm; cases hm
            obtain ⟨c1, c2⟩ := x4.2 hne
            have c3 : es.size ≠ 1 := fun z => hit ⟨z, hm⟩
            refine ⟨by simp, fun _ => ⟨by omega, fun z => absurd z (by omega), fun z => ?_⟩⟩
            exact absurd (c2.mpr fun a ha b hb => z a (List.mem_append_left _ ha) b (List.mem_append_left _ hb)) c3
          · exact x4.new hm
        · rw [hsz] at h1
          have h0 : es.size = 0 := by omega
          have hes : es = #[] := Array.eq_empty_of_size_eq_zero h0
          subst hes
          obtain ⟨kk, hkk, rfl⟩ := hjk
          have hk0 : kk = 0 := by have := hK0 h0; omega
          subst hk0
          have hpl0 : t.place = #[] := Array.eq_empty_of_size_eq_zero (by rw [x2.small.size]; rfl)
          have hpp0 : pp = 0 := by simpa using hpp
          subst hpp0
          refine ⟨a, ks, by simp [SetTable.insertAt], mv a ks ha hk, ?_, by rw [htk]; simp⟩
          generalize hjj : (turn (SetTable.bits (tupleKeyHash (PySem.strKind prog w) ks)) 0).j = jj at *
          have hpl1 : t'.place = #[jj] := by rw [hpl]; unfold SetTable.put; simp [hpl0, SetTable.insertAt]
          unfold SetTable.slot
          rw [hpl1]
          have hb : SetTable.below #[jj] jj = 0 := by simp [SetTable.below, SetTable.below.go]
          rw [hb]
          simp
  · obtain ⟨x0, x1, es, ep, t, x2, x3, x4, x5, x6, x7⟩ := x
    obtain ⟨o, ho, hex, hd⟩ := x2.obj
    rw [List.take_of_length_le (by omega)] at x4
    exact q _ _ ⟨h', tk, rfl, up⟩ fun g ug lg ng => ⟨_, o, es, ep, t, rfl, ng _ _ ho (none_size _), hex, hd, x2.fits, x4, by have := x2.few; omega⟩
end

/-! part Fq18 -/

/-- within a call that began at s₀ over the known part h: L the frame, cs its cells, g what is known besides -/
structure FS (s₀ : Shared) (h : Heap) (L : Nat) (m : Str → Option Value) (cs : List (Str × Addr)) (cm : Str → Option Value) (g : Heap) (s : Shared) : Prop where
  ran : Ran h g s₀ s
  ns : s.heap.Ns L m
  offL : g.get? L = none
  freshL : s₀.heap.get? L = none
  cell : ∀ n c, cs.lookup n = some c → s.heap.IsCell c (cm n)
  offC : ∀ n (c : Nat), cs.lookup n = some c → g.get? c = none ∧ s₀.heap.get? c = none ∧ c ≠ L
  apart : ∀ n n' c, cs.lookup n = some c → cs.lookup n' = some c → n = n'

section
variable {M : Model} {A : Around} {s₀ s : Shared} {h g : Heap} {L : Nat} {m cm : Str → Option Value} {cs : List (Str × Addr)} {env : Env}
/-- what ge ⊆ gp tells outside the frame and its cells -/
structure Out (L : Nat) (cs : List (Str × Addr)) (ge gp g' : Heap) : Prop where
  seq : SeqUp gp g'
  new : ∀ b o, ge.get? b = none → gp.get? b = some o → g'.get? b = some o
  off : ∀ (b : Nat) o, b ≠ L → (∀ n c, cs.lookup n = some c → b ≠ c) → gp.get? b = some o → g'.get? b = some o
theorem FS.evalN {α : Type} {t : Sem α} {P : Heap → α → Heap → Prop} {Q : α → Shared → Prop} {E : Value → Shared → Prop} (x : FS s₀ h L m cs cm g s)
    (gv : ∀ ge, Up g ge → ge.Ns L m → (∀ n c, cs.lookup n = some c → ge.IsCell c (cm n)) → Gives M A ge t (P ge))
    (q : ∀ v s' ge gp g', FS s₀ h L m cs cm g' s' → Keeps s s' → Up g g' → Up g ge → Out L cs ge gp g' → P ge v gp → (∀ b, g'.get? b = none ∨ (∃ o, g.get? b = some o) ∨ s.heap.get? b = none) → Q v s') : wpAny M A t Q E s := by
  obtain ⟨ge, e1, e2⟩ := carve s.heap fun b => (∃ o, g.get? b = some o) ∨ b = L ∨ ∃ n c, cs.lookup n = some c ∧ b = c
  have ug : Up g ge := fun b o e => e2 b o (x.ran.low b o e) (.inl ⟨o, e⟩)
  have gN : ge.Ns L m := x.ns.at' fun o e => e2 L o e (.inr (.inl rfl))
  have gC : ∀ n c, cs.lookup n = some c → ge.IsCell c (cm n) := fun n c hc => by
    obtain ⟨o, a, b⟩ := x.cell n c hc
    exact ⟨o, e2 c o a (.inr (.inr ⟨n, c, hc, rfl⟩)), b⟩
  refine gv ge ug gN gC Q E s (fun b o e => (e1 b o e).1) fun v s' gp r p => ?_
  obtain ⟨g', f1, f2⟩ := carve gp fun b => b ≠ L ∧ ∀ n c, cs.lookup n = some c → b ≠ c
  have ug' : Up g g' := fun b o e => f2 b o (r.up b o (ug b o e)) ⟨fun z => (by rw [z, x.offL] at e; cases e), fun n c hc z => (by rw [z, (x.offC n c hc).1] at e; cases e)⟩
  have pN : gp.Ns L m := gN.at' fun o e => r.up L o e
  have pC : ∀ n c, cs.lookup n = some c → gp.IsCell c (cm n) := fun n c hc => by
    obtain ⟨o, a, b⟩ := gC n c hc; exact ⟨o, r.up c o a, b⟩
  have nL : ∀ o, g'.get? L = some o → False := fun o e => (f1 L o e).2.1 rfl
  refine q v s' ge gp g' ⟨⟨keeps_trans x.ran.keeps r.keeps, fun b o e => ug' b o (x.ran.up b o e), fun b o e => r.low b o (f1 b o e).1, fun b o e => ?_⟩, pN.at' fun o e => r.low L o e, ?_, x.freshL, fun n c hc => ?_, fun n c hc => ⟨?_, (x.offC n c hc).2⟩, x.apart⟩ r.keeps ug' ug ⟨fun b o xs n e d => ?_, fun b o e e' => ?_, fun b o a c e => f2 b o e ⟨a, c⟩⟩ p fun b => ?_
  · obtain ⟨a1, a2, a3⟩ := f1 b o e
    rcases r.new b o a1 with a | a
    · obtain ⟨b1, b2 | b2 | ⟨n, c, hc, b2⟩⟩ := e1 b o a
      · obtain ⟨o', b2⟩ := b2
        have := ug b o' b2
        rw [a] at this; cases this
        exact x.ran.new b o b2
      · exact absurd b2 a2
      · exact absurd b2 (a3 n c hc)
    · refine .inr ?_
      cases z : s₀.heap.get? b with
      | none => rfl
      | some o' => rw [keeps_up x.ran.keeps b o' z] at a; cases a
  · cases z : g'.get? L with
    | none => rfl
    | some o => exact (nL o z).elim
  · obtain ⟨o, a, b⟩ := pC n c hc; exact ⟨o, r.low c o a, b⟩
  · cases z : g'.get? c with
    | none => rfl
    | some o => exact absurd rfl ((f1 c o z).2.2 n c hc)
  · refine f2 b o e ⟨fun z => ?_, fun n c hc z => ?_⟩
    · subst z; obtain ⟨o', _, _, e', d', _⟩ := pN; rw [e] at e'; cases e'; rw [d] at d'; cases d'
    · subst z; obtain ⟨o', e', d'⟩ := pC n b hc; rw [e] at e'; cases e'; rw [d] at d'; cases d'
  · refine f2 b o e' ⟨fun z => ?_, fun n c hc z => ?_⟩
    · subst z; obtain ⟨o', _, _, a, _⟩ := gN; rw [e] at a; cases a
    · subst z; obtain ⟨o', a, _⟩ := gC n b hc; rw [e] at a; cases a
  · cases z : g'.get? b with
    | none => exact .inl rfl
    | some o =>
      obtain ⟨a1, a2, a3⟩ := f1 b o z
      rcases r.new b o a1 with a | a
      · obtain ⟨b1, b2 | b2 | ⟨n, c, hc, b2⟩⟩ := e1 b o a
        · exact .inr (.inl b2)
        · exact absurd b2 a2
        · exact absurd b2 (a3 n c hc)
      · exact .inr (.inr a)
theorem FS.evalK {α : Type} {t : Sem α} {P : Heap → α → Heap → Prop} {Q : α → Shared → Prop} {E : Value → Shared → Prop} (x : FS s₀ h L m cs cm g s)
    (gv : ∀ ge, Up g ge → ge.Ns L m → (∀ n c, cs.lookup n = some c → ge.IsCell c (cm n)) → Gives M A ge t (P ge))
    (q : ∀ v s' ge gp g', FS s₀ h L m cs cm g' s' → Keeps s s' → Up g g' → Up g ge → Out L cs ge gp g' → P ge v gp → Q v s') : wpAny M A t Q E s :=
  x.evalN gv fun v s' ge gp g' a k b c d e _ => q v s' ge gp g' a k b c d e
theorem FS.eval {α : Type} {t : Sem α} {P : Heap → α → Heap → Prop} {Q : α → Shared → Prop} {E : Value → Shared → Prop} (x : FS s₀ h L m cs cm g s)
    (gv : ∀ ge, Up g ge → ge.Ns L m → (∀ n c, cs.lookup n = some c → ge.IsCell c (cm n)) → Gives M A ge t (P ge))
    (q : ∀ v s' ge gp g', FS s₀ h L m cs cm g' s' → Up g g' → Up g ge → Out L cs ge gp g' → P ge v gp → Q v s') : wpAny M A t Q E s :=
  x.evalK gv fun v s' ge gp g' a _ b c d e => q v s' ge gp g' a b c d e
theorem FS.tok (x : FS s₀ h L m cs cm g s) (tk : Nat) : FS s₀ h L m cs cm g { s with toks := tk } :=
  ⟨⟨keeps_trans x.ran.keeps (keeps_tok s tk), x.ran.up, x.ran.low, x.ran.new⟩, x.ns, x.offL, x.freshL, x.cell, x.offC, x.apart⟩
theorem FS.storeK {name : Str} {v : Value} {Q : Unit → Shared → Prop} {E : Value → Shared → Prop} (x : FS s₀ h L m cs cm g s) (hL : env.locals = L) (hl : env.kindOf name = some .local)
    (q : ∀ s', FS s₀ h L (fun y => if y = name then some v else m y) cs cm g s' → (∀ (b : Nat) o, b ≠ L → s.heap.get? b = some o → s'.heap.get? b = some o) → Q () s') (hp : (env.scope.kind == .class || (env.scope.kind == .module && env.locals != env.globals)) = false := by rfl) : wpAny M A (storeName env name v) Q E s := by
  subst hL
  refine wpAny_storeName_local hl x.ns (fun h' hn hs => q _ ⟨⟨?_, x.ran.up, fun b o e => hs.extBut b o (fun z => ?_) (x.ran.low b o e), x.ran.new⟩, hn, x.offL, x.freshL, fun n c hc => ?_, x.offC, x.apart⟩ fun b o hb e => hs.extBut b o hb e) hp
  · obtain ⟨h₁, t₁, rfl, k₁⟩ := x.ran.keeps
    exact ⟨h', t₁ + 1, rfl, fun b o e => hs.extBut b o (fun z => by subst z; rw [x.freshL] at e; cases e) (k₁ b o e)⟩
  · subst z; rw [x.offL] at e; cases e
  · obtain ⟨o, a, b⟩ := x.cell n c hc
    exact ⟨o, hs.extBut _ _ (x.offC n c hc).2.2 a, b⟩
theorem FS.store {name : Str} {v : Value} {Q : Unit → Shared → Prop} {E : Value → Shared → Prop} (x : FS s₀ h L m cs cm g s) (hL : env.locals = L) (hl : env.kindOf name = some .local)
    (q : ∀ s', FS s₀ h L (fun y => if y = name then some v else m y) cs cm g s' → Q () s') (hp : (env.scope.kind == .class || (env.scope.kind == .module && env.locals != env.globals)) = false := by rfl) : wpAny M A (storeName env name v) Q E s :=
  x.storeK hL hl (fun s' a _ => q s' a) hp
theorem FS.store_cell {name : Str} {v : Value} {c : Nat} {Q : Unit → Shared → Prop} {E : Value → Shared → Prop} (x : FS s₀ h L m cs cm g s) (hc : cs.lookup name = some c) (he : env.cells = cs) (hk : env.scope.kind = .function) (hl : env.kindOf name = some .cell)
    (q : ∀ s', FS s₀ h L m cs (fun y => if y = name then some v else cm y) g s' → Q () s') : wpAny M A (storeName env name v) Q E s := by
  subst he
  obtain ⟨c1, c2, c3⟩ := x.offC name c hc
  refine wpAny_storeName_cell hk hl hc (x.cell name c hc) fun h' hn hs => q _ ⟨⟨?_, x.ran.up, fun b o e => hs.extBut b o (fun z => ?_) (x.ran.low b o e), x.ran.new⟩, x.ns.sameBut hs (Ne.symm c3), x.offL, x.freshL, fun n c' hc' => ?_, x.offC, x.apart⟩
  · obtain ⟨h₁, t₁, rfl, k₁⟩ := x.ran.keeps
    exact ⟨h', t₁, rfl, fun b o e => hs.extBut b o (fun z => by subst z; rw [c2] at e; cases e) (k₁ b o e)⟩
  · subst z; rw [c1] at e; cases e
  · by_cases hn' : n = name
    · subst hn'
      rw [hc] at hc'; cases hc'
      simpa using hn
    · rw [if_neg hn']
      obtain ⟨o, a, b⟩ := x.cell n c' hc'
      exact ⟨o, hs.extBut _ _ (fun z => hn' (x.apart n name c' hc' (z ▸ hc))) a, b⟩
end

section
variable {prog : Program} {w : World} {A : Around} {h : Heap}
theorem pairwise_ne {α β : Type} {l : List (α × β)} (p : l.Pairwise fun x y => x.2 ≠ y.2) {x y : α × β} (hx : x ∈ l) (hy : y ∈ l) (hn : x ≠ y) : x.2 ≠ y.2 := by
  induction p with
  | nil => cases hx
  | cons h _ ih =>
    rcases List.mem_cons.mp hx with e1 | hx'
    · rcases List.mem_cons.mp hy with e2 | hy'
      · exact absurd (e1.trans e2.symm) hn
      · rw [e1]; exact h y hy'
    · rcases List.mem_cons.mp hy with e2 | hy'
      · rw [e2]; exact (h x hx').symm
      · exact ih hx' hy'
def GivesC (M : Model) (A : Around) (h : Heap) (c : Code) (P : Value → Heap → Prop) : Prop :=
  ∀ (Q : Value → Shared → Prop) (E : Value → Shared → Prop) (s : Shared), Up h s.heap → (∀ v s' g, Ran h g s s' → P v g → Q v s') → codeAny M A c (wants Q E) s
theorem GivesC.call {M : Model} {A : Around} {h : Heap} {f : Value} {args : List Value} {P : Value → Heap → Prop} (x : GivesC M A h (.call f ⟨args, []⟩) P) : Gives M A h (PySem.call f args []) P := fun Q E s k q => wpAny_call (x Q E s k q)
/-- a call of a function of the program: its body returns over the known part -/
theorem call_fn {a : Nat} {o : Obj} {fd : FuncData} {body : List Stmt} {args : List Value} {P : Value → Heap → Prop} {B : List (Str × Value) → Heap → Prop}
    (hroom : A.depth < recursionLimit) (ho : h.get? a = some o) (hdat : o.data = .func fd) (hbody : fd.body = .stmts body) (hcode : h.CodeRec fd.code fd.qualname) (hlim : h.NoLimit)
    (hco : fd.scope.isCoroutine = false) (hgen : fd.scope.isGenerator = false) (hk : fd.scope.kind = .function) (hclos : fd.closure = [])
    (hbind : Gives (model prog w) A.in1 h (bindArgs fd ⟨args, []⟩) B)
    (hkind : ∀ binds g, B binds g → ∀ x ∈ binds, fd.scope.names.lookup x.1 = some .local ∨ (fd.scope.names.lookup x.1 = some .cell ∧ ∀ n, ((cellsFrom n fd.scope.names []).lookup x.1).isSome = true))
    (run : ∀ binds g (s₀ s : Shared) (L : Nat) (env : Env), B binds g → env = callEnvC fd L a → FS s₀ h L (bindL env.kindOf binds fun _ => none) env.cells (bindC env.kindOf binds fun _ => none) g s →
      ∀ (Q : Flow → Shared → Prop) (E : Value → Shared → Prop), (∀ f s' g', Ran h g' s₀ s' → P (match f with | .ret v => v | _ => .none) g' → Q f s') → wpAny (model prog w) (A.deeper env) (execs body env) Q E s) :
    GivesC (model prog w) A h (.call (.ref a) ⟨args, []⟩) P := fun Q E s k q => by
  refine codeAny_call_function hroom (k a o ho) hdat hco hgen hbody (hcode.keeps k) (hbind _ _ s k fun binds s₁ g r hB => ?_)
  rw [hclos]
  refine wpAny_newFunctionEnv_cells hk (fun x hx => (hkind binds g hB x hx).imp id fun y => ⟨y.1, y.2 _⟩) fun env he s₂ hc => ?_
  have big : ∀ (b : Nat), s₁.heap.objs.size ≤ b → g.get? b = none ∧ s.heap.get? b = none := fun b hb => by
    constructor
    · cases e : g.get? b with
      | none => rfl
      | some o => exact absurd (ltN (r.low b o e)) (by omega)
    · cases e : s.heap.get? b with
      | none => rfl
      | some o => exact absurd (ltN (keeps_up r.keeps b o e)) (by omega)
  have hf : s₁.heap.objs.size ≤ env.locals := hc.toInCall.fresh
  obtain ⟨h₂, tk₂, rfl, k₂⟩ := hc.done
  have low : Up g h₂ := fun b o e => k₂ b o (r.low b o e)
  have hFS : FS s h env.locals (bindL env.kindOf binds fun _ => none) env.cells (bindC env.kindOf binds fun _ => none) g { s₁ with heap := h₂, toks := tk₂ } :=
    ⟨⟨keeps_trans r.keeps ⟨h₂, tk₂, rfl, k₂⟩, r.up, low, r.new⟩, hc.toInCall.ns, (big _ hf).1, (big _ hf).2, hc.cell, fun n c hcs => by
      have ha : env.locals < c := hc.above n c (mem_of_lookup hcs)
      have hc' : s₁.heap.objs.size ≤ c := Nat.le_trans hf (Nat.le_of_lt ha)
      exact ⟨(big c hc').1, (big c hc').2, Nat.ne_of_gt ha⟩, fun n n' c h1 h2 => by
      by_cases e : n = n'
      · exact e
      · have m1 := mem_of_lookup h1
        have m2 := mem_of_lookup h2
        exact absurd rfl (pairwise_ne (x := (n, c)) (y := (n', c)) hc.apart m1 m2 (fun z => e (Prod.mk.inj z).1))⟩
  refine ⟨(hlim.keeps fun b o e => r.up b o e).keeps low, ?_⟩
  refine codeAny_func (run binds g s _ env.locals env hB (by rw [he]; rfl) hFS _ _ fun f s' g' r' p => ?_)
  exact q _ _ g' r' p
end

/-! part Fq20 -/

theorem slice_cps (x : Str) (l u : Option Int) : (Txt.slice x l u).cps.toList = (x.cps.toList.drop (l.elim 0 (clipAt x.length))).take (u.elim x.length (clipAt x.length) - l.elim 0 (clipAt x.length)) := by
  have e : Builtin.Str.strSliceIndices l u 1 x.length = (List.range ((u.elim x.length (clipAt x.length)) - l.elim 0 (clipAt x.length))).map (l.elim 0 (clipAt x.length) + ·) := by
    have h := sliceBounds_plain l u x.length
    have h' : Builtin.Str.strSliceIndices l u 1 x.length = sliceRange (sliceBounds l u none x.length).1 (sliceBounds l u none x.length).2.1 1 := rfl
    rw [h', h]
    exact sliceRange_one _ _
  have hlen : x.length = x.cps.toList.length := by simp [Str.length]
  have hu : u.elim x.length (clipAt x.length) ≤ x.length := by
    cases u with
    | none => exact Nat.le_refl _
    | some i => show clipAt x.length i ≤ x.length; have := clipAt_cast x.length i; omega
  unfold Txt.slice
  rw [e]
  split
  · rename_i h
    simp only [List.length_map, List.length_range, Bool.and_eq_true, beq_iff_eq] at h
    generalize hlo : l.elim 0 (clipAt x.length) = lo at *
    generalize hhi : u.elim x.length (clipAt x.length) = hi at *
    have h2 : hi - lo = x.length := h.2
    rw [h2]
    by_cases h0 : lo = 0
    · subst h0; rw [List.drop_zero, List.take_of_length_le (by omega)]
    · have hz : x.length = 0 := by omega
      have hn : x.cps.toList = [] := List.length_eq_zero_iff.mp (by omega)
      rw [hn]; simp
  · exact (pick_run x.cps _ _)
theorem signs_slice_from (x : Str) (a : Nat) : PyProof.Rows.signs (Txt.slice x (some (a : Int)) none) = (PyProof.Rows.signs x).drop a := by
  unfold PyProof.Rows.signs
  rw [slice_cps]
  simp only [Option.elim, clipAt_nat]
  have hlen : x.length = x.cps.toList.length := by simp [Str.length]
  rw [List.take_of_length_le (by rw [List.length_drop]; omega), List.map_drop]
  rcases Nat.le_total a x.length with h | h
  · rw [Nat.min_eq_left h]
  · rw [Nat.min_eq_right h, List.drop_of_length_le (by rw [List.length_map]; omega), List.drop_of_length_le (by rw [List.length_map]; omega)]
theorem signs_slice_upto (x : Str) (b : Nat) : PyProof.Rows.signs (Txt.slice x none (some (b : Int))) = (PyProof.Rows.signs x).take b := by
  unfold PyProof.Rows.signs
  rw [slice_cps]
  simp only [Option.elim, clipAt_nat, List.drop_zero, Nat.sub_zero]
  have hlen : x.length = x.cps.toList.length := by simp [Str.length]
  rw [List.map_take]
  rcases Nat.le_total b x.length with h | h
  · rw [Nat.min_eq_left h]
  · rw [Nat.min_eq_right h, List.take_of_length_le (by rw [List.length_map]; omega), List.take_of_length_le (by rw [List.length_map]; omega)]
abbrev sg (x : Str) : List Str := PyProof.Rows.signs x
theorem sg_inj {x y : Str} (h : sg x = sg y) : x = y := by
  obtain ⟨a⟩ := x
  obtain ⟨b⟩ := y
  have : ∀ (l k : List Nat), l.map (fun n => (⟨#[n]⟩ : Str)) = k.map (fun n => (⟨#[n]⟩ : Str)) → l = k := fun l => by
    induction l with
    | nil => intro k h; cases k with
      | nil => rfl
      | cons b k => cases h
    | cons a l ih => intro k h; cases k with
      | nil => cases h
      | cons b k =>
        simp only [List.map_cons, List.cons.injEq, Str.mk.injEq] at h
        have h1 := h.1
        simp at h1
        rw [h1, ih k h.2]
  have := this a.toList b.toList h
  rw [show a = b from Array.toList_inj.mp this]
theorem sg_at {x : Str} {i : Nat} {v : Value} (h : SignAt x i v) : ∃ y, (sg x)[i]? = some y ∧ ∃ t, v = .str y t := by
  obtain ⟨c, u, hc, rfl⟩ := h
  refine ⟨⟨#[c]⟩, ?_, u, rfl⟩
  unfold sg PyProof.Rows.signs
  rw [List.getElem?_map, Array.getElem?_toList, hc]
  rfl
theorem sg_len (x : Str) : (sg x).length = x.cps.size := by simp [sg, PyProof.Rows.signs]

/-! a row: a list of items, or a text's signs -/
def RowV (h : Heap) (v : Value) (l : List It) : Prop := LstV ItV h v l ∨ ∃ x t, v = .str x t ∧ l = (sg x).map .s
theorem rowV_st : Stable RowV := fun h h' v l k x => x.imp (fun x => lstV_st itV_st _ _ _ _ k x) id
theorem row_src {h : Heap} {v : Value} {l : List It} (x : RowV h v l) : ∃ P, Src h v l.length P ∧ ∀ j y, P j y → ∃ a, l[j]? = some a ∧ ItV h y a := by
  rcases x with ⟨a, vs, rfl, hl, hp⟩ | ⟨x, t, rfl, rfl⟩
  · have hlen := hp.length
    have s : Src h (.ref a) (List.toArray vs).size (fun i v => (List.toArray vs)[i]? = some v) := .list hl
    rw [show (List.toArray vs).size = l.length from by simpa using hlen] at s
    exact ⟨_, s, fun j y e => paired_at hp j y (by simpa using e)⟩
  · have s : Src h (.str x t) x.cps.size (SignAt x) := .str
    rw [show x.cps.size = ((sg x).map It.s).length from by rw [List.length_map, sg_len]] at s
    refine ⟨_, s, fun j y e => ?_⟩
    obtain ⟨z, hz, t', rfl⟩ := sg_at e
    exact ⟨.s z, by rw [List.getElem?_map, hz]; rfl, t', rfl⟩
theorem row_lenV {h : Heap} {v : Value} {l : List It} (x : RowV h v l) (hs : l.length < sizeLine) : LenV h v l.length := by
  rcases x with ⟨a, vs, rfl, hl, hp⟩ | ⟨x, t, rfl, rfl⟩
  · exact .inl ⟨a, _, rfl, hl, by have := hp.length; simpa using this, hs⟩
  · exact .inr ⟨x, t, rfl, by rw [List.length_map, sg_len]; rfl, hs⟩
theorem paired_drop {α β : Type} {F : α → β → Prop} : ∀ {l : List α} {k : List β} (n : Nat), Paired F l k → Paired F (l.drop n) (k.drop n)
  | _, _, 0, p => p
  | _, _, _ + 1, .nil => .nil
  | _, _, n + 1, .cons _ r => paired_drop n r
theorem paired_take {α β : Type} {F : α → β → Prop} : ∀ {l : List α} {k : List β} (n : Nat), Paired F l k → Paired F (l.take n) (k.take n)
  | _, _, 0, p => .nil
  | _, _, _ + 1, .nil => .nil
  | _, _, n + 1, .cons x r => .cons x (paired_take n r)
theorem paired_of {α β : Type} {F : α → β → Prop} {l : List α} {k : List β} (hl : l.length = k.length) (f : ∀ (i : Nat) a b, l[i]? = some a → k[i]? = some b → F a b) : Paired F l k := by
  induction l generalizing k with
  | nil => cases k with
    | nil => exact .nil
    | cons b k => simp at hl
  | cons a l ih => cases k with
    | nil => simp at hl
    | cons b k => exact .cons (f 0 a b rfl rfl) (ih (by simpa using hl) fun i a b ha hb => f (i + 1) a b (by simpa using ha) (by simpa using hb))
theorem paired_both {α β : Type} {F : α → β → Prop} : ∀ {l : List α} {k : List β} (p : Paired F l k) (i : Nat) (b : β), k[i]? = some b → ∃ a, l[i]? = some a ∧ F a b
  | _, _, .nil, i, b, e => by simp at e
  | _, _, .cons x r, 0, b, e => by simp at e; subst e; exact ⟨_, by simp, x⟩
  | _, _, .cons x r, i + 1, b, e => by simp at e; simpa using paired_both r i b e

/-! part Fq21 -/
section
variable {M : Model} {h : Heap} {env : Env} {x : Str}
theorem lk_local {m : Str → Option Value} {v : Value} (hk : env.scope.kind = .function) (hl : env.kindOf x = some .local) (hn : h.Ns env.locals m) (hv : m x = some v) : Looks M h (loadName env x) v :=
  fun A Q E s k q => wpAny_loadName_local hk hl (hn.keeps k) hv q
theorem lk_cell {c : Addr} {v : Value} (hk : env.scope.kind = .function) (hl : env.kindOf x = some .cell) (hc : env.cells.lookup x = some c) (hv : h.IsCell c (some v)) : Looks M h (loadName env x) v :=
  fun A Q E s k q => wpAny_loadName_cell hk hl hc (hv.keeps k) q
theorem lk_free {c : Addr} {v : Value} (hk : env.scope.kind = .function) (hl : env.kindOf x = some .free) (hc : env.cells.lookup x = some c) (hv : h.IsCell c (some v)) (hn : (x == ("__classdict__" : Str)) = false := by decide) : Looks M h (loadName env x) v :=
  fun A Q E s k q => wpAny_loadName_free hk hl hc (hv.keeps k) q hn
theorem lk_global_of {v : Value} (hk : env.scope.kind = .function) (hx : env.kindOf x = some .globalImplicit) (l : Looks M h (loadGlobal env x) v) : Looks M h (loadName env x) v := fun A Q E s k q => by
  unfold loadName
  simp only [Env.blockKind, hk, hx, ScopeKind.isAnnotationScope, Bool.false_and, Bool.false_eq_true, if_false]
  exact l A Q E s k q
/-- what every call of this program stands on -/
structure Wd (K : Frag) (mg mb : Str → Option Value) (h : Heap) : Prop where
  K : K.In h
  g : h.Ns mainGlobals mg
  b : h.Ns builtinsNs mb
  nolimit : h.NoLimit
  builtins : ∀ x : Str, x ≠ "__name__" → mb x = bootBuiltins x
variable {K : Frag} {mg mb : Str → Option Value}
theorem Wd.up {h' : Heap} (x : Wd K mg mb h) (k : Up h h') : Wd K mg mb h' := ⟨x.K.keeps k, x.g.keeps k, x.b.keeps k, x.nolimit.keeps k, x.builtins⟩
theorem lk_builtin {v : Value} (W : Wd K mg mb h) (hk : env.scope.kind = .function) (hx : env.kindOf x = some .globalImplicit) (hg : env.globals = mainGlobals) (hb : env.builtins = builtinsNs) (e : nsIn K mainGlobals x = some none) (hv : bootBuiltins x = some v) (hn : x ≠ "__name__") :
    Looks M h (loadName env x) v := lk_global_of hk hx fun A Q E s k q => loadGlobal_builtin (show s.heap.Ns env.globals mg from hg ▸ W.g.keeps k) (mg_none_of W.K W.g e) (show s.heap.Ns env.builtins mb from hb ▸ W.b.keeps k) ((W.builtins x hn).trans hv) q
theorem lk_global {v : Value} (W : Wd K mg mb h) (hk : env.scope.kind = .function) (hx : env.kindOf x = some .globalImplicit) (hg : env.globals = mainGlobals) (e : nsIn K mainGlobals x = some (some v)) :
    Looks M h (loadName env x) v := lk_global_of hk hx fun A Q E s k q => loadGlobal_global (show s.heap.Ns env.globals mg from hg ▸ W.g.keeps k) (mg_of W.K W.g e) q
end
/-- what a call leaves room for -/
structure Fine (A : Around) (n : Nat) : Prop where
  handled : A.handled = none
  depth : A.depth + n ≤ 900
  units : A.units + 40 * n ≤ 9000
section
variable {A : Around}
theorem Fine.lt {n : Nat} (F : Fine A n) : A.depth < recursionLimit := by have := F.depth; show A.depth < 1000; omega
theorem Fine.deep {n : Nat} (F : Fine A (n + 1)) (env : Env) : Fine (A.deeper env) n := ⟨F.handled, by have := F.depth; show A.depth + 1 + n ≤ 900; omega, by have := F.units; show A.units + 3 + 40 * n ≤ 9000; omega⟩
theorem Fine.in1 {n : Nat} (F : Fine A (n + 1)) : Fine A.in1 n := ⟨F.handled, by have := F.depth; show A.depth + n ≤ 900; omega, by have := F.units; show A.units + 1 + 40 * n ≤ 9000; omega⟩
theorem Fine.less {n m : Nat} (F : Fine A n) (h : m ≤ n) : Fine A m := ⟨F.handled, by have := F.depth; omega, by have := F.units; omega⟩
theorem Fine.u64 {n : Nat} (F : Fine A n) : A.units + 64 < cLine := by have := F.units; show A.units + 64 < 9900; omega
theorem Fine.u16 {n : Nat} (F : Fine A n) : A.units + 16 < cLine := by have := F.units; show A.units + 16 < 9900; omega
end
theorem cells_in : ∀ (names : List (Str × NameKind)) (n : Nat) (acc : List (Str × Addr)) (x : Str), ((acc.lookup x).isSome = true ∨ names.any (fun y => y.1 == x && y.2 == .cell) = true) → ((cellsFrom n names acc).lookup x).isSome = true
  | [], n, acc, x, h => by rcases h with h | h; exact h; simp at h
  | (y, k) :: r, n, acc, x, h => by
    unfold cellsFrom
    by_cases hk : (k == NameKind.cell) = true
    · rw [if_pos hk]
      refine cells_in r (n + 1) _ x ?_
      by_cases e : (x == y) = true
      · exact .inl (by rw [List.lookup_cons, e]; rfl)
      · rcases h with h | h
        · exact .inl (by rw [List.lookup_cons]; simp only [e]; exact h)
        · rw [List.any_cons, Bool.or_eq_true] at h
          rcases h with h | h
          · rw [Bool.and_eq_true] at h
            exact absurd (show (x == y) = true by rw [show y = x from eq_of_beq h.1]; simp) e
          · exact .inr h
    · rw [if_neg hk]
      refine cells_in r n acc x (h.imp id fun h => ?_)
      rw [List.any_cons, Bool.or_eq_true, Bool.and_eq_true] at h
      rcases h with h | h
      · exact absurd h.2 hk
      · exact h
def boundAll (names : List (Str × NameKind)) (xs : List Str) : Bool := xs.all fun x => (names.lookup x == some .local) || ((names.lookup x == some .cell) && names.any (fun y => y.1 == x && y.2 == .cell))
theorem bound_kind {names : List (Str × NameKind)} {binds : List (Str × Value)} (h : boundAll names (binds.map (·.1)) = true) : ∀ x ∈ binds, names.lookup x.1 = some .local ∨ (names.lookup x.1 = some .cell ∧ ∀ n, ((cellsFrom n names []).lookup x.1).isSome = true) := fun x hx => by
  have := List.all_eq_true.mp h x.1 (List.mem_map_of_mem hx)
  rw [Bool.or_eq_true, Bool.and_eq_true] at this
  rcases this with h1 | ⟨h1, h2⟩
  · exact .inl (eq_of_beq h1)
  · exact .inr ⟨eq_of_beq h1, fun n => cells_in _ _ _ _ (.inr h2)⟩

section
variable {prog : Program} {w : World} {A : Around} {h : Heap}
/-- a function whose body is one return -/
theorem call_ret {a : Nat} {o : Obj} {fd : FuncData} {e : Expr} {pos : Pos} {args : List Value} {P : Value → Heap → Prop} {P' : Heap → Value → Heap → Prop} {B : List (Str × Value) → Heap → Prop} (xs : List Str)
    (hroom : A.depth < recursionLimit) (ho : h.get? a = some o) (hdat : o.data = .func fd) (hbody : fd.body = .stmts [.Return (some e) pos]) (hcode : h.CodeRec fd.code fd.qualname) (hlim : h.NoLimit)
    (hco : fd.scope.isCoroutine = false) (hgen : fd.scope.isGenerator = false) (hk : fd.scope.kind = .function) (hclos : fd.closure = [])
    (hbind : Gives (model prog w) A.in1 h (bindArgs fd ⟨args, []⟩) B)
    (hB : ∀ binds g, B binds g → binds.map (·.1) = xs) (hxs : boundAll fd.scope.names xs = true)
    (gv : ∀ binds g ge L env, B binds g → env = callEnvC fd L a → Up h g → Up g ge → ge.Ns L (bindL env.kindOf binds fun _ => none) → (∀ n c, env.cells.lookup n = some c → ge.IsCell c (bindC env.kindOf binds (fun _ => none) n)) → Gives (model prog w) (A.deeper env) ge (eval e env) (P' ge))
    (tr : ∀ v ge gp g', Up h ge → Up h g' → SeqUp gp g' → (∀ b o, ge.get? b = none → gp.get? b = some o → g'.get? b = some o) → P' ge v gp → P v g') :
    GivesC (model prog w) A h (.call (.ref a) ⟨args, []⟩) P := by
  refine call_fn hroom ho hdat hbody hcode hlim hco hgen hk hclos hbind (fun binds g hb => bound_kind (by rw [hB binds g hb]; exact hxs)) fun binds g s₀ s L env hb he x Q E q => ?_
  refine wpAny_execs_cons (wpAny_Return_some ?_)
  refine x.eval (fun ge ug gN gC => gv binds g ge L env hb he x.ran.up ug gN gC) fun v s' ge gp g' x' ug ue out p => ?_
  exact q _ s' g' x'.ran (tr v ge gp g' (fun b o e => ue b o (x.ran.up b o e)) x'.ran.up out.seq out.new p)
end

/-! part Hd -/
section
set_option maxHeartbeats 8000000
open_top hd for PySem.Challenge.rw_fq5031_01

end
/-! part Fq22 -/
section
variable {w : World} {A : Around} {h : Heap} {mg mb : Str → Option Value}
def pairUp (l : List Str) : List It := (List.zip l l.tail).map fun p => .p p.1 p.2
theorem c_find_ngrams (W : Wd (hd.heap_39 w.params) mg mb h) (F : Fine A 5) {v₀ : Value} {t : Tok} {xs : List Str} (hv : RowV h v₀ (xs.map .s)) (hsm : xs.length < 1000) :
    Gives (model PySem.Challenge.rw_fq5031_01.row.prog w) A h (call (.ref 26) [v₀, .int 2 t] []) fun r g => LstV ItV g r (pairUp xs) := by
  refine GivesC.call ?_
  refine call_ret (P' := fun ge r gp => LstV ItV gp r (pairUp xs)) (B := fun b _ => b = [(("input_list" : Str), v₀), (("n" : Str), .int 2 t)]) ["input_list", "n"] F.lt (W.K 26 _ rfl) rfl rfl ⟨25, _, _, _, rfl, W.K 25 _ rfl, rfl, rfl⟩ W.nolimit rfl rfl rfl rfl (Gives.pure rfl)
    (fun b g e => by rw [e]; rfl) rfl ?gv fun v ge gp g' _ _ sq _ p => lstV_st itV_st _ _ _ _ sq p
  rintro binds g ge L env rfl he hg ug gN gC
  have Wg : Wd (hd.heap_39 w.params) mg mb ge := W.up fun b o e => ug b o (hg b o e)
  have hvg : RowV ge v₀ (xs.map .s) := rowV_st _ _ _ _ (fun b o _ _ e _ => ug b o (hg b o e)) hv
  have Fd := F.deep env
  have ek : env.scope.kind = .function := by rw [he]; rfl
  have eg : env.globals = mainGlobals := by rw [he]; rfl
  have eb : env.builtins = builtinsNs := by rw [he]; rfl
  have eL : env.locals = L := by rw [he]; rfl
  have ec : env.cells.lookup ("input_list" : Str) = some (L + 1) := by rw [he]; rfl
  have hn : ge.Ns L (fun y => if y = "n" then some (.int 2 t) else none) := by rw [he] at gN; exact gN
  have hc : ge.IsCell (L + 1) (some v₀) := by have := gC "input_list" (L + 1) ec; rw [he] at this; exact this
  clear gN gC
  refine gv_list_of Fd.handled (lk_builtin Wg ek (by rw [he]; rfl) eg eb rfl rfl (by decide)) ?mk rfl rfl
  refine fun Q E s k q => makes_zip (C := fun sp g => ∃ P0 P1, sp = [(xs.length, P0), ((xs.drop 1).length, P1)] ∧ (∀ j y, P0 j y → ∃ a, xs[j]? = some a ∧ StrV g y a) ∧ (∀ j y, P1 j y → ∃ a, (xs.drop 1)[j]? = some a ∧ StrV g y a))
    (lk_builtin Wg ek (by rw [he]; rfl) eg eb rfl rfl (by decide)) ?comp rfl rfl Q E s k fun s₁ z ks hz => q s₁ z ks (listed_zip hz fun sp g hC => ?_)
  case comp =>
    refine (comp_gives (x := "i") (n := 2) (P := fun i v => ∃ t, v = .int (i : Int) t) (cl := [(("input_list" : Str), L + 1)]) (fun _ => true) (fun i v g => RowV g v ((xs.drop i).map .s)) (fun i v g g' k y => rowV_st _ _ _ _ k y) Fd.handled ?cl (by decide) rfl (by decide) rfl (by decide) ?iter fun _ => rfl).mono ?fin
    case cl => rw [he]; rfl
    case iter =>
      refine gv_call (gv_name (lk_builtin Wg ek (by rw [he]; rfl) eg eb rfl rfl (by decide)) (gv_call1 kept_type (gv_name (lk_local ek (by rw [he]; rfl) (eL ▸ hn) rfl) ?_))) rfl
      refine (op_range1 (by decide) (by decide)).mono fun v g _ hit => ⟨hit, fun C g i v m hi hp ug hN hm => Gives.pure rfl, fun C g₁ i v m hi hp _ ug hN hm => ?_⟩
      have hvC : RowV g₁ v₀ (xs.map .s) := rowV_st _ _ _ _ (fun b o _ _ e _ => ug b o (‹Up ge g› b o e)) hvg
      have hcC : g₁.IsCell (L + 1) (some v₀) := (hc.keeps ‹Up ge g›).keeps ug
      obtain ⟨ti, rfl⟩ := hp
      refine gv_sub (gv_name (lk_cell rfl (by rw [he]; rfl) rfl hcC) (gv_slice (gv_name (lk_local rfl (by rw [he]; rfl) hN hm) (Gives.pure fun a g₂ u₂ hsl => ?_))))
      rcases hvC with ⟨la, vs, rfl, hl, hpv⟩ | ⟨x, tx, rfl, hx⟩
      · refine op_slice_list (hl.at fun o e => u₂ _ o e) (by rw [hpv.length, List.length_map]; exact Nat.le_of_lt (Nat.lt_trans hsm (by decide))) hsl (.int _ _) .none fun a' g₃ u₃ _ hl' => .inl ⟨a', vs.drop i, rfl, ?_, ?_⟩
        · rw [slicePick_from'] at hl'; simpa using hl'
        · rw [List.map_drop]; exact paired_drop i (paired_mono (fun v a x => itV_st _ _ _ _ (Up.seq fun b o e => u₃ b o (u₂ b o e)) x) hpv)
      · have hxl : x.length = xs.length := by have := congrArg List.length hx; simp only [List.length_map, sg_len] at this; exact this.symm
        refine op_slice_str (l := some ((i : Int), ti)) (u := none) (by rw [hxl]; exact Nat.le_of_lt (Nat.lt_trans hsm (by decide))) hsl fun t' => .inr ⟨_, t', rfl, ?_⟩
        show _ = (signs (Txt.slice x (some ((i : Nat) : Int)) none)).map It.s
        rw [signs_slice_from, List.map_drop, List.map_drop, hx]
    case fin =>
      rintro r g u ⟨a, ys, rfl, hl, hp⟩
      have hf : (List.range 2).filter (fun _ => true) = [0, 1] := rfl
      rw [hf] at hp
      cases hp with
      | cons r0 hp => cases hp with
        | cons r1 hp => cases hp with
          | nil =>
            refine starred_list hl (by show 2 ≤ _; decide) ?_
            obtain ⟨P0, s0, f0⟩ := row_src r0
            obtain ⟨P1, s1, f1⟩ := row_src r1
            rw [List.length_map] at s0 s1
            have un : ∀ {l : List Str} {j : Nat} {y : Value} {a : It}, (l.map It.s)[j]? = some a → ItV g y a → ∃ a, l[j]? = some a ∧ StrV g y a := fun {l j y a} e i => by
              rw [List.getElem?_map] at e
              cases e2 : l[j]? with
              | none => rw [e2] at e; cases e
              | some z => rw [e2] at e; cases e; exact ⟨z, rfl, i⟩
            exact ⟨[(xs.length, P0), ((xs.drop 1).length, P1)], _, fun _ _ e => e,   .cons s0 (.cons s1 .nil), by show 2 ≤ 4; decide, by simp, P0, P1, rfl, fun j y h => (by obtain ⟨a, e, i⟩ := f0 j y h; exact un e i), fun j y h => (by obtain ⟨a, e, i⟩ := f1 j y h; exact un e i)⟩
  obtain ⟨P0, P1, rfl, h0, h1⟩ := hC
  refine ⟨(xs.drop 1).length, by rw [List.length_drop]; exact Nat.lt_of_le_of_lt (Nat.sub_le _ _) (Nat.lt_trans hsm (by decide)), ?_, ⟨((xs.drop 1).length, P1), by simp, rfl⟩, fun R ts g' ugg hR hlen hts => ?_⟩
  · intro p hp
    rcases List.mem_cons.mp hp with rfl | hp
    · show (xs.drop 1).length ≤ xs.length; rw [List.length_drop]; omega
    · rw [List.mem_singleton.mp hp]; exact Nat.le_refl _
  · refine ⟨R, ts, rfl, hR, paired_of ?_ fun i a b ha hb => ?_⟩
    · rw [hlen]; simp [pairUp]
    · obtain ⟨T, vs, rfl, hT, hp⟩ := hts i a ha
      cases hp with
      | cons p0 r => cases r with
        | cons p1 r => cases r with
          | nil =>
            obtain ⟨x0, e0, t0⟩ := h0 _ _ p0
            obtain ⟨x1, e1, t1⟩ := h1 _ _ p1
            have hb' : b = .p x0 x1 := by
              simp only [pairUp, List.getElem?_map] at hb
              rw [← List.drop_one] at hb
              rw [List.zip_eq_zipWith, List.getElem?_zipWith, e0, e1] at hb
              simpa using hb.symm
            rw [hb']
            exact ⟨T, _, rfl, hT, .cons t0 (.cons t1 .nil)⟩
end

/-! part Fq23 -/

/-! calls of an object -/
def KeptA (M : Model) (h : Heap) (f : Value) : Prop := ∃ k, (k = Keeper.frame ∨ k = Keeper.machine ∨ k = Keeper.boundFrame ∨ k = Keeper.caller) ∧ Looks M h (keeperOf f) k
section
variable {M : Model} {A : Around} {E : Value → Shared → Prop} {s : Shared} {env : Env} {pos : Pos} {f : Value} {first : List Value} {Q : Value → Shared → Prop}
theorem call_any {P : Heap → Prop} {args : List (Bool × Sem Value)} (hk : ∀ h, P h → KeptA M h f)
    (h : wpAny M A (evalArgs f true args []) (fun a s₁ => P s₁.heap ∧ wpAny M A (call f (first ++ a.pos) a.kw) Q E s₁) E s) : wpAny M A (callWith pos f first args []) Q E s := by
  unfold callWith
  refine wpAny_bind (wpAny_holding (wpAny_mono h (fun a s₁ h₁ => wpAny_bind (wpAny_standAt ?_)) fun _ _ x => x))
  obtain ⟨k, hk', L⟩ := hk _ h₁.1
  cases hst : args.any (·.1)
  all_goals
    simp only [hst, Bool.true_or, Bool.false_or, List.any_nil, Bool.or_false]
    refine wpAny_bind (L.here ?_)
    have tail : ∀ {t : Sem Value}, wpAny M A t Q E s₁ → wpAny M A (t >>= fun r => holding [r] point >>= fun _ => pure r) Q E s₁ :=
      fun ht => wpAny_bind (wpAny_mono ht (fun r s₂ hr => wpAny_bind (wpAny_holding (wpAny_point (wpAny_pure hr)))) fun _ _ x => x)
    have marked (mk : Value) : wpAny M A (callMarked mk f (first ++ a.pos) a.kw) Q E s₁ := by unfold callMarked; exact Calls.wpAny_keep h₁.2
    rcases hk' with rfl | rfl | rfl | rfl <;> dsimp only <;> first | exact tail (marked _) | exact tail (wpAny_operating h₁.2) | exact tail h₁.2 | (split <;> first | exact tail h₁.2 | exact tail (marked _) | exact tail (wpAny_operating h₁.2))
variable {h : Heap} {P : Value → Heap → Prop}
theorem KeptA.up {h' : Heap} (x : KeptA M h f) (k : Up h h') : KeptA M h' f := let ⟨a, b, c⟩ := x; ⟨a, b, c.keeps k⟩
theorem gv_callAS {e : Expr} {p : Pos} (hk : KeptA M h f) (x : Gives M A h (eval e env) fun v g => Starred M A g v fun vs g' => Gives M A g' (call f (first ++ vs) []) P)
    (he : starEach [.Starred e p] env = [(true, eval e env)] := by rfl) : Gives M A h (callWith pos f first (backTo pos (starEach [.Starred e p] env)) []) P := fun Q E s k q => by
  rw [he]
  exact call_any (P := fun h' => Up h h') (fun h' u => hk.up u) (ks_lone (x _ E s k fun v s₁ g r y => y _ E s₁ r.low fun b s₂ g' r' z => ⟨z.1, z.2 _ E s₂ r'.low fun vs s₃ g'' r'' u =>
    ⟨fun b o e => r''.low b o (r''.up b o (r'.up b o (r.up b o e))), u Q E s₃ r''.low fun v s₄ g₄ r₄ p => q v s₄ g₄ (((r.trans r').trans r'').trans r₄) p⟩⟩))
theorem gv_callA {args : List (Bool × Sem Value)} (hk : KeptA M h f) (x : Gives M A h (spliced args) fun vs g => Gives M A g (call f (first ++ vs) []) P) (hplain : args.any (·.1) = false := by rfl) :
    Gives M A h (callWith pos f first args []) P := fun Q E s k q =>
  call_any (P := fun h' => Up h h') (fun h' u => hk.up u) (evalArgs_flat hplain (x _ E s k fun vs s₁ g r y => ⟨fun b o e => r.low b o (r.up b o e), y Q E s₁ r.low fun v s₂ g' r' p => q v s₂ g' (r.trans r') p⟩))
theorem gv_callA0 (hk : KeptA M h f) (x : Gives M A h (call f first []) P) : Gives M A h (callWith pos f first (backTo pos (starEach [] env)) []) P :=
  gv_callA (args := []) hk (gs_nil (by rw [List.append_nil]; exact x))
theorem gv_callA1 {e : Expr} (hk : KeptA M h f) (x : Gives M A h (eval e env) fun v g => Gives M A g (call f (first ++ [v]) []) P) (he : backTo pos (starEach [e] env) = [(false, eval e env)] := by rfl) :
    Gives M A h (callWith pos f first (backTo pos (starEach [e] env)) []) P := he ▸ gv_callA hk (gs_cons (x.mono fun v g u y => gs_nil y))
end

/-! an object of this program's classes: what it bears under qval and sim_test -/
structure Inst (h : Heap) (x C : Nat) (q f : Value) : Prop where
  ex : ∃ ox n h1 t1 h2 t2, W.InstAt h x ox C (some (dictOf [⟨h1, .str "qval" t1, q⟩, ⟨h2, .str "sim_test" t2, f⟩] n)) ∧ ox.data = .plain
theorem Inst.up {h h' : Heap} {x C : Nat} {q f : Value} (i : Inst h x C q f) (k : Up h h') : Inst h' x C q f := by
  obtain ⟨ox, n, h1, t1, h2, t2, I, d⟩ := i.ex
  refine ⟨ox, n, h1, t1, h2, t2, ⟨k _ _ I.at_, I.cls, I.no, ?_⟩, d⟩
  have := I.dict
  revert this
  cases ox.dict with
  | none => exact id
  | some dx => exact fun e => k _ _ e
theorem getL_two_none {h1 h2 : Int} {t1 t2 : Tok} {q f : Value} {name : Str} (a : (("qval" : Str) == name) = false) (b : (("sim_test" : Str) == name) = false) : getL name [⟨h1, .str "qval" t1, q⟩, ⟨h2, .str "sim_test" t2, f⟩] = some none := by
  unfold getL
  simp only [List.find?_cons, List.find?_nil, Value.isStr, a, b, List.any_cons, List.any_nil, DictEntry.refKey]
  rfl
theorem getL_qval {h1 h2 : Int} {t1 t2 : Tok} {q f : Value} : getL "qval" [⟨h1, .str "qval" t1, q⟩, ⟨h2, .str "sim_test" t2, f⟩] = some (some q) := by
  unfold getL
  simp only [List.find?_cons, Value.isStr, beq_self_eq_true]
theorem getL_sim {h1 h2 : Int} {t1 t2 : Tok} {q f : Value} : getL "sim_test" [⟨h1, .str "qval" t1, q⟩, ⟨h2, .str "sim_test" t2, f⟩] = some (some f) := by
  unfold getL
  simp only [List.find?_cons, Value.isStr, beq_self_eq_true, show (("qval" : Str) == ("sim_test" : Str)) = false from by decide]
section
variable {prog : Program} {w : World} {A : Around} {h : Heap} {K : Frag} {x C : Nat} {q f : Value} {name : Str} {P : Value → Heap → Prop} {P2 : Value × List Value → Heap → Prop}
theorem inst_kept (i : Inst h x C q f) : KeptA (model prog w) h (.ref x) := by
  obtain ⟨ox, n, h1, t1, h2, t2, I, d⟩ := i.ex
  exact ⟨.caller, .inr (.inr (.inr rfl)), kco_keeper I d⟩
theorem gm_fn {g : Nat} {pl : Sem Bool} (X : K.In h) (i : Inst h x C q f) (hg : plainGet K C name = true) (hf : findIn K (.ref C) name = some (some (.ref g))) (ht : isFn K (.ref g) = true)
    (hn : (("qval" : Str) == name) = false ∧ (("sim_test" : Str) == name) = false) (p : P2 (.ref g, [.ref x]) h) : Gives (model prog w) A h (getMethod (.ref x) name pl) P2 := fun Q E s k qq => by
  obtain ⟨ox, n, h1, t1, h2, t2, I, d⟩ := (i.up k).ex
  refine method_fn (X.keeps k) I (plainGet_of hg).1 (plainGet_of hg).2 hf (beq_iff_eq.mp ht) ?_ (qq _ _ h (.refl k) p)
  show (lookIn name (dictOf _ n)).map _ = _
  rw [lookIn_dict]
  rw [getL_two_none hn.1 hn.2]; rfl
theorem gm_own {pl : Sem Bool} (X : K.In h) (i : Inst h x C q f) (hg : plainGet K C "sim_test" = true) (hh : hasDictIn K C = true) (hf : findIn K (.ref C) "sim_test" = some none) (hv : handedIn f = true) (p : P2 (f, []) h) :
    Gives (model prog w) A h (getMethod (.ref x) "sim_test" pl) P2 := fun Q E s k qq => by
  obtain ⟨ox, n, h1, t1, h2, t2, I, d⟩ := (i.up k).ex
  exact method_usual (X.keeps k) I (plainGet_of hg).1 (plainGet_of hg).2 hf rfl (get_value (X.keeps k) I (plainGet_of hg).1 (findObj_own hh hf rfl (by rw [lookIn_dict]; exact getL_sim)) hv (qq _ _ h (ran_tok k) p))
theorem gm_sm {g p : Nat} {rest : List Value} {pl : Sem Bool} (X : K.In h) (i : Inst h x C q f) (hg : plainGet K C name = true) (hh : hasDictIn K C = true) (ha : findIn K (.ref C) name = some (some (.ref p))) (ht : typeIn K (.ref p) = some (.type "staticmethod"))
    (hgf : specialIn K (.ref p) "__get__" = some (some (.builtin "staticmethod.__get__"))) (hts : takesIn K (.ref p) = some false) (hc : copiedNames.contains name = false) (hp : recIn K p "staticmethod" = some (.ref g :: rest))
    (hn : (("qval" : Str) == name) = false ∧ (("sim_test" : Str) == name) = false) (pp : P2 (.ref g, []) h) : Gives (model prog w) A h (getMethod (.ref x) name pl) P2 := fun Q E s k qq => by
  obtain ⟨ox, n, h1, t1, h2, t2, I, d⟩ := (i.up k).ex
  exact method_usual (r := some (.ref p)) (X.keeps k) I (plainGet_of hg).1 (plainGet_of hg).2 ha (by simp only [Option.all_some, ht, Option.any_some]; decide +kernel)
    (get_bind (X.keeps k) I (plainGet_of hg).1 (findObj_fn hh ha hgf hts hc (by rw [lookIn_dict]; exact getL_two_none hn.1 hn.2)) (plainGet_of hg).2
      (wpAny_call (sm_get (s := { s with toks := s.toks + 1 }) (X.keeps k) hp (handed_on rfl (qq _ _ h (ran_tok k) pp)))))
theorem ga_qval {expr : Bool} (X : K.In h) (i : Inst h x C q f) (hg : plainGet K C "qval" = true) (hh : hasDictIn K C = true) (hf : findIn K (.ref C) "qval" = some none) (hv : handedIn q = true) (p : P q h) : Gives (model prog w) A h (getAttr (.ref x) "qval" expr) P := fun Q E s k qq => by
  obtain ⟨ox, n, h1, t1, h2, t2, I, d⟩ := (i.up k).ex
  exact get_value (X.keeps k) I (plainGet_of hg).1 (findObj_own hh hf rfl (by rw [lookIn_dict]; exact getL_qval)) hv (qq _ _ h (ran_tok k) p)
theorem gv_attr {env : Env} {y attr : Str} {np pos : Pos} {M : Model} (g : Gives M A h (eval (.Name y np) env) fun o g => Gives M A g (getAttr o attr true) P) : Gives M A h (eval (.Attribute (.Name y np) attr pos) env) P :=
  gives_nest (fun _ _ _ => Attribute_name) g
/-- x(*args) for an object x -/
theorem call_inst {g : Nat} {args : List Value} (X : K.In h) (i : Inst h x C q f) (hs : findIn K (.ref C) "__call__" = some (some (.ref g))) (hf : isFn K (.ref g) = true) (hfn : fnIn K g = true)
    (c : GivesC (model prog w) A h (.call (.ref g) ⟨.ref x :: args, []⟩) P) : GivesC (model prog w) A h (.call (.ref x) ⟨args, []⟩) P := fun Q E s k qq => by
  obtain ⟨ox, n, h1, t1, h2, t2, I, d⟩ := (i.up k).ex
  exact kco_code (X.keeps k) I d hs hf hfn (c Q E s k qq)
/-! attributes taken whole, as a call with a star does -/
theorem ga_sim {expr : Bool} (X : K.In h) (i : Inst h x C q f) (hg : plainGet K C "sim_test" = true) (hh : hasDictIn K C = true) (hf : findIn K (.ref C) "sim_test" = some none) (hv : handedIn f = true) (p : P f h) :
    Gives (model prog w) A h (getAttr (.ref x) "sim_test" expr) P := fun Q E s k qq => by
  obtain ⟨ox, n, h1, t1, h2, t2, I, d⟩ := (i.up k).ex
  exact get_value (X.keeps k) I (plainGet_of hg).1 (findObj_own hh hf rfl (by rw [lookIn_dict]; exact getL_sim)) hv (qq _ _ h (ran_tok k) p)
theorem ga_sm {expr : Bool} {g p : Nat} {rest : List Value} (X : K.In h) (i : Inst h x C q f) (hg : plainGet K C name = true) (hh : hasDictIn K C = true) (ha : findIn K (.ref C) name = some (some (.ref p)))
    (hgf : specialIn K (.ref p) "__get__" = some (some (.builtin "staticmethod.__get__"))) (hts : takesIn K (.ref p) = some false) (hc : copiedNames.contains name = false) (hp : recIn K p "staticmethod" = some (.ref g :: rest))
    (hn : (("qval" : Str) == name) = false ∧ (("sim_test" : Str) == name) = false) (pp : P (.ref g) h) : Gives (model prog w) A h (getAttr (.ref x) name expr) P := fun Q E s k qq => by
  obtain ⟨ox, n, h1, t1, h2, t2, I, d⟩ := (i.up k).ex
  exact get_bind (X.keeps k) I (plainGet_of hg).1 (findObj_fn hh ha hgf hts hc (by rw [lookIn_dict]; exact getL_two_none hn.1 hn.2)) (plainGet_of hg).2
      (wpAny_call (sm_get (s := { s with toks := s.toks + 1 }) (X.keeps k) hp (handed_on rfl (qq _ _ h (ran_tok k) pp))))
theorem ga_bound {expr : Bool} {g : Nat} (X : K.In h) (i : Inst h x C q f) (hg : plainGet K C name = true) (hh : hasDictIn K C = true) (ha : findIn K (.ref C) name = some (some (.ref g))) (hf : isFn K (.ref g) = true)
    (hgf : specialIn K (.ref g) "__get__" = some (some (.builtin "function.__get__"))) (ht : takesIn K (.ref g) = some false) (hc : copiedNames.contains name = false) (hn : (("qval" : Str) == name) = false ∧ (("sim_test" : Str) == name) = false) :
    Gives (model prog w) A h (getAttr (.ref x) name expr) fun v g' => ∃ m, v = .ref m ∧ g'.get? m = some (methodObj (.ref g) (.ref x)) := fun Q E s k qq => by
  obtain ⟨ox, n, h1, t1, h2, t2, I, d⟩ := (i.up k).ex
  refine get_bind (X.keeps k) I (plainGet_of hg).1 (findObj_fn hh ha hgf ht hc (by rw [lookIn_dict]; exact getL_two_none hn.1 hn.2)) (plainGet_of hg).2
    (wpAny_call (fn_get (s := { s with toks := s.toks + 1 }) (X.keeps k) (beq_iff_eq.mp hf) (handed_on rfl ?_)))
  obtain ⟨g', r, e⟩ := ran_push (s := { s with toks := s.toks + 1 }) (o := methodObj (.ref g) (.ref x)) k rfl
  exact qq _ _ g' ((ran_tok k).trans r) ⟨_, rfl, e⟩
theorem kept_meth {m g : Nat} {self : Value} {o : Obj} {fd : FuncData} (hm : h.get? m = some (methodObj (.ref g) self)) (hg : h.get? g = some o) (hd : o.data = .func fd) : Kept (model prog w) h (.ref m) := by
  refine ⟨.boundFrame, .inr (.inr rfl), (Looks.ld (part := none) hm).andThen ?_⟩
  show Looks _ _ (do return match (← load g).data with | .func _ => Keeper.boundFrame | _ => Keeper.caller) _
  exact (Looks.ld (part := none) hg).andThen (by rw [hd]; exact .now)
theorem call_bound {m : Nat} {g self : Value} {args : List Value} (hm : h.get? m = some (methodObj g self)) (c : GivesC (model prog w) A h (.call g ⟨self :: args, []⟩) P) : GivesC (model prog w) A h (.call (.ref m) ⟨args, []⟩) P := fun Q E s k qq =>
  method_call (k _ _ hm) (c Q E s k qq)
theorem gv_methS {env : Env} {y attr : Str} {e : Expr} {np apos p pos : Pos}
    (g : Gives (model prog w) A h (eval (.Name y np) env) fun o g => Gives (model prog w) A g (getAttr o attr true) fun fv g' => Gives (model prog w) A g' (callWith pos fv [] (backTo pos (starEach [.Starred e p] env)) []) P)
    (he : starEach [.Starred e p] env = [(true, eval e env)] := by rfl) : Gives (model prog w) A h (eval (.Call (.Attribute (.Name y np) attr apos) [.Starred e p] [] pos) env) P := fun Q E s k qq => by
  rw [arm_eval_Call]
  have e1 : attributeBase (.Name y np) attr env (eval (.Name y np) env) = eval (.Name y np) env := rfl
  rw [e1]
  refine wpAny_bind (g _ E s k fun o s₁ g₁ r₁ y₁ => wpAny_bind (wpAny_standAt ?_))
  have hf : ∀ n, methodCallForm n (backTo pos (starEach [.Starred e p] env)) (backToKw pos (keywordEach [] env)) = false := fun n => by rw [he]; rfl
  unfold methodCall
  rw [hf]
  refine wpAny_bind (wpAny_holding (wpAny_bind (y₁ _ E s₁ r₁.low fun fv s₂ g₂ r₂ y₂ => wpAny_pure ?_)))
  refine wpAny_bind (wpAny_pure ?_)
  exact y₂ Q E s₂ r₂.low fun v s₃ g₃ r₃ pp => qq v s₃ g₃ ((r₁.trans r₂).trans r₃) pp
end

/-! part Fq24 -/
section
variable {w : World} {A : Around} {h : Heap} {M : Model}
theorem bind_star {fd : FuncData} {vs : List Value} {nm : Arg} (hp : fd.params = { posonlyargs := [], args := [], vararg := some nm, kwonlyargs := [], kw_defaults := [], kwarg := none, defaults := [] }) (hd : fd.defaults = .none) (hz : vs.length ≤ sizeLine) :
   Gives M A h (bindArgs fd ⟨vs, []⟩) fun b g => ∃ a, b = [(nm.arg, .ref a)] ∧ h.get? a = none ∧ g.IsTuple a (List.toArray vs) := by
  unfold bindArgs
  simp only [hp, hd, List.map_nil, List.append_nil, List.length_nil, List.zip_nil_left, List.forIn_nil, seqItems?, pure_bind, Option.isNone_some, Bool.and_false, Bool.false_eq_true, if_false]
  show Gives M A h (newTuple (List.drop 0 vs) >>= fun t => pure ([] ++ [(nm.arg, t)])) _
  refine Gives.bind (gv_newTuple (vs := List.drop 0 vs) (by simpa using hz)) fun v g u ⟨a, e, n, t⟩ => Gives.pure ⟨a, by rw [e]; rfl, n, t⟩
theorem bind_self_star {fd : FuncData} {self : Value} {vs : List Value} {sf nm : Arg} (hp : fd.params = { posonlyargs := [], args := [sf], vararg := some nm, kwonlyargs := [], kw_defaults := [], kwarg := none, defaults := [] }) (hd : fd.defaults = .none) (hz : vs.length ≤ sizeLine) :
   Gives M A h (bindArgs fd ⟨self :: vs, []⟩) fun b g => ∃ a, b = [(sf.arg, self), (nm.arg, .ref a)] ∧ h.get? a = none ∧ g.IsTuple a (List.toArray vs) := by
  unfold bindArgs
  have e1 : [sf.arg].filter (fun n => (List.lookup n [(sf.arg, self)]).isNone) = [] := by simp
  have e2 : [sf.arg].filterMap (fun n => (List.lookup n [(sf.arg, self)]).map fun x => (n, x)) = [(sf.arg, self)] := by simp
  simp only [hp, hd, List.map_nil, List.map_cons, List.nil_append, List.append_nil, List.length_nil, List.length_cons, List.zip_cons_cons, List.zip_nil_left, List.forIn_nil, seqItems?, pure_bind, Option.isNone_some, Bool.and_false, Bool.false_eq_true, if_false]
  show Gives M A h (if (!([sf.arg].filter (fun n => (List.lookup n [(sf.arg, self)]).isNone)).isEmpty) = true then _ else newTuple vs >>= fun t => pure ([sf.arg].filterMap (fun n => (List.lookup n [(sf.arg, self)]).map fun x => (n, x)) ++ [(nm.arg, t)])) _
  rw [e1, e2]
  show Gives M A h (newTuple vs >>= fun t => pure ([(sf.arg, self)] ++ [(nm.arg, t)])) _
  refine Gives.bind (gv_newTuple (vs := vs) hz) fun v g u ⟨a, e, n, t⟩ => Gives.pure ⟨a, by rw [e]; rfl, n, t⟩
end
theorem it_kinds {h : Heap} {vs : List Value} {l : List It} (p : Paired (ItV h) vs l) (k : (∃ xs : List Str, l = xs.map .s) ∨ ∃ ps : List (Str × Str), l = ps.map fun p => .p p.1 p.2) :
    (∃ xs : List Str, l = xs.map .s ∧ Paired (StrV h) vs xs) ∨ ∃ ps : List (Str × Str), l = (ps.map fun p => .p p.1 p.2) ∧ Paired (TupV StrV h) vs (ps.map fun p => [p.1, p.2]) := by
  rcases k with ⟨xs, rfl⟩ | ⟨ps, rfl⟩
  · refine .inl ⟨xs, rfl, ?_⟩
    induction xs generalizing vs with
    | nil => cases p; exact .nil
    | cons x xs ih => cases p with | cons a r => exact .cons a (ih r)
  · refine .inr ⟨ps, rfl, ?_⟩
    induction ps generalizing vs with
    | nil => cases p; exact .nil
    | cons x xs ih => cases p with | cons a r => exact .cons a (ih r)
def allSame (l : List It) : Bool := decide (∀ a ∈ l, ∀ b ∈ l, a = b)
theorem allSame_strs {xs : List Str} : allSame (xs.map .s) = decide (∀ a ∈ xs, ∀ b ∈ xs, a = b) := by
  unfold allSame
  rw [Bool.eq_iff_iff, decide_eq_true_iff, decide_eq_true_iff]
  simp
def two (p : Str × Str) : List Str := [p.1, p.2]
theorem allSame_pairs {ps : List (Str × Str)} : allSame (ps.map fun p => .p p.1 p.2) = decide (∀ a ∈ ps.map two, ∀ b ∈ ps.map two, a = b) := by
  unfold allSame
  rw [Bool.eq_iff_iff, decide_eq_true_iff, decide_eq_true_iff]
  simp only [List.forall_mem_map, two, It.p.injEq, List.cons.injEq, and_true]
section
variable {prog : Program} {w : World} {A : Around} {h : Heap}
theorem len_set_one {M : Model} {env : Env} {p1 p2 p3 p4 p5 p6 p7 : Pos} {n : Nat} {l : List It} {a : Nat} {vs : List Value} {x : Str} (hh : A.handled = none) (hu : A.units + 16 < cLine)
    (h1 : Looks (model prog w) h (loadName env "len") (.builtin "len")) (h2 : Looks (model prog w) h (loadName env "set") (.type "set")) (h3 : Looks (model prog w) h (loadName env x) (.ref a)) (hx : (x == ("__debug__" : Str)) = false)
    (ht : h.IsTuple a (List.toArray vs)) (hp : Paired (ItV h) vs l) (hk : (∃ xs : List Str, l = xs.map .s) ∨ ∃ ps : List (Str × Str), l = ps.map fun p => .p p.1 p.2) (h4 : l.length ≤ 4) (hne : l ≠ []) :
    Gives (model prog w) A h (eval (.Compare (.Call (.Name "len" p1) [.Call (.Name "set" p2) [.Name x p3] [] p4] [] p5) [.Eq] [.Constant (.int 1) n p6] p7) env) fun v _ => v = .bool (allSame l) := by
  have fin : ∀ {α : Type} [DecidableEq α] {k : List α} {b : Bool}, k ≠ [] → b = decide (∀ a ∈ k, ∀ c ∈ k, a = c) → ∀ {v : Value} {g : Heap}, SetCnt g v k →
      Gives (model prog w) A g (call (.builtin "len") ([] ++ [v]) []) fun r g' => Gives (model prog w) A g' (eval (.Constant (.int 1) n p6) env) fun c g'' => Gives (model prog w) A g'' (compareOp .Eq r c) fun v _ => v = .bool b := fun {α} _ {k b} hk hb {v g} hc =>
    (op_len_cnt hc).mono fun r g' _ ⟨m, t, e, hm⟩ => gv_int fun u => by
      subst e
      refine op_eqi.mono fun v g _ e => ?_
      rw [e, hb]
      congr 1
      rw [Bool.eq_iff_iff, beq_iff_eq, decide_eq_true_iff]
      have := (hm.2 hk).2
      constructor
      · intro e; exact this.mp (by omega)
      · intro e; have := this.mpr e; omega
  refine gv_cmp (gv_call (gv_name h1 (gv_call1 kept_builtin (gv_call (gv_name h2 (gv_call1 kept_type (gv_name h3 ?_ hx)))))))
  rcases it_kinds hp hk with ⟨xs, rfl, hp'⟩ | ⟨ps, rfl, hp'⟩
  · exact (op_set_strs hh ht hp' (by simpa using h4)).mono fun v g _ hc => fin (by simpa using hne) allSame_strs hc
  · exact (op_set_pairs (ds := ps.map two) hh hu ht hp' (by simpa using h4)).mono fun v g _ hc => fin (by simpa using hne) allSame_pairs hc
end

/-! part Fq25 -/
section
variable {w : World} {A : Around} {h : Heap} {mg mb : Str → Option Value}
/-- rows handed in -/
structure Rows (h : Heap) (vs : List Value) (rs : List (List It)) : Prop where
  rows : Paired (RowV h) vs rs
  small : ∀ r ∈ rs, r.length < 1000
  few : rs.length ≤ 4
theorem Rows.up {h' : Heap} {vs : List Value} {rs : List (List It)} (x : Rows h vs rs) (k : SeqUp h h') : Rows h' vs rs := ⟨paired_mono (fun v r y => rowV_st _ _ _ _ k y) x.rows, x.small, x.few⟩
theorem Rows.len {vs : List Value} {rs : List (List It)} (x : Rows h vs rs) : vs.length ≤ sizeLine := by rw [x.rows.length]; exact Nat.le_trans x.few (by decide)
theorem rows_lens {vs : List Value} {rs : List (List It)} (x : Rows h vs rs) : Paired (LenV h) vs (rs.map List.length) := by
  have p := x.rows
  have sm := x.small
  clear x
  induction p with
  | nil => exact .nil
  | cons a r ih => exact .cons (row_lenV a (Nat.lt_trans (sm _ (by simp)) (by decide))) (ih fun r hr => sm r (List.mem_cons_of_mem _ hr))
theorem c_maximum (W : Wd (hd.heap_39 w.params) mg mb h) (F : Fine A 5) {vs : List Value} {rs : List (List It)} (hr : Rows h vs rs) (hne : rs ≠ []) :
    GivesC (model PySem.Challenge.rw_fq5031_01.row.prog w) A h (.call (.ref 55) ⟨vs, []⟩) fun v _ => ∃ (m : Nat) (t : Tok), v = .int (m : Int) t ∧ (∃ r ∈ rs, r.length = m) ∧ ∀ r ∈ rs, r.length ≤ m := by
  refine call_ret (P' := fun ge v gp => ∃ (m : Nat) (t : Tok), v = .int (m : Int) t ∧ (∃ r ∈ rs, r.length = m) ∧ ∀ r ∈ rs, r.length ≤ m) ["sequences"] F.lt (W.K 55 _ rfl) rfl rfl ⟨54, _, _, _, rfl, W.K 54 _ rfl, rfl, rfl⟩ W.nolimit rfl rfl rfl rfl (bind_star rfl rfl hr.len)
    (fun b g ⟨a, e, _⟩ => by rw [e]; rfl) rfl ?gv fun v ge gp g' _ _ sq _ p => p
  rintro binds g ge L env ⟨a, rfl, _, ht⟩ he hg ug gN gC
  have Wg : Wd (hd.heap_39 w.params) mg mb ge := W.up fun b o e => ug b o (hg b o e)
  have hrg : Rows ge vs rs := hr.up (Up.seq fun b o e => ug b o (hg b o e))
  have ek : env.scope.kind = .function := by rw [he]; rfl
  have eg : env.globals = mainGlobals := by rw [he]; rfl
  have eb : env.builtins = builtinsNs := by rw [he]; rfl
  have eL : env.locals = L := by rw [he]; rfl
  have hn : ge.Ns L (fun y => if y = "sequences" then some (.ref a) else none) := by rw [he] at gN; exact gN
  clear gN gC
  refine (gv_max_map (C := fun ns => ns = rs.map List.length) (F.deep env).handled (lk_builtin Wg ek (by rw [he]; rfl) eg eb rfl rfl (by decide)) (lk_builtin Wg ek (by rw [he]; rfl) eg eb rfl rfl (by decide)) (lk_builtin Wg ek (by rw [he]; rfl) eg eb rfl rfl (by decide))
    (gv_name (lk_local ek (by rw [he]; rfl) (eL ▸ hn) rfl) ⟨a, vs, _, rfl, ht.at fun o e => ug _ o e, rows_lens hrg, by simpa using hne, rfl⟩)).mono fun v g _ ⟨m, ns, t, e, hns, ⟨n, hn, hm⟩, hmax⟩ => ?_
  subst hns
  obtain ⟨r, hr1, rfl⟩ := List.mem_map.mp hn
  refine ⟨r.length, t, by rw [e, hm], ⟨r, hr1, rfl⟩, fun r' hr' => ?_⟩
  have := hmax r'.length (List.mem_map_of_mem hr')
  omega
theorem c_ident (W : Wd (hd.heap_39 w.params) mg mb h) (F : Fine A 5) {vs : List Value} {l : List It} (hp : Paired (ItV h) vs l) (hk : (∃ xs : List Str, l = xs.map .s) ∨ ∃ ps : List (Str × Str), l = ps.map fun p => .p p.1 p.2) (h4 : l.length ≤ 4) (hne : l ≠ []) :
    GivesC (model PySem.Challenge.rw_fq5031_01.row.prog w) A h (.call (.ref 100) ⟨vs, []⟩) fun v _ => v = .bool (allSame l) := by
  refine call_fn F.lt (W.K 100 _ rfl) rfl rfl ⟨99, _, _, _, rfl, W.K 99 _ rfl, rfl, rfl⟩ W.nolimit rfl rfl rfl rfl (bind_star rfl rfl (by rw [hp.length]; exact Nat.le_trans h4 (by decide)))
    (fun b g ⟨a, e, _⟩ => bound_kind (by rw [e]; rfl)) ?run
  rintro binds g s₀ s L env ⟨a, rfl, _, ht⟩ he x Q E q
  refine wpAny_execs_cons (wpAny_Try_except (wpAny_execs_cons (wpAny_Return_some ?_)))
  refine x.eval (P := fun ge v gp => v = .bool (allSame l)) (fun ge ug gN gC => ?_) fun v s' ge gp g' x' ug ue out p => q _ s' g' x'.ran p
  have hg := x.ran.up
  have Wg : Wd (hd.heap_39 w.params) mg mb ge := W.up fun b o e => ug b o (hg b o e)
  have ek : env.scope.kind = .function := by rw [he]; rfl
  have eg : env.globals = mainGlobals := by rw [he]; rfl
  have eb : env.builtins = builtinsNs := by rw [he]; rfl
  have eL : env.locals = L := by rw [he]; rfl
  have hn : ge.Ns L (fun y => if y = "elements" then some (.ref a) else none) := by rw [he] at gN; exact gN
  exact len_set_one (M := model PySem.Challenge.rw_fq5031_01.row.prog w) (F.deep env).handled (F.deep env).u16 (lk_builtin Wg ek (by rw [he]; rfl) eg eb rfl rfl (by decide)) (lk_builtin Wg ek (by rw [he]; rfl) eg eb rfl rfl (by decide)) (lk_local ek (by rw [he]; rfl) (eL ▸ hn) rfl) (by decide)
    (ht.at fun o e => ug _ o e) (paired_mono (fun v i y => itV_st _ _ _ _ (Up.seq fun b o e => ug b o (hg b o e)) y) hp) hk h4 hne
end

/-! part Fq26 -/
section
variable {M : Model} {A : Around} {h : Heap} {env : Env}
theorem kept_fn {a : Nat} {o : Obj} {fd : FuncData} (ho : h.get? a = some o) (hd : o.data = .func fd) : Kept M h (.ref a) := ⟨.frame, .inl rfl, (Looks.ld (part := none) ho).andThen (by rw [hd]; exact .now)⟩
theorem gt_not {x : Expr} {pos : Pos} {whole : Sem Value} {P : Bool → Heap → Prop} (y : Gives M A h (PySem.isTrue x env (eval x env)) fun b g => P (!b) g) : Gives M A h (PySem.isTrue (.UnaryOp .Not x pos) env whole) P :=
  fun Q E s k q => wpAny_isTrue_Not (y _ E s k fun b s' g r p => q _ s' g r p)
theorem gt_value {e : Expr} {whole : Sem Value} {P : Bool → Heap → Prop} (y : Gives M A h whole fun v g => Gives M A g (truthy v) P)
    (he : isTrue e env whole = (do let v ← whole; standAt e.pos; holding [v] (truthy v)) := by rfl) : Gives M A h (PySem.isTrue e env whole) P :=
  gives_nest (fun _ _ _ x => wpAny_isTrue_value x he) y
theorem strs_its {vs : List Value} {xs : List Str} (p : Paired (StrV h) vs xs) : Paired (ItV h) vs (xs.map .s) := by
  induction p with
  | nil => exact .nil
  | cons a _ ih => exact .cons a ih
theorem op_list_tuple {prog : Program} {w : World} {l : Nat} {vs : List Value} (hl : h.IsTuple l (List.toArray vs)) (hz : vs.length ≤ sizeLine) : Gives (model prog w) A h (call (.type "list") [.ref l]) fun v g => ∃ a, v = .ref a ∧ g.IsList a (List.toArray vs) := gives_of fun Q E s k q => by
  obtain ⟨o, ho, hc, n, hd⟩ := hl
  exact call_list_seq (hsz := by simpa using hz) l (.inr rfl) (k _ _ ho) hc hd fun h' c' hk hD => q _ _ ⟨h', s.toks, rfl, hk⟩ fun g ug lg ng => ⟨_, rfl, _, ng _ _ hD (none_size _), rfl, c', rfl⟩
end
/-- a class of this program, told of by the addresses of what it bears -/
structure Cl (K : Frag) (C cal : Nat) : Prop where
  pg : ∀ n, plainGet K C n = true
  hd : hasDictIn K C = true
  q : findIn K (.ref C) "qval" = some none
  st : findIn K (.ref C) "sim_test" = some none
  beg : findIn K (.ref C) "_beginning" = some (some (.ref 212))
  gs : findIn K (.ref C) "_get_sequences" = some (some (.ref 108))
  sim : findIn K (.ref C) "similarity" = some (some (.ref 219))
  dist : findIn K (.ref C) "distance" = some (some (.ref 164))
  call : findIn K (.ref C) "__call__" = some (some (.ref cal))
  mx : ∃ p rest, findIn K (.ref C) "maximum" = some (some (.ref p)) ∧ specialIn K (.ref p) "__get__" = some (some (.builtin "staticmethod.__get__")) ∧ takesIn K (.ref p) = some false ∧ recIn K p "staticmethod" = some (.ref 55 :: rest)
  id : ∃ p rest, findIn K (.ref C) "_ident" = some (some (.ref p)) ∧ specialIn K (.ref p) "__get__" = some (some (.builtin "staticmethod.__get__")) ∧ takesIn K (.ref p) = some false ∧ recIn K p "staticmethod" = some (.ref 100 :: rest)
theorem cl_prefix {w : World} : Cl (hd.heap_39 w.params) 222 205 := ⟨fun _ => rfl, rfl, rfl, rfl, rfl, rfl, rfl, rfl, rfl, ⟨_, _, rfl, rfl, rfl, rfl⟩, ⟨_, _, rfl, rfl, rfl, rfl⟩⟩
theorem cl_postfix {w : World} : Cl (hd.heap_39 w.params) 239 236 := ⟨fun _ => rfl, rfl, rfl, rfl, rfl, rfl, rfl, rfl, rfl, ⟨_, _, rfl, rfl, rfl, rfl⟩, ⟨_, _, rfl, rfl, rfl, rfl⟩⟩
section
variable {w : World} {A : Around} {h : Heap} {mg mb : Str → Option Value}
theorem gs_words (W : Wd (hd.heap_39 w.params) mg mb h) (F : Fine A 7) {x C cal : Nat} {q f : Value} (cl : Cl (hd.heap_39 w.params) C cal) (hq : q = .none ∨ ∃ t, q = .int 0 t) (i : Inst h x C q f) {vs : List Value} {xs : List Str} (hv : Paired (StrV h) vs xs) (h4 : xs.length ≤ 4) (hs : ∀ y ∈ xs, y.length < 1000) :
    GivesC (model PySem.Challenge.rw_fq5031_01.row.prog w) A h (.call (.ref 108) ⟨.ref x :: vs, []⟩) fun v g => ∃ a ws, v = .ref a ∧ g.IsList a (List.toArray ws) ∧ Paired (LstV ItV g) ws (xs.map fun y => (Txt.words y).map .s) := by
  refine call_fn F.lt (W.K 108 _ rfl) rfl rfl ⟨107, _, _, _, rfl, W.K 107 _ rfl, rfl, rfl⟩ W.nolimit rfl rfl rfl rfl (bind_self_star rfl rfl (by rw [hv.length]; exact Nat.le_trans h4 (by decide)))
    (fun b g ⟨a, e, _⟩ => bound_kind (by rw [e]; rfl)) ?run
  rintro binds g s₀ s L env ⟨a, rfl, _, ht⟩ he fs Q E qq
  have ek : env.scope.kind = .function := by rw [he]; rfl
  have eg : env.globals = mainGlobals := by rw [he]; rfl
  have eb : env.builtins = builtinsNs := by rw [he]; rfl
  have eL : env.locals = L := by rw [he]; rfl
  have ec : env.cells.lookup ("self" : Str) = some (L + 1) := by rw [he]; rfl
  have Fd := F.deep env
  have ctx : ∀ ge, Up g ge → ge.Ns L (bindL env.kindOf [(("self" : Str), .ref x), (("sequences" : Str), .ref a)] fun _ => none) → (∀ n c, env.cells.lookup n = some c → ge.IsCell c (bindC env.kindOf [(("self" : Str), .ref x), (("sequences" : Str), .ref a)] (fun _ => none) n)) →
      Wd (hd.heap_39 w.params) mg mb ge ∧ ge.Ns L (fun y => if y = "sequences" then some (.ref a) else none) ∧ ge.IsCell (L + 1) (some (.ref x)) ∧ Inst ge x C q f ∧ ge.IsTuple a (List.toArray vs) := fun ge ug gN gC =>
    ⟨W.up fun b o e => ug b o (fs.ran.up b o e), by rw [he] at gN; exact gN, by have := gC _ _ ec; rw [he] at this; exact this, i.up fun b o e => ug b o (fs.ran.up b o e), ht.at fun o e => ug _ o e⟩
  refine wpAny_execs_cons (wpAny_If (fs.eval (P := fun _ b _ => b = true) (fun ge ug gN gC => ?_) fun b s₁ ge gp g₁ fs₁ ug ue out p => ?_))
  · obtain ⟨Wg, hn, hc, ig, _⟩ := ctx ge ug gN gC
    refine gt_not (gt_value (gv_attr (gv_name (lk_cell ek (by rw [he]; rfl) ec hc) (ga_qval Wg.K ig (cl.pg _) cl.hd cl.q (by rcases hq with rfl | ⟨t, rfl⟩ <;> rfl) ?_))))
    rcases hq with rfl | ⟨t, rfl⟩
    · exact gt_none rfl
    · exact gt_int rfl
  · subst p
    simp only [if_true]
    refine wpAny_execs_cons (wpAny_Return_some (fs₁.eval (P := fun _ v g => ∃ a ws, v = .ref a ∧ g.IsList a (List.toArray ws) ∧ Paired (LstV ItV g) ws (xs.map fun y => (Txt.words y).map .s)) (fun ge ug₁ gN gC => ?_) fun v s' ge gp g' fs' _ _ out p => ?_))
    · obtain ⟨Wg, hn, hc, ig, htg⟩ := ctx ge (fun b o e => ug₁ b o (ug b o e)) gN gC
      refine (comp_gives (x := "s") (n := vs.length) (P := fun i v => vs[i]? = some v) (cl := []) (fun _ => true) (fun i v g => ∃ y, xs[i]? = some y ∧ LstV ItV g v ((Txt.words y).map .s)) (fun i v g g' k ⟨y, e, z⟩ => ⟨y, e, lstV_st itV_st _ _ _ _ k z⟩) Fd.handled rfl (by decide) rfl (by decide) rfl (by rw [hv.length]; exact Nat.le_trans h4 (by decide)) ?iter fun _ => rfl).mono ?fin
      case iter =>
        refine gv_name (lk_local ek (by rw [he]; rfl) (eL ▸ hn) rfl) ⟨by simpa using iter_tuple htg, fun C g i v m hi hp ug hN hm => Gives.pure rfl, fun C g₁ i v m hi hp _ ug hN hm => ?_⟩
        obtain ⟨y, hy, t, rfl⟩ := paired_at hv i v hp
        have hy' := hs y (List.mem_of_getElem? hy)
        refine gv_meth (gv_name (lk_local rfl rfl hN hm) (gm_split (gv_call0 kept_builtin ((op_split (by have : sizeLine = 2 ^ 24 := rfl; omega)).mono fun r g₂ _ ⟨b, us, e, hl, hp⟩ => ⟨y, hy, b, us, e, hl, ?_⟩))))
        exact strs_its hp
      case fin =>
        rintro r g u ⟨b, ys, rfl, hl, hp⟩
        refine ⟨b, ys, rfl, hl, ?_⟩
        have hlen := hv.length
        have e0 : (List.range vs.length).filter (fun _ => true) = List.range xs.length := by rw [hlen]; exact List.filter_eq_self.mpr fun _ _ => rfl
        rw [e0] at hp
        have hl2 := hp.length
        rw [List.length_range] at hl2
        refine paired_of (by rw [List.length_map]; exact hl2.symm) fun i v k hv' hk => ?_
        obtain ⟨j, hj, y, hy, z⟩ := paired_both hp i v hv'
        have hji : j = i := by
          have := List.getElem?_eq_some_iff.mp hj
          obtain ⟨h1, h2⟩ := this
          rw [List.getElem_range] at h2; exact h2.symm
        subst hji
        rw [List.getElem?_map, hy] at hk
        cases hk
        exact z
    · obtain ⟨a', ws, e, hl, hp⟩ := p
      exact qq _ s' g' fs'.ran ⟨a', ws, e, isList_seq out.seq hl, paired_mono (fun v r y => lstV_st itV_st _ _ _ _ out.seq y) hp⟩
theorem gs_one (W : Wd (hd.heap_39 w.params) mg mb h) (F : Fine A 7) {x C cal : Nat} {t : Tok} {f : Value} (cl : Cl (hd.heap_39 w.params) C cal) (i : Inst h x C (.int 1 t) f) {vs : List Value} {rs : List (List It)} (hv : Rows h vs rs) :
    GivesC (model PySem.Challenge.rw_fq5031_01.row.prog w) A h (.call (.ref 108) ⟨.ref x :: vs, []⟩) fun v g => ∃ a, v = .ref a ∧ g.IsList a (List.toArray vs) := by
  refine call_fn F.lt (W.K 108 _ rfl) rfl rfl ⟨107, _, _, _, rfl, W.K 107 _ rfl, rfl, rfl⟩ W.nolimit rfl rfl rfl rfl (bind_self_star rfl rfl hv.len)
    (fun b g ⟨a, e, _⟩ => bound_kind (by rw [e]; rfl)) ?run
  rintro binds g s₀ s L env ⟨a, rfl, _, ht⟩ he fs Q E qq
  have ek : env.scope.kind = .function := by rw [he]; rfl
  have eg : env.globals = mainGlobals := by rw [he]; rfl
  have eb : env.builtins = builtinsNs := by rw [he]; rfl
  have eL : env.locals = L := by rw [he]; rfl
  have ec : env.cells.lookup ("self" : Str) = some (L + 1) := by rw [he]; rfl
  have Fd := F.deep env
  have ctx : ∀ ge, Up g ge → ge.Ns L (bindL env.kindOf [(("self" : Str), .ref x), (("sequences" : Str), .ref a)] fun _ => none) → (∀ n c, env.cells.lookup n = some c → ge.IsCell c (bindC env.kindOf [(("self" : Str), .ref x), (("sequences" : Str), .ref a)] (fun _ => none) n)) →
      Wd (hd.heap_39 w.params) mg mb ge ∧ ge.Ns L (fun y => if y = "sequences" then some (.ref a) else none) ∧ ge.IsCell (L + 1) (some (.ref x)) ∧ Inst ge x C (.int 1 t) f ∧ ge.IsTuple a (List.toArray vs) := fun ge ug gN gC =>
    ⟨W.up fun b o e => ug b o (fs.ran.up b o e), by rw [he] at gN; exact gN, by have := gC _ _ ec; rw [he] at this; exact this, i.up fun b o e => ug b o (fs.ran.up b o e), ht.at fun o e => ug _ o e⟩
  refine wpAny_execs_cons (wpAny_If (fs.eval (P := fun _ b _ => b = false) (fun ge ug gN gC => ?_) fun b s₁ ge gp g₁ fs₁ ug ue out p => ?_))
  · obtain ⟨Wg, hn, hc, ig, _⟩ := ctx ge ug gN gC
    exact gt_not (gt_value (gv_attr (gv_name (lk_cell ek (by rw [he]; rfl) ec hc) (ga_qval Wg.K ig (cl.pg _) cl.hd cl.q rfl (gt_int rfl)))))
  · subst p
    simp only [Bool.false_eq_true, if_false]
    refine wpAny_execs_nil ?_
    dsimp only
    refine wpAny_execs_cons (wpAny_If (fs₁.eval (P := fun _ b _ => b = true) (fun ge ug₁ gN gC => ?_) fun b s₂ ge gp g₂ fs₂ ug₁ ue out p => ?_))
    · obtain ⟨Wg, hn, hc, ig, _⟩ := ctx ge (fun b o e => ug₁ b o (ug b o e)) gN gC
      exact gt_cmp (gv_attr (gv_name (lk_cell ek (by rw [he]; rfl) ec hc) (ga_qval Wg.K ig (cl.pg _) cl.hd cl.q rfl (gv_int fun u => op_eqi.mono fun v g _ e => by rw [e]; exact gt_bool rfl))))
    · subst p
      simp only [if_true]
      refine wpAny_execs_cons (wpAny_Return_some (fs₂.eval (P := fun _ v g => ∃ a, v = .ref a ∧ g.IsList a (List.toArray vs)) (fun ge ug₂ gN gC => ?_) fun v s' ge gp g' fs' _ _ out p => ?_))
      · obtain ⟨Wg, hn, hc, ig, htg⟩ := ctx ge (fun b o e => ug₂ b o (ug₁ b o (ug b o e))) gN gC
        exact gv_call (gv_name (lk_builtin Wg ek (by rw [he]; rfl) eg eb rfl rfl (by decide)) (gv_call1 kept_type (gv_name (lk_local ek (by rw [he]; rfl) (eL ▸ hn) rfl) (op_list_tuple htg hv.len))))
      · obtain ⟨a', e, hl⟩ := p
        exact qq _ s' g' fs'.ran ⟨a', e, isList_seq out.seq hl⟩
theorem gs_two (W : Wd (hd.heap_39 w.params) mg mb h) (F : Fine A 7) {x C cal : Nat} {t : Tok} {f : Value} (cl : Cl (hd.heap_39 w.params) C cal) (i : Inst h x C (.int 2 t) f) {vs : List Value} {ls : List (List Str)} (hv : Rows h vs (ls.map (List.map .s))) :
    GivesC (model PySem.Challenge.rw_fq5031_01.row.prog w) A h (.call (.ref 108) ⟨.ref x :: vs, []⟩) fun v g => ∃ a ws, v = .ref a ∧ g.IsList a (List.toArray ws) ∧ Paired (LstV ItV g) ws (ls.map pairUp) := by
  refine call_fn F.lt (W.K 108 _ rfl) rfl rfl ⟨107, _, _, _, rfl, W.K 107 _ rfl, rfl, rfl⟩ W.nolimit rfl rfl rfl rfl (bind_self_star rfl rfl hv.len)
    (fun b g ⟨a, e, _⟩ => bound_kind (by rw [e]; rfl)) ?run
  rintro binds g s₀ s L env ⟨a, rfl, _, ht⟩ he fs Q E qq
  have ek : env.scope.kind = .function := by rw [he]; rfl
  have eg : env.globals = mainGlobals := by rw [he]; rfl
  have eb : env.builtins = builtinsNs := by rw [he]; rfl
  have eL : env.locals = L := by rw [he]; rfl
  have ec : env.cells.lookup ("self" : Str) = some (L + 1) := by rw [he]; rfl
  have Fd := F.deep env
  have ctx : ∀ ge, Up g ge → ge.Ns L (bindL env.kindOf [(("self" : Str), .ref x), (("sequences" : Str), .ref a)] fun _ => none) → (∀ n c, env.cells.lookup n = some c → ge.IsCell c (bindC env.kindOf [(("self" : Str), .ref x), (("sequences" : Str), .ref a)] (fun _ => none) n)) →
      Wd (hd.heap_39 w.params) mg mb ge ∧ ge.Ns L (fun y => if y = "sequences" then some (.ref a) else none) ∧ ge.IsCell (L + 1) (some (.ref x)) ∧ Inst ge x C (.int 2 t) f ∧ ge.IsTuple a (List.toArray vs) ∧ Rows ge vs (ls.map (List.map .s)) := fun ge ug gN gC =>
    ⟨W.up fun b o e => ug b o (fs.ran.up b o e), by rw [he] at gN; exact gN, by have := gC _ _ ec; rw [he] at this; exact this, i.up fun b o e => ug b o (fs.ran.up b o e), ht.at fun o e => ug _ o e, hv.up (Up.seq fun b o e => ug b o (fs.ran.up b o e))⟩
  refine wpAny_execs_cons (wpAny_If (fs.eval (P := fun _ b _ => b = false) (fun ge ug gN gC => ?_) fun b s₁ ge gp g₁ fs₁ ug ue out p => ?_))
  · obtain ⟨Wg, hn, hc, ig, _⟩ := ctx ge ug gN gC
    exact gt_not (gt_value (gv_attr (gv_name (lk_cell ek (by rw [he]; rfl) ec hc) (ga_qval Wg.K ig (cl.pg _) cl.hd cl.q rfl (gt_int rfl)))))
  · subst p
    simp only [Bool.false_eq_true, if_false]
    refine wpAny_execs_nil ?_
    dsimp only
    refine wpAny_execs_cons (wpAny_If (fs₁.eval (P := fun _ b _ => b = false) (fun ge ug₁ gN gC => ?_) fun b s₂ ge gp g₂ fs₂ ug₁ ue out p => ?_))
    · obtain ⟨Wg, hn, hc, ig, _⟩ := ctx ge (fun b o e => ug₁ b o (ug b o e)) gN gC
      exact gt_cmp (gv_attr (gv_name (lk_cell ek (by rw [he]; rfl) ec hc) (ga_qval Wg.K ig (cl.pg _) cl.hd cl.q rfl (gv_int fun u => op_eqi.mono fun v g _ e => by rw [e]; exact gt_bool rfl))))
    · subst p
      simp only [Bool.false_eq_true, if_false]
      refine wpAny_execs_nil ?_
      dsimp only
      refine wpAny_execs_cons (wpAny_Return_some (fs₂.eval (P := fun _ v g => ∃ a ws, v = .ref a ∧ g.IsList a (List.toArray ws) ∧ Paired (LstV ItV g) ws (ls.map pairUp)) (fun ge ug₂ gN gC => ?_) fun v s' ge gp g' fs' _ _ out p => ?_))
      · obtain ⟨Wg, hn, hc, ig, htg, hvg⟩ := ctx ge (fun b o e => ug₂ b o (ug₁ b o (ug b o e))) gN gC
        refine (comp_gives (x := "s") (n := vs.length) (P := fun i v => vs[i]? = some v) (cl := [(("self" : Str), L + 1)]) (fun _ => true) (fun i v g => ∃ y, ls[i]? = some y ∧ LstV ItV g v (pairUp y)) (fun i v g g' k ⟨y, e, z⟩ => ⟨y, e, lstV_st itV_st _ _ _ _ k z⟩) Fd.handled (by rw [he]; rfl) (by decide) rfl (by decide) rfl (by rw [hv.rows.length]; exact Nat.le_trans hv.few (by decide)) ?iter fun _ => rfl).mono ?fin
        case iter =>
          refine gv_name (lk_local ek (by rw [he]; rfl) (eL ▸ hn) rfl) ⟨by simpa using iter_tuple htg, fun C g i v m hi hp ug hN hm => Gives.pure rfl, fun C' g₁ j v m hi hp _ ug₃ hN hm => ?_⟩
          obtain ⟨r, hr, hrow⟩ := paired_at hvg.rows j v hp
          rw [List.getElem?_map] at hr
          cases hy : ls[j]? with
          | none => rw [hy] at hr; cases hr
          | some y =>
            rw [hy] at hr
            cases hr
            have hsm : y.length < 1000 := by have := hvg.small _ (List.mem_map_of_mem (List.mem_of_getElem? hy)); simpa using this
            have W₁ := Wg.up ug₃
            refine gv_call (gv_name (lk_global W₁ rfl (by rw [he]; rfl) eg rfl) (gv_call2 (kept_fn (W₁.K 26 _ rfl) rfl) (gv_name (lk_local rfl (by rw [he]; rfl) hN hm) (gv_attr (gv_name (lk_cell rfl (by rw [he]; rfl) rfl (hc.keeps ug₃)) (ga_qval W₁.K (ig.up ug₃) (cl.pg _) cl.hd cl.q rfl ?_))))))
            exact (c_find_ngrams W₁ (Fd.less (by decide)) (rowV_st _ _ _ _ (Up.seq ug₃) hrow) hsm).mono fun r g₂ _ z => ⟨y, rfl, z⟩
        case fin =>
          rintro r g u ⟨b, ys, rfl, hl, hp⟩
          refine ⟨b, ys, rfl, hl, ?_⟩
          have hlen := hv.rows.length
          have e0 : (List.range vs.length).filter (fun _ => true) = List.range ls.length := by rw [hlen, List.length_map]; exact List.filter_eq_self.mpr fun _ _ => rfl
          rw [e0] at hp
          have hl2 := hp.length
          rw [List.length_range] at hl2
          refine paired_of (by rw [List.length_map]; exact hl2.symm) fun i v k hv' hk => ?_
          obtain ⟨j, hj, y, hy, z⟩ := paired_both hp i v hv'
          have hji : j = i := by
            have := List.getElem?_eq_some_iff.mp hj
            obtain ⟨h1, h2⟩ := this
            rw [List.getElem_range] at h2; exact h2.symm
          subst hji
          rw [List.getElem?_map, hy] at hk
          cases hk
          exact z
      · obtain ⟨a', ws, e, hl, hp⟩ := p
        exact qq _ s' g' fs'.ran ⟨a', ws, e, isList_seq out.seq hl, paired_mono (fun v r y => lstV_st itV_st _ _ _ _ out.seq y) hp⟩
end

/-! part Fq27 -/

section
variable {M : Model} {A : Around} {s₀ s : Shared} {h g : Heap} {L : Nat} {m cm : Str → Option Value} {cs : List (Str × Addr)} {env : Env}
theorem FS.weaken {g1 : Heap} (x : FS s₀ h L m cs cm g s) (u : Up g1 g) (v : Up h g1) : FS s₀ h L m cs cm g1 s := by
  have n1 : ∀ b, g.get? b = none → g1.get? b = none := fun b e => by
    cases z : g1.get? b with
    | none => rfl
    | some o => rw [u b o z] at e; cases e
  exact ⟨⟨x.ran.keeps, v, fun b o e => x.ran.low b o (u b o e), fun b o e => x.ran.new b o (u b o e)⟩, x.ns, n1 _ x.offL, x.freshL, x.cell, fun n c hc => ⟨n1 _ (x.offC n c hc).1, (x.offC n c hc).2⟩, x.apart⟩
theorem FS.add {T : Nat} {o : Obj} (x : FS s₀ h L m cs cm g s) (hT : s.heap.get? T = some o) (h0 : s₀.heap.get? T = none) (hL : T ≠ L) (hc : ∀ n c, cs.lookup n = some c → T ≠ c) : ∃ g', FS s₀ h L m cs cm g' s ∧ Up g g' ∧ g'.get? T = some o := by
  obtain ⟨g', e1, e2⟩ := carve s.heap fun b => (∃ o, g.get? b = some o) ∨ b = T
  have ug : Up g g' := fun b o e => e2 b o (x.ran.low b o e) (.inl ⟨o, e⟩)
  refine ⟨g', ⟨⟨x.ran.keeps, fun b o e => ug b o (x.ran.up b o e), fun b o e => (e1 b o e).1, fun b o e => ?_⟩, x.ns, ?_, x.freshL, x.cell, fun n c hcs => ⟨?_, (x.offC n c hcs).2⟩, x.apart⟩, ug, e2 T o hT (.inr rfl)⟩
  · rcases (e1 b o e).2 with ⟨o', z⟩ | rfl
    · have := ug b o' z; rw [e] at this; cases this; exact x.ran.new b o z
    · exact .inr h0
  · cases z : g'.get? L with
    | none => rfl
    | some o' =>
      rcases (e1 L o' z).2 with ⟨o2, z2⟩ | z2
      · rw [x.offL] at z2; cases z2
      · exact absurd z2.symm hL
  · cases z : g'.get? c with
    | none => rfl
    | some o' =>
      rcases (e1 c o' z).2 with ⟨o2, z2⟩ | z2
      · rw [(x.offC n c hcs).1] at z2; cases z2
      · exact absurd z2.symm (hc n c hcs)
theorem FS.mut {h' : Heap} {tk : Nat} (x : FS s₀ h L m cs cm g s) (k : ∀ (b : Nat) o, ((∃ o', g.get? b = some o') ∨ b = L ∨ (∃ n c, cs.lookup n = some c ∧ b = c) ∨ ∃ o', s₀.heap.get? b = some o') → s.heap.get? b = some o → h'.get? b = some o) : FS s₀ h L m cs cm g { s with heap := h', toks := tk } := by
  refine ⟨⟨?_, x.ran.up, fun b o e => k b o (.inl ⟨o, e⟩) (x.ran.low b o e), x.ran.new⟩, x.ns.at' fun o e => k L o (.inr (.inl rfl)) e, x.offL, x.freshL, fun n c hc => ?_, x.offC, x.apart⟩
  · obtain ⟨h₁, t₁, rfl, k₁⟩ := x.ran.keeps
    exact ⟨h', tk, rfl, fun b o e => k b o (.inr (.inr (.inr ⟨o, e⟩))) (k₁ b o e)⟩
  · obtain ⟨o, a, b⟩ := x.cell n c hc
    exact ⟨o, k c o (.inr (.inr (.inl ⟨n, c, hc, rfl⟩))) a, b⟩
theorem FS.keep {s' : Shared} (x : FS s₀ h L m cs cm g s) (k : Keeps s s') : FS s₀ h L m cs cm g s' := by
  obtain ⟨h', tk, rfl, kk⟩ := k; exact x.mut fun b o _ e => kk b o e
/-- an expression that may make an iterator, or anything that only adds -/
theorem FS.parts (x : FS s₀ h L m cs cm g s) : ∃ ge, Up g ge ∧ Up ge s.heap ∧ ge.Ns L m ∧ (∀ n c, cs.lookup n = some c → ge.IsCell c (cm n)) := by
  obtain ⟨ge, e1, e2⟩ := carve s.heap fun b => (∃ o, g.get? b = some o) ∨ b = L ∨ ∃ n c, cs.lookup n = some c ∧ b = c
  exact ⟨ge, fun b o e => e2 b o (x.ran.low b o e) (.inl ⟨o, e⟩), fun b o e => (e1 b o e).1, x.ns.at' fun o e => e2 L o e (.inr (.inl rfl)), fun n c hc => by
    obtain ⟨o, a, b⟩ := x.cell n c hc
    exact ⟨o, e2 c o a (.inr (.inr ⟨n, c, hc, rfl⟩)), b⟩⟩
theorem FS.parts' (x : FS s₀ h L m cs cm g s) : ∃ ge, Up g ge ∧ Up ge s.heap ∧ ge.Ns L m ∧ (∀ n c, cs.lookup n = some c → ge.IsCell c (cm n)) ∧ ∀ b o, ge.get? b = some o → (∃ o', g.get? b = some o') ∨ b = L ∨ ∃ n c, cs.lookup n = some c ∧ b = c := by
  obtain ⟨ge, e1, e2⟩ := carve s.heap fun b => (∃ o, g.get? b = some o) ∨ b = L ∨ ∃ n c, cs.lookup n = some c ∧ b = c
  exact ⟨ge, fun b o e => e2 b o (x.ran.low b o e) (.inl ⟨o, e⟩), fun b o e => (e1 b o e).1, x.ns.at' fun o e => e2 L o e (.inr (.inl rfl)), fun n c hc => by
    obtain ⟨o, a, b⟩ := x.cell n c hc
    exact ⟨o, e2 c o a (.inr (.inr ⟨n, c, hc, rfl⟩)), b⟩, fun b o e => (e1 b o e).2⟩
end
section
variable {prog : Program} {w : World} {A : Around} {env : Env} {s₀ s : Shared} {h g : Heap} {L : Nat} {m cm : Str → Option Value} {cs : List (Str × Addr)}
/-- y = [elt for x in iter if ..], of a local y -/
theorem fs_compN {elt iter : Expr} {x y : Str} {px py : Pos} {ifs : List Expr} {scope : Scope} {cl : List (Str × Addr)} {pos spos : Pos} {n : Nat} {P : Nat → Value → Prop} (p : Nat → Bool) (F : Nat → Value → Heap → Prop)
    {Q : Flow → Shared → Prop} {E : Value → Shared → Prop} (fs : FS s₀ h L m cs cm g s) (eL : env.locals = L) (hy : env.kindOf y = some .local) (ek : env.scope.kind = .function)
    (hsw : swapsWith (.ListComp elt [⟨.Name x px, iter, ifs, 0⟩] scope pos) (some (.Name y py)) spos.line env = pure true)
    (hF : ∀ i v g g', SeqUp g g' → F i v g → F i v g') (hh : A.handled = none)
    (hclos : closureFor scope env = pure cl) (hcell : ∀ y ∈ scope.names, y.2 ≠ .cell) (hkind : scope.kind = .function)
    (hnames : ∀ y ∈ scope.names, y.2 = .local → scope.names.lookup y.1 = some .local) (hx : scope.names.lookup x = some .local) (hsz : n ≤ sizeLine)
    (hiter : ∀ ge, Up g ge → ge.Ns L m → (∀ n c, cs.lookup n = some c → ge.IsCell c (cm n)) → Gives (model prog w) A ge (eval iter env) fun xv g₁ => Iter prog w g₁ xv n P ∧ Block prog w A env scope cl x ifs elt g₁ n P p F)
    (hs : ∀ x, foldedSetIterable iter env x = pure x)
    (q : ∀ D s' g' ys, FS s₀ h L (fun z => if z = y then some (.ref D) else m z) cs cm g' s' → Up g g' → (∀ (b : Nat) o, b ≠ L → s.heap.get? b = some o → s'.heap.get? b = some o) → s.heap.get? D = none → g'.IsList D (List.toArray ys) → Paired (fun i v => F i v g') ((List.range n).filter p) ys → (∀ b, g'.get? b = none ∨ (∃ o, g.get? b = some o) ∨ s.heap.get? b = none) → Q .next s') :
    wpAny (model prog w) A (exec (.Assign [.Name y py] (.ListComp elt [⟨.Name x px, iter, ifs, 0⟩] scope pos) spos) env) Q E s := by
  rw [exec_Assign_Name_used _ _ _ _ hsw]
  refine wpAny_bind (wpAny_standAt (wpAny_bind ?_))
  show wpAny _ A (do let _ ← comprehension (.ListComp elt [⟨.Name x px, iter, ifs, 0⟩] scope pos) scope env _ (newList []) false (eval iter env) (some (assign (.Name y py) env))) _ _ s
  obtain ⟨ge, uge, low, gN, gC, gIn⟩ := fs.parts'
  refine wpAny_bind (wpAny_mono (comp_core (use := some (assign (.Name y py) env)) (Q := fun _ s' => Q .next s') p F hF hh hclos hcell hkind hnames hx hsz (hiter ge uge gN gC) hs low
    fun D C m' ys h₂ tk hD hC hDC kS hn hl hp => ?_) (fun _ s' hq => wpAny_pure (wpAny_pure hq)) fun _ _ e => e)
  show wpAny _ A (assign (.Name y py) env (.ref D)) _ _ _
  have fs₂ : FS s₀ h L m cs cm g { s with heap := h₂, toks := tk } := fs.keep ⟨h₂, tk, rfl, kS⟩
  have aL : ∃ o, s.heap.get? L = some o := by obtain ⟨o, _, _, e, _⟩ := fs.ns; exact ⟨o, e⟩
  have LC : C ≠ L := fun z => by obtain ⟨o, e⟩ := aL; rw [z, e] at hC; cases hC
  have LD : D ≠ L := fun z => by obtain ⟨o, e⟩ := aL; rw [z, e] at hD; cases hD
  refine wpAny_assign_Name (fs₂.storeK eL hy (fun s₃ fs₃ kL => ?_) (by rw [ek]; rfl))
  refine ⟨m', hn.at' fun o e => kL C o LC e, fun h' hs' => ?_⟩
  have aC : ∀ n c, cs.lookup n = some c → ∃ o, s.heap.get? c = some o := fun n c hc => by obtain ⟨o, e, _⟩ := fs.cell n c hc; exact ⟨o, e⟩
  have nC : ∀ (b : Nat), ((∃ o', g.get? b = some o') ∨ b = L ∨ (∃ n c, cs.lookup n = some c ∧ b = c) ∨ ∃ o', s₀.heap.get? b = some o') → ∃ o, s.heap.get? b = some o := fun b hb => by
    rcases hb with ⟨o, e⟩ | rfl | ⟨n, c, hc, rfl⟩ | ⟨o, e⟩
    · exact ⟨o, fs.ran.low b o e⟩
    · exact aL
    · exact aC n b hc
    · exact ⟨o, keeps_up fs.ran.keeps b o e⟩
  have neC : ∀ (b : Nat), (∃ o, s.heap.get? b = some o) → b ≠ C := fun b ⟨o, e⟩ z => by rw [z, hC] at e; cases e
  have fs₄ : FS s₀ h L (fun z => if z = y then some (.ref D) else m z) cs cm g { s₃ with heap := h' } := fs₃.mut (tk := s₃.toks) fun b o hb e => hs'.extBut b o (neC b (nC b hb)) e
  -- all that is new is told of
  have kf : ∀ (b : Nat) o, b ≠ L → b ≠ C → h₂.get? b = some o → h'.get? b = some o := fun b o h1 h2 e => hs'.extBut b o h2 (kL b o h1 e)
  obtain ⟨g', e1, e2⟩ := carve h' fun b => (∃ o, g.get? b = some o) ∨ (s.heap.get? b = none ∧ b ≠ C)
  have ug' : Up g g' := fun b o e => e2 b o (fs₄.ran.low b o e) (.inl ⟨o, e⟩)
  have nin : ∀ (b : Nat), g.get? b = none → (∃ o, s.heap.get? b = some o) → g'.get? b = none := fun b hb ⟨o, e⟩ => by
    cases z : g'.get? b with
    | none => rfl
    | some o' =>
      rcases (e1 b o' z).2 with ⟨o2, z2⟩ | ⟨z2, _⟩
      · rw [hb] at z2; cases z2
      · rw [e] at z2; cases z2
  have fs₅ : FS s₀ h L (fun z => if z = y then some (.ref D) else m z) cs cm g' { s₃ with heap := h' } := by
    refine ⟨⟨fs₄.ran.keeps, fun b o e => ug' b o (fs₄.ran.up b o e), fun b o e => (e1 b o e).1, fun b o e => ?_⟩, fs₄.ns, nin L fs.offL aL, fs.freshL, fs₄.cell, fun n c hc => ⟨nin c (fs.offC n c hc).1 (aC n c hc), (fs.offC n c hc).2⟩, fs.apart⟩
    rcases (e1 b o e).2 with ⟨o', z⟩ | ⟨z, _⟩
    · have := ug' b o' z; rw [e] at this; cases this; exact fs₄.ran.new b o z
    · refine .inr ?_
      cases z2 : s₀.heap.get? b with
      | none => rfl
      | some o2 => rw [keeps_up fs.ran.keeps b o2 z2] at z; cases z
  obtain ⟨ga, a1, a2⟩ := carve h₂ fun b => (∃ o, ge.get? b = some o) ∨ (s.heap.get? b = none ∧ b ≠ C)
  have hpa := hp ga (fun b o e => a2 b o (kS b o (low b o e)) (.inl ⟨o, e⟩)) fun b o hb e e' => a2 b o e (.inr ⟨e', hb⟩)
  have sq : SeqUp ga g' := fun b o xs nn e d => by
    obtain ⟨e3, e4⟩ := a1 b o e
    have hbL : b ≠ L := fun z => by
      subst z
      obtain ⟨o1, _, _, e5, d5, _⟩ := fs₂.ns
      rw [show h₂.get? b = some o1 from e5] at e3; cases e3; rw [d] at d5; cases d5
    have hbC : b ≠ C := fun z => by
      subst z
      obtain ⟨o1, _, _, e5, d5, _⟩ := hn
      rw [e5] at e3; cases e3; rw [d] at d5; cases d5
    refine e2 b o (kf b o hbL hbC e3) ?_
    rcases e4 with ⟨o', e4⟩ | e4
    · rcases gIn b o' e4 with z | z | ⟨n, c, hc, z⟩
      · exact .inl z
      · exact absurd z hbL
      · exfalso
        subst z
        obtain ⟨o1, e5, d5⟩ := fs₂.cell n b hc
        rw [show h₂.get? b = some o1 from e5] at e3; cases e3; rw [d] at d5; cases d5
    · exact .inr e4
  refine q D _ g' ys fs₅ ug' (fun b o hb e => hs'.extBut b o (neC b ⟨o, e⟩) (kL b o hb (kS b o e))) hD ?_ (paired_mono (fun i v z => hF i v _ _ sq z) hpa) fun b => ?_
  rotate_left
  · cases z : g'.get? b with
    | none => exact .inl rfl
    | some o => exact .inr ((e1 b o z).2.imp id fun z => z.1)
  obtain ⟨o, e, r⟩ := hl
  exact ⟨o, e2 D o (kf D o LD hDC e) (.inr ⟨hD, hDC⟩), r⟩
theorem fs_comp {elt iter : Expr} {x y : Str} {px py : Pos} {ifs : List Expr} {scope : Scope} {cl : List (Str × Addr)} {pos spos : Pos} {n : Nat} {P : Nat → Value → Prop} (p : Nat → Bool) (F : Nat → Value → Heap → Prop)
    {Q : Flow → Shared → Prop} {E : Value → Shared → Prop} (fs : FS s₀ h L m cs cm g s) (eL : env.locals = L) (hy : env.kindOf y = some .local) (ek : env.scope.kind = .function)
    (hsw : swapsWith (.ListComp elt [⟨.Name x px, iter, ifs, 0⟩] scope pos) (some (.Name y py)) spos.line env = pure true)
    (hF : ∀ i v g g', SeqUp g g' → F i v g → F i v g') (hh : A.handled = none)
    (hclos : closureFor scope env = pure cl) (hcell : ∀ y ∈ scope.names, y.2 ≠ .cell) (hkind : scope.kind = .function)
    (hnames : ∀ y ∈ scope.names, y.2 = .local → scope.names.lookup y.1 = some .local) (hx : scope.names.lookup x = some .local) (hsz : n ≤ sizeLine)
    (hiter : ∀ ge, Up g ge → ge.Ns L m → (∀ n c, cs.lookup n = some c → ge.IsCell c (cm n)) → Gives (model prog w) A ge (eval iter env) fun xv g₁ => Iter prog w g₁ xv n P ∧ Block prog w A env scope cl x ifs elt g₁ n P p F)
    (hs : ∀ x, foldedSetIterable iter env x = pure x)
    (q : ∀ D s' g' ys, FS s₀ h L (fun z => if z = y then some (.ref D) else m z) cs cm g' s' → Up g g' → (∀ (b : Nat) o, b ≠ L → s.heap.get? b = some o → s'.heap.get? b = some o) → s.heap.get? D = none → g'.IsList D (List.toArray ys) → Paired (fun i v => F i v g') ((List.range n).filter p) ys → Q .next s') :
    wpAny (model prog w) A (exec (.Assign [.Name y py] (.ListComp elt [⟨.Name x px, iter, ifs, 0⟩] scope pos) spos) env) Q E s :=
  fs_compN p F fs eL hy ek hsw hF hh hclos hcell hkind hnames hx hsz hiter hs fun D s' g' ys a b c d e f _ => q D s' g' ys a b c d e f
end

/-! part Fq28 -/

/-! what is told -/
def col (rs : List (List It)) (i : Nat) : List It := rs.filterMap (·[i]?)
def told (S : List It → Bool) (rs : List (List It)) (n : Nat) : Nat := ((List.range n).takeWhile fun i => S (col rs i)).length
theorem told_le (S : List It → Bool) (rs : List (List It)) (n : Nat) : told S rs n ≤ n := by
  unfold told
  have := (List.takeWhile_prefix (fun i => S (col rs i)) (l := List.range n)).length_le
  rwa [List.length_range] at this
theorem told_eq {S : List It → Bool} {rs : List (List It)} {n i : Nat} (hi : i ≤ n) (h : ∀ j, j < i → S (col rs j) = true) (e : i = n ∨ S (col rs i) = false) : told S rs n = i := by
  unfold told
  have hr : List.range n = List.range i ++ (List.range (n - i)).map (i + ·) := by
    rw [← List.range_add]; congr 1; omega
  have tw : ∀ l : List Nat, (∀ j ∈ l, S (col rs j) = true) → l.takeWhile (fun i => S (col rs i)) = l := fun l => by
    induction l with
    | nil => intro _; rfl
    | cons a l ih => intro hl; rw [List.takeWhile_cons, hl a (by simp)]; simp only [if_true]; rw [ih fun j hj => hl j (List.mem_cons_of_mem _ hj)]
  have htake : (List.range i).takeWhile (fun i => S (col rs i)) = List.range i := tw _ fun j hj => h j (List.mem_range.mp hj)
  rw [hr, List.takeWhile_append, htake]
  rw [if_pos (by rfl)]
  rcases e with e | e
  · have : n - i = 0 := by omega
    rw [this]; simp
  · cases hn : n - i with
    | zero => simp
    | succ k =>
      rw [List.range_succ_eq_map, List.map_cons, List.takeWhile_cons]
      simp [e]

section
variable {w : World} {A : Around} {h : Heap} {mg mb : Str → Option Value}
/-- the test of signs, or _ident -/
structure SimT (w : World) (h : Heap) (f : Value) (S : List It → Bool) (ok : List It → Prop) : Prop where
  kept : Kept (model PySem.Challenge.rw_fq5031_01.row.prog w) h f
  handed : handedIn f = true
  run : ∀ (A : Around) (h' : Heap) vs l, Fine A 6 → Up h h' → Paired (ItV h') vs l → ok l → Gives (model PySem.Challenge.rw_fq5031_01.row.prog w) A h' (call f vs []) fun v _ => v = .bool (S l)
theorem SimT.up {h' : Heap} {f : Value} {S : List It → Bool} {ok : List It → Prop} (x : SimT w h f S ok) (k : Up h h') : SimT w h' f S ok := ⟨x.kept.up k, x.handed, fun A h₂ vs l F u p o => x.run A h₂ vs l F (fun b o e => u b o (k b o e)) p o⟩
/-- a cursor over a row -/
def Over (g : Heap) (c : Cu PySem.Challenge.rw_fq5031_01.row.prog w) (r : List It) : Prop := c.n = r.length ∧ ∀ j y, c.P j y → ∃ a, r[j]? = some a ∧ ItV g y a
theorem over_col {g : Heap} {ks : List (Cu PySem.Challenge.rw_fq5031_01.row.prog w)} {rs : List (List It)} (o : Paired (Over g) ks rs) {i : Nat} {vs : List Value} (p : Paired (fun c v => c.P i v) ks vs) : Paired (ItV g) vs (col rs i) := by
  induction o generalizing vs with
  | nil => cases p; exact .nil
  | @cons c r ks rs a _ ih =>
    cases p with
    | cons b p =>
      obtain ⟨x, hx, hv⟩ := a.2 _ _ b
      unfold col at ih ⊢
      rw [List.filterMap_cons, hx]
      exact .cons hv (ih p)
theorem beg_loop {x C cal R : Nat} {q f : Value} {S : List It → Bool} {ok : List It → Prop} {s₀ s : Shared} {g : Heap} {L : Nat} {m cm : Str → Option Value} {env : Env} {p1 p2 p3 p4 p5 p6 p7 p8 p9 p10 p11 p12 p13 p14 p15 p16 : Pos} {kk : Nat} {Rz : Result → Shared → Prop}
    (F : Fine A 9) (cl : Cl (hd.heap_39 w.params) C cal) (W : Wd (hd.heap_39 w.params) mg mb g) (i0 : Inst g x C q f) (sim : SimT w g f S ok)
    (fs : FS s₀ h L m [] cm g s) (ek : env.scope.kind = .function) (eL : env.locals = L) (k1 : env.kindOf "self" = some .local) (k2 : env.kindOf "c" = some .local) (k3 : env.kindOf "result" = some .local) (ei : interactive env = false)
    (esw : swapsWith (.Call (.Attribute (.Name "result" p10) "append" p11) [.Subscript (.Name "c" p12) (.Constant (.int 0) kk p13) p14] [] p15) none p16.line env = pure false)
    (hline : (p11.endLine == p15.line) = true)
    (ma : m "self" = some (.ref x)) (mr : m "result" = some (.ref R))
    {z TI TO n : Nat} {ks : List (Cu PySem.Challenge.rw_fq5031_01.row.prog w)} {rs : List (List It)} {r0 : List It} (D : ZApart z TI TO ks) (hne : ks ≠ []) (ov : Paired (Over g) ks rs) (hr0 : rs.head? = some r0)
    (hn : (∀ r ∈ rs, n ≤ r.length) ∧ ∃ r ∈ rs, r.length = n) (hsm : n < 1000) (hok : ∀ i, i < n → ok (col rs i)) (st : ZSt s.heap z TI TO ks 0)
    (off : ∀ (b : Nat), (b = z ∨ b = TO ∨ ∃ c ∈ ks, b = c.I) → g.get? b = none ∧ s₀.heap.get? b = none ∧ b ≠ L ∧ b ≠ R)
    (offL : z ≠ L ∧ TI ≠ L ∧ TO ≠ L ∧ ∀ c ∈ ks, ∀ (b : Nat), b ∈ c.fp → b ≠ L ∧ b ≠ R) (offR : TI ≠ R) (hR : s.heap.PlainList R #[]) (gR : g.get? R = none) (sR : s₀.heap.get? R = none) (LR : R ≠ L)
    (fin : ∀ s' m' res, FS s₀ h L m' [] cm g s' → (∀ y : Str, y ≠ "c" → m' y = m y) → s'.heap.PlainList R (List.toArray res) → Paired (ItV g) res (r0.take (told S rs n)) → Rz (.ok .next) s') :
    codeAny (model PySem.Challenge.rw_fq5031_01.row.prog w) A (.forLoop (.Name "c" p1) (.ref z)
      [.If (.UnaryOp .Not (.Call (.Attribute (.Name "self" p2) "sim_test" p3) [.Starred (.Name "c" p4) p5] [] p6) p7) [.Break p8] [] p9,
        .Expr (.Call (.Attribute (.Name "result" p10) "append" p11) [.Subscript (.Name "c" p12) (.Constant (.int 0) kk p13) p14] [] p15) p16] [] env) Rz s := by
  have hcn : ∀ c ∈ ks, n ≤ c.n := fun c hc => by
    obtain ⟨i, hi⟩ := List.getElem?_of_mem hc
    obtain ⟨r, hr, o⟩ := paired_at ov i c hi
    rw [o.1]; exact hn.1 r (List.mem_of_getElem? hr)
  have hex : ∃ c ∈ ks, c.n = n := by
    obtain ⟨r, hr, e⟩ := hn.2
    obtain ⟨i, hi⟩ := List.getElem?_of_mem hr
    obtain ⟨c, hc, o⟩ := paired_both ov i r hi
    exact ⟨c, List.mem_of_getElem? hc, by rw [o.1, e]⟩
  refine codeAny_forLoop (fun k s' => ∃ i m' res, k = n + 1 - i ∧ i ≤ n ∧ FS s₀ h L m' [] cm g s' ∧ (∀ y : Str, y ≠ "c" → m' y = m y) ∧ ZSt s'.heap z TI TO ks i ∧ s'.heap.PlainList R (List.toArray res) ∧ Paired (ItV g) res (r0.take i) ∧ ∀ j, j < i → S (col rs j) = true) ?_ (n + 1)
    ⟨0, m, [], rfl, Nat.zero_le _, fs, fun _ _ => rfl, st, hR, by simpa using Paired.nil, by simp⟩
  rintro k s' ⟨i, m', res, rfl, hin, fs', hm', st', hR', hres, hS⟩
  -- a step of the zip leaves the frame, R, and all that is known
  have zkeep : ∀ h' tk, (∀ (b : Nat) o, b ≠ z → b ≠ TO → (∀ c ∈ ks, b ≠ c.I) → s'.heap.get? b = some o → h'.get? b = some o) → FS s₀ h L m' [] cm g { s' with heap := h', toks := tk } ∧ h'.PlainList R (List.toArray res) := fun h' tk hk => by
    have nz : ∀ (b : Nat), ((∃ o', g.get? b = some o') ∨ b = L ∨ (∃ o', s₀.heap.get? b = some o') ∨ b = R) → b ≠ z ∧ b ≠ TO ∧ ∀ c ∈ ks, b ≠ c.I := fun b hb => by
      have no : ∀ b', (b' = z ∨ b' = TO ∨ ∃ c ∈ ks, b' = c.I) → b ≠ b' := fun b' hb' e => by
        subst e
        obtain ⟨o1, o2, o3, o4⟩ := off b hb'
        rcases hb with ⟨o', e⟩ | e | ⟨o', e⟩ | e
        · rw [o1] at e; cases e
        · exact o3 e
        · rw [o2] at e; cases e
        · exact o4 e
      exact ⟨no z (.inl rfl), no TO (.inr (.inl rfl)), fun c hc => no c.I (.inr (.inr ⟨c, hc, rfl⟩))⟩
    refine ⟨fs'.mut fun b o hb e => ?_, hR'.at fun o e => ?_⟩
    · rcases hb with hb | hb | ⟨_, _, hb, _⟩ | hb
      · obtain ⟨a1, a2, a3⟩ := nz b (.inl hb); exact hk b o a1 a2 a3 e
      · obtain ⟨a1, a2, a3⟩ := nz b (.inr (.inl hb)); exact hk b o a1 a2 a3 e
      · simp at hb
      · obtain ⟨a1, a2, a3⟩ := nz b (.inr (.inr (.inl hb))); exact hk b o a1 a2 a3 e
    · obtain ⟨a1, a2, a3⟩ := nz R (.inr (.inr (.inr rfl))); exact hk R o a1 a2 a3 e
  refine zip_pyNext F.handled D hne (fun c hc => Nat.le_trans hin (hcn c hc)) st' (fun hlt h' tk T vs hT hTup hp hst hk => ?_) fun hend h' tk hk => ?_
  · obtain ⟨fs₁, hR₁⟩ := zkeep h' tk hk
    have hlt' : i < n := by
      obtain ⟨c, hc, e⟩ := hex
      have := hlt c hc; omega
    have newT : ∀ (b : Nat) o, s'.heap.get? b = some o → T ≠ b := fun b o e z => by rw [← z, hT] at e; cases e
    have TL : T ≠ L := by obtain ⟨o, _, _, e, _⟩ := fs'.ns; exact newT L o e
    have TR : T ≠ R := by obtain ⟨_, e⟩ := hR'; exact newT R _ e
    have T0 : s₀.heap.get? T = none := by
      cases e : s₀.heap.get? T with
      | none => rfl
      | some o => rw [keeps_up fs'.ran.keeps T o e] at hT; cases hT
    obtain ⟨oT, hoT, rT⟩ := id hTup
    obtain ⟨g₁, fsT, ug₁, hgT⟩ := fs₁.add hoT T0 TL (fun n c hc => by simp at hc)
    have hcolp := over_col ov hp
    -- c takes the tuple
    refine wpAny_assign_Name (fsT.storeK eL k2 (fun s₂ fs₂ kL => ?_) (by rw [ek]; rfl))
    have hR₂ : s₂.heap.PlainList R (List.toArray res) := hR₁.at fun o e => kL R o LR e
    have st₂ : ZSt s₂.heap z TI TO ks (i + 1) := hst.frame fun b o hb e => kL b o (by
      rcases hb with rfl | rfl | rfl | ⟨c, hc, hb⟩
      · exact offL.1
      · exact offL.2.1
      · exact offL.2.2.1
      · exact (offL.2.2.2 c hc b hb).1) e
    generalize hm2e : (fun y : Str => if y = "c" then some (Value.ref T) else m' y) = m2 at fs₂
    have m2c : m2 "c" = some (.ref T) := by rw [← hm2e]; rfl
    have m2a : m2 "self" = some (.ref x) := by rw [← hm2e]; show (if ("self" : Str) = "c" then _ else _) = _; rw [if_neg (by decide), hm' _ (by decide), ma]
    have m2r : m2 "result" = some (.ref R) := by rw [← hm2e]; show (if ("result" : Str) = "c" then _ else _) = _; rw [if_neg (by decide), hm' _ (by decide), mr]
    have hm2 : ∀ y : Str, y ≠ "c" → m2 y = m y := fun y hy => by rw [← hm2e]; show (if y = "c" then _ else _) = _; rw [if_neg hy]; exact hm' y hy
    have hvl := hp.length
    have hTg : g₁.IsTuple T (List.toArray vs) := ⟨oT, hgT, rT⟩
    refine wpAny_execs_cons (wpAny_If (fs₂.evalK (P := fun _ b _ => b = !(S (col rs i))) (fun ge ug gN gC => ?_) fun b s₃ ge gp g₃ fs₃ kp ug ue out p => ?_))
    · have ugg : Up g ge := fun b o e => ug b o (ug₁ b o e)
      refine gt_not (gt_value (gv_methS (gv_name (lk_local ek k1 (eL ▸ gN) m2a) (ga_sim (W.K.keeps ugg) (i0.up ugg) (cl.pg _) cl.hd cl.st (sim.handed) (gv_callS (sim.kept.up ugg) (gv_name (lk_local ek k2 (eL ▸ gN) m2c) (starred_tuple (hTg.at fun o e => ug _ o e) (by rw [← hvl]; exact Nat.le_trans D.few (by decide)) ?_)))))))
      refine (sim.run A ge vs (col rs i) (F.less (by decide)) ugg (paired_mono (fun v a y => itV_st _ _ _ _ (Up.seq ugg) y) hcolp) (hok i hlt')).mono fun v g _ e => by rw [e]; exact gt_bool rfl
    · have fs₃' := fs₃.weaken (fun b o e => ug b o (ug₁ b o e)) fs.ran.up
      have hR₃ : s₃.heap.PlainList R (List.toArray res) := hR₂.at fun o e => keeps_up kp R o e
      have st₃ : ZSt s₃.heap z TI TO ks (i + 1) := st₂.frame fun b o _ e => keeps_up kp b o e
      cases hSi : S (col rs i) with
      | false =>
        rw [hSi] at p
        subst p
        simp only [Bool.not_false, if_true]
        refine wpAny_execs_cons (wpAny_Break ?_)
        dsimp only
        rw [← told_eq hin hS (.inr hSi)] at hres
        exact fin s₃ _ res fs₃' hm2 hR₃ hres
      | true =>
        rw [hSi] at p
        subst p
        simp only [Bool.not_true, Bool.false_eq_true, if_false]
        refine wpAny_execs_nil ?_
        dsimp only
        refine wpAny_execs_cons (wpAny_Expr_any (wpAny_Call_append rfl rfl hline rfl ?_) ei esw)
        refine wpAny_Name (wpAny_loadName_local ek k3 (eL ▸ fs₃.ns) m2r ⟨R, List.toArray res, rfl, ?_, ?_⟩) (by decide)
        · obtain ⟨n', e⟩ := hR₃
          exact ⟨_, n', e, rfl, rfl, rfl⟩
        · have hc0 : ∃ v0 a0, vs[0]? = some v0 ∧ r0[i]? = some a0 ∧ ItV g v0 a0 := by
            cases ov with
            | nil => exact absurd rfl hne
            | cons o0 ov' =>
              cases hp with
              | cons b0 hp' =>
                simp at hr0
                subst hr0
                obtain ⟨a0, e1, e2⟩ := o0.2 _ _ b0
                exact ⟨_, a0, rfl, e1, e2⟩
          obtain ⟨v0, a0, hv0, ha0, hi0⟩ := hc0
          refine fs₃.evalK (P := fun _ v _ => v = v0) (fun ge ug' gN gC => ?_) fun v s₄ ge' gp' g₄ fs₄ kp₄ ug₄ ue₄ out₄ p₄ => ?_
          · refine gv_sub (gv_name (lk_local ek k2 (eL ▸ gN) m2c) (gv_int fun t => op_item_tuple (k := 0) (hTg.at fun o e => ug' _ o (ug _ o e)) hv0 (by decide) rfl))
          · rw [p₄]
            have fs₄' := fs₄.weaken (fun b o e => ug₄ b o (ug b o (ug₁ b o e))) fs.ran.up
            have hR₄ : s₄.heap.PlainList R (List.toArray res) := hR₃.at fun o e => keeps_up kp₄ R o e
            have st₄ : ZSt s₄.heap z TI TO ks (i + 1) := st₃.frame fun b o _ e => keeps_up kp₄ b o e
            have hrl := hres.length
            have hrs : res.length ≤ sizeLine := by rw [hrl, List.length_take]; have : sizeLine = 2 ^ 24 := rfl; omega
            refine wpAny_list_append_plain (hsz := by simpa using hrs) hR₄ fun h₅ hR₅ hs₅ => wpAny_execs_nil ?_
            dsimp only
            refine ⟨n + 1 - (i + 1), by omega, i + 1, m2, res ++ [v0], rfl, hlt', fs₄'.mut (tk := s₄.toks) (fun b o hb e => hs₅.extBut b o (fun z => ?_) e), hm2, st₄.frame fun b o hb e => hs₅.extBut b o ?_ e, by simpa using hR₅, ?_, fun j hj => ?_⟩
            · subst z
              rcases hb with ⟨o', e⟩ | e | ⟨_, _, e, _⟩ | ⟨o', e⟩
              · rw [gR] at e; cases e
              · exact LR e
              · simp at e
              · rw [sR] at e; cases e
            · rcases hb with rfl | rfl | rfl | ⟨c, hc, hb⟩
              · exact (off _ (.inl rfl)).2.2.2
              · exact offR
              · exact (off _ (.inr (.inl rfl))).2.2.2
              · exact (offL.2.2.2 c hc b hb).2
            · rw [List.take_add_one, ha0]; exact paired_append hres (.cons hi0 .nil)
            · rcases Nat.lt_or_ge j i with hji | hji
              · exact hS j hji
              · have : j = i := by omega
                rw [this]; exact hSi
  · obtain ⟨fs₁, hR₁⟩ := zkeep h' tk hk
    refine wpAny_execs_nil ?_
    have hi : i = n := by
      obtain ⟨c, hc, e⟩ := hend
      have := hcn c hc; omega
    rw [← told_eq hin hS (.inl hi)] at hres
    exact fin _ m' res fs₁ hm' hR₁ hres
end

/-! part Fq29 -/
def one1 (c : Nat) : Str := ⟨#[c]⟩
theorem sg_append (x y : Str) : sg (x ++ y) = sg x ++ sg y := by
  obtain ⟨a⟩ := x
  obtain ⟨b⟩ := y
  show ((a ++ b).toList.map _) = _
  rw [Array.toList_append, List.map_append]; rfl
theorem sg_eq_of {y : Str} {cs : List Nat} (h : y.cps.toList = cs) : sg y = cs.map one1 := by unfold sg PyProof.Rows.signs one1; rw [h]
theorem join_ones : ∀ cs : List Nat, sg (Str.join (Str.ofString "") (cs.map one1)) = cs.map one1
  | [] => rfl
  | [c] => rfl
  | c :: d :: r => by
    show sg ((one1 c ++ Str.ofString "") ++ Str.join (Str.ofString "") ((d :: r).map one1)) = _
    rw [sg_append, join_ones (d :: r), sg_append]
    rfl
theorem txt_join_ones (cs : List Nat) : sg (Txt.join (Str.ofString "") (cs.map one1)) = cs.map one1 := by
  rw [eq_of_beq (join_plain_closes (Str.ofString "") (cs.map one1))]; exact join_ones cs
theorem joinOk_ones (cs : List Nat) (h : cs.length < 1000) : JoinOk (Str.ofString "") (cs.map one1) = true := by
  have e : ∀ (l : List Nat) (n : Nat), (l.map one1).foldl (fun a (x : Str) => a + x.length + (Str.ofString "").length) n = n + l.length := fun l => by
    induction l with
    | nil => intro n; rfl
    | cons a l ih => intro n; rw [List.map_cons, List.foldl_cons, ih]; show n + 1 + 0 + l.length = n + (l.length + 1); omega
  unfold JoinOk
  rw [List.foldl_toArray, e]
  have : sizeLine = 2 ^ 24 := rfl
  have e2 : Builtin.Str.tooLong (0 + cs.length) = false := decide_eq_false (by omega)
  rw [e2]; rfl
theorem sg_ones (x : Str) : sg x = x.cps.toList.map one1 := rfl
/-- a text's signs, or a list of items -/
def RowK (b : Bool) (h : Heap) (v : Value) (l : List It) : Prop := match b with
  | true => ∃ x t, v = .str x t ∧ l = (sg x).map .s
  | false => LstV ItV h v l
theorem rowK_row {b : Bool} {h : Heap} {v : Value} {l : List It} (x : RowK b h v l) : RowV h v l := by
  cases b with
  | true => exact .inr x
  | false => exact .inl x
theorem rowK_st {b : Bool} : Stable (RowK b) := fun h h' v l k x => by
  cases b with
  | true => exact x
  | false => exact lstV_st itV_st _ _ _ _ k x
theorem rows_src {g : Heap} {vs : List Value} {rs : List (List It)} (p : Paired (RowV g) vs rs) : ∃ sp : List (Nat × (Nat → Value → Prop)), Paired (fun v p => Src g v p.1 p.2) vs sp ∧ Paired (fun (p : Nat × (Nat → Value → Prop)) (r : List It) => p.1 = r.length ∧ ∀ j y, p.2 j y → ∃ a, r[j]? = some a ∧ ItV g y a) sp rs := by
  induction p with
  | nil => exact ⟨[], .nil, .nil⟩
  | cons a _ ih =>
    obtain ⟨sp, x, y⟩ := ih
    obtain ⟨P, s, f⟩ := row_src a
    exact ⟨(_, P) :: sp, .cons s x, .cons ⟨rfl, f⟩ y⟩
theorem over_of {w : World} {g : Heap} : ∀ {ks : List (Cu PySem.Challenge.rw_fq5031_01.row.prog w)} {rs : List (List It)}, Paired (fun (p : Nat × (Nat → Value → Prop)) (r : List It) => p.1 = r.length ∧ ∀ j y, p.2 j y → ∃ a, r[j]? = some a ∧ ItV g y a) (ks.map fun c => (c.n, c.P)) rs → Paired (Over g) ks rs
  | [], _, .nil => .nil
  | c :: ks, _, .cons a r => .cons a (over_of r)
section
variable {w : World} {A : Around} {h : Heap} {mg mb : Str → Option Value}
set_option maxHeartbeats 4000000 in
theorem c_beginning {x C cal : Nat} {q f : Value} {S : List It → Bool} {ok : List It → Prop} {vs : List Value} {b : Bool} {rs : List (List It)} {r0 : List It} {n : Nat}
    (W : Wd (hd.heap_39 w.params) mg mb h) (F : Fine A 12) (cl : Cl (hd.heap_39 w.params) C cal) (i0 : Inst h x C q f) (sim : SimT w h f S ok) (hvs : vs.length ≤ 4) (hne : vs ≠ []) (hr0 : rs.head? = some r0) (h4 : rs.length ≤ 4) (hsm : ∀ r ∈ rs, r.length < 1000)
    (hn : (∀ r ∈ rs, n ≤ r.length) ∧ ∃ r ∈ rs, r.length = n) (hok : ∀ i, i < n → ok (col rs i))
    (gs : ∀ (A' : Around) h', Fine A' 8 → Up h h' → GivesC (model PySem.Challenge.rw_fq5031_01.row.prog w) A' h' (.call (.ref 108) ⟨.ref x :: vs, []⟩) fun v g => ∃ a ws, v = .ref a ∧ g.IsList a (List.toArray ws) ∧ Paired (RowK b g) ws rs) :
    GivesC (model PySem.Challenge.rw_fq5031_01.row.prog w) A h (.call (.ref 212) ⟨.ref x :: vs, []⟩) fun v g => RowK b g v (r0.take (told S rs n)) := by
  refine call_fn F.lt (W.K 212 _ rfl) rfl rfl ⟨211, _, _, _, rfl, W.K 211 _ rfl, rfl, rfl⟩ W.nolimit rfl rfl rfl rfl (bind_self_star rfl rfl (Nat.le_trans hvs (by decide)))
    (fun b g ⟨a, e, _⟩ => bound_kind (by rw [e]; rfl)) ?run
  rintro binds g s₀ s L env ⟨a, rfl, _, ht⟩ he fs Q E qq
  have ek : env.scope.kind = .function := by rw [he]; rfl
  have eg : env.globals = mainGlobals := by rw [he]; rfl
  have eb : env.builtins = builtinsNs := by rw [he]; rfl
  have eL : env.locals = L := by rw [he]; rfl
  have ec : env.cells = [] := by rw [he]; rfl
  have Fd := F.deep env
  obtain ⟨m0, hm0⟩ : ∃ m0, m0 = bindL env.kindOf [(("self" : Str), .ref x), (("sequences" : Str), .ref a)] (fun _ => none) := ⟨_, rfl⟩
  obtain ⟨cm, hcm⟩ : ∃ cm, cm = bindC env.kindOf [(("self" : Str), .ref x), (("sequences" : Str), .ref a)] (fun _ => none) := ⟨_, rfl⟩
  rw [← hm0, ← hcm, ec] at fs
  have m0a : m0 "self" = some (.ref x) := by rw [hm0, he]; rfl
  have m0s : m0 "sequences" = some (.ref a) := by rw [hm0, he]; rfl
  have k1 : env.kindOf "self" = some .local := by rw [he]; rfl
  have k2 : env.kindOf "sequences" = some .local := by rw [he]; rfl
  have k3 : env.kindOf "result" = some .local := by rw [he]; rfl
  have k4 : env.kindOf "c" = some .local := by rw [he]; rfl
  have k5 : env.kindOf "s" = some .local := by rw [he]; rfl
  have Wg : ∀ {g'}, Up g g' → Wd (hd.heap_39 w.params) mg mb g' := fun u => W.up fun b o e => u b o (fs.ran.up b o e)
  have lenv : vs.length < 2 ^ 24 := by omega
  refine wpAny_execs_cons (wpAny_If (fs.eval (P := fun _ b _ => b = false) (fun ge ug gN gC => ?_) fun b' s₁ ge gp g₁ fs₁ ug₁ ue out p => ?_))
  · exact gt_not (gt_value (gv_name (lk_local ek k2 (eL ▸ gN) m0s) (gt_tuple (ht.at fun o e => ug _ o e) (by omega) (by simp [hne]))))
  subst p
  simp only [Bool.false_eq_true, if_false]
  refine wpAny_execs_nil ?_
  dsimp only
  -- the rows
  refine wpAny_execs_cons (wpAny_Assign_Name (fs₁.eval (P := fun _ v g => ∃ a ws, v = .ref a ∧ g.IsList a (List.toArray ws) ∧ Paired (RowK b g) ws rs) (fun ge ug gN gC => ?_) fun v s₂ ge gp g₂ fs₂ ug₂ ue out p => ?_))
  · have u : Up g ge := fun b o e => ug b o (ug₁ b o e)
    have uh : Up h ge := fun b o e => u b o (fs.ran.up b o e)
    refine gv_methS (gv_name (lk_local ek k1 (eL ▸ gN) m0a) ((ga_bound (Wg u).K (i0.up uh) (cl.pg _) cl.hd cl.gs rfl rfl rfl (by decide) ⟨by decide, by decide⟩).mono fun v gb ub ⟨mt, e, hmt⟩ => ?_))
    subst e
    exact gv_callS (kept_meth hmt (ub _ _ ((Wg u).K 108 _ rfl)) rfl) (gv_name ((lk_local ek k2 (eL ▸ gN) m0s).keeps ub) (starred_tuple (ht.at fun o e => ub _ o (u _ o e)) (Nat.le_trans hvs (by decide)) (call_bound hmt (gs _ _ (Fd.less (by decide)) fun b o e => ub b o (uh b o e))).call))
  obtain ⟨sa, ws, rfl, hsl, hws⟩ := p
  have hsl₂ : g₂.IsList sa (List.toArray ws) := isList_seq out.seq hsl
  have hws₂ : Paired (RowK b g₂) ws rs := paired_mono (fun v r y => rowK_st _ _ _ _ out.seq y) hws
  clear hsl hws out ue
  refine fs₂.store eL k2 (fun s₃ fs₃ => ?_) (by rw [ek]; rfl)
  dsimp only
  generalize hm3 : (fun y : Str => if y = "sequences" then some (Value.ref sa) else m0 y) = m3 at fs₃
  have m3a : m3 "self" = some (.ref x) := by rw [← hm3]; show (if ("self" : Str) = "sequences" then _ else _) = _; rw [if_neg (by decide), m0a]
  have m3s : m3 "sequences" = some (.ref sa) := by rw [← hm3]; rfl
  -- the result's list
  refine wpAny_execs_cons (wpAny_Assign_Name (fs₃.eval (P := fun ge v g => ∃ R, v = .ref R ∧ ge.get? R = none ∧ g.get? R = some { cls := .type "list", data := .seq #[] }) (fun ge ug gN gC => ?_) fun v s₄ ge gp g₄ fs₄ ug₄ ue₄ out p => ?_))
  · exact gv_list (gs_nil ((gv_newSeq (vs := []) (by decide)).mono fun v g u z => z))
  obtain ⟨R, rfl, hRe, hRp⟩ := p
  have hR₄ : g₄.get? R = some { cls := .type "list", data := .seq #[] } := out.new R _ hRe hRp
  have gR : g₂.get? R = none := by
    cases e : g₂.get? R with
    | none => rfl
    | some o => rw [ue₄ R o e] at hRe; cases hRe
  have sR : s₀.heap.get? R = none := by
    rcases fs₄.ran.new R _ hR₄ with e | e
    · rw [fs₂.ran.up R _ e] at gR; cases gR
    · exact e
  have LR : R ≠ L := fun e => by rw [e, fs₄.offL] at hR₄; cases hR₄
  have fs₄w := fs₄.weaken ug₄ fs₂.ran.up
  refine fs₄w.storeK eL k3 (fun s₅ fs₅ kL => ?_) (by rw [ek]; rfl)
  dsimp only
  have hR₅ : s₅.heap.PlainList R #[] := ⟨0, kL R _ LR (fs₄.ran.low R _ hR₄)⟩
  generalize hm5 : (fun y : Str => if y = "result" then some (Value.ref R) else m3 y) = m5 at fs₅
  have m5a : m5 "self" = some (.ref x) := by rw [← hm5]; show (if ("self" : Str) = "result" then _ else _) = _; rw [if_neg (by decide), m3a]
  have m5s : m5 "sequences" = some (.ref sa) := by rw [← hm5]; show (if ("sequences" : Str) = "result" then _ else _) = _; rw [if_neg (by decide), m3s]
  have m5r : m5 "result" = some (.ref R) := by rw [← hm5]; rfl
  -- the loop
  have u12 : Up g g₂ := fun b o e => ug₂ b o (ug₁ b o e)
  have uh2 : Up h g₂ := fs₂.ran.up
  have hwl := hws₂.length
  have wlen : ws.length ≤ 4 := by omega
  obtain ⟨sp0, hsp1, hsp2⟩ := rows_src (paired_mono (fun v r y => rowK_row y) hws₂)
  have wne : ws ≠ [] := fun e => by rw [e] at hwl; cases rs with | nil => simp at hr0 | cons r rs => simp at hwl
  refine wpAny_execs_cons (wpAny_For ?_ fun _ => rfl)
  obtain ⟨ge, uge, low, gN, gC⟩ := fs₅.parts
  refine makes_zip (C := fun sp gs => gs = g₂ ∧ sp = sp0) (lk_builtin ((Wg u12).up uge) ek (by rw [he]; rfl) eg eb rfl rfl (by decide))
    (gv_name (lk_local ek k2 (eL ▸ gN) m5s) (starred_list (hsl₂.at fun o e => uge _ o e) (Nat.le_trans wlen (by decide)) ⟨sp0, g₂, uge, hsp1, wlen, wne, rfl, rfl⟩)) rfl rfl _ _ s₅ low fun s₆ z kz hz => ?_
  obtain ⟨gz, gs', s₅', sp, kcs, TI, TO, rr, ugz, ⟨rfl, rfl⟩, hks, kk, n1, n2, n3, n4, hfp, D, st, hneK⟩ := hz
  have ovr : Paired (Over gs') kcs rs := over_of (by rw [hks]; exact hsp2)
  have fs₆ := fs₅.keep kz
  have al : ∀ (b : Nat) o, s₅.heap.get? b = some o → s₅'.heap.get? b = some o := fun b o e => keeps_up rr.keeps b o e
  have aL : ∃ o, s₅.heap.get? L = some o := by obtain ⟨o, _, _, e, _⟩ := fs₅.ns; exact ⟨o, e⟩
  have aR : ∃ o, s₅.heap.get? R = some o := by obtain ⟨_, e⟩ := hR₅; exact ⟨_, e⟩
  have off : ∀ (b : Nat), s₅'.heap.get? b = none → gs'.get? b = none ∧ s₀.heap.get? b = none ∧ b ≠ L ∧ b ≠ R := fun b hb => by
    refine ⟨?_, ?_, fun z => ?_, fun z => ?_⟩
    · cases e : gs'.get? b with
      | none => rfl
      | some o => rw [al b o (fs₅.ran.low b o e)] at hb; cases hb
    · cases e : s₀.heap.get? b with
      | none => rfl
      | some o => rw [al b o (keeps_up fs₅.ran.keeps b o e)] at hb; cases hb
    · obtain ⟨o, e⟩ := aL; rw [z, al _ o e] at hb; cases hb
    · obtain ⟨o, e⟩ := aR; rw [z, al _ o e] at hb; cases hb
  refine zip_pyIter st (beg_loop (m := m5) (Fd.less (by decide)) cl (Wg u12) (i0.up uh2) (sim.up uh2) fs₆ ek eL k1 k4 k3 (by rw [he]; rfl) rfl rfl m5a m5r D hneK ovr hr0 hn ?_ hok st ?_ ⟨(off _ n1).2.2.1, (off _ n3).2.2.1, (off _ n2).2.2.1, fun c hc b hb => ?_⟩ (off _ n3).2.2.2 (hR₅.at fun o e => keeps_up kz _ o e) gR sR LR fun s₇ m7 res fs₇ hm7 hR₇ hres => ?_)
  · obtain ⟨r, hr, e⟩ := hn.2
    rw [← e]; exact hsm r hr
  · rintro b (rfl | rfl | ⟨c, hc, rfl⟩)
    · exact off _ n1
    · exact off _ n2
    · exact off _ (n4 c hc)
  · rcases hfp c hc b hb with rfl | ⟨o, e⟩
    · exact ⟨(off _ (n4 c hc)).2.2.1, (off _ (n4 c hc)).2.2.2⟩
    · exact ⟨fun z => (by rw [z, fs₅.offL] at e; cases e), fun z => (by rw [z, gR] at e; cases e)⟩
  -- what is told
  dsimp only
  obtain ⟨n7, hR₇'⟩ := hR₇
  obtain ⟨g₈, fs₈, ug₈, hR₈⟩ := fs₇.add hR₇' sR LR (fun n c hc => by simp at hc)
  have m7s : m7 "sequences" = some (.ref sa) := by rw [hm7 _ (by decide)]; exact m5s
  have m7r : m7 "result" = some (.ref R) := by rw [hm7 _ (by decide)]; exact m5r
  cases hws₂ with
  | nil => exact absurd rfl wne
  | @cons w0 r0' ws' rs' hw0 hws' =>
  simp at hr0
  subst hr0
  refine wpAny_execs_cons (wpAny_Assign_Name (fs₈.eval (P := fun _ v _ => v = w0) (fun ge ug gN gC => ?_) fun v s₉ ge gp g₉ fs₉ ug₉ ue out p => ?_))
  · exact gv_sub (gv_name (lk_local ek k2 (eL ▸ gN) m7s) (gv_int fun t => op_item_list (k := 0) (hsl₂.at fun o e => ug _ o (ug₈ _ o e)) rfl (by decide) rfl))
  rw [p]
  clear p out ue
  refine fs₉.store eL k5 (fun sa₁ fsa => ?_) (by rw [ek]; rfl)
  dsimp only
  generalize hma : (fun y : Str => if y = "s" then some w0 else m7 y) = ma at fsa
  have mas : ma "s" = some w0 := by rw [← hma]; rfl
  have mar : ma "result" = some (.ref R) := by rw [← hma]; show (if ("result" : Str) = "s" then _ else _) = _; rw [if_neg (by decide), m7r]
  have u89 : Up gs' g₉ := fun b o e => ug₉ b o (ug₈ b o e)
  have hRl : g₉.IsList R (List.toArray res) := ⟨_, ug₉ _ _ hR₈, rfl, n7, rfl⟩
  have hres₉ : Paired (ItV g₉) res (r0'.take (told S (r0' :: rs') n)) := paired_mono (fun v a y => itV_st _ _ _ _ (Up.seq u89) y) hres
  have W₉ : Wd (hd.heap_39 w.params) mg mb g₉ := (Wg u12).up u89
  have hs0 : r0'.length < 1000 := hsm _ (by simp)
  cases b with
  | true =>
    obtain ⟨y0, t0, rfl, hr0⟩ := hw0
    refine wpAny_execs_cons (wpAny_If (fsa.eval (P := fun _ b _ => b = true) (fun ge ug gN gC => ?_) fun b' sb ge gp gb fsb ugb ue out p => ?_))
    · have Wge := W₉.up ug
      exact gt_value (gv_call (gv_name (lk_builtin Wge ek (by rw [he]; rfl) eg eb rfl rfl (by decide)) (gv_call2 kept_builtin (gv_name (lk_local ek k5 (eL ▸ gN) mas) (gv_name (lk_builtin Wge ek (by rw [he]; rfl) eg eb rfl rfl (by decide)) (op_isi_str_str.mono fun v g _ e => by rw [e]; exact gt_bool rfl))))))
    subst p
    simp only [if_true]
    refine wpAny_execs_cons (wpAny_Return_some (fsb.eval (P := fun _ v g => RowK true g v (r0'.take (told S (r0' :: rs') n))) (fun ge ug gN gC => ?_) fun v s' ge gp g' fs' _ _ out p => ?_))
    · have u9e : Up g₉ ge := fun b o e => ug b o (ugb b o e)
      refine gv_meth (gv_str fun t => gm_join (gv_call1 kept_builtin (gv_name (lk_local ek k3 (eL ▸ gN) mar) ?_)))
      have hl : ∃ cs : List Nat, r0'.take (told S (r0' :: rs') n) = (cs.map one1).map .s ∧ cs.length < 1000 := by
        refine ⟨y0.cps.toList.take (told S (r0' :: rs') n), ?_, ?_⟩
        · rw [hr0, sg_ones, ← List.map_take, ← List.map_take]
        · have : y0.cps.toList.length = r0'.length := by rw [hr0, List.length_map, sg_len]; simp
          rw [List.length_take]; omega
      obtain ⟨cs, hcs, hcl⟩ := hl
      rw [hcs] at hres₉ ⊢
      have hres' : Paired (StrV ge) res (cs.map one1) := by
        rcases it_kinds hres₉ (.inl ⟨_, rfl⟩) with ⟨xs, e, hp⟩ | ⟨ps, e, hp⟩
        · have : cs.map one1 = xs := List.map_inj_right (fun a b h => by injection h) |>.mp e
          rw [this]; exact paired_mono (fun v a y => y) hp
        · cases cs with
          | nil => cases ps with
            | nil => cases hp; exact .nil
            | cons p ps => simp at e
          | cons c cs => cases ps with
            | nil => simp at e
            | cons p ps => simp at e
      exact (op_join (hRl.at fun o e => u9e _ o e) hres' (joinOk_ones cs hcl)).mono fun v g _ ⟨t, e⟩ => ⟨_, t, e, by rw [txt_join_ones]⟩
    · exact qq _ s' g' fs'.ran p
  | false =>
    obtain ⟨la, us, rfl, hla, hus⟩ := hw0
    refine wpAny_execs_cons (wpAny_If (fsa.eval (P := fun _ b _ => b = false) (fun ge ug gN gC => ?_) fun b' sb ge gp gb fsb ugb ue out p => ?_))
    · have Wge := W₉.up ug
      exact gt_value (gv_call (gv_name (lk_builtin Wge ek (by rw [he]; rfl) eg eb rfl rfl (by decide)) (gv_call2 kept_builtin (gv_name (lk_local ek k5 (eL ▸ gN) mas) (gv_name (lk_builtin Wge ek (by rw [he]; rfl) eg eb rfl rfl (by decide)) ((op_isi_list_str (hla.at fun o e => ug _ o (u89 _ o e))).mono fun v g _ e => by rw [e]; exact gt_bool rfl))))))
    subst p
    simp only [Bool.false_eq_true, if_false]
    refine wpAny_execs_nil ?_
    dsimp only
    refine wpAny_execs_cons (wpAny_If (fsb.eval (P := fun _ b _ => b = false) (fun ge ug gN gC => ?_) fun b' sc ge gp gc fsc ugc ue out p => ?_))
    · have Wge := W₉.up fun b o e => ug b o (ugb b o e)
      exact gt_value (gv_call (gv_name (lk_builtin Wge ek (by rw [he]; rfl) eg eb rfl rfl (by decide)) (gv_call2 kept_builtin (gv_name (lk_local ek k5 (eL ▸ gN) mas) (gv_name (lk_builtin Wge ek (by rw [he]; rfl) eg eb rfl rfl (by decide)) ((op_isi_list_bytes (hla.at fun o e => ug _ o (ugb _ o (u89 _ o e)))).mono fun v g _ e => by rw [e]; exact gt_bool rfl))))))
    subst p
    simp only [Bool.false_eq_true, if_false]
    refine wpAny_execs_nil ?_
    dsimp only
    refine wpAny_execs_cons (wpAny_Return_some (fsc.eval (P := fun _ v g => v = .ref R) (fun ge ug gN gC => gv_name (lk_local ek k3 (eL ▸ gN) mar) rfl) fun v s' ge gp g' fs' ug' _ out p => ?_))
    have u9' : Up g₉ g' := fun b o e => ug' b o (ugc b o (ugb b o e))
    exact qq _ s' g' fs'.ran ⟨R, res, p, hRl.at fun o e => u9' _ o e, paired_mono (fun v a y => itV_st _ _ _ _ (Up.seq u9') y) hres₉⟩
end

/-! part Fq30 -/
section
variable {w : World} {A : Around} {h : Heap} {mg mb : Str → Option Value}
/-- what the object x answers when _beginning is asked of vs, when it is called with vs -/
def Begs (w : World) (h : Heap) (x : Nat) (vs : List Value) (b : Bool) (l : List It) : Prop := ∀ (A' : Around) h', Fine A' 12 → Up h h' → GivesC (model PySem.Challenge.rw_fq5031_01.row.prog w) A' h' (.call (.ref 212) ⟨.ref x :: vs, []⟩) fun v g => RowK b g v l
def Called (w : World) (h : Heap) (x : Nat) (vs : List Value) (b : Bool) (l : List It) : Prop := ∀ (A' : Around) h', Fine A' 16 → Up h h' → GivesC (model PySem.Challenge.rw_fq5031_01.row.prog w) A' h' (.call (.ref x) ⟨vs, []⟩) fun v g => RowK b g v l
theorem c_call {x C cal : Nat} {q f : Value} {vs : List Value} {b : Bool} {l : List It} (W : Wd (hd.heap_39 w.params) mg mb h) (F : Fine A 14) (cl : Cl (hd.heap_39 w.params) C cal) (i0 : Inst h x C q f) (hvs : vs.length ≤ 4) (bg : Begs w h x vs b l) :
    GivesC (model PySem.Challenge.rw_fq5031_01.row.prog w) A h (.call (.ref 205) ⟨.ref x :: vs, []⟩) fun v g => RowK b g v l := by
  refine call_ret (P' := fun ge v gp => RowK b gp v l) ["self", "sequences"] F.lt (W.K 205 _ rfl) rfl rfl ⟨204, _, _, _, rfl, W.K 204 _ rfl, rfl, rfl⟩ W.nolimit rfl rfl rfl rfl (bind_self_star rfl rfl (Nat.le_trans hvs (by decide)))
    (fun b g ⟨a, e, _⟩ => by rw [e]; rfl) rfl ?gv fun v ge gp g' _ _ sq _ p => rowK_st _ _ _ _ sq p
  rintro binds g ge L env ⟨a, rfl, _, ht⟩ he hg ug gN gC
  have u : Up h ge := fun b o e => ug b o (hg b o e)
  have Wg := W.up u
  have ek : env.scope.kind = .function := by rw [he]; rfl
  have eL : env.locals = L := by rw [he]; rfl
  have n1 : bindL env.kindOf [(("self" : Str), .ref x), (("sequences" : Str), .ref a)] (fun _ => none) "self" = some (.ref x) := by rw [he]; rfl
  have n2 : bindL env.kindOf [(("self" : Str), .ref x), (("sequences" : Str), .ref a)] (fun _ => none) "sequences" = some (.ref a) := by rw [he]; rfl
  refine gv_methS (gv_name (lk_local ek (by rw [he]; rfl) (eL ▸ gN) n1) ((ga_bound Wg.K (i0.up u) (cl.pg _) cl.hd cl.beg rfl rfl rfl (by decide) ⟨by decide, by decide⟩).mono fun v gb ub ⟨mt, e, hmt⟩ => ?_))
  subst e
  exact gv_callS (kept_meth hmt (ub _ _ (Wg.K 212 _ rfl)) rfl) (gv_name ((lk_local ek (by rw [he]; rfl) (eL ▸ gN) n2).keeps ub) (starred_tuple (ht.at fun o e => ub _ o (ug _ o e)) (Nat.le_trans hvs (by decide)) (call_bound hmt (bg _ _ ((F.deep env).less (by decide)) fun b o e => ub b o (u b o e))).call))
theorem called_prefix {x : Nat} {q f : Value} {vs : List Value} {b : Bool} {l : List It} (W : Wd (hd.heap_39 w.params) mg mb h) (i0 : Inst h x 222 q f) (hvs : vs.length ≤ 4) (bg : Begs w h x vs b l) : Called w h x vs b l := fun A' h' F u =>
  call_inst (W.up u).K (i0.up u) cl_prefix.call rfl rfl (c_call (W.up u) (F.less (by decide)) cl_prefix (i0.up u) hvs fun A₂ h₂ F₂ u₂ => bg A₂ h₂ F₂ fun b o e => u₂ b o (u b o e))
theorem rowK_len {b : Bool} {g : Heap} {v : Value} {l : List It} (x : RowK b g v l) (hs : l.length < 1000) : LenV g v l.length := row_lenV (rowK_row x) (Nat.lt_trans hs (by decide))
theorem c_similarity {x C cal : Nat} {q f : Value} {vs : List Value} {b : Bool} {l : List It} (W : Wd (hd.heap_39 w.params) mg mb h) (F : Fine A 18) (i0 : Inst h x C q f) (hvs : vs.length ≤ 4) (hl : l.length < 1000) (cd : Called w h x vs b l) :
    GivesC (model PySem.Challenge.rw_fq5031_01.row.prog w) A h (.call (.ref 219) ⟨.ref x :: vs, []⟩) fun v _ => ∃ t, v = .int (l.length : Int) t := by
  refine call_ret (P' := fun ge v gp => ∃ t, v = .int (l.length : Int) t) ["self", "sequences"] F.lt (W.K 219 _ rfl) rfl rfl ⟨218, _, _, _, rfl, W.K 218 _ rfl, rfl, rfl⟩ W.nolimit rfl rfl rfl rfl (bind_self_star rfl rfl (Nat.le_trans hvs (by decide)))
    (fun b g ⟨a, e, _⟩ => by rw [e]; rfl) rfl ?gv fun v ge gp g' _ _ sq _ p => p
  rintro binds g ge L env ⟨a, rfl, _, ht⟩ he hg ug gN gC
  have u : Up h ge := fun b o e => ug b o (hg b o e)
  have Wg := W.up u
  have ek : env.scope.kind = .function := by rw [he]; rfl
  have eg : env.globals = mainGlobals := by rw [he]; rfl
  have eb : env.builtins = builtinsNs := by rw [he]; rfl
  have eL : env.locals = L := by rw [he]; rfl
  have n1 : bindL env.kindOf [(("self" : Str), .ref x), (("sequences" : Str), .ref a)] (fun _ => none) "self" = some (.ref x) := by rw [he]; rfl
  have n2 : bindL env.kindOf [(("self" : Str), .ref x), (("sequences" : Str), .ref a)] (fun _ => none) "sequences" = some (.ref a) := by rw [he]; rfl
  refine gv_call (gv_name (lk_builtin Wg ek (by rw [he]; rfl) eg eb rfl rfl (by decide)) (gv_call1 kept_builtin (gv_call (gv_name (lk_local ek (by rw [he]; rfl) (eL ▸ gN) n1) (gv_callAS (inst_kept (i0.up u)) (gv_name (lk_local ek (by rw [he]; rfl) (eL ▸ gN) n2) (starred_tuple (ht.at fun o e => ug _ o e) (Nat.le_trans hvs (by decide)) ?_)))))))
  refine (cd _ _ ((F.deep env).less (by decide)) u).call.mono fun v g' _ hv => ?_
  exact (op_lenV (rowK_len hv hl)).mono fun v g _ e => e
theorem c_distance {x C cal : Nat} {q f : Value} {vs : List Value} {rs : List (List It)} {k mxl : Nat} (W : Wd (hd.heap_39 w.params) mg mb h) (F : Fine A 20) (cl : Cl (hd.heap_39 w.params) C cal) (i0 : Inst h x C q f) (hr : Rows h vs rs) (hne : rs ≠ [])
    (hm : (∃ r ∈ rs, r.length = mxl) ∧ ∀ r ∈ rs, r.length ≤ mxl)
    (sm : ∀ (A' : Around) h', Fine A' 18 → Up h h' → GivesC (model PySem.Challenge.rw_fq5031_01.row.prog w) A' h' (.call (.ref 219) ⟨.ref x :: vs, []⟩) fun v _ => ∃ t, v = .int (k : Int) t) :
    GivesC (model PySem.Challenge.rw_fq5031_01.row.prog w) A h (.call (.ref 164) ⟨.ref x :: vs, []⟩) fun v _ => ∃ t, v = .int ((mxl : Int) - k) t := by
  have hvs : vs.length ≤ sizeLine := hr.len
  refine call_ret (P' := fun ge v gp => ∃ t, v = .int ((mxl : Int) - k) t) ["self", "sequences"] F.lt (W.K 164 _ rfl) rfl rfl ⟨163, _, _, _, rfl, W.K 163 _ rfl, rfl, rfl⟩ W.nolimit rfl rfl rfl rfl (bind_self_star rfl rfl hvs)
    (fun b g ⟨a, e, _⟩ => by rw [e]; rfl) rfl ?gv fun v ge gp g' _ _ sq _ p => p
  rintro binds g ge L env ⟨a, rfl, _, ht⟩ he hg ug gN gC
  have u : Up h ge := fun b o e => ug b o (hg b o e)
  have Wg := W.up u
  have ek : env.scope.kind = .function := by rw [he]; rfl
  have eL : env.locals = L := by rw [he]; rfl
  have n1 : bindL env.kindOf [(("self" : Str), .ref x), (("sequences" : Str), .ref a)] (fun _ => none) "self" = some (.ref x) := by rw [he]; rfl
  have n2 : bindL env.kindOf [(("self" : Str), .ref x), (("sequences" : Str), .ref a)] (fun _ => none) "sequences" = some (.ref a) := by rw [he]; rfl
  have l1 := lk_local (M := model PySem.Challenge.rw_fq5031_01.row.prog w) ek (by rw [he]; rfl) (eL ▸ gN) n1
  have l2 := lk_local (M := model PySem.Challenge.rw_fq5031_01.row.prog w) ek (by rw [he]; rfl) (eL ▸ gN) n2
  obtain ⟨p, rest, c1, c2, c3, c4⟩ := cl.mx
  refine gv_binop (gv_methS (gv_name l1 (ga_sm Wg.K (i0.up u) (cl.pg _) cl.hd c1 c2 c3 (by decide) c4 ⟨by decide, by decide⟩ (gv_callS (kept_fn (Wg.K 55 _ rfl) rfl) (gv_name l2 (starred_tuple (ht.at fun o e => ug _ o e) hvs ?_))))))
  refine (c_maximum Wg ((F.deep env).less (by decide)) (hr.up (Up.seq u)) hne).call.mono fun v g₁ u₁ ⟨m, t, e, hm1, hm2⟩ => ?_
  have hmm : m = mxl := by
    obtain ⟨⟨r, hr, e1⟩, hmax⟩ := hm
    obtain ⟨r', hr', e2⟩ := hm1
    have := hm2 r hr
    have := hmax r' hr'
    omega
  subst hmm
  subst e
  refine gv_methS (gv_name (l1.keeps u₁) ((ga_bound (Wg.up u₁).K ((i0.up u).up u₁) (cl.pg _) cl.hd cl.sim rfl rfl rfl (by decide) ⟨by decide, by decide⟩).mono fun v gb ub ⟨mt, e, hmt⟩ => ?_))
  subst e
  refine gv_callS (kept_meth hmt (ub _ _ ((Wg.up u₁).K 219 _ rfl)) rfl) (gv_name (l2.keeps fun b o e => ub b o (u₁ b o e)) (starred_tuple (ht.at fun o e => ub _ o (u₁ _ o (ug _ o e))) hvs ?_))
  refine (call_bound hmt (sm _ _ ((F.deep env).less (by decide)) fun b o e => ub b o (u₁ b o (u b o e)))).call.mono fun v g₂ _ ⟨t2, e⟩ => ?_
  subst e
  exact op_sub.mono fun v g _ e => e
end

/-! part Fq31 -/
section
variable {prog : Program} {w : World} {A : Around} {E : Value → Shared → Prop} {s : Shared} {T : String} {z n : Nat} {Inv : Nat → List Value → Heap → Prop} {Fn : List Value → Heap → Prop}
theorem collect_lister {Q : List Value → Shared → Prop} (W : Lister prog w s.heap T z n Inv Fn) (hh : A.handled = none)
    (hQ : ∀ h' tk acc, Fn acc h' → Q acc { s with heap := h', toks := tk }) : wpAny (model prog w) A (collect (.ref z)) Q E s := by
  have hS0 : s.heap.get? s.heap.objs.size = none := none_size _
  have hI0 := W.start s.heap.objs.size s.heap hS0 fun _ _ e => e
  have hSz : s.heap.objs.size ≠ z := fun e => by obtain ⟨o, ho, _⟩ := W.type _ _ _ hI0; rw [← e, hS0] at ho; cases ho
  unfold collect
  refine wpAny_bind (wpAny_runValue (codeAny_builtin F.entry_proto_collect ?_))
  rw [Around.under_plainId F.plain_proto_collect _]
  show wpAny _ A.in1 (newList [] >>= fun l => again (.builtin "list.__iadd__" ⟨[l, .ref z], []⟩)) _ _ s
  refine wpAny_bind (wpAny_newObj_type ?_)
  refine wpAny_pure ⟨plainId_quiet F.plain_list_iadd _, codeAny_builtin F.entry_list_iadd ?_⟩
  rw [Around.under_plainId F.plain_list_iadd _]
  show wpAny _ A.in1 (Builtin.List.listExtendWith (.ref s.heap.objs.size) (.ref z) (.ref s.heap.objs.size)) _ _ _
  have hS : (s.heap.push { cls := .type "list", data := .seq #[] }).get? s.heap.objs.size = some { cls := .type "list", data := .seq #[] } := Heap.get?_push_size _ rfl
  refine lister_extend (R := PySem.wants (fun v s' => wpAny (model prog w) A (match v with
      | .ref a => do
        match (← load a).data with
        | .seq xs _ => pure xs.toList
        | _ => unsupported "internal:collect"
      | _ => unsupported "internal:collect") Q E s') E) (s := { s with heap := s.heap.push { cls := .type "list", data := .seq #[] } }) W hh s.heap.objs.size hS0 hSz _ 0 (W.start _ _ hS0 fun b o e => Heap.get?_push_of_some _ e) hS fun h' tk acc' c' a b => ?_
  show wpAny _ A (load s.heap.objs.size >>= _) _ _ _
  refine wpAny_bind (wpAny_load a ?_)
  have e : (List.toArray acc').toList = acc' := by simp
  show wpAny _ A (pure (List.toArray acc').toList) _ _ _
  rw [e]
  exact wpAny_pure (hQ h' tk acc' b)
theorem join_lister {x : Str} {t : Tok} {Q : Value → Shared → Prop} (W : Lister prog w s.heap T z n Inv Fn) (hh : A.handled = none)
    (hQ : ∀ (h' : Heap) (tk : Nat) acc, Fn acc h' → ∃ l : List (Str × Tok), strValues l = acc ∧ JoinOk x (l.map (·.1)) = true ∧ ∀ t' k, Q (.str (Txt.join x (l.map (·.1))) t') { s with heap := h', toks := k }) :
    wpAny (model prog w) A (call (.builtin "str.join") [.str x t, .ref z]) Q E s := by
  have hS0 : s.heap.get? s.heap.objs.size = none := none_size _
  have hI0 := W.start s.heap.objs.size s.heap hS0 fun _ _ e => e
  refine wpAny_call (codeAny_call_builtin F.slot_str_join.plain F.entry_str_join (F.slot_str_join.check _ _ _ _ _ _ _ _ (typeIs_str _ _ _) (F.args_str_join_2 _ _) ?_))
  rw [join_tree_other]
  refine wpAny_bind (wpAny_typeOf (T := T) (W.type _ _ _ hI0) ?_)
  have e1 : ((Value.type T == Value.type "list") || (Value.type T == Value.type "tuple")) = false := by rw [W.nl.1, W.nl.2.1]; rfl
  rw [e1]
  simp only [Bool.false_eq_true, if_false]
  refine wpAny_bind (wpAny_tryCatch (W.self _ _ _ _ _ _ hh hI0 ?_))
  refine wpAny_bind (collect_lister W hh fun h' tk acc hF => ?_)
  obtain ⟨l, hl, hok, hpost⟩ := hQ h' tk acc hF
  rw [← hl]
  unfold JoinOk at hok
  rw [Bool.not_eq_true'] at hok
  have g : PySem.Gives (joinTail x (strValues l)) (joinMade x l) := by
    have g0 := gives_joinTail x l hok
    cases l with
    | nil => exact g0
    | cons p r => cases r with
      | nil => exact g0
      | cons q r' => exact g0
  exact g prog w A (PySem.wants Q E) { s with heap := h', toks := tk } (post_join (s := { s with heap := h', toks := tk }) (Q := Q) l ⟨joinFit_length hok, hpost⟩)
end

/-! part Fq32 -/
section
variable {w : World} {A : Around} {h : Heap} {mg mb : Str → Option Value}
theorem paired_reverse {α β : Type} {F : α → β → Prop} {l : List α} {k : List β} (p : Paired F l k) : Paired F l.reverse k.reverse := by
  induction p with
  | nil => exact .nil
  | cons x _ ih => rw [List.reverse_cons, List.reverse_cons]; exact paired_append ih (.cons x .nil)
theorem at_filter_range {α : Type} {n i : Nat} {j : Nat} (h : (List.range n)[i]? = some j) : j = i := by
  have := List.getElem?_eq_some_iff.mp h
  obtain ⟨h1, h2⟩ := this
  rw [List.getElem_range] at h2; exact h2.symm
theorem isList_inj {H : Heap} {a : Addr} {xs ys : Array Value} (x : H.IsList a xs) (y : H.IsList a ys) : xs = ys := by
  obtain ⟨o, e, _, n, d⟩ := x
  obtain ⟨o', e', _, n', d'⟩ := y
  rw [e] at e'; cases e'; rw [d] at d'; cases d'; rfl
theorem fs_all {s₀ s : Shared} {h g : Heap} {L : Nat} {m cm : Str → Option Value} {cs : List (Str × Addr)} (x : FS s₀ h L m cs cm g s) :
    ∃ g', FS s₀ h L m cs cm g' s ∧ Up g g' ∧ ∀ (b : Nat) o, s.heap.get? b = some o → s₀.heap.get? b = none → b ≠ L → (∀ n c, cs.lookup n = some c → b ≠ c) → g'.get? b = some o := by
  obtain ⟨g', e1, e2⟩ := carve s.heap fun b => (∃ o, g.get? b = some o) ∨ (s₀.heap.get? b = none ∧ b ≠ L ∧ ∀ n c, cs.lookup n = some c → b ≠ c)
  have ug : Up g g' := fun b o e => e2 b o (x.ran.low b o e) (.inl ⟨o, e⟩)
  refine ⟨g', ⟨⟨x.ran.keeps, fun b o e => ug b o (x.ran.up b o e), fun b o e => (e1 b o e).1, fun b o e => ?_⟩, x.ns, ?_, x.freshL, x.cell, fun n c hc => ⟨?_, (x.offC n c hc).2⟩, x.apart⟩, ug, fun b o e a b' c => e2 b o e (.inr ⟨a, b', c⟩)⟩
  · rcases (e1 b o e).2 with ⟨o', z⟩ | ⟨z, _⟩
    · have := ug b o' z; rw [e] at this; cases this; exact x.ran.new b o z
    · exact .inr z
  · cases z : g'.get? L with
    | none => rfl
    | some o =>
      rcases (e1 L o z).2 with ⟨o', z'⟩ | ⟨_, z', _⟩
      · rw [x.offL] at z'; cases z'
      · exact absurd rfl z'
  · cases z : g'.get? c with
    | none => rfl
    | some o =>
      rcases (e1 c o z).2 with ⟨o', z'⟩ | ⟨_, _, z'⟩
      · rw [(x.offC n c hc).1] at z'; cases z'
      · exact absurd rfl (z' n c hc)
/-- all but one address -/
theorem but_one (H : Heap) (z : Nat) : ∃ h₀ : Heap, (∀ b o, h₀.get? b = some o → H.get? b = some o) ∧ h₀.get? z = none ∧ ∀ (b : Nat) o, b ≠ z → H.get? b = some o → h₀.get? b = some o := by
  obtain ⟨h₀, e1, e2⟩ := carve H fun b => b ≠ z
  refine ⟨h₀, fun b o e => (e1 b o e).1, ?_, fun b o hb e => e2 b o e hb⟩
  cases e : h₀.get? z with
  | none => rfl
  | some o => exact absurd rfl (e1 z o e).2
set_option maxHeartbeats 4000000 in
theorem c_postfix {x : Nat} {q f : Value} {vs : List Value} {b : Bool} {rs : List (List It)} {l : List It}
    (W : Wd (hd.heap_39 w.params) mg mb h) (F : Fine A 15) (i0 : Inst h x 239 q f) (hr : Rows h vs rs) {w0 : Value} {r0 : List It} (hv0 : vs[0]? = some w0) (hw0 : RowK b h w0 r0) (hl : l.length < 1000)
    (hb : b = true → ∃ cs : List Nat, l = (cs.map one1).map .s)
    (bg : ∀ (A' : Around) h' vs', Fine A' 12 → Up h h' → Paired (LstV ItV h') vs' (rs.map List.reverse) → vs'.length ≤ 4 → GivesC (model PySem.Challenge.rw_fq5031_01.row.prog w) A' h' (.call (.ref 212) ⟨.ref x :: vs', []⟩) fun v g => LstV ItV g v l) :
    GivesC (model PySem.Challenge.rw_fq5031_01.row.prog w) A h (.call (.ref 236) ⟨.ref x :: vs, []⟩) fun v g => RowK b g v l.reverse := by
  refine call_fn F.lt (W.K 236 _ rfl) rfl rfl ⟨235, _, _, _, rfl, W.K 235 _ rfl, rfl, rfl⟩ W.nolimit rfl rfl rfl rfl (bind_self_star rfl rfl hr.len)
    (fun b g ⟨a, e, _⟩ => bound_kind (by rw [e]; rfl)) ?run
  rintro binds g s₀ s L env ⟨a, rfl, _, ht⟩ he fs Q E qq
  have ek : env.scope.kind = .function := by rw [he]; rfl
  have eg : env.globals = mainGlobals := by rw [he]; rfl
  have eb : env.builtins = builtinsNs := by rw [he]; rfl
  have eL : env.locals = L := by rw [he]; rfl
  have ec : env.cells = [] := by rw [he]; rfl
  have Fd := F.deep env
  obtain ⟨m0, hm0⟩ : ∃ m0, m0 = bindL env.kindOf [(("self" : Str), .ref x), (("sequences" : Str), .ref a)] (fun _ => none) := ⟨_, rfl⟩
  obtain ⟨cm, hcm⟩ : ∃ cm, cm = bindC env.kindOf [(("self" : Str), .ref x), (("sequences" : Str), .ref a)] (fun _ => none) := ⟨_, rfl⟩
  rw [← hm0, ← hcm, ec] at fs
  have m0a : m0 "self" = some (.ref x) := by rw [hm0, he]; rfl
  have m0s : m0 "sequences" = some (.ref a) := by rw [hm0, he]; rfl
  have k1 : env.kindOf "self" = some .local := by rw [he]; rfl
  have k2 : env.kindOf "sequences" = some .local := by rw [he]; rfl
  have k3 : env.kindOf "result" = some .local := by rw [he]; rfl
  have k5 : env.kindOf "s" = some .local := by rw [he]; rfl
  have Wg : ∀ {g'}, Up g g' → Wd (hd.heap_39 w.params) mg mb g' := fun u => W.up fun b o e => u b o (fs.ran.up b o e)
  have hvl : vs.length ≤ 4 := by rw [hr.rows.length]; exact hr.few
  -- s
  refine wpAny_execs_cons (wpAny_Assign_Name (fs.eval (P := fun _ v _ => v = w0) (fun ge ug gN gC => ?_) fun v s₁ ge gp g₁ fs₁ ug₁ ue out p => ?_))
  · exact gv_sub (gv_name (lk_local ek k2 (eL ▸ gN) m0s) (gv_int fun t => op_item_tuple (k := 0) (ht.at fun o e => ug _ o e) hv0 (by decide) rfl))
  rw [p]
  clear p out ue
  refine fs₁.store eL k5 (fun s₂ fs₂ => ?_) (by rw [ek]; rfl)
  dsimp only
  generalize hm2 : (fun y : Str => if y = "s" then some w0 else m0 y) = m2 at fs₂
  have m2a : m2 "self" = some (.ref x) := by rw [← hm2]; show (if ("self" : Str) = "s" then _ else _) = _; rw [if_neg (by decide), m0a]
  have m2s : m2 "sequences" = some (.ref a) := by rw [← hm2]; show (if ("sequences" : Str) = "s" then _ else _) = _; rw [if_neg (by decide), m0s]
  have m2w : m2 "s" = some w0 := by rw [← hm2]; rfl
  -- the rows, turned
  refine wpAny_execs_cons (fs_comp (x := "s") (n := vs.length) (P := fun i v => vs[i]? = some v) (cl := []) (fun _ => true) (fun i v g => ∃ r, rs[i]? = some r ∧ LstV ItV g v r.reverse) fs₂ eL k2 ek (by rw [he]; rfl) (fun i v g g' k ⟨y, e, z⟩ => ⟨y, e, lstV_st itV_st _ _ _ _ k z⟩) Fd.handled rfl (by decide) rfl (by decide) rfl (Nat.le_trans hvl (by decide)) ?iter (fun _ => rfl) ?fin)
  case iter =>
      intro ge ug gN gC
      have u : Up g ge := fun b o e => ug b o (ug₁ b o e)
      have uh : Up h ge := fun b o e => u b o (fs.ran.up b o e)
      have hrg := hr.up (Up.seq uh)
      refine gv_name (lk_local ek k2 (eL ▸ gN) m2s) ⟨by simpa using iter_tuple (ht.at fun o e => u _ o e), fun C g i v m hi hp ug hN hm => Gives.pure rfl, fun C g₁ i v m hi hp _ ug' hN hm => ?_⟩
      obtain ⟨r, hr', hrow⟩ := paired_at hrg.rows i v hp
      have hrow₁ : RowV g₁ v r := rowV_st _ _ _ _ (Up.seq ug') hrow
      have Wc := (Wg u).up ug'
      have hsm : r.length < 1000 := hr.small r (List.mem_of_getElem? hr')
      have hs24 : sizeLine = 2 ^ 24 := rfl
      refine gv_list_of Fd.handled (lk_builtin Wc rfl (by rw [he]; rfl) eg eb rfl rfl (by decide)) (fun Q E s k qk => makes_rev (env := compEnvC _ [] C env) (C := fun v' g => v' = v ∧ RowV g v r) (lk_builtin Wc rfl (by rw [he]; rfl) eg eb rfl rfl (by decide)) (gv_name (lk_local rfl (by rw [he]; rfl) hN hm) ⟨⟨rfl, hrow₁⟩, ?_⟩) rfl rfl Q E s k fun s₁ z ks hz => qk s₁ z ks (listed_rev hz ?_ ?_)) rfl rfl
      · rcases hrow₁ with ⟨la, us, rfl, hla, hus⟩ | ⟨y, t, rfl, hy⟩
        · exact .inl ⟨la, us, rfl, hla⟩
        · refine .inr ⟨y, t, rfl, ?_⟩
          have : r.length = y.length := by rw [hy, List.length_map, sg_len]; rfl
          omega
      · rintro g' la us ⟨rfl, hrw⟩ hla
        rcases hrw with ⟨la', us', e, hla', hus⟩ | ⟨y, t, e, hy⟩
        · cases e
          have heq := isList_inj hla' hla
          have heq' : us' = us := by simpa using heq
          subst heq'
          refine ⟨by rw [hus.length]; omega, fun R g₂ ugg hR => ⟨r, hr', R, us'.reverse, rfl, hR, paired_reverse (paired_mono (fun v a y => itV_st _ _ _ _ (Up.seq ugg) y) hus)⟩⟩
        · cases e
      · rintro g' y t ⟨e, hrw⟩
        subst e
        rcases hrw with ⟨la', us', e, hla', hus⟩ | ⟨y', t', e, hy⟩
        · cases e
        · cases e
          have hyl : r.length = y.cps.size := by rw [hy, List.length_map, sg_len]
          refine ⟨by omega, fun R ts g₂ ugg hR hlen hts => ⟨r, hr', R, ts, rfl, hR, paired_of (by rw [hlen, List.length_reverse, hyl]) fun j tv a hj ha => ?_⟩⟩
          obtain ⟨z, hz, t2, rfl⟩ := sg_at (hts j tv hj)
          have hjl : j < y.cps.size := by rw [← hlen]; exact (List.getElem?_eq_some_iff.mp hj).1
          rw [List.getElem?_reverse (by omega), hyl, hy, List.getElem?_map, hz] at ha
          cases ha
          exact ⟨t2, rfl⟩
  case fin =>
  intro sa s₄ g₃ ws fs₄ ug₃ kL4 hsa hsl₃ hp
  have hws₃ : Paired (LstV ItV g₃) ws (rs.map List.reverse) := by
    have hlen := hr.rows.length
    have e0 : (List.range vs.length).filter (fun _ => true) = List.range rs.length := by rw [hlen]; exact List.filter_eq_self.mpr fun _ _ => rfl
    rw [e0] at hp
    have hl2 := hp.length
    rw [List.length_range] at hl2
    refine paired_of (by rw [List.length_map]; exact hl2.symm) fun i v k hv' hk => ?_
    obtain ⟨j, hj, y, hy, z⟩ := paired_both hp i v hv'
    have hji : j = i := at_filter_range (α := Nat) hj
    subst hji
    rw [List.getElem?_map, hy] at hk
    cases hk
    exact z
  have wlen : ws.length ≤ 4 := by rw [hws₃.length, List.length_map]; exact hr.few
  dsimp only
  generalize hm4 : (fun y : Str => if y = "sequences" then some (Value.ref sa) else m2 y) = m4 at fs₄
  have m4a : m4 "self" = some (.ref x) := by rw [← hm4]; show (if ("self" : Str) = "sequences" then _ else _) = _; rw [if_neg (by decide), m2a]
  have m4s : m4 "sequences" = some (.ref sa) := by rw [← hm4]; rfl
  have m4w : m4 "s" = some w0 := by rw [← hm4]; show (if ("s" : Str) = "sequences" then _ else _) = _; rw [if_neg (by decide), m2w]
  have u13 : Up g g₃ := fun b o e => ug₃ b o (ug₁ b o e)
  -- what is told of them, read backwards
  obtain ⟨ge, uge, low, gN, gC, gIn⟩ := fs₄.parts'
  have u : Up g ge := fun b o e => uge b o (u13 b o e)
  have uh : Up h ge := fun b o e => u b o (fs.ran.up b o e)
  refine wpAny_execs_cons (wpAny_Assign_Name (makes_rev (C := fun v' g => LstV ItV g v' l) (lk_builtin (Wg u) ek (by rw [he]; rfl) eg eb rfl rfl (by decide))
    (gv_methS (gv_name (lk_local ek k1 (eL ▸ gN) m4a) ((ga_bound (Wg u).K (i0.up uh) (cl_postfix.pg _) cl_postfix.hd cl_postfix.beg rfl rfl rfl (by decide) ⟨by decide, by decide⟩).mono fun v gb ub ⟨mt, e, hmt⟩ => ?_))) rfl rfl _ _ s₄ low fun s₅ z kz hz => ?_))
  · subst e
    have ubh : Up h gb := fun b o e => ub b o (uh b o e)
    refine gv_callS (kept_meth hmt (ub _ _ ((Wg u).K 212 _ rfl)) rfl) (gv_name ((lk_local ek k2 (eL ▸ gN) m4s).keeps ub) (starred_list (hsl₃.at fun o e => ub _ o (uge _ o e)) (Nat.le_trans wlen (by decide)) ?_))
    refine (call_bound hmt (bg _ _ ws (Fd.less (by decide)) ubh (paired_mono (fun v r y => lstV_st itV_st _ _ _ _ (Up.seq fun b o e => ub b o (uge b o e)) y) hws₃) wlen)).call.mono fun v g' _ hv => ⟨hv, ?_⟩
    obtain ⟨c, us, e, hl', _⟩ := hv
    exact .inl ⟨c, us, e, hl'⟩
  obtain ⟨gz, s₄', v', rr, hC, kk, zn, hzz⟩ := hz
  obtain ⟨la, us, rfl, hlu, hus⟩ := hC
  obtain ⟨la', us', e, hlu', hit⟩ := hzz.resolve_right (by rintro ⟨y, t, e, _⟩; cases e)
  cases e
  have heq' : us' = us := by simpa using isList_inj hlu' hlu
  subst heq'
  have fs₅ := fs₄.keep kz
  have zs₄ : s₄.heap.get? z = none := by
    cases e : s₄.heap.get? z with
    | none => rfl
    | some o => rw [keeps_up rr.keeps z o e] at zn; cases zn
  have hlu₅ : s₅.heap.IsList la (List.toArray us') := hlu.at fun o e => keeps_up kk _ o (rr.low _ o e)
  have laz : la ≠ z := fun e => by subst e; obtain ⟨o, e1, _⟩ := hlu; rw [rr.low _ o e1] at zn; cases zn
  have offz : ∀ (b : Nat), ((∃ o', g₃.get? b = some o') ∨ b = L ∨ (∃ n c, ([] : List (Str × Addr)).lookup n = some c ∧ b = c) ∨ ∃ o', s₀.heap.get? b = some o') → b ≠ z := fun b hb e => by
    subst e
    rcases hb with ⟨o, e⟩ | e | ⟨_, _, e, _⟩ | ⟨o, e⟩
    · rw [fs₄.ran.low b o e] at zs₄; cases zs₄
    · subst e; obtain ⟨o, _, _, e, _⟩ := fs₄.ns; rw [e] at zs₄; cases zs₄
    · simp at e
    · rw [keeps_up fs₄.ran.keeps b o e] at zs₄; cases zs₄
  refine fs₅.storeK eL k3 (fun s₆ fs₆ kL => ?_) (by rw [ek]; rfl)
  dsimp only
  generalize hm6 : (fun y : Str => if y = "result" then some (Value.ref z) else m4 y) = m6 at fs₆
  have m6r : m6 "result" = some (.ref z) := by rw [← hm6]; rfl
  have m6w : m6 "s" = some w0 := by rw [← hm6]; show (if ("s" : Str) = "result" then _ else _) = _; rw [if_neg (by decide), m4w]
  have zL : z ≠ L := fun e => offz L (.inr (.inl rfl)) e.symm
  have laL : la ≠ L := fun e => by
    obtain ⟨o, e1, _, n', d⟩ := hlu₅
    obtain ⟨o2, _, _, e2, d2, _⟩ := fs₅.ns
    rw [e, e2] at e1; cases e1; rw [d] at d2; cases d2
  have hit₆ : s₆.heap.IsRevIter z la ((us'.length : Int) - 1) := hit.at fun o e => kL z o zL e
  have hlu₆ : s₆.heap.IsList la (List.toArray us') := hlu₅.at fun o e => kL la o laL e
  have hus₆ : Paired (ItV s₆.heap) us' l := by
    have h5 : Paired (ItV s₅.heap) us' l := paired_mono (fun v a y => itV_st _ _ _ _ (Up.seq fun b o e => keeps_up kk _ o (rr.low _ o e)) y) hus
    refine paired_mono (fun v a y => itV_st _ _ _ _ (fun b o xs nn e d => kL b o (fun zz => ?_) e) y) h5
    subst zz
    obtain ⟨o2, _, _, e2, d2, _⟩ := fs₅.ns
    rw [e2] at e; cases e; rw [d] at d2; cases d2
  have hul : us'.length = l.length := hus₆.length
  clear hit hlu₅ hlu hlu'
  have u03 : Up g g₃ := fun b o e => ug₃ b o (ug₁ b o e)
  have W₃ : Wd (hd.heap_39 w.params) mg mb g₃ := Wg u03
  have hw0₃ : RowK b g₃ w0 r0 := rowK_st _ _ _ _ (Up.seq fun b o e => u03 b o (fs.ran.up b o e)) hw0
  have hs24 : sizeLine = 2 ^ 24 := rfl
  -- the iterator, taken up at any later state
  have lister : ∀ s₇ : Shared, Keeps s₆ s₇ → ∃ h₀, Lister PySem.Challenge.rw_fq5031_01.row.prog w s₇.heap "list_reverseiterator" z us'.length (fun S acc h => acc.length ≤ us'.length ∧ (acc.length ≤ us'.length ∧ h.IsRevIter z la ((us'.length : Int) - 1 - (acc.length : Int)) ∧ h.IsList la (List.toArray us')) ∧ Up h₀ h ∧ ∀ (j : Nat) v, acc[j]? = some v → (List.toArray us')[us'.length - 1 - j]? = some v)
      (fun acc h => acc.length = us'.length ∧ Up h₀ h ∧ ∀ (j : Nat) v, acc[j]? = some v → (List.toArray us')[us'.length - 1 - j]? = some v) ∧ (∀ (b : Nat) o, b ≠ z → s₇.heap.get? b = some o → h₀.get? b = some o) := fun s₇ k7 => by
    obtain ⟨h₀, b1, b2, b3⟩ := but_one s₇.heap z
    have hst7 : s₇.heap.IsRevIter z la (((List.toArray us').size : Int) - 1) := by
      rw [List.size_toArray]; exact hit₆.at fun o e => keeps_up k7 z o e
    have W7 := lri_lister (prog := PySem.Challenge.rw_fq5031_01.row.prog) (w := w) (h₀ := h₀) laz hst7 (hlu₆.at fun o e => keeps_up k7 la o e) (by rw [List.size_toArray]; omega) b1 b2
    rw [List.size_toArray] at W7
    exact ⟨h₀, W7, b3⟩
  have rev_of : ∀ acc : List Value, acc.length = us'.length → (∀ (j : Nat) v, acc[j]? = some v → (List.toArray us')[us'.length - 1 - j]? = some v) → acc = us'.reverse := fun acc h1 h2 => by
    simp only [List.getElem?_toArray] at h2
    refine List.ext_getElem? fun j => ?_
    by_cases hj : j < acc.length
    · rw [List.getElem?_reverse (by omega), h2 j _ (List.getElem?_eq_getElem hj), List.getElem?_eq_getElem hj]
    · rw [List.getElem?_eq_none (by omega), List.getElem?_eq_none (by rw [List.length_reverse]; omega)]
  cases b with
  | true =>
    obtain ⟨y0, t0, rfl, hr0⟩ := hw0₃
    refine wpAny_execs_cons (wpAny_If (fs₆.evalK (P := fun _ b _ => b = true) (fun ge ug gN gC => ?_) fun b' s₇ ge gp gb fs₇ k7 ugb ue out p => ?_))
    · have Wge := W₃.up ug
      exact gt_value (gv_call (gv_name (lk_builtin Wge ek (by rw [he]; rfl) eg eb rfl rfl (by decide)) (gv_call2 kept_builtin (gv_name (lk_local ek k5 (eL ▸ gN) m6w) (gv_name (lk_builtin Wge ek (by rw [he]; rfl) eg eb rfl rfl (by decide)) (op_isi_str_str.mono fun v g _ e => by rw [e]; exact gt_bool rfl))))))
    subst p
    simp only [if_true]
    obtain ⟨cs, hcs⟩ := hb rfl
    have hcl : cs.length < 1000 := by rw [hcs] at hl; simpa using hl
    have hst : Paired (StrV s₆.heap) us' (cs.map one1) := by
      rw [hcs] at hus₆
      rcases it_kinds hus₆ (.inl ⟨_, rfl⟩) with ⟨xs, e, hp⟩ | ⟨ps, e, hp⟩
      · have : cs.map one1 = xs := List.map_inj_right (fun a b h => by injection h) |>.mp e
        rw [this]; exact hp
      · cases cs with
        | nil => cases ps with
          | nil => cases hp; exact .nil
          | cons p ps => simp at e
        | cons c cs => cases ps with
          | nil => simp at e
          | cons p ps => simp at e
    refine wpAny_execs_cons (wpAny_Return_some (methodCall_KW (wpAny_mkText ?_) rfl))
    refine GM.join ?_
    refine callWith_of (P := fun _ => True) rfl (fun _ _ => kept_builtin) (evalArgs_flat rfl (Calls.spliced_cons (wpAny_Name (wpAny_loadName_local ek k3 (eL ▸ fs₇.ns) m6r (wpAny_pure ⟨trivial, ?_⟩)) (by decide))))
    obtain ⟨h₀, Wl, b3⟩ := lister { s₇ with toks := s₇.toks + 1 } (keeps_trans k7 (keeps_tok _ _))
    refine join_lister Wl Fd.handled fun h' tk acc hF => ?_
    obtain ⟨f1, f2, f3⟩ := hF
    have hacc := rev_of acc f1 f3
    have hrs : Paired (StrV s₆.heap) acc ((cs.reverse).map one1) := by rw [hacc, List.map_reverse]; exact paired_reverse hst
    obtain ⟨l', hl1, hl2⟩ := strs_values hrs
    refine ⟨l', hl1.symm, by rw [hl2]; exact joinOk_ones _ (by simpa using hcl), fun t' k => ?_⟩
    have fsF := (fs₇.weaken ugb fs₄.ran.up).mut (h' := h') (tk := k) fun b o hb e => f2 b o (b3 b o (offz b hb) e)
    refine qq _ _ g₃ fsF.ran ⟨_, t', rfl, ?_⟩
    rw [hl2, txt_join_ones, hcs, ← List.map_reverse, ← List.map_reverse]
  | false =>
    obtain ⟨lb, ub, rfl, hlb, hub⟩ := hw0₃
    refine wpAny_execs_cons (wpAny_If (fs₆.evalK (P := fun _ b _ => b = false) (fun ge ug gN gC => ?_) fun b' s₇ ge gp gb fs₇ k7 ugb ue out p => ?_))
    · have Wge := W₃.up ug
      exact gt_value (gv_call (gv_name (lk_builtin Wge ek (by rw [he]; rfl) eg eb rfl rfl (by decide)) (gv_call2 kept_builtin (gv_name (lk_local ek k5 (eL ▸ gN) m6w) (gv_name (lk_builtin Wge ek (by rw [he]; rfl) eg eb rfl rfl (by decide)) ((op_isi_list_str (hlb.at fun o e => ug _ o e)).mono fun v g _ e => by rw [e]; exact gt_bool rfl))))))
    subst p
    simp only [Bool.false_eq_true, if_false]
    refine wpAny_execs_nil ?_
    dsimp only
    refine wpAny_execs_cons (wpAny_If ((fs₇.weaken ugb fs₄.ran.up).evalK (P := fun _ b _ => b = false) (fun ge ug gN gC => ?_) fun b' s₈ ge gp gc fs₈ k8 ugc ue out p => ?_))
    · have Wge := W₃.up ug
      exact gt_value (gv_call (gv_name (lk_builtin Wge ek (by rw [he]; rfl) eg eb rfl rfl (by decide)) (gv_call2 kept_builtin (gv_name (lk_local ek k5 (eL ▸ gN) m6w) (gv_name (lk_builtin Wge ek (by rw [he]; rfl) eg eb rfl rfl (by decide)) ((op_isi_list_bytes (hlb.at fun o e => ug _ o e)).mono fun v g _ e => by rw [e]; exact gt_bool rfl))))))
    subst p
    simp only [Bool.false_eq_true, if_false]
    refine wpAny_execs_nil ?_
    dsimp only
    have fs₈w := fs₈.weaken ugc fs₄.ran.up
    refine wpAny_execs_cons (wpAny_Return_some (Call_ (wpAny_Name ((lk_builtin W₃ ek (by rw [he]; rfl) eg eb rfl rfl (by decide)) _ _ _ s₈ fs₈w.ran.low ?_) (by decide)) rfl))
    refine callWith_of (P := fun _ => True) rfl (fun _ _ => kept_type) (evalArgs_flat rfl (Calls.spliced_cons (wpAny_Name (wpAny_loadName_local ek k3 (eL ▸ fs₈.ns) m6r (wpAny_pure ⟨trivial, ?_⟩)) (by decide))))
    have k68 := keeps_trans k7 k8
    obtain ⟨h₀, Wl, b3⟩ := lister s₈ k68
    refine call_list_lister Wl Fd.handled fun h' tk acc S c hS0 hS hF => ?_
    obtain ⟨f1, f2, f3⟩ := hF
    have hacc := rev_of acc f1 f3
    have fsF := fs₈w.mut (h' := h') (tk := tk) fun b o hb e => f2 b o (b3 b o (offz b hb) e)
    obtain ⟨gF, fsG, ugF, allF⟩ := fs_all fsF
    have S0 : s₀.heap.get? S = none := by
      cases e : s₀.heap.get? S with
      | none => rfl
      | some o => rw [keeps_up fs₈.ran.keeps S o e] at hS0; cases hS0
    have SL : S ≠ L := fun e => by
      obtain ⟨o, _, _, e1, _⟩ := fs₈.ns
      rw [e, e1] at hS0; cases hS0
    refine qq _ _ gF fsG.ran ⟨S, us'.reverse, rfl, ⟨_, allF S _ hS S0 SL (fun n c hc => by simp at hc), rfl, c, by rw [hacc]⟩, paired_reverse (paired_mono (fun v a y => itV_st _ _ _ _ (fun b o xs nn e d => ?_) y) hus)⟩
    have e4 := rr.low b o e
    have bz : b ≠ z := fun zz => by rw [zz, zn] at e4; cases e4
    have e5 := keeps_up kk b o e4
    have bL : b ≠ L := fun zz => by
      subst zz
      obtain ⟨o2, _, _, e2, d2, _⟩ := fs₅.ns
      rw [e2] at e5; cases e5; rw [d] at d2; cases d2
    have e6 := keeps_up k68 b o (kL b o bL e5)
    have e7 : h'.get? b = some o := f2 b o (b3 b o bz e6)
    rcases rr.new b o e with e8 | e8
    · rcases gIn b o e8 with ⟨o', e9⟩ | e9 | ⟨n, c, hc, _⟩
      · have := ugF b o' e9
        have e10 := fsG.ran.low b o' this
        have e11 : h'.get? b = some o' := e10
        rw [e7] at e11; cases e11; exact this
      · exact absurd e9 bL
      · simp at hc
    · refine allF b o e7 ?_ bL (fun n c hc => by simp at hc)
      cases e9 : s₀.heap.get? b with
      | none => rfl
      | some o' => rw [keeps_up fs₄.ran.keeps b o' e9] at e8; cases e8
end

/-! part Fq33 -/
section
variable {w : World} {A : Around} {h : Heap} {mg mb : Str → Option Value}
theorem range_all {n : Nat} {α : Type} {F : Nat → α → Prop} {ys : List α} (p : Paired F ((List.range n).filter fun _ => true) ys) : ys.length = n ∧ ∀ (i : Nat) y, ys[i]? = some y → F i y := by
  have e0 : (List.range n).filter (fun _ => true) = List.range n := List.filter_eq_self.mpr fun _ _ => rfl
  rw [e0] at p
  have hl := p.length
  rw [List.length_range] at hl
  refine ⟨hl.symm, fun i y e => ?_⟩
  obtain ⟨j, hj, z⟩ := paired_both p i y e
  have := at_filter_range (α := Nat) hj
  rw [this] at z; exact z
theorem c_turned (W : Wd (hd.heap_39 w.params) mg mb h) (F : Fine A 5) {v : Value} {l : List It} (hv : LstV ItV h v l) (hl : l.length < 1000) :
    GivesC (model PySem.Challenge.rw_fq5031_01.row.prog w) A h (.call (.ref 246) ⟨[v], []⟩) fun r g => LstV ItV g r l.reverse := by
  refine call_ret (P' := fun ge r gp => LstV ItV gp r l.reverse) (B := fun b _ => b = [(("row" : Str), v)]) ["row"] F.lt (W.K 246 _ rfl) rfl rfl ⟨245, _, _, _, rfl, W.K 245 _ rfl, rfl, rfl⟩ W.nolimit rfl rfl rfl rfl (Gives.pure rfl)
    (fun b g e => by rw [e]; rfl) rfl ?gv fun v ge gp g' _ _ sq _ p => lstV_st itV_st _ _ _ _ sq p
  rintro binds g ge L env rfl he hg ug gN gC
  have u : Up h ge := fun b o e => ug b o (hg b o e)
  have Wg := W.up u
  have ek : env.scope.kind = .function := by rw [he]; rfl
  have eg : env.globals = mainGlobals := by rw [he]; rfl
  have eb : env.builtins = builtinsNs := by rw [he]; rfl
  have ec : env.cells.lookup ("row" : Str) = some (L + 1) := by rw [he]; rfl
  have hc : ge.IsCell (L + 1) (some v) := by have := gC _ _ ec; rw [he] at this; exact this
  obtain ⟨a, vs, rfl, hla, hp⟩ := lstV_st itV_st _ _ _ _ (Up.seq u) hv
  have hvl := hp.length
  refine (comp_gives (x := "k") (n := l.length) (P := fun i v => ∃ t, v = .int (i : Int) t) (cl := [(("row" : Str), L + 1)]) (fun _ => true) (fun i v g => ∃ y, l[l.length - 1 - i]? = some y ∧ ItV g v y) (fun i v g g' k ⟨y, e, z⟩ => ⟨y, e, itV_st _ _ _ _ k z⟩) (F.deep env).handled (by rw [he]; rfl) (by decide) rfl (by decide) rfl (Nat.le_of_lt (Nat.lt_trans hl (by decide))) ?iter fun _ => rfl).mono ?fin
  case iter =>
    refine gv_call (gv_name (lk_builtin Wg ek (by rw [he]; rfl) eg eb rfl rfl (by decide)) (gv_call1 kept_type (gv_call (gv_name (lk_builtin Wg ek (by rw [he]; rfl) eg eb rfl rfl (by decide)) (gv_call1 kept_builtin (gv_name (lk_cell ek (by rw [he]; rfl) ec hc) ((op_len_list hla (by simp; omega)).mono fun r g₁ u₁ ⟨t, e⟩ => ?_))))))) rfl
    subst e
    rw [show (List.toArray vs).size = l.length from by simpa using hvl]
    refine (op_range1 (by omega) (by omega)).mono fun v g₂ u₂ hit => ⟨by simpa using hit, fun C g i v m hi hp ug hN hm => Gives.pure rfl, fun C g₃ i v m hi hpi _ u₃ hN hm => ?_⟩
    obtain ⟨t, rfl⟩ := hpi
    have uu : Up ge g₃ := fun b o e => u₃ b o (u₂ b o (u₁ b o e))
    have W₃ := Wg.up uu
    refine gv_sub (gv_name (lk_cell (env := compEnvC _ [(("row" : Str), L + 1)] C env) rfl (by rw [he]; rfl) rfl (hc.keeps uu)) (gv_binop (gv_binop (gv_call (gv_name (lk_builtin (env := compEnvC _ [(("row" : Str), L + 1)] C env) W₃ rfl (by rw [he]; rfl) eg eb rfl rfl (by decide)) (gv_call1 kept_builtin (gv_name (lk_cell (env := compEnvC _ [(("row" : Str), L + 1)] C env) rfl (by rw [he]; rfl) rfl (hc.keeps uu)) ((op_len_list (hla.at fun o e => uu _ o e) (by simp; omega)).mono fun r g₄ u₄ ⟨t4, e⟩ => ?_))))))))
    subst e
    rw [show (List.toArray vs).size = l.length from by simpa using hvl]
    refine gv_int fun t5 => op_sub.mono fun r g₅ u₅ ⟨t6, e⟩ => ?_
    subst e
    refine gv_name ((lk_local (env := compEnvC _ [(("row" : Str), L + 1)] C env) rfl (by rw [he]; rfl) hN hm).keeps fun b o e => u₅ b o (u₄ b o e)) (op_sub.mono fun r g₆ u₆ ⟨t7, e⟩ => ?_)
    subst e
    rw [show ((l.length : Int) - 1 - i) = ((l.length - 1 - i : Nat) : Int) from by omega]
    have hk : l.length - 1 - i < vs.length := by omega
    obtain ⟨y, hy, hyv⟩ := paired_at hp (l.length - 1 - i) _ (List.getElem?_eq_getElem hk)
    have u6 : Up ge g₆ := fun b o e => u₆ b o (u₅ b o (u₄ b o (uu b o e)))
    exact op_item_list (hla.at fun o e => u6 _ o e) (List.getElem?_eq_getElem hk) (by omega) ⟨y, hy, itV_st _ _ _ _ (Up.seq u6) hyv⟩
  case fin =>
    rintro r g' u' ⟨b, ys, rfl, hl', hpy⟩
    obtain ⟨h1, h2⟩ := range_all hpy
    refine ⟨b, ys, rfl, hl', paired_of (by rw [List.length_reverse, h1]) fun i y a hy ha => ?_⟩
    obtain ⟨y', e, z⟩ := h2 i y hy
    have hi : i < l.length := by rw [← h1]; exact (List.getElem?_eq_some_iff.mp hy).1
    rw [List.getElem?_reverse hi, e] at ha
    cases ha
    exact z
end

/-! part Fq34 -/
section
variable {w : World} {A : Around} {h : Heap} {mg mb : Str → Option Value}
def cutRow (two : Bool) (cs : List Str) : List It := match two with
  | true => pairUp cs
  | false => cs.map .s
theorem pairUp_len (cs : List Str) : (pairUp cs).length = cs.length - 1 := by simp [pairUp]
theorem pairUp_at {cs : List Str} {i : Nat} {x y : Str} (h0 : cs[i]? = some x) (h1 : cs[i + 1]? = some y) : (pairUp cs)[i]? = some (.p x y) := by
  simp only [pairUp, List.getElem?_map]
  rw [← List.drop_one, List.zip_eq_zipWith, List.getElem?_zipWith, h0, List.getElem?_drop, show 1 + i = i + 1 from Nat.add_comm _ _, h1]; rfl
theorem op_range0 {prog : Program} {n : Int} {t : Tok} (h0 : -(2 ^ 62) ≤ n) (h1 : n < 2 ^ 62) : Gives (model prog w) A h (call (.type "range") [.int n t]) fun v g => Iter prog w g v n.toNat fun i v => ∃ t, v = .int (i : Int) t := fun Q E s k q => by
  refine call_range_1 ?_
  obtain ⟨g, r, e⟩ := ran_push (o := { cls := .type "range", data := .fields #[.int 0 s.toks, .int n t, .int 1 (s.toks + 1)] }) k rfl
  refine q _ _ g (r.trans ⟨keeps_tok _ _, fun _ _ e => e, r.low, fun _ _ e => .inl e⟩) ?_
  have z := iter_range (prog := prog) (w := w) (n := n.toNat) e (small_one (by decide) (by decide) h0 h1) (by rw [rangeSize_one]; split <;> omega)
  simpa using z
/-- is it 2? -/
def Q2 (q : Value) (two : Bool) : Prop := (∃ i t, q = .int i t ∧ two = (i == 2)) ∨ (q = .none ∧ two = false)
theorem op_eq_two {prog : Program} {q : Value} {two : Bool} {t : Tok} (x : Q2 q two) : Gives (model prog w) A h (compareOp .Eq q (.int 2 t)) fun v _ => v = .bool two := by
  rcases x with ⟨i, u, rfl, rfl⟩ | ⟨rfl, rfl⟩
  · exact op_eqi
  · exact fun Q E s k q => PySem.EqNone.eq_none_int (q _ _ h (.refl k) rfl)
theorem c_cut (W : Wd (hd.heap_39 w.params) mg mb h) (F : Fine A 5) {v q : Value} {two : Bool} {cs : List Str} (hv : LstV ItV h v (cs.map .s)) (hl : cs.length < 1000) (hq : Q2 q two) :
    GivesC (model PySem.Challenge.rw_fq5031_01.row.prog w) A h (.call (.ref 251) ⟨[v, q], []⟩) fun r g => LstV ItV g r (cutRow two cs) := by
  refine call_fn (B := fun b _ => b = [(("row" : Str), v), (("q" : Str), q)]) F.lt (W.K 251 _ rfl) rfl rfl ⟨250, _, _, _, rfl, W.K 250 _ rfl, rfl, rfl⟩ W.nolimit rfl rfl rfl rfl (Gives.pure rfl)
    (fun b g e => bound_kind (by rw [e]; rfl)) ?run
  rintro binds g s₀ s L env rfl he fs Q E qq
  have ek : env.scope.kind = .function := by rw [he]; rfl
  have eg : env.globals = mainGlobals := by rw [he]; rfl
  have eb : env.builtins = builtinsNs := by rw [he]; rfl
  have eL : env.locals = L := by rw [he]; rfl
  have ec : env.cells.lookup ("row" : Str) = some (L + 1) := by rw [he]; rfl
  have Fd := F.deep env
  have ctx : ∀ ge, Up g ge → ge.Ns L (bindL env.kindOf [(("row" : Str), v), (("q" : Str), q)] fun _ => none) → (∀ n c, env.cells.lookup n = some c → ge.IsCell c (bindC env.kindOf [(("row" : Str), v), (("q" : Str), q)] (fun _ => none) n)) →
      Wd (hd.heap_39 w.params) mg mb ge ∧ ge.Ns L (fun y => if y = "q" then some q else none) ∧ ge.IsCell (L + 1) (some v) ∧ LstV ItV ge v (cs.map .s) := fun ge ug gN gC =>
    ⟨W.up fun b o e => ug b o (fs.ran.up b o e), by rw [he] at gN; exact gN, by have := gC _ _ ec; rw [he] at this; exact this, lstV_st itV_st _ _ _ _ (Up.seq fun b o e => ug b o (fs.ran.up b o e)) hv⟩
  refine wpAny_execs_cons (wpAny_If (fs.eval (P := fun _ b _ => b = two) (fun ge ug gN gC => ?_) fun b s₁ ge gp g₁ fs₁ ug ue out p => ?_))
  · obtain ⟨Wg, hn, hc, _⟩ := ctx ge ug gN gC
    exact gt_cmp (gv_name (lk_local ek (by rw [he]; rfl) (eL ▸ hn) rfl) (gv_int fun u => (op_eq_two hq).mono fun v g _ e => by rw [e]; exact gt_bool rfl))
  subst p
  cases b with
  | false =>
    simp only [Bool.false_eq_true, if_false]
    refine wpAny_execs_nil ?_
    dsimp only
    refine wpAny_execs_cons (wpAny_Return_some (fs₁.eval (P := fun _ r g => LstV ItV g r (cs.map .s)) (fun ge ug₁ gN gC => ?_) fun v s' ge gp g' fs' _ _ out p => ?_))
    · obtain ⟨Wg, hn, hc, hvg⟩ := ctx ge (fun b o e => ug₁ b o (ug b o e)) gN gC
      exact gv_name (lk_cell ek (by rw [he]; rfl) ec hc) hvg
    · exact qq _ s' g' fs'.ran (lstV_st itV_st _ _ _ _ out.seq p)
  | true =>
    simp only [if_true]
    refine wpAny_execs_cons (wpAny_Return_some (fs₁.eval (P := fun _ r g => LstV ItV g r (pairUp cs)) (fun ge ug₁ gN gC => ?_) fun v s' ge gp g' fs' _ _ out p => ?_))
    · obtain ⟨Wg, hn, hc, hvg⟩ := ctx ge (fun b o e => ug₁ b o (ug b o e)) gN gC
      obtain ⟨a, vs, rfl, hla, hp⟩ := hvg
      have hvl : vs.length = cs.length := by have := hp.length; rwa [List.length_map] at this
      refine (comp_gives (x := "k") (n := cs.length - 1) (P := fun i v => ∃ t, v = .int (i : Int) t) (cl := [(("row" : Str), L + 1)]) (fun _ => true) (fun i v g => ∃ y, (pairUp cs)[i]? = some y ∧ ItV g v y) (fun i v g g' k ⟨y, e, z⟩ => ⟨y, e, itV_st _ _ _ _ k z⟩) Fd.handled (by rw [he]; rfl) (by decide) rfl (by decide) rfl (Nat.le_trans (Nat.sub_le _ _) (Nat.le_of_lt (Nat.lt_trans hl (by decide)))) ?iter fun _ => rfl).mono ?fin
      case iter =>
        refine gv_call (gv_name (lk_builtin Wg ek (by rw [he]; rfl) eg eb rfl rfl (by decide)) (gv_call1 kept_type (gv_binop (gv_call (gv_name (lk_builtin Wg ek (by rw [he]; rfl) eg eb rfl rfl (by decide)) (gv_call1 kept_builtin (gv_name (lk_cell ek (by rw [he]; rfl) ec hc) ((op_len_list hla (by simp; omega)).mono fun r g₁ u₁ ⟨t, e⟩ => ?_)))))))) rfl
        subst e
        rw [show (List.toArray vs).size = cs.length from by simpa using hvl]
        refine gv_int fun t5 => op_sub.mono fun r g₅ u₅ ⟨t6, e⟩ => ?_
        subst e
        have hn1 : ((cs.length : Int) - 1).toNat = cs.length - 1 := by omega
        refine (op_range0 (by omega) (by omega)).mono fun v g₂ u₂ hit => ⟨by rw [hn1] at hit; exact hit, fun C g i v m hi hp ug hN hm => Gives.pure rfl, fun C g₃ i v m hi hpi _ u₃ hN hm => ?_⟩
        obtain ⟨tk, rfl⟩ := hpi
        have uu : Up ge g₃ := fun b o e => u₃ b o (u₂ b o (u₅ b o (u₁ b o e)))
        have hi0 : i < vs.length := by omega
        have hi1 : i + 1 < vs.length := by omega
        obtain ⟨y0, hy0, hv0⟩ := paired_at hp i _ (List.getElem?_eq_getElem hi0)
        obtain ⟨y1, hy1, hv1⟩ := paired_at hp (i + 1) _ (List.getElem?_eq_getElem hi1)
        rw [List.getElem?_map] at hy0 hy1
        obtain ⟨x0, e0, rfl⟩ := Option.map_eq_some_iff.mp hy0
        obtain ⟨x1, e1, rfl⟩ := Option.map_eq_some_iff.mp hy1
        refine gv_tuple (gs_cons (gv_sub (gv_name (lk_cell (env := compEnvC _ [(("row" : Str), L + 1)] C env) rfl (by rw [he]; rfl) rfl (hc.keeps uu)) (gv_name (lk_local (env := compEnvC _ [(("row" : Str), L + 1)] C env) rfl (by rw [he]; rfl) hN hm) (op_item_list (hla.at fun o e => uu _ o e) (List.getElem?_eq_getElem hi0) (by omega) (gs_cons ?_))))))
        refine gv_sub (gv_name (lk_cell (env := compEnvC _ [(("row" : Str), L + 1)] C env) rfl (by rw [he]; rfl) rfl (hc.keeps uu)) (gv_binop (gv_name (lk_local (env := compEnvC _ [(("row" : Str), L + 1)] C env) rfl (by rw [he]; rfl) hN hm) (gv_int fun t7 => op_add.mono fun r g₆ u₆ ⟨t8, e⟩ => ?_))))
        subst e
        rw [show ((i : Int) + 1) = ((i + 1 : Nat) : Int) from by omega]
        have u6 : Up ge g₆ := fun b o e => u₆ b o (uu b o e)
        refine op_item_list (hla.at fun o e => u6 _ o e) (List.getElem?_eq_getElem hi1) (by omega) (gs_nil ((gv_newTuple (by show 2 ≤ _; decide)).mono fun v g₇ u₇ ⟨T, e, _, hT⟩ => ⟨_, pairUp_at e0 e1, T, _, e, hT, ?_⟩))
        have u7 : Up ge g₇ := fun b o e => u₇ b o (u6 b o e)
        exact .cons (itV_st _ _ _ _ (Up.seq u7) hv0) (.cons (itV_st _ _ _ _ (Up.seq u7) hv1) .nil)
      case fin =>
        rintro r g' u' ⟨b, ys, rfl, hl', hpy⟩
        obtain ⟨h1, h2⟩ := range_all hpy
        refine ⟨b, ys, rfl, hl', paired_of (by rw [pairUp_len, h1]) fun i y a hy ha => ?_⟩
        obtain ⟨y', e, z⟩ := h2 i y hy
        rw [ha] at e
        cases e
        exact z
    · exact qq _ s' g' fs'.ran (lstV_st itV_st _ _ _ _ out.seq p)
end

/-! part Fq35 -/
section
variable {M : Model} {A : Around} {h : Heap} {env : Env}
theorem gt_and {a b : Expr} {pos : Pos} {whole : Sem Value} {P : Bool → Heap → Prop} (x : Gives M A h (isTrue a env (eval a env)) fun b1 g => if b1 then Gives M A g (isTrue b env (eval b env)) P else P false g) :
    Gives M A h (isTrue (.BoolOp .And [a, b] pos) env whole) P := fun Q E s k q => by
  refine wpAny_isTrue_BoolOp (wpAny_allTrue_And_cons (x _ E s k fun b1 s1 g1 r1 y => ?_))
  cases b1 with
  | false => exact q _ _ g1 r1 y
  | true =>
    simp only [if_true] at y ⊢
    refine wpAny_allTrue_And_cons (y _ E s1 r1.low fun b2 s2 g2 r2 z => ?_)
    cases b2 with
    | false => exact q _ _ g2 (r1.trans r2) z
    | true => exact wpAny_allTrue_And_nil (q _ _ g2 (r1.trans r2) z)
theorem gl_name {x : Str} {v : Value} {P : Value → Heap → Prop} (l : Looks M h (loadName env x) v) (p : P v h) : Gives M A h (loadName env x) P :=
  fun Q E s k q => l A Q E s k (q v s h (.refl k) p)
theorem op_is_not_none {v : Value} : Gives M A h (compareOp .IsNot v .none) fun r _ => r = .bool (!(v == .none)) := fun Q E s k q => isnot_none_gen (q _ _ h (.refl k) rfl)
theorem op_iadd {prog : Program} {w : World} {a b : Int} {t u : Tok} : Gives (model prog w) A h (inplaceOp .Add (.int a t) (.int b u)) fun v _ => ∃ t, v = .int (a + b) t := fun Q E s k q => PyProof.Rows.iadd_int (q _ _ h (ran_tok k) ⟨_, rfl⟩)
end
section
variable {prog : Program} {w : World} {A : Around} {h : Heap} {env : Env}
theorem gt_others {scope : Scope} {cl : List (Str × Addr)} {c : Expr} {p1 p2 p3 p4 p5 p6 : Pos} {whole : Sem Value} {a : Addr} {vs : List Value} {l : List It} (p : It → Bool)
    (hh : A.handled = none) (hu : A.units + 64 < cLine) (hn : Gives (model prog w) A h (eval (.Name "items" p3) env) fun v g => v = .ref a)
    (hclos : closureFor scope env = pure cl) (hcell : ∀ y ∈ scope.names, y.2 ≠ .cell) (hkind : scope.kind = .function)
    (hnames : ∀ y ∈ scope.names, y.2 = .local → scope.names.lookup y.1 = some .local) (hx : scope.names.lookup ("item" : Str) = some .local)
    (hl : h.IsList a (List.toArray vs)) (hp : Paired (ItV h) vs l) (hs : l.length < 1000) (hok : ∀ x ∈ l, itOk x = true)
    (hk : ∀ C, (compEnvC scope cl C env).scope.kind = .function ∧ (compEnvC scope cl C env).kindOf "item" = some .local)
    (test : ∀ C g (i : Nat) v x m, vs[i]? = some v → l[i]? = some x → Up h g → g.Ns C m → m "item" = some v → Gives (model prog w) A g (isTrue c (compEnvC scope cl C env) (eval c (compEnvC scope cl C env))) fun b _ => b = p x) :
    Gives (model prog w) A h (isTrue (.Compare (.ListComp (.Name "item" p1) [⟨.Name "item" p2, .Name "items" p3, [c], 0⟩] scope p4) [.NotEq] [.List [] p5] p6) env whole) fun b _ => b = l.any p := by
  have hvl := hp.length
  let q : Nat → Bool := fun i => p (l[i]?.getD (.s ""))
  refine gt_cmp ((comp_gives (x := "item") (n := vs.length) (P := fun i v => vs[i]? = some v) (cl := cl) q (fun i v g => ∃ y, l[i]? = some y ∧ ItV g v y) (fun i v g g' k ⟨y, e, z⟩ => ⟨y, e, itV_st _ _ _ _ k z⟩) hh hclos hcell hkind hnames hx (by rw [hvl]; exact Nat.le_of_lt (Nat.lt_trans hs (by decide))) ?iter fun _ => rfl).mono ?fin)
  case iter =>
    refine hn.mono fun v g u e => ?_
    subst e
    refine ⟨?_, fun C g₁ i v m hi hpi ug hN hm => ?_, fun C g₁ i v m hi hpi _ ug hN hm => ?_⟩
    · have := iter_list (prog := prog) (w := w) (hl.at fun o e => u _ o e)
      simpa using this
    · obtain ⟨y, hy, hyv⟩ := paired_at hp i v hpi
      have hq : q i = p y := by show p _ = _; rw [hy]; rfl
      rw [hq]
      show Gives _ _ _ ((do let ok ← isTrue c (compEnvC scope cl C env) (eval c (compEnvC scope cl C env)); pure (ForInStep.yield ok)) >>= _) _
      exact ((test C g₁ i v y m hpi hy (fun b o e => ug b o (u b o e)) hN hm).bind (P' := fun r _ => r = ForInStep.yield (p y)) fun b g₂ _ e => Gives.pure (by rw [e])).bind fun r g₂ _ e => by
        subst e; exact Gives.pure rfl
    · obtain ⟨y, hy, hyv⟩ := paired_at hp i v hpi
      obtain ⟨k0, k⟩ := hk C
      exact gv_name (lk_local k0 k hN hm) ⟨y, hy, itV_st _ _ _ _ (Up.seq fun b o e => ug b o (u b o e)) hyv⟩
  case fin =>
    rintro r g u ⟨b, ys, rfl, hb, hpy⟩
    refine gv_list (gs_nil ((gv_newList (vs := []) (by decide)).mono fun v g₁ u₁ ⟨b', e, _, hb'⟩ => ?_))
    subst e
    have hL : LstV ItV g₁ (.ref b) (((List.range vs.length).filter q).map fun i => l[i]?.getD (.s "")) := by
      refine ⟨b, ys, rfl, hb.at fun o e => u₁ _ o e, paired_of ?_ fun i y a hy ha => ?_⟩
      · rw [List.length_map, hpy.length]
      · obtain ⟨j, hj, z, hz, hv⟩ := paired_both hpy i y hy
        rw [List.getElem?_map, hj] at ha
        rw [Option.map_some, hz] at ha
        cases ha
        exact itV_st _ _ _ _ (Up.seq u₁) hv
    refine (op_ne_rows hL (k := []) ⟨b', [], rfl, hb', .nil⟩ ?_ rfl hu).mono fun v g₂ _ e => ?_
    · rw [List.all_eq_true]
      intro x hx
      obtain ⟨i, hi, rfl⟩ := List.mem_map.mp hx
      have hi' := List.mem_range.mp (List.mem_filter.mp hi).1
      have hi2 : i < l.length := by omega
      rw [List.getElem?_eq_getElem hi2]
      exact hok _ (List.getElem_mem _)
    · rw [e]
      refine gt_bool ?_
      rw [Bool.eq_iff_iff]
      rw [Bool.not_eq_true', decide_eq_false_iff_not, List.any_eq_true, List.map_eq_nil_iff, List.filter_eq_nil_iff]
      constructor
      · intro hh
        refine Classical.byContradiction fun hc => hh fun i hi hq => hc ?_
        have hi2 : i < l.length := by have := List.mem_range.mp hi; omega
        refine ⟨l[i], List.getElem_mem _, ?_⟩
        have : q i = p l[i] := by show p _ = _; rw [List.getElem?_eq_getElem hi2]; rfl
        rw [← this]; exact hq
      · rintro ⟨x, hx, hpx⟩ hh
        obtain ⟨i, hi, rfl⟩ := List.mem_iff_getElem.mp hx
        refine hh i (List.mem_range.mpr (by omega)) ?_
        show p _ = true
        rw [List.getElem?_eq_getElem hi]; exact hpx
end
section
variable {w : World} {A : Around} {h : Heap} {mg mb : Str → Option Value}
/-- what a dict of signs answers -/
structure DG (w : World) (h : Heap) (d : Addr) (G : Str → Int) (okx : Str → Prop) : Prop where
  get : ∀ (A' : Around) h' x t (value slice : Expr), Fine A' 1 → Up h h' → okx x → subscripted slice false (.ref d) (.str x t) = operate [.ref d, .str x t] (getItem (.ref d) (.str x t)) → Gives (model PySem.Challenge.rw_fq5031_01.row.prog w) A' h' (subscriptTail value slice (.ref d) (.str x t)) fun v _ => ∃ t, v = .int (G x) t
def grp (G : Str → Int) : It → Int
  | .s x => G x
  | .p _ _ => 0
def sameBy (eqv : It → It → Bool) (l : List It) : Bool := match l with
  | [] => true
  | a :: r => (a :: r).all fun b => eqv b a
def Grp (w : World) (h : Heap) (gv : Value) (eqv : It → It → Bool) (okI : It → Prop) : Prop :=
  (gv = .none ∧ eqv = (fun a b => decide (a = b)) ∧ ∀ a, okI a → itOk a = true) ∨ ∃ d G okx, gv = .ref d ∧ DG w h d G okx ∧ eqv = (fun a b => grp G a == grp G b) ∧ ∀ a, okI a → itOk a = true ∧ ∃ x, a = .s x ∧ okx x
theorem any_sameBy {eqv : It → It → Bool} {a : It} {r : List It} : ((a :: r).any fun b => !eqv b a) = !sameBy eqv (a :: r) := by
  show _ = !((a :: r).all fun b => eqv b a)
  rw [List.not_all_eq_any_not]
theorem col_len : ∀ {rs : List (List It)} {i : Nat}, (∀ r ∈ rs, i < r.length) → (col rs i).length = rs.length
  | [], _, _ => rfl
  | r :: rs, i, h => by
    have h0 : i < r.length := h r (by simp)
    have ih := col_len (rs := rs) (i := i) fun r' hr => h r' (by simp [hr])
    unfold col at ih ⊢
    rw [List.filterMap_cons, List.getElem?_eq_getElem h0]
    show _ + 1 = _ + 1
    rw [ih]
theorem col_at : ∀ {rs : List (List It)} {i : Nat}, (∀ r ∈ rs, i < r.length) → ∀ (j : Nat) a, (col rs i)[j]? = some a → ∃ r, rs[j]? = some r ∧ r[i]? = some a
  | [], _, _, j, a, e => by simp [col] at e
  | r :: rs, i, h, j, a, e => by
    have h0 : i < r.length := h r (by simp)
    have ih := col_at (rs := rs) (i := i) fun r' hr => h r' (by simp [hr])
    unfold col at ih e
    rw [List.filterMap_cons, List.getElem?_eq_getElem h0] at e
    cases j with
    | zero => exact ⟨r, rfl, by rw [List.getElem?_eq_getElem h0]; exact e⟩
    | succ j => exact ih j a e
theorem c_size (W : Wd (hd.heap_39 w.params) mg mb h) (F : Fine A 7) {v gv : Value} {rs : List (List It)} {n : Nat} {eqv : It → It → Bool} {okI : It → Prop} (hv : LstV (LstV ItV) h v rs) (hne : rs ≠ []) (h4 : rs.length ≤ 4) (hsm : ∀ r ∈ rs, r.length < 1000)
    (hn : (∀ r ∈ rs, n ≤ r.length) ∧ ∃ r ∈ rs, r.length = n) (gr : Grp w h gv eqv okI) (hok : ∀ r ∈ rs, ∀ a ∈ r, okI a) :
    GivesC (model PySem.Challenge.rw_fq5031_01.row.prog w) A h (.call (.ref 256) ⟨[v, gv], []⟩) fun r g => ∃ t, r = .int (told (sameBy eqv) rs n : Nat) t := by
  refine call_fn (B := fun b _ => b = [(("rows" : Str), v), (("groups" : Str), gv)]) F.lt (W.K 256 _ rfl) rfl rfl ⟨255, _, _, _, rfl, W.K 255 _ rfl, rfl, rfl⟩ W.nolimit rfl rfl rfl rfl (Gives.pure rfl)
    (fun b g e => bound_kind (by rw [e]; rfl)) ?run
  rintro binds g s₀ s L env rfl he fs Q E qq
  have ek : env.scope.kind = .function := by rw [he]; rfl
  have eg : env.globals = mainGlobals := by rw [he]; rfl
  have eb : env.builtins = builtinsNs := by rw [he]; rfl
  have eL : env.locals = L := by rw [he]; rfl
  have ec : env.cells = [(("items" : Str), L + 3), (("size" : Str), L + 2), (("groups" : Str), L + 1)] := by rw [he]; rfl
  have k1 : env.kindOf "rows" = some .local := by rw [he]; rfl
  have k2 : env.kindOf "groups" = some .cell := by rw [he]; rfl
  have k3 : env.kindOf "size" = some .cell := by rw [he]; rfl
  have k4 : env.kindOf "items" = some .cell := by rw [he]; rfl
  have c2 : env.cells.lookup ("groups" : Str) = some (L + 1) := by rw [ec]; rfl
  have c3 : env.cells.lookup ("size" : Str) = some (L + 2) := by rw [ec]; rfl
  have c4 : env.cells.lookup ("items" : Str) = some (L + 3) := by rw [ec]; rfl
  have Fd := F.deep env
  obtain ⟨m0, hm0⟩ : ∃ m0, m0 = bindL env.kindOf [(("rows" : Str), v), (("groups" : Str), gv)] (fun _ => none) := ⟨_, rfl⟩
  obtain ⟨cm, hcm⟩ : ∃ cm, cm = bindC env.kindOf [(("rows" : Str), v), (("groups" : Str), gv)] (fun _ => none) := ⟨_, rfl⟩
  rw [← hm0, ← hcm] at fs
  have m0r : m0 "rows" = some v := by rw [hm0, he]; rfl
  have cmg : cm "groups" = some gv := by rw [hcm, he]; rfl
  have uh : Up h g := fs.ran.up
  refine wpAny_execs_cons (wpAny_Assign_Name (fs.eval (P := fun _ b _ => ∃ t, b = .int 0 t) (fun ge ug gN gC => gv_int fun t => ⟨t, rfl⟩) fun b s₁ ge gp g₁ fs₁ ug₁ ue out p => ?_))
  obtain ⟨t0, rfl⟩ := p
  refine fs₁.store_cell (c := L + 2) c3 rfl ek k3 fun s₂ fs₂ => ?_
  dsimp only
  refine wpAny_execs_cons (wpAny_While ?_)
  refine codeAny_whileLoop (fun k s => ∃ i g' cm', k = n - i ∧ i ≤ n ∧ Up h g' ∧ FS s₀ h L m0 env.cells cm' g' s ∧ cm' "groups" = some gv ∧ (∃ t, cm' "size" = some (.int (i : Nat) t)) ∧ ∀ j, j < i → sameBy eqv (col rs j) = true) (fun k s₃ hI => ?_) n ?start
  case start =>
    exact ⟨0, g₁, _, rfl, Nat.zero_le _, fun b o e => ug₁ b o (uh b o e), fs₂, by show (if ("groups" : Str) = "size" then _ else _) = _; rw [if_neg (by decide), cmg], ⟨t0, by simp⟩, fun j hj => absurd hj (Nat.not_lt_zero _)⟩
  obtain ⟨i, g₃, cm₃, rfl, hin, u₃, fs₃, hg₃, ⟨t3, hs₃⟩, hS⟩ := hI
  have rl : ∀ ge, Up g₃ ge → LstV (LstV ItV) ge v rs := fun ge u => lstV_st (lstV_st itV_st) _ _ _ _ (Up.seq fun b o e => u b o (u₃ b o e)) hv
  have rlen : rs.length ≤ sizeLine := Nat.le_trans h4 (by decide)
  refine fs₃.eval (P := fun _ b _ => b = decide (i < n)) (fun ge ug gN gC => ?_) fun b s₄ ge gp g₄ fs₄ ug₄ ue out p => ?_
  · have Wg := W.up fun b o e => ug b o (u₃ b o e)
    obtain ⟨la, ws, rfl, hla, hws⟩ := rl ge ug
    have hwl := hws.length
    have hsz := gC _ _ c3
    rw [hs₃] at hsz
    refine gt_cmp (gv_name (lk_cell ek k3 c3 hsz) (gv_call (gv_name (lk_builtin Wg ek (by rw [he]; rfl) eg eb rfl rfl (by decide)) (gv_call1 kept_builtin ((comp_gives (x := "row") (n := ws.length) (P := fun i v => ws[i]? = some v) (cl := []) (fun _ => true) (fun i v g => ∃ r, rs[i]? = some r ∧ ∃ t, v = .int (r.length : Nat) t) (fun i v g g' k y => y) Fd.handled (by rw [he]; rfl) (by decide) rfl (by decide) rfl (by omega) ?iter fun _ => rfl).mono ?fin)))))
    case iter =>
      refine gv_name (lk_local ek k1 (eL ▸ gN) m0r) ⟨by simpa using iter_list (prog := PySem.Challenge.rw_fq5031_01.row.prog) (w := w) hla, fun C g i v m hi hp ug hN hm => Gives.pure rfl, fun C g₃ i v m hi hpi _ u₃ hN hm => ?_⟩
      obtain ⟨r, hr, hrv⟩ := paired_at hws i v hpi
      refine gv_call (gv_name (lk_builtin (env := compEnvC _ [] C env) (Wg.up u₃) rfl (by rw [he]; rfl) eg eb rfl rfl (by decide)) (gv_call1 kept_builtin (gv_name (lk_local (env := compEnvC _ [] C env) rfl (by rw [he]; rfl) hN hm) ?_)))
      exact (op_lenV (row_lenV (.inl (lstV_st itV_st _ _ _ _ (Up.seq u₃) hrv)) (Nat.lt_trans (hsm r (List.mem_of_getElem? hr)) (by decide)))).mono fun v g _ e => ⟨r, hr, e⟩
    case fin =>
      rintro r g' u' ⟨b, ys, rfl, hl', hpy⟩
      have hf : (List.range ws.length).filter (fun _ => true) = List.range ws.length := List.filter_eq_self.mpr fun _ _ => rfl
      obtain ⟨y1, y2⟩ := range_all hpy
      have hl2 : ys.length = rs.length := by omega
      refine (op_min (n := ys.length) (val := fun i => ((rs[i]?.getD []).length : Int)) (it := by have := iter_list (prog := PySem.Challenge.rw_fq5031_01.row.prog) (w := w) hl'; simpa using this) ?_ ?_ Fd.handled).mono fun v g'' _ ⟨m, ⟨tm, e⟩, ⟨k, hk, e1⟩, e2⟩ => ?_
      · rw [hl2]; exact List.length_pos_iff.mpr hne
      · intro i v hi
        obtain ⟨r, hr, t, e⟩ := y2 i v hi
        exact ⟨t, by rw [e, hr]; rfl⟩
      · subst e
        have hm : m = n := by
          obtain ⟨h1, r, hr, h2⟩ := hn
          obtain ⟨j, hj, ej⟩ := List.mem_iff_getElem.mp hr
          have a1 := e2 j (by omega)
          rw [List.getElem?_eq_getElem hj, ej] at a1
          have hk' : k < rs.length := by omega
          rw [List.getElem?_eq_getElem hk'] at e1
          have a2 := h1 _ (List.getElem_mem hk')
          simp only [Option.getD_some] at a1 e1
          omega
        subst hm
        exact op_lti.mono fun v g _ e => by rw [e]; exact gt_bool (by simp)
  subst p
  have u₄ : Up h g₄ := fun b o e => ug₄ b o (u₃ b o e)
  have ret : ∀ {g' : Heap} {s' : Shared} {cm' : Str → Option Value} {pp p2 : Pos} {E' : Value → Shared → Prop}, FS s₀ h L m0 env.cells cm' g' s' → (∃ t, cm' "size" = some (.int (i : Nat) t)) → told (sameBy eqv) rs n = i →
      wpAny (model PySem.Challenge.rw_fq5031_01.row.prog w) (A.deeper env) (exec (.Return (some (.Name "size" pp)) p2) env) (fun f s' => ∃ v g', f = .ret v ∧ Ran h g' s₀ s' ∧ ∃ t, v = .int (told (sameBy eqv) rs n : Nat) t) E' s' := fun {g' s' cm' pp p2 E'} fs' hs' ht => by
    obtain ⟨t, hs'⟩ := hs'
    refine wpAny_Return_some (fs'.eval (P := fun _ r _ => ∃ t, r = .int (told (sameBy eqv) rs n : Nat) t) (fun ge ug gN gC => ?_) fun v s' ge gp g' fs' _ _ out p => ⟨v, g', rfl, fs'.ran, p⟩)
    have hsz := gC _ _ c3
    rw [hs'] at hsz
    exact gv_name (lk_cell ek k3 c3 hsz) ⟨t, by rw [ht]⟩
  by_cases hlt : i < n
  case neg =>
    simp only [hlt, decide_false, Bool.false_eq_true, if_false]
    refine wpAny_execs_nil ?_
    dsimp only
    refine wpAny_execs_cons (wpAny_mono (ret fs₄ ⟨t3, hs₃⟩ (told_eq hin hS (.inl (by omega)))) (fun f s' ⟨v, g', e, r, p⟩ => ?_) fun _ _ e => e)
    subst e
    exact qq _ s' g' r p
  case pos =>
    simp only [hlt, decide_true, if_true]
    have hlt' : ∀ r ∈ rs, i < r.length := fun r hr => Nat.lt_of_lt_of_le hlt (hn.1 r hr)
    refine wpAny_execs_cons (wpAny_Assign_Name (fs₄.eval (P := fun _ r g => LstV ItV g r (col rs i)) (fun ge ug gN gC => ?_) fun b s₅ ge gp g₅ fs₅ ug₅ ue out p => ?_) (by rw [he]; rfl))
    · obtain ⟨la, ws, rfl, hla, hws⟩ := rl ge fun b o e => ug b o (ug₄ b o e)
      have hwl := hws.length
      have hsz := gC _ _ c3
      rw [hs₃] at hsz
      refine (comp_gives (x := "row") (n := ws.length) (P := fun i v => ws[i]? = some v) (cl := [(("size" : Str), L + 2)]) (fun _ => true) (fun j v g => ∃ r, rs[j]? = some r ∧ ∃ y, r[i]? = some y ∧ ItV g v y) (fun j v g g' k ⟨r, e, y, e2, z⟩ => ⟨r, e, y, e2, itV_st _ _ _ _ k z⟩) Fd.handled (by rw [he]; rfl) (by decide) rfl (by decide) rfl (by omega) ?iter fun _ => rfl).mono ?fin
      case iter =>
        refine gv_name (lk_local ek k1 (eL ▸ gN) m0r) ⟨by simpa using iter_list (prog := PySem.Challenge.rw_fq5031_01.row.prog) (w := w) hla, fun C g i v m hi hp ug hN hm => Gives.pure rfl, fun C g₃ j v m hi hpi _ u₃ hN hm => ?_⟩
        obtain ⟨r, hr, hrv⟩ := paired_at hws j v hpi
        obtain ⟨ra, us, rfl, hra, hus⟩ := hrv
        have hi' := hlt' r (List.mem_of_getElem? hr)
        have hul := hus.length
        have hiu : i < us.length := by omega
        obtain ⟨y, hy, hyv⟩ := paired_at hus i _ (List.getElem?_eq_getElem hiu)
        have := hsm r (List.mem_of_getElem? hr)
        exact gv_sub (gv_name (lk_local (env := compEnvC _ [(("size" : Str), L + 2)] C env) rfl (by rw [he]; rfl) hN hm) (gv_name (lk_cell (env := compEnvC _ [(("size" : Str), L + 2)] C env) rfl (by rw [he]; rfl) rfl (hsz.keeps u₃)) (op_item_list (hra.at fun o e => u₃ _ o e) (List.getElem?_eq_getElem hiu) (by omega) ⟨r, hr, y, hy, itV_st _ _ _ _ (Up.seq u₃) hyv⟩)))
      case fin =>
        rintro r g' u' ⟨b, ys, rfl, hl', hpy⟩
        obtain ⟨y1, y2⟩ := range_all hpy
        refine ⟨b, ys, rfl, hl', paired_of (by rw [col_len hlt', y1, hwl]) fun j v a hv ha => ?_⟩
        obtain ⟨r, hr, y, hy, z⟩ := y2 j v hv
        obtain ⟨r', hr', hy'⟩ := col_at hlt' j a ha
        rw [hr] at hr'
        cases hr'
        rw [hy] at hy'
        cases hy'
        exact z
    have hP : LstV ItV g₅ b (col rs i) := lstV_st itV_st _ _ _ _ out.seq p
    clear out p ue
    obtain ⟨ia, ivs, rfl, hia, hip⟩ := hP
    refine fs₅.store_cell (c := L + 3) c4 rfl ek k4 fun s₆ fs₆ => ?_
    dsimp only
    generalize hm6 : (fun y : Str => if y = "items" then some (Value.ref ia) else cm₃ y) = cm6 at fs₆
    have hi6 : cm6 "items" = some (.ref ia) := by rw [← hm6]; rfl
    have hg6 : cm6 "groups" = some gv := by rw [← hm6]; show (if ("groups" : Str) = "items" then _ else _) = _; rw [if_neg (by decide), hg₃]
    have hs6 : cm6 "size" = some (.int (i : Nat) t3) := by rw [← hm6]; show (if ("size" : Str) = "items" then _ else _) = _; rw [if_neg (by decide), hs₃]
    have u₅ : Up h g₅ := fun b o e => ug₅ b o (u₄ b o e)
    have cl0 := col_len hlt'
    have hcok : ∀ x ∈ col rs i, okI x := fun x hx => by
      obtain ⟨j, hj, e⟩ := List.mem_iff_getElem.mp hx
      obtain ⟨r, hr, hy⟩ := col_at hlt' j x (by rw [List.getElem?_eq_getElem hj, e])
      exact hok r (List.mem_of_getElem? hr) x (List.mem_of_getElem? hy)
    obtain ⟨a0, cr, hcol⟩ : ∃ a0 cr, col rs i = a0 :: cr := by
      cases e : col rs i with
      | nil => rw [e] at cl0; exact absurd (List.length_eq_zero_iff.mp cl0.symm) hne
      | cons a r => exact ⟨a, r, rfl⟩
    have hivl := hip.length
    obtain ⟨v0, hv0⟩ : ∃ v0, ivs[0]? = some v0 := ⟨_, List.getElem?_eq_getElem (by rw [hivl, hcol]; simp)⟩
    obtain ⟨a0', ha0, hv0a⟩ := paired_at hip 0 v0 hv0
    rw [hcol] at ha0
    cases ha0
    have okI' : ∀ a, okI a → itOk a = true := fun a ha => by
      rcases gr with ⟨_, _, f⟩ | ⟨_, _, _, _, _, _, f⟩
      · exact f a ha
      · exact (f a ha).1
    have o0 : okI a0 := hcok a0 (by rw [hcol]; simp)
    refine wpAny_execs_cons (wpAny_If (fs₆.eval (P := fun _ b _ => b = ((gv == Value.none) && !sameBy eqv (col rs i))) (fun ge ug gN gC => ?_) fun b s₇ ge gp g₇ fs₇ ug₇ ue out p => ?_))
    · have hgc := gC _ _ c2
      have hic := gC _ _ c4
      rw [hg6] at hgc
      rw [hi6] at hic
      have hil := hia.at fun o e => ug _ o e
      have hipg : Paired (ItV ge) ivs (col rs i) := paired_mono (fun v a y => itV_st _ _ _ _ (Up.seq ug) y) hip
      refine gt_and (gt_cmp (gv_name (lk_cell ek k2 c2 hgc) (gv_none (op_is_none.mono fun v g u e => ?_))))
      rw [e]
      refine gt_bool ?_
      rcases gr with ⟨rfl, heq, _⟩ | ⟨d, G, okx, rfl, dg, heq, okd⟩
      · show Gives _ _ _ _ _
        refine (gt_others (l := col rs i) (fun b => !eqv b a0) Fd.handled Fd.u64 (gv_name (lk_cell ek k4 c4 (hic.keeps u)) rfl) (cl := [(("items" : Str), L + 3)]) (by rw [he]; rfl) (by decide) rfl (by decide) rfl (hil.at fun o e => u _ o e) (paired_mono (fun v a y => itV_st _ _ _ _ (Up.seq u) y) hipg) (by omega) (fun x hx => okI' x (hcok x hx)) (fun C => ⟨rfl, by rw [he]; rfl⟩) ?_).mono fun v g' _ e => ?_
        · intro C g₈ k v x m hv hx u₈ hN hm
          have ux : Up ge g₈ := fun b o e => u₈ b o (u b o e)
          obtain ⟨x', hx', hvx⟩ := paired_at hipg k v hv
          rw [hx] at hx'
          cases hx'
          refine gt_cmp (gv_name (lk_local (env := compEnvC _ [(("items" : Str), L + 3)] C env) rfl (by rw [he]; rfl) hN hm) (gv_sub (gv_name (lk_cell (env := compEnvC _ [(("items" : Str), L + 3)] C env) rfl (by rw [he]; rfl) rfl (hic.keeps ux)) (gv_int fun t => op_item_list (k := 0) (hil.at fun o e => ux _ o e) hv0 (by decide) ((op_ne_its (itV_st _ _ _ _ (Up.seq ux) hvx) (itV_st _ _ _ _ (Up.seq fun b o e => ux b o (ug b o e)) hv0a) (okI' x (hcok x (List.mem_of_getElem? hx))) (okI' _ o0) ?_).mono fun v g _ e => ?_)))))
          · exact Fd.u64
          · rw [e]; exact gt_bool (by rw [heq])
        · rw [e, hcol, any_sameBy]; rfl
      · exact rfl
    have hret : ∀ {b : Bool}, (b && !sameBy eqv (col rs i)) = true → told (sameBy eqv) rs n = i := fun {b} e => told_eq hin hS (.inr (by cases b <;> simp_all))
    subst p
    by_cases hb1 : ((gv == Value.none) && !sameBy eqv (col rs i)) = true
    · simp only [hb1, if_true]
      refine wpAny_execs_cons (wpAny_mono (ret fs₇ ⟨t3, hs6⟩ (hret hb1)) (fun f s' ⟨v, g', e, r, p⟩ => ?_) fun _ _ e => e)
      subst e
      exact qq _ s' g' r p
    rw [if_neg hb1]
    refine wpAny_execs_nil ?_
    dsimp only
    have u56 : Up g₅ g₇ := ug₇
    refine wpAny_execs_cons (wpAny_If (fs₇.eval (P := fun _ b _ => b = (!(gv == Value.none) && !sameBy eqv (col rs i))) (fun ge ug gN gC => ?_) fun b s₈ ge gp g₈ fs₈ ug₈ ue₂ out₂ p => ?_))
    · have hgc := gC _ _ c2
      have hic := gC _ _ c4
      rw [hg6] at hgc
      rw [hi6] at hic
      have ug5 : Up g₅ ge := fun b o e => ug b o (ug₇ b o e)
      have hil := hia.at fun o e => ug5 _ o e
      have hipg : Paired (ItV ge) ivs (col rs i) := paired_mono (fun v a y => itV_st _ _ _ _ (Up.seq ug5) y) hip
      refine gt_and (gt_cmp (gv_name (lk_cell ek k2 c2 hgc) (gv_none (op_is_not_none.mono fun v g u e => ?_))))
      rw [e]
      refine gt_bool ?_
      rcases gr with ⟨rfl, heq, _⟩ | ⟨d, G, okx, rfl, dg, heq, okd⟩
      · exact rfl
      · show Gives _ _ _ _ _
        refine (gt_others (l := col rs i) (fun b => !eqv b a0) Fd.handled Fd.u64 (gv_name (lk_cell ek k4 c4 (hic.keeps u)) rfl) (cl := [(("items" : Str), L + 3), (("groups" : Str), L + 1)]) (by rw [he]; rfl) (by decide) rfl (by decide) rfl (hil.at fun o e => u _ o e) (paired_mono (fun v a y => itV_st _ _ _ _ (Up.seq u) y) hipg) (by omega) (fun x hx => okI' x (hcok x hx)) (fun C => ⟨rfl, by rw [he]; rfl⟩) ?_).mono fun v g' _ e => ?_
        · intro C gx k v x m hv hx u₈ hN hm
          have ux : Up ge gx := fun b o e => u₈ b o (u b o e)
          have uhx : Up h gx := fun b o e => ux b o (ug5 b o (u₅ b o e))
          obtain ⟨x', hx', hvx⟩ := paired_at hipg k v hv
          rw [hx] at hx'
          cases hx'
          obtain ⟨_, y, rfl, oky⟩ := okd x (hcok x (List.mem_of_getElem? hx))
          obtain ⟨_, y0, rfl, oky0⟩ := okd a0 o0
          obtain ⟨tv, rfl⟩ := hvx
          obtain ⟨t0', rfl⟩ := hv0a
          refine gt_cmp (gv_sub (gv_name (lk_cell (env := compEnvC _ [(("items" : Str), L + 3), (("groups" : Str), L + 1)] C env) rfl (by rw [he]; rfl) rfl (hgc.keeps ux)) (gv_name (lk_local (env := compEnvC _ [(("items" : Str), L + 3), (("groups" : Str), L + 1)] C env) rfl (by rw [he]; rfl) hN hm) ((dg.get _ _ y tv _ _ (Fd.less (by decide)) uhx oky rfl).mono fun r1 gy uy ⟨t1, e1⟩ => ?_))))
          subst e1
          refine gv_sub (gv_name (lk_cell (env := compEnvC _ [(("items" : Str), L + 3), (("groups" : Str), L + 1)] C env) rfl (by rw [he]; rfl) rfl (hgc.keeps fun b o e => uy b o (ux b o e))) (gv_sub (gv_name (lk_cell (env := compEnvC _ [(("items" : Str), L + 3), (("groups" : Str), L + 1)] C env) rfl (by rw [he]; rfl) rfl (hic.keeps fun b o e => uy b o (ux b o e))) (gv_int fun t => op_item_list (k := 0) (hil.at fun o e => uy _ o (ux _ o e)) hv0 (by decide) ((dg.get _ _ y0 t0' _ _ (Fd.less (by decide)) (fun b o e => uy b o (uhx b o e)) oky0 rfl).mono fun r2 gz uz ⟨t2, e2⟩ => ?_)))))
          subst e2
          exact op_nei.mono fun v g _ e => by rw [e]; exact gt_bool (by rw [heq]; rfl)
        · rw [e, hcol, any_sameBy]; rfl
    subst p
    by_cases hb2 : (!(gv == Value.none) && !sameBy eqv (col rs i)) = true
    · simp only [hb2, if_true]
      refine wpAny_execs_cons (wpAny_mono (ret fs₈ ⟨t3, hs6⟩ (hret hb2)) (fun f s' ⟨v, g', e, r, p⟩ => ?_) fun _ _ e => e)
      subst e
      exact qq _ s' g' r p
    rw [if_neg hb2]
    refine wpAny_execs_nil ?_
    dsimp only
    have hSi : sameBy eqv (col rs i) = true := by
      cases e1 : (gv == Value.none) <;> cases e2 : sameBy eqv (col rs i) <;> simp [e1, e2] at hb1 hb2 ⊢
    refine wpAny_execs_cons (wpAny_AugAssign_Name (fs₈.eval (P := fun _ v _ => v = .int (i : Nat) t3) (fun ge ug gN gC => ?_) fun v s₉ ge gp g₉ fs₉ ug₉ ue out p => ?_))
    · have hsz := gC _ _ c3
      rw [hs6] at hsz
      exact gl_name (lk_cell ek k3 c3 hsz) rfl
    subst p
    refine fs₉.eval (P := fun _ v _ => ∃ t, v = .int 1 t) (fun ge ug gN gC => gv_int fun t => ⟨t, rfl⟩) fun v s₁₀ ge gp g₁₀ fs₁₀ ug₁₀ ue out p => ?_
    obtain ⟨t1, rfl⟩ := p
    refine fs₁₀.eval (P := fun _ v _ => ∃ t, v = .int ((i : Int) + 1) t) (fun ge ug gN gC => op_iadd) fun v s₁₁ ge gp g₁₁ fs₁₁ ug₁₁ ue out p => ?_
    obtain ⟨t2, rfl⟩ := p
    refine fs₁₁.store_cell (c := L + 2) c3 rfl ek k3 fun s₁₂ fs₁₂ => ?_
    dsimp only
    refine wpAny_execs_nil ?_
    dsimp only
    refine ⟨n - (i + 1), by omega, i + 1, g₁₁, _, rfl, by omega, fun b o e => ug₁₁ b o (ug₁₀ b o (ug₉ b o (ug₈ b o (ug₇ b o (u₅ b o e))))), fs₁₂, ?_, ⟨t2, ?_⟩, fun j hj => ?_⟩
    · show (if ("groups" : Str) = "size" then _ else _) = _; rw [if_neg (by decide), hg6]
    · show (if ("size" : Str) = "size" then _ else _) = _; rw [if_pos rfl]; rfl
    · by_cases e : j = i
      · rw [e]; exact hSi
      · exact hS j (by omega)
end

/-! part Fq36 -/
section
variable {w : World} {A : Around} {h : Heap} {mg mb : Str → Option Value}
theorem mapOf_up {K : Type} [DecidableEq K] {prog : Program} {knd : KeyKind prog w K} {h h' : Heap} {d : Addr} {f : K → Option Value} (u : Up h h') (x : h.MapOf knd d f) : h'.MapOf knd d f := by
  obtain ⟨o, es, ep, e, r⟩ := x
  exact ⟨o, es, ep, u _ _ e, r⟩
theorem dg_of {d : Addr} {f : Str → Option Value} {G : Str → Int} {okx : Str → Prop} (x : h.MapOf (strKind PySem.Challenge.rw_fq5031_01.row.prog w) d f) (ok : ∀ y, okx y → ∃ t, f y = some (.int (G y) t)) : DG w h d G okx :=
  ⟨fun A' h' y t value slice F u oky hs Q E s k q => by
    obtain ⟨tv, hf⟩ := ok y oky
    have hm := mapOf_up (fun b o e => k b o (u b o e)) x
    exact tail_any hm.typeIs slot_dict_getitem.lookup (wpAny_getItem_of (strKind_is _ _ y t) hm hf (q _ _ h' (ran_tok k) ⟨tv, rfl⟩)) hs⟩
end

/-! part Fq37 -/
theorem sameBy_allSame (l : List It) : sameBy (fun a b => decide (a = b)) l = allSame l := by
  cases l with
  | nil => rfl
  | cons a r =>
    rw [Bool.eq_iff_iff]
    unfold allSame
    show ((a :: r).all fun b => decide (b = a)) = true ↔ _
    rw [List.all_eq_true, decide_eq_true_iff]
    constructor
    · intro h x hx y hy
      have h1 := h x hx
      have h2 := h y hy
      rw [decide_eq_true_iff] at h1 h2
      rw [h1, h2]
    · intro h x hx
      rw [decide_eq_true_iff]
      exact h x hx a (by simp)
section
variable {w : World} {h : Heap} {mg mb : Str → Option Value}
def okIdent (l : List It) : Prop := ((∃ xs : List Str, l = xs.map .s) ∨ ∃ ps : List (Str × Str), l = ps.map fun p => .p p.1 p.2) ∧ l.length ≤ 4 ∧ l ≠ []
theorem simT_ident (W : Wd (hd.heap_39 w.params) mg mb h) : SimT w h (.ref 100) allSame okIdent :=
  ⟨kept_fn (W.K 100 _ rfl) rfl, rfl, fun A h' vs l F u p ok => (c_ident (W.up u) (F.less (by decide)) p ok.1 ok.2.1 ok.2.2).call⟩
end

/-! part Fq38 -/
section
variable {w : World} {A : Around} {h : Heap} {mg mb : Str → Option Value}
/-- _beginning of nothing: '' -/
theorem c_beginning_nil {x : Nat} (W : Wd (hd.heap_39 w.params) mg mb h) (F : Fine A 12) :
    GivesC (model PySem.Challenge.rw_fq5031_01.row.prog w) A h (.call (.ref 212) ⟨.ref x :: [], []⟩) fun v g => RowK true g v [] := by
  refine call_fn F.lt (W.K 212 _ rfl) rfl rfl ⟨211, _, _, _, rfl, W.K 211 _ rfl, rfl, rfl⟩ W.nolimit rfl rfl rfl rfl (bind_self_star rfl rfl (by decide))
    (fun b g ⟨a, e, _⟩ => bound_kind (by rw [e]; rfl)) ?run
  rintro binds g s₀ s L env ⟨a, rfl, _, ht⟩ he fs Q E qq
  have ek : env.scope.kind = .function := by rw [he]; rfl
  have eL : env.locals = L := by rw [he]; rfl
  obtain ⟨m0, hm0⟩ : ∃ m0, m0 = bindL env.kindOf [(("self" : Str), .ref x), (("sequences" : Str), .ref a)] (fun _ => none) := ⟨_, rfl⟩
  rw [← hm0] at fs
  have m0s : m0 "sequences" = some (.ref a) := by rw [hm0, he]; rfl
  have k2 : env.kindOf "sequences" = some .local := by rw [he]; rfl
  refine wpAny_execs_cons (wpAny_If (fs.eval (P := fun _ b _ => b = true) (fun ge ug gN gC => ?_) fun b' s₁ ge gp g₁ fs₁ ug₁ ue out p => ?_))
  · exact gt_not (gt_value (gv_name (lk_local ek k2 (eL ▸ gN) m0s) (gt_tuple (ht.at fun o e => ug _ o e) (by decide) (by simp))))
  subst p
  simp only [if_true]
  refine wpAny_execs_cons (wpAny_Return_some (fs₁.eval (P := fun _ v g => RowK true g v []) (fun ge ug gN gC => gv_str fun t => ⟨_, t, rfl, rfl⟩) fun v s' ge gp g' fs' _ _ out p => qq _ s' g' fs'.ran p))
theorem begs_nil {x : Nat} (W : Wd (hd.heap_39 w.params) mg mb h) : Begs w h x [] true [] := fun A' h' F u => c_beginning_nil (W.up u) F
end

/-! part Fq39 -/
section
variable {s₀ s : Shared} {h g : Heap} {L : Nat} {m cm : Str → Option Value} {cs : List (Str × Addr)}
/-- the beginning may be taken smaller: what is left out may then be changed -/
theorem FS.shrink {h₀ : Heap} (x : FS s₀ h L m cs cm g s) (u : Up h₀ s₀.heap) : FS { s₀ with heap := h₀ } h L m cs cm g s := by
  have n0 : ∀ b, s₀.heap.get? b = none → h₀.get? b = none := fun b e => by
    cases z : h₀.get? b with
    | none => rfl
    | some o => rw [u b o z] at e; cases e
  refine ⟨⟨?_, x.ran.up, x.ran.low, fun b o e => (x.ran.new b o e).imp id fun z => n0 b z⟩, x.ns, x.offL, n0 _ x.freshL, x.cell, fun n c hc => ⟨(x.offC n c hc).1, n0 _ (x.offC n c hc).2.1, (x.offC n c hc).2.2⟩, x.apart⟩
  obtain ⟨h', tk, rfl, k⟩ := x.ran.keeps
  exact ⟨h', tk, rfl, fun b o e => k b o (u b o e)⟩
end
/-- the part below L of what p asks -/
theorem carve_below (H : Heap) (L : Nat) (p : Addr → Prop) : ∃ g : Heap, g.objs.size ≤ L ∧ (∀ b o, g.get? b = some o → H.get? b = some o ∧ p b) ∧ ∀ (b : Nat) o, b < L → H.get? b = some o → p b → g.get? b = some o := by
  obtain ⟨g0, e1, e2⟩ := carve H p
  have key : ∀ (b : Nat) o, (⟨(g0.objs.toList.take L).toArray, g0.life⟩ : Heap).get? b = some o ↔ (b < L ∧ g0.get? b = some o) := fun b o => by
    rw [Heap.get?_some_iff, Heap.get?_some_iff]
    show (g0.objs.toList.take L).toArray[b]? = some o ∧ _ ↔ b < L ∧ g0.objs[b]? = some o ∧ _
    rw [List.getElem?_toArray, List.getElem?_take, Array.getElem?_toList]
    by_cases hb : b < L
    · simp [hb]
    · simp [hb]
  refine ⟨⟨(g0.objs.toList.take L).toArray, g0.life⟩, ?_, fun b o e => e1 b o ((key b o).mp e).2, fun b o hb e q => (key b o).mpr ⟨hb, e2 b o e q⟩⟩
  show (g0.objs.toList.take L).toArray.size ≤ L
  rw [List.size_toArray, List.length_take]; omega

/-! part Fq40 -/
section
variable {prog : Program} {w : World} {A : Around} {E : Value → Shared → Prop} {s : Shared} {K : Frag}
/-- self.name = v, of an object with a plain dict: only that dict turns -/
theorem put_own {Q : Unit → Shared → Prop} {x C dx : Nat} {ox : Obj} {es es' : List DictEntry} {n n' : Nat} {name : Str} {v : Value} (X : K.In s.heap) (I : W.InstAt s.heap x ox C (some (dictOf es n))) (hd : ox.dict = some dx)
    (hs : findIn K (.ref C) "__setattr__" = some (some (.builtin "object.__setattr__"))) (hp : plainOver K C = true) (ht : takerIn K C name = some none) (hh : hasDictIn K C = true) (hl : (getL name es).isSome = true)
    (e1 : putL name (PyData.keyHash w.params name) (.str name (s.toks + 1)) v es = es') (e2 : putN name es n = n') (hz : es'.length ≤ 1000)
    (h : ∀ h', (∀ (b : Nat) o, b ≠ dx → s.heap.get? b = some o → h'.get? b = some o) → h'.get? dx = some (dictOf es' n') → Q () { s with heap := h', toks := s.toks + 2 }) :
    wpAny (model prog w) A (setAttr (.ref x) name v) Q E s := by
  obtain ⟨cd, hc, hdd⟩ := any_some hh
  refine set_plain X I hs (osa_open (s := { s with toks := s.toks + 1 }) X I hp ht fun b => ?_)
  obtain ⟨hx, hcl, hn, hD⟩ := I
  rw [hd] at hD
  have D : s.heap.get? dx = some (dictOf es n) := hD
  obtain ⟨oc, odi, oda, osl⟩ := ox
  dsimp only at hcl hd
  subst hcl hd
  have put : Obj.putName name (PyData.keyHash w.params name) (.str name (s.toks + 1)) v (dictOf es n) = dictOf es' n' := by rw [putName_dict, e1, e2]
  have D' : (s.heap.update dx (Obj.putName name (PyData.keyHash w.params name) (.str name (s.toks + 1)) v)).get? dx = some (dictOf es' n') := by
    rw [← put]; exact Heap.get?_update_self _ D (by rw [put]; rfl)
  dsimp only
  refine wpAny_bind (wpAny_pure (wpAny_bind (wpAny_bind (wpAny_loadPart hx (wpAny_bind (looks_clsIn X hc _ _ _ _ (fun _ _ e => e) ?_))))))
  rw [hdd]
  refine wpAny_pure (a := some dx) (wpAny_bind (wpAny_pure (wpAny_bind ?_)))
  unfold nsSet
  refine wpAny_bind (wpAny_bind (wpAny_askSetting (wpAny_pure (wpAny_bind (wpAny_mkText (wpAny_bind (wpAny_loadPart D ?_)))))))
  dsimp only
  have c : (!es.toArray.any (·.key.isStr name) && es.toArray.any (·.refKey)) = false := by
    unfold getL at hl
    rw [List.any_toArray, List.any_toArray]
    split at hl
    · rename_i en he
      rw [List.any_eq_true.mpr ⟨en, List.mem_of_find?_eq_some he, List.find?_some he⟩]; rfl
    · split at hl
      · cases hl
      · rename_i z; rw [Bool.not_eq_true] at z; rw [z, Bool.and_false]
  rw [aRefKeyMayBeTheName_at, c]
  refine wpAny_updatePart D ?_
  refine wpAny_bind (wpAny_lookBehind D' (pastItsLine_dict (by rw [List.size_toArray, sizeLine_eq]; omega)) ?_)
  exact wpAny_pure (h _ (fun b o hb e => (Heap.get?_update_ne _ _ _ _ hb).trans e) D')
end

/-! part Fq41 -/
section
variable {prog : Program} {w : World} {A : Around} {h : Heap} {s : Shared}
/-- a call from one very state, whatever its end -/
theorem call_at {a : Nat} {o : Obj} {fd : FuncData} {body : List Stmt} {args : Args} {binds : List (Str × Value)} {R : Result → Shared → Prop}
    (hroom : A.depth < recursionLimit) (k : Up h s.heap) (ho : h.get? a = some o) (hdat : o.data = .func fd) (hbody : fd.body = .stmts body) (hcode : h.CodeRec fd.code fd.qualname) (hlim : h.NoLimit)
    (hco : fd.scope.isCoroutine = false) (hgen : fd.scope.isGenerator = false) (hk : fd.scope.kind = .function) (hclos : fd.closure = [])
    (hbind : Gives (model prog w) A.in1 h (bindArgs fd args) fun b _ => b = binds)
    (hkind : ∀ x ∈ binds, fd.scope.names.lookup x.1 = some .local ∨ (fd.scope.names.lookup x.1 = some .cell ∧ ∀ n, ((cellsFrom n fd.scope.names []).lookup x.1).isSome = true))
    (run : ∀ (s₂ : Shared) (L : Nat) (env : Env), env = callEnvC fd L a → FS s h L (bindL env.kindOf binds fun _ => none) env.cells (bindC env.kindOf binds fun _ => none) h s₂ →
      wpAny (model prog w) (A.deeper env) (execs body env) (fun f s' => R (.ok (.ret (match f with | .ret v => v | _ => .none))) s')
        (fun e s' => wpAny (model prog w) (A.deeper env) (leaving env e) (fun _ s'' => R (.error e) s'') (fun e' s'' => R (.error e') s'') s') s₂) :
    codeAny (model prog w) A (.call (.ref a) args) R s := by
  refine codeAny_call_function hroom (k a o ho) hdat hco hgen hbody (hcode.keeps k) (hbind _ _ s k fun b s₁ g r hB => ?_)
  subst hB
  rw [hclos]
  refine wpAny_newFunctionEnv_cells hk (fun x hx => (hkind x hx).imp id fun y => ⟨y.1, y.2 _⟩) fun env he s₂ hc => ?_
  have big : ∀ (b : Nat), s₁.heap.objs.size ≤ b → h.get? b = none ∧ s.heap.get? b = none := fun b hb => by
    constructor
    · cases e : h.get? b with
      | none => rfl
      | some o => exact absurd (ltN (r.low b o (r.up b o e))) (by omega)
    · cases e : s.heap.get? b with
      | none => rfl
      | some o => exact absurd (ltN (keeps_up r.keeps b o e)) (by omega)
  have hf : s₁.heap.objs.size ≤ env.locals := hc.toInCall.fresh
  obtain ⟨h₂, tk₂, rfl, k₂⟩ := hc.done
  have low : Up h h₂ := fun b o e => k₂ b o (r.low b o (r.up b o e))
  have hFS : FS s h env.locals (bindL env.kindOf b fun _ => none) env.cells (bindC env.kindOf b fun _ => none) h { s₁ with heap := h₂, toks := tk₂ } :=
    ⟨⟨keeps_trans r.keeps ⟨h₂, tk₂, rfl, k₂⟩, fun _ _ e => e, low, fun _ _ e => .inl e⟩, hc.toInCall.ns, (big _ hf).1, (big _ hf).2, hc.cell, fun n c hcs => by
      have ha : env.locals < c := hc.above n c (mem_of_lookup hcs)
      have hc' : s₁.heap.objs.size ≤ c := Nat.le_trans hf (Nat.le_of_lt ha)
      exact ⟨(big c hc').1, (big c hc').2, Nat.ne_of_gt ha⟩, fun n n' c h1 h2 => by
      by_cases e : n = n'
      · exact e
      · have m1 := mem_of_lookup h1
        have m2 := mem_of_lookup h2
        exact absurd rfl (pairwise_ne (x := (n, c)) (y := (n', c)) hc.apart m1 m2 (fun z => e (Prod.mk.inj z).1))⟩
  refine ⟨(hlim.keeps low), ?_⟩
  exact codeAny_func (run _ env.locals env (by rw [he]; rfl) hFS)
theorem gives_seqItems {T : Nat} {o : Obj} {items : Array Value} {n : Nat} {M : Model} {α : Type} {k : Option (Array Value) → Sem α} {P : α → Heap → Prop} (ho : h.get? T = some o) (hd : o.data = .seq items n) (x : Gives M A h (k (some items)) P) :
    Gives M A h (seqItems? (.ref T) >>= k) P := fun Q E s kk q => wpAny_bind (wpAny_seqItems (kk _ _ ho) hd (x Q E s kk q))
end
section
variable {w : World} {A : Around} {h : Heap} {mg mb : Str → Option Value}
theorem t191 : ∃ t : Tok, ∀ {h : Heap}, Wd (hd.heap_39 w.params) mg mb h → ∃ o, h.get? 191 = some o ∧ o.data = .seq #[.int 1 t, .none] 0 := ⟨_, fun W => ⟨_, W.K 191 _ rfl, rfl⟩⟩
theorem bind_init0 : ∃ t : Tok, ∀ {M : Model} {A : Around} {h : Heap} {x : Nat} {fd : FuncData}, ((hd.heap_39 w.params).lookup 198).map (·.data) = some (.func fd) → Wd (hd.heap_39 w.params) mg mb h →
    Gives M A h (bindArgs fd ⟨[.ref x], []⟩) fun b _ => b = [(("self" : Str), .ref x), (("qval" : Str), .int 1 t), (("sim_test" : Str), .none)] := by
  obtain ⟨t, ht⟩ := t191 (w := w) (mg := mg) (mb := mb)
  refine ⟨t, fun hfd W => ?_⟩
  cases hfd
  obtain ⟨o, ho, hd⟩ := ht W
  exact gives_seqItems ho hd (Gives.pure rfl)
theorem bind_init1 {M : Model} {x : Nat} {q : Value} {fd : FuncData} (hfd : ((hd.heap_39 w.params).lookup 198).map (·.data) = some (.func fd)) (W : Wd (hd.heap_39 w.params) mg mb h) :
    Gives M A h (bindArgs fd ⟨[.ref x], [(("qval" : Str), q)]⟩) fun b _ => b = [(("self" : Str), .ref x), (("qval" : Str), q), (("sim_test" : Str), .none)] := by
  cases hfd
  obtain ⟨t, ht⟩ := t191 (w := w) (mg := mg) (mb := mb)
  obtain ⟨o, ho, hd⟩ := ht W
  exact gives_seqItems ho hd (Gives.pure rfl)
theorem bind_init2 {M : Model} {x : Nat} {q f : Value} {fd : FuncData} (hfd : ((hd.heap_39 w.params).lookup 198).map (·.data) = some (.func fd)) (W : Wd (hd.heap_39 w.params) mg mb h) :
    Gives M A h (bindArgs fd ⟨[.ref x], [(("qval" : Str), q), (("sim_test" : Str), f)]⟩) fun b _ => b = [(("self" : Str), .ref x), (("qval" : Str), q), (("sim_test" : Str), f)] := by
  cases hfd
  obtain ⟨t, ht⟩ := t191 (w := w) (mg := mg) (mb := mb)
  obtain ⟨o, ho, hd⟩ := ht W
  exact gives_seqItems ho hd (Gives.pure rfl)
end

/-! part Fq42 -/
section
variable {M : Model} {A : Around} {E : Value → Shared → Prop} {s : Shared}
theorem tl_fn_bool : typeLookup (.type "function") "__bool__" = pure none := by rw [typeLookup_type, builtinLookup_eq_fast]; kernel_rfl
theorem tl_fn_len : typeLookup (.type "function") "__len__" = pure none := by rw [typeLookup_type, builtinLookup_eq_fast]; kernel_rfl
theorem truthy_fn {a : Nat} {Q : Bool → Shared → Prop} (hT : s.TypeIs (.ref a) "function") (h : Q true s) : wpAny M A (truthy (.ref a)) Q E s := by
  unfold truthy
  refine wpAny_bind (m := callSpecial? (.ref a) (Str.ofString "__bool__")) (wpAny_bind (wpAny_specialOf hT tl_fn_bool (wpAny_pure ?_)))
  refine wpAny_bind (wpAny_specialOf hT tl_fn_len ?_)
  exact wpAny_pure h
end
theorem Fine.under {A : Around} {n : Nat} (F : Fine A (n + 1)) (C : Addr) (vals : List Value) (kw : List (Str × Value)) : Fine (A.under (.builtin "type.__call__" ⟨.ref C :: vals, kw⟩)) n :=
  ⟨F.handled, by have := F.depth; rw [depth_under_kw]; omega, by have := F.units; have e : (A.under (.builtin "type.__call__" ⟨.ref C :: vals, kw⟩)).units = A.units + 1 := rfl; rw [e]; omega⟩
/-- what the making of an object asks of its class -/
structure ClM (K : Frag) (C : Addr) : Prop where
  mkC : makesIn K C = true
  init : findIn K (.ref C) "__init__" = some (some (.ref 198))
  sa : findIn K (.ref C) "__setattr__" = some (some (.builtin "object.__setattr__"))
  po : plainOver K C = true
  tq : takerIn K C "qval" = some none
  ts : takerIn K C "sim_test" = some none
theorem clm_prefix {w : World} : ClM (hd.heap_39 w.params) 222 := ⟨rfl, rfl, rfl, rfl, rfl, rfl⟩
theorem clm_postfix {w : World} : ClM (hd.heap_39 w.params) 239 := ⟨rfl, rfl, rfl, rfl, rfl, rfl⟩
section
variable {w : World} {A : Around} {h : Heap} {mg mb : Str → Option Value}
/-- what sim_test comes to -/
def SimOr (h : Heap) (f f' : Value) : Prop := (f = .none ∧ f' = .ref 100) ∨ (f' = f ∧ ∃ (fa : Nat) (o : Obj), f = .ref fa ∧ h.get? fa = some o ∧ o.cls = .type "function")
/-- an object that was made: it stands in any part that holds what is new -/
def MadeI (h g : Heap) (x C : Nat) (q f : Value) : Prop := ∀ g', (∀ b o, h.get? b = none → g.get? b = some o → g'.get? b = some o) → Inst g' x C q f
theorem MadeI.inst {h g : Heap} {x C : Nat} {q f : Value} (i : MadeI h g x C q f) : Inst g x C q f := i g fun _ _ _ e => e
theorem MadeI.over {h h' g : Heap} {x C : Nat} {q f : Value} (i : MadeI h' g x C q f) (u : Up h h') : MadeI h g x C q f := fun g' k => i g' fun b o e e' => k b o (by
  cases z : h.get? b with
  | none => rfl
  | some o => rw [u b o z] at e; cases e) e'
theorem MadeI.later {h g g2 : Heap} {x C : Nat} {q f : Value} (i : MadeI h g x C q f) (u : Up g g2) : MadeI h g2 x C q f := fun g' k => i g' fun b o e e' => k b o e (u b o e')
theorem c_make {C cal : Nat} {kw : List (Str × Value)} {q f f' : Value} (W : Wd (hd.heap_39 w.params) mg mb h) (F : Fine A 6) (cl : Cl (hd.heap_39 w.params) C cal) (cm : ClM (hd.heap_39 w.params) C)
    (hb : ∀ (M : Model) (A : Around) (x : Nat) (g : Heap) (fd : FuncData), Wd (hd.heap_39 w.params) mg mb g → ((hd.heap_39 w.params).lookup 198).map (·.data) = some (.func fd) →
      Gives M A g (bindArgs fd ⟨[.ref x], kw⟩) fun b _ => b = [(("self" : Str), .ref x), (("qval" : Str), q), (("sim_test" : Str), f)]) (hf : SimOr h f f') :
    GivesC (model PySem.Challenge.rw_fq5031_01.row.prog w) A h (.call (.ref C) ⟨[], kw⟩) fun v g => ∃ x : Nat, v = .ref x ∧ MadeI h g x C q f' := by
  rintro Q E ⟨hh, gg, dd, t, os⟩ k qq
  have X : (hd.heap_39 w.params).In hh := W.K.keeps k
  refine make_core (makes_of X cm.mkC) (looks_findIn X cm.init) (fun self => bind_fn X self rfl) (.inl rfl) ?_
  generalize hdx : hh.objs.size = dx
  have k1 : Up hh ((hh.push emptyDict).push (instObj C dx)) := fun b o e => Heap.get?_push_of_some _ (Heap.get?_push_of_some _ e)
  have hx : ((hh.push emptyDict).push (instObj C dx)).get? (dx + 1) = some (instObj C dx) := by rw [← hdx]; heap_get
  have hdd : ((hh.push emptyDict).push (instObj C dx)).get? dx = some emptyDict := by rw [← hdx]; exact Heap.get?_push_of_some _ (Heap.get?_push_size _ rfl)
  have ndx : hh.get? dx = none := by rw [← hdx]; exact none_size _
  have nx : hh.get? (dx + 1) = none := by
    cases e : hh.get? (dx + 1) with
    | none => rfl
    | some o => exact absurd (ltN e) (by omega)
  have Fu := F.under C [] kw
  refine call_at (h := h) Fu.lt (fun b o e => k1 b o (k b o e)) (W.K 198 _ rfl) rfl rfl ⟨197, _, _, _, rfl, W.K 197 _ rfl, rfl, rfl⟩ W.nolimit rfl rfl rfl rfl (hb _ _ _ _ _ W rfl) (bound_kind rfl) fun s₂ L env he fs => ?_
  have ek : env.scope.kind = .function := by rw [he]; rfl
  have eL : env.locals = L := by rw [he]; rfl
  have ec : env.cells = [] := by rw [he]; rfl
  obtain ⟨m0, hm0⟩ : ∃ m0, m0 = bindL env.kindOf [(("self" : Str), .ref (dx + 1)), (("qval" : Str), q), (("sim_test" : Str), f)] (fun _ => none) := ⟨_, rfl⟩
  rw [← hm0, ec] at fs
  have ms : m0 "self" = some (.ref (dx + 1)) := by rw [hm0, he]; rfl
  have mq : m0 "qval" = some q := by rw [hm0, he]; rfl
  have mf : m0 "sim_test" = some f := by rw [hm0, he]; rfl
  have ks : env.kindOf "self" = some .local := by rw [he]; rfl
  have kq : env.kindOf "qval" = some .local := by rw [he]; rfl
  have kf : env.kindOf "sim_test" = some .local := by rw [he]; rfl
  have Ld : L ≠ dx := fun e => by have := fs.freshL; rw [e] at this; rw [show _ = _ from hdd] at this; cases this
  have Lx : L ≠ dx + 1 := fun e => by have := fs.freshL; rw [e] at this; rw [show _ = _ from hx] at this; cases this
  have hx2 : s₂.heap.get? (dx + 1) = some (instObj C dx) := keeps_up fs.ran.keeps _ _ hx
  have hd2 : s₂.heap.get? dx = some emptyDict := keeps_up fs.ran.keeps _ _ hdd
  have fs0 : FS ⟨hh, gg, dd, t, os⟩ h L m0 [] _ h s₂ := fs.shrink (h₀ := hh) k1
  clear fs
  have hdn : h.get? dx = none := by
    cases e : h.get? dx with
    | none => rfl
    | some o => rw [k _ _ e] at ndx; cases ndx
  have off : ∀ (b : Nat), ((∃ o', h.get? b = some o') ∨ b = L ∨ (∃ n c, ([] : List (Str × Addr)).lookup n = some c ∧ b = c) ∨ ∃ o', hh.get? b = some o') → b ≠ dx := fun b hb e => by
    subst e
    rcases hb with ⟨o, e⟩ | e | ⟨_, _, e, _⟩ | ⟨o, e⟩
    · rw [hdn] at e; cases e
    · exact Ld e.symm
    · simp at e
    · rw [ndx] at e; cases e
  -- self.qval = qval
  refine wpAny_execs_cons (plainObj_wpAny_Assign_Attribute (wpAny_Name (wpAny_loadName_local ek kq (eL ▸ fs0.ns) mq (wpAny_Name (wpAny_loadName_local ek ks (eL ▸ fs0.ns) ms
    (put_own (K := hd.heap_39 w.params) (es := []) (n := 0) (W.up fs0.ran.low).K ⟨hx2, rfl, rfl, hd2⟩ rfl cm.sa cm.po cm.tq cl.hd rfl rfl rfl (Nat.le_of_ble_eq_true rfl) fun h₃ k3 hd3 => ?_)) (by decide))) (by decide)))
  dsimp only
  have fs3 := fs0.mut (h' := h₃) (tk := s₂.toks + 2) fun b o hb e => k3 b o (off b hb) e
  have hx3 : h₃.get? (dx + 1) = some (instObj C dx) := k3 _ _ (by omega) hx2
  -- self.sim_test = sim_test or self._ident
  refine wpAny_execs_cons (plainObj_wpAny_Assign_Attribute ?_)
  -- the store, whatever the value
  have fin : ∀ (tk : Nat) (sp : Pos), wpAny (model PySem.Challenge.rw_fq5031_01.row.prog w) ((A.under (.builtin "type.__call__" ⟨.ref C :: [], kw⟩)).deeper env) (eval (.Name "self" sp) env)
      (fun ov s₂ => wpAny (model PySem.Challenge.rw_fq5031_01.row.prog w) ((A.under (.builtin "type.__call__" ⟨.ref C :: [], kw⟩)).deeper env) (setAttr ov "sim_test" f') (fun _ s' => Q (.ref (dx + 1)) s') (fun _ _ => False) s₂) (fun _ _ => False) { s₂ with heap := h₃, toks := tk } := fun tk sp => by
    refine wpAny_Name (wpAny_loadName_local ek ks (eL ▸ fs3.ns) ms (put_own (s := { s₂ with heap := h₃, toks := tk }) (K := hd.heap_39 w.params) (es := _) (W.up fs3.ran.low).K ⟨hx3, rfl, rfl, hd3⟩ rfl cm.sa cm.po cm.ts cl.hd rfl rfl rfl (Nat.le_of_ble_eq_true rfl) fun h₄ k4 hd4 => ?_)) (by decide)
    have fs4 := fs3.mut (h' := h₄) (tk := tk + 2) fun b o hb e => k4 b o (off b hb) e
    have hx4 : h₄.get? (dx + 1) = some (instObj C dx) := k4 _ _ (by omega) hx3
    obtain ⟨g5, fs5, u5, hx5⟩ := fs4.add hx4 nx (Ne.symm Lx) (fun n c hc => by simp at hc)
    obtain ⟨g6, fs6, u6, hd6⟩ := fs5.add hd4 ndx (Ne.symm Ld) (fun n c hc => by simp at hc)
    have hxn : h.get? (dx + 1) = none := by
      cases e : h.get? (dx + 1) with
      | none => rfl
      | some o => rw [k _ _ e] at nx; cases nx
    refine qq _ _ g6 fs6.ran ⟨dx + 1, rfl, fun g' kk => ⟨instObj C dx, _, _, _, _, _, ⟨kk _ _ hxn (u6 _ _ hx5), rfl, rfl, kk _ _ hdn hd6⟩, rfl⟩⟩
  refine wpAny_Or2 (wpAny_Name (wpAny_loadName_local ek kf (eL ▸ fs3.ns) mf ?_) (by decide))
  rcases hf with ⟨rfl, rfl⟩ | ⟨rfl, fa, o, rfl, ho, hc⟩
  · refine truthy_none ?_
    simp only [Bool.false_eq_true, if_false]
    obtain ⟨p, rest, c1, c2, c3, c4⟩ := cl.id
    have X3 : (hd.heap_39 w.params).In h₃ := (W.up fs3.ran.low).K
    refine Attribute_name (wpAny_Name (wpAny_loadName_local ek ks (eL ▸ fs3.ns) ms ?_) (by decide))
    refine get_bind (s := { s₂ with heap := h₃, toks := s₂.toks + 2 }) X3 ⟨hx3, rfl, rfl, hd3⟩ (plainGet_of (cl.pg "_ident")).1 (findObj_fn cl.hd c1 c2 c3 (by decide) (by rw [lookIn_dict]; rfl)) (plainGet_of (cl.pg "_ident")).2
      (wpAny_call (sm_get (s := { s₂ with heap := h₃, toks := s₂.toks + 2 + 1 }) X3 c4 (handed_on rfl ?_)))
    refine wpAny_mono (fin _ _) (fun ov s' hq => wpAny_mono hq (fun _ s'' hq => wpAny_execs_nil ⟨rfl, hq⟩) fun _ _ z => z.elim) fun _ _ z => z.elim
  · refine truthy_fn ⟨o, fs3.ran.low _ _ ho, hc⟩ ?_
    simp only [if_true]
    refine wpAny_mono (fin _ _) (fun ov s' hq => wpAny_mono hq (fun _ s'' hq => wpAny_execs_nil ⟨rfl, hq⟩) fun _ _ z => z.elim) fun _ _ z => z.elim
end

/-! part Fq43 -/
section
variable {M : Model} {A : Around} {E : Value → Shared → Prop} {s : Shared} {env : Env} {Q : Value → Shared → Prop}
theorem GivesC.callK {M : Model} {A : Around} {h : Heap} {f : Value} {args : List Value} {kw : List (Str × Value)} {P : Value → Heap → Prop} (x : GivesC M A h (.call f ⟨args, kw⟩) P) : Gives M A h (PySem.call f args kw) P := fun Q E s k q => wpAny_call (x Q E s k q)
theorem call_kw1 {f : Value} {k1 : Str} {e1 : Expr} {p1 pos : Pos} (Pk : Heap → Prop) (hk : ∀ h, Pk h → Kept M h f) (x : wpAny M A (eval e1 env) (fun v s₁ => Pk s₁.heap ∧ wpAny M A (call f [] [(k1, v)]) Q E s₁) E s) :
    wpAny M A (callWith pos f [] (backTo pos (starEach [] env)) (backToKw pos (keywordEach [⟨some k1, e1, p1⟩] env))) Q E s :=
  callWith_of (P := Pk) rfl hk (evalArgs_kw2_nil rfl (kwAll_cons (wpAny_mono x (fun v s₁ y => kwAll_nil y) fun _ _ z => z)))
theorem call_kw2 {f : Value} {k1 k2 : Str} {e1 e2 : Expr} {p1 p2 pos : Pos} (Pk : Heap → Prop) (hk : ∀ h, Pk h → Kept M h f) (x : wpAny M A (eval e1 env) (fun v s₁ => wpAny M A (eval e2 env) (fun v2 s₂ => Pk s₂.heap ∧ wpAny M A (call f [] [(k1, v), (k2, v2)]) Q E s₂) E s₁) E s) :
    wpAny M A (callWith pos f [] (backTo pos (starEach [] env)) (backToKw pos (keywordEach [⟨some k1, e1, p1⟩, ⟨some k2, e2, p2⟩] env))) Q E s :=
  callWith_of (P := Pk) rfl hk (evalArgs_kw2_nil rfl (kwAll_cons (wpAny_mono x (fun v s₁ y => kwAll_cons (wpAny_mono y (fun v2 s₂ z => kwAll_nil z) fun _ _ z => z)) fun _ _ z => z)))
theorem Call_kw {func : Expr} {kws : List Keyword} {pos : Pos} (x : wpAny M A (eval func env) (fun f s₁ => wpAny M A (callWith pos f [] (backTo pos (starEach [] env)) (backToKw pos (keywordEach kws env))) Q E s₁) E s)
    (he : eval (.Call func [] kws pos) env = (do callWith pos (← eval func env) [] (backTo pos (starEach [] env)) (backToKw pos (keywordEach kws env))) := by rfl) : wpAny M A (eval (.Call func [] kws pos) env) Q E s := by
  rw [he]; exact wpAny_bind x
end
section
variable {w : World} {A : Around} {h : Heap} {mg mb : Str → Option Value} {env : Env}
theorem kept_cls {C : Nat} (W : Wd (hd.heap_39 w.params) mg mb h) (e : keepIn (hd.heap_39 w.params) (.ref C) = true) {M : Model} : Kept M h (.ref C) := keeps_K e _ W.K
/-- C(qval = e) -/
theorem gv_make1 {C cal : Nat} {cn : Str} {e : Expr} {np p1 pos : Pos} {P : Value → Heap → Prop} (W : Wd (hd.heap_39 w.params) mg mb h) (F : Fine A 6) (cl : Cl (hd.heap_39 w.params) C cal) (cm : ClM (hd.heap_39 w.params) C) (ke : keepIn (hd.heap_39 w.params) (.ref C) = true)
    (hn : Looks (model PySem.Challenge.rw_fq5031_01.row.prog w) h (loadName env cn) (.ref C)) (hd : (cn == ("__debug__" : Str)) = false)
    (x : Gives (model PySem.Challenge.rw_fq5031_01.row.prog w) A h (eval e env) fun q g => ∀ g', Up g g' → ∀ x : Nat, MadeI h g' x C q (.ref 100) → P (.ref x) g')
    (he : eval (.Call (.Name cn np) [] [⟨some ("qval" : Str), e, p1⟩] pos) env = (do callWith pos (← eval (.Name cn np) env) [] (backTo pos (starEach [] env)) (backToKw pos (keywordEach [⟨some ("qval" : Str), e, p1⟩] env))) := by rfl) :
    Gives (model PySem.Challenge.rw_fq5031_01.row.prog w) A h (eval (.Call (.Name cn np) [] [⟨some ("qval" : Str), e, p1⟩] pos) env) P := fun Q E s k qq => by
  refine Call_kw (wpAny_Name (hn A _ E s k (call_kw1 (fun h' => Up h h') (fun h' u => kept_cls (W.up u) ke) (x _ E s k fun q s₁ g r y => ⟨fun b o e => r.low b o (r.up b o e), ?_⟩))) hd) he
  refine (c_make (W.up r.up) F cl cm (q := q) (fun M A x g fd W h => bind_init1 h W) (.inl ⟨rfl, rfl⟩)).callK Q E s₁ r.low fun v s₂ g₂ r₂ z => ?_
  obtain ⟨x, rfl, i⟩ := z
  exact qq _ s₂ g₂ (r.trans r₂) (y g₂ r₂.up x (i.over r.up))
/-- C() -/
theorem gv_make0 {C cal : Nat} {cn : Str} {np pos : Pos} {P : Value → Heap → Prop} (W : Wd (hd.heap_39 w.params) mg mb h) (F : Fine A 6) (cl : Cl (hd.heap_39 w.params) C cal) (cm : ClM (hd.heap_39 w.params) C) (ke : keepIn (hd.heap_39 w.params) (.ref C) = true)
    (hn : Looks (model PySem.Challenge.rw_fq5031_01.row.prog w) h (loadName env cn) (.ref C)) (hd : (cn == ("__debug__" : Str)) = false)
    (x : ∀ (t : Tok) g', Up h g' → ∀ x : Nat, MadeI h g' x C (.int 1 t) (.ref 100) → P (.ref x) g')
    (he : eval (.Call (.Name cn np) [] [] pos) env = (do callWith pos (← eval (.Name cn np) env) [] (backTo pos (starEach [] env)) (backToKw pos (keywordEach [] env))) := by rfl) :
    Gives (model PySem.Challenge.rw_fq5031_01.row.prog w) A h (eval (.Call (.Name cn np) [] [] pos) env) P := by
  obtain ⟨t, hb⟩ := bind_init0 (w := w) (mg := mg) (mb := mb)
  refine gv_call (gv_name hn (gv_call0 (kept_cls W ke) ?_) hd) he
  exact (c_make W F cl cm (q := .int 1 t) (fun M A x g fd Wg h => hb h Wg) (.inl ⟨rfl, rfl⟩)).call.mono fun v g u ⟨x', e, i⟩ => e ▸ x t g u x' i
end

/-! part Fq44 -/
section
variable {s₀ s : Shared} {h g : Heap} {L : Nat} {m cm : Str → Option Value} {cs : List (Str × Addr)}
/-- cells that are stored into no more: known from here on -/
theorem FS.freeze (x : FS s₀ h L m cs cm g s) : ∃ g', FS s₀ h L m [] cm g' s ∧ Up g g' ∧ (∀ n c, cs.lookup n = some c → g'.IsCell c (cm n)) ∧ ∀ b, g'.get? b = none ∨ (∃ o, g.get? b = some o) ∨ ∃ n c, cs.lookup n = some c ∧ b = c := by
  obtain ⟨g', e1, e2⟩ := carve s.heap fun b => (∃ o, g.get? b = some o) ∨ ∃ n c, cs.lookup n = some c ∧ b = c
  have ug : Up g g' := fun b o e => e2 b o (x.ran.low b o e) (.inl ⟨o, e⟩)
  refine ⟨g', ⟨⟨x.ran.keeps, fun b o e => ug b o (x.ran.up b o e), fun b o e => (e1 b o e).1, fun b o e => ?_⟩, x.ns, ?_, x.freshL, fun n c hc => by simp at hc, fun n c hc => by simp at hc, fun n n' c hc => by simp at hc⟩, ug, fun n c hc => ?_, fun b => ?_⟩
  · rcases (e1 b o e).2 with ⟨o', z⟩ | ⟨n, c, hc, rfl⟩
    · have := ug b o' z; rw [e] at this; cases this; exact x.ran.new b o z
    · exact .inr (x.offC n b hc).2.1
  · cases z : g'.get? L with
    | none => rfl
    | some o =>
      rcases (e1 L o z).2 with ⟨o', z'⟩ | ⟨n, c, hc, z'⟩
      · rw [x.offL] at z'; cases z'
      · exact absurd z'.symm (x.offC n c hc).2.2
  · obtain ⟨o, a, b⟩ := x.cell n c hc
    exact ⟨o, e2 c o a (.inr ⟨n, c, hc, rfl⟩), b⟩
  · cases z : g'.get? b with
    | none => exact .inl rfl
    | some o => exact .inr (e1 b o z).2
theorem FS.drop {P : Nat} (x : FS s₀ h L m cs cm g s) (hP : h.get? P = none) : ∃ g', FS s₀ h L m cs cm g' s ∧ g'.get? P = none ∧ ∀ (b : Nat) o, b ≠ P → g.get? b = some o → g'.get? b = some o := by
  obtain ⟨g', e1, e2⟩ := carve g fun b => b ≠ P
  refine ⟨g', x.weaken (fun b o e => (e1 b o e).1) (fun b o e => e2 b o (x.ran.up b o e) (fun z => by rw [z, hP] at e; cases e)), ?_, fun b o hb e => e2 b o e hb⟩
  cases e : g'.get? P with
  | none => rfl
  | some o => exact absurd rfl (e1 P o e).2
variable {K : Frag} {mg mb : Str → Option Value} {M : Model} {A : Around} {E : Value → Shared → Prop} {env : Env} {params : Arguments} {body : Expr} {scope : Scope} {pos : Pos} {clos : List (Str × Addr)} {c P : Nat} {ps : Array Value}
theorem fs_lambda {Q : Value → Shared → Prop} (fs : FS s₀ h L m cs cm g s) (W : Wd K mg mb g) (hcl : closureFor scope env = pure clos) (hge : env.globals = mainGlobals) (hcode : env.code = .ref c) (C : CodeHd g c P) (hP : s.heap.get? P = some (tabObj ps)) (ht : TriplesOk ps.toList)
    (hnf : codeAmong pos ps.toList = none) (hb : g.BuiltinsAt mg P) (off1 : g.get? P = none) (off2 : s₀.heap.get? P = none) (off3 : P ≠ L) (off4 : ∀ n c, cs.lookup n = some c → c ≠ P) (hdef : defaultsOf params env = ([], []))
    (q : ∀ (f c' : Nat) ctv s' g', FS s₀ h L m cs cm g' s' → Up g g' → (∀ (b : Nat) o, b ≠ P → s.heap.get? b = some o → s'.heap.get? b = some o) → g'.get? f = some (kla_obj "<lambda>" (env.qual ++ "<lambda>") params body scope clos ((mg "__name__").getD .none) c' ctv) →
      g'.CodeRec (.ref c') (env.qual ++ "<lambda>") → g'.get? P = none → s'.heap.get? P = some (tabObj (ps ++ #[rawInt pos.line, rawInt pos.col, .ref c'])) → Q (.ref f) s') :
    wpAny M A (eval (.Lambda params body scope pos) env) Q E s := by
  have low := fs.ran.low
  have hgP : mainGlobals ≠ P := fun e => by obtain ⟨o, _, _, e1, _⟩ := W.g; rw [e, off1] at e1; cases e1
  refine kla_eval hdef (kla_makeFunction hcl hge (W.up low).g hcode (C.keeps low) hP ht hnf hgP (hb.keeps low) fun c' ctv h' tk hx hge' hlt hrec htb => ?_)
  have offP : ∀ (b : Nat), ((∃ o', g.get? b = some o') ∨ b = L ∨ (∃ n c, cs.lookup n = some c ∧ b = c) ∨ ∃ o', s₀.heap.get? b = some o') → b ≠ P := fun b hb z => by
    rw [z] at hb
    rcases hb with ⟨o', e'⟩ | e' | ⟨n, c, hc, e'⟩ | ⟨o', e'⟩
    · rw [off1] at e'; cases e'
    · exact off3 e'
    · exact off4 n c hc e'.symm
    · rw [off2] at e'; cases e'
  have fs1 := fs.mut (h' := h') (tk := tk) fun b o hb e => hx b o (offP b hb) e
  have fs2 := fs1.mut (h' := h'.push (kla_obj "<lambda>" (env.qual ++ "<lambda>") params body scope clos ((mg "__name__").getD .none) c' ctv)) (tk := tk) fun b o _ e => Heap.get?_push_of_some _ e
  have ge : ∀ (b : Nat), s.heap.objs.size ≤ b → s₀.heap.get? b = none ∧ b ≠ L ∧ ∀ n c, cs.lookup n = some c → b ≠ c := fun b hb => by
    refine ⟨?_, fun e => ?_, fun n c hc e => ?_⟩
    · cases e : s₀.heap.get? b with
      | none => rfl
      | some o => exact absurd (ltN (keeps_up fs.ran.keeps b o e)) (by omega)
    · obtain ⟨o, _, _, e1, _⟩ := fs.ns; have := ltN e1; omega
    · obtain ⟨o, e1, _⟩ := fs.cell n c hc; have := ltN e1; omega
  obtain ⟨c2, oc, vs, tq, e1, e2, e3⟩ := hrec
  cases e1
  obtain ⟨f1, f2, f3⟩ := ge h'.objs.size (by omega)
  obtain ⟨d1, d2, d3⟩ := ge c' hge'
  obtain ⟨g3, fs3, u3, hf3⟩ := fs2.add (Heap.get?_push_size _ rfl) f1 f2 f3
  obtain ⟨g4, fs4, u4, hc4⟩ := fs3.add (Heap.get?_push_of_some _ e2) d1 d2 d3
  have Ps : P < s.heap.objs.size := ltN hP
  obtain ⟨g5, fs5, n5, u5⟩ := fs4.drop (P := P) (by
    cases e : h.get? P with
    | none => rfl
    | some o => rw [fs.ran.up P o e] at off1; cases off1)
  refine q h'.objs.size c' ctv _ g5 fs5 (fun b o e => u5 b o (fun z => by rw [z, off1] at e; cases e) (u4 b o (u3 b o e))) (fun b o hb e => Heap.get?_push_of_some _ (hx b o hb e)) (u5 _ _ (by omega) (u4 _ _ hf3)) ⟨c', oc, vs, tq, rfl, u5 _ _ (by omega) hc4, e3⟩ n5 (Heap.get?_push_of_some _ htb)
end

/-! part Fq45 -/
section
variable {prog : Program} {w : World} {A : Around} {h : Heap}
/-- a call of a lambda that was made in the call -/
theorem call_lam {f c' : Nat} {name qual : Str} {params : Arguments} {body : Expr} {scope : Scope} {cl : List (Str × Addr)} {pm ctv : Value} {vs : List Value} {binds : List (Str × Value)} {P : Value → Prop}
    (hroom : A.depth < recursionLimit) (hf : h.get? f = some (kla_obj name qual params body scope cl pm c' ctv)) (hrec : h.CodeRec (.ref c') qual) (hlim : h.NoLimit)
    (hbind : bindArgs (kla_fn name qual params body scope cl pm (.ref c') ctv) ⟨vs, []⟩ = pure binds) (hloc : ∀ y ∈ binds, scope.names.lookup y.1 = some .local) (hco : scope.isCoroutine = false) (hgen : scope.isGenerator = false) (hk : scope.kind = .function) (hcell : ∀ x ∈ scope.names, x.2 ≠ .cell)
    (run : ∀ (L : Nat) ge, Up h ge → ge.Ns L (fun y => binds.reverse.lookup y) → Gives (model prog w) (A.deeper (envX qual scope L f (.ref c') cl)) ge (eval body (envX qual scope L f (.ref c') cl)) fun v _ => P v) :
    GivesC (model prog w) A h (.call (.ref f) ⟨vs, []⟩) fun v _ => P v := fun Q E s k q => by
  refine kla_callFunE hroom (k _ _ hf) rfl hco hgen rfl (hrec.keeps k) ?_
  rw [hbind]
  refine wpAny_pure (wpAny_newFunctionEnv hcell hloc (fun h₁ hns hsb => ⟨(hlim.keeps k).fresh _ hsb, ?_⟩) hk)
  have k1 : ∀ b o, s.heap.get? b = some o → h₁.get? b = some o := fun b o e => hsb.extBut b o (Nat.ne_of_lt (Heap.lt_size e)) (Heap.get?_push_of_some _ e)
  obtain ⟨ge, e1, e2⟩ := carve h₁ fun b => (∃ o, h.get? b = some o) ∨ b = s.heap.objs.size
  refine kla_codeExpr (wpAny_mono (run s.heap.objs.size ge (fun b o e => e2 b o (k1 b o (k b o e)) (.inl ⟨o, e⟩)) (hns.at' fun o e => e2 _ o e (.inr rfl)) (fun v s' => Q v s') (fun _ _ => False) _ (fun b o e => (e1 b o e).1) fun v s' g' r p => ?_) (fun v s' hq => hq) fun _ _ z => z.elim)
  refine q v s' h ⟨keeps_trans (s' := { s with heap := h₁, toks := s.toks + binds.length }) ⟨h₁, _, rfl, k1⟩ r.keeps, fun _ _ e => e, fun b o e => keeps_up r.keeps b o (k1 b o (k b o e)), fun _ _ e => .inl e⟩ p
end
section
variable {w : World} {A : Around} {h : Heap} {mg mb : Str → Option Value}
def okGrp (okx : Str → Prop) (l : List It) : Prop := ∃ x y, l = [.s x, .s y] ∧ okx x ∧ okx y
def grpE (G : Str → Int) : It → It → Bool := fun a b => grp G a == grp G b
theorem sameBy_two {G : Str → Int} {x y : Str} : sameBy (grpE G) [.s x, .s y] = (G x == G y) := by
  show ([It.s x, It.s y].all fun b => grpE G b (.s x)) = _
  simp only [List.all_cons, List.all_nil, Bool.and_true, grpE, grp, beq_self_eq_true, Bool.true_and]
  rw [Bool.eq_iff_iff, beq_iff_eq, beq_iff_eq]; exact eq_comm
abbrev lamPar (p1 p2 : Pos) : Arguments := { posonlyargs := [], args := [⟨"x", none, p1⟩, ⟨"y", none, p2⟩], vararg := none, kwonlyargs := [], kw_defaults := [], kwarg := none, defaults := [] }
abbrev lamBody (p1 p2 p3 p4 p5 p6 p7 : Pos) : Expr := .Compare (.Subscript (.Name "groups" p1) (.Name "x" p2) p3) [.Eq] [.Subscript (.Name "groups" p4) (.Name "y" p5) p6] p7
abbrev lamScope : Scope := { kind := .function, names := [("x", .local), ("y", .local), ("groups", .free)], isGenerator := false, isCoroutine := false }
/-- the test of signs by groups -/
theorem simT_lambda (W : Wd (hd.heap_39 w.params) mg mb h) {f c' cg d : Nat} {qual : Str} {q1 q2 p1 p2 p3 p4 p5 p6 p7 : Pos} {pm ctv : Value} {G : Str → Int} {okx : Str → Prop}
    (hf : h.get? f = some (kla_obj "<lambda>" qual (lamPar q1 q2) (lamBody p1 p2 p3 p4 p5 p6 p7) lamScope [("groups", cg)] pm c' ctv)) (hrec : h.CodeRec (.ref c') qual) (hc : h.IsCell cg (some (.ref d))) (dg : DG w h d G okx) :
    SimT w h (.ref f) (sameBy (grpE G)) (okGrp okx) := by
  refine ⟨kept_fn hf rfl, rfl, fun A h' vs l F u p ok => ?_⟩
  obtain ⟨x, y, rfl, okX, okY⟩ := ok
  cases p with | cons p1' r => cases r with | cons p2' r => cases r with | nil =>
  obtain ⟨tx, rfl⟩ := p1'
  obtain ⟨ty, rfl⟩ := p2'
  refine (call_lam (binds := [("x", .str x tx), ("y", .str y ty)]) F.lt (u _ _ hf) (hrec.keeps u) (W.nolimit.keeps u) rfl (fun z hz => by simp only [List.mem_cons, List.not_mem_nil, or_false] at hz; rcases hz with rfl | rfl <;> rfl) rfl rfl rfl (by decide) fun L ge ug hN => ?_).call
  have hcg := (hc.keeps u).keeps ug
  have uh : Up h ge := fun b o e => ug b o (u b o e)
  refine gv_cmp (gv_sub (gv_name (lk_free rfl rfl rfl hcg) (gv_name (lk_local rfl rfl hN rfl) ((dg.get _ _ x tx _ _ (F.deep _ |>.less (by decide)) uh okX rfl).mono fun v1 g1 u1 ⟨t1, e1⟩ => ?_))))
  subst e1
  refine gv_sub (gv_name (lk_free rfl rfl rfl (hcg.keeps u1)) (gv_name ((lk_local rfl rfl hN rfl).keeps u1) ((dg.get _ _ y ty _ _ (F.deep _ |>.less (by decide)) (fun b o e => u1 b o (uh b o e)) okY rfl).mono fun v2 g2 u2 ⟨t2, e2⟩ => ?_)))
  subst e2
  exact op_eqi.mono fun v g _ e => by rw [e, sameBy_two]
/-- {'a': 0, 'b': tail % 2, ' ': 2} -/
def signG (i : Int) (y : Str) : Int := if y = "a" then 0 else if y = "b" then i.fmod 2 else 2
def okSign (y : Str) : Prop := y = "a" ∨ y = "b" ∨ y = " "
theorem gv_groups {env : Env} {A : Around} {i : Int} {tt : Tok} {p1 p2 p3 p4 p5 p6 p7 p8 p9 : Pos} {n1 n2 n3 n4 n5 n6 : Nat} (ht : Looks (model PySem.Challenge.rw_fq5031_01.row.prog w) h (loadName env "tail") (.int i tt)) :
    Gives (model PySem.Challenge.rw_fq5031_01.row.prog w) A h (eval (.Dict [some (.Constant (.str "a") n1 p1), some (.Constant (.str "b") n2 p2), some (.Constant (.str " ") n3 p3)]
      [.Constant (.int 0) n4 p4, .BinOp (.Name "tail" p5) .Mod (.Constant (.int 2) n5 p6) p7, .Constant (.int 2) n6 p8] p9) env) fun v g => ∃ (d : Nat) (f : Str → Option Value), v = .ref d ∧ h.get? d = none ∧ g.MapOf (strKind PySem.Challenge.rw_fq5031_01.row.prog w) d f ∧ ∀ y, okSign y → ∃ t, f y = some (.int (signG i y) t) := gives_of fun Q E s k q => by
  refine wpAny_Dict_pairs (knd := strKind PySem.Challenge.rw_fq5031_01.row.prog w) (pairs := [(eval (.Constant (.str "a") n1 p1) env, do let x ← eval (.Constant (.int 0) n4 p4) env; standAt p9; pure x),
      (eval (.Constant (.str "b") n2 p2) env, do let x ← eval (.BinOp (.Name "tail" p5) .Mod (.Constant (.int 2) n5 p6) p7) env; standAt p9; pure x),
      (eval (.Constant (.str " ") n3 p3) env, do let x ← eval (.Constant (.int 2) n6 p8) env; standAt p9; pure x)]) rfl (by simp) (by show 3 ≤ 15; decide) ?_
  have k1 : Up h (s.heap.push { cls := .type "dict", data := .dict #[] }) := fun b o e => Heap.get?_push_of_some _ (k b o e)
  refine evalPairs_cons (wpAny_mkText (wpAny_bind (wpAny_Constant_int (wpAny_bind (wpAny_standAt (wpAny_pure ?_))))))
  refine evalPairs_cons (wpAny_mkText (wpAny_bind (wpAny_BinOp (wpAny_Name (ht _ _ _ _ k1 (wpAny_Constant_int (PyProof.Rows.mod_int (by decide) (wpAny_bind (wpAny_standAt (wpAny_pure ?_)))))) (by decide)))))
  refine evalPairs_cons (wpAny_mkText (wpAny_bind (wpAny_Constant_int (wpAny_bind (wpAny_standAt (wpAny_pure (evalPairs_nil ?_)))))))
  refine ⟨[(("a" : Str), _), (("b" : Str), _), ((" " : Str), _)], ⟨strKind_is _ _ _ _, rfl, strKind_is _ _ _ _, rfl, strKind_is _ _ _ _, rfl, trivial⟩, Heap.DictOf.new _, fun h' hd hs => ?_⟩
  refine q _ _ ⟨h', _, rfl, fun b o e => hs.extBut b o (Nat.ne_of_lt (Heap.lt_size e)) (Heap.get?_push_of_some _ e)⟩ fun g ug lg ng => ?_
  obtain ⟨o, es, ep, e1, r⟩ := hd.mapOf
  refine ⟨s.heap.objs.size, _, rfl, no_size k, ⟨o, es, ep, ng _ _ e1 (none_size _), r⟩, fun y hy => ?_⟩
  rcases hy with rfl | rfl | rfl
  · exact ⟨_, rfl⟩
  · exact ⟨_, rfl⟩
  · exact ⟨_, rfl⟩
end

/-! part Fq46 -/
section
variable {prog : Program} {w : World} {A : Around} {h : Heap} {s : Shared} {E : Value → Shared → Prop}
theorem tail_tuple_out {value slice : Expr} {T : Nat} {u : Tok} {Q : Value → Shared → Prop} (hA : A.handled = none) (ht : s.heap.IsTuple T #[])
    (hE : ∀ h' tk e, Heap.NewExc s.heap h' e "IndexError" → E (.ref e) { s with heap := h', toks := tk })
    (hs : subscripted slice false (.ref T) (.int 0 u) = operate [.ref T, .int 0 u] (getItem (.ref T) (.int 0 u)) := by rfl) : wpAny (model prog w) A (subscriptTail value slice (.ref T) (.int 0 u)) Q E s := by
  refine tail_any ht.typeIs F.slot_tuple_getitem.lookup ?_ hs
  unfold getItem
  try with_reducible refine wpAny_holding ?_
  first | refine wpAny_bind (wpAny_pure ?_) | skip
  refine wpAny_bind (wpAny_sequenceKey ht.typeIs (by decide) ?_)
  refine wpAny_bind (wpAny_callSpecial?_slot (name := Str.ofString "__getitem__") ht.typeIs F.slot_tuple_getitem
    (wpAny_call_entry F.slot_tuple_getitem ht.typeIs F.entry_tuple_getitem ?_ (PyProof.Rows.args_tuple_getitem _ _)))
  show wpAny _ _ (Builtin.Tuple.tupleItemsOf (.ref T) >>= _) _ _ s
  refine wpAny_bind (tupleItemsOf_ ht ?_)
  refine wpAny_bind (wpAny_typeOf (typeIs_int s 0 u) ?_)
  rw [if_neg (by decide)]
  refine wpAny_bind (wpAny_specialOf (T := "int") (typeIs_int s 0 u) int_index ?_)
  rw [if_neg (by simp)]
  refine wpAny_bind (wpAny_of_eq (a := 0) rfl ?_)
  rw [if_neg (by decide)]
  have e0 : (seqIndex? 0 (#[] : Array Value).size).bind ((#[] : Array Value)[·]?) = none := rfl
  rw [e0]
  exact wpAny_bind (wpAny_rule (by exact_raiseError plainExc_IndexError hA hE))
/-- call_at with binds that are made at the call -/
theorem call_atB {a : Nat} {o : Obj} {fd : FuncData} {body : List Stmt} {args : Args} {B : List (Str × Value) → Heap → Prop} {R : Result → Shared → Prop} (xs : List Str)
    (hroom : A.depth < recursionLimit) (k : Up h s.heap) (ho : h.get? a = some o) (hdat : o.data = .func fd) (hbody : fd.body = .stmts body) (hcode : h.CodeRec fd.code fd.qualname) (hlim : h.NoLimit)
    (hco : fd.scope.isCoroutine = false) (hgen : fd.scope.isGenerator = false) (hk : fd.scope.kind = .function) (hclos : fd.closure = [])
    (hbind : Gives (model prog w) A.in1 h (bindArgs fd args) B) (hB : ∀ binds g, B binds g → binds.map (·.1) = xs) (hxs : boundAll fd.scope.names xs = true)
    (run : ∀ binds g (s₂ : Shared) (L : Nat) (env : Env), B binds g → env = callEnvC fd L a → FS s h L (bindL env.kindOf binds fun _ => none) env.cells (bindC env.kindOf binds fun _ => none) g s₂ →
      wpAny (model prog w) (A.deeper env) (execs body env) (fun f s' => R (.ok (.ret (match f with | .ret v => v | _ => .none))) s')
        (fun e s' => wpAny (model prog w) (A.deeper env) (leaving env e) (fun _ s'' => R (.error e) s'') (fun e' s'' => R (.error e') s'') s') s₂) :
    codeAny (model prog w) A (.call (.ref a) args) R s := by
  refine codeAny_call_function hroom (k a o ho) hdat hco hgen hbody (hcode.keeps k) (hbind _ _ s k fun binds s₁ g r hb => ?_)
  rw [hclos]
  refine wpAny_newFunctionEnv_cells hk (fun x hx => (bound_kind (by rw [hB binds g hb]; exact hxs) x hx).imp id fun y => ⟨y.1, y.2 _⟩) fun env he s₂ hc => ?_
  have big : ∀ (b : Nat), s₁.heap.objs.size ≤ b → g.get? b = none ∧ s.heap.get? b = none := fun b hb => by
    constructor
    · cases e : g.get? b with
      | none => rfl
      | some o => exact absurd (ltN (r.low b o e)) (by omega)
    · cases e : s.heap.get? b with
      | none => rfl
      | some o => exact absurd (ltN (keeps_up r.keeps b o e)) (by omega)
  have hf : s₁.heap.objs.size ≤ env.locals := hc.toInCall.fresh
  obtain ⟨h₂, tk₂, rfl, k₂⟩ := hc.done
  have low : Up g h₂ := fun b o e => k₂ b o (r.low b o e)
  have hFS : FS s h env.locals (bindL env.kindOf binds fun _ => none) env.cells (bindC env.kindOf binds fun _ => none) g { s₁ with heap := h₂, toks := tk₂ } :=
    ⟨⟨keeps_trans r.keeps ⟨h₂, tk₂, rfl, k₂⟩, r.up, low, r.new⟩, hc.toInCall.ns, (big _ hf).1, (big _ hf).2, hc.cell, fun n c hcs => by
      have ha : env.locals < c := hc.above n c (mem_of_lookup hcs)
      have hc' : s₁.heap.objs.size ≤ c := Nat.le_trans hf (Nat.le_of_lt ha)
      exact ⟨(big c hc').1, (big c hc').2, Nat.ne_of_gt ha⟩, fun n n' c h1 h2 => by
      by_cases e : n = n'
      · exact e
      · have m1 := mem_of_lookup h1
        have m2 := mem_of_lookup h2
        exact absurd rfl (pairwise_ne (x := (n, c)) (y := (n', c)) hc.apart m1 m2 (fun z => e (Prod.mk.inj z).1))⟩
  refine ⟨((hlim.keeps r.up).keeps low), ?_⟩
  exact codeAny_func (run binds g _ env.locals env hb (by rw [he]; rfl) hFS)
end
section
variable {w : World} {A : Around} {h : Heap} {s : Shared} {mg mb : Str → Option Value}
set_option maxHeartbeats 2000000 in
/-- _law_refused: Postfix()() raises IndexError, which is caught -/
theorem c_refused {env0 : Env} {L0 : Nat} {m0 : Str → Option Value} {R : Result → Shared → Prop} (hfr : A.frames = some [env0]) (hf0 : env0.frame = some L0) (hk0 : env0.scope.kind ≠ .module)
    (W : Wd (hd.heap_39 w.params) mg mb h) (F : Fine A 12) (k : Up h s.heap) (hN : s.heap.Ns L0 m0) (hL : h.get? L0 = none)
    (fin : ∀ s', (∃ h' t, s' = { s with heap := h', toks := t }) → (∀ (b : Nat) o, b ≠ L0 → s.heap.get? b = some o → s'.heap.get? b = some o) → s'.heap.Ns L0 m0 → R (.ok (.ret (.bool true))) s') :
    codeAny (model PySem.Challenge.rw_fq5031_01.row.prog w) A (.call (.ref 263) ⟨[], []⟩) R s := by
  obtain ⟨base, b1, b2⟩ := carve s.heap fun b => b ≠ L0
  have hb : Up h base := fun b o e => b2 b o (k b o e) fun z => by rw [z, hL] at e; cases e
  have bs : ∀ b o, base.get? b = some o → s.heap.get? b = some o := fun b o e => (b1 b o e).1
  have bL0 : base.get? L0 = none := by
    cases e : base.get? L0 with
    | none => rfl
    | some o => exact absurd rfl (b1 L0 o e).2
  refine call_at (h := h) (binds := []) F.lt k (W.K 263 _ rfl) rfl rfl ⟨262, _, _, _, rfl, W.K 262 _ rfl, rfl, rfl⟩ W.nolimit rfl rfl rfl rfl (Gives.pure rfl) (fun x hx => by cases hx) fun s₂ L env he fs => ?_
  have ek : env.scope.kind = .function := by rw [he]; rfl
  have eg : env.globals = mainGlobals := by rw [he]; rfl
  have eb : env.builtins = builtinsNs := by rw [he]; rfl
  have ef : env.frame = some L := by rw [he]; rfl
  have Fd := F.deep env
  refine wpAny_execs_cons (wpAny_Try_except (wpAny_execs_cons (wpAny_Assign_Name (Call_ ?_))))
  have low := fs.ran.low
  refine (gv_make0 (P := fun v g => ∃ (x : Nat) (t : Tok), v = .ref x ∧ Inst g x 239 (.int 1 t) (.ref 100)) W (Fd.less (by decide)) cl_postfix clm_postfix rfl (lk_global W ek (by rw [he]; rfl) eg rfl) (by decide) fun t g' u x i => ⟨x, t, rfl, i.inst⟩) _ _ s₂ low fun v s₃ gp r p => ?_
  obtain ⟨x, t, rfl, i⟩ := p
  refine call_any (P := fun h' => Up gp h') (fun h' u => inst_kept (i.up u)) (evalArgs_flat (args := []) rfl (wpAny_pure ⟨r.low, wpAny_call ?_⟩))
  have Wp : Wd (hd.heap_39 w.params) mg mb gp := W.up r.up
  obtain ⟨ox, n, h1, t1, h2, t2, I, d⟩ := (i.up r.low).ex
  refine kco_code (Wp.up r.low).K I d cl_postfix.call rfl rfl ?_
  refine call_atB (h := gp) (s := s₃) ["self", "sequences"] Fd.lt r.low (Wp.K 236 _ rfl) rfl rfl ⟨235, _, _, _, rfl, Wp.K 235 _ rfl, rfl, rfl⟩ Wp.nolimit rfl rfl rfl rfl (bind_self_star (vs := []) rfl rfl (by decide))
    (fun b g ⟨a, e, _⟩ => by rw [e]; rfl) rfl ?_
  rintro binds g5 s₅ L3 env3 ⟨T, rfl, _, hT⟩ he3 fs5
  have ek3 : env3.scope.kind = .function := by rw [he3]; rfl
  have eL3 : env3.locals = L3 := by rw [he3]; rfl
  have ef3 : env3.frame = some L3 := by rw [he3]; rfl
  have k5 : env3.kindOf "sequences" = some .local := by rw [he3]; rfl
  have hT5 : s₅.heap.IsTuple T #[] := hT.at fun o e => fs5.ran.low _ o e
  refine wpAny_execs_cons (wpAny_Assign_Name (Subscript_ (wpAny_Name (wpAny_loadName_local (v := .ref T) ek3 k5 (eL3 ▸ fs5.ns) (by rw [he3]; rfl) (wpAny_Constant_int (tail_tuple_out (Fd.deep _).handled hT5 fun h₆ tk6 e hx => ?_))) (by decide))))
  -- the exception leaves the frame of __call__
  obtain ⟨ob, tp, x1, x2, x3⟩ := hx.there
  have s3 : ∀ b o, s.heap.get? b = some o → s₃.heap.get? b = some o := fun b o e => keeps_up r.keeps b o (keeps_up fs.ran.keeps b o e)
  have s5 : ∀ b o, s₃.heap.get? b = some o → s₅.heap.get? b = some o := fun b o e => keeps_up fs5.ran.keeps b o e
  have s6 : ∀ b o, s₅.heap.get? b = some o → h₆.get? b = some o := fun b o e => hx.keeps b o e
  have nb : ∀ (b : Nat), s.heap.get? b = none → base.get? b = none := fun b hbn => by
    cases z : base.get? b with
    | none => rfl
    | some o => rw [bs b o z] at hbn; cases hbn
  have nL : base.get? L = none := nb _ fs.freshL
  have nL3 : base.get? L3 = none := nb _ (by
    cases z : s.heap.get? L3 with
    | none => rfl
    | some o => have := fs5.freshL; rw [s3 _ _ z] at this; cases this)
  have N0 : h₆.Ns L0 m0 := hN.at' fun o e => s6 _ o (s5 _ o (s3 _ o e))
  have N2 := fs.ns.at' (h' := h₆) fun o e => s6 _ o (s5 _ o (keeps_up r.keeps _ o e))
  have N3 := fs5.ns.at' (h' := h₆) fun o e => s6 _ o e
  have fr0 : h₆.FunFrames base [env0] := .cons hk0 hf0 N0 bL0 trivial
  have fr2 : h₆.FunFrames base [env, env0] := .cons (by rw [ek]; decide) ef N2 nL fr0
  have fr3 : h₆.FunFrames base [env3, env, env0] := .cons (by rw [ek3]; decide) ef3 N3 nL3 fr2
  refine wpAny_leaving_firstW (base := base) (a0 := tp) (Around.frames_deeper (Around.frames_deeper hfr)) fr3 ef3 x1 (fun b o e => s6 b o (s5 b o (s3 b o (bs b o e)))) (nb _ (by
    cases z : s.heap.get? e with
    | none => rfl
    | some o => have := hx.new; rw [s5 _ _ (s3 _ _ z)] at this; cases this)) x3 rfl rfl fun h₇ hl => ?_
  obtain ⟨k1, ⟨_, _, k2⟩, k3, k4⟩ := hl
  have hfl : Heap.FlyingW base [env, env0] e (.type "IndexError") tp h₇ := ⟨k1, nb _ (by
    cases z : s.heap.get? e with
    | none => rfl
    | some o => have := hx.new; rw [s5 _ _ (s3 _ _ z)] at this; cases this), k2, x2 ▸ k3⟩
  -- it is caught in the frame of _law_refused
  refine wpAny_looks_onW (Around.frames_deeper hfr) ef hfl fun h₈ hheld sm8 => ?_
  refine wpAny_landsW hheld fun h₉ hf9 sm9 => ?_
  obtain ⟨ob9, hob9, hoc9⟩ := hf9.there
  refine wpAny_handleBy_builtin (X := "IndexError") (T := "IndexError") (b := true) PySem.F.isExc_IndexError PySem.F.notTuple_IndexError (by rw [isSubtype_type]; kernel_rfl)
    (wpAny_Name ((lk_builtin (W.up fun b o e => hf9.1 b o (hb b o e)) ek (by rw [he]; rfl) eg eb rfl rfl (by decide)) _ _ _ _ (fun _ _ e => e) ⟨rfl, ⟨ob9, hob9, hoc9⟩, ?_⟩) (by decide))
  simp only [if_true]
  refine lands_againW hf9 fun h₁₀ hf10 sm10 => ?_
  refine wpAny_execs_cons (wpAny_Return_some (wpAny_pure ?_))
  obtain ⟨ha, ta, rfl, _⟩ := fs.ran.keeps
  obtain ⟨hc, tc, rfl, _⟩ := r.keeps
  obtain ⟨he5, te5, rfl, _⟩ := fs5.ran.keeps
  exact fin _ ⟨h₁₀, _, rfl⟩ (fun b o hb' e => hf10.1 b o (b2 b o e hb')) (sm10.ns (sm9.ns (sm8.ns (Heap.UpToSlots.ns k4 N0))))
end

/-! part Fq47 -/
theorem exists_min {rs : List (List It)} (hne : rs ≠ []) : ∃ n, (∀ r ∈ rs, n ≤ r.length) ∧ ∃ r ∈ rs, r.length = n := by
  induction rs with
  | nil => exact absurd rfl hne
  | cons r rs ih =>
    by_cases h : rs = []
    · subst h; exact ⟨r.length, by simp, r, by simp, rfl⟩
    · obtain ⟨n, h1, r', h2, h3⟩ := ih h
      by_cases hl : r.length ≤ n
      · refine ⟨r.length, fun x hx => ?_, r, by simp, rfl⟩
        rcases List.mem_cons.mp hx with rfl | hx
        · exact Nat.le_refl _
        · exact Nat.le_trans hl (h1 x hx)
      · refine ⟨n, fun x hx => ?_, r', by simp [h2], h3⟩
        rcases List.mem_cons.mp hx with rfl | hx
        · omega
        · exact h1 x hx
theorem col_map {α : Type} (f : α → It) (xss : List (List α)) (i : Nat) : col (xss.map (List.map f)) i = (xss.filterMap (·[i]?)).map f := by
  unfold col
  induction xss with
  | nil => rfl
  | cons x xss ih =>
    rw [List.map_cons, List.filterMap_cons, List.filterMap_cons, List.getElem?_map]
    cases x[i]? with
    | none => exact ih
    | some a => show _ :: _ = _ :: _; rw [ih]
/-- rows of signs or words, or rows of pairs -/
def Kind (rs : List (List It)) : Prop := (∃ xss : List (List Str), rs = xss.map (List.map .s)) ∨ ∃ pss : List (List (Str × Str)), rs = pss.map (List.map fun p => .p p.1 p.2)
theorem ok_ident {rs : List (List It)} (k : Kind rs) (h4 : rs.length ≤ 4) (hne : rs ≠ []) {n : Nat} (hn : ∀ r ∈ rs, n ≤ r.length) : ∀ i, i < n → okIdent (col rs i) := fun i hi => by
  have hl : (col rs i).length = rs.length := col_len fun r hr => Nat.lt_of_lt_of_le hi (hn r hr)
  refine ⟨?_, by omega, fun e => by rw [e] at hl; exact hne (List.length_eq_zero_iff.mp hl.symm)⟩
  rcases k with ⟨xss, rfl⟩ | ⟨pss, rfl⟩
  · exact .inl ⟨_, col_map .s xss i⟩
  · exact .inr ⟨_, col_map (fun p : Str × Str => .p p.1 p.2) pss i⟩
theorem kind_cut (two : Bool) (css : List (List Str)) : Kind (css.map (cutRow two)) := by
  cases two with
  | false => exact .inl ⟨css, rfl⟩
  | true => exact .inr ⟨css.map fun l => List.zip l l.tail, by rw [List.map_map]; rfl⟩
theorem ok_grp {css : List (List Str)} {okx : Str → Prop} (h2 : css.length = 2) (hx : ∀ l ∈ css, ∀ y ∈ l, okx y) {n : Nat} (hn : ∀ r ∈ css.map (cutRow false), n ≤ r.length) : ∀ i, i < n → okGrp okx (col (css.map (cutRow false)) i) := fun i hi => by
  match css, h2 with
  | [a, b], _ =>
    have ha : i < a.length := by have := hn (cutRow false a) (by simp); simp only [cutRow, List.length_map] at this; omega
    have hb : i < b.length := by have := hn (cutRow false b) (by simp); simp only [cutRow, List.length_map] at this; omega
    refine ⟨a[i], b[i], ?_, hx a (by simp) _ (List.getElem_mem _), hx b (by simp) _ (List.getElem_mem _)⟩
    show col ([a, b].map (List.map .s)) i = _
    rw [col_map]
    simp [List.getElem?_eq_getElem ha, List.getElem?_eq_getElem hb]
section
variable {w : World} {h : Heap} {mg mb : Str → Option Value}
/-- _beginning of rows of signs: as they are, or as pairs -/
theorem begs_cut (W : Wd (hd.heap_39 w.params) mg mb h) {two b : Bool} {x C cal : Nat} {t : Tok} {f : Value} {S : List It → Bool} {ok : List It → Prop} {vs : List Value} {css : List (List Str)} {c0 : List Str} {n : Nat} (cl : Cl (hd.heap_39 w.params) C cal)
    (i0 : Inst h x C (.int (if two then 2 else 1) t) f) (sim : SimT w h f S ok) (hv : Rows h vs (css.map (List.map .s))) (hb : if two then b = false else Paired (RowK b h) vs (css.map (List.map .s))) (h0 : css.head? = some c0)
    (hn : (∀ r ∈ css.map (cutRow two), n ≤ r.length) ∧ ∃ r ∈ css.map (cutRow two), r.length = n) (hok : ∀ i, i < n → ok (col (css.map (cutRow two)) i)) :
    Begs w h x vs b ((cutRow two c0).take (told S (css.map (cutRow two)) n)) := fun A' h' F u => by
  have hl := hv.rows.length
  rw [List.length_map] at hl
  have h4 : vs.length ≤ 4 := by have := hv.few; rw [List.length_map] at this; omega
  have hne : vs ≠ [] := fun e => by rw [e] at hl; cases css with | nil => simp at h0 | cons _ _ => simp at hl
  have sm : ∀ r ∈ css.map (cutRow two), r.length < 1000 := fun r hr => by
    obtain ⟨c, hc, rfl⟩ := List.mem_map.mp hr
    have := hv.small _ (List.mem_map_of_mem hc)
    rw [List.length_map] at this
    cases two with
    | false => show (c.map It.s).length < 1000; rw [List.length_map]; exact this
    | true => show (pairUp c).length < 1000; rw [pairUp_len]; omega
  refine c_beginning (W.up u) F cl (i0.up u) (sim.up u) h4 hne (r0 := cutRow two c0) (by cases css with | nil => simp at h0 | cons a r => simp at h0; subst h0; rfl) (by rw [List.length_map]; omega) sm hn hok fun A₂ h₂ F₂ u₂ => ?_
  have uu : Up h h₂ := fun b o e => u₂ b o (u b o e)
  cases two with
  | false =>
    simp only [Bool.false_eq_true, if_false] at hb i0
    exact fun Q E s k q => gs_one (W.up uu) (F₂.less (by decide)) cl (i0.up uu) (hv.up (Up.seq uu)) Q E s k fun v s' g r ⟨a, e, hl⟩ => q v s' g r ⟨a, vs, e, hl, paired_mono (fun v r2 y => rowK_st _ _ _ _ (Up.seq fun b o e => r.up b o (uu b o e)) y) hb⟩
  | true =>
    simp only [if_true] at hb i0
    subst hb
    exact fun Q E s k q => gs_two (W.up uu) (F₂.less (by decide)) cl (i0.up uu) (hv.up (Up.seq uu)) Q E s k fun v s' g r z => q v s' g r z
/-- _beginning of texts by words -/
theorem begs_words (W : Wd (hd.heap_39 w.params) mg mb h) {x C cal : Nat} {q f : Value} {S : List It → Bool} {ok : List It → Prop} {vs : List Value} {ts : List Str} {t0 : Str} {n : Nat} (cl : Cl (hd.heap_39 w.params) C cal) (hq : q = .none ∨ ∃ t, q = .int 0 t)
    (i0 : Inst h x C q f) (sim : SimT w h f S ok) (hv : Paired (StrV h) vs ts) (h4 : ts.length ≤ 4) (h0 : ts.head? = some t0) (hsm : ∀ t ∈ ts, t.length < 1000) (hws : ∀ t ∈ ts, (Txt.words t).length < 1000)
    (hn : (∀ r ∈ ts.map (fun t => (Txt.words t).map It.s), n ≤ r.length) ∧ ∃ r ∈ ts.map (fun t => (Txt.words t).map It.s), r.length = n) (hok : ∀ i, i < n → ok (col (ts.map fun t => (Txt.words t).map It.s) i)) :
    Begs w h x vs false (((Txt.words t0).map It.s).take (told S (ts.map fun t => (Txt.words t).map It.s) n)) := fun A' h' F u => by
  have hl := hv.length
  have hne : vs ≠ [] := fun e => by rw [e] at hl; cases ts with | nil => simp at h0 | cons _ _ => simp at hl
  refine c_beginning (W.up u) F cl (i0.up u) (sim.up u) (by omega) hne (r0 := (Txt.words t0).map It.s) (by cases ts with | nil => simp at h0 | cons a r => simp at h0; subst h0; rfl) (by rw [List.length_map]; omega)
    (fun r hr => by obtain ⟨t, ht, rfl⟩ := List.mem_map.mp hr; rw [List.length_map]; exact hws t ht) hn hok fun A₂ h₂ F₂ u₂ => ?_
  have uu : Up h h₂ := fun b o e => u₂ b o (u b o e)
  exact fun Q E s k q' => gs_words (W.up uu) (F₂.less (by decide)) cl hq (i0.up uu) (paired_mono (fun v a y => y) hv) h4 hsm Q E s k fun v s' g r z => q' v s' g r z
end

/-! part Fq48 -/
section
variable {w : World} {h : Heap} {mg mb : Str → Option Value}
theorem cutRow_len (two : Bool) (c : List Str) : (cutRow two c).length ≤ c.length := by
  cases two with
  | false => show (c.map It.s).length ≤ _; rw [List.length_map]; exact Nat.le_refl _
  | true => show (pairUp c).length ≤ _; rw [pairUp_len]; omega
theorem called_postfix (W : Wd (hd.heap_39 w.params) mg mb h) {two b : Bool} {x : Nat} {t : Tok} {f : Value} {S : List It → Bool} {ok : List It → Prop} {vs : List Value} {css : List (List Str)} {c0 : List Str} {w0 : Value} {n : Nat}
    (i0 : Inst h x 239 (.int (if two then 2 else 1) t) f) (sim : SimT w h f S ok) (hv : Rows h vs (css.map (List.map .s))) (h0 : css.head? = some c0) (hw : vs[0]? = some w0) (hw0 : RowK b h w0 (c0.map .s)) (hb : b = true → two = false ∧ ∃ cs : List Nat, c0 = cs.map one1)
    (hn : (∀ r ∈ css.map (fun c => cutRow two c.reverse), n ≤ r.length) ∧ ∃ r ∈ css.map (fun c => cutRow two c.reverse), r.length = n) (hok : ∀ i, i < n → ok (col (css.map fun c => cutRow two c.reverse) i)) :
    Called w h x vs b ((cutRow two c0.reverse).take (told S (css.map fun c => cutRow two c.reverse) n)).reverse := fun A' h' F u => by
  have hc0 : c0.length < 1000 := by
    have := hv.small (c0.map It.s) (List.mem_map_of_mem (by cases css with | nil => simp at h0 | cons a r => simp at h0; subst h0; simp))
    rwa [List.length_map] at this
  refine call_inst (W.up u).K (i0.up u) cl_postfix.call rfl rfl ?_
  refine c_postfix (W.up u) (F.less (by decide)) (i0.up u) (hv.up (Up.seq u)) hw (rowK_st _ _ _ _ (Up.seq u) hw0) (by
    rw [List.length_take]
    have := cutRow_len two c0.reverse
    rw [List.length_reverse] at this
    omega) (fun e => ?_) fun A₂ h₂ vs' F₂ u₂ hp h4 => ?_
  · obtain ⟨e2, cs, e3⟩ := hb e
    subst e2
    refine ⟨(cs.reverse.take (told S (css.map fun c => cutRow false c.reverse) n)), ?_⟩
    show ((c0.reverse.map It.s).take _) = _
    rw [e3, ← List.map_reverse, ← List.map_take, ← List.map_take]
  · have uu : Up h h₂ := fun b o e => u₂ b o (u b o e)
    have e1 : (css.map (List.map It.s)).map List.reverse = (css.map List.reverse).map (List.map It.s) := by
      rw [List.map_map, List.map_map]; exact List.map_congr_left fun c _ => (List.map_reverse (f := It.s) (l := c)).symm
    have e2 : (css.map List.reverse).map (cutRow two) = css.map fun c => cutRow two c.reverse := by rw [List.map_map]; rfl
    rw [e1] at hp
    have hl := hp.length
    have hr2 : Rows h₂ vs' ((css.map List.reverse).map (List.map It.s)) := ⟨paired_mono (fun v r y => .inl y) hp, fun r hr => by
      rw [← e1] at hr
      obtain ⟨r', hr', rfl⟩ := List.mem_map.mp hr
      rw [List.length_reverse]; exact hv.small r' hr', by omega⟩
    have B := begs_cut (W.up uu) (two := two) (b := false) (n := n) cl_postfix (i0.up uu) (sim.up uu) hr2 (c0 := c0.reverse) (by cases two with
      | true => rfl
      | false => exact hp) (by cases css with | nil => simp at h0 | cons a r => simp at h0; subst h0; rfl) (by rw [e2]; exact hn) (by rw [e2]; exact hok)
    rw [e2] at B
    exact B A₂ h₂ F₂ fun _ _ e => e
end

/-! part Fq49 -/
section
variable {M : Model} {A : Around} {s₀ s : Shared} {h g : Heap} {L : Nat} {m cm : Str → Option Value} {cs : List (Str × Addr)} {env : Env} {ps : Array Value}
theorem FS.store_cellK {name : Str} {v : Value} {c : Nat} {Q : Unit → Shared → Prop} {E : Value → Shared → Prop} (x : FS s₀ h L m cs cm g s) (hc : cs.lookup name = some c) (he : env.cells = cs) (hk : env.scope.kind = .function) (hl : env.kindOf name = some .cell)
    (q : ∀ s', FS s₀ h L m cs (fun y => if y = name then some v else cm y) g s' → (∀ (b : Nat) o, b ≠ c → s.heap.get? b = some o → s'.heap.get? b = some o) → Q () s') : wpAny M A (storeName env name v) Q E s := by
  subst he
  obtain ⟨c1, c2, c3⟩ := x.offC name c hc
  refine wpAny_storeName_cell hk hl hc (x.cell name c hc) fun h' hn hs => q _ ⟨⟨?_, x.ran.up, fun b o e => hs.extBut b o (fun z => ?_) (x.ran.low b o e), x.ran.new⟩, x.ns.sameBut hs (Ne.symm c3), x.offL, x.freshL, fun n c' hc' => ?_, x.offC, x.apart⟩ fun b o hb e => hs.extBut b o hb e
  · obtain ⟨h₁, t₁, rfl, k₁⟩ := x.ran.keeps
    exact ⟨h', t₁, rfl, fun b o e => hs.extBut b o (fun z => by subst z; rw [c2] at e; cases e) (k₁ b o e)⟩
  · subst z; rw [c1] at e; cases e
  · by_cases hn' : n = name
    · subst hn'
      rw [hc] at hc'; cases hc'
      simpa using hn
    · rw [if_neg hn']
      obtain ⟨o, a, b⟩ := x.cell n c' hc'
      exact ⟨o, hs.extBut _ _ (fun z => hn' (x.apart n name c' hc' (z ▸ hc))) a, b⟩
/-- frames may be looked into by an exception: only their slots turn -/
theorem FS.slots {h' : Heap} {tk : Nat} (x : FS s₀ h L m [] cm g s) (k : ∀ (b : Nat) o, b ≠ L → s.heap.get? b = some o → h'.get? b = some o) (n : h'.Ns L m) : FS s₀ h L m [] cm g { s with heap := h', toks := tk } := by
  refine ⟨⟨?_, x.ran.up, fun b o e => k b o (fun z => by rw [z, x.offL] at e; cases e) (x.ran.low b o e), x.ran.new⟩, n, x.offL, x.freshL, fun n c hc => by simp at hc, x.offC, x.apart⟩
  obtain ⟨h₁, t₁, rfl, k₁⟩ := x.ran.keeps
  exact ⟨h', tk, rfl, fun b o e => k b o (fun z => by rw [z, x.freshL] at e; cases e) (k₁ b o e)⟩
/-- the state within law: FS, and the table of code objects -/
structure LS (s₀ : Shared) (h : Heap) (L : Nat) (m : Str → Option Value) (cs : List (Str × Addr)) (cm : Str → Option Value) (g : Heap) (ps : Array Value) (s : Shared) : Prop where
  fs : FS s₀ h L m cs cm g s
  tab : s.heap.get? 265 = some (tabObj ps)
  off : g.get? 265 = none
  off0 : s₀.heap.get? 265 = none
theorem LS.neL (x : LS s₀ h L m cs cm g ps s) : (265 : Nat) ≠ L := fun e => by
  obtain ⟨o, es, ep, e1, e2, _⟩ := x.fs.ns
  have := x.tab
  rw [e, e1] at this
  cases this
  cases e2
theorem LS.neC (x : LS s₀ h L m cs cm g ps s) : ∀ n c, cs.lookup n = some c → c ≠ (265 : Nat) := fun n c hc e => by
  obtain ⟨o, e1, e2⟩ := x.fs.cell n c hc
  have := x.tab
  rw [← e, e1] at this
  cases this
  cases e2
theorem LS.eval {α : Type} {t : Sem α} {P : Heap → α → Heap → Prop} {Q : α → Shared → Prop} {E : Value → Shared → Prop} (x : LS s₀ h L m cs cm g ps s)
    (gv : ∀ ge, Up g ge → ge.Ns L m → (∀ n c, cs.lookup n = some c → ge.IsCell c (cm n)) → Gives M A ge t (P ge))
    (q : ∀ v s' ge gp g', LS s₀ h L m cs cm g' ps s' → Up g g' → Up g ge → Out L cs ge gp g' → P ge v gp → Q v s') : wpAny M A t Q E s :=
  x.fs.evalN gv fun v s' ge gp g' a k b c d e f => q v s' ge gp g' ⟨a, keeps_up k _ _ x.tab, (f 265).elim id (fun z => z.elim (fun ⟨o, e⟩ => (by rw [x.off] at e; cases e)) fun e => (by rw [x.tab] at e; cases e)), x.off0⟩ b c d e
theorem LS.evalR {α : Type} {t : Sem α} {P : α → Heap → Prop} {Q : α → Shared → Prop} {E : Value → Shared → Prop} (x : LS s₀ h L m cs cm g ps s) (st : ∀ v g g', SeqUp g g' → P v g → P v g')
    (gv : ∀ ge, Up g ge → ge.Ns L m → (∀ n c, cs.lookup n = some c → ge.IsCell c (cm n)) → Gives M A ge t P)
    (q : ∀ v s' g', LS s₀ h L m cs cm g' ps s' → Up g g' → P v g' → Q v s') : wpAny M A t Q E s :=
  x.eval (P := fun _ => P) gv fun v s' ge gp g' a b _ d e => q v s' g' a b (st v gp g' d.seq e)
theorem LS.evalF {α : Type} {t : Sem α} {P : α → Prop} {Q : α → Shared → Prop} {E : Value → Shared → Prop} (x : LS s₀ h L m cs cm g ps s)
    (gv : ∀ ge, Up g ge → ge.Ns L m → (∀ n c, cs.lookup n = some c → ge.IsCell c (cm n)) → Gives M A ge t fun v _ => P v)
    (q : ∀ v s' g', LS s₀ h L m cs cm g' ps s' → Up g g' → P v → Q v s') : wpAny M A t Q E s :=
  x.evalR (P := fun v _ => P v) (fun _ _ _ _ e => e) gv q
theorem LS.store {name : Str} {v : Value} {Q : Unit → Shared → Prop} {E : Value → Shared → Prop} (x : LS s₀ h L m cs cm g ps s) (hL : env.locals = L) (hk : env.scope.kind = .function) (hl : env.kindOf name = some .local)
    (q : ∀ s', LS s₀ h L (fun y => if y = name then some v else m y) cs cm g ps s' → Q () s') : wpAny M A (storeName env name v) Q E s :=
  x.fs.storeK hL hl (fun s' a k => q s' ⟨a, k _ _ x.neL x.tab, x.off, x.off0⟩) (by rw [hk]; rfl)
theorem LS.store_cell {name : Str} {v : Value} {c : Nat} {Q : Unit → Shared → Prop} {E : Value → Shared → Prop} (x : LS s₀ h L m cs cm g ps s) (hc : cs.lookup name = some c) (he : env.cells = cs) (hk : env.scope.kind = .function) (hl : env.kindOf name = some .cell)
    (q : ∀ s', LS s₀ h L m cs (fun y => if y = name then some v else cm y) g ps s' → Q () s') : wpAny M A (storeName env name v) Q E s :=
  x.fs.store_cellK hc he hk hl fun s' a k => q s' ⟨a, k _ _ (Ne.symm (x.neC name c hc)) x.tab, x.off, x.off0⟩
theorem LS.keep {s' : Shared} (x : LS s₀ h L m cs cm g ps s) (k : Keeps s s') : LS s₀ h L m cs cm g ps s' := ⟨x.fs.keep k, keeps_up k _ _ x.tab, x.off, x.off0⟩
theorem gv_ifexp {test body orelse : Expr} {pos : Pos} {P : Value → Heap → Prop} (x : Gives M A h (isTrue test env (PySem.eval test env)) fun b g => Gives M A g (if b then PySem.eval body env else PySem.eval orelse env) P) : Gives M A h (PySem.eval (.IfExp test body orelse pos) env) P := by
  rw [arm_eval_IfExp]
  refine x.bind fun b g _ y => ?_
  cases b <;> exact y
end
/-! the law's function -/
noncomputable def lawBody (w : World) : List Stmt := match (hd.heap_39 w.params).lookup 268 with
  | some ⟨_, _, .func fd, _⟩ => (match fd.body with
    | .stmts b => b
    | _ => [])
  | _ => []
noncomputable def lawScope (w : World) : Scope := match (hd.heap_39 w.params).lookup 268 with
  | some ⟨_, _, .func fd, _⟩ => fd.scope
  | _ => { kind := .module, names := [], isGenerator := false, isCoroutine := false }
noncomputable def lawB (w : World) (n : Nat) : List Stmt := (lawBody w).drop n
structure LawE (w : World) (env : Env) (L : Nat) : Prop where
  sc : env.scope = lawScope w
  gl : env.globals = mainGlobals
  bi : env.builtins = builtinsNs
  lo : env.locals = L
  ce : env.cells = [(("groups" : Str), L + 2), (("q" : Str), L + 1)]
  co : env.code = .ref 267
  fr : env.frame = some L
  eq : ∃ fa nm, env = envOfC nm (lawScope w) L fa (.ref 267)
section
variable {w : World} {env : Env} {L : Nat}
theorem LawE.ek (e : LawE w env L) : env.scope.kind = .function := by rw [e.sc]; rfl
theorem LawE.kd (e : LawE w env L) (x : Str) : env.kindOf x = (lawScope w).names.lookup x := by unfold Env.kindOf; rw [e.sc]
end
example (w : World) : ∃ a, lawB w 0 = a :: lawB w 1 := ⟨_, rfl⟩
example (w : World) : ∃ a, lawB w 26 = a :: lawB w 27 := ⟨_, rfl⟩
example (w : World) : lawB w 27 = [] := rfl

/-! part Fq50 -/
section
variable {w : World} {env : Env} {L : Nat} {M : Model} {ge : Heap} {m : Str → Option Value} {x : Str} {v : Value} {mg mb : Str → Option Value}
theorem LawE.loc (E : LawE w env L) (gN : ge.Ns L m) (hx : (lawScope w).names.lookup x = some .local) (hv : m x = some v) : Looks M ge (loadName env x) v := lk_local E.ek (by rw [E.kd]; exact hx) (E.lo ▸ gN) hv
theorem LawE.cel {c : Nat} (E : LawE w env L) (hx : (lawScope w).names.lookup x = some .cell) (hc : env.cells.lookup x = some c) (hv : ge.IsCell c (some v)) : Looks M ge (loadName env x) v := lk_cell E.ek (by rw [E.kd]; exact hx) hc hv
theorem LawE.blt (E : LawE w env L) (W : Wd (hd.heap_39 w.params) mg mb ge) (hx : (lawScope w).names.lookup x = some .globalImplicit) (e : nsIn (hd.heap_39 w.params) mainGlobals x = some none) (hv : bootBuiltins x = some v) (hn : x ≠ "__name__") : Looks M ge (loadName env x) v :=
  lk_builtin W E.ek (by rw [E.kd]; exact hx) E.gl E.bi e hv hn
theorem LawE.glb (E : LawE w env L) (W : Wd (hd.heap_39 w.params) mg mb ge) (hx : (lawScope w).names.lookup x = some .globalImplicit) (e : nsIn (hd.heap_39 w.params) mainGlobals x = some (some v)) : Looks M ge (loadName env x) v :=
  lk_global W E.ek (by rw [E.kd]; exact hx) E.gl e
theorem LawE.kl (E : LawE w env L) (hx : (lawScope w).names.lookup x = some .local) : env.kindOf x = some .local := by rw [E.kd]; exact hx
theorem LawE.kc (E : LawE w env L) (hx : (lawScope w).names.lookup x = some .cell) : env.kindOf x = some .cell := by rw [E.kd]; exact hx
end
theorem ints_at : ∀ {vs : List Value} {ns : List Int}, IntsAre vs ns → vs.length = ns.length ∧ ∀ v ∈ vs, ∃ i t, v = .int i t
  | _, _, .nil => ⟨rfl, by simp⟩
  | _, _, .cons n t r => by
    obtain ⟨h1, h2⟩ := ints_at r
    refine ⟨by simp [h1], fun v hv => ?_⟩
    rcases List.mem_cons.mp hv with rfl | hv
    · exact ⟨n, t, rfl⟩
    · exact h2 v hv
/-- the script -/
structure Scr (h : Heap) (sa : Nat) (vs : List Value) : Prop where
  lst : h.IsList sa (List.toArray vs)
  allInt : ∀ v ∈ vs, ∃ i t, v = .int i t
  few : vs.length ≤ 63
  are : ∃ ns, IntsAre vs ns
abbrev lawCs (L : Nat) : List (Str × Addr) := [(("groups" : Str), L + 2), (("q" : Str), L + 1)]
abbrev LM (w : World) : Model := model PySem.Challenge.rw_fq5031_01.row.prog w
section
variable {w : World} {A : Around} {env : Env} {L : Nat} {s₀ s : Shared} {h g : Heap} {m cm : Str → Option Value} {cs : List (Str × Addr)} {ps : Array Value} {mg mb : Str → Option Value} {Q : Flow → Shared → Prop} {Er : Value → Shared → Prop} {sa : Nat} {vs : List Value}
theorem st0 (E : LawE w env L) (S : Scr h sa vs) (ls : LS s₀ h L m cs cm g ps s) (ms : m "script" = some (.ref sa))
    (k : ∀ s' g' i t, LS s₀ h L (fun y => if y = "head" then some (.int i t) else m y) cs cm g' ps s' → Up g g' → wpAny (LM w) A (execs (lawB w 1) env) Q Er s') : wpAny (LM w) A (execs (lawB w 0) env) Q Er s := by
  have e : lawB w 0 = _ :: lawB w 1 := rfl
  rw [e]
  clear e
  have up : ∀ ge, Up g ge → Up h ge := fun ge u b o e => u b o (ls.fs.ran.up b o e)
  refine wpAny_execs_cons (wpAny_Assign_Name (ls.evalF (P := fun v => ∃ i t, v = .int i t) (fun ge ug gN gC => ?_) fun v s₁ g₁ ls₁ u₁ p => ?_))
  · have hl := S.lst.at fun o e => up ge ug _ o e
    have few := S.few
    refine gv_ifexp (gt_value (gv_name (E.loc gN rfl ms) (gt_list hl (by omega) ?_)))
    cases vs with
    | nil => exact .eq (if_neg (by simp)) (gv_int fun t => ⟨_, t, rfl⟩)
    | cons v0 r => exact .eq (if_pos (by simp)) (gv_sub (gv_name (E.loc gN rfl ms) (gv_int fun t => op_item_list (k := 0) hl rfl (by decide) (S.allInt v0 (by simp)))))
  · obtain ⟨i, t, rfl⟩ := p
    exact ls₁.store E.lo E.ek (E.kl rfl) fun s₂ ls₂ => k s₂ g₁ i t ls₂ u₁
theorem gv_minus {A : Around} {h : Heap} {env : Env} {i : Int} {n : Nat} {p1 p2 : Pos} {P : Value → Heap → Prop} (p : ∀ t, P (.int (-i) t) h) : Gives (LM w) A h (eval (.UnaryOp .USub (.Constant (.int i) n p1) p2) env) P := fun Q E s k q =>
  PySem.wpAny_UnaryOp (wpAny_Constant_int (PyProof.Rows.neg_int (q _ _ h (ran_tok k) (p _))))
theorem st1 (E : LawE w env L) (S : Scr h sa vs) (ls : LS s₀ h L m cs cm g ps s) (ms : m "script" = some (.ref sa))
    (k : ∀ s' g' i t, LS s₀ h L (fun y => if y = "tail" then some (.int i t) else m y) cs cm g' ps s' → Up g g' → wpAny (LM w) A (execs (lawB w 2) env) Q Er s') : wpAny (LM w) A (execs (lawB w 1) env) Q Er s := by
  have e : lawB w 1 = _ :: lawB w 2 := rfl
  rw [e]
  clear e
  have up : ∀ ge, Up g ge → Up h ge := fun ge u b o e => u b o (ls.fs.ran.up b o e)
  refine wpAny_execs_cons (wpAny_Assign_Name (ls.evalF (P := fun v => ∃ i t, v = .int i t) (fun ge ug gN gC => ?_) fun v s₁ g₁ ls₁ u₁ p => ?_))
  · have hl := S.lst.at fun o e => up ge ug _ o e
    have few := S.few
    refine gv_ifexp (gt_value (gv_name (E.loc gN rfl ms) (gt_list hl (by omega) ?_)))
    cases hv : vs.getLast? with
    | none =>
      have : vs = [] := List.getLast?_eq_none_iff.mp hv
      exact .eq (if_neg (by simp [this])) (gv_int fun t => ⟨_, t, rfl⟩)
    | some v0 =>
      have hne : vs ≠ [] := fun e => by rw [e] at hv; cases hv
      exact .eq (if_pos (by simp [hne])) (gv_sub (gv_name (E.loc gN rfl ms) (gv_minus fun t => op_item_list_last hl hv (S.allInt v0 (List.mem_of_getLast? hv)))))
  · obtain ⟨i, t, rfl⟩ := p
    exact ls₁.store E.lo E.ek (E.kl rfl) fun s₂ ls₂ => k s₂ g₁ i t ls₂ u₁
def HdT (v : Value) (g : Heap) : Prop := ∃ (T : Nat) (way : Nat) (tw : Tok) (b : Bool) (M : Nat) (tm : Tok), v = .ref T ∧ way < 5 ∧ 2 ≤ M ∧ M ≤ 4 ∧ g.IsTuple T (List.toArray [.int (way : Int) tw, .bool b, .int (M : Int) tm])
theorem st2 (E : LawE w env L) (hh : A.handled = none) (ls : LS s₀ h L m cs cm g ps s) {i : Int} {t : Tok} (mh : m "head" = some (.int i t))
    (k : ∀ s' g' (way : Nat) tw (b : Bool) (M : Nat) tm, way < 5 → 2 ≤ M → M ≤ 4 → LS s₀ h L (fun y => if y = "way" then some (.int way tw) else if y = "behind" then some (.bool b) else if y = "many" then some (.int M tm) else m y) cs cm g' ps s' → Up g g' → wpAny (LM w) A (execs (lawB w 3) env) Q Er s') :
    wpAny (LM w) A (execs (lawB w 2) env) Q Er s := by
  have e : lawB w 2 = _ :: lawB w 3 := rfl
  rw [e]
  clear e
  refine wpAny_execs_cons (Assign_Tuple_swapped (names := ["way", "behind", "many"]) (ls.evalR (P := HdT) (by rintro v g g' k ⟨T, way, tw, b, M, tm, e, h1, h2, h3, h4⟩; exact ⟨T, way, tw, b, M, tm, e, h1, h2, h3, isTuple_seq k h4⟩) (fun ge ug gN gC => ?_) fun v s₁ g₁ ls₁ u₁ p => ?_) rfl (by obtain ⟨fa, nm, he⟩ := E.eq; rw [he]; rfl))
  · have lh := E.loc (M := LM w) gN (x := "head") rfl mh
    refine gv_tuple (gs_cons (gv_binop (gv_name lh (gv_int fun t1 => (op_mod (by decide)).mono fun v1 g1 u1 ⟨tw, e1⟩ => gs_cons ?_))))
    subst e1
    refine gv_cmp (gv_binop (gv_binop (gv_name (lh.keeps u1) (gv_int fun t2 => (op_floordiv (by decide) (by decide)).mono fun v2 g2 u2 ⟨t3, e2⟩ => ?_))))
    subst e2
    refine gv_int fun t4 => (op_mod (by decide)).mono fun v3 g3 u3 ⟨t5, e3⟩ => ?_
    subst e3
    refine gv_int fun t6 => op_eqi.mono fun v4 g4 u4 e4 => gs_cons ?_
    subst e4
    refine gv_binop (gv_int fun t7 => gv_binop (gv_binop (gv_name (lh.keeps fun b o e => u4 b o (u3 b o (u2 b o (u1 b o e)))) (gv_int fun t8 => (op_floordiv (by decide) (by decide)).mono fun v5 g5 u5 ⟨t9, e5⟩ => ?_))))
    subst e5
    refine gv_int fun t10 => (op_mod (by decide)).mono fun v6 g6 u6 ⟨t11, e6⟩ => ?_
    subst e6
    refine op_add.mono fun v7 g7 u7 ⟨t12, e7⟩ => gs_nil ((gv_newTuple (by show 3 ≤ _; decide)).mono fun v8 g8 u8 ⟨T, e8, _, hT⟩ => ?_)
    subst e7
    have a1 : 0 ≤ i.fmod 5 ∧ i.fmod 5 < 5 := ⟨Int.fmod_nonneg_of_pos _ (by decide), Int.fmod_lt_of_pos _ (by decide)⟩
    have a2 : 0 ≤ (i.fdiv 10).fmod 3 ∧ (i.fdiv 10).fmod 3 < 3 := ⟨Int.fmod_nonneg_of_pos _ (by decide), Int.fmod_lt_of_pos _ (by decide)⟩
    refine ⟨T, (i.fmod 5).toNat, tw, (i.fdiv 5).fmod 2 == 1, (2 + (i.fdiv 10).fmod 3).toNat, t12, e8, by omega, by omega, by omega, ?_⟩
    have c1 : (((i.fmod 5).toNat : Nat) : Int) = i.fmod 5 := Int.toNat_of_nonneg a1.1
    have c2 : (((2 + (i.fdiv 10).fmod 3).toNat : Nat) : Int) = 2 + (i.fdiv 10).fmod 3 := Int.toNat_of_nonneg (by omega)
    rw [c1, c2]
    exact hT
  · obtain ⟨T, way, tw, b, M, tm, rfl, h1, h2, h3, hT⟩ := p
    have hT' := hT.at (h' := s₁.heap) fun o e => ls₁.fs.ran.low _ o e
    refine unpackItems_tuple (items := List.toArray [.int (way : Int) tw, .bool b, .int (M : Int) tm]) hh hT' fun h' hx => ?_
    have ls₂ := ls₁.keep (s' := { s₁ with heap := h' }) ⟨h', s₁.toks, rfl, fun b o e => hx b o (Nat.ne_of_lt (Heap.lt_size e)) e⟩
    show wpAny (LM w) A (assignInOrder [fun v => bindName env "many" v, fun v => bindName env "behind" v, fun v => bindName env "way" v] [.int (M : Int) tm, .bool b, .int (way : Int) tw]) _ _ _
    refine assignInOrder_cons (bindName_ (ls₂.store E.lo E.ek (E.kl rfl) fun s₃ ls₃ => ?_))
    refine assignInOrder_cons (bindName_ (ls₃.store E.lo E.ek (E.kl rfl) fun s₄ ls₄ => ?_))
    refine assignInOrder_cons (bindName_ (ls₄.store E.lo E.ek (E.kl rfl) fun s₅ ls₅ => assignInOrder_nil ?_))
    exact k s₅ g₁ way tw b M tm h1 h2 h3 ls₅ u₁
/-- if behind: way = way % 3 -/
theorem st3 (E : LawE w env L) (ls : LS s₀ h L m cs cm g ps s) {way : Nat} {tw : Tok} {b : Bool} (mb' : m "behind" = some (.bool b)) (mw : m "way" = some (.int way tw)) (hw : way < 5)
    (k : ∀ s' g' m' (way' : Nat) tw, way' < 5 → (b = true → way' < 3) → LS s₀ h L m' cs cm g' ps s' → Up g g' → m' "way" = some (.int way' tw) → (∀ y : Str, y ≠ "way" → m' y = m y) → wpAny (LM w) A (execs (lawB w 4) env) Q Er s') :
    wpAny (LM w) A (execs (lawB w 3) env) Q Er s := by
  have e : lawB w 3 = _ :: lawB w 4 := rfl
  rw [e]
  clear e
  refine wpAny_execs_cons (wpAny_If (ls.evalF (P := fun c => c = b) (fun ge ug gN gC => gt_value (gv_name (E.loc gN rfl mb') (gt_bool rfl))) fun c s₁ g₁ ls₁ u₁ p => ?_))
  subst p
  cases c with
  | false =>
    simp only [Bool.false_eq_true, if_false]
    refine wpAny_execs_nil ?_
    dsimp only
    exact k s₁ g₁ m way tw hw (fun e => by cases e) ls₁ u₁ mw fun _ _ => rfl
  | true =>
    simp only [if_true]
    refine wpAny_execs_cons (wpAny_Assign_Name (ls₁.evalF (P := fun v => ∃ t, v = .int ((way : Int).fmod 3) t) (fun ge ug gN gC => gv_binop (gv_name (E.loc gN rfl mw) (gv_int fun t1 => (op_mod (by decide)).mono fun v g _ ⟨t, e⟩ => ⟨t, e⟩))) fun v s₂ g₂ ls₂ u₂ p => ?_))
    obtain ⟨t, rfl⟩ := p
    refine ls₂.store E.lo E.ek (E.kl rfl) fun s₃ ls₃ => wpAny_execs_nil ?_
    dsimp only
    have a1 : 0 ≤ (way : Int).fmod 3 ∧ (way : Int).fmod 3 < 3 := ⟨Int.fmod_nonneg_of_pos _ (by decide), Int.fmod_lt_of_pos _ (by decide)⟩
    exact k s₃ g₂ _ ((way : Int).fmod 3).toNat t (by omega) (fun _ => by omega) ls₃ (fun b o e => u₂ b o (u₁ b o e)) (by simp [Int.toNat_of_nonneg a1.1]) fun y hy => by simp [hy]
end

/-! part Fq51 -/
/-- law while its texts are made: the list D of texts is stored into -/
structure TS (s₀ : Shared) (h : Heap) (L : Nat) (m : Str → Option Value) (cs : List (Str × Addr)) (cm : Str → Option Value) (g : Heap) (ps : Array Value) (D : Nat) (ts : List Str) (s : Shared) : Prop where
  ls : LS s₀ h L m cs cm g ps s
  lst : LstV StrV s.heap (.ref D) ts
  gD : g.get? D = none
  sD : s₀.heap.get? D = none
section
variable {w : World} {A : Around} {s₀ s : Shared} {h g : Heap} {L : Nat} {m cm : Str → Option Value} {cs : List (Str × Addr)} {env : Env} {ps : Array Value} {D : Nat} {ts : List Str}
theorem TS.obj (x : TS s₀ h L m cs cm g ps D ts s) : ∃ o vs n, s.heap.get? D = some o ∧ o.data = .seq vs n := by
  obtain ⟨a, vs, e, ⟨o, e1, _, n, e2⟩, _⟩ := x.lst
  cases e
  exact ⟨o, _, n, e1, e2⟩
theorem TS.neL (x : TS s₀ h L m cs cm g ps D ts s) : D ≠ L := fun e => by
  obtain ⟨o, vs, n, e1, e2⟩ := x.obj
  obtain ⟨o', _, _, e3, e4, _⟩ := x.ls.fs.ns
  rw [e, e3] at e1; cases e1; rw [e4] at e2; cases e2
theorem TS.neP (x : TS s₀ h L m cs cm g ps D ts s) : D ≠ 265 := fun e => by
  obtain ⟨o, vs, n, e1, e2⟩ := x.obj
  rw [e, x.ls.tab] at e1; cases e1; cases e2
theorem TS.neC (x : TS s₀ h L m cs cm g ps D ts s) : ∀ n c, cs.lookup n = some c → D ≠ c := fun n c hc e => by
  obtain ⟨o, vs, k, e1, e2⟩ := x.obj
  obtain ⟨o', e3, e4⟩ := x.ls.fs.cell n c hc
  rw [e, e3] at e1; cases e1; rw [e4] at e2; cases e2
/-- what is evaluated with the texts at hand tells of no object -/
theorem TS.eval {M : Model} {α : Type} {t : Sem α} {P : α → Prop} {Q : α → Shared → Prop} {E : Value → Shared → Prop} (x : TS s₀ h L m cs cm g ps D ts s)
    (gv : ∀ ge, Up g ge → ge.Ns L m → (∀ n c, cs.lookup n = some c → ge.IsCell c (cm n)) → LstV StrV ge (.ref D) ts → Gives M A ge t fun v _ => P v)
    (q : ∀ v s', TS s₀ h L m cs cm g ps D ts s' → Keeps s s' → P v → Q v s') : wpAny M A t Q E s := by
  obtain ⟨a, vs, e, hl, hp⟩ := x.lst
  cases e
  obtain ⟨o, e1, r⟩ := hl
  obtain ⟨g', fs', u', hD⟩ := x.ls.fs.add e1 x.sD x.neL x.neC
  refine fs'.evalN (P := fun _ v _ => P v) (fun ge ug gN gC => gv ge (fun b o e => ug b o (u' b o e)) gN gC ⟨D, vs, rfl, ⟨o, ug _ _ hD, r⟩, paired_mono (fun _ _ z => z) hp⟩) fun v s' ge gp g₂ fs₂ k u₂ _ _ p _ => ?_
  refine q v s' ⟨⟨fs₂.weaken (fun b o e => u₂ b o (u' b o e)) x.ls.fs.ran.up, keeps_up k _ _ x.ls.tab, x.ls.off, x.ls.off0⟩, ⟨D, vs, rfl, ⟨o, keeps_up k _ _ e1, r⟩, paired_mono (fun _ _ z => z) hp⟩, x.gD, x.sD⟩ k p
theorem TS.store {M : Model} {name : Str} {v : Value} {Q : Unit → Shared → Prop} {E : Value → Shared → Prop} (x : TS s₀ h L m cs cm g ps D ts s) (hL : env.locals = L) (hk : env.scope.kind = .function) (hl : env.kindOf name = some .local)
    (q : ∀ s', TS s₀ h L (fun y => if y = name then some v else m y) cs cm g ps D ts s' → (∀ (b : Nat) o, b ≠ L → s.heap.get? b = some o → s'.heap.get? b = some o) → Q () s') : wpAny M A (storeName env name v) Q E s := by
  obtain ⟨a, vs, e, ⟨o, e1, r⟩, hp⟩ := x.lst
  cases e
  exact x.ls.fs.storeK hL hl (fun s' a k => q s' ⟨⟨a, k _ _ x.ls.neL x.ls.tab, x.ls.off, x.ls.off0⟩, ⟨D, vs, rfl, ⟨o, k _ _ x.neL e1, r⟩, paired_mono (fun _ _ z => z) hp⟩, x.gD, x.sD⟩ k) (by rw [hk]; rfl)
/-- the list D takes other texts -/
theorem TS.put {h' : Heap} {tk : Nat} {vs' : List Value} {ts' : List Str} (x : TS s₀ h L m cs cm g ps D ts s) (hl : h'.IsList D (List.toArray vs')) (hp : Paired (StrV h') vs' ts') (hs : ∀ (b : Nat) o, b ≠ D → s.heap.get? b = some o → h'.get? b = some o) : TS s₀ h L m cs cm g ps D ts' { s with heap := h', toks := tk } :=
  ⟨⟨x.ls.fs.mut fun b o hb e => hs b o (fun z => by
    subst z
    rcases hb with ⟨o', e'⟩ | e' | ⟨n, c, hc, e'⟩ | ⟨o', e'⟩
    · rw [x.gD] at e'; cases e'
    · exact x.neL e'
    · exact x.neC n c hc e'
    · rw [x.sD] at e'; cases e') e, hs _ _ (Ne.symm x.neP) x.ls.tab, x.ls.off, x.ls.off0⟩, ⟨D, vs', rfl, hl, hp⟩, x.gD, x.sD⟩
/-- an iterator turns -/
theorem TS.move {h' : Heap} {tk : Nat} {I : Nat} (x : TS s₀ h L m cs cm g ps D ts s) (hs : ∀ (b : Nat) o, b ≠ I → s.heap.get? b = some o → h'.get? b = some o) (g0 : g.get? I = none) (s0 : s₀.heap.get? I = none) (nL : I ≠ L) (nC : ∀ n c, cs.lookup n = some c → I ≠ c) (nD : I ≠ D) (nP : I ≠ 265) : TS s₀ h L m cs cm g ps D ts { s with heap := h', toks := tk } := by
  obtain ⟨a, vs, e, ⟨o, e1, r⟩, hp⟩ := x.lst
  cases e
  exact ⟨⟨x.ls.fs.mut fun b o hb e => hs b o (fun z => by
    subst z
    rcases hb with ⟨o', e'⟩ | e' | ⟨n, c, hc, e'⟩ | ⟨o', e'⟩
    · rw [g0] at e'; cases e'
    · exact nL e'
    · exact nC n c hc e'
    · rw [s0] at e'; cases e') e, hs _ _ (Ne.symm nP) x.ls.tab, x.ls.off, x.ls.off0⟩, ⟨D, vs, rfl, ⟨o, hs _ _ (Ne.symm nD) e1, r⟩, paired_mono (fun _ _ z => z) hp⟩, x.gD, x.sD⟩
/-- a for loop that stores into the texts -/
theorem TS.for {x : Str} {xp : Pos} {xv : Value} {n : Nat} {P : Nat → Value → Prop} {body : List Stmt} (C : Nat → (Str → Option Value) → List Str → Prop) {R : Result → Shared → Prop} {E : Value → Shared → Prop}
    (ts0 : TS s₀ h L m cs cm g ps D ts s) (hh : A.handled = none) (hit : Iter PySem.Challenge.rw_fq5031_01.row.prog w g xv n P) (hC : C 0 m ts) (hL : env.locals = L) (hk : env.scope.kind = .function) (hx : env.kindOf x = some .local)
    (turn : ∀ i m ts s v (E' : Value → Shared → Prop), i < n → P i v → C i m ts → TS s₀ h L (fun y => if y = x then some v else m y) cs cm g ps D ts s →
      wpAny (LM w) A (execs body env) (fun f s' => f = .next ∧ ∃ m' ts', TS s₀ h L m' cs cm g ps D ts' s' ∧ C (i + 1) m' ts' ∧ ∀ (b : Nat) o, b ≠ L → b ≠ D → s.heap.get? b = some o → s'.heap.get? b = some o) E' s)
    (fin : ∀ m ts s', TS s₀ h L m cs cm g ps D ts s' → C n m ts → R (.ok .next) s') :
    wpAny (LM w) A (pyIter xv) (fun it s₂ => codeAny (LM w) A (.forLoop (.Name x xp) it body [] env) R s₂) E s := by
  refine hit A _ E s hh ts0.ls.fs.ran.low fun s₁ I fp St k₁ hI hW hIo hst hfp hfk => ?_
  have W := hW A hh
  have al : ∀ (b : Nat), (∃ o, s.heap.get? b = some o) → I ≠ b := fun b ⟨o, e⟩ z => by rw [← z, hI] at e; cases e
  have g0 : g.get? I = none := by
    cases z : g.get? I with
    | none => rfl
    | some o => rw [ts0.ls.fs.ran.low I o z] at hI; cases hI
  have s0 : s₀.heap.get? I = none := by
    cases z : s₀.heap.get? I with
    | none => rfl
    | some o => rw [keeps_up ts0.ls.fs.ran.keeps I o z] at hI; cases hI
  have nL : I ≠ L := al L (by obtain ⟨o, _, _, e, _⟩ := ts0.ls.fs.ns; exact ⟨o, e⟩)
  have nC : ∀ n c, cs.lookup n = some c → I ≠ c := fun n c hc => al c (by obtain ⟨o, e, _⟩ := ts0.ls.fs.cell n c hc; exact ⟨o, e⟩)
  have nD : I ≠ D := al D (by obtain ⟨o, _, _, e, _⟩ := ts0.obj; exact ⟨o, e⟩)
  have nP : I ≠ 265 := al 265 ⟨_, ts0.ls.tab⟩
  have fL : ∀ b ∈ fp, b ≠ L ∧ b ≠ D := fun b hb => by
    by_cases e : b = I
    · rw [e]; exact ⟨nL, nD⟩
    · obtain ⟨o, e2⟩ := hfk b hb e
      exact ⟨fun z => (by rw [z, ts0.ls.fs.offL] at e2; cases e2), fun z => (by rw [z, ts0.gD] at e2; cases e2)⟩
  have ts1 : TS s₀ h L m cs cm g ps D ts s₁ := by
    obtain ⟨h₁, t₁, rfl, kk⟩ := k₁
    exact ts0.move (fun b o _ e => kk b o e) g0 s0 nL nC nD nP
  have nI : ∀ b, b ≠ I → b ∉ [I] := fun b hb hm => hb (List.mem_singleton.mp hm)
  refine codeAny_forLoop (fun k s' => ∃ i m ts, k = n + 1 - i ∧ i ≤ n ∧ St i s'.heap ∧ TS s₀ h L m cs cm g ps D ts s' ∧ C i m ts) ?_ (n + 1) ⟨0, m, ts, rfl, Nat.zero_le _, hst, ts1, hC⟩
  rintro k s' ⟨i, m', ts', rfl, hin, hst', ts2, hC'⟩
  by_cases hlt : i < n
  · refine W.item i _ _ _ hlt hst' fun v h₂ tk₂ hPv hst₂ hk₂ => ?_
    have ts3 := ts2.move (h' := h₂) (tk := tk₂) (I := I) (fun b o hb e => hk₂ b o (nI b hb) e) g0 s0 nL nC nD nP
    refine wpAny_assign_Name (ts3.store hL hk hx fun s₄ ts4 k4 => ?_)
    have hst4 : St (i + 1) s₄.heap := W.frame _ _ _ hst₂ fun b hb o e => k4 b o (fL b hb).1 e
    refine wpAny_mono (turn i m' ts' s₄ v _ hlt hPv hC' ts4) (fun f s₅ z => ?_) fun _ _ z => z
    obtain ⟨rfl, m5, ts5, h5, hC5, k5⟩ := z
    exact ⟨n + 1 - (i + 1), by omega, i + 1, m5, ts5, rfl, hlt, W.frame _ _ _ hst4 fun b hb o e => k5 b o (fL b hb).1 (fL b hb).2 e, h5, hC5⟩
  · have hie : i = n := by omega
    subst hie
    refine W.done _ _ _ hst' fun h₂ tk₂ hk₂ => ?_
    have ts3 := ts2.move (h' := h₂) (tk := tk₂) (I := I) (fun b o hb e => hk₂ b o (nI b hb) e) g0 s0 nL nC nD nP
    exact wpAny_execs_nil (fin m' ts' _ ts3 hC')
end

/-! part Fq52 -/
section
variable {w : World} {A : Around} {env : Env} {L : Nat} {s₀ s : Shared} {h g : Heap} {m cm : Str → Option Value} {ps : Array Value} {mg mb : Str → Option Value} {Q : Flow → Shared → Prop} {Er : Value → Shared → Prop} {D : Nat} {ts : List Str}
theorem TS.evalR {M : Model} {α : Type} {t : Sem α} {cs : List (Str × Addr)} {P : α → Heap → Prop} {Q : α → Shared → Prop} {E : Value → Shared → Prop} (x : TS s₀ h L m cs cm g ps D ts s) (st : ∀ v g g', SeqUp g g' → P v g → P v g')
    (gv : ∀ ge, Up g ge → ge.Ns L m → (∀ n c, cs.lookup n = some c → ge.IsCell c (cm n)) → Gives M A ge t P)
    (q : ∀ v s' g', TS s₀ h L m cs cm g' ps D ts s' → Up g g' → P v g' → Q v s') : wpAny M A t Q E s := by
  obtain ⟨a, vs, e, ⟨o, e1, r⟩, hp⟩ := x.lst
  cases e
  refine x.ls.fs.evalN (P := fun _ => P) gv fun v s' ge gp g' a k b _ d e f => q v s' g' ⟨⟨a, keeps_up k _ _ x.ls.tab, ?_, x.ls.off0⟩, ⟨D, vs, rfl, ⟨o, keeps_up k _ _ e1, r⟩, paired_mono (fun _ _ z => z) hp⟩, ?_, x.sD⟩ b (st v gp g' d.seq e)
  · exact (f 265).elim id (fun z => z.elim (fun ⟨o, e⟩ => (by rw [x.ls.off] at e; cases e)) fun e => (by rw [x.ls.tab] at e; cases e))
  · exact (f D).elim id (fun z => z.elim (fun ⟨o, e⟩ => (by rw [x.gD] at e; cases e)) fun e => (by rw [e1] at e; cases e))
/-- texts = ['' for k in range(many)] -/
theorem st4 (E : LawE w env L) (hh : A.handled = none) (W : Wd (hd.heap_39 w.params) mg mb h) (ls : LS s₀ h L m (lawCs L) cm g ps s) {M : Nat} {tm : Tok} (mm : m "many" = some (.int M tm)) (hM : M ≤ 4)
    (k : ∀ D s', TS s₀ h L (fun y => if y = "texts" then some (.ref D) else m y) (lawCs L) cm g ps D (List.replicate M "") s' → wpAny (LM w) A (execs (lawB w 5) env) Q Er s') : wpAny (LM w) A (execs (lawB w 4) env) Q Er s := by
  have e : lawB w 4 = _ :: lawB w 5 := rfl
  rw [e]
  clear e
  have up : ∀ ge, Up g ge → Up h ge := fun ge u b o e => u b o (ls.fs.ran.up b o e)
  refine wpAny_execs_cons (fs_compN (x := "k") (n := M) (P := fun i v => ∃ t, v = .int (i : Int) t) (cl := []) (fun _ => true) (fun i v g => StrV g v "") ls.fs E.lo (E.kl rfl) E.ek (by obtain ⟨fa, nm, he⟩ := E.eq; rw [he]; rfl) (fun i v g g' _ y => y) hh (by obtain ⟨fa, nm, he⟩ := E.eq; rw [he]; rfl) (by decide) rfl (by decide) rfl (by have : sizeLine = 2 ^ 24 := rfl; omega) (fun ge ug gN gC => ?_) (fun _ => rfl)
    fun D s' g' ys fs' ug' kL hD hl hp _ => ?_)
  · refine gv_call (gv_name (E.blt (W.up (up ge ug)) rfl rfl rfl (by decide)) (gv_call1 kept_type (gv_name (E.loc gN rfl mm) ?_))) rfl
    refine (op_range1 (by omega) (by omega)).mono fun v g₂ _ hit => ⟨by simpa using hit, fun C g i v m hi hp ug hN hm => Gives.pure rfl, fun C g₁ i v m hi hp _ ug hN hm => gv_str fun t => ⟨t, rfl⟩⟩
  · dsimp only
    have n0 : ∀ b, s.heap.get? b = none → g.get? b = none := fun b e => by
      cases z : g.get? b with
      | none => rfl
      | some o => rw [ls.fs.ran.low b o z] at e; cases e
    have n1 : s₀.heap.get? D = none := by
      cases z : s₀.heap.get? D with
      | none => rfl
      | some o => rw [keeps_up ls.fs.ran.keeps D o z] at hD; cases hD
    obtain ⟨h1, h2⟩ := range_all hp
    refine k D s' ⟨⟨fs'.weaken ug' ls.fs.ran.up, kL _ _ ls.neL ls.tab, ls.off, ls.off0⟩, ⟨D, ys, rfl, hl.at fun o e => fs'.ran.low _ o e, paired_of (by simp [h1]) fun i a b ha hb => ?_⟩, n0 D hD, n1⟩
    rw [List.getElem?_replicate] at hb
    split at hb
    · cases hb; exact h2 i a ha
    · cases hb
theorem gv_part {M : Model} {A : Around} {h : Heap} {e : Expr} {env : Env} {P : Value → Heap → Prop} (x : Gives M A h (eval e env) P) : Gives M A h (evalPart (some e) env) P := x
def OkT (b : Nat) (t : Str) : Prop := t.length ≤ b ∧ ∀ y ∈ sg t, okSign y
theorem okT_empty (b : Nat) : OkT b "" := ⟨Nat.zero_le _, fun y hy => by cases hy⟩
theorem okT_add {b : Nat} {t y : Str} (h : OkT b t) (hy : okSign y) (h1 : y.length = 1) : OkT (b + 1) (t ++ y) := by
  refine ⟨by rw [Str.length_append]; have := h.1; omega, fun z hz => ?_⟩
  rw [sg_append] at hz
  rcases List.mem_append.mp hz with hz | hz
  · exact h.2 z hz
  · obtain ⟨c⟩ := y
    have hc : c.size = 1 := h1
    obtain ⟨a, ha⟩ : ∃ a, c = #[a] := by
      obtain ⟨l⟩ := c
      match l, hc with
      | [a], _ => exact ⟨a, rfl⟩
    subst ha
    have : z = ⟨#[a]⟩ := by simpa [sg, PyProof.Rows.signs] using hz
    rw [this]; exact hy
theorem sign_at {k : Nat} (hk : k < 3) : ∃ c, (("ab " : Str)).cps[k]? = some c ∧ okSign ⟨#[c]⟩ := by
  match k, hk with
  | 0, _ => exact ⟨97, rfl, .inl rfl⟩
  | 1, _ => exact ⟨98, rfl, .inr (.inl rfl)⟩
  | 2, _ => exact ⟨32, rfl, .inr (.inr rfl)⟩
def InvT (m0 : Str → Option Value) (M : Nat) (m' : Str → Option Value) (ts' : List Str) : Prop := (∀ y : Str, y ≠ "number" → y ≠ "k" → m' y = m0 y) ∧ ts'.length = M ∧ ∀ t ∈ ts', OkT 5 t
theorem paired_set {α β : Type} {F : α → β → Prop} {l : List α} {k : List β} {a : α} {b : β} (p : Paired F l k) (h : F a b) (i : Nat) : Paired F (l.set i a) (k.set i b) := by
  induction p generalizing i with
  | nil => exact .nil
  | cons x r ih => cases i with
    | zero => exact .cons h r
    | succ i => exact .cons x (ih i)
/-- the loop that fills the texts -/
theorem st5 (E : LawE w env L) (hh : A.handled = none) (W : Wd (hd.heap_39 w.params) mg mb h) {sa : Nat} {vs : List Value} (S : Scr h sa vs) (t0 : TS s₀ h L m (lawCs L) cm g ps D ts s) {M : Nat} {tm : Tok} (mm : m "many" = some (.int M tm)) (hM2 : 2 ≤ M) (hM : M ≤ 4)
    (ms : m "script" = some (.ref sa)) (mt : m "texts" = some (.ref D)) (hts : ts.length = M) (hok : ∀ t ∈ ts, OkT 5 t)
    (k : ∀ g' s' m' ts', TS s₀ h L m' (lawCs L) cm g' ps D ts' s' → Up g g' → InvT m M m' ts' → wpAny (LM w) A (execs (lawB w 6) env) Q Er s') : wpAny (LM w) A (execs (lawB w 5) env) Q Er s := by
  have e : lawB w 5 = _ :: lawB w 6 := rfl
  rw [e]
  clear e
  have up : ∀ ge, Up g ge → Up h ge := fun ge u b o e => u b o (t0.ls.fs.ran.up b o e)
  refine wpAny_execs_cons (wpAny_For (t0.evalR (P := fun v g => ∃ (a : Nat) (l : List Value), v = .ref a ∧ g.IsList a (List.toArray l) ∧ ∀ v ∈ l, ∃ i t, v = .int i t) (by rintro v g g' k ⟨a, l, e, h1, h2⟩; exact ⟨a, l, e, isList_seq k h1, h2⟩) (fun ge ug gN gC => ?_) fun v s₁ g₁ t1 u₁ p => ?_) fun _ => rfl)
  · have hl := S.lst.at fun o e => up ge ug _ o e
    obtain ⟨ns, hns⟩ := S.are
    refine gv_sub (gv_name (E.loc gN rfl ms) (gv_slice (gv_part (gv_int fun t1 => gv_part (gv_int fun t2 => fun a g'' u'' hsl => ?_)))))
    refine op_slice_list (hl.at fun o e => u'' _ o e) (by have := S.few; have e : sizeLine = 2 ^ 24 := rfl; omega) hsl (.int _ _) (.int _ _) fun b g3 u3 _ hb => ⟨b, (slicePick (List.toArray vs) (some 1) (some 21) none).toList, rfl, by simpa using hb, (ints_at (hns.pick (some 1) (some 21) none)).2⟩
  · obtain ⟨a, l, rfl, hl, hint⟩ := p
    have hit := iter_list (prog := PySem.Challenge.rw_fq5031_01.row.prog) (w := w) hl
    have W1 : Wd (hd.heap_39 w.params) mg mb g₁ := W.up fun b o e => u₁ b o (t0.ls.fs.ran.up b o e)
    refine t1.for (fun _ => InvT m M) hh hit ⟨fun _ _ _ => rfl, hts, hok⟩ E.lo E.ek (E.kl rfl) (fun i m' ts' s₂ v E' hi hv hC t2 => ?_) fun m' ts' s₂ t2 hC => k g₁ s₂ m' ts' t2 u₁ hC
    obtain ⟨c1, c2, c3⟩ := hC
    obtain ⟨j, tj, rfl⟩ := hint v (by
      have : v ∈ (List.toArray l) := Array.mem_of_getElem? hv
      simpa using this)
    have m2m : (fun y : Str => if y = "number" then some (Value.int j tj) else m' y) "many" = some (.int M tm) := by
      show m' "many" = _; rw [c1 _ (by decide) (by decide)]; exact mm
    have m2t : (fun y : Str => if y = "number" then some (Value.int j tj) else m' y) "texts" = some (.ref D) := by
      show m' "texts" = _; rw [c1 _ (by decide) (by decide)]; exact mt
    have m2n : (fun y : Str => if y = "number" then some (Value.int j tj) else m' y) "number" = some (.int j tj) := rfl
    have hMpos : (M : Int) ≠ 0 := by omega
    -- k = number % many
    refine wpAny_execs_cons (wpAny_Assign_Name (t2.eval (P := fun v => ∃ (k : Nat) (t : Tok), v = .int (k : Int) t ∧ k < M) (fun ge ug gN gC hD => ?_) fun v s₃ t3 k3 p => ?_))
    · refine gv_binop (gv_name (E.loc gN rfl m2n) (gv_name (E.loc gN rfl m2m) ((op_mod hMpos).mono fun v g _ ⟨t, e⟩ => ?_)))
      have a1 : 0 ≤ j.fmod M ∧ j.fmod M < M := ⟨Int.fmod_nonneg_of_pos _ (by omega), Int.fmod_lt_of_pos _ (by omega)⟩
      exact ⟨(j.fmod M).toNat, t, by rw [e, Int.toNat_of_nonneg a1.1], by omega⟩
    obtain ⟨q, tq, rfl, hq⟩ := p
    refine t3.store E.lo E.ek (E.kl rfl) fun s₄ t4 k4 => ?_
    dsimp only
    generalize hm4 : (fun y : Str => if y = "k" then some (Value.int (q : Int) tq) else if y = "number" then some (Value.int j tj) else m' y) = m4 at t4
    have m4m : m4 "many" = some (.int M tm) := by rw [← hm4]; exact m2m
    have m4t : m4 "texts" = some (.ref D) := by rw [← hm4]; exact m2t
    have m4n : m4 "number" = some (.int j tj) := by rw [← hm4]; rfl
    have m4k : m4 "k" = some (.int (q : Int) tq) := by rw [← hm4]; rfl
    have m4o : ∀ y : Str, y ≠ "number" → y ≠ "k" → m4 y = m y := fun y h1 h2 => by rw [← hm4]; simp only [h1, h2, if_false]; exact c1 y h1 h2
    have kk : ∀ (b : Nat) o, b ≠ L → s₂.heap.get? b = some o → s₄.heap.get? b = some o := fun b o hb e => k4 b o hb (keeps_up k3 b o e)
    obtain ⟨tq', htq⟩ : ∃ t, ts'[q]? = some t := ⟨_, List.getElem?_eq_getElem (by omega)⟩
    have hokq := c3 tq' (List.mem_of_getElem? htq)
    -- if len(texts[k]) < 5
    refine wpAny_execs_cons (wpAny_If (t4.eval (P := fun b => b = decide (tq'.length < 5)) (fun ge ug gN gC hD => ?_) fun b s₅ t5 k5 p => ?_))
    · have Wg := W1.up ug
      obtain ⟨D', us, e, hl', hp'⟩ := hD
      cases e
      obtain ⟨v0, hv0, tv, rfl⟩ := paired_both hp' q tq' htq
      refine gt_cmp (gv_call (gv_name (E.blt Wg rfl rfl rfl (by decide)) (gv_call1 kept_builtin (gv_sub (gv_name (E.loc gN rfl m4t) (gv_name (E.loc gN rfl m4k) (op_item_list hl' hv0 (by omega) ((op_len_str (by have := hokq.1; omega)).mono fun r g1 u1 ⟨t1, e1⟩ => ?_))))))))
      subst e1
      exact gv_int fun t2 => op_lti.mono fun v g _ e => by rw [e]; exact gt_bool (by simp; omega)
    subst p
    by_cases hlt : tq'.length < 5
    case neg =>
      simp only [hlt, decide_false, Bool.false_eq_true, if_false]
      refine wpAny_execs_nil ?_
      dsimp only
      exact wpAny_execs_nil ⟨rfl, m4, ts', t5, ⟨m4o, c2, c3⟩, fun b o hb _ e => keeps_up k5 b o (kk b o hb e)⟩
    case pos =>
      simp only [hlt, decide_true, if_true]
      refine wpAny_execs_cons (wpAny_AugAssign_Subscript_any (wpAny_Name (wpAny_loadName_local E.ek (E.kl rfl) (E.lo ▸ t5.ls.fs.ns) m4t (wpAny_Name (wpAny_loadName_local E.ek (E.kl rfl) (E.lo ▸ t5.ls.fs.ns) m4k ?_) (by decide))) (by decide)))
      obtain ⟨D', us, e, hl5, hp5⟩ := id t5.lst
      cases e
      obtain ⟨v0, hv0, tv, rfl⟩ := paired_both hp5 q tq' htq
      refine wpAny_getItem_list hl5 (by omega) (by omega) (by simpa using hv0) ?_
      refine t5.eval (P := fun v => ∃ y t, v = .str y t ∧ okSign y ∧ y.length = 1) (fun ge ug gN gC hD => ?_) fun v s₆ t6 k6 p => ?_
      · have a2 : 0 ≤ (j.fdiv M).fmod 3 ∧ (j.fdiv M).fmod 3 < 3 := ⟨Int.fmod_nonneg_of_pos _ (by decide), Int.fmod_lt_of_pos _ (by decide)⟩
        refine gv_sub (gv_str fun t1 => gv_binop (gv_binop (gv_name (E.loc gN rfl m4n) (gv_name (E.loc gN rfl m4m) ((op_floordiv hMpos (by omega)).mono fun v1 g1 u1 ⟨t2, e1⟩ => ?_)))))
        subst e1
        refine gv_int fun t3 => (op_mod (by decide)).mono fun v2 g2 u2 ⟨t4, e2⟩ => ?_
        subst e2
        obtain ⟨c, hc, hs⟩ := sign_at (k := ((j.fdiv M).fmod 3).toNat) (by omega)
        rw [← Int.toNat_of_nonneg a2.1]
        exact op_item_str hc (by omega) fun t5 => ⟨_, t5, rfl, hs, rfl⟩
      obtain ⟨y, ty, rfl, hy, hy1⟩ := p
      refine PyProof.Rows.iadd_str (fun t' tk => ?_) (by have := hokq.1; have e : sizeLine = 2 ^ 24 := rfl; omega)
      obtain ⟨D', us6, e, hl6, hp6⟩ := id t6.lst
      cases e
      refine wpAny_setItem_list (s := { s₆ with toks := tk }) hl6 (by omega) (by omega) (by have := hp6.length; simp; omega) fun h7 hl7 hs7 => wpAny_execs_nil ?_
      dsimp only
      have t7 := t6.put (h' := h7) (tk := tk) (vs' := us6.set q (.str (tq' ++ y) t')) (ts' := ts'.set q (tq' ++ y)) (by simpa using hl7) (paired_set (paired_mono (fun _ _ z => z) hp6) ⟨t', rfl⟩ q) fun b o hb e => hs7.extBut b o hb e
      refine wpAny_execs_nil ⟨rfl, m4, _, t7, ⟨m4o, by rw [List.length_set]; exact c2, fun t ht => ?_⟩, fun b o hb hb' e => hs7.extBut b o hb' (keeps_up k6 b o (keeps_up k5 b o (kk b o hb e)))⟩
      rcases List.mem_or_eq_of_mem_set ht with ht | rfl
      · exact c3 t ht
      · have hadd := okT_add (b := tq'.length) ⟨Nat.le_refl _, hokq.2⟩ hy hy1
        exact ⟨Nat.le_trans hadd.1 (by omega), hadd.2⟩
end

/-! part Fq53 -/
theorem okT_cat {a b : Nat} {x y : Str} (h : OkT a x) (k : OkT b y) : OkT (a + b) (x ++ y) := by
  refine ⟨by rw [Str.length_append]; have := h.1; have := k.1; omega, fun z hz => ?_⟩
  rw [sg_append] at hz
  rcases List.mem_append.mp hz with hz | hz
  · exact h.2 z hz
  · exact k.2 z hz
theorem okT_from {a : Nat} {x : Str} (h : OkT a x) (n : Nat) : OkT (x.length - n) (Txt.slice x (some (n : Int)) none) := by
  have e := signs_slice_from x n
  have e1 := sg_len (Txt.slice x (some (n : Int)) none)
  have e2 := sg_len x
  have e3 : (sg (Txt.slice x (some (n : Int)) none)) = (sg x).drop n := e
  refine ⟨?_, fun y hy => h.2 y (List.mem_of_mem_drop (e3 ▸ hy))⟩
  rw [e3, List.length_drop] at e1
  show (Txt.slice x (some (n : Int)) none).cps.size ≤ x.cps.size - n
  omega
theorem okT_upto {a : Nat} {x : Str} (h : OkT a x) (n : Nat) : OkT n (Txt.slice x none (some (n : Int))) := by
  have e := signs_slice_upto x n
  have e1 := sg_len (Txt.slice x none (some (n : Int)))
  have e3 : (sg (Txt.slice x none (some (n : Int)))) = (sg x).take n := e
  refine ⟨?_, fun y hy => h.2 y (List.mem_of_mem_take (e3 ▸ hy))⟩
  rw [e3, List.length_take] at e1
  show (Txt.slice x none (some (n : Int))).cps.size ≤ n
  omega
theorem okT_le {a b : Nat} {x : Str} (h : OkT a x) (l : a ≤ b) : OkT b x := ⟨Nat.le_trans h.1 l, h.2⟩
section
variable {w : World} {A : Around} {env : Env} {L : Nat} {s₀ s : Shared} {h g : Heap} {m cm : Str → Option Value} {ps : Array Value} {mg mb : Str → Option Value} {Q : Flow → Shared → Prop} {Er : Value → Shared → Prop} {D : Nat} {ts : List Str}
theorem TS.evalO {M : Model} {α : Type} {t : Sem α} {cs : List (Str × Addr)} {P : Heap → α → Heap → Prop} {Q : α → Shared → Prop} {E : Value → Shared → Prop} (x : TS s₀ h L m cs cm g ps D ts s)
    (gv : ∀ ge, Up g ge → ge.Ns L m → (∀ n c, cs.lookup n = some c → ge.IsCell c (cm n)) → Gives M A ge t (P ge))
    (q : ∀ v s' ge gp g', TS s₀ h L m cs cm g' ps D ts s' → Up g g' → Out L cs ge gp g' → P ge v gp → Q v s') : wpAny M A t Q E s := by
  obtain ⟨a, vs, e, ⟨o, e1, r⟩, hp⟩ := x.lst
  cases e
  refine x.ls.fs.evalN (P := P) gv fun v s' ge gp g' a k b _ d e f => q v s' ge gp g' ⟨⟨a, keeps_up k _ _ x.ls.tab, ?_, x.ls.off0⟩, ⟨D, vs, rfl, ⟨o, keeps_up k _ _ e1, r⟩, paired_mono (fun _ _ z => z) hp⟩, ?_, x.sD⟩ b d e
  · exact (f 265).elim id (fun z => z.elim (fun ⟨o, e⟩ => (by rw [x.ls.off] at e; cases e)) fun e => (by rw [x.ls.tab] at e; cases e))
  · exact (f D).elim id (fun z => z.elim (fun ⟨o, e⟩ => (by rw [x.gD] at e; cases e)) fun e => (by rw [e1] at e; cases e))
theorem op_range2O {A : Around} {a b : Int} {t u : Tok} (h0 : -(2 ^ 62) ≤ a) (h0' : a < 2 ^ 62) (h1 : -(2 ^ 62) ≤ b) (h1' : b < 2 ^ 62) : Gives (LM w) A h (call (.type "range") [.int a t, .int b u]) fun v g => ∃ (r : Nat) (k : Tok), v = .ref r ∧ h.get? r = none ∧ IsRange g r a b 1 t u k := fun Q E s k q => by
  refine call_range_2 ?_
  obtain ⟨g, r, e⟩ := ran_push (o := { cls := .type "range", data := .fields #[.int a t, .int b u, .int 1 s.toks] }) k rfl
  exact q _ _ g (r.trans ⟨keeps_tok _ _, fun _ _ e => e, r.low, fun _ _ e => .inl e⟩) ⟨_, _, rfl, no_size k, e⟩
/-- size = min(tail % 4, len(texts[0])) -/
theorem st6 (E : LawE w env L) (hh : A.handled = none) (W : Wd (hd.heap_39 w.params) mg mb h) (t0 : TS s₀ h L m (lawCs L) cm g ps D ts s) {i : Int} {tt : Tok} {x0 : Str} (mtl : m "tail" = some (.int i tt)) (mt : m "texts" = some (.ref D)) (h0 : ts[0]? = some x0) (hok : OkT 5 x0)
    (k : ∀ s' (z : Nat) t, z ≤ 3 → z ≤ x0.length → TS s₀ h L (fun y => if y = "size" then some (.int z t) else m y) (lawCs L) cm g ps D ts s' → wpAny (LM w) A (execs (lawB w 7) env) Q Er s') : wpAny (LM w) A (execs (lawB w 6) env) Q Er s := by
  have e : lawB w 6 = _ :: lawB w 7 := rfl
  rw [e]
  clear e
  have up : ∀ ge, Up g ge → Up h ge := fun ge u b o e => u b o (t0.ls.fs.ran.up b o e)
  refine wpAny_execs_cons (wpAny_Assign_Name (t0.eval (P := fun v => ∃ (z : Nat) (t : Tok), v = .int (z : Int) t ∧ z ≤ 3 ∧ z ≤ x0.length) (fun ge ug gN gC hD => ?_) fun v s₁ t1 k1 p => ?_))
  · have Wg := W.up (up ge ug)
    obtain ⟨D', us, e, hl', hp'⟩ := hD
    cases e
    obtain ⟨v0, hv0, tv, rfl⟩ := paired_both hp' 0 x0 h0
    have a1 : 0 ≤ i.fmod 4 ∧ i.fmod 4 < 4 := ⟨Int.fmod_nonneg_of_pos _ (by decide), Int.fmod_lt_of_pos _ (by decide)⟩
    refine gv_call (gv_name (E.blt Wg rfl rfl rfl (by decide)) (gv_call2 kept_builtin (gv_binop (gv_name (E.loc gN rfl mtl) (gv_int fun t1 => (op_mod (by decide)).mono fun v1 g1 u1 ⟨t2, e1⟩ => ?_)))))
    subst e1
    refine gv_call (gv_name ((E.blt Wg rfl rfl rfl (by decide)).keeps u1) (gv_call1 kept_builtin (gv_sub (gv_name ((E.loc gN rfl mt).keeps u1) (gv_int fun t3 => op_item_list (k := 0) (hl'.at fun o e => u1 _ o e) hv0 (by decide) ((op_len_str (by have := hok.1; omega)).mono fun v2 g2 u2 ⟨t4, e2⟩ => ?_))))))
    subst e2
    refine (op_min_two hh).mono fun v3 g3 u3 ⟨t5, e3⟩ => ?_
    have c : 0 ≤ min (i.fmod 4) (x0.length : Int) := by omega
    exact ⟨(min (i.fmod 4) (x0.length : Int)).toNat, t5, by rw [e3, Int.toNat_of_nonneg c], by omega, by omega⟩
  · obtain ⟨z, t, rfl, h1, h2⟩ := p
    exact t1.store E.lo E.ek (E.kl rfl) fun s₂ t2 _ => k s₂ z t h1 h2 t2
def InvU (m0 : Str → Option Value) (M : Nat) (x0 : Str) (i : Nat) (m' : Str → Option Value) (ts' : List Str) : Prop := (∀ y : Str, y ≠ "k" → m' y = m0 y) ∧ ts'.length = M ∧ ts'[0]? = some x0 ∧ ∀ (j : Nat) t, ts'[j]? = some t → OkT 8 t ∧ (1 + i ≤ j → OkT 5 t)
/-- the loop that puts the first text's beginning ahead, or its end behind -/
theorem st7 (E : LawE w env L) (hh : A.handled = none) (W : Wd (hd.heap_39 w.params) mg mb h) (t0 : TS s₀ h L m (lawCs L) cm g ps D ts s) {M : Nat} {tm : Tok} {b : Bool} {z : Nat} {tz : Tok} {x0 : Str} (mm : m "many" = some (.int M tm)) (hM2 : 2 ≤ M) (hM : M ≤ 4)
    (mb' : m "behind" = some (.bool b)) (mz : m "size" = some (.int z tz)) (hz : z ≤ 3) (hz0 : z ≤ x0.length) (mt : m "texts" = some (.ref D)) (hts : ts.length = M) (h0 : ts[0]? = some x0) (hok : ∀ t ∈ ts, OkT 5 t)
    (k : ∀ g' s' m' ts', TS s₀ h L m' (lawCs L) cm g' ps D ts' s' → Up g g' → (∀ y : Str, y ≠ "k" → m' y = m y) → ts'.length = M → (∀ t ∈ ts', OkT 8 t) → wpAny (LM w) A (execs (lawB w 8) env) Q Er s') : wpAny (LM w) A (execs (lawB w 7) env) Q Er s := by
  have e : lawB w 7 = _ :: lawB w 8 := rfl
  rw [e]
  clear e
  have up : ∀ ge, Up g ge → Up h ge := fun ge u b o e => u b o (t0.ls.fs.ran.up b o e)
  refine wpAny_execs_cons (wpAny_For (t0.evalO (P := fun ge v gp => ∃ (r : Nat) (t1 t2 t3 : Tok), v = .ref r ∧ ge.get? r = none ∧ IsRange gp r 1 (M : Int) 1 t1 t2 t3) (fun ge ug gN gC => ?_) fun v s₁ ge gp g₁ t1 u₁ out p => ?_) fun _ => rfl)
  · refine gv_call (gv_name (E.blt (W.up (up ge ug)) rfl rfl rfl (by decide)) (gv_call2 kept_type (gv_int fun t1 => gv_name (E.loc gN rfl mm) ((op_range2O (by decide) (by decide) (by omega) (by omega)).mono fun v g _ ⟨r, kk, e, e1, e2⟩ => ⟨r, _, _, kk, e, e1, e2⟩)))) rfl
  · obtain ⟨r, q1, q2, q3, rfl, hr0, hr⟩ := p
    have hit := iter_range (prog := PySem.Challenge.rw_fq5031_01.row.prog) (w := w) (n := M - 1) (show IsRange g₁ r 1 (M : Int) 1 q1 q2 q3 from out.new r _ hr0 hr) (small_one (by decide) (by decide) (by omega) (by omega)) (by rw [rangeSize_one]; split <;> omega)
    have W1 : Wd (hd.heap_39 w.params) mg mb g₁ := W.up fun b o e => u₁ b o (t0.ls.fs.ran.up b o e)
    refine t1.for (fun i => InvU m M x0 i) hh hit ⟨fun _ _ => rfl, hts, h0, fun j t e => ⟨okT_le (hok t (List.mem_of_getElem? e)) (by decide), fun _ => hok t (List.mem_of_getElem? e)⟩⟩ E.lo E.ek (E.kl rfl) (fun i m' ts' s₂ v E' hi hv hC t2 => ?_) fun m' ts' s₂ t2 hC => k g₁ s₂ m' ts' t2 u₁ hC.1 hC.2.1 fun t ht => by
      obtain ⟨j, hj⟩ := List.getElem?_of_mem ht
      exact (hC.2.2.2 j t hj).1
    obtain ⟨c1, c2, c3, c4⟩ := hC
    obtain ⟨tj, rfl⟩ := hv
    rw [show (1 + (i : Int) * 1) = ((1 + i : Nat) : Int) from by omega] at t2
    generalize hm4 : (fun y : Str => if y = "k" then some (Value.int ((1 + i : Nat) : Int) tj) else m' y) = m4 at t2
    have m4k : m4 "k" = some (.int ((1 + i : Nat) : Int) tj) := by rw [← hm4]; rfl
    have m4t : m4 "texts" = some (.ref D) := by rw [← hm4]; show m' "texts" = _; rw [c1 _ (by decide)]; exact mt
    have m4b : m4 "behind" = some (.bool b) := by rw [← hm4]; show m' "behind" = _; rw [c1 _ (by decide)]; exact mb'
    have m4z : m4 "size" = some (.int z tz) := by rw [← hm4]; show m' "size" = _; rw [c1 _ (by decide)]; exact mz
    have m4o : ∀ y : Str, y ≠ "k" → m4 y = m y := fun y h1 => by rw [← hm4]; simp only [h1, if_false]; exact c1 y h1
    obtain ⟨xk, hxk⟩ : ∃ t, ts'[1 + i]? = some t := ⟨_, List.getElem?_eq_getElem (by omega)⟩
    have hk5 := (c4 _ _ hxk).2 (Nat.le_refl _)
    have h08 := (c4 _ _ c3).1
    have sl : sizeLine = 2 ^ 24 := rfl
    -- what is stored
    have fin : ∀ {y : Str} {ty : Tok} {s₃ : Shared} {tpos vpos npos kpos : Pos} {value : Expr} {E'' : Value → Shared → Prop}, TS s₀ h L m4 (lawCs L) cm g₁ ps D ts' s₃ → Keeps s₂ s₃ → OkT 8 y →
        wpAny (LM w) A (eval (.Name "texts" npos) env) (fun ov s₄ => wpAny (LM w) A (eval (.Name "k" kpos) env) (fun iv s₅ => wpAny (LM w) A (setItem ov iv (.str y ty)) (fun _ s' => ∃ m' ts', TS s₀ h L m' (lawCs L) cm g₁ ps D ts' s' ∧ InvU m M x0 (i + 1) m' ts' ∧ ∀ (b : Nat) o, b ≠ L → b ≠ D → s₂.heap.get? b = some o → s'.heap.get? b = some o) E'' s₅) E'' s₄) E'' s₃ := fun {y ty s₃ tpos vpos npos kpos value E''} t3 k3 hy => by
      refine wpAny_Name (wpAny_loadName_local E.ek (E.kl rfl) (E.lo ▸ t3.ls.fs.ns) m4t (wpAny_Name (wpAny_loadName_local E.ek (E.kl rfl) (E.lo ▸ t3.ls.fs.ns) m4k ?_) (by decide))) (by decide)
      obtain ⟨D', us6, e, hl6, hp6⟩ := id t3.lst
      cases e
      have hlen := hp6.length
      refine wpAny_setItem_list hl6 (by omega) (by omega) (by simp; omega) fun h7 hl7 hs7 => ?_
      rw [show (((1 + i : Nat) : Int)).toNat = 1 + i from by omega] at hl7
      have t7 := t3.put (h' := h7) (tk := s₃.toks) (vs' := us6.set (1 + i) (.str y ty)) (ts' := ts'.set (1 + i) y) (by simpa using hl7) (paired_set (paired_mono (fun _ _ z => z) hp6) ⟨ty, rfl⟩ (1 + i)) fun b o hb e => hs7.extBut b o hb e
      refine ⟨m4, _, t7, ⟨m4o, by rw [List.length_set]; exact c2, by rw [List.getElem?_set_ne (by omega)]; exact c3, fun j t hj => ?_⟩, fun b o hb hb' e => hs7.extBut b o hb' (keeps_up k3 b o e)⟩
      by_cases e : 1 + i = j
      · subst e
        rw [List.getElem?_set_self (by omega)] at hj
        cases hj
        exact ⟨hy, fun z => absurd z (by omega)⟩
      · rw [List.getElem?_set_ne e] at hj
        exact ⟨(c4 j t hj).1, fun z => (c4 j t hj).2 (by omega)⟩
    refine wpAny_execs_cons (wpAny_If (t2.eval (P := fun c => c = b) (fun ge ug gN gC hD => gt_value (gv_name (E.loc gN rfl m4b) (gt_bool rfl))) fun c s₃ t3 k3 p => ?_))
    subst p
    cases c with
    | true =>
      simp only [if_true]
      refine wpAny_execs_cons (wpAny_Assign_Subscript (t3.eval (P := fun v => ∃ y t, v = .str y t ∧ OkT 8 y) (fun ge ug gN gC hD => ?_) fun v s₄ t4 k4 p => ?_))
      · have Wg := W1.up ug
        obtain ⟨D', us, e, hl', hp'⟩ := hD
        cases e
        obtain ⟨v0, hv0, tv0, rfl⟩ := paired_both hp' 0 x0 c3
        obtain ⟨vk, hvk, tvk, rfl⟩ := paired_both hp' (1 + i) xk hxk
        have l0 : ∀ {g'}, Up ge g' → Looks (LM w) g' (loadName env "texts") (.ref D) := fun u => (E.loc gN rfl m4t).keeps u
        refine gv_binop (gv_sub (gv_name (l0 fun _ _ e => e) (gv_name (E.loc gN rfl m4k) (op_item_list hl' hvk (by omega) ?_))))
        refine gv_sub (gv_sub (gv_name (l0 fun _ _ e => e) (gv_int fun t1 => op_item_list (k := 0) hl' hv0 (by decide) ?_)))
        refine gv_slice (gv_part (gv_binop (gv_call (gv_name (E.blt Wg rfl rfl rfl (by decide)) (gv_call1 kept_builtin (gv_sub (gv_name (l0 fun _ _ e => e) (gv_int fun t2 => op_item_list (k := 0) hl' hv0 (by decide) ((op_len_str (by have := h08.1; omega)).mono fun v1 g1 u1 ⟨t3, e1⟩ => ?_)))))))))
        subst e1
        refine gv_name ((E.loc gN rfl m4z).keeps u1) (op_sub.mono fun v2 g2 u2 ⟨t4, e2⟩ => Gives.pure fun a g3 u3 hsl => ?_)
        subst e2
        rw [show ((x0.length : Int) - z) = ((x0.length - z : Nat) : Int) from by omega] at hsl
        refine op_slice_str (l := some (((x0.length - z : Nat) : Int), t4)) (u := none) (by have := h08.1; omega) hsl fun t5 => ?_
        have ok1 := okT_from h08 (x0.length - z)
        refine (op_cat (by have := hk5.1; have := ok1.1; show _ + (Txt.slice x0 (some ((x0.length - z : Nat) : Int)) none).length ≤ _; omega)).mono fun v3 g4 u4 ⟨t6, e3⟩ => ⟨_, t6, e3, ?_⟩
        exact okT_le (okT_cat hk5 ok1) (by omega)
      · obtain ⟨y, ty, rfl, hy⟩ := p
        refine wpAny_mono (fin (tpos := default) (vpos := default) (value := .Name "" default) t4 (keeps_trans k3 k4) hy) (fun ov s' x => wpAny_mono x (fun iv s'' x => wpAny_mono x (fun _ s₉ x => wpAny_execs_nil ?_) fun _ _ z => z) fun _ _ z => z) fun _ _ z => z
        exact wpAny_execs_nil ⟨rfl, x⟩
    | false =>
      simp only [Bool.false_eq_true, if_false]
      refine wpAny_execs_cons (wpAny_Assign_Subscript (t3.eval (P := fun v => ∃ y t, v = .str y t ∧ OkT 8 y) (fun ge ug gN gC hD => ?_) fun v s₄ t4 k4 p => ?_))
      · obtain ⟨D', us, e, hl', hp'⟩ := hD
        cases e
        obtain ⟨v0, hv0, tv0, rfl⟩ := paired_both hp' 0 x0 c3
        obtain ⟨vk, hvk, tvk, rfl⟩ := paired_both hp' (1 + i) xk hxk
        have l0 : ∀ {g'}, Up ge g' → Looks (LM w) g' (loadName env "texts") (.ref D) := fun u => (E.loc gN rfl m4t).keeps u
        refine gv_binop (gv_sub (gv_sub (gv_name (l0 fun _ _ e => e) (gv_int fun t1 => op_item_list (k := 0) hl' hv0 (by decide) ?_))))
        refine gv_slice (Gives.pure (gv_part (gv_name (E.loc gN rfl m4z) fun a g3 u3 hsl => ?_)))
        refine op_slice_str (l := none) (u := some ((z : Int), tz)) (by have := h08.1; omega) hsl fun t5 => ?_
        have ok1 := okT_upto h08 z
        refine gv_sub (gv_name (l0 u3) (gv_name ((E.loc gN rfl m4k).keeps u3) (op_item_list (hl'.at fun o e => u3 _ o e) hvk (by omega) ?_)))
        refine (op_cat (by have := hk5.1; have := ok1.1; show (Txt.slice x0 none (some (z : Int))).length + _ ≤ _; omega)).mono fun v3 g4 u4 ⟨t6, e3⟩ => ⟨_, t6, e3, ?_⟩
        exact okT_le (okT_cat ok1 hk5) (by omega)
      · obtain ⟨y, ty, rfl, hy⟩ := p
        refine wpAny_mono (fin (tpos := default) (vpos := default) (value := .Name "" default) t4 (keeps_trans k3 k4) hy) (fun ov s' x => wpAny_mono x (fun iv s'' x => wpAny_mono x (fun _ s₉ x => wpAny_execs_nil ?_) fun _ _ z => z) fun _ _ z => z) fun _ _ z => z
        exact wpAny_execs_nil ⟨rfl, x⟩
end

/-! part Fq54 -/
section
variable {M : Model} {A : Around} {h : Heap} {env : Env}
theorem gs_consE {e : Expr} {rest : List Expr} {pos : Pos} {P : List Value → Heap → Prop} (x : Gives M A h (eval e env) fun v g => Gives M A g (spliced (backTo pos (starEach rest env))) fun vs g' => P (v :: vs) g')
    (he : starEach (e :: rest) env = (false, eval e env) :: starEach rest env := by rfl) : Gives M A h (spliced (backTo pos (starEach (e :: rest) env))) P := by rw [he]; exact gs_cons x
theorem gs_nilE {pos : Pos} {P : List Value → Heap → Prop} (p : P [] h) : Gives M A h (spliced (backTo pos (starEach [] env))) P := gs_nil p
theorem gt_bop {op : BoolOp} {vs : List Expr} {pos : Pos} {whole : Sem Value} {P : Bool → Heap → Prop} (x : Gives M A h (allTrue op vs env) P) : Gives M A h (isTrue (.BoolOp op vs pos) env whole) P := fun Q E s k q => wpAny_isTrue_BoolOp (x Q E s k q)
theorem ga_or {x : Expr} {rest : List Expr} {P : Bool → Heap → Prop} (y : Gives M A h (isTrue x env (eval x env)) fun b g => if b then P true g else Gives M A g (allTrue .Or rest env) P) : Gives M A h (allTrue .Or (x :: rest) env) P := fun Q E s k q =>
  wpAny_allTrue_Or_cons (y _ E s k fun b s1 g1 r1 z => by
    cases b with
    | true => exact q _ _ g1 r1 z
    | false => exact z Q E s1 r1.low fun v s2 g2 r2 p => q v s2 g2 (r1.trans r2) p)
theorem ga_or_nil {P : Bool → Heap → Prop} (p : P false h) : Gives M A h (allTrue .Or [] env) P := fun Q E s k q => wpAny_allTrue_Or_nil (q _ _ h (.refl k) p)
theorem ga_and {x : Expr} {rest : List Expr} {P : Bool → Heap → Prop} (y : Gives M A h (isTrue x env (eval x env)) fun b g => if b then Gives M A g (allTrue .And rest env) P else P false g) : Gives M A h (allTrue .And (x :: rest) env) P := fun Q E s k q =>
  wpAny_allTrue_And_cons (y _ E s k fun b s1 g1 r1 z => by
    cases b with
    | false => exact q _ _ g1 r1 z
    | true => exact z Q E s1 r1.low fun v s2 g2 r2 p => q v s2 g2 (r1.trans r2) p)
theorem ga_and_nil {P : Bool → Heap → Prop} (p : P true h) : Gives M A h (allTrue .And [] env) P := fun Q E s k q => wpAny_allTrue_And_nil (q _ _ h (.refl k) p)
theorem gv_or {e1 e2 : Expr} {rest : List Expr} {pos : Pos} {P : Value → Heap → Prop} (y : Gives M A h (eval e1 env) fun v g => Gives M A g (truthy v) fun c g' => if c then P v g' else Gives M A g' (eval (.BoolOp .Or (e2 :: rest) pos) env) P) : Gives M A h (eval (.BoolOp .Or (e1 :: e2 :: rest) pos) env) P := fun Q E s k q =>
  BoolOp_or (y _ E s k fun v s1 g1 r1 z => z _ E s1 r1.low fun c s2 g2 r2 u => by
    cases c with
    | true => exact q _ _ g2 (r1.trans r2) u
    | false => exact u Q E s2 r2.low fun v s3 g3 r3 p => q v s3 g3 ((r1.trans r2).trans r3) p)
theorem gv_and {e1 e2 : Expr} {rest : List Expr} {pos : Pos} {P : Value → Heap → Prop} (y : Gives M A h (eval e1 env) fun v g => Gives M A g (truthy v) fun c g' => if c then Gives M A g' (eval (.BoolOp .And (e2 :: rest) pos) env) P else P v g') : Gives M A h (eval (.BoolOp .And (e1 :: e2 :: rest) pos) env) P := fun Q E s k q =>
  BoolOp_and (y _ E s k fun v s1 g1 r1 z => z _ E s1 r1.low fun c s2 g2 r2 u => by
    cases c with
    | false => exact q _ _ g2 (r1.trans r2) u
    | true => exact u Q E s2 r2.low fun v s3 g3 r3 p => q v s3 g3 ((r1.trans r2).trans r3) p)
theorem gv_bop1 {op : BoolOp} {e : Expr} {pos : Pos} {P : Value → Heap → Prop} (x : Gives M A h (eval e env) P) : Gives M A h (eval (.BoolOp op [e] pos) env) P := x
theorem op_neb {prog : Program} {w : World} {a b : Bool} : Gives (model prog w) A h (compareOp .NotEq (.bool a) (.bool b)) fun v _ => v = .bool (a != b) := fun Q E s k q => PyProof.Rows.ne_bool (q _ _ h (.refl k) rfl)
theorem op_eqb {prog : Program} {w : World} {a b : Bool} : Gives (model prog w) A h (compareOp .Eq (.bool a) (.bool b)) fun v _ => v = .bool (a == b) := fun Q E s k q => PyProof.Rows.eq_bool (q _ _ h (.refl k) rfl)
theorem op_gti {prog : Program} {w : World} {a b : Int} {t u : Tok} : Gives (model prog w) A h (compareOp .Gt (.int a t) (.int b u)) fun v _ => v = .bool (decide (a > b)) := fun Q E s k q => PyProof.Rows.gt_int (q _ _ h (.refl k) rfl)
end
section
variable {w : World} {A : Around} {env : Env} {L : Nat} {s₀ s : Shared} {h g : Heap} {m cm : Str → Option Value} {cs : List (Str × Addr)} {ps : Array Value} {mg mb : Str → Option Value} {Q : Flow → Shared → Prop} {Er : Value → Shared → Prop} {D : Nat} {ts : List Str}
/-- the texts are stored into no more -/
theorem TS.know (x : TS s₀ h L m cs cm g ps D ts s) : ∃ g', LS s₀ h L m cs cm g' ps s ∧ Up g g' ∧ LstV StrV g' (.ref D) ts := by
  obtain ⟨a, vs, e, ⟨o, e1, r⟩, hp⟩ := x.lst
  cases e
  obtain ⟨g1, fs1, u1, h1⟩ := x.ls.fs.add e1 x.sD x.neL x.neC
  have hP : h.get? 265 = none := by
    cases z : h.get? 265 with
    | none => rfl
    | some o => have := x.ls.off; rw [x.ls.fs.ran.up _ _ z] at this; cases this
  obtain ⟨g2, fs2, n2, u2⟩ := fs1.drop (P := 265) hP
  exact ⟨g2, ⟨fs2, x.ls.tab, n2, x.ls.off0⟩, fun b o e => u2 b o (fun z => by rw [z, x.ls.off] at e; cases e) (u1 b o e), ⟨D, vs, rfl, ⟨o, u2 _ _ x.neP h1, r⟩, paired_mono (fun _ _ z => z) hp⟩⟩
theorem LS.freeze (x : LS s₀ h L m cs cm g ps s) : ∃ g', LS s₀ h L m [] cm g' ps s ∧ Up g g' ∧ ∀ n c, cs.lookup n = some c → g'.IsCell c (cm n) := by
  obtain ⟨g', fs', u, hc, hb⟩ := x.fs.freeze
  refine ⟨g', ⟨fs', x.tab, ?_, x.off0⟩, u, hc⟩
  rcases hb 265 with z | ⟨o, z⟩ | ⟨n, c, hc, z⟩
  · exact z
  · rw [x.off] at z; cases z
  · exact absurd z.symm (x.neC n c hc)
/-- q by way -/
def QV (way : Nat) (v : Value) : Prop := (way < 2 ∧ ∃ t, v = .int 1 t) ∨ (way = 2 ∧ ∃ t, v = .int 2 t) ∨ (way = 3 ∧ v = .none) ∨ (way = 4 ∧ ∃ t, v = .int 0 t)
theorem st8 (E : LawE w env L) (ls : LS s₀ h L m (lawCs L) cm g ps s) {way : Nat} {tw : Tok} (mw : m "way" = some (.int way tw)) (hw : way < 5)
    (k : ∀ s' g' v, QV way v → LS s₀ h L m (lawCs L) (fun y => if y = "q" then some v else cm y) g' ps s' → Up g g' → wpAny (LM w) A (execs (lawB w 9) env) Q Er s') : wpAny (LM w) A (execs (lawB w 8) env) Q Er s := by
  have e : lawB w 8 = _ :: lawB w 9 := rfl
  rw [e]
  clear e
  refine wpAny_execs_cons (wpAny_Assign_Name (ls.evalF (P := QV way) (fun ge ug gN gC => ?_) fun v s₁ g₁ ls₁ u₁ p => ?_))
  · refine gv_sub (gv_list (gs_consE (gv_int fun t1 => gs_consE (gv_int fun t2 => gs_consE (gv_int fun t3 => gs_consE (gv_none (gs_consE (gv_int fun t4 => gs_nilE ((gv_newList (by show 5 ≤ _; decide)).mono fun v g1 u1 ⟨a, e1, _, hl⟩ => ?_)))))))))
    subst e1
    refine gv_name ((E.loc gN rfl mw).keeps u1) ?_
    match way, hw with
    | 0, _ => exact op_item_list (k := 0) hl rfl (by decide) (.inl ⟨by decide, _, rfl⟩)
    | 1, _ => exact op_item_list (k := 1) hl rfl (by decide) (.inl ⟨by decide, _, rfl⟩)
    | 2, _ => exact op_item_list (k := 2) hl rfl (by decide) (.inr (.inl ⟨rfl, _, rfl⟩))
    | 3, _ => exact op_item_list (k := 3) hl rfl (by decide) (.inr (.inr (.inl ⟨rfl, rfl⟩)))
    | 4, _ => exact op_item_list (k := 4) hl rfl (by decide) (.inr (.inr (.inr ⟨rfl, _, rfl⟩)))
  · exact ls₁.store_cell (c := L + 1) rfl E.ce E.ek (E.kc rfl) fun s₂ ls₂ => k s₂ g₁ v p ls₂ u₁
/-- groups -/
def GV (w : World) (M way : Nat) (i : Int) (v : Value) (g : Heap) : Prop := (v = .none ∧ ¬ (M = 2 ∧ way < 2)) ∨ ((M = 2 ∧ way < 2) ∧ ∃ d : Nat, v = .ref d ∧ DG w g d (signG i) okSign)
theorem st9 (E : LawE w env L) (ls : LS s₀ h L m (lawCs L) cm g ps s) {way : Nat} {tw : Tok} {M : Nat} {tm : Tok} {i : Int} {tt : Tok} (mw : m "way" = some (.int way tw)) (mm : m "many" = some (.int M tm)) (mtl : m "tail" = some (.int i tt))
    (k : ∀ s' g' v, GV w M way i v g' → LS s₀ h L m (lawCs L) (fun y => if y = "groups" then some v else cm y) g' ps s' → Up g g' → wpAny (LM w) A (execs (lawB w 10) env) Q Er s') : wpAny (LM w) A (execs (lawB w 9) env) Q Er s := by
  have e : lawB w 9 = _ :: lawB w 10 := rfl
  rw [e]
  clear e
  refine wpAny_execs_cons (wpAny_Assign_Name (ls.eval (P := fun ge v g => (v = .none ∧ ¬ (M = 2 ∧ way < 2)) ∨ ((M = 2 ∧ way < 2) ∧ ∃ (d : Nat) (f : Str → Option Value), v = .ref d ∧ ge.get? d = none ∧ g.MapOf (strKind PySem.Challenge.rw_fq5031_01.row.prog w) d f ∧ ∀ y, okSign y → ∃ t, f y = some (.int (signG i y) t))) (fun ge ug gN gC => ?_) fun v s₁ ge gp g₁ ls₁ u₁ _ out p => ?_))
  · refine gv_ifexp (gt_bop (ga_and (gt_cmp (gv_name (E.loc gN rfl mm) (gv_int fun t1 => op_eqi.mono fun v g1 u1 e1 => ?_)))))
    rw [e1]
    refine gt_bool ?_
    by_cases h2 : M = 2
    · have c : ((M : Int) == 2) = true := by rw [beq_iff_eq]; omega
      rw [c]
      refine ga_and (gt_cmp (gv_name ((E.loc gN rfl mw).keeps u1) (gv_int fun t2 => op_lti.mono fun v g2 u2 e2 => ?_)))
      rw [e2]
      refine gt_bool ?_
      by_cases h3 : way < 2
      · have c2 : decide ((way : Int) < 2) = true := decide_eq_true (by omega)
        rw [c2]
        refine ga_and_nil ((gv_groups ((E.loc gN rfl mtl).keeps fun b o e => u2 b o (u1 b o e))).mono fun v g3 u3 ⟨d, f, e3, e4, e5, e6⟩ => .inr ⟨⟨h2, h3⟩, d, f, e3, ?_, e5, e6⟩)
        cases z : ge.get? d with
        | none => rfl
        | some o => rw [u2 _ _ (u1 _ _ z)] at e4; cases e4
      · have c2 : decide ((way : Int) < 2) = false := decide_eq_false (by omega)
        rw [c2]
        simp only [Bool.false_eq_true, if_false]
        exact gv_none (.inl ⟨rfl, fun z => h3 z.2⟩)
    · have c : ((M : Int) == 2) = false := by rw [beq_eq_false_iff_ne]; omega
      rw [c]
      simp only [Bool.false_eq_true, if_false]
      exact gv_none (.inl ⟨rfl, fun z => h2 z.1⟩)
  · refine ls₁.store_cell (c := L + 2) rfl E.ce E.ek (E.kc rfl) fun s₂ ls₂ => k s₂ g₁ v ?_ ls₂ u₁
    rcases p with p | ⟨p, d, f, e1, e2, ⟨o, es, ep, e3, e4⟩, e5⟩
    · exact .inl p
    · exact .inr ⟨p, d, e1, dg_of ⟨o, es, ep, out.new _ _ e2 e3, e4⟩ e5⟩
end

/-! part Fq55 -/
theorem word_cps {x a : Str} (h : a ∈ Txt.words x) : ∀ c ∈ a.cps.toList, c ∈ x.cps.toList := by
  unfold Txt.words at h
  split at h
  · rw [List.mem_singleton.mp h]; exact fun c hc => hc
  · unfold PySem.wordsOf at h
    obtain ⟨⟨i, j⟩, _, rfl⟩ := List.mem_map.mp h
    intro c hc
    have : c ∈ (x.cps.extract i j).toList := hc
    rw [Array.toList_extract] at this
    exact List.mem_of_mem_drop (List.mem_of_mem_take (by simpa [List.extract] using this))
theorem sign_small {y : Str} (h : okSign y) : ∀ c ∈ y.cps.toList, c < 0x110000 := by
  rcases h with rfl | rfl | rfl
  · intro c hc; have : c = 97 := by simpa using (show c ∈ [97] from hc)
    subst this; decide
  · intro c hc; have : c = 98 := by simpa using (show c ∈ [98] from hc)
    subst this; decide
  · intro c hc; have : c = 32 := by simpa using (show c ∈ [32] from hc)
    subst this; decide
theorem strOk_of {y : Str} (h : ∀ c ∈ y.cps.toList, c < 0x110000) : PyData.strOk y = true := by
  unfold PyData.strOk
  rw [← Array.all_toList, List.all_eq_true]
  exact fun c hc => decide_eq_true (h c hc)
theorem okT_cps {b : Nat} {t : Str} (h : OkT b t) : ∀ c ∈ t.cps.toList, c < 0x110000 := fun c hc => by
  have : one1 c ∈ sg t := by rw [sg_ones]; exact List.mem_map_of_mem hc
  exact sign_small (h.2 _ this) c (by simp [one1])
theorem okT_sign {b : Nat} {t y : Str} (h : OkT b t) (hy : y ∈ sg t) : itOk (.s y) = true := strOk_of (sign_small (h.2 y hy))
theorem okT_word {b : Nat} {t y : Str} (h : OkT b t) (hy : y ∈ Txt.words t) : itOk (.s y) = true := strOk_of fun c hc => okT_cps h c (word_cps hy c hc)
theorem words_len (t : Str) : (Txt.words t).length ≤ t.length + 1 := by have := StrLaws.words_weight t; omega
theorem pair_mem {l : List Str} {a : It} (h : a ∈ pairUp l) : ∃ x y, a = .p x y ∧ x ∈ l ∧ y ∈ l := by
  obtain ⟨⟨x, y⟩, hp, rfl⟩ := List.mem_map.mp h
  exact ⟨x, y, rfl, (List.of_mem_zip hp).1, List.mem_of_mem_tail (List.of_mem_zip hp).2⟩
theorem cut_ok {two : Bool} {l : List Str} (h : ∀ y ∈ l, itOk (.s y) = true) : ∀ a ∈ cutRow two l, itOk a = true := fun a ha => by
  cases two with
  | false => obtain ⟨y, hy, rfl⟩ := List.mem_map.mp (show a ∈ l.map It.s from ha); exact h y hy
  | true =>
    obtain ⟨x, y, rfl, hx, hy⟩ := pair_mem (show a ∈ pairUp l from ha)
    have h1 := h x hx
    have h2 := h y hy
    simp only [itOk] at h1 h2 ⊢
    rw [h1, h2]; rfl
/-- a text's row by way -/
def rowOf (way : Nat) (t : Str) : List It := if way > 2 then (Txt.words t).map .s else cutRow (way == 2) (sg t)
theorem rowOf_ok {way b : Nat} {t : Str} (h : OkT b t) : ∀ a ∈ rowOf way t, itOk a = true := fun a ha => by
  unfold rowOf at ha
  split at ha
  · obtain ⟨y, hy, rfl⟩ := List.mem_map.mp ha; exact okT_word h hy
  · exact cut_ok (fun y hy => okT_sign h hy) a ha
theorem rowOf_len {way b : Nat} {t : Str} (h : OkT b t) : (rowOf way t).length ≤ b + 1 := by
  unfold rowOf
  split
  · rw [List.length_map]; have := words_len t; have := h.1; omega
  · have := cutRow_len (way == 2) (sg t)
    have e := sg_len t
    have h1 := h.1
    have e2 : t.length = t.cps.size := rfl
    omega
abbrev sgScope : Scope := { kind := .function, names := [(".0", .local), ("sign", .local)], isGenerator := false, isCoroutine := false }
section
variable {w : World} {A : Around} {h : Heap} {env : Env}
/-- [sign for sign in text] -/
theorem gv_signs {p1 p2 p3 p4 : Pos} {x : Str} {t : Tok} (hh : A.handled = none) (hx : x.length < 1000) (lk : Looks (LM w) h (loadName env "text") (.str x t)) :
    Gives (LM w) A h (eval (.ListComp (.Name "sign" p1) [⟨.Name "sign" p2, .Name "text" p3, [], 0⟩] sgScope p4) env) fun v g => LstV ItV g v ((sg x).map .s) := by
  refine (comp_gives (x := "sign") (n := x.cps.size) (P := SignAt x) (cl := []) (fun _ => true) (fun i v g => ∃ y, (sg x)[i]? = some y ∧ StrV g v y) (fun i v g g' k y => y) hh rfl (by decide) rfl (by decide) rfl (by have : sizeLine = 2 ^ 24 := rfl; have e : x.length = x.cps.size := rfl; omega) ?iter fun _ => rfl).mono ?fin
  case iter => exact gv_name lk ⟨iter_str, fun C g i v m hi hp ug hN hm => Gives.pure rfl, fun C g i v m hi hp _ ug hN hm => gv_name (lk_local rfl rfl hN hm) (sg_at hp)⟩
  case fin =>
    rintro r g u ⟨a, ys, rfl, hl, hp⟩
    obtain ⟨h1, h2⟩ := range_all hp
    refine ⟨a, ys, rfl, hl, paired_of (by rw [List.length_map, sg_len, h1]) fun i v k hv hk => ?_⟩
    obtain ⟨y, hy, z⟩ := h2 i v hv
    rw [List.getElem?_map, hy] at hk
    cases hk
    exact z
end
/-- what is handed in: rows of signs, or the texts -/
def HR (lst : Bool) (h : Heap) (v : Value) (t : Str) : Prop := match lst with
  | true => LstV ItV h v ((sg t).map .s)
  | false => StrV h v t
theorem hr_st {lst : Bool} : Stable (HR lst) := fun h h' v a k x => by
  cases lst with
  | true => exact lstV_st itV_st _ _ _ _ k x
  | false => exact x
def lstd (way : Nat) (b : Bool) : Bool := way == 1 || (b && way == 2)
/-- what law knows once its texts, q and groups stand -/
structure LC (w : World) (L : Nat) (g : Heap) (D : Nat) (ts : List Str) (M way : Nat) (b : Bool) (i : Int) (qv gv : Value) : Prop where
  txt : LstV StrV g (.ref D) ts
  len : ts.length = M
  two : 2 ≤ M
  four : M ≤ 4
  ok : ∀ t ∈ ts, OkT 8 t
  five : way < 5
  beh : b = true → way < 3
  cq : g.IsCell (L + 1) (some qv)
  q : QV way qv
  cg : g.IsCell (L + 2) (some gv)
  gv : GV w M way i gv g
theorem LC.up {w : World} {L : Nat} {g g' : Heap} {D : Nat} {ts : List Str} {M way : Nat} {b : Bool} {i : Int} {qv gv : Value} (c : LC w L g D ts M way b i qv gv) (u : Up g g') : LC w L g' D ts M way b i qv gv :=
  ⟨lstV_st strV_st _ _ _ _ (Up.seq u) c.txt, c.len, c.two, c.four, c.ok, c.five, c.beh, c.cq.keeps u, c.q, c.cg.keeps u, c.gv.imp id fun ⟨h, d, e, dg⟩ => ⟨h, d, e, ⟨fun A h' x t v s F u' => dg.get A h' x t v s F fun b o e => u' b o (u b o e)⟩⟩⟩
section
variable {w : World} {A : Around} {env : Env} {L : Nat} {s₀ s : Shared} {h g : Heap} {m cm : Str → Option Value} {ps : Array Value} {mg mb : Str → Option Value} {Q : Flow → Shared → Prop} {Er : Value → Shared → Prop} {D : Nat} {ts : List Str} {M way : Nat} {b : Bool} {i : Int} {qv gv : Value} {tw : Tok}
theorem comp_texts {elt : Expr} {px p3 pos : Pos} {scope : Scope} {cl : List (Str × Addr)} {α : Type} {R : Heap → Value → α → Prop} {f : Str → α} {ge : Heap} (E : LawE w env L) (hh : A.handled = none) (ht : LstV StrV ge (.ref D) ts) (h4 : ts.length ≤ 4) (gN : ge.Ns L m) (mt : m "texts" = some (.ref D)) (st : Stable R)
    (hclos : closureFor scope env = pure cl) (hcell : ∀ y ∈ scope.names, y.2 ≠ .cell) (hkind : scope.kind = .function)
    (hnames : ∀ y ∈ scope.names, y.2 = .local → scope.names.lookup y.1 = some .local) (hx : scope.names.lookup ("text" : Str) = some .local)
    (el : ∀ C g₁ m₁ t tt, t ∈ ts → Up ge g₁ → g₁.Ns C m₁ → m₁ "text" = some (.str t tt) → Gives (LM w) A g₁ (eval elt (compEnvC scope cl C env)) fun v g => R g v (f t)) :
    Gives (LM w) A ge (eval (.ListComp elt [⟨.Name "text" px, .Name "texts" p3, [], 0⟩] scope pos) env) fun v g => LstV R g v (ts.map f) := by
  obtain ⟨a, vs, e, hl, hp⟩ := ht
  cases e
  have hlen := hp.length
  refine (comp_gives (x := "text") (n := vs.length) (P := fun i v => vs[i]? = some v) (cl := cl) (fun _ => true) (fun i v g => ∃ t, ts[i]? = some t ∧ R g v (f t)) (fun i v g g' k ⟨t, e, z⟩ => ⟨t, e, st _ _ _ _ k z⟩) hh hclos hcell hkind hnames hx (by have : sizeLine = 2 ^ 24 := rfl; omega) ?iter fun _ => rfl).mono ?fin
  case iter =>
    refine gv_name (E.loc gN rfl mt) ⟨by simpa using iter_list (prog := PySem.Challenge.rw_fq5031_01.row.prog) (w := w) hl, fun C g i v m hi hp ug hN hm => Gives.pure rfl, fun C g₁ i v m hi hpi _ ug hN hm => ?_⟩
    obtain ⟨t, ht, tt, rfl⟩ := paired_at hp i v hpi
    exact (el C g₁ m t tt (List.mem_of_getElem? ht) ug hN hm).mono fun v g _ z => ⟨t, ht, z⟩
  case fin =>
    rintro r g u ⟨a, ys, rfl, hl, hp⟩
    obtain ⟨h1, h2⟩ := range_all hp
    refine ⟨a, ys, rfl, hl, paired_of (by rw [List.length_map, h1, hlen]) fun i v k hv hk => ?_⟩
    obtain ⟨t, ht, z⟩ := h2 i v hv
    rw [List.getElem?_map, ht] at hk
    cases hk
    exact z
theorem st10 (E : LawE w env L) (hh : A.handled = none) (ls : LS s₀ h L m [] cm g ps s) (C : LC w L g D ts M way b i qv gv) (mw : m "way" = some (.int way tw)) (mb' : m "behind" = some (.bool b)) (mt : m "texts" = some (.ref D))
    (k : ∀ s' g' (H : Nat), LstV (HR (lstd way b)) g' (.ref H) ts → LS s₀ h L (fun y => if y = "handed" then some (.ref H) else m y) [] cm g' ps s' → Up g g' → wpAny (LM w) A (execs (lawB w 11) env) Q Er s') : wpAny (LM w) A (execs (lawB w 10) env) Q Er s := by
  have e : lawB w 10 = _ :: lawB w 11 := rfl
  rw [e]
  clear e
  refine wpAny_execs_cons (wpAny_Assign_Name (ls.evalR (P := fun v g => LstV (HR (lstd way b)) g v ts) (fun v g g' k z => lstV_st hr_st _ _ _ _ k z) (fun ge ug gN gC => ?_) fun v s₁ g₁ ls₁ u₁ p => ?_))
  · have Cg := C.up ug
    refine gv_ifexp (Gives.mono (P := fun c _ => c = lstd way b) ?_ fun c g1 u1 e1 => ?_)
    · refine gt_bop (ga_or (gt_cmp (gv_name (E.loc gN rfl mw) (gv_int fun t1 => op_eqi.mono fun v g1 u1 e1 => ?_))))
      rw [e1]
      refine gt_bool ?_
      by_cases h1 : way = 1
      · have c : ((way : Int) == 1) = true := by rw [beq_iff_eq]; omega
        rw [c]
        simp only [if_true]
        rw [lstd, h1]; rfl
      · have c : ((way : Int) == 1) = false := by rw [beq_eq_false_iff_ne]; omega
        have c1 : (way == 1) = false := by rw [beq_eq_false_iff_ne]; omega
        rw [c]
        simp only [Bool.false_eq_true, if_false]
        refine ga_or (gt_bop (ga_and (gt_value (gv_name ((E.loc gN rfl mb').keeps u1) (gt_bool ?_)))))
        cases b with
        | false =>
          simp only [Bool.false_eq_true, if_false]
          refine ga_or_nil ?_
          rw [lstd, c1]; rfl
        | true =>
          simp only [if_true]
          refine ga_and (gt_cmp (gv_name ((E.loc gN rfl mw).keeps u1) (gv_int fun t2 => op_eqi.mono fun v g2 u2 e2 => ?_)))
          rw [e2]
          refine gt_bool ?_
          by_cases h2 : way = 2
          · have c2 : ((way : Int) == 2) = true := by rw [beq_iff_eq]; omega
            rw [c2]
            simp only [if_true]
            refine ga_and_nil ?_
            simp only [if_true]
            rw [lstd, h2]; rfl
          · have c2 : ((way : Int) == 2) = false := by rw [beq_eq_false_iff_ne]; omega
            have c3 : (way == 2) = false := by rw [beq_eq_false_iff_ne]; omega
            rw [c2]
            simp only [Bool.false_eq_true, if_false]
            refine ga_or_nil ?_
            rw [lstd, c1, c3]; rfl
    · subst e1
      have C1 := Cg.up u1
      have N1 := gN.keeps u1
      cases lstd way b with
      | false =>
        simp only [Bool.false_eq_true, if_false]
        exact gv_name (E.loc N1 rfl mt) C1.txt
      | true =>
        simp only [if_true]
        refine (comp_texts (f := id) (R := HR true) (cl := []) E hh C1.txt (by rw [C.len]; exact C.four) N1 mt hr_st rfl (by decide) rfl (by decide) rfl fun C' g₁ m₁ t tt ht ug hN hm => ?_).mono fun v g u z => by simpa using z
        have := (C.ok t ht).1
        exact gv_signs hh (show t.length < 1000 by omega) (lk_local rfl rfl hN hm)
  · obtain ⟨H, vs, rfl, r⟩ := p
    exact ls₁.store E.lo E.ek (E.kl rfl) fun s₂ ls₂ => k s₂ g₁ H ⟨H, vs, rfl, r⟩ ls₂ u₁
end

/-! part Fq56 -/
section
variable {w : World} {A : Around} {env : Env} {L : Nat} {s₀ s : Shared} {h g : Heap} {m cm : Str → Option Value} {ps : Array Value} {mg mb : Str → Option Value} {Q : Flow → Shared → Prop} {Er : Value → Shared → Prop} {D : Nat} {ts : List Str} {M way : Nat} {b : Bool} {i : Int} {qv gv : Value} {tw : Tok}
theorem qv_two {way : Nat} {v : Value} (h : QV way v) (hw : ¬ way > 2) : Q2 v (way == 2) := by
  rcases h with ⟨h, t, rfl⟩ | ⟨h, t, rfl⟩ | ⟨h, rfl⟩ | ⟨h, t, rfl⟩
  · refine .inl ⟨1, t, rfl, ?_⟩
    have : (way == 2) = false := by rw [beq_eq_false_iff_ne]; omega
    rw [this]; rfl
  · refine .inl ⟨2, t, rfl, ?_⟩
    rw [h]; rfl
  · omega
  · omega
theorem st11 (E : LawE w env L) (F : Fine A 10) (W : Wd (hd.heap_39 w.params) mg mb h) (ls : LS s₀ h L m [] cm g ps s) (C : LC w L g D ts M way b i qv gv) (mw : m "way" = some (.int way tw)) (mt : m "texts" = some (.ref D))
    (k : ∀ s' g' v, LstV (LstV ItV) g' v (ts.map (rowOf way)) → LS s₀ h L (fun y => if y = "rows" then some v else m y) [] cm g' ps s' → Up g g' → wpAny (LM w) A (execs (lawB w 12) env) Q Er s') : wpAny (LM w) A (execs (lawB w 11) env) Q Er s := by
  have e : lawB w 11 = _ :: lawB w 12 := rfl
  rw [e]
  clear e
  have up : ∀ ge, Up g ge → Up h ge := fun ge u b o e => u b o (ls.fs.ran.up b o e)
  refine wpAny_execs_cons (wpAny_Assign_Name (ls.evalR (P := fun v g => LstV (LstV ItV) g v (ts.map (rowOf way))) (fun v g g' k z => lstV_st (lstV_st itV_st) _ _ _ _ k z) (fun ge ug gN gC => ?_) fun v s₁ g₁ ls₁ u₁ p => ?_))
  · have Cg := C.up ug
    have Wg := W.up (up ge ug)
    obtain ⟨fa, nm, he⟩ := E.eq
    have c4 : ts.length ≤ 4 := by rw [C.len]; exact C.four
    refine gv_ifexp (gt_cmp (gv_name (E.loc gN rfl mw) (gv_int fun t1 => op_gti.mono fun v g1 u1 e1 => ?_)))
    rw [e1]
    refine gt_bool ?_
    by_cases hw : way > 2
    · have c : decide ((way : Int) > 2) = true := decide_eq_true (by omega)
      rw [c]
      simp only [if_true]
      refine (comp_texts (R := LstV ItV) (f := fun t => (Txt.words t).map It.s) (cl := []) E F.handled (Cg.up u1).txt c4 (gN.keeps u1) mt (lstV_st itV_st) (by rw [he]; rfl) (by decide) rfl (by decide) rfl fun C' g₁ m₁ t tt ht ug hN hm => ?_).mono fun v g u z => by
        have : (ts.map (rowOf way)) = ts.map fun t => (Txt.words t).map It.s := List.map_congr_left fun t _ => by unfold rowOf; rw [if_pos hw]
        rw [this]; exact z
      have hy := (C.ok t ht).1
      refine gv_meth (gv_name (lk_local rfl rfl hN hm) (gm_split (gv_call0 kept_builtin ((op_split (by have : sizeLine = 2 ^ 24 := rfl; omega)).mono fun r g₂ _ ⟨b, us, e, hl, hp⟩ => ⟨b, us, e, hl, strs_its hp⟩))))
    · have c : decide ((way : Int) > 2) = false := decide_eq_false (by omega)
      rw [c]
      simp only [Bool.false_eq_true, if_false]
      refine (comp_texts (R := LstV ItV) (f := fun t => cutRow (way == 2) (sg t)) (cl := [(("q" : Str), L + 1)]) E F.handled (Cg.up u1).txt c4 (gN.keeps u1) mt (lstV_st itV_st) (by rw [he]; rfl) (by decide) rfl (by decide) rfl fun C' g₁ m₁ t tt ht ug hN hm => ?_).mono fun v g u z => by
        have : (ts.map (rowOf way)) = ts.map fun t => cutRow (way == 2) (sg t) := List.map_congr_left fun t _ => by unfold rowOf; rw [if_neg hw]
        rw [this]; exact z
      have hy := (C.ok t ht).1
      have W1 := (Wg.up u1).up ug
      have hq := (Cg.up u1).cq.keeps ug
      refine gv_call (gv_name (lk_global (env := compEnvC _ [(("q" : Str), L + 1)] C' env) W1 rfl (by rw [he]; rfl) E.gl rfl) (gv_call2 (kept_fn (W1.K 251 _ rfl) rfl) ((gv_signs F.handled (show t.length < 1000 by omega) (lk_local (env := compEnvC _ [(("q" : Str), L + 1)] C' env) rfl (by rw [he]; rfl) hN hm)).mono fun v2 g2 u2 hv2 => ?_)))
      refine gv_name (lk_cell (env := compEnvC _ [(("q" : Str), L + 1)] C' env) rfl (by rw [he]; rfl) rfl (hq.keeps u2)) ?_
      exact (c_cut (W1.up u2) (F.less (by decide)) hv2 (by rw [sg_len]; have e : t.length = t.cps.size := rfl; omega) (qv_two C.q hw)).call
  · exact ls₁.store E.lo E.ek (E.kl rfl) fun s₂ ls₂ => k s₂ g₁ v p ls₂ u₁
end

/-! part Fq57 -/
/-! items alike, by groups or not -/
def gr (M way : Nat) : Bool := decide (M = 2 ∧ way < 2)
def eqvB (r : Bool) (i : Int) : It → It → Bool := match r with
  | true => grpE (signG i)
  | false => fun a b => decide (a = b)
def okIB (r : Bool) (a : It) : Prop := itOk a = true ∧ (r = true → ∃ x, a = .s x ∧ okSign x)
theorem gv_grp {w : World} {g : Heap} {M way : Nat} {i : Int} {gv : Value} (x : GV w M way i gv g) : Grp w g gv (eqvB (gr M way) i) (okIB (gr M way)) := by
  rcases x with ⟨rfl, h⟩ | ⟨h, d, rfl, dg⟩
  · have e : gr M way = false := decide_eq_false h
    rw [e]
    exact .inl ⟨rfl, rfl, fun a h => h.1⟩
  · have e : gr M way = true := decide_eq_true h
    rw [e]
    exact .inr ⟨d, signG i, okSign, rfl, dg, rfl, fun a h => ⟨h.1, h.2 rfl⟩⟩
theorem cut_okI {r two : Bool} {l : List Str} (h : ∀ y ∈ l, okSign y) (hr : r = true → two = false) : ∀ a ∈ cutRow two l, okIB r a := fun a ha => by
  refine ⟨cut_ok (fun y hy => strOk_of (sign_small (h y hy))) a ha, fun e => ?_⟩
  rw [hr e] at ha
  obtain ⟨y, hy, rfl⟩ := List.mem_map.mp (show a ∈ l.map It.s from ha)
  exact ⟨y, rfl, h y hy⟩
theorem rowOf_okI {M way b : Nat} {t : Str} (h : OkT b t) : ∀ a ∈ rowOf way t, okIB (gr M way) a := fun a ha => by
  unfold rowOf at ha
  split at ha
  · rename_i hw
    obtain ⟨y, hy, rfl⟩ := List.mem_map.mp ha
    exact ⟨okT_word h hy, fun e => by have := of_decide_eq_true e; omega⟩
  · refine cut_okI h.2 (fun e => ?_) a ha
    have := of_decide_eq_true e
    rw [beq_eq_false_iff_ne]; omega
section
variable {w : World} {A : Around} {env : Env} {L : Nat} {s₀ s : Shared} {h g : Heap} {m cm : Str → Option Value} {ps : Array Value} {mg mb : Str → Option Value} {Q : Flow → Shared → Prop} {Er : Value → Shared → Prop} {D : Nat} {ts : List Str} {M way : Nat} {b : Bool} {i : Int} {qv gv : Value} {tw : Tok} {n : Nat}
theorem LC.ne (C : LC w L g D ts M way b i qv gv) : ts ≠ [] := fun e => by have := C.len; have := C.two; rw [e] at *; simp at *; omega
/-- _law_size of rows kept under a name -/
theorem gv_size {ge : Heap} {rv : Value} {rs : List (List It)} {x : Str} {np p1 p2 p3 : Pos} (E : LawE w env L) (F : Fine A 10) (W : Wd (hd.heap_39 w.params) mg mb ge) (gN : ge.Ns L m) (hx : (lawScope w).names.lookup x = some .local) (hxd : (x == ("__debug__" : Str)) = false) (mx : m x = some rv) (hrv : LstV (LstV ItV) ge rv rs) (hne : rs ≠ []) (h4 : rs.length ≤ 4) (hsm : ∀ r ∈ rs, r.length < 1000)
    (hn : (∀ r ∈ rs, n ≤ r.length) ∧ ∃ r ∈ rs, r.length = n) (cg : ge.IsCell (L + 2) (some gv)) (G : GV w M way i gv ge) (hok : ∀ r ∈ rs, ∀ a ∈ r, okIB (gr M way) a) :
    Gives (LM w) A ge (eval (.Call (.Name "_law_size" np) [.Name x p1, .Name "groups" p2] [] p3) env) fun v _ => ∃ t, v = .int (told (sameBy (eqvB (gr M way) i)) rs n : Nat) t := by
  refine gv_call (gv_name (E.glb W rfl rfl) (gv_call2 (kept_fn (W.K 256 _ rfl) rfl) (gv_name (E.loc gN hx mx) (gv_name (E.cel rfl (by rw [E.ce]; rfl) cg) ?_) hxd)))
  exact (c_size W (F.less (by decide)) hrv hne h4 hsm hn (gv_grp G) hok).call
theorem st12 (E : LawE w env L) (F : Fine A 10) (W : Wd (hd.heap_39 w.params) mg mb h) (ls : LS s₀ h L m [] cm g ps s) (C : LC w L g D ts M way b i qv gv) {rv : Value} (mr : m "rows" = some rv) (hr : LstV (LstV ItV) g rv (ts.map (rowOf way)))
    (hn : (∀ r ∈ ts.map (rowOf way), n ≤ r.length) ∧ ∃ r ∈ ts.map (rowOf way), r.length = n)
    (k : ∀ s' g' t, LS s₀ h L (fun y => if y = "told_size" then some (.int (told (sameBy (eqvB (gr M way) i)) (ts.map (rowOf way)) n : Nat) t) else m y) [] cm g' ps s' → Up g g' → wpAny (LM w) A (execs (lawB w 13) env) Q Er s') : wpAny (LM w) A (execs (lawB w 12) env) Q Er s := by
  have e : lawB w 12 = _ :: lawB w 13 := rfl
  rw [e]
  clear e
  have up : ∀ ge, Up g ge → Up h ge := fun ge u b o e => u b o (ls.fs.ran.up b o e)
  refine wpAny_execs_cons (wpAny_Assign_Name (ls.evalF (P := fun v => ∃ t, v = .int (told (sameBy (eqvB (gr M way) i)) (ts.map (rowOf way)) n : Nat) t) (fun ge ug gN gC => ?_) fun v s₁ g₁ ls₁ u₁ p => ?_))
  · have Cg := C.up ug
    refine gv_size E F (W.up (up ge ug)) gN rfl (by decide) mr (lstV_st (lstV_st itV_st) _ _ _ _ (Up.seq ug) hr) (by simpa using C.ne) (by rw [List.length_map, C.len]; exact C.four) (fun r hr => ?_) hn Cg.cg Cg.gv fun r hr a ha => ?_
    · obtain ⟨t, ht, rfl⟩ := List.mem_map.mp hr
      have := rowOf_len (way := way) (C.ok t ht)
      omega
    · obtain ⟨t, ht, rfl⟩ := List.mem_map.mp hr
      exact rowOf_okI (C.ok t ht) a ha
  · obtain ⟨t, rfl⟩ := p
    exact ls₁.store E.lo E.ek (E.kl rfl) fun s₂ ls₂ => k s₂ g₁ t ls₂ u₁
/-- X[0][:K] -/
theorem gv_head {ge : Heap} {xv : Value} {rs : List (List It)} {r0 : List It} {X K : Str} {c : Nat} {tc : Tok} {n1 : Nat} {p1 p2 p3 p4 p5 p6 : Pos} (E : LawE w env L) (gN : ge.Ns L m) (hX : (lawScope w).names.lookup X = some .local) (hXd : (X == ("__debug__" : Str)) = false) (mX : m X = some xv) (hK : (lawScope w).names.lookup K = some .local) (hKd : (K == ("__debug__" : Str)) = false) (mK : m K = some (.int (c : Nat) tc))
    (hx : LstV (LstV ItV) ge xv rs) (h0 : rs[0]? = some r0) (hs : r0.length < 1000)
    (hsub : ∀ o sl : Value, subscripted (.Slice none (some (.Name K p3)) none p4) false o sl = operate [sl, o] (getItem o sl) := by intro _ _; rfl) :
    Gives (LM w) A ge (eval (.Subscript (.Subscript (.Name X p1) (.Constant (.int 0) n1 p2) p5) (.Slice none (some (.Name K p3)) none p4) p6) env) fun v g => LstV ItV g v (r0.take c) := by
  obtain ⟨a, vs, rfl, hl, hp⟩ := hx
  obtain ⟨v0, hv0, a0, us, rfl, hl0, hp0⟩ := paired_both hp 0 r0 h0
  have hul := hp0.length
  refine gv_sub (gv_sub (gv_name (E.loc gN hX mX) (gv_int fun t1 => op_item_list (k := 0) hl hv0 (by decide) ?_) hXd))
  refine gv_slice (Gives.pure (gv_part (gv_name (E.loc gN hK mK) (fun sa g3 u3 hsl => ?_) hKd)))
  refine op_slice_list (hl0.at fun o e => u3 _ o e) (by have : sizeLine = 2 ^ 24 := rfl; omega) hsl .none (.int _ _) (fun sb g4 u4 _ hsb => ?_) (hsub _ _)
  rw [slicePick_upto'] at hsb
  exact ⟨sb, us.take c, rfl, by simpa using hsb, paired_take c (paired_mono (fun v a z => itV_st _ _ _ _ (Up.seq fun b o e => u4 b o (u3 b o e)) z) hp0)⟩
/-- ''.join of signs -/
theorem gv_joined {ge : Heap} {e : Expr} {cs : List Nat} {n1 : Nat} {p1 p2 p3 : Pos} {pl : Sem Bool} (hc : cs.length < 1000) (x : Gives (LM w) A ge (eval e env) fun v g => LstV ItV g v ((cs.map one1).map .s))
    (he : backTo p3 (starEach [e] env) = [(false, eval e env)] := by rfl)
    (hm : eval (.Call (.Attribute (.Constant (.str "") n1 p1) "join" p2) [e] [] p3) env = (do let ov ← eval (.Constant (.str "") n1 p1) env; standAt p2.atName; let (f, first) ← holding [ov] (getMethod ov "join" pl); callWith p3 f first (backTo p3 (starEach [e] env)) (backToKw p3 (keywordEach [] env))) := by rfl) :
    Gives (LM w) A ge (eval (.Call (.Attribute (.Constant (.str "") n1 p1) "join" p2) [e] [] p3) env) fun v g => RowK true g v ((cs.map one1).map .s) := by
  refine gv_meth (gv_str fun t => gm_join (gv_call1 kept_builtin (x.mono fun v g u ⟨a, vs, e1, hl, hp⟩ => ?_) he)) hm
  subst e1
  have hst : Paired (StrV g) vs (cs.map one1) := by
    rcases it_kinds hp (.inl ⟨_, rfl⟩) with ⟨xs, e, hp⟩ | ⟨ps, e, hp⟩
    · have : cs.map one1 = xs := List.map_inj_right (fun a b h => by injection h) |>.mp e
      rw [this]; exact hp
    · cases cs with
      | nil => cases ps with
        | nil => cases hp; exact .nil
        | cons p ps => simp at e
      | cons c cs => cases ps with
        | nil => simp at e
        | cons p ps => simp at e
  exact (op_join hl hst (joinOk_ones cs hc)).mono fun v g _ ⟨t, e⟩ => ⟨_, t, e, by rw [txt_join_ones]⟩
theorem rowOf_zero (t : Str) : rowOf 0 t = (t.cps.toList.map one1).map .s := rfl
theorem st13 (E : LawE w env L) (ls : LS s₀ h L m [] cm g ps s) (C : LC w L g D ts M way b i qv gv) {rv : Value} {c : Nat} {tc : Tok} {t0 : Str} (mw : m "way" = some (.int way tw)) (mr : m "rows" = some rv) (mz : m "told_size" = some (.int (c : Nat) tc)) (hr : LstV (LstV ItV) g rv (ts.map (rowOf way))) (h0 : ts[0]? = some t0)
    (k : ∀ s' g' v, RowK (way == 0) g' v ((rowOf way t0).take c) → LS s₀ h L (fun y => if y = "due" then some v else m y) [] cm g' ps s' → Up g g' → wpAny (LM w) A (execs (lawB w 14) env) Q Er s') : wpAny (LM w) A (execs (lawB w 13) env) Q Er s := by
  have e : lawB w 13 = _ :: lawB w 14 := rfl
  rw [e]
  clear e
  refine wpAny_execs_cons (wpAny_Assign_Name (ls.evalR (P := fun v g => RowK (way == 0) g v ((rowOf way t0).take c)) (fun v g g' k z => rowK_st _ _ _ _ k z) (fun ge ug gN gC => ?_) fun v s₁ g₁ ls₁ u₁ p => ?_))
  · have hx := lstV_st (lstV_st itV_st) _ _ _ _ (Up.seq ug) hr
    have h0' : (ts.map (rowOf way))[0]? = some (rowOf way t0) := by rw [List.getElem?_map, h0]; rfl
    have ok0 := C.ok t0 (List.mem_of_getElem? h0)
    have hs := rowOf_len (way := way) ok0
    refine gv_ifexp (gt_cmp (gv_name (E.loc gN rfl mw) (gv_int fun t1 => op_eqi.mono fun v g1 u1 e1 => ?_)))
    rw [e1]
    refine gt_bool ?_
    have hx1 := lstV_st (lstV_st itV_st) _ _ _ _ (Up.seq u1) hx
    by_cases hw : way = 0
    · subst hw
      simp only [show (((0 : Nat) : Int) == 0) = true from rfl, if_true]
      have e2 : (rowOf 0 t0).take c = ((t0.cps.toList.take c).map one1).map .s := by rw [rowOf_zero, ← List.map_take, ← List.map_take]
      rw [e2]
      refine gv_joined (by rw [List.length_take]; have := ok0.1; have e3 : t0.cps.toList.length = t0.length := by simp [Str.length]
                           omega) ?_
      rw [← e2]
      exact gv_head E (gN.keeps u1) rfl (by decide) mr rfl (by decide) mz hx1 h0' (by omega)
    · have c1 : ((way : Int) == 0) = false := by rw [beq_eq_false_iff_ne]; omega
      have c2 : (way == 0) = false := by rw [beq_eq_false_iff_ne]; exact hw
      rw [c1, c2]
      simp only [Bool.false_eq_true, if_false]
      exact gv_head E (gN.keeps u1) rfl (by decide) mr rfl (by decide) mz hx1 h0' (by omega)
  · exact ls₁.store E.lo E.ek (E.kl rfl) fun s₂ ls₂ => k s₂ g₁ v p ls₂ u₁
end

/-! part Fq58 -/
def okB (r : Bool) : List It → Prop := match r with
  | true => okGrp okSign
  | false => okIdent
/-- what law stands on besides -/
structure LawH (h : Heap) (mg : Str → Option Value) : Prop where
  hd : CodeHd h 267 265
  bi : h.BuiltinsAt mg 265
/-- the table of code objects, as far as the first lambda may have grown it -/
def TabOk (ps : Array Value) : Prop := TriplesOk ps.toList ∧ ∀ p : Pos, 175 ≤ p.line → codeAmong p ps.toList = none
theorem tabOk_nil : TabOk #[] := ⟨trivial, fun _ _ => rfl⟩
theorem tabOk_one {l c : Nat} {v : Value} (h : l < 175) : TabOk (#[] ++ #[rawInt l, rawInt c, v]) := by
  refine ⟨trivial, fun p hp => ?_⟩
  show codeAmong p [rawInt l, rawInt c, v] = none
  have e : ((l : Int) == (p.line : Int)) = false := by rw [beq_eq_false_iff_ne]; omega
  simp [codeAmong, rawInt]
  omega
section
variable {w : World} {A : Around} {env : Env} {L : Nat} {s₀ s : Shared} {h g : Heap} {m cm : Str → Option Value} {ps : Array Value} {mg mb : Str → Option Value} {Q : Flow → Shared → Prop} {Er : Value → Shared → Prop} {D : Nat} {ts : List Str} {M way : Nat} {b : Bool} {i : Int} {qv gv : Value} {tw : Tok} {n : Nat}
theorem simB (W : Wd (hd.heap_39 w.params) mg mb h) : SimT w h (.ref 100) (sameBy (eqvB false i)) (okB false) := by
  have e : sameBy (eqvB false i) = allSame := funext fun l => sameBy_allSame l
  rw [e]; exact simT_ident W
/-- C(qval = q), C(qval = q, sim_test = lambda) -/
theorem ls_make {C cal : Nat} {Q : Value → Shared → Prop} {kw : List (Str × Value)} {q f f' : Value} (ls : LS s₀ h L m [] cm g ps s) (W : Wd (hd.heap_39 w.params) mg mb h) (F : Fine A 6) (cl : Cl (hd.heap_39 w.params) C cal) (cm' : ClM (hd.heap_39 w.params) C)
    (hb : ∀ (M : Model) (A : Around) (x : Nat) (g : Heap) (fd : FuncData), Wd (hd.heap_39 w.params) mg mb g → ((hd.heap_39 w.params).lookup 198).map (·.data) = some (.func fd) →
      Gives M A g (bindArgs fd ⟨[.ref x], kw⟩) fun b _ => b = [(("self" : Str), .ref x), (("qval" : Str), q), (("sim_test" : Str), f)]) (hf : ∀ ge, Up g ge → SimOr ge f f')
    (k : ∀ s' g' (x : Nat), LS s₀ h L m [] cm g' ps s' → Up g g' → Inst g' x C q f' → Q (.ref x) s') : wpAny (LM w) A (call (.ref C) [] kw) Q Er s := by
  refine ls.eval (P := fun ge v gp => ∃ x : Nat, v = .ref x ∧ MadeI ge gp x C q f') (fun ge ug gN gC => (c_make (W.up fun b o e => ug b o (ls.fs.ran.up b o e)) F cl cm' hb (hf ge ug)).callK) fun v s₁ ge gp g₁ ls₁ u₁ _ out p => ?_
  obtain ⟨x, rfl, i⟩ := p
  exact k s₁ g₁ x ls₁ u₁ (i g₁ fun b o e e' => out.new b o e e')
/-- the two ways in which plain and last are made -/
theorem ls_plain {C cal : Nat} {cn : Str} {np p1 p2 p3 : Pos} {Q : Value → Shared → Prop} (E : LawE w env L) (F : Fine A 6) (W : Wd (hd.heap_39 w.params) mg mb h) (ls : LS s₀ h L m [] cm g ps s) (K : LC w L g D ts M way b i qv gv) (cl : Cl (hd.heap_39 w.params) C cal) (cm' : ClM (hd.heap_39 w.params) C)
    (ke : keepIn (hd.heap_39 w.params) (.ref C) = true) (hx : (lawScope w).names.lookup cn = some .globalImplicit) (hxe : nsIn (hd.heap_39 w.params) mainGlobals cn = some (some (.ref C))) (hd' : (cn == ("__debug__" : Str)) = false)
    (k : ∀ s' g' (x : Nat), LS s₀ h L m [] cm g' ps s' → Up g g' → Inst g' x C qv (.ref 100) → Q (.ref x) s')
    (he : eval (.Call (.Name cn np) [] [⟨some ("qval" : Str), .Name "q" p1, p2⟩] p3) env = (do callWith p3 (← eval (.Name cn np) env) [] (backTo p3 (starEach [] env)) (backToKw p3 (keywordEach [⟨some ("qval" : Str), .Name "q" p1, p2⟩] env))) := by rfl) :
    wpAny (LM w) A (eval (.Call (.Name cn np) [] [⟨some ("qval" : Str), .Name "q" p1, p2⟩] p3) env) Q Er s := by
  have low := ls.fs.ran.low
  have Wl := W.up fun b o e => low b o (ls.fs.ran.up b o e)
  refine Call_kw (wpAny_Name (E.glb Wl hx hxe _ _ _ s (fun _ _ e => e) (call_kw1 (fun h' => Up g h') (fun h' u => kept_cls (W.up fun b o e => u b o (ls.fs.ran.up b o e)) ke)
    (wpAny_Name (E.cel rfl (by rw [E.ce]; rfl) (K.cq.keeps low) _ _ _ s (fun _ _ e => e) ⟨low, ?_⟩) (by decide)))) hd') he
  exact ls_make ls W F cl cm' (fun M A x g fd W h => bind_init1 h W) (fun ge u => .inl ⟨rfl, rfl⟩) k
theorem ls_grouped {C cal d : Nat} {cn : Str} {np p1 p2 p3 p4 p5 q1 q2 r1 r2 r3 r4 r5 r6 r7 : Pos} {Q : Value → Shared → Prop} (E : LawE w env L) (F : Fine A 6) (W : Wd (hd.heap_39 w.params) mg mb h) (lh : LawH h mg) (ls : LS s₀ h L m [] cm g ps s) (K : LC w L g D ts M way b i qv (.ref d)) (dg : DG w g d (signG i) okSign) (cl : Cl (hd.heap_39 w.params) C cal) (cm' : ClM (hd.heap_39 w.params) C)
    (ke : keepIn (hd.heap_39 w.params) (.ref C) = true) (hx : (lawScope w).names.lookup cn = some .globalImplicit) (hxe : nsIn (hd.heap_39 w.params) mainGlobals cn = some (some (.ref C))) (hd' : (cn == ("__debug__" : Str)) = false)
    (ht : TriplesOk ps.toList) (hnf : codeAmong p4 ps.toList = none)
    (k : ∀ s' g' (x f c' : Nat), LS s₀ h L m [] cm g' (ps ++ #[rawInt p4.line, rawInt p4.col, .ref c']) s' → Up g g' → Inst g' x C qv (.ref f) → SimT w g' (.ref f) (sameBy (grpE (signG i))) (okGrp okSign) → Q (.ref x) s')
    (he : eval (.Call (.Name cn np) [] [⟨some ("qval" : Str), .Name "q" p1, p2⟩, ⟨some ("sim_test" : Str), .Lambda (lamPar q1 q2) (lamBody r1 r2 r3 r4 r5 r6 r7) lamScope p4, p5⟩] p3) env = (do callWith p3 (← eval (.Name cn np) env) [] (backTo p3 (starEach [] env)) (backToKw p3 (keywordEach [⟨some ("qval" : Str), .Name "q" p1, p2⟩, ⟨some ("sim_test" : Str), .Lambda (lamPar q1 q2) (lamBody r1 r2 r3 r4 r5 r6 r7) lamScope p4, p5⟩] env))) := by rfl) :
    wpAny (LM w) A (eval (.Call (.Name cn np) [] [⟨some ("qval" : Str), .Name "q" p1, p2⟩, ⟨some ("sim_test" : Str), .Lambda (lamPar q1 q2) (lamBody r1 r2 r3 r4 r5 r6 r7) lamScope p4, p5⟩] p3) env) Q Er s := by
  have low := ls.fs.ran.low
  have Wl := W.up fun b o e => low b o (ls.fs.ran.up b o e)
  have Wg := W.up ls.fs.ran.up
  refine Call_kw (wpAny_Name (E.glb Wl hx hxe _ _ _ s (fun _ _ e => e) (call_kw2 (fun h' => Up g h') (fun h' u => kept_cls (Wg.up u) ke)
    (wpAny_Name (E.cel rfl (by rw [E.ce]; rfl) (K.cq.keeps low) _ _ _ s (fun _ _ e => e) ?_) (by decide)))) hd') he
  refine fs_lambda (c := 267) (P := 265) (clos := [(("groups" : Str), L + 2)]) ls.fs Wg (by obtain ⟨fa, nm, he⟩ := E.eq; rw [he]; rfl) E.gl E.co (lh.hd.keeps ls.fs.ran.up) ls.tab ht hnf (lh.bi.keeps ls.fs.ran.up) ls.off ls.off0 ls.neL (fun n c hc => by simp at hc) rfl fun f c' ctv s₁ g₁ fs₁ u₁ kp hf hrec hoff htab => ?_
  have ls₁ : LS s₀ h L m [] cm g₁ (ps ++ #[rawInt p4.line, rawInt p4.col, .ref c']) s₁ := ⟨fs₁, htab, hoff, ls.off0⟩
  refine ⟨fun b o e => fs₁.ran.low b o (u₁ b o e), ?_⟩
  have sim := simT_lambda (Wg.up u₁) hf hrec (K.cg.keeps u₁) ((⟨fun A h' x t v s F u' => dg.get A h' x t v s F fun b o e => u' b o (u₁ b o e)⟩ : DG w g₁ d (signG i) okSign))
  exact ls_make ls₁ W F cl cm' (fun M A x g fd W h => bind_init2 h W) (fun ge u => .inr ⟨rfl, f, _, rfl, u _ _ hf, rfl⟩) fun s₂ g₂ x ls₂ u₂ i₂ => k s₂ g₂ x f c' ls₂ (fun b o e => u₂ b o (u₁ b o e)) i₂ (sim.up u₂)
end

/-! part Fq59 -/
section
variable {w : World} {A : Around} {env : Env} {L : Nat} {s₀ s : Shared} {h g : Heap} {m cm : Str → Option Value} {ps : Array Value} {mg mb : Str → Option Value} {Q : Flow → Shared → Prop} {Er : Value → Shared → Prop} {D : Nat} {ts : List Str} {M way : Nat} {b : Bool} {i : Int} {qv gv : Value} {tw : Tok} {n : Nat}
theorem st14 (E : LawE w env L) (F : Fine A 10) (W : Wd (hd.heap_39 w.params) mg mb h) (lh : LawH h mg) (ls : LS s₀ h L m [] cm g #[] s) (C : LC w L g D ts M way b i qv gv)
    (k : ∀ s' g' ps' (x : Nat) f, TabOk ps' → Inst g' x 222 qv f → SimT w g' f (sameBy (eqvB (gr M way) i)) (okB (gr M way)) → LS s₀ h L (fun y => if y = "plain" then some (.ref x) else m y) [] cm g' ps' s' → Up g g' → wpAny (LM w) A (execs (lawB w 15) env) Q Er s') : wpAny (LM w) A (execs (lawB w 14) env) Q Er s := by
  have e : lawB w 14 = _ :: lawB w 15 := rfl
  rw [e]
  clear e
  refine wpAny_execs_cons (wpAny_If (ls.evalF (P := fun c => c = (gv == Value.none)) (fun ge ug gN gC => gt_cmp (gv_name (E.cel rfl (by rw [E.ce]; rfl) (C.cg.keeps ug)) (gv_none (op_is_none.mono fun v g u e => by rw [e]; exact gt_bool rfl)))) fun c s₁ g₁ ls₁ u₁ p => ?_))
  have C1 := C.up u₁
  have Wg : Wd (hd.heap_39 w.params) mg mb g₁ := W.up ls₁.fs.ran.up
  subst p
  rcases C1.gv with ⟨rfl, hg⟩ | ⟨hg, d, rfl, dg⟩
  · have e0 : gr M way = false := decide_eq_false hg
    simp only [show ((Value.none == Value.none) : Bool) = true from rfl, if_true]
    refine wpAny_execs_cons (wpAny_Assign_Name (ls_plain E (F.less (by decide)) W ls₁ C1 cl_prefix clm_prefix rfl rfl rfl (by decide) fun s₂ g₂ x ls₂ u₂ i₂ => ?_))
    refine ls₂.store E.lo E.ek (E.kl rfl) fun s₃ ls₃ => wpAny_execs_nil ?_
    dsimp only
    exact k s₃ g₂ _ x _ tabOk_nil i₂ (by rw [e0]; exact simB (Wg.up u₂)) ls₃ fun b o e => u₂ b o (u₁ b o e)
  · have e0 : gr M way = true := decide_eq_true hg
    simp only [show ((Value.ref d == Value.none) : Bool) = false from rfl, Bool.false_eq_true, if_false]
    refine wpAny_execs_cons (wpAny_Assign_Name (ls_grouped E (F.less (by decide)) W lh ls₁ C1 dg cl_prefix clm_prefix rfl rfl rfl (by decide) trivial rfl fun s₂ g₂ x f c' ls₂ u₂ i₂ sim₂ => ?_))
    refine ls₂.store E.lo E.ek (E.kl rfl) fun s₃ ls₃ => wpAny_execs_nil ?_
    dsimp only
    exact k s₃ g₂ _ x _ (tabOk_one (by decide)) i₂ (by rw [e0]; exact sim₂) ls₃ fun b o e => u₂ b o (u₁ b o e)
end

/-! part Fq60 -/
section
variable {w : World} {A : Around} {env : Env} {L : Nat} {s₀ s : Shared} {h g ge : Heap} {m cm : Str → Option Value} {ps : Array Value} {mg mb : Str → Option Value} {Q : Flow → Shared → Prop} {Er : Value → Shared → Prop} {D : Nat} {ts : List Str} {M way : Nat} {b : Bool} {i : Int} {qv gv : Value} {tw : Tok} {n : Nat} {x : Nat} {f : Value} {vs : List Value} {t0 : Str}
theorem hr_rows {lst : Bool} (C : LC w L g D ts M way b i qv gv) (hv : Paired (HR lst g) vs ts) : Rows g vs ((ts.map sg).map (List.map .s)) := by
  refine ⟨?_, fun r hr => ?_, by rw [List.length_map, List.length_map, C.len]; exact C.four⟩
  · have hlen := hv.length
    refine paired_of (by simp [hlen]) fun j v r hj hr => ?_
    obtain ⟨t, ht, z⟩ := paired_at hv j v hj
    rw [List.getElem?_map, List.getElem?_map, ht] at hr
    cases hr
    cases lst with
    | true => exact .inl z
    | false => obtain ⟨k, rfl⟩ := z; exact .inr ⟨t, k, rfl, rfl⟩
  · rw [List.map_map] at hr
    obtain ⟨t, ht, rfl⟩ := List.mem_map.mp hr
    have h1 := (C.ok t ht).1
    have e := sg_len t
    have e2 : t.length = t.cps.size := rfl
    simp only [Function.comp, List.length_map]
    omega
theorem rowOf_cut (hw : ¬ way > 2) : ts.map (rowOf way) = (ts.map sg).map (cutRow (way == 2)) := by
  rw [List.map_map]; exact List.map_congr_left fun t _ => by unfold rowOf; rw [if_neg hw]; rfl
theorem ok_cut {css : List (List Str)} {two : Bool} (hl : css.length = M) (h4 : M ≤ 4) (h2 : 2 ≤ M) (hs : ∀ l ∈ css, ∀ y ∈ l, okSign y) (ht : gr M way = true → two = false) (hn : ∀ r ∈ css.map (cutRow two), n ≤ r.length) : ∀ j, j < n → okB (gr M way) (col (css.map (cutRow two)) j) := by
  cases e : gr M way with
  | true =>
    have e2 := ht e
    subst e2
    exact ok_grp (by rw [hl]; exact (of_decide_eq_true e).1) hs hn
  | false => exact ok_ident (kind_cut two css) (by rw [List.length_map]; omega) (fun z => by have := congrArg List.length z; simp at this; subst this; simp at hl; omega) hn
theorem begs_plain {C cal : Nat} (W : Wd (hd.heap_39 w.params) mg mb g) (K : LC w L g D ts M way b i qv gv) (cl : Cl (hd.heap_39 w.params) C cal) (i0 : Inst g x C qv f) (sim : SimT w g f (sameBy (eqvB (gr M way) i)) (okB (gr M way))) (hv : Paired (HR (lstd way b) g) vs ts) (h0 : ts[0]? = some t0)
    (hn : (∀ r ∈ ts.map (rowOf way), n ≤ r.length) ∧ ∃ r ∈ ts.map (rowOf way), r.length = n) :
    Begs w g x vs (way == 0) ((rowOf way t0).take (told (sameBy (eqvB (gr M way) i)) (ts.map (rowOf way)) n)) := by
  have c4 : ts.length ≤ 4 := by rw [K.len]; exact K.four
  have hh : ts.head? = some t0 := by rw [List.head?_eq_getElem?]; exact h0
  by_cases hw : way > 2
  · have e1 : lstd way b = false := by
      unfold lstd
      have a1 : (way == 1) = false := by rw [beq_eq_false_iff_ne]; omega
      have a2 : (way == 2) = false := by rw [beq_eq_false_iff_ne]; omega
      rw [a1, a2]; simp
    have e2 : (way == 0) = false := by rw [beq_eq_false_iff_ne]; omega
    have e3 : ts.map (rowOf way) = ts.map fun t => (Txt.words t).map It.s := List.map_congr_left fun t _ => by unfold rowOf; rw [if_pos hw]
    have e4 : rowOf way t0 = (Txt.words t0).map It.s := by unfold rowOf; rw [if_pos hw]
    have e5 : gr M way = false := decide_eq_false (by omega)
    rw [e1] at hv
    rw [e2, e3, e4, e5]
    rw [e3] at hn
    rw [e5] at sim
    refine begs_words W cl ?_ i0 sim (paired_mono (fun v t z => z) hv) c4 hh (fun t ht => ?_) (fun t ht => ?_) hn ?_
    · rcases K.q with ⟨h, _⟩ | ⟨h, _⟩ | ⟨h, e⟩ | ⟨h, t, e⟩
      · omega
      · omega
      · exact .inl e
      · exact .inr ⟨t, e⟩
    · have := (K.ok t ht).1; omega
    · have := (K.ok t ht).1; have := words_len t; omega
    · refine ok_ident (.inl ⟨ts.map Txt.words, by rw [List.map_map]; rfl⟩) (by rw [List.length_map]; exact c4) (by simpa using K.ne) hn.1
  · have hr := hr_rows K hv
    rw [rowOf_cut hw] at hn ⊢
    have e4 : rowOf way t0 = cutRow (way == 2) (sg t0) := by unfold rowOf; rw [if_neg hw]
    rw [e4]
    have hi : ∃ t, Inst g x C (.int (if (way == 2) = true then 2 else 1) t) f := by
      rcases K.q with ⟨h, t, e⟩ | ⟨h, t, e⟩ | ⟨h, e⟩ | ⟨h, t, e⟩
      · have a2 : (way == 2) = false := by rw [beq_eq_false_iff_ne]; omega
        rw [a2]; exact ⟨t, e ▸ i0⟩
      · have a2 : (way == 2) = true := by rw [beq_iff_eq]; exact h
        rw [a2]; exact ⟨t, e ▸ i0⟩
      · omega
      · omega
    obtain ⟨t, i1⟩ := hi
    refine begs_cut W cl i1 sim hr ?_ (by rw [List.head?_map, hh]; rfl) hn ?_
    · by_cases h2 : way = 2
      · have a2 : (way == 2) = true := by rw [beq_iff_eq]; exact h2
        rw [a2]
        simp only [if_true]
        rw [beq_eq_false_iff_ne]; omega
      · have a2 : (way == 2) = false := by rw [beq_eq_false_iff_ne]; exact h2
        rw [a2]
        simp only [Bool.false_eq_true, if_false]
        have hlen := hv.length
        refine paired_of (by simp [hlen]) fun j v r hj hr => ?_
        obtain ⟨t, ht, z⟩ := paired_at hv j v hj
        rw [List.getElem?_map, List.getElem?_map, ht] at hr
        cases hr
        by_cases h1 : way = 1
        · subst h1
          exact z
        · have h00 : way = 0 := by omega
          subst h00
          have el : lstd 0 b = false := by unfold lstd; simp
          rw [el] at z
          obtain ⟨k, rfl⟩ := z
          exact ⟨t, k, rfl, rfl⟩
    · refine ok_cut (by rw [List.length_map]; exact K.len) K.four K.two (fun l hl y hy => ?_) (fun e => ?_) hn.1
      · obtain ⟨t, ht, rfl⟩ := List.mem_map.mp hl
        exact (K.ok t ht).2 y hy
      · have := (of_decide_eq_true e).2
        rw [beq_eq_false_iff_ne]; omega
/-- x._beginning(*handed), x(*handed), x.similarity(*handed), x.distance(*handed) -/
theorem gv_xbeg {C cal : Nat} {X : Str} {H : Nat} {l : List It} {bb : Bool} {p1 p2 p3 p4 p5 : Pos} (E : LawE w env L) (F : Fine A 24) (W : Wd (hd.heap_39 w.params) mg mb ge) (gN : ge.Ns L m) (hX : (lawScope w).names.lookup X = some .local) (hXd : (X == ("__debug__" : Str)) = false) (mX : m X = some (.ref x)) (mH : m "handed" = some (.ref H)) (cl : Cl (hd.heap_39 w.params) C cal) (i0 : Inst ge x C qv f) (hl : ge.IsList H (List.toArray vs)) (h4 : vs.length ≤ 4) (bg : Begs w ge x vs bb l) :
    Gives (LM w) A ge (eval (.Call (.Attribute (.Name X p1) "_beginning" p2) [.Starred (.Name "handed" p3) p4] [] p5) env) fun v g => RowK bb g v l := by
  refine gv_methS (gv_name (E.loc gN hX mX) ((ga_bound W.K i0 (cl.pg _) cl.hd cl.beg rfl rfl rfl (by decide) ⟨by decide, by decide⟩).mono fun v gb ub ⟨mt, e, hmt⟩ => ?_) hXd)
  subst e
  exact gv_callS (kept_meth hmt (ub _ _ (W.K 212 _ rfl)) rfl) (gv_name ((E.loc gN rfl mH).keeps ub) (starred_list (hl.at fun o e => ub _ o e) (Nat.le_trans h4 (by decide)) (call_bound hmt (bg _ _ (F.less (by decide)) ub)).call))
theorem gv_xcall {C : Nat} {X : Str} {H : Nat} {l : List It} {bb : Bool} {p1 p3 p4 p5 : Pos} (E : LawE w env L) (F : Fine A 24) (gN : ge.Ns L m) (hX : (lawScope w).names.lookup X = some .local) (hXd : (X == ("__debug__" : Str)) = false) (mX : m X = some (.ref x)) (mH : m "handed" = some (.ref H)) (i0 : Inst ge x C qv f) (hl : ge.IsList H (List.toArray vs)) (h4 : vs.length ≤ 4) (cd : Called w ge x vs bb l) :
    Gives (LM w) A ge (eval (.Call (.Name X p1) [.Starred (.Name "handed" p3) p4] [] p5) env) fun v g => RowK bb g v l := by
  refine gv_call (gv_name (E.loc gN hX mX) (gv_callAS (inst_kept i0) (gv_name (E.loc gN rfl mH) (starred_list hl (Nat.le_trans h4 (by decide)) ?_))) hXd)
  exact (cd _ _ (F.less (by decide)) fun _ _ e => e).call
theorem gv_xsim {C cal : Nat} {X : Str} {H : Nat} {l : List It} {bb : Bool} {p1 p2 p3 p4 p5 : Pos} (E : LawE w env L) (F : Fine A 24) (W : Wd (hd.heap_39 w.params) mg mb ge) (gN : ge.Ns L m) (hX : (lawScope w).names.lookup X = some .local) (hXd : (X == ("__debug__" : Str)) = false) (mX : m X = some (.ref x)) (mH : m "handed" = some (.ref H)) (cl : Cl (hd.heap_39 w.params) C cal) (i0 : Inst ge x C qv f) (hl : ge.IsList H (List.toArray vs)) (h4 : vs.length ≤ 4) (hs : l.length < 1000) (cd : Called w ge x vs bb l) :
    Gives (LM w) A ge (eval (.Call (.Attribute (.Name X p1) "similarity" p2) [.Starred (.Name "handed" p3) p4] [] p5) env) fun v g => ∃ t, v = .int (l.length : Int) t := by
  refine gv_methS (gv_name (E.loc gN hX mX) ((ga_bound W.K i0 (cl.pg _) cl.hd cl.sim rfl rfl rfl (by decide) ⟨by decide, by decide⟩).mono fun v gb ub ⟨mt, e, hmt⟩ => ?_) hXd)
  subst e
  exact gv_callS (kept_meth hmt (ub _ _ (W.K 219 _ rfl)) rfl) (gv_name ((E.loc gN rfl mH).keeps ub) (starred_list (hl.at fun o e => ub _ o e) (Nat.le_trans h4 (by decide)) (call_bound hmt (c_similarity (cal := cal) (W.up ub) (F.less (by decide)) (i0.up ub) h4 hs fun A' h' F' u => cd A' h' F' fun b o e => u b o (ub b o e))).call))
theorem gv_xdist {C cal : Nat} {X : Str} {H : Nat} {l : List It} {rs : List (List It)} {mxl : Nat} {bb : Bool} {p1 p2 p3 p4 p5 : Pos} (E : LawE w env L) (F : Fine A 24) (W : Wd (hd.heap_39 w.params) mg mb ge) (gN : ge.Ns L m) (hX : (lawScope w).names.lookup X = some .local) (hXd : (X == ("__debug__" : Str)) = false) (mX : m X = some (.ref x)) (mH : m "handed" = some (.ref H)) (cl : Cl (hd.heap_39 w.params) C cal) (i0 : Inst ge x C qv f) (hl : ge.IsList H (List.toArray vs)) (h4 : vs.length ≤ 4) (hs : l.length < 1000) (cd : Called w ge x vs bb l) (hr : Rows ge vs rs) (hne : rs ≠ []) (hm : (∃ r ∈ rs, r.length = mxl) ∧ ∀ r ∈ rs, r.length ≤ mxl) :
    Gives (LM w) A ge (eval (.Call (.Attribute (.Name X p1) "distance" p2) [.Starred (.Name "handed" p3) p4] [] p5) env) fun v g => ∃ t, v = .int ((mxl : Int) - (l.length : Nat)) t := by
  refine gv_methS (gv_name (E.loc gN hX mX) ((ga_bound W.K i0 (cl.pg _) cl.hd cl.dist rfl rfl rfl (by decide) ⟨by decide, by decide⟩).mono fun v gb ub ⟨mt, e, hmt⟩ => ?_) hXd)
  subst e
  refine gv_callS (kept_meth hmt (ub _ _ (W.K 164 _ rfl)) rfl) (gv_name ((E.loc gN rfl mH).keeps ub) (starred_list (hl.at fun o e => ub _ o e) (Nat.le_trans h4 (by decide)) (call_bound hmt ?_).call))
  exact c_distance (W.up ub) (F.less (by decide)) cl (i0.up ub) (hr.up (Up.seq ub)) hne hm fun A' h' F' u => c_similarity (cal := cal) ((W.up ub).up u) F' ((i0.up ub).up u) h4 hs fun A₂ h₂ F₂ u₂ => cd A₂ h₂ F₂ fun b o e => u₂ b o (u b o (ub b o e))
end

/-! part Fq61 -/
section
variable {w : World} {A : Around} {env : Env} {L : Nat} {s₀ s : Shared} {h g ge : Heap} {m cm : Str → Option Value} {ps : Array Value} {mg mb : Str → Option Value} {Q : Flow → Shared → Prop} {Er : Value → Shared → Prop} {D H : Nat} {ts : List Str} {M way : Nat} {b : Bool} {i : Int} {qv gv : Value} {tw : Tok} {n : Nat} {x : Nat} {f : Value} {vs : List Value} {t0 : Str}
/-- what law knows once plain stands -/
structure LP (w : World) (L : Nat) (g : Heap) (D H : Nat) (ts : List Str) (M way : Nat) (b : Bool) (i : Int) (qv gv : Value) (n : Nat) (x : Nat) (f : Value) : Prop where
  lc : LC w L g D ts M way b i qv gv
  hd : LstV (HR (lstd way b)) g (.ref H) ts
  inst : Inst g x 222 qv f
  sim : SimT w g f (sameBy (eqvB (gr M way) i)) (okB (gr M way))
  hn : (∀ r ∈ ts.map (rowOf way), n ≤ r.length) ∧ ∃ r ∈ ts.map (rowOf way), r.length = n
theorem LP.up {g' : Heap} (p : LP w L g D H ts M way b i qv gv n x f) (u : Up g g') : LP w L g' D H ts M way b i qv gv n x f :=
  ⟨p.lc.up u, lstV_st hr_st _ _ _ _ (Up.seq u) p.hd, p.inst.up u, p.sim.up u, p.hn⟩
/-- told -/
def toldN (ts : List Str) (M way : Nat) (i : Int) (n : Nat) : Nat := told (sameBy (eqvB (gr M way) i)) (ts.map (rowOf way)) n
theorem st15 (E : LawE w env L) (F : Fine A 30) (W : Wd (hd.heap_39 w.params) mg mb h) (ls : LS s₀ h L m [] cm g ps s) (P : LP w L g D H ts M way b i qv gv n x f) (mp : m "plain" = some (.ref x)) (mH : m "handed" = some (.ref H)) (h0 : ts[0]? = some t0)
    (k : ∀ s' g' v, RowK (way == 0) g' v ((rowOf way t0).take (toldN ts M way i n)) → LS s₀ h L (fun y => if y = "told" then some v else m y) [] cm g' ps s' → Up g g' → wpAny (LM w) A (execs (lawB w 16) env) Q Er s') : wpAny (LM w) A (execs (lawB w 15) env) Q Er s := by
  have e : lawB w 15 = _ :: lawB w 16 := rfl
  rw [e]
  clear e
  refine wpAny_execs_cons (wpAny_Assign_Name (ls.evalR (P := fun v g => RowK (way == 0) g v ((rowOf way t0).take (toldN ts M way i n))) (fun v g g' k z => rowK_st _ _ _ _ k z) (fun ge ug gN gC => ?_) fun v s₁ g₁ ls₁ u₁ p => ?_))
  · have Pg := P.up ug
    have Wg : Wd (hd.heap_39 w.params) mg mb ge := W.up fun b o e => ug b o (ls.fs.ran.up b o e)
    obtain ⟨a, vs, e, hl, hv⟩ := Pg.hd
    cases e
    exact gv_xbeg E (F.less (by decide)) Wg gN rfl (by decide) mp mH cl_prefix Pg.inst hl (by rw [hv.length, Pg.lc.len]; exact Pg.lc.four) (begs_plain Wg Pg.lc cl_prefix Pg.inst Pg.sim hv h0 Pg.hn)
  · exact ls₁.store E.lo E.ek (E.kl rfl) fun s₂ ls₂ => k s₂ g₁ v p ls₂ u₁
/-- two told alike -/
theorem op_ne_rowK {bb : Bool} {u v : Value} {l : List It} (hu : A.units + 64 < cLine) (x : RowK bb h u l) (y : RowK bb h v l) (ok : l.all itOk = true) : Gives (LM w) A h (compareOp .NotEq u v) fun r _ => r = .bool false := by
  cases bb with
  | true =>
    obtain ⟨a, t, rfl, e1⟩ := x
    obtain ⟨c, t2, rfl, e2⟩ := y
    have e3 : (sg a).map It.s = (sg c).map It.s := e1.symm.trans e2
    have e4 : sg a = sg c := List.map_inj_right (fun a b h => by injection h) |>.mp e3
    have e5 := sg_inj e4
    subst e5
    exact op_nes.mono fun v g _ e => by rw [e]; simp
  | false => exact (op_ne_rows x y ok ok hu).mono fun v g _ e => by rw [e]; simp
theorem op_eq_rowK {bb : Bool} {u v : Value} {l : List It} (hu : A.units + 64 < cLine) (x : RowK bb h u l) (y : RowK bb h v l) (ok : l.all itOk = true) : Gives (LM w) A h (compareOp .Eq u v) fun r _ => r = .bool true := by
  cases bb with
  | true =>
    obtain ⟨a, t, rfl, e1⟩ := x
    obtain ⟨c, t2, rfl, e2⟩ := y
    have e3 : (sg a).map It.s = (sg c).map It.s := e1.symm.trans e2
    have e4 : sg a = sg c := List.map_inj_right (fun a b h => by injection h) |>.mp e3
    have e5 := sg_inj e4
    subst e5
    exact op_eqs.mono fun v g _ e => by rw [e]; simp
  | false => exact (op_eq_rows x y ok ok hu).mono fun v g _ e => by rw [e]; simp
theorem op_isi_rowK {bb : Bool} {u : Value} {l : List It} (x : RowK bb h u l) : Gives (LM w) A h (call (.builtin "isinstance") [u, .type "str"]) fun r _ => r = .bool bb := by
  cases bb with
  | true => obtain ⟨a, t, rfl, _⟩ := x; exact op_isi_str_str
  | false => obtain ⟨a, vs, rfl, hl, _⟩ := x; exact op_isi_list_str hl
theorem all_take {l : List It} (h : ∀ a ∈ l, itOk a = true) (n : Nat) : (l.take n).all itOk = true := List.all_eq_true.mpr fun a ha => h a (List.mem_of_mem_take ha)
/-- told is as due, a text where letters of a text are asked, and so is what plain answers -/
theorem st16 (E : LawE w env L) (F : Fine A 30) (W : Wd (hd.heap_39 w.params) mg mb h) (ls : LS s₀ h L m [] cm g ps s) (P : LP w L g D H ts M way b i qv gv n x f) (mp : m "plain" = some (.ref x)) (mH : m "handed" = some (.ref H)) (mw : m "way" = some (.int way tw)) (h0 : ts[0]? = some t0) {tv dv : Value} (mt : m "told" = some tv) (md : m "due" = some dv)
    (ht : RowK (way == 0) g tv ((rowOf way t0).take (toldN ts M way i n))) (hd' : RowK (way == 0) g dv ((rowOf way t0).take (toldN ts M way i n)))
    (k : ∀ s' g', LS s₀ h L m [] cm g' ps s' → Up g g' → wpAny (LM w) A (execs (lawB w 17) env) Q Er s') : wpAny (LM w) A (execs (lawB w 16) env) Q Er s := by
  have e : lawB w 16 = _ :: lawB w 17 := rfl
  rw [e]
  clear e
  refine wpAny_execs_cons (wpAny_If (ls.evalF (P := fun c => c = false) (fun ge ug gN gC => ?_) fun c s₁ g₁ ls₁ u₁ p => ?_))
  · have Pg := P.up ug
    have Wg : Wd (hd.heap_39 w.params) mg mb ge := W.up fun b o e => ug b o (ls.fs.ran.up b o e)
    have ht1 := rowK_st _ _ _ _ (Up.seq ug) ht
    have hd1 := rowK_st _ _ _ _ (Up.seq ug) hd'
    have ok := all_take (rowOf_ok (way := way) (P.lc.ok t0 (List.mem_of_getElem? h0))) (toldN ts M way i n)
    refine gt_bop (ga_or (gt_cmp (gv_name (E.loc gN rfl mt) (gv_name (E.loc gN rfl md) ((op_ne_rowK F.u64 ht1 hd1 ok).mono fun v g1 u1 e1 => ?_)))))
    rw [e1]
    refine gt_bool ?_
    simp only [Bool.false_eq_true, if_false]
    refine ga_or (gt_cmp (gv_call (gv_name (E.blt (Wg.up u1) rfl rfl rfl (by decide)) (gv_call2 kept_builtin (gv_name ((E.loc gN rfl mt).keeps u1) (gv_name (E.blt (Wg.up u1) rfl rfl rfl (by decide)) ((op_isi_rowK (rowK_st _ _ _ _ (Up.seq u1) ht1)).mono fun v2 g2 u2 e2 => ?_)))))))
    subst e2
    -- way == 0 or way > 4
    refine Gives.mono (P := fun v _ => v = .bool (way == 0)) (gv_or (gv_cmp (gv_name ((E.loc gN rfl mw).keeps fun b o e => u2 b o (u1 b o e)) (gv_int fun t1 => op_eqi.mono fun v3 g3 u3 e3 => ?_)))) fun v4 g4 u4 e4 => ?_
    · subst e3
      refine gt_bool ?_
      by_cases hw : way = 0
      · subst hw
        exact rfl
      · have c1 : ((way : Int) == 0) = false := by rw [beq_eq_false_iff_ne]; omega
        have c2 : (way == 0) = false := by rw [beq_eq_false_iff_ne]; exact hw
        rw [c1, c2]
        simp only [Bool.false_eq_true, if_false]
        refine gv_bop1 (gv_cmp (gv_name ((E.loc gN rfl mw).keeps fun b o e => u3 b o (u2 b o (u1 b o e))) (gv_int fun t2 => op_gti.mono fun v5 g5 u5 e5 => ?_)))
        have := P.lc.five
        rw [e5, decide_eq_false (by omega)]
    · subst e4
      refine op_neb.mono fun v5 g5 u5 e5 => ?_
      rw [e5]
      refine gt_bool ?_
      simp only [bne_self_eq_false, Bool.false_eq_true, if_false]
      have u : Up ge g5 := fun b o e => u5 b o (u4 b o (u2 b o (u1 b o e)))
      have P5 := Pg.up u
      have W5 := Wg.up u
      obtain ⟨a, vs, e, hl, hv⟩ := P5.hd
      cases e
      have h4 : vs.length ≤ 4 := by rw [hv.length, P5.lc.len]; exact P5.lc.four
      refine ga_or (gt_cmp ((gv_xcall E (F.less (by decide)) (gN.keeps u) rfl (by decide) mp mH P5.inst hl h4 (called_prefix W5 P5.inst h4 (begs_plain W5 P5.lc cl_prefix P5.inst P5.sim hv h0 P5.hn))).mono fun v6 g6 u6 e6 => ?_))
      refine gv_name ((E.loc (gN.keeps u) rfl md).keeps u6) ((op_ne_rowK F.u64 e6 (rowK_st _ _ _ _ (Up.seq fun b o e => u6 b o (u b o e)) hd1) ok).mono fun v7 g7 u7 e7 => ?_)
      rw [e7]
      refine gt_bool ?_
      simp only [Bool.false_eq_true, if_false]
      exact ga_or_nil rfl
  · subst p
    simp only [Bool.false_eq_true, if_false]
    refine wpAny_execs_nil ?_
    dsimp only
    exact k s₁ g₁ ls₁ u₁
end

/-! part Fq62 -/
section
variable {w : World} {A : Around} {env : Env} {L : Nat} {s₀ s : Shared} {h g ge : Heap} {m cm : Str → Option Value} {ps : Array Value} {mg mb : Str → Option Value} {Q : Flow → Shared → Prop} {Er : Value → Shared → Prop} {D H : Nat} {ts : List Str} {M way : Nat} {b : Bool} {i : Int} {qv gv : Value} {tw : Tok} {n : Nat} {x : Nat} {f : Value} {vs : List Value} {t0 : Str}
def IsMax (ts : List Str) (mx : Nat) : Prop := (∃ t ∈ ts, t.length = mx) ∧ ∀ t ∈ ts, t.length ≤ mx
/-- longest = max([len(text) for text in texts]) -/
theorem st17 (E : LawE w env L) (F : Fine A 30) (W : Wd (hd.heap_39 w.params) mg mb h) (ls : LS s₀ h L m [] cm g ps s) (C : LC w L g D ts M way b i qv gv) (mt : m "texts" = some (.ref D))
    (k : ∀ s' g' (mx : Nat) t, IsMax ts mx → LS s₀ h L (fun y => if y = "longest" then some (.int mx t) else m y) [] cm g' ps s' → Up g g' → wpAny (LM w) A (execs (lawB w 18) env) Q Er s') : wpAny (LM w) A (execs (lawB w 17) env) Q Er s := by
  have e : lawB w 17 = _ :: lawB w 18 := rfl
  rw [e]
  clear e
  refine wpAny_execs_cons (wpAny_Assign_Name (ls.evalF (P := fun v => ∃ (mx : Nat) (t : Tok), v = .int (mx : Int) t ∧ IsMax ts mx) (fun ge ug gN gC => ?_) fun v s₁ g₁ ls₁ u₁ p => ?_))
  · have Cg := C.up ug
    have Wg : Wd (hd.heap_39 w.params) mg mb ge := W.up fun b o e => ug b o (ls.fs.ran.up b o e)
    obtain ⟨fa, nm, he⟩ := E.eq
    refine gv_call (gv_name (E.blt Wg rfl rfl rfl (by decide)) (gv_call1 kept_builtin ((comp_texts (R := fun _ v (k : Nat) => ∃ t, v = .int (k : Int) t) (f := Str.length) (cl := []) E F.handled Cg.txt (by rw [C.len]; exact C.four) gN mt (fun _ _ _ _ _ z => z) (by rw [he]; rfl) (by decide) rfl (by decide) rfl fun C' g₁ m₁ t tt ht ug hN hm => ?_).mono fun v g1 u1 hv => ?_)))
    · have := (C.ok t ht).1
      exact gv_call (gv_name (lk_builtin (env := compEnvC _ [] C' env) (Wg.up ug) rfl (by rw [he]; rfl) E.gl E.bi rfl rfl (by decide)) (gv_call1 kept_builtin (gv_name (lk_local (env := compEnvC _ [] C' env) rfl (by rw [he]; rfl) hN hm) ((op_len_str (by omega)).mono fun v g _ ⟨t, e⟩ => ⟨t, e⟩))))
    · obtain ⟨a, us, rfl, hl, hp⟩ := hv
      have hlen := hp.length
      rw [List.length_map] at hlen
      have hpos : 0 < us.length := by have := C.len; have := C.two; omega
      refine (op_max (n := us.length) (val := fun j => (((ts.map Str.length)[j]?.getD 0 : Nat) : Int)) (it := by have := iter_list (prog := PySem.Challenge.rw_fq5031_01.row.prog) (w := w) hl; simpa using this) hpos (fun j v hj => ?_) F.handled).mono fun v g2 _ ⟨mm, ⟨tm, e⟩, ⟨j, hj, e1⟩, e2⟩ => ?_
      · obtain ⟨k, hk, t, e⟩ := paired_at hp j v (by simpa using hj)
        exact ⟨t, by rw [e, hk]; rfl⟩
      · have hj' : j < ts.length := by omega
        have ej : (ts.map Str.length)[j]?.getD 0 = ts[j].length := by rw [List.getElem?_map, List.getElem?_eq_getElem hj']; rfl
        rw [ej] at e1
        refine ⟨ts[j].length, tm, by rw [e, e1], ⟨ts[j], List.getElem_mem _, rfl⟩, fun t ht => ?_⟩
        obtain ⟨q, hq, rfl⟩ := List.mem_iff_getElem.mp ht
        have := e2 q (by omega)
        have eq' : (ts.map Str.length)[q]?.getD 0 = ts[q].length := by rw [List.getElem?_map, List.getElem?_eq_getElem hq]; rfl
        rw [eq'] at this
        omega
  · obtain ⟨mx, t, rfl, hm⟩ := p
    exact ls₁.store E.lo E.ek (E.kl rfl) fun s₂ ls₂ => k s₂ g₁ mx t hm ls₂ u₁
theorem told_len (hn : (∀ r ∈ ts.map (rowOf way), n ≤ r.length) ∧ ∃ r ∈ ts.map (rowOf way), r.length = n) (h0 : ts[0]? = some t0) : ((rowOf way t0).take (toldN ts M way i n)).length = toldN ts M way i n := by
  rw [List.length_take]
  have h1 := told_le (sameBy (eqvB (gr M way) i)) (ts.map (rowOf way)) n
  have h2 := hn.1 (rowOf way t0) (List.mem_map_of_mem (List.mem_of_getElem? h0))
  unfold toldN
  omega
theorem st18 (E : LawE w env L) (F : Fine A 30) (W : Wd (hd.heap_39 w.params) mg mb h) (ls : LS s₀ h L m [] cm g ps s) (P : LP w L g D H ts M way b i qv gv n x f) (mp : m "plain" = some (.ref x)) (mH : m "handed" = some (.ref H)) (h0 : ts[0]? = some t0) {mx : Nat} {tm tz : Tok} (hmx : IsMax ts mx) (ml : m "longest" = some (.int mx tm)) (mz : m "told_size" = some (.int (toldN ts M way i n : Nat) tz))
    (k : ∀ s' g', LS s₀ h L m [] cm g' ps s' → Up g g' → wpAny (LM w) A (execs (lawB w 19) env) Q Er s') : wpAny (LM w) A (execs (lawB w 18) env) Q Er s := by
  have e : lawB w 18 = _ :: lawB w 19 := rfl
  rw [e]
  clear e
  refine wpAny_execs_cons (wpAny_If (ls.evalF (P := fun c => c = false) (fun ge ug gN gC => ?_) fun c s₁ g₁ ls₁ u₁ p => ?_))
  · have Pg := P.up ug
    have Wg : Wd (hd.heap_39 w.params) mg mb ge := W.up fun b o e => ug b o (ls.fs.ran.up b o e)
    obtain ⟨a, vs, e, hl, hv⟩ := Pg.hd
    cases e
    have h4 : vs.length ≤ 4 := by rw [hv.length, Pg.lc.len]; exact Pg.lc.four
    have hlen := told_len (M := M) (i := i) P.hn h0
    have hs : ((rowOf way t0).take (toldN ts M way i n)).length < 1000 := by
      have := rowOf_len (way := way) (P.lc.ok t0 (List.mem_of_getElem? h0))
      rw [List.length_take]; omega
    have bg := begs_plain Wg Pg.lc cl_prefix Pg.inst Pg.sim hv h0 Pg.hn
    have cd := called_prefix Wg Pg.inst h4 bg
    refine gt_bop (ga_or (gt_cmp ((gv_xsim E (F.less (by decide)) Wg gN rfl (by decide) mp mH cl_prefix Pg.inst hl h4 hs cd).mono fun v1 g1 u1 ⟨t1, e1⟩ => ?_)))
    subst e1
    refine gv_name ((E.loc gN rfl mz).keeps u1) (op_nei.mono fun v2 g2 u2 e2 => ?_)
    rw [e2]
    refine gt_bool ?_
    have c1 : (((((rowOf way t0).take (toldN ts M way i n)).length : Nat) : Int) != ((toldN ts M way i n : Nat) : Int)) = false := by rw [hlen]; exact bne_self_eq_false _
    rw [c1]
    simp only [Bool.false_eq_true, if_false]
    have u : Up ge g2 := fun b o e => u2 b o (u1 b o e)
    have P2 := Pg.up u
    have W2 := Wg.up u
    have hv2 : Paired (HR (lstd way b) g2) vs ts := paired_mono (fun v t z => hr_st _ _ _ _ (Up.seq u) z) hv
    have hm : (∃ r ∈ (ts.map sg).map (List.map It.s), r.length = mx) ∧ ∀ r ∈ (ts.map sg).map (List.map It.s), r.length ≤ mx := by
      have e1 : ∀ t : Str, ((sg t).map It.s).length = t.length := fun t => by rw [List.length_map, sg_len]; rfl
      obtain ⟨⟨t, ht, h1⟩, h2⟩ := hmx
      refine ⟨⟨(sg t).map It.s, List.mem_map_of_mem (List.mem_map_of_mem ht), by rw [e1, h1]⟩, fun r hr => ?_⟩
      rw [List.map_map] at hr
      obtain ⟨t, ht, rfl⟩ := List.mem_map.mp hr
      show ((sg t).map It.s).length ≤ mx
      rw [e1]; exact h2 t ht
    refine ga_or (gt_cmp ((gv_xdist E (F.less (by decide)) W2 (gN.keeps u) rfl (by decide) mp mH cl_prefix P2.inst (hl.at fun o e => u _ o e) h4 hs (fun A' h' F' u' => cd A' h' F' fun b o e => u' b o (u b o e)) (hr_rows P2.lc hv2) (by simpa using P.lc.ne) hm).mono fun v3 g3 u3 ⟨t3, e3⟩ => ?_))
    subst e3
    refine gv_binop (gv_name ((E.loc (gN.keeps u) rfl ml).keeps u3) (gv_name ((E.loc (gN.keeps u) rfl mz).keeps u3) (op_sub.mono fun v4 g4 u4 ⟨t4, e4⟩ => ?_)))
    subst e4
    refine op_nei.mono fun v5 g5 u5 e5 => ?_
    rw [e5]
    refine gt_bool ?_
    have c2 : ((mx : Int) - ((((rowOf way t0).take (toldN ts M way i n)).length : Nat) : Int) != (mx : Int) - ((toldN ts M way i n : Nat) : Int)) = false := by rw [hlen]; exact bne_self_eq_false _
    rw [c2]
    simp only [Bool.false_eq_true, if_false]
    exact ga_or_nil rfl
  · subst p
    simp only [Bool.false_eq_true, if_false]
    refine wpAny_execs_nil ?_
    dsimp only
    exact k s₁ g₁ ls₁ u₁
end

/-! part Fq63 -/
section
variable {w : World} {A : Around} {env : Env} {L : Nat} {s₀ s : Shared} {h g ge : Heap} {m cm : Str → Option Value} {ps : Array Value} {mg mb : Str → Option Value} {Q : Flow → Shared → Prop} {Er : Value → Shared → Prop} {D H : Nat} {ts : List Str} {M way : Nat} {b : Bool} {i : Int} {qv gv : Value} {tw : Tok} {n : Nat} {x : Nat} {f : Value} {vs : List Value} {t0 : Str}
theorem LS.slots {h' : Heap} {tk : Nat} (ls : LS s₀ h L m [] cm g ps s) (k : ∀ (b : Nat) o, b ≠ L → s.heap.get? b = some o → h'.get? b = some o) (nn : h'.Ns L m) : LS s₀ h L m [] cm g ps { s with heap := h', toks := tk } :=
  ⟨ls.fs.slots k nn, k _ _ ls.neL ls.tab, ls.off, ls.off0⟩
/-- Prefix()(text): the text -/
theorem called_one (W : Wd (hd.heap_39 w.params) mg mb h) {x : Nat} {t tt : Tok} {x0 : Str} (i0 : Inst h x 222 (.int 1 t) (.ref 100)) (hx : x0.length < 1000) : Called w h x [.str x0 tt] true ((sg x0).map .s) := by
  have e1 : sameBy (eqvB false 0) = allSame := funext fun l => sameBy_allSame l
  have hlen : ((sg x0).map It.s).length < 1000 := by rw [List.length_map, sg_len]; exact hx
  have hr : Rows h [.str x0 tt] ([sg x0].map (List.map .s)) := ⟨.cons (.inr ⟨x0, tt, rfl, rfl⟩) .nil, fun r hr => by rw [List.mem_singleton.mp hr]; exact hlen, by show 1 ≤ 4; decide⟩
  have B := begs_cut W (two := false) (b := true) (c0 := sg x0) (n := (cutRow false (sg x0)).length) cl_prefix i0 (simT_ident W) hr (.cons ⟨x0, tt, rfl, rfl⟩ .nil) rfl ⟨fun r hr => by rw [List.mem_singleton.mp hr]; exact Nat.le_refl _, _, List.mem_singleton.mpr rfl, rfl⟩
    (ok_ident (kind_cut false [sg x0]) (by show 1 ≤ 4; decide) (by simp) fun r hr => by rw [List.mem_singleton.mp hr]; exact Nat.le_refl _)
  have e2 : told allSame ([sg x0].map (cutRow false)) (cutRow false (sg x0)).length = (cutRow false (sg x0)).length := by
    refine told_eq (Nat.le_refl _) (fun j hj => ?_) (.inl rfl)
    have e3 : col ([sg x0].map (cutRow false)) j = [(cutRow false (sg x0))[j]] := by
      show (([cutRow false (sg x0)]).filterMap (·[j]?)) = _
      simp [List.getElem?_eq_getElem hj]
    rw [e3]
    unfold allSame
    simp
  rw [e2, List.take_length] at B
  exact called_prefix W i0 (by show 1 ≤ 4; decide) B
/-- Prefix()(texts[0]) is it, Prefix()() is '', and Postfix()() is refused -/
theorem st19 (E : LawE w env L) (F : Fine A 30) (hfr : A.frames = some [env]) (W : Wd (hd.heap_39 w.params) mg mb h) (ls : LS s₀ h L m [] cm g ps s) (C : LC w L g D ts M way b i qv gv) (mt : m "texts" = some (.ref D)) (h0 : ts[0]? = some t0)
    (k : ∀ s' g', LS s₀ h L m [] cm g' ps s' → Up g g' → wpAny (LM w) A (execs (lawB w 20) env) Q Er s') : wpAny (LM w) A (execs (lawB w 19) env) Q Er s := by
  have e : lawB w 19 = _ :: lawB w 20 := rfl
  rw [e]
  clear e
  have okt := C.ok t0 (List.mem_of_getElem? h0)
  have hx : t0.length < 1000 := by have := okt.1; omega
  refine wpAny_execs_cons (wpAny_If (wpAny_isTrue_BoolOp (wpAny_allTrue_Or_cons (ls.evalF (P := fun c => c = false) (fun ge ug gN gC => ?_) fun c s₁ g₁ ls₁ u₁ p => ?_))))
  · have Cg := C.up ug
    have Wg : Wd (hd.heap_39 w.params) mg mb ge := W.up fun b o e => ug b o (ls.fs.ran.up b o e)
    obtain ⟨a, vs, e, hl, hv⟩ := Cg.txt
    cases e
    obtain ⟨v0, hv0, tv, rfl⟩ := paired_both hv 0 t0 h0
    refine gt_cmp (gv_call (gv_make0 Wg (F.less (by decide)) cl_prefix clm_prefix rfl (E.glb Wg rfl rfl) (by decide) fun t g1 u1 x i1 => gv_callA1 (inst_kept i1.inst) (gv_sub (gv_name ((E.loc gN rfl mt).keeps u1) (gv_int fun t2 => op_item_list (k := 0) (hl.at fun o e => u1 _ o e) hv0 (by decide) ?_)))))
    refine (called_one (Wg.up u1) i1.inst hx _ _ (F.less (by decide)) fun _ _ e => e).call.mono fun v g2 u2 hv2 => ?_
    have u : Up ge g2 := fun b o e => u2 b o (u1 b o e)
    refine gv_sub (gv_name ((E.loc gN rfl mt).keeps u) (gv_int fun t2 => op_item_list (k := 0) (hl.at fun o e => u _ o e) hv0 (by decide) ?_))
    refine (op_ne_rowK (bb := true) F.u64 hv2 ⟨t0, tv, rfl, rfl⟩ (List.all_eq_true.mpr fun a ha => ?_)).mono fun v g3 _ e3 => by rw [e3]; exact gt_bool rfl
    obtain ⟨y, hy, rfl⟩ := List.mem_map.mp ha
    exact okT_sign okt hy
  subst p
  simp only [Bool.false_eq_true, if_false]
  refine wpAny_allTrue_Or_cons (ls₁.evalF (P := fun c => c = false) (fun ge ug gN gC => ?_) fun c s₂ g₂ ls₂ u₂ p => ?_)
  · have Wg : Wd (hd.heap_39 w.params) mg mb ge := W.up fun b o e => ug b o (ls₁.fs.ran.up b o e)
    refine gt_cmp (gv_call (gv_make0 Wg (F.less (by decide)) cl_prefix clm_prefix rfl (E.glb Wg rfl rfl) (by decide) fun t g1 u1 x i1 => gv_callA0 (inst_kept i1.inst) ?_))
    refine (called_prefix (Wg.up u1) i1.inst (by decide) (begs_nil (Wg.up u1)) _ _ (F.less (by decide)) fun _ _ e => e).call.mono fun v g2 u2 hv2 => gv_str fun t2 => ?_
    exact (op_ne_rowK (bb := true) F.u64 hv2 ⟨"", t2, rfl, rfl⟩ rfl).mono fun v g3 _ e3 => by rw [e3]; exact gt_bool rfl
  subst p
  simp only [Bool.false_eq_true, if_false]
  have low := ls₂.fs.ran.low
  have W2 : Wd (hd.heap_39 w.params) mg mb g₂ := W.up ls₂.fs.ran.up
  refine wpAny_allTrue_Or_cons (wpAny_isTrue_Not (wpAny_isTrue_value (Call_ (wpAny_Name (E.glb (W2.up low) rfl rfl _ _ _ s₂ (fun _ _ e => e) ?_) (by decide)))))
  refine callWith_of (P := fun h' => Up g₂ h') rfl (fun h' u => (kept_fn (W2.K 263 _ rfl) rfl : Kept (LM w) g₂ (.ref 263)).up u) (evalArgs_flat (args := []) rfl (wpAny_pure ⟨low, wpAny_call ?_⟩))
  refine c_refused hfr E.fr (by rw [E.ek]; decide) W2 (F.less (by decide)) low ls₂.fs.ns ls₂.fs.offL fun s₃ ⟨h₃, t₃, e₃⟩ k₃ n₃ => ?_
  subst e₃
  have ls₃ := ls₂.slots (tk := t₃) k₃ n₃
  refine wpAny_truthy_bool ?_
  simp only [Bool.not_true, Bool.false_eq_true, if_false]
  refine wpAny_allTrue_Or_nil ?_
  simp only [Bool.false_eq_true, if_false]
  refine wpAny_execs_nil ?_
  dsimp only
  exact k _ g₂ ls₃ fun b o e => u₂ b o (u₁ b o e)
/-- if not behind: return True -/
theorem st20 (E : LawE w env L) (ls : LS s₀ h L m [] cm g ps s) (mb' : m "behind" = some (.bool b)) (fin : ∀ s' g', LS s₀ h L m [] cm g' ps s' → b = false → Q (.ret (.bool true)) s')
    (k : ∀ s' g', LS s₀ h L m [] cm g' ps s' → Up g g' → b = true → wpAny (LM w) A (execs (lawB w 21) env) Q Er s') : wpAny (LM w) A (execs (lawB w 20) env) Q Er s := by
  have e : lawB w 20 = _ :: lawB w 21 := rfl
  rw [e]
  clear e
  refine wpAny_execs_cons (wpAny_If (ls.evalF (P := fun c => c = !b) (fun ge ug gN gC => gt_not (gt_value (gv_name (E.loc gN rfl mb') (gt_bool rfl)))) fun c s₁ g₁ ls₁ u₁ p => ?_))
  subst p
  cases b with
  | false =>
    simp only [Bool.not_false, if_true]
    refine wpAny_execs_cons (wpAny_Return_some (ls₁.evalF (P := fun v => v = .bool true) (fun ge ug gN gC => gv_bool rfl) fun v s₂ g₂ ls₂ u₂ p => ?_))
    subst p
    exact fin s₂ g₂ ls₂ rfl
  | true =>
    simp only [Bool.not_true, Bool.false_eq_true, if_false]
    refine wpAny_execs_nil ?_
    dsimp only
    exact k s₁ g₁ ls₁ u₁ rfl
end

/-! part Fq64 -/
def turnedOf (way : Nat) (t : Str) : List It := cutRow (way == 2) (sg t).reverse
def endN (ts : List Str) (M way : Nat) (i : Int) (n : Nat) : Nat := told (sameBy (eqvB (gr M way) i)) (ts.map (turnedOf way)) n
section
variable {w : World} {A : Around} {env : Env} {L : Nat} {s₀ s : Shared} {h g ge : Heap} {m cm : Str → Option Value} {ps : Array Value} {mg mb : Str → Option Value} {Q : Flow → Shared → Prop} {Er : Value → Shared → Prop} {D H : Nat} {ts : List Str} {M way : Nat} {b : Bool} {i : Int} {qv gv : Value} {tw : Tok} {n : Nat} {x : Nat} {f : Value} {vs : List Value} {t0 : Str}
theorem turnedOf_len {b : Nat} {t : Str} (h : OkT b t) : (turnedOf way t).length ≤ b := by
  have h1 := cutRow_len (way == 2) (sg t).reverse
  rw [List.length_reverse, sg_len] at h1
  have h2 := h.1
  have e : t.length = t.cps.size := rfl
  unfold turnedOf
  omega
theorem turnedOf_okI {b : Nat} {t : Str} (h : OkT b t) : ∀ a ∈ turnedOf way t, okIB (gr M way) a :=
  cut_okI (fun y hy => h.2 y (List.mem_reverse.mp hy)) fun e => by
    have := (of_decide_eq_true e).2
    rw [beq_eq_false_iff_ne]; omega
/-- turned -/
theorem st21 (E : LawE w env L) (F : Fine A 10) (W : Wd (hd.heap_39 w.params) mg mb h) (ls : LS s₀ h L m [] cm g ps s) (C : LC w L g D ts M way b i qv gv) (hb : b = true) (mt : m "texts" = some (.ref D))
    (k : ∀ s' g' v, LstV (LstV ItV) g' v (ts.map (turnedOf way)) → LS s₀ h L (fun y => if y = "turned" then some v else m y) [] cm g' ps s' → Up g g' → wpAny (LM w) A (execs (lawB w 22) env) Q Er s') : wpAny (LM w) A (execs (lawB w 21) env) Q Er s := by
  have e : lawB w 21 = _ :: lawB w 22 := rfl
  rw [e]
  clear e
  have up : ∀ ge, Up g ge → Up h ge := fun ge u b o e => u b o (ls.fs.ran.up b o e)
  obtain ⟨fa, nm, he⟩ := E.eq
  have hw : ¬ way > 2 := by have := C.beh hb; omega
  have c4 : ts.length ≤ 4 := by rw [C.len]; exact C.four
  obtain ⟨a, us, ea, hl, hp⟩ := C.txt
  cases ea
  have hlen := hp.length
  refine wpAny_execs_cons (fs_compN (x := "text") (n := us.length) (P := fun i v => us[i]? = some v) (cl := [(("q" : Str), L + 1)]) (fun _ => true) (fun i v g => ∃ t, ts[i]? = some t ∧ LstV ItV g v (turnedOf way t)) ls.fs E.lo (E.kl rfl) E.ek (by rw [he]; rfl) (fun i v g g' k ⟨t, e, z⟩ => ⟨t, e, lstV_st itV_st _ _ _ _ k z⟩) F.handled (by rw [he]; rfl) (by decide) rfl (by decide) rfl (by have : sizeLine = 2 ^ 24 := rfl; omega) (fun ge ug gN gC => ?_) (fun _ => rfl)
    fun D' s' g' ys fs' ug' kL hD hl' hp' only => ?_)
  · have Cg := C.up ug
    have Wg := W.up (up ge ug)
    refine gv_name (E.loc gN rfl mt) ⟨by simpa using iter_list (prog := PySem.Challenge.rw_fq5031_01.row.prog) (w := w) (hl.at fun o e => ug _ o e), fun C g i v m hi hp ug hN hm => Gives.pure rfl, fun C' g₁ j v m₁ hi hpi _ ug1 hN hm => ?_⟩
    obtain ⟨t, ht, tt, rfl⟩ := paired_at hp j v hpi
    have hy := (C.ok t (List.mem_of_getElem? ht)).1
    have W1 := Wg.up ug1
    have hq := Cg.cq.keeps ug1
    have hsl : (sg t).length < 1000 := by rw [sg_len]; have e : t.length = t.cps.size := rfl; omega
    refine gv_call (gv_name (lk_global (env := compEnvC _ [(("q" : Str), L + 1)] C' env) W1 rfl (by rw [he]; rfl) E.gl rfl) (gv_call2 (kept_fn (W1.K 251 _ rfl) rfl) (gv_call (gv_name (lk_global (env := compEnvC _ [(("q" : Str), L + 1)] C' env) W1 rfl (by rw [he]; rfl) E.gl rfl) (gv_call1 (kept_fn (W1.K 246 _ rfl) rfl) ((gv_signs F.handled (show t.length < 1000 by omega) (lk_local (env := compEnvC _ [(("q" : Str), L + 1)] C' env) rfl (by rw [he]; rfl) hN hm)).mono fun v2 g2 u2 hv2 => ?_))))))
    refine (c_turned (W1.up u2) (F.less (by decide)) hv2 (by rw [List.length_map]; exact hsl)).call.mono fun v3 g3 u3 hv3 => ?_
    rw [← List.map_reverse] at hv3
    have u : Up g₁ g3 := fun b o e => u3 b o (u2 b o e)
    refine gv_name (lk_cell (env := compEnvC _ [(("q" : Str), L + 1)] C' env) rfl (by rw [he]; rfl) rfl (hq.keeps u)) ?_
    exact (c_cut (W1.up u) (F.less (by decide)) hv3 (by rw [List.length_reverse]; exact hsl) (qv_two C.q hw)).call.mono fun v g _ z => ⟨t, ht, z⟩
  · dsimp only
    obtain ⟨h1, h2⟩ := range_all hp'
    refine k s' g' (.ref D') ⟨D', ys, rfl, hl', paired_of (by rw [List.length_map, h1, hlen]) fun j v r hv hr => ?_⟩ ⟨fs', kL _ _ ls.neL ls.tab, ?_, ls.off0⟩ ug'
    · obtain ⟨t, ht, z⟩ := h2 j v hv
      rw [List.getElem?_map, ht] at hr
      cases hr
      exact z
    · rcases only 265 with z | ⟨o, z⟩ | z
      · exact z
      · rw [ls.off] at z; cases z
      · rw [ls.tab] at z; cases z
theorem st22 (E : LawE w env L) (F : Fine A 10) (W : Wd (hd.heap_39 w.params) mg mb h) (ls : LS s₀ h L m [] cm g ps s) (C : LC w L g D ts M way b i qv gv) {rv : Value} (mr : m "turned" = some rv) (hr : LstV (LstV ItV) g rv (ts.map (turnedOf way)))
    (hn : (∀ r ∈ ts.map (turnedOf way), n ≤ r.length) ∧ ∃ r ∈ ts.map (turnedOf way), r.length = n)
    (k : ∀ s' g' t, LS s₀ h L (fun y => if y = "end_size" then some (.int (endN ts M way i n : Nat) t) else m y) [] cm g' ps s' → Up g g' → wpAny (LM w) A (execs (lawB w 23) env) Q Er s') : wpAny (LM w) A (execs (lawB w 22) env) Q Er s := by
  have e : lawB w 22 = _ :: lawB w 23 := rfl
  rw [e]
  clear e
  have up : ∀ ge, Up g ge → Up h ge := fun ge u b o e => u b o (ls.fs.ran.up b o e)
  refine wpAny_execs_cons (wpAny_Assign_Name (ls.evalF (P := fun v => ∃ t, v = .int (endN ts M way i n : Nat) t) (fun ge ug gN gC => ?_) fun v s₁ g₁ ls₁ u₁ p => ?_))
  · have Cg := C.up ug
    refine gv_size E F (W.up (up ge ug)) gN rfl (by decide) mr (lstV_st (lstV_st itV_st) _ _ _ _ (Up.seq ug) hr) (by simpa using C.ne) (by rw [List.length_map, C.len]; exact C.four) (fun r hr => ?_) hn Cg.cg Cg.gv fun r hr a ha => ?_
    · obtain ⟨t, ht, rfl⟩ := List.mem_map.mp hr
      have := turnedOf_len (way := way) (C.ok t ht)
      omega
    · obtain ⟨t, ht, rfl⟩ := List.mem_map.mp hr
      exact turnedOf_okI (C.ok t ht) a ha
  · obtain ⟨t, rfl⟩ := p
    exact ls₁.store E.lo E.ek (E.kl rfl) fun s₂ ls₂ => k s₂ g₁ t ls₂ u₁
/-- items -/
theorem st23 (E : LawE w env L) (F : Fine A 10) (W : Wd (hd.heap_39 w.params) mg mb h) (ls : LS s₀ h L m [] cm g ps s) (C : LC w L g D ts M way b i qv gv) {rv : Value} {c : Nat} {tc : Tok} (mr : m "turned" = some rv) (mz : m "end_size" = some (.int (c : Nat) tc)) (hr : LstV (LstV ItV) g rv (ts.map (turnedOf way))) (h0 : ts[0]? = some t0)
    (k : ∀ s' g' v, LstV ItV g' v ((turnedOf way t0).take c).reverse → LS s₀ h L (fun y => if y = "items" then some v else m y) [] cm g' ps s' → Up g g' → wpAny (LM w) A (execs (lawB w 24) env) Q Er s') : wpAny (LM w) A (execs (lawB w 23) env) Q Er s := by
  have e : lawB w 23 = _ :: lawB w 24 := rfl
  rw [e]
  clear e
  have up : ∀ ge, Up g ge → Up h ge := fun ge u b o e => u b o (ls.fs.ran.up b o e)
  refine wpAny_execs_cons (wpAny_Assign_Name (ls.evalR (P := fun v g => LstV ItV g v ((turnedOf way t0).take c).reverse) (fun v g g' k z => lstV_st itV_st _ _ _ _ k z) (fun ge ug gN gC => ?_) fun v s₁ g₁ ls₁ u₁ p => ?_))
  · have Wg := W.up (up ge ug)
    have hs := turnedOf_len (way := way) (C.ok t0 (List.mem_of_getElem? h0))
    refine gv_call (gv_name (E.glb Wg rfl rfl) (gv_call1 (kept_fn (Wg.K 246 _ rfl) rfl) ((gv_head E gN rfl (by decide) mr rfl (by decide) mz (lstV_st (lstV_st itV_st) _ _ _ _ (Up.seq ug) hr) (by rw [List.getElem?_map, h0]; rfl) (by omega)).mono fun v g1 u1 hv => ?_)))
    exact (c_turned (Wg.up u1) (F.less (by decide)) hv (by rw [List.length_take]; omega)).call
  · exact ls₁.store E.lo E.ek (E.kl rfl) fun s₂ ls₂ => k s₂ g₁ v p ls₂ u₁
/-- end -/
theorem st24 (E : LawE w env L) (ls : LS s₀ h L m [] cm g ps s) (C : LC w L g D ts M way b i qv gv) {iv : Value} {c : Nat} (mw : m "way" = some (.int way tw)) (mi : m "items" = some iv) (hi : LstV ItV g iv ((turnedOf way t0).take c).reverse) (h0 : ts[0]? = some t0)
    (k : ∀ s' g' v, RowK (way == 0) g' v ((turnedOf way t0).take c).reverse → LS s₀ h L (fun y => if y = "end" then some v else m y) [] cm g' ps s' → Up g g' → wpAny (LM w) A (execs (lawB w 25) env) Q Er s') : wpAny (LM w) A (execs (lawB w 24) env) Q Er s := by
  have e : lawB w 24 = _ :: lawB w 25 := rfl
  rw [e]
  clear e
  refine wpAny_execs_cons (wpAny_Assign_Name (ls.evalR (P := fun v g => RowK (way == 0) g v ((turnedOf way t0).take c).reverse) (fun v g g' k z => rowK_st _ _ _ _ k z) (fun ge ug gN gC => ?_) fun v s₁ g₁ ls₁ u₁ p => ?_))
  · have ok0 := C.ok t0 (List.mem_of_getElem? h0)
    refine gv_ifexp (gt_cmp (gv_name (E.loc gN rfl mw) (gv_int fun t1 => op_eqi.mono fun v g1 u1 e1 => ?_)))
    rw [e1]
    refine gt_bool ?_
    have hi1 := lstV_st itV_st _ _ _ _ (Up.seq fun b o e => u1 b o (ug b o e)) hi
    by_cases hw : way = 0
    · subst hw
      simp only [show (((0 : Nat) : Int) == 0) = true from rfl, if_true]
      have e2 : ((turnedOf 0 t0).take c).reverse = (((t0.cps.toList.reverse.take c).reverse).map one1).map .s := by
        have e3 : turnedOf 0 t0 = (t0.cps.toList.reverse.map one1).map .s := by
          show (sg t0).reverse.map It.s = _
          rw [sg_ones, ← List.map_reverse]
        rw [e3, ← List.map_take, ← List.map_take, ← List.map_reverse, ← List.map_reverse]
      rw [e2] at hi1 ⊢
      refine gv_joined (by
        rw [List.length_reverse, List.length_take, List.length_reverse]
        have := ok0.1
        have e3 : t0.cps.toList.length = t0.length := by simp [Str.length]
        omega) (gv_name (E.loc (gN.keeps u1) rfl mi) hi1)
    · have c1 : ((way : Int) == 0) = false := by rw [beq_eq_false_iff_ne]; omega
      have c2 : (way == 0) = false := by rw [beq_eq_false_iff_ne]; exact hw
      rw [c1, c2]
      simp only [Bool.false_eq_true, if_false]
      exact gv_name (E.loc (gN.keeps u1) rfl mi) hi1
  · exact ls₁.store E.lo E.ek (E.kl rfl) fun s₂ ls₂ => k s₂ g₁ v p ls₂ u₁
end

/-! part Fq65 -/
section
variable {w : World} {A : Around} {env : Env} {L : Nat} {s₀ s : Shared} {h g ge : Heap} {m cm : Str → Option Value} {ps : Array Value} {mg mb : Str → Option Value} {Q : Flow → Shared → Prop} {Er : Value → Shared → Prop} {D H : Nat} {ts : List Str} {M way : Nat} {b : Bool} {i : Int} {qv gv : Value} {tw : Tok} {n : Nat} {x : Nat} {f : Value} {vs : List Value} {t0 : Str}
theorem st25 (E : LawE w env L) (F : Fine A 10) (W : Wd (hd.heap_39 w.params) mg mb h) (lh : LawH h mg) (ls : LS s₀ h L m [] cm g ps s) (C : LC w L g D ts M way b i qv gv) (tab : TabOk ps)
    (k : ∀ s' g' ps' (x : Nat) f, Inst g' x 239 qv f → SimT w g' f (sameBy (eqvB (gr M way) i)) (okB (gr M way)) → LS s₀ h L (fun y => if y = "last" then some (.ref x) else m y) [] cm g' ps' s' → Up g g' → wpAny (LM w) A (execs (lawB w 26) env) Q Er s') : wpAny (LM w) A (execs (lawB w 25) env) Q Er s := by
  have e : lawB w 25 = _ :: lawB w 26 := rfl
  rw [e]
  clear e
  refine wpAny_execs_cons (wpAny_Assign_Name (wpAny_IfExp (ls.evalF (P := fun c => c = (gv == Value.none)) (fun ge ug gN gC => gt_cmp (gv_name (E.cel rfl (by rw [E.ce]; rfl) (C.cg.keeps ug)) (gv_none (op_is_none.mono fun v g u e => by rw [e]; exact gt_bool rfl)))) fun c s₁ g₁ ls₁ u₁ p => ?_)))
  have C1 := C.up u₁
  have Wg : Wd (hd.heap_39 w.params) mg mb g₁ := W.up ls₁.fs.ran.up
  subst p
  rcases C1.gv with ⟨rfl, hg⟩ | ⟨hg, d, rfl, dg⟩
  · have e0 : gr M way = false := decide_eq_false hg
    simp only [show ((Value.none == Value.none) : Bool) = true from rfl, if_true]
    refine ls_plain E (F.less (by decide)) W ls₁ C1 cl_postfix clm_postfix rfl rfl rfl (by decide) fun s₂ g₂ x ls₂ u₂ i₂ => ?_
    refine ls₂.store E.lo E.ek (E.kl rfl) fun s₃ ls₃ => ?_
    exact k s₃ g₂ _ x _ i₂ (by rw [e0]; exact simB (Wg.up u₂)) ls₃ fun b o e => u₂ b o (u₁ b o e)
  · have e0 : gr M way = true := decide_eq_true hg
    simp only [show ((Value.ref d == Value.none) : Bool) = false from rfl, Bool.false_eq_true, if_false]
    refine ls_grouped E (F.less (by decide)) W lh ls₁ C1 dg cl_postfix clm_postfix rfl rfl rfl (by decide) tab.1 (tab.2 _ (by decide)) fun s₂ g₂ x f c' ls₂ u₂ i₂ sim₂ => ?_
    refine ls₂.store E.lo E.ek (E.kl rfl) fun s₃ ls₃ => ?_
    exact k s₃ g₂ _ x _ i₂ (by rw [e0]; exact sim₂) ls₃ fun b o e => u₂ b o (u₁ b o e)
theorem called_last (W : Wd (hd.heap_39 w.params) mg mb g) (K : LC w L g D ts M way b i qv gv) (hb : b = true) (i0 : Inst g x 239 qv f) (sim : SimT w g f (sameBy (eqvB (gr M way) i)) (okB (gr M way))) (hv : Paired (HR (lstd way b) g) vs ts) (h0 : ts[0]? = some t0)
    (hn : (∀ r ∈ ts.map (turnedOf way), n ≤ r.length) ∧ ∃ r ∈ ts.map (turnedOf way), r.length = n) :
    Called w g x vs (way == 0) ((turnedOf way t0).take (endN ts M way i n)).reverse := by
  have hw := K.beh hb
  subst hb
  have hh : ts.head? = some t0 := by rw [List.head?_eq_getElem?]; exact h0
  have er : (ts.map sg).map (fun c => cutRow (way == 2) c.reverse) = ts.map (turnedOf way) := by rw [List.map_map]; rfl
  have er2 : ((ts.map sg).map List.reverse).map (cutRow (way == 2)) = ts.map (turnedOf way) := by rw [List.map_map, List.map_map]; rfl
  have hi : ∃ t, Inst g x 239 (.int (if (way == 2) = true then 2 else 1) t) f := by
    rcases K.q with ⟨h, t, e⟩ | ⟨h, t, e⟩ | ⟨h, e⟩ | ⟨h, t, e⟩
    · have a2 : (way == 2) = false := by rw [beq_eq_false_iff_ne]; omega
      rw [a2]; exact ⟨t, e ▸ i0⟩
    · have a2 : (way == 2) = true := by rw [beq_iff_eq]; exact h
      rw [a2]; exact ⟨t, e ▸ i0⟩
    · omega
    · omega
  obtain ⟨t, i1⟩ := hi
  obtain ⟨w0, hw0, hr0⟩ := paired_both hv 0 t0 h0
  have hrow : RowK (way == 0) g w0 ((sg t0).map .s) := by
    by_cases h00 : way = 0
    · subst h00
      obtain ⟨k, rfl⟩ := hr0
      exact ⟨t0, k, rfl, rfl⟩
    · have e2 : (way == 0) = false := by rw [beq_eq_false_iff_ne]; exact h00
      have e3 : lstd way true = true := by
        unfold lstd
        have : way = 1 ∨ way = 2 := by omega
        rcases this with rfl | rfl <;> rfl
      rw [e2]
      rw [e3] at hr0
      exact hr0
  have Z := called_postfix (two := way == 2) (b := way == 0) (c0 := sg t0) (n := n) W i1 sim (hr_rows K hv) (by rw [List.head?_map, hh]; rfl) hw0 hrow (fun e => ⟨by
    have : way = 0 := by simpa using e
    rw [this]; rfl, t0.cps.toList, rfl⟩) (by rw [er]; exact hn) (by
    rw [er, ← er2]
    refine ok_cut (by rw [List.length_map, List.length_map]; exact K.len) K.four K.two (fun l hl y hy => ?_) (fun e => ?_) (by rw [er2]; exact hn.1)
    · rw [List.map_map] at hl
      obtain ⟨t, ht, rfl⟩ := List.mem_map.mp hl
      exact (K.ok t ht).2 y (List.mem_reverse.mp hy)
    · have := (of_decide_eq_true e).2
      rw [beq_eq_false_iff_ne]; omega)
  rw [er] at Z
  exact Z
theorem end_len (hn : (∀ r ∈ ts.map (turnedOf way), n ≤ r.length) ∧ ∃ r ∈ ts.map (turnedOf way), r.length = n) (h0 : ts[0]? = some t0) : (((turnedOf way t0).take (endN ts M way i n)).reverse).length = endN ts M way i n := by
  rw [List.length_reverse, List.length_take]
  have h1 := told_le (sameBy (eqvB (gr M way) i)) (ts.map (turnedOf way)) n
  have h2 := hn.1 (turnedOf way t0) (List.mem_map_of_mem (List.mem_of_getElem? h0))
  unfold endN
  omega
/-- the last line -/
theorem st26 (E : LawE w env L) (F : Fine A 30) (W : Wd (hd.heap_39 w.params) mg mb h) (ls : LS s₀ h L m [] cm g ps s) (K : LC w L g D ts M way b i qv gv) (hb : b = true) (hH : LstV (HR (lstd way b)) g (.ref H) ts) (i0 : Inst g x 239 qv f) (sim : SimT w g f (sameBy (eqvB (gr M way) i)) (okB (gr M way)))
    (ml : m "last" = some (.ref x)) (mH : m "handed" = some (.ref H)) (mw : m "way" = some (.int way tw)) (h0 : ts[0]? = some t0) {ev : Value} {te : Tok} (me : m "end" = some ev) (mz : m "end_size" = some (.int (endN ts M way i n : Nat) te))
    (hn : (∀ r ∈ ts.map (turnedOf way), n ≤ r.length) ∧ ∃ r ∈ ts.map (turnedOf way), r.length = n) (he : RowK (way == 0) g ev ((turnedOf way t0).take (endN ts M way i n)).reverse)
    (fin : ∀ s' g', LS s₀ h L m [] cm g' ps s' → Q (.ret (.bool true)) s') : wpAny (LM w) A (execs (lawB w 26) env) Q Er s := by
  have e : lawB w 26 = _ :: lawB w 27 := rfl
  rw [e]
  clear e
  refine wpAny_execs_cons (wpAny_Return_some (ls.evalF (P := fun v => v = .bool true) (fun ge ug gN gC => ?_) fun v s₂ g₂ ls₂ u₂ p => ?_))
  · have Kg := K.up ug
    have Wg : Wd (hd.heap_39 w.params) mg mb ge := W.up fun b o e => ug b o (ls.fs.ran.up b o e)
    obtain ⟨a, vs, ea, hl, hv⟩ := lstV_st hr_st _ _ _ _ (Up.seq ug) hH
    cases ea
    have h4 : vs.length ≤ 4 := by rw [hv.length, Kg.len]; exact Kg.four
    have okt := K.ok t0 (List.mem_of_getElem? h0)
    have hlen := end_len (M := M) (i := i) hn h0
    have hs : (((turnedOf way t0).take (endN ts M way i n)).reverse).length < 1000 := by
      have := turnedOf_len (way := way) okt
      rw [List.length_reverse, List.length_take]; omega
    have ok : (((turnedOf way t0).take (endN ts M way i n)).reverse).all itOk = true := List.all_eq_true.mpr fun a ha => (turnedOf_okI (M := M) okt a (List.mem_of_mem_take (List.mem_reverse.mp ha))).1
    have cd := called_last Wg Kg hb (i0.up ug) (sim.up ug) hv h0 hn
    have he1 := rowK_st _ _ _ _ (Up.seq ug) he
    refine gv_and (gv_cmp ((gv_xcall E (F.less (by decide)) gN rfl (by decide) ml mH (i0.up ug) hl h4 cd).mono fun v1 g1 u1 e1 => gv_name ((E.loc gN rfl me).keeps u1) ((op_eq_rowK F.u64 e1 (rowK_st _ _ _ _ (Up.seq u1) he1) ok).mono fun v2 g2 u2 e2 => ?_)))
    rw [e2]
    refine gt_bool ?_
    simp only [if_true]
    have u : Up ge g2 := fun b o e => u2 b o (u1 b o e)
    refine gv_and (gv_cmp ((gv_xsim E (F.less (by decide)) (Wg.up u) (gN.keeps u) rfl (by decide) ml mH cl_postfix ((i0.up ug).up u) (hl.at fun o e => u _ o e) h4 hs fun A' h' F' u' => cd A' h' F' fun b o e => u' b o (u b o e)).mono fun v3 g3 u3 ⟨t3, e3⟩ => ?_))
    subst e3
    refine gv_name ((E.loc (gN.keeps u) rfl mz).keeps u3) (op_eqi.mono fun v4 g4 u4 e4 => ?_)
    rw [e4, hlen, beq_self_eq_true]
    refine gt_bool ?_
    simp only [if_true]
    have u' : Up ge g4 := fun b o e => u4 b o (u3 b o (u b o e))
    refine gv_bop1 (gv_cmp (gv_call (gv_name (E.blt (Wg.up u') rfl rfl rfl (by decide)) (gv_call2 kept_builtin ((gv_xcall E (F.less (by decide)) (gN.keeps u') rfl (by decide) ml mH ((i0.up ug).up u') (hl.at fun o e => u' _ o e) h4 fun A' h' F' u2 => cd A' h' F' fun b o e => u2 b o (u' b o e)).mono fun v5 g5 u5 e5 => ?_)))))
    refine gv_name ((E.blt (Wg.up u') rfl rfl rfl (by decide)).keeps u5) ((op_isi_rowK e5).mono fun v6 g6 u6 e6 => ?_)
    subst e6
    refine gv_cmp (gv_name ((E.loc (gN.keeps u') rfl mw).keeps fun b o e => u6 b o (u5 b o e)) (gv_int fun t1 => op_eqi.mono fun v7 g7 u7 e7 => ?_))
    subst e7
    refine op_eqb.mono fun v8 g8 u8 e8 => ?_
    rw [e8]
    congr 1
    rw [beq_iff_eq]
    by_cases hw : way = 0
    · subst hw; rfl
    · have c1 : ((way : Int) == 0) = false := by rw [beq_eq_false_iff_ne]; omega
      have c2 : (way == 0) = false := by rw [beq_eq_false_iff_ne]; exact hw
      rw [c1, c2]
  · subst p
    exact fin s₂ g₂ ls₂
end

/-! part Fq66 -/
section
variable {w : World} {A : Around} {env : Env} {L : Nat} {s₀ s : Shared} {h g : Heap} {m cm : Str → Option Value} {ps : Array Value} {mg mb : Str → Option Value} {Q : Flow → Shared → Prop} {Er : Value → Shared → Prop} {D H : Nat} {ts : List Str} {M way : Nat} {b : Bool} {i : Int} {qv gv : Value} {tw : Tok}
/-- law behind the texts -/
theorem law_back (E : LawE w env L) (F : Fine A 30) (hfr : A.frames = some [env]) (W : Wd (hd.heap_39 w.params) mg mb h) (lh : LawH h mg) (ls : LS s₀ h L m [] cm g #[] s) (C : LC w L g D ts M way b i qv gv) (mw : m "way" = some (.int way tw)) (mb' : m "behind" = some (.bool b)) (mt : m "texts" = some (.ref D))
    (fin : ∀ s' g' m' ps', LS s₀ h L m' [] cm g' ps' s' → Q (.ret (.bool true)) s') : wpAny (LM w) A (execs (lawB w 10) env) Q Er s := by
  have hh := F.handled
  obtain ⟨t0, h0⟩ : ∃ t, ts[0]? = some t := ⟨_, List.getElem?_eq_getElem (by have := C.len; have := C.two; omega)⟩
  obtain ⟨n, hn⟩ := exists_min (rs := ts.map (rowOf way)) (by simpa using C.ne)
  obtain ⟨n2, hn2⟩ := exists_min (rs := ts.map (turnedOf way)) (by simpa using C.ne)
  refine st10 E hh ls C mw mb' mt fun s1 g1 H hH ls1 u1 => ?_
  refine st11 E (F.less (by decide)) W ls1 (C.up u1) mw mt fun s2 g2 rv hrv ls2 u2 => ?_
  have C2 := (C.up u1).up u2
  refine st12 E (F.less (by decide)) W ls2 C2 (rv := rv) rfl hrv hn fun s3 g3 tz ls3 u3 => ?_
  have C3 := C2.up u3
  have hrv3 := lstV_st (lstV_st itV_st) _ _ _ _ (Up.seq u3) hrv
  refine st13 E ls3 C3 (rv := rv) (c := toldN ts M way i n) (tc := tz) (t0 := t0) mw rfl rfl hrv3 h0 fun s4 g4 dv hdv ls4 u4 => ?_
  have C4 := C3.up u4
  refine st14 E (F.less (by decide)) W lh ls4 C4 fun s5 g5 ps5 x f tab i5 sim5 ls5 u5 => ?_
  have C5 := C4.up u5
  have hH5 := lstV_st hr_st _ _ _ _ (Up.seq fun b o e => u5 b o (u4 b o (u3 b o (u2 b o e)))) hH
  have P5 : LP w L g5 D H ts M way b i qv gv n x f := ⟨C5, hH5, i5, sim5, hn⟩
  refine st15 E F W ls5 P5 rfl rfl h0 fun s6 g6 tv htv ls6 u6 => ?_
  have P6 := P5.up u6
  refine st16 E F W ls6 P6 (tv := tv) (dv := dv) rfl rfl mw h0 rfl rfl htv (rowK_st _ _ _ _ (Up.seq fun b o e => u6 b o (u5 b o e)) hdv) fun s7 g7 ls7 u7 => ?_
  have P7 := P6.up u7
  refine st17 E F W ls7 P7.lc mt fun s8 g8 mx tm hmx ls8 u8 => ?_
  have P8 := P7.up u8
  refine st18 E F W ls8 P8 (mx := mx) (tm := tm) (tz := tz) rfl rfl h0 hmx rfl rfl fun s9 g9 ls9 u9 => ?_
  have P9 := P8.up u9
  refine st19 E F hfr W ls9 P9.lc mt h0 fun s10 g10 ls10 u10 => ?_
  have P10 := P9.up u10
  refine st20 E ls10 mb' (fun s' g' l _ => fin s' g' _ _ l) fun s11 g11 ls11 u11 hb => ?_
  have P11 := P10.up u11
  refine st21 E (F.less (by decide)) W ls11 P11.lc hb mt fun s12 g12 qv2 hq2 ls12 u12 => ?_
  have P12 := P11.up u12
  refine st22 E (F.less (by decide)) W ls12 P12.lc (rv := qv2) rfl hq2 hn2 fun s13 g13 te ls13 u13 => ?_
  have P13 := P12.up u13
  refine st23 E (F.less (by decide)) W ls13 P13.lc (rv := qv2) (c := endN ts M way i n2) (tc := te) (t0 := t0) rfl rfl (lstV_st (lstV_st itV_st) _ _ _ _ (Up.seq u13) hq2) h0 fun s14 g14 iv hiv ls14 u14 => ?_
  have P14 := P13.up u14
  refine st24 E ls14 P14.lc (iv := iv) mw rfl hiv h0 fun s15 g15 ev hev ls15 u15 => ?_
  have P15 := P14.up u15
  refine st25 E (F.less (by decide)) W lh ls15 P15.lc tab fun s16 g16 ps16 x2 f2 i16 sim16 ls16 u16 => ?_
  have P16 := P15.up u16
  exact st26 E F W ls16 P16.lc hb P16.hd i16 sim16 rfl rfl mw h0 (ev := ev) (te := te) rfl rfl hn2 (rowK_st _ _ _ _ (Up.seq u16) hev) fun s' g' l => fin s' g' _ _ l
end

/-! part Fq67 -/
section
variable {w : World} {A : Around} {env : Env} {L : Nat} {s₀ s : Shared} {h : Heap} {m cm : Str → Option Value} {mg mb : Str → Option Value} {Q : Flow → Shared → Prop} {Er : Value → Shared → Prop} {sa : Nat} {vs : List Value}
theorem law_run (E : LawE w env L) (F : Fine A 30) (hfr : A.frames = some [env]) (W : Wd (hd.heap_39 w.params) mg mb h) (lh : LawH h mg) (S : Scr h sa vs) (ls : LS s₀ h L m (lawCs L) cm h #[] s) (ms : m "script" = some (.ref sa))
    (fin : ∀ s' g' m' cm' ps', LS s₀ h L m' [] cm' g' ps' s' → Q (.ret (.bool true)) s') : wpAny (LM w) A (execs (lawB w 0) env) Q Er s := by
  have hh := F.handled
  refine st0 E S ls ms fun s1 g1 i0 t0 ls1 u1 => ?_
  refine st1 E S ls1 ms fun s2 g2 i tt ls2 u2 => ?_
  refine st2 E hh ls2 (i := i0) (t := t0) rfl fun s3 g3 way0 tw0 b M tm hw0 hM2 hM4 ls3 u3 => ?_
  generalize hm3 : (fun y : Str => if y = "way" then some (Value.int (way0 : Int) tw0) else if y = "behind" then some (.bool b) else if y = "many" then some (.int (M : Int) tm) else if y = "tail" then some (.int i tt) else if y = "head" then some (.int i0 t0) else m y) = m3 at ls3
  have a1 : m3 "way" = some (.int (way0 : Int) tw0) := by rw [← hm3]; rfl
  have a2 : m3 "behind" = some (.bool b) := by rw [← hm3]; rfl
  have a3 : m3 "many" = some (.int (M : Int) tm) := by rw [← hm3]; rfl
  have a4 : m3 "tail" = some (.int i tt) := by rw [← hm3]; rfl
  have a5 : m3 "script" = some (.ref sa) := by rw [← hm3]; exact ms
  refine st3 E ls3 a2 a1 hw0 fun s4 g4 m4 way tw hw hbw ls4 u4 mw4 mo4 => ?_
  have b2 : m4 "behind" = some (.bool b) := by rw [mo4 _ (by decide)]; exact a2
  have b3 : m4 "many" = some (.int (M : Int) tm) := by rw [mo4 _ (by decide)]; exact a3
  have b4 : m4 "tail" = some (.int i tt) := by rw [mo4 _ (by decide)]; exact a4
  have b5 : m4 "script" = some (.ref sa) := by rw [mo4 _ (by decide)]; exact a5
  refine st4 E hh W ls4 b3 hM4 fun D s5 ts5 => ?_
  refine st5 E hh W S ts5 (M := M) (tm := tm) b3 hM2 hM4 b5 rfl (by simp) (fun t ht => by rw [(List.mem_replicate.mp ht).2]; exact okT_empty 5) fun g6 s6 m6 tx6 ts6 u6 inv6 => ?_
  obtain ⟨o6, l6, k6⟩ := inv6
  have c1 : m6 "way" = some (.int (way : Int) tw) := by rw [o6 _ (by decide) (by decide)]; exact mw4
  have c2 : m6 "behind" = some (.bool b) := by rw [o6 _ (by decide) (by decide)]; exact b2
  have c3 : m6 "many" = some (.int (M : Int) tm) := by rw [o6 _ (by decide) (by decide)]; exact b3
  have c4 : m6 "tail" = some (.int i tt) := by rw [o6 _ (by decide) (by decide)]; exact b4
  have c5 : m6 "texts" = some (.ref D) := by rw [o6 _ (by decide) (by decide)]; rfl
  obtain ⟨x0, hx0⟩ : ∃ t, tx6[0]? = some t := ⟨_, List.getElem?_eq_getElem (by omega)⟩
  refine st6 E hh W ts6 c4 c5 hx0 (k6 x0 (List.mem_of_getElem? hx0)) fun s7 z tz hz hz0 ts7 => ?_
  refine st7 E hh W ts7 (M := M) (tm := tm) (b := b) (z := z) (tz := tz) (x0 := x0) c3 hM2 hM4 c2 rfl hz hz0 c5 l6 hx0 k6 fun g8 s8 m8 tx8 ts8 u8 o8 l8 k8 => ?_
  have d1 : m8 "way" = some (.int (way : Int) tw) := by rw [o8 _ (by decide)]; exact c1
  have d2 : m8 "behind" = some (.bool b) := by rw [o8 _ (by decide)]; exact c2
  have d3 : m8 "many" = some (.int (M : Int) tm) := by rw [o8 _ (by decide)]; exact c3
  have d4 : m8 "tail" = some (.int i tt) := by rw [o8 _ (by decide)]; exact c4
  have d5 : m8 "texts" = some (.ref D) := by rw [o8 _ (by decide)]; exact c5
  obtain ⟨g9, ls9, u9, hD9⟩ := ts8.know
  refine st8 E ls9 d1 hw fun s10 g10 qv hq ls10 u10 => ?_
  refine st9 E ls10 d1 d3 d4 fun s11 g11 gv hg ls11 u11 => ?_
  obtain ⟨g12, ls12, u12, hc⟩ := ls11.freeze
  have hq' : g12.IsCell (L + 1) (some qv) := hc "q" (L + 1) rfl
  have hg' : g12.IsCell (L + 2) (some gv) := hc "groups" (L + 2) rfl
  have C : LC w L g12 D tx8 M way b i qv gv := ⟨lstV_st strV_st _ _ _ _ (Up.seq fun b o e => u12 b o (u11 b o (u10 b o e))) hD9, l8, hM2, hM4, k8, hw, hbw, hq', hq, hg', hg.imp id fun ⟨a, d, e, dg⟩ => ⟨a, d, e, ⟨fun A h' x t v s F u' => dg.get A h' x t v s F fun b o e => u' b o (u12 b o e)⟩⟩⟩
  exact law_back E F hfr W lh ls12 C d1 d2 d5 fun s' g' m' ps' l => fin s' g' m' _ ps' l
end

/-! part Fq68 -/
section
variable {w : World}
theorem lawE_of (L fa : Addr) (nm : Str) : LawE w (envOfC nm (lawScope w) L fa (.ref 267)) L := ⟨rfl, rfl, rfl, rfl, rfl, rfl, rfl, fa, nm, rfl⟩
/-- from the head's state to the end -/
theorem law_end {s₁ : Shared} {L fa sa : Addr} {nm : Str} {h₀ h₁ : Heap} {tk₁ : Nat} {m mg mb : Str → Option Value} {vs : List Value} {ns : List Int} {o1 o2 : Obj} {v1 v2 : Option Value} {p : Program} {loose : List Str} {mean : ExcName → Option Value} {Q : Flow → Shared → Prop} {Er : Value → Shared → Prop}
    (X : (hd.heap_39 w.params).In h₀) (T : Top p loose mean mg mb h₀) (F : Fr h₀ L h₁ m) (hl : h₀.IsList sa vs.toArray) (hI : IntsAre vs ns) (hn : ns.length ≤ 63) (C : CodeHd h₀ 267 265)
    (N : News h₀ L h₁ [(L + 1 + 1, o1), (L + 1, o2), (265, tabObj #[])]) (d1 : o1.data = .cell v1) (d2 : o2.data = .cell v2) (ms : m "script" = some (.ref sa))
    (fin : ∀ s', Keeps { s₁ with heap := h₀ } s' → (∃ ps, s'.heap.get? 265 = some (tabObj ps)) → Q (.ret (.bool true)) s') :
    wpAny (LM w) (callerA.deeper (envOfC nm (lawScope w) L fa (.ref 267))) (execs (lawB w 0) (envOfC nm (lawScope w) L fa (.ref 267))) Q Er { s₁ with heap := h₁, toks := tk₁ } := by
  have n1 := N (L + 1 + 1, o1) (by simp)
  have n2 := N (L + 1, o2) (by simp)
  have n3 := N (265, tabObj #[]) (by simp)
  have hL : h₀.get? L = none := Heap.get?_none_of_le F.above
  have W : Wd (hd.heap_39 w.params) mg mb h₀ := ⟨X, T.g, T.b, T.nolimit, T.builtins⟩
  have lh : LawH h₀ mg := by
    obtain ⟨bm, ob, b1, b2, b3, b4, b5, b6⟩ := T.bmain
    refine ⟨C, bm, ob, b1, b2, fun e => ?_, fun e => ?_, b3, b4, b5, b6⟩
    · obtain ⟨o, es, ep, e1, e2, _⟩ := T.g
      rw [e, e1] at b3; cases b3; rw [e2] at b6; cases b6
    · rw [e, n3.2.2] at b3; cases b3
  have S : Scr h₀ sa vs := ⟨hl, (ints_at hI).2, by rw [(ints_at hI).1]; exact hn, ns, hI⟩
  have fs : FS { s₁ with heap := h₀ } h₀ L m (lawCs L) (fun y => if y = "groups" then v1 else v2) h₀ { s₁ with heap := h₁, toks := tk₁ } := by
    have look : ∀ (n : Str) (c : Addr), (lawCs L).lookup n = some c → (n = "groups" ∧ c = L + 2) ∨ (n = "q" ∧ n ≠ "groups" ∧ c = L + 1) := fun n c hc => by
      rw [List.lookup_cons] at hc
      cases e1 : (n == ("groups" : Str)) with
      | true => rw [e1] at hc; cases hc; exact .inl ⟨eq_of_beq e1, rfl⟩
      | false =>
        rw [e1, List.lookup_cons] at hc
        cases e2 : (n == ("q" : Str)) with
        | true => rw [e2] at hc; cases hc; exact .inr ⟨eq_of_beq e2, by rw [eq_of_beq e2]; decide, rfl⟩
        | false => rw [e2] at hc; cases hc
    refine ⟨⟨⟨h₁, tk₁, rfl, F.keep⟩, fun _ _ e => e, F.keep, fun _ _ e => .inl e⟩, F.ns, hL, hL, fun n c hc => ?_, fun n c hc => ?_, fun n n' c h1 h2 => ?_⟩
    · rcases look n c hc with ⟨rfl, rfl⟩ | ⟨rfl, h3, rfl⟩
      · exact ⟨o1, n1.1, by rw [d1]; rfl⟩
      · exact ⟨o2, n2.1, by rw [d2, if_neg h3]⟩
    · rcases look n c hc with ⟨rfl, rfl⟩ | ⟨rfl, h3, rfl⟩
      · exact ⟨n1.2.2, n1.2.2, n1.2.1⟩
      · exact ⟨n2.2.2, n2.2.2, n2.2.1⟩
    · rcases look n c h1 with ⟨e1, e2⟩ | ⟨e1, _, e2⟩ <;> rcases look n' c h2 with ⟨e3, e4⟩ | ⟨e3, _, e4⟩
      · rw [e1, e3]
      · rw [e2] at e4; exact absurd (Nat.add_left_cancel (m := 2) (k := 1) (n := L) e4) (by decide)
      · rw [e2] at e4; exact absurd (Nat.add_left_cancel (m := 1) (k := 2) (n := L) e4) (by decide)
      · rw [e1, e3]
  have ls : LS { s₁ with heap := h₀ } h₀ L m (lawCs L) (fun y => if y = "groups" then v1 else v2) h₀ #[] { s₁ with heap := h₁, toks := tk₁ } := ⟨fs, n3.1, n3.2.2, n3.2.2⟩
  refine law_run (lawE_of L fa nm) ⟨rfl, ?_, ?_⟩ rfl W lh S ls ms fun s' g' m' cm' ps' l => fin s' l.fs.ran.keeps ⟨ps', l.tab⟩
  · show 1 + claimMargin + 1 + 30 ≤ 900
    decide
  · show 4 + 3 + 40 * 30 ≤ 9000
    decide
end

/-! part Fq69 -/
theorem law_post (a : WData) : PySem.Challenge.rw_fq5031_01.row.claim.post [a] (WData.bool true) [a] = true := by
  show (WShape.has [] (WData.bool true) .bool && WTm.holds [] (.eq .res (.lit (.bool true))) { args := [a], res := some (WData.bool true), after := [a] }) = true
  kernel_rfl
set_option maxRecDepth 100000 in
set_option maxHeartbeats 8000000 in
theorem t1 : PySem.Challenge.rw_fq5031_01.Holds := hd (by
  k_go0
  (all_goals try k_fold)
  rename_i w9 s0 s1 mg mb G Y fa o pm doc ho hgens X V T B TE TW hcd ns hs hlay0 hL1 hr1 hl2 x6 x5 sa vs x2 hL ra w1 r0 hI hr hc hc2 hD h1 tk1 o1 o2 d1 d2 X0 X' T' K' F' N' l0
  refine law_end (ns := ns) (sa := sa) X' T' F' lifted hI (by omega) codeHd N' d1 d2 rfl fun s' hk hps => ?_
  obtain ⟨h', t', rfl, k⟩ := hk
  exact ⟨⟨.inl ⟨_, .bool true, [], rfl, fun _ => rfl, .bool true, law_post _, fun _ => ⟨List.nodup_nil, fun a ha => by cases ha⟩⟩, k, rfl, hgens⟩, hps, trivial⟩)

end Mine
theorem PySem.Challenge.cw_fq5031_01_holds : PySem.Challenge.rw_fq5031_01.Holds := by
  exact Mine.t1
