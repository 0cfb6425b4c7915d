import PyProof.Rows.All
import Wide.All
import OpenK.AllK
import Wide.FinOn
import Lean
import PySem.Challenge.RW_ik0173_01
open PySem PySem.W PyProof.Rows
set_option Elab.async false
set_option maxRecDepth 100000
set_option linter.unusedVariables false

-- ================ Base ================
namespace Mine

-- ================= heap relations =================
theorem kp_refl (s : Shared) : Keeps s s := ⟨_, _, rfl, fun _ _ e => e⟩
theorem kp_trans {a b c : Shared} (x : Keeps a b) (y : Keeps b c) : Keeps a c := by
  obtain ⟨h, t, rfl, k⟩ := x
  obtain ⟨h', t', rfl, k'⟩ := y
  exact ⟨h', t', rfl, fun b o e => k' b o (k b o e)⟩
theorem kp_get {s s' : Shared} (x : Keeps s s') {b : Addr} {o : Obj} (e : s.heap.get? b = some o) : s'.heap.get? b = some o := by
  obtain ⟨h, t, rfl, k⟩ := x
  exact k b o e
theorem kp_all {s s' : Shared} (x : Keeps s s') : ∀ b o, s.heap.get? b = some o → s'.heap.get? b = some o := fun _ _ e => kp_get x e
theorem kp_none {s s' : Shared} (x : Keeps s s') {b : Addr} (e : s'.heap.get? b = none) : s.heap.get? b = none := by
  cases q : s.heap.get? b with
  | none => rfl
  | some o => rw [kp_get x q] at e; cases e

/-- a plain list of ints -/
def Li (h : Heap) (l : Addr) (ns : List Int) : Prop := ∃ vs n, h.get? l = some { cls := .type "list", data := .seq (List.toArray vs) n } ∧ IntsAre vs ns
theorem Li.at {h h' : Heap} {l : Addr} {ns : List Int} (x : Li h l ns) (k : ∀ o, h.get? l = some o → h'.get? l = some o) : Li h' l ns := by
  obtain ⟨vs, n, e, i⟩ := x
  exact ⟨vs, n, k _ e, i⟩
theorem Li.keep {h h' : Heap} {l : Addr} {ns : List Int} (x : Li h l ns) (k : ∀ b o, h.get? b = some o → h'.get? b = some o) : Li h' l ns := x.at (k l)
theorem Li.kp {s s' : Shared} {l : Addr} {ns : List Int} (x : Li s.heap l ns) (k : Keeps s s') : Li s'.heap l ns := x.keep (kp_all k)
theorem Li.isList {h : Heap} {l : Addr} {ns : List Int} (x : Li h l ns) : ∃ vs, h.IsList l (List.toArray vs) ∧ IntsAre vs ns := by
  obtain ⟨vs, n, e, i⟩ := x
  exact ⟨vs, ⟨_, e, rfl, n, rfl⟩, i⟩
theorem Li.lt {h : Heap} {l : Addr} {ns : List Int} (x : Li h l ns) : l < h.objs.size := by
  obtain ⟨vs, n, e, i⟩ := x
  exact Heap.lt_size e
theorem Li.new {h : Heap} {vs : List Value} {ns : List Int} (i : IntsAre vs ns) : Li (h.push { cls := .type "list", data := .seq (List.toArray vs) }) h.objs.size ns :=
  ⟨vs, 0, Heap.get?_push_size _ rfl, i⟩
theorem push_keep (h : Heap) (o : Obj) : ∀ b o', h.get? b = some o' → (h.push o).get? b = some o' := fun _ _ e => Heap.get?_push_of_some _ e
theorem fresh_size {h : Heap} {a : Addr} (ha : h.objs.size ≤ a) : h.get? a = none := Heap.get?_none_of_le ha

theorem ints_any {a : Int} {vs : List Value} {xs : List Int} (i : IntsAre vs xs) : (List.toArray vs).any (fun y => match y with | .int b _ => b == a | _ => false) = decide (a ∈ xs) := by
  rw [List.any_toArray]
  induction i with
  | nil => rfl
  | cons n t _ ih =>
    rw [List.any_cons, ih]
    by_cases h : n = a
    · subst h; simp
    · have h' : ¬ a = n := fun q => h q.symm
      simp [h, h']
theorem all_range_true (n : Nat) : (List.range n).all (fun _ => true) = true := List.all_eq_true.mpr fun _ _ => rfl

section
variable {prog : Program} {w : World} {A : Around} {E : Value → Shared → Prop} {s : Shared} {env : Env}

-- ================= lists of ints =================
theorem li_new {vs : List Value} {ns : List Int} {Q : Value → Shared → Prop} (i : IntsAre vs ns) (hz : vs.length ≤ sizeLine)
    (h : ∀ D s', Keeps s s' → s.heap.get? D = none → Li s'.heap D ns → Q (.ref D) s') : wpAny (model prog w) A (newList vs) Q E s :=
  wpAny_newList (h _ _ ⟨_, _, rfl, push_keep _ _⟩ (fresh_size (Nat.le_refl _)) (Li.new i)) hz

theorem li_add {l r : Addr} {xs ys : List Int} {Q : Value → Shared → Prop} (hl : Li s.heap l xs) (hr : Li s.heap r ys) (hz : xs.length + ys.length ≤ sizeLine)
    (h : ∀ D s', Keeps s s' → s.heap.get? D = none → Li s'.heap D (xs ++ ys) → Q (.ref D) s') : wpAny (model prog w) A (binaryOp .Add (.ref l) (.ref r)) Q E s := by
  obtain ⟨vs, n, e, i⟩ := hl
  obtain ⟨vs', n', e', i'⟩ := hr
  refine P.add_list e e' (h _ _ ⟨_, _, rfl, push_keep _ _⟩ (fresh_size (Nat.le_refl _)) ?_) (by simpa [i.length, i'.length] using hz)
  exact ⟨vs ++ vs', 0, by rw [Heap.get?_push_size _ rfl]; simp, i.append i'⟩

theorem li_len {l : Addr} {xs : List Int} {Q : Value → Shared → Prop} (hl : Li s.heap l xs) (hz : xs.length ≤ sizeLine)
    (h : ∀ u tk, Q (.int (xs.length : Nat) u) { s with toks := tk }) : wpAny (model prog w) A (call (.builtin "len") [.ref l]) Q E s := by
  obtain ⟨vs, hl, i⟩ := hl.isList
  refine Calls.call_len_list hl ?_ ?_
  · have := i.length; have := sizeLine_eq; simp; omega
  · have e : ((List.toArray vs).size : Int) = (xs.length : Int) := by simp [i.length]
    rw [e]; exact h _ _

theorem li_getItem {l : Addr} {xs : List Int} {k : Int} {t : Tok} {x : Int} {Q : Value → Shared → Prop} (hl : Li s.heap l xs) (h0 : 0 ≤ k) (hfit : k < 2 ^ 63) (hx : xs[k.toNat]? = some x)
    (h : ∀ u, Q (.int x u) s) : wpAny (model prog w) A (getItem (.ref l) (.int k t)) Q E s := by
  obtain ⟨vs, hl, i⟩ := hl.isList
  obtain ⟨u, hu⟩ := i.get _ _ hx
  exact wpAny_getItem_list hl h0 hfit (by simpa using hu) (h u)

theorem li_sub {value slice : Expr} {l : Addr} {xs : List Int} {k : Int} {t : Tok} {x : Int} {Q : Value → Shared → Prop} (hl : Li s.heap l xs) (h0 : 0 ≤ k) (hfit : k < 2 ^ 63) (hx : xs[k.toNat]? = some x)
    (h : ∀ u, Q (.int x u) s) (hs : subscripted slice false (.ref l) (.int k t) = operate [.ref l, .int k t] (getItem (.ref l) (.int k t)) := by with_unfolding_all rfl) :
    wpAny (model prog w) A (subscriptTail value slice (.ref l) (.int k t)) Q E s := by
  obtain ⟨vs, hl', i⟩ := hl.isList
  exact tail_any hl'.typeIs slot_list_getitem.lookup (li_getItem hl h0 hfit hx h) hs

theorem li_in {l : Addr} {xs : List Int} {a : Int} {t : Tok} {Q : Value → Shared → Prop} (hl : Li s.heap l xs) (h : Q (.bool (decide (a ∈ xs))) s) :
    wpAny (model prog w) A (compareOp .In (.int a t) (.ref l)) Q E s := by
  obtain ⟨vs, hl, i⟩ := hl.isList
  have key := ints_any (a := a) i
  refine SeqInW.in_listW (fun y => match y with | .int b _ => b == a | _ => false) (fun y hy => ?_) hl (by rw [key]; exact h)
  obtain ⟨n, u, rfl⟩ := i.all y (by simpa using hy)
  exact MeetsSeq.EqGives.int n a u t
theorem li_notIn {l : Addr} {xs : List Int} {a : Int} {t : Tok} {Q : Value → Shared → Prop} (hl : Li s.heap l xs) (h : Q (.bool (!decide (a ∈ xs))) s) :
    wpAny (model prog w) A (compareOp .NotIn (.int a t) (.ref l)) Q E s := by
  obtain ⟨vs, hl, i⟩ := hl.isList
  have key := ints_any (a := a) i
  refine SeqInW.notIn_listW (fun y => match y with | .int b _ => b == a | _ => false) (fun y hy => ?_) hl (by rw [key]; exact h)
  obtain ⟨n, u, rfl⟩ := i.all y (by simpa using hy)
  exact MeetsSeq.EqGives.int n a u t

theorem li_eqAt {l r : Addr} {xs : List Int} (hl : Li s.heap l xs) (hr : Li s.heap r xs) (hne : l ≠ r) (hu : A.units < cLine) : SeqAt.EqAt A s (.ref l) (.ref r) true := by
  obtain ⟨vs, hl, i⟩ := hl.isList
  obtain ⟨vs', hr, i'⟩ := hr.isList
  have hsz : (List.toArray vs).size = (List.toArray vs').size := by simp [i.length, i'.length]
  refine SeqAt.EqAt.of_refs hne ?_
  have := SeqAt.RcAt.lists (A := A) (e := fun _ => true) hl hr hsz hu fun j h1 h2 => ?_
  · rwa [all_range_true] at this
  · have e1 : vs[j]? = some ((List.toArray vs)[j]) := by simp at h1 ⊢
    have e2 : vs'[j]? = some ((List.toArray vs')[j]) := by simp at h2 ⊢
    obtain ⟨n, t, q, en⟩ := i.at j _ e1
    obtain ⟨n', t', q', en'⟩ := i'.at j _ e2
    rw [q, q']
    rw [en] at en'; cases en'
    have := (MeetsSeq.EqGives.int n n t t').at A.in1 s
    simpa using this

theorem li_ne {l r : Addr} {xs : List Int} {Q : Value → Shared → Prop} (hl : Li s.heap l xs) (hr : Li s.heap r xs) (hu : A.units < cLine) (h : Q (.bool false) s) :
    wpAny (model prog w) A (compareOp .NotEq (.ref l) (.ref r)) Q E s := by
  obtain ⟨vs, hl, i⟩ := hl.isList
  obtain ⟨vs', hr, i'⟩ := hr.isList
  have hsz : (List.toArray vs).size = (List.toArray vs').size := by simp [i.length, i'.length]
  have := SeqAt.RcNeAt.lists (A := A) (e := fun _ => true) hl hr hsz hu fun j h1 h2 => ?_
  · rw [all_range_true] at this
    exact this prog w E Q h
  · have e1 : vs[j]? = some ((List.toArray vs)[j]) := by simp at h1 ⊢
    have e2 : vs'[j]? = some ((List.toArray vs')[j]) := by simp at h2 ⊢
    obtain ⟨n, t, q, en⟩ := i.at j _ e1
    obtain ⟨n', t', q', en'⟩ := i'.at j _ e2
    rw [q, q']
    rw [en] at en'; cases en'
    have := (MeetsSeq.EqGives.int n n t t').at A.in1 s
    simpa using this

theorem li_sorted {l : Addr} {xs : List Int} {Q : Value → Shared → Prop} (hl : Li s.heap l xs) (h64 : xs.length < 64)
    (h : ∀ D s' ys, Keeps s s' → s.heap.get? D = none → ys.Perm xs → ys.Pairwise (· ≤ ·) → Li s'.heap D ys → Q (.ref D) s') :
    wpAny (model prog w) A (call (.builtin "sorted") [.ref l]) Q E s := by
  obtain ⟨vs, hl, i⟩ := hl.isList
  refine sorted_ints hl i (by rw [i.length]; exact h64) fun out ns' ho hp hs => ?_
  obtain ⟨e, he⟩ := sortedAll_at s.heap vs out
  refine h _ _ ns' ⟨_, _, rfl, fun b o q => sortedAll_old q⟩ (fresh_size (Nat.le_succ _)) hp hs ⟨out.toList, e, ?_, ho⟩
  exact he

theorem preSum_take (xs : List Int) : ∀ n, preSum (fun i => xs.getD i 0) n = (xs.take n).sum := by
  intro n
  induction n with
  | zero => rfl
  | succ n ih =>
    show preSum _ n + xs.getD n 0 = _
    rw [ih]
    by_cases h : n < xs.length
    · rw [List.take_add_one, List.sum_append]; simp [List.getElem?_eq_getElem h]
    · have h' : xs.length ≤ n := by omega
      rw [List.take_of_length_le h', List.take_of_length_le (by omega)]
      simp [List.getElem?_eq_none h']

theorem sum_small {xs : List Int} (hb : ∀ x ∈ xs, 0 ≤ x ∧ x ≤ 1000) : 0 ≤ xs.sum ∧ xs.sum ≤ 1000 * xs.length := by
  induction xs with
  | nil => simp
  | cons x r ih =>
    have h1 := hb x List.mem_cons_self
    have h2 := ih fun y hy => hb y (List.mem_cons_of_mem _ hy)
    simp only [List.sum_cons, List.length_cons]
    omega

theorem li_sum {l : Addr} {xs : List Int} {Q : Value → Shared → Prop} (hl : Li s.heap l xs) (hh : A.handled = none) (hb : ∀ x ∈ xs, 0 ≤ x ∧ x ≤ 1000) (hn : xs.length ≤ 1000)
    (h : ∀ u s', Keeps s s' → Q (.int xs.sum u) s') : wpAny (model prog w) A (call (.builtin "sum") [.ref l]) Q E s := by
  obtain ⟨vs, hl, i⟩ := hl.isList
  have hlen := i.length
  refine call_sum_walk (wpAny_pyIter_list hl ?_)
  have hlt : l < s.heap.objs.size := by obtain ⟨_, e, _⟩ := hl; exact Heap.lt_size e
  refine ⟨s.heap.objs.size, _, _, _, _, _, fun i => xs.getD i 0, rfl, Walks.list (A := A.in1) hh s.heap.objs.size l (Nat.ne_of_lt hlt) (List.toArray vs),
    ⟨⟨_, Heap.get?_push_size _ rfl, rfl, rfl⟩, hl.push _⟩, ?_, ?_, ?_, ?_⟩
  · intro b hb
    show b < (s.heap.push _).objs.size
    rw [Heap.size_push]
    simp only [List.mem_cons, List.not_mem_nil, or_false] at hb
    rcases hb with rfl | rfl
    · exact Nat.lt_succ_self _
    · exact Nat.lt_succ_of_lt hlt
  · intro j v hj
    exact i.int_at j v (by simpa using hj)
  · intro j hj
    have hj' : j < xs.length := by simpa [hlen] using hj
    rw [preSum_take]
    have h1 := hb (xs.getD j 0) (by simp [List.getElem?_eq_getElem hj'])
    have h2 := sum_small (xs := xs.take (j + 1)) fun x hx => hb x (List.mem_of_mem_take hx)
    have h3 : (xs.take (j + 1)).length ≤ 1000 := by rw [List.length_take]; omega
    have h4 : InLong (xs.getD j 0) := ⟨by omega, by omega⟩
    exact ⟨h4, by omega, by omega⟩
  · intro h' tk t' hk
    rw [preSum_take, show (List.toArray vs).size = xs.length from by simp [hlen], List.take_length]
    exact h _ _ ⟨h', tk, rfl, fun b o e => hk b o (by simp; exact Nat.ne_of_lt (Heap.lt_size e)) (Heap.get?_push_of_some _ e)⟩

-- ================= comprehensions over a list of ints =================
theorem paired_li {pz : Int → Bool} {f : Int → Int} : ∀ {vs : List Value} {ns : List Int}, IntsAre vs ns → ∀ {ys : List Value},
    Paired (fun v y => ∃ a t u, v = Value.int a t ∧ y = Value.int (f a) u) (vs.filter fun v => match v with | .int a _ => pz a | _ => false) ys → IntsAre ys ((ns.filter pz).map f)
  | _, _, .nil, ys, h => by cases h; exact .nil
  | _, _, .cons n t r, ys, h => by
    cases hp : pz n with
    | false =>
      rw [List.filter_cons_of_neg (by simp [hp])] at h
      rw [List.filter_cons_of_neg (by simp [hp])]
      exact paired_li r h
    | true =>
      rw [List.filter_cons_of_pos (by simp [hp])] at h
      rw [List.filter_cons_of_pos hp]
      cases h with
      | cons hF ht =>
        obtain ⟨a, t', u, e, rfl⟩ := hF
        cases e
        exact .cons _ _ (paired_li r ht)

abbrev testsOf (ifs : List Expr) (env : Env) : Sem Bool := forIn ifs true fun c r => if r = true then do let ok ← isTrue c env (eval c env); pure (ForInStep.yield ok) else pure (ForInStep.yield r)

structure CompLi (prog : Program) (w : World) (A : Around) (env : Env) (scope : Scope) (cl : List (Str × Addr)) (x : Str) (ifs : List Expr) (elt : Expr) (pz : Int → Bool) (f : Int → Int) (ns : List Int) (s₁ : Shared) : Prop where
  tests : ∀ C n t s₃ m₃ E', n ∈ ns → s₃.heap.Ns C m₃ → m₃ x = some (.int n t) → (∀ b o, s₁.heap.get? b = some o → s₃.heap.get? b = some o) →
    wpAny (model prog w) A (testsOf ifs (compEnvC scope cl C env)) (fun ok s₄ => ok = pz n ∧ Keeps s₃ s₄) E' s₃
  elt : ∀ C n t s₃ m₃ E', n ∈ ns → pz n = true → s₃.heap.Ns C m₃ → m₃ x = some (.int n t) → (∀ b o, s₁.heap.get? b = some o → s₃.heap.get? b = some o) →
    wpAny (model prog w) A (eval elt (compEnvC scope cl C env)) (fun y s₄ => (∃ u, y = .int (f n) u) ∧ Keeps s₃ s₄) E' s₃

theorem CompLi.quiet {scope : Scope} {cl : List (Str × Addr)} {x : Str} {ifs : List Expr} {elt : Expr} {pz : Int → Bool} {f : Int → Int} {ns : List Int} {vs : List Value} {s₁ s₂ : Shared} {I : Addr}
    (c : CompLi prog w A env scope cl x ifs elt pz f ns s₁) (i : IntsAre vs ns) (hk : ∀ b o, s₁.heap.get? b = some o → b ∉ [I] ∧ s₂.heap.get? b = some o) :
    QuietOnC prog w A env scope cl x ifs elt [I] (fun i v => (List.toArray vs)[i]? = some v) (fun v => match v with | .int a _ => pz a | _ => false) (fun v y => ∃ a t u, v = Value.int a t ∧ y = Value.int (f a) u) s₂ where
  tests := by
    intro C j v s₃ m₃ E' _ hP hn hm hold _
    obtain ⟨n, t, rfl, hj⟩ := i.at j v (by simpa using hP)
    exact c.tests C n t s₃ m₃ E' (List.mem_of_getElem? hj) hn hm fun b o e => hold b o (hk b o e).1 (hk b o e).2
  elt := by
    intro C j v s₃ m₃ E' _ hP hp hn hm hold _
    obtain ⟨n, t, rfl, hj⟩ := i.at j v (by simpa using hP)
    refine wpAny_mono (c.elt C n t s₃ m₃ E' (List.mem_of_getElem? hj) hp hn hm fun b o e => hold b o (hk b o e).1 (hk b o e).2) (fun y s₄ h₄ => ?_) fun _ _ e => e
    obtain ⟨⟨u, rfl⟩, k⟩ := h₄
    exact ⟨⟨n, t, u, rfl, rfl⟩, k⟩

theorem plain_li {h : Heap} {D : Addr} {ys : Array Value} {ns : List Int} (p : h.PlainList D ys) (i : IntsAre ys.toList ns) : Li h D ns := by
  obtain ⟨n, e⟩ := p
  exact ⟨ys.toList, n, by simpa using e, i⟩

theorem comp_li {elt iter : Expr} {x : Str} {px : Pos} {ifs : List Expr} {scope : Scope} {cl : List (Str × Addr)} {pos : Pos} {Q : Value → Shared → Prop} (pz : Int → Bool) (f : Int → Int)
    (hh : A.handled = none) (hclos : closureFor scope env = pure cl) (hcell : ∀ y ∈ scope.names, y.2 ≠ .cell) (hkind : scope.kind = .function)
    (hnames : ∀ y ∈ scope.names, y.2 = .local → scope.names.lookup y.1 = some .local) (hx : scope.names.lookup x = some .local)
    (h : wpAny (model prog w) A (eval iter env) (fun xv s₁ => ∃ ax vs ns, xv = .ref ax ∧ s₁.heap.IsList ax (List.toArray vs) ∧ IntsAre vs ns ∧ ns.length ≤ sizeLine ∧ CompLi prog w A env scope cl x ifs elt pz f ns s₁ ∧
      (∀ D s', Keeps s₁ s' → s₁.heap.get? D = none → Li s'.heap D ((ns.filter pz).map f) → Q (.ref D) s')) E s)
    (hs : ∀ x, foldedSetIterable iter env x = pure x := by intro _; rfl) :
    wpAny (model prog w) A (eval (.ListComp elt [⟨.Name x px, iter, ifs, 0⟩] scope pos) env) Q E s := by
  refine wpAny_ListComp_free (fun v => match v with | .int a _ => pz a | _ => false) (fun v y => ∃ a t u, v = Value.int a t ∧ y = Value.int (f a) u) hclos hcell hkind hnames hx
    (wpAny_mono h (fun xv s₁ h₁ => ?_) fun _ _ e => e) hs
  obtain ⟨ax, vs, ns, rfl, hl, hi, hz, hq, hQ⟩ := h₁
  have hlt : ax < s₁.heap.objs.size := by obtain ⟨_, e, _⟩ := hl; exact Heap.lt_size e
  refine wpAny_pyIter_list hl ?_
  refine ⟨s₁.heap.objs.size, _, _, _, _, _, rfl, Walks.list hh s₁.heap.objs.size ax (Nat.ne_of_lt hlt) (List.toArray vs), by simpa [hi.length] using hz, ⟨⟨_, Heap.get?_push_size _ rfl, rfl, rfl⟩, hl.push _⟩, ?_, ?_, ?_⟩
  · intro b hb
    show b < (s₁.heap.push _).objs.size
    rw [Heap.size_push]
    simp only [List.mem_cons, List.not_mem_nil, or_false] at hb
    rcases hb with rfl | rfl
    · exact Nat.lt_succ_self _
    · exact Nat.lt_succ_of_lt hlt
  · exact hq.quiet hi fun b o e => ⟨by simp; exact Nat.ne_of_lt (Heap.lt_size e), Heap.get?_push_of_some _ e⟩
  · intro D h' tk ys ws hnew hlD hpl hlen hP hF hk
    have hws : ws = vs := by
      have := list_of_places (items := List.toArray vs) (vs := ws) (by simpa using hlen) fun j v hj => hP j v hj
      simpa using this
    subst hws
    have keep : ∀ b o, s₁.heap.get? b = some o → h'.get? b = some o := fun b o e => hk b o (by simp; exact Nat.ne_of_lt (Heap.lt_size e)) (Heap.get?_push_of_some _ e)
    refine hQ D _ ⟨h', tk, rfl, keep⟩ ?_ (plain_li hpl (paired_li hi hF))
    cases e : s₁.heap.get? D with
    | none => rfl
    | some o => have := Heap.get?_push_of_some { cls := .type "list_iterator", data := .fields #[.ref ax, .int 0 0] } e; rw [hnew] at this; cases this

/-- the same, where the value goes straight into a local name -/
theorem comp_li_assign {elt iter : Expr} {x y : Str} {px py : Pos} {ifs : List Expr} {scope : Scope} {cl : List (Str × Addr)} {pos spos : Pos} {Q : Flow → Shared → Prop} (pz : Int → Bool) (f : Int → Int)
    (hsw : swapsWith (.ListComp elt [⟨.Name x px, iter, ifs, 0⟩] scope pos) (some (.Name y py)) spos.line env = pure true)
    (hh : A.handled = none) (hclos : closureFor scope env = pure cl) (hcell : ∀ y ∈ scope.names, y.2 ≠ .cell) (hkind : scope.kind = .function)
    (hnames : ∀ y ∈ scope.names, y.2 = .local → scope.names.lookup y.1 = some .local) (hx : scope.names.lookup x = some .local)
    (hy : env.kindOf y = some .local) (hp : (env.scope.kind == .class || (env.scope.kind == .module && env.locals != env.globals)) = false)
    (h : wpAny (model prog w) A (eval iter env) (fun xv s₁ => ∃ ax vs ns m, xv = .ref ax ∧ s₁.heap.IsList ax (List.toArray vs) ∧ IntsAre vs ns ∧ ns.length ≤ sizeLine ∧ CompLi prog w A env scope cl x ifs elt pz f ns s₁ ∧ s₁.heap.Ns env.locals m ∧
      (∀ D h' tk, (∀ b o, b ≠ env.locals → s₁.heap.get? b = some o → h'.get? b = some o) → s₁.heap.get? D = none → h'.Ns env.locals (fun z => if z = y then some (.ref D) else m z) → Li h' D ((ns.filter pz).map f) →
        Q .next { s₁ with heap := h', toks := tk })) E s)
    (hs : ∀ x, foldedSetIterable iter env x = pure x := by intro _; rfl) :
    wpAny (model prog w) A (exec (.Assign [.Name y py] (.ListComp elt [⟨.Name x px, iter, ifs, 0⟩] scope pos) spos) env) Q E s := by
  refine wpAny_Assign_ListComp_free (fun v => match v with | .int a _ => pz a | _ => false) (fun v y => ∃ a t u, v = Value.int a t ∧ y = Value.int (f a) u) hsw hclos hcell hkind hnames hx hy hp
    (wpAny_mono h (fun xv s₁ h₁ => ?_) fun _ _ e => e) hs
  obtain ⟨ax, vs, ns, m, rfl, hl, hi, hz, hq, hns, hQ⟩ := h₁
  have hlt : ax < s₁.heap.objs.size := by obtain ⟨_, e, _⟩ := hl; exact Heap.lt_size e
  refine wpAny_pyIter_list hl ?_
  refine ⟨s₁.heap.objs.size, _, _, _, _, _, m, rfl, Walks.list hh s₁.heap.objs.size ax (Nat.ne_of_lt hlt) (List.toArray vs), by simpa [hi.length] using hz, ⟨⟨_, Heap.get?_push_size _ rfl, rfl, rfl⟩, hl.push _⟩, ?_, ?_, hns.push _, ?_, ?_⟩
  · intro b hb
    show b < (s₁.heap.push _).objs.size
    rw [Heap.size_push]
    simp only [List.mem_cons, List.not_mem_nil, or_false] at hb
    rcases hb with rfl | rfl
    · exact Nat.lt_succ_self _
    · exact Nat.lt_succ_of_lt hlt
  · simp; exact Nat.ne_of_lt hns.lt
  · exact hq.quiet hi fun b o e => ⟨by simp; exact Nat.ne_of_lt (Heap.lt_size e), Heap.get?_push_of_some _ e⟩
  · intro D h' tk ys ws hnew hlD hpl hlen hP hF hnm hk
    have hws : ws = vs := by
      have := list_of_places (items := List.toArray vs) (vs := ws) (by simpa using hlen) fun j v hj => hP j v hj
      simpa using this
    subst hws
    have keep : ∀ b o, b ≠ env.locals → s₁.heap.get? b = some o → h'.get? b = some o := fun b o hb e => hk b o hb (by simp; exact Nat.ne_of_lt (Heap.lt_size e)) (Heap.get?_push_of_some _ e)
    refine hQ D h' tk keep ?_ hnm (plain_li hpl (paired_li hi hF))
    cases e : s₁.heap.get? D with
    | none => rfl
    | some o => have := Heap.get?_push_of_some { cls := .type "list_iterator", data := .fields #[.ref ax, .int 0 0] } e; rw [hnew] at this; cases this
end
end Mine

-- ================ W1 ================
namespace Mine

def prg : List Stmt := PySem.Challenge.pw_ik0173_01.main.body
def stAt (k : Nat) : Stmt := (prg[k]?).getD (.Pass default)
def nmOf : Stmt → Str
  | .FunctionDef n .. => n
  | _ => .empty
def bodyOf : Stmt → List Stmt
  | .FunctionDef _ _ body .. => body
  | _ => []
def argsOf : Stmt → Arguments
  | .FunctionDef _ args .. => args
  | _ => default
def scopeOf : Stmt → Scope
  | .FunctionDef _ _ _ _ _ _ scope .. => scope
  | _ => default
def fdX (st : Stmt) (df kd pm cd : Value) : FuncData :=
  { name := nmOf st, qualname := nmOf st, params := argsOf st, body := .stmts (bodyOf st), scope := scopeOf st, globals := mainGlobals, closure := [], defaults := df, kwdefaults := kd, doc := .none, pyModule := pm, code := cd, builtins := builtinsNs }

structure IsFn (mg : Str → Option Value) (h : Heap) (k : Nat) (a : Addr) (df kd : Value) : Prop where
  name : mg (nmOf (stAt k)) = some (.ref a)
  there : ∃ o pm cd, h.get? a = some o ∧ o.data = .func (fdX (stAt k) df kd pm cd) ∧ h.CodeRec cd (nmOf (stAt k))
theorem IsFn.keep {mg : Str → Option Value} {h h' : Heap} {k : Nat} {a : Addr} {df kd : Value} (x : IsFn mg h k a df kd) (kp : ∀ b o, h.get? b = some o → h'.get? b = some o) : IsFn mg h' k a df kd :=
  ⟨x.name, let ⟨o, pm, cd, h1, h2, h3⟩ := x.there; ⟨o, pm, cd, kp _ _ h1, h2, h3.keeps kp⟩⟩

structure Wd (mg mb : Str → Option Value) (h : Heap) : Prop where
  g : h.Ns mainGlobals mg
  b : h.Ns builtinsNs mb
  lim : h.NoLimit
  weight : IsFn mg h 16 114 .none .none
  sixes : IsFn mg h 15 109 .none .none
  sld : IsFn mg h 13 102 .none .none
  gsum : mg "sum" = none
  bsum : mb "sum" = some (.builtin "sum")
  giter : mg "iter" = none
  biter : mb "iter" = some (.builtin "iter")
  gnext : mg "next" = none
  bnext : mb "next" = some (.builtin "next")
  gbool : mg "bool" = none
  bbool : mb "bool" = some (.type "bool")
  glist : mg "list" = none
  blist : mb "list" = some (.type "list")
  gidx : mg "IndexError" = none
  bidx : mb "IndexError" = some (.type "IndexError")
theorem Wd.keep {mg mb : Str → Option Value} {h h' : Heap} (x : Wd mg mb h) (kp : ∀ b o, h.get? b = some o → h'.get? b = some o) : Wd mg mb h' :=
  { x with g := x.g.keeps kp, b := x.b.keeps kp, lim := x.lim.keeps kp, weight := x.weight.keep kp, sixes := x.sixes.keep kp, sld := x.sld.keep kp }

section
variable {prog : Program} {w : World} {A : Around} {E : Value → Shared → Prop} {s : Shared} {env : Env} {mg mb m : Str → Option Value}

theorem nL {M : Model} {n : Str} {pos : Pos} {v : Value} {Q : Value → Shared → Prop} (hn : s.heap.Ns env.locals m) (hv : m n = some v) (h : Q v s) (hk : env.scope.kind = .function := by kernel_rfl) (hl : env.kindOf n = some .local := by kernel_rfl)
    (hd : (n == ("__debug__" : Str)) = false := by kernel_rfl) : wpAny M A (eval (.Name n pos) env) Q E s := wpAny_Name (wpAny_loadName_local hk hl hn hv h) hd
theorem nC {M : Model} {n : Str} {pos : Pos} {c : Addr} {v : Value} {Q : Value → Shared → Prop} (hv : s.heap.IsCell c (some v)) (h : Q v s) (hc : env.cells.lookup n = some c := by kernel_rfl) (hk : env.scope.kind = .function := by kernel_rfl) (hl : env.kindOf n = some .cell := by kernel_rfl)
    (hd : (n == ("__debug__" : Str)) = false := by kernel_rfl) : wpAny M A (eval (.Name n pos) env) Q E s := wpAny_Name (wpAny_loadName_cell hk hl hc hv h) hd
theorem nG {M : Model} {n : Str} {pos : Pos} {v : Value} {Q : Value → Shared → Prop} (hg : s.heap.Ns mainGlobals mg) (hm : mg n = some v) (h : Q v s) (he : env.globals = mainGlobals := by kernel_rfl) (hk : env.scope.kind = .function := by kernel_rfl) (hl : env.kindOf n = some .globalImplicit := by kernel_rfl)
    (hd : (n == ("__debug__" : Str)) = false := by kernel_rfl) : wpAny M A (eval (.Name n pos) env) Q E s :=
  Calls.Name_function_global hk hl (Calls.loadGlobal_global (by rw [he]; exact hg) hm h) hd
theorem nB {M : Model} {n : Str} {pos : Pos} {v : Value} {Q : Value → Shared → Prop} (hg : s.heap.Ns mainGlobals mg) (hb : s.heap.Ns builtinsNs mb) (hm : mg n = none) (hv : mb n = some v) (h : Q v s) (he : env.globals = mainGlobals := by kernel_rfl) (hbn : env.builtins = builtinsNs := by kernel_rfl)
    (hk : env.scope.kind = .function := by kernel_rfl) (hl : env.kindOf n = some .globalImplicit := by kernel_rfl)
    (hd : (n == ("__debug__" : Str)) = false := by kernel_rfl) : wpAny M A (eval (.Name n pos) env) Q E s :=
  Calls.Name_function_global hk hl (Calls.loadGlobal_builtin (by rw [he]; exact hg) hm (by rw [hbn]; exact hb) hv h) hd

theorem cwB {M : Model} {pos : Pos} {id : String} {e : Expr} {rest : List Expr} {Q : Value → Shared → Prop}
    (h : wpAny M A (spliced (backTo pos (starEach (e :: rest) env))) (fun vs s₁ => wpAny M A (call (.builtin id) vs) Q E s₁) E s)
    (he : starEach (e :: rest) env = (false, eval e env) :: starEach rest env := by rfl)
    (hplain : (backTo pos (starEach rest env)).any (·.1) = false := by rfl) :
    wpAny M A (callWith pos (.builtin id) [] (backTo pos (starEach (e :: rest) env)) []) Q E s := PyProof.Rows.callWith_builtin1 h he hplain
theorem cwT {M : Model} {pos : Pos} {T : String} {e : Expr} {rest : List Expr} {Q : Value → Shared → Prop}
    (h : wpAny M A (spliced (backTo pos (starEach (e :: rest) env))) (fun vs s₁ => wpAny M A (call (.type T) vs) Q E s₁) E s)
    (he : starEach (e :: rest) env = (false, eval e env) :: starEach rest env := by rfl)
    (hplain : (backTo pos (starEach rest env)).any (·.1) = false := by rfl) :
    wpAny M A (callWith pos (.type T) [] (backTo pos (starEach (e :: rest) env)) []) Q E s := PyProof.Rows.callWith_type1 h he hplain
theorem cwF {M : Model} {pos : Pos} {f : Addr} {o : Obj} {fd : FuncData} {e : Expr} {rest : List Expr} {Q : Value → Shared → Prop} (hdat : o.data = .func fd)
    (h : wpAny M A (spliced (backTo pos (starEach (e :: rest) env))) (fun vs s₁ => s₁.heap.get? f = some o ∧ wpAny M A (call (.ref f) vs) Q E s₁) E s)
    (he : starEach (e :: rest) env = (false, eval e env) :: starEach rest env := by rfl) :
    wpAny M A (callWith pos (.ref f) [] (backTo pos (starEach (e :: rest) env)) []) Q E s := PyProof.Rows.callWith_def hdat h he
theorem cint {M : Model} {i : Int} {k pos} {Q : Value → Shared → Prop} (h : Q (.int i s.toks) { s with toks := s.toks + 1 }) : wpAny M A (eval (.Constant (.int i) k pos) env) Q E s := wpAny_Constant_int (env := env) h

/-- a list display of written ints -/
inductive Written : List Expr → List Int → Prop
  | nil : Written [] []
  | cons (i : Int) (k pos) {es is} : Written es is → Written (.Constant (.int i) k pos :: es) (i :: is)
theorem written_items {M : Model} {pos : Pos} : ∀ {es : List Expr} {is : List Int}, Written es is → ∀ {s : Shared} {Q : List Value → Shared → Prop},
    (∀ vs tk, IntsAre vs is → Q vs { s with toks := tk }) → wpAny M A (spliced (backTo pos (starEach es env))) Q E s
  | _, _, .nil, s, Q, h => args_nil (h [] s.toks .nil)
  | _, _, .cons i k p r, s, Q, h => args_cons (cint (written_items r fun vs tk hi => h _ tk (.cons i _ hi)))
theorem written_list {es : List Expr} {is : List Int} {pos : Pos} {Q : Value → Shared → Prop} (hw : Written es is) (hz : is.length ≤ sizeLine)
    (h : ∀ D s', Keeps s s' → s.heap.get? D = none → Li s'.heap D is → Q (.ref D) s') : wpAny (model prog w) A (eval (.List es pos) env) Q E s := by
  refine List_ (written_items hw fun vs tk hi => li_new hi (by rw [hi.length]; exact hz) fun D s' k hD hl => h D s' ?_ hD hl)
  obtain ⟨h', tk', rfl, k'⟩ := k
  exact ⟨h', tk', rfl, k'⟩

theorem i_div {a b : Int} {t u : Tok} {Q : Value → Shared → Prop} (hb : 0 < b) (hb' : b < 1073741824) (h : Q (.int (a / b) s.toks) { s with toks := s.toks + 1 }) :
    wpAny (model prog w) A (binaryOp .FloorDiv (.int a t) (.int b u)) Q E s :=
  floordiv_int (by omega) (by rw [Int.fdiv_eq_ediv_of_nonneg a (by omega : (0 : Int) ≤ b)]; exact h) (.inl (PyProof.noPylong_small (by omega)))
theorem i_mod {a b : Int} {t u : Tok} {Q : Value → Shared → Prop} (hb : 0 < b) (h : Q (.int (a % b) s.toks) { s with toks := s.toks + 1 }) :
    wpAny (model prog w) A (binaryOp .Mod (.int a t) (.int b u)) Q E s :=
  mod_int' (by omega) (by rw [Int.fmod_eq_emod_of_nonneg a (by omega : (0 : Int) ≤ b)]; exact h)

def things : List Int := [1, 2, 4, 8, 16, 32]
def wt (a : Int) : Int := (things.map (fun b => (a / b) % 2)).sum

theorem weight_call {a : Int} {t : Tok} {Q : Value → Shared → Prop} (W : Wd mg mb s.heap) (hd : A.depth < recursionLimit) (hh : A.handled = none)
    (h : ∀ u s', Keeps s s' → Q (.int (wt a) u) s') : wpAny (model prog w) A (call (.ref 114) [.int a t]) Q E s := by
  obtain ⟨o, pm, cd, ho, hdt, hcd⟩ := W.weight.there
  refine wpAny_call (codeAny_call_cells (fd := fdX (stAt 16) .none .none pm cd) (body := bodyOf (stAt 16)) (binds := [("a", .int a t)]) hd ho hdt W.lim hcd (by kernel_rfl) (by kernel_rfl) (by kernel_rfl)
    (by intro x hx; simp only [List.mem_singleton] at hx; subst hx; exact .inr ⟨by kernel_rfl, by kernel_rfl⟩) (fun s₁ x => ?_) (by kernel_rfl) (by kernel_rfl) (by kernel_rfl))
  have kk : Keeps s s₁ := let ⟨h', tk, e, k⟩ := x.done; ⟨h', tk, e, k⟩
  have hc : s₁.heap.IsCell (s.heap.objs.size + 1) (some (.int a t)) := x.cell "a" _ (by kernel_rfl)
  clear x
  have W1 := W.keep (kp_all kk)
  refine wpAny_execs_cons (wpAny_Return_some (Call_ ?_))
  refine nB W1.g W1.b W1.gsum W1.bsum ?_
  refine cwB ?_
  refine args_cons ?_
  refine comp_li (cl := [("a", s.heap.objs.size + 1)]) (fun _ => true) (fun b => (a / b) % 2) hh (by kernel_rfl) (by decide) (by kernel_rfl) (by decide) (by kernel_rfl) ?_
  refine written_list (is := things) (by repeat constructor) (by decide) ?_
  intro D s₂ k₂ hD hl
  obtain ⟨vs, hli, hi⟩ := hl.isList
  refine ⟨D, vs, things, rfl, hli, hi, by decide, ⟨?_, ?_⟩, ?_⟩
  · intros; exact wpAny_tests_nil ⟨rfl, kp_refl _⟩
  · intro C b tb s₃ m₃ E' hb _ hn hm k₃
    refine wpAny_BinOp (wpAny_BinOp (nC (((hc.keeps (kp_all k₂)).keeps k₃)) ?_))
    refine nL hn hm ?_
    have hb' : 0 < b ∧ b < 1073741824 := by
      simp only [things, List.mem_cons, List.not_mem_nil, or_false] at hb
      omega
    refine i_div hb'.1 hb'.2 (cint (i_mod (by decide) ?_))
    exact ⟨⟨_, rfl⟩, ⟨_, _, rfl, fun _ _ e => e⟩⟩
  · intro D' s₃ k₃ hD' hl'
    refine args_nil ?_
    refine li_sum hl' hh ?_ (by simp [things]) ?_
    · intro x hx
      simp only [List.mem_map, List.mem_filter] at hx
      obtain ⟨b, _, rfl⟩ := hx
      omega
    · intro u s₄ k₄
      exact h u s₄ (kp_trans kk (kp_trans k₂ (kp_trans k₃ k₄)))
end
end Mine

-- ================ Exn ================
namespace Mine

-- ============ all kept but frames, whose slots may turn ============
def KF (fs : List Addr) (s s' : Shared) : Prop := ∃ h tk, s' = { s with heap := h, toks := tk } ∧ (∀ b o, b ∉ fs → s.heap.get? b = some o → h.get? b = some o) ∧ s.heap.UpToSlots h
theorem KF.of_kp {fs : List Addr} {s s' : Shared} (k : Keeps s s') : KF fs s s' := by
  obtain ⟨h, t, rfl, k⟩ := k
  exact ⟨h, t, rfl, fun b o _ e => k b o e, Heap.UpToSlots.of_keeps k⟩
theorem KF.refl {fs : List Addr} (s : Shared) : KF fs s s := .of_kp (kp_refl s)
theorem KF.trans {fs : List Addr} {a b c : Shared} (x : KF fs a b) (y : KF fs b c) : KF fs a c := by
  obtain ⟨h, t, rfl, k, u⟩ := x
  obtain ⟨h', t', rfl, k', u'⟩ := y
  exact ⟨h', t', rfl, fun b o hb e => k' b o hb (k b o hb e), u.trans u'⟩
theorem KF.mono {fs fs' : List Addr} {s s' : Shared} (x : KF fs s s') (h : ∀ b ∈ fs, b ∈ fs') : KF fs' s s' := by
  obtain ⟨h', t, rfl, k, u⟩ := x
  exact ⟨h', t, rfl, fun b o hb e => k b o (fun q => hb (h b q)) e, u⟩
theorem KF.get {fs : List Addr} {s s' : Shared} (x : KF fs s s') {b : Addr} {o : Obj} (hb : b ∉ fs) (e : s.heap.get? b = some o) : s'.heap.get? b = some o := by
  obtain ⟨h, t, rfl, k, u⟩ := x
  exact k b o hb e
theorem KF.slots {fs : List Addr} {s s' : Shared} (x : KF fs s s') : s.heap.UpToSlots s'.heap := by
  obtain ⟨h, t, rfl, k, u⟩ := x
  exact u
theorem KF.ns {fs : List Addr} {s s' : Shared} (x : KF fs s s') {a : Addr} {m : Str → Option Value} (hn : s.heap.Ns a m) : s'.heap.Ns a m := x.slots.ns hn
theorem KF.cell {fs : List Addr} {s s' : Shared} (x : KF fs s s') {c : Addr} {v : Option Value} (hc : s.heap.IsCell c v) : s'.heap.IsCell c v := by
  obtain ⟨o, ho, hd⟩ := hc
  obtain ⟨sl, e⟩ := x.slots c o ho fun vs q => by rw [hd] at q; cases q
  exact ⟨_, e, hd⟩
theorem KF.li {fs : List Addr} {s s' : Shared} (x : KF fs s s') {l : Addr} {ns : List Int} (hl : Li s.heap l ns) (hf : l ∉ fs) : Li s'.heap l ns := hl.at fun o e => x.get hf e

/-- the frames at work: each a dict of names -/
def Frs (h : Heap) : List Env → Prop
  | [] => True
  | env :: rest => env.scope.kind ≠ .module ∧ (∃ L m, env.frame = some L ∧ h.Ns L m) ∧ Frs h rest
def frs (l : List Env) : List Addr := l.filterMap (·.frame)
theorem Frs.up {h h' : Heap} (u : h.UpToSlots h') : ∀ {l : List Env}, Frs h l → Frs h' l
  | [], _ => trivial
  | _ :: _, ⟨hk, ⟨L, m, hf, hn⟩, hr⟩ => ⟨hk, ⟨L, m, hf, u.ns hn⟩, Frs.up u hr⟩
theorem Frs.mem {h : Heap} : ∀ {l : List Env} {b : Addr}, Frs h l → b ∈ frs l → ∃ m, h.Ns b m
  | [], b, _, hb => by simp [frs] at hb
  | env :: rest, b, ⟨hk, ⟨L, m, hf, hn⟩, hr⟩, hb => by
    simp only [frs, List.filterMap_cons, hf] at hb
    rcases List.mem_cons.mp hb with rfl | hb
    · exact ⟨m, hn⟩
    · exact Frs.mem hr hb
theorem ns_data {h : Heap} {a : Addr} {m : Str → Option Value} {o : Obj} (hn : h.Ns a m) (ho : h.get? a = some o) : ∃ es ep, o.data = .dict es ep := by
  obtain ⟨o', es, ep, e, hd, _⟩ := hn
  rw [ho] at e; cases e
  exact ⟨es, ep, hd⟩
theorem Frs.off_li {h : Heap} {l : List Env} {d : Addr} {ns : List Int} (x : Frs h l) (hl : Li h d ns) : d ∉ frs l := fun hm => by
  obtain ⟨m, hn⟩ := x.mem hm
  obtain ⟨vs, n, e, _⟩ := hl
  obtain ⟨es, ep, q⟩ := ns_data hn e
  cases q
theorem Frs.fun {h : Heap} {fs : List Addr} : ∀ {l : List Env}, Frs h l → (∀ b ∈ frs l, b ∈ fs) → h.FunFrames (hideAll h fs) l
  | [], _, _ => trivial
  | env :: rest, ⟨hk, ⟨L, m, hf, hn⟩, hr⟩, hs => by
    refine ⟨hk, ?_, Frs.fun hr fun b hb => hs b ?_⟩
    · obtain ⟨o, es, ep, ho, hd, _⟩ := hn
      exact ⟨L, o, hf, hideAll_none _ (hs L (by simp [frs, hf])), ho, fun vs q => by rw [hd] at q; cases q⟩
    · simp only [frs, List.filterMap_cons, hf]; exact List.mem_cons_of_mem _ hb

-- ============ an exception on its way ============
/-- just made -/
structure Mk0 (s : Shared) (e : Addr) (X : String) (ctx : Value) (s' : Shared) : Prop where
  kp : Keeps s s'
  new : s.heap.get? e = none
  there : ∃ ob t, s'.heap.get? e = some ob ∧ ob.cls = .type X ∧ ob.data = .fields #[t, .none, ctx, .none, .bool false, .none]
/-- traced -/
structure Rs (fs : List Addr) (s : Shared) (e : Addr) (X : String) (ctx fl : Value) (s' : Shared) : Prop where
  kf : KF fs s s'
  new : s.heap.get? e = none
  there : ∃ ob t T oT ts, s'.heap.get? e = some ob ∧ ob.cls = .type X ∧ ob.data = .fields #[t, .ref T, ctx, .none, .bool false, .none] ∧ s.heap.get? T = none ∧ T ≠ e ∧
    s'.heap.get? T = some oT ∧ oT.data = .fields ts ∧ ts[3]? = some fl

theorem upTo_other {h h' : Heap} {e : Addr} {oe : Obj} {vs : Array Value} (he : h.get? e = some oe) (hd : oe.data = .fields vs) (k : ∀ b o, b ≠ e → h.get? b = some o → h'.get? b = some o) : h.UpToSlots h' := fun b o ho hn =>
  ⟨o.slots, k b o (fun q => by subst q; rw [he] at ho; cases ho; exact hn vs hd) ho⟩

section
variable {prog : Program} {w : World} {A : Around} {E : Value → Shared → Prop} {s s' : Shared} {env : Env} {outer : List Env} {L e : Addr} {X : String} {ctx fl : Value}

theorem note_new {M : Model} {Q : Unit → Shared → Prop} (hfr : A.frames = some (env :: outer)) (hl : Frs s.heap (env :: outer)) (hf : env.frame = some L) (x : Mk0 s e X ctx s')
    (h : ∀ s'', Rs (frs (env :: outer)) s e X ctx (rawInt L) s'' → Q () s'') : wpAny M A (noteFrame (.ref e) env) Q E s' := by
  obtain ⟨kp, hnew, ob, t, he, hcls, hd⟩ := x
  have hl' : Frs s'.heap (env :: outer) := hl.up (Heap.UpToSlots.of_keeps (kp_all kp))
  have hff := Frs.fun (fs := frs (env :: outer)) hl' fun b hb => hb
  have hene : e ∉ frs (env :: outer) := fun hm => by
    obtain ⟨m, hn⟩ := hl'.mem hm
    obtain ⟨es, ep, q⟩ := ns_data hn he
    rw [hd] at q; cases q
  unfold noteFrame
  simp only [hf]
  refine wpAny_bind (wpAny_field he hd (x := .none) rfl ?_)
  rw [if_neg (by decide)]
  refine wpAny_bind (wpAny_frameOf_fun hfr hff hf fun h₁ hs₁ => ?_)
  refine wpAny_bind (wpAny_entryPlaceOf fun pl hpl => ?_)
  unfold EntryCells.newEntry newFields
  refine wpAny_bind (wpAny_newObj_type ?_ (hpl.sizeOk5 _ _ _ _ _))
  have he₁ : h₁.get? e = some ob := (hs₁.2.1 e hene).trans he
  generalize hto : ({ cls := .type "traceback", dict := none, data := .fields ([Value.none, .ref L, .none, rawInt L, .none] ++ (if pl.isEmpty then List.replicate 6 Value.none else pl)).toArray } : Obj) = tob
  have he₂ := Heap.get?_push_of_some (h := h₁) tob he₁
  refine wpAny_setField he₂ hd (by simp) (h _ ?_)
  have hTe : h₁.objs.size ≠ e := Nat.ne_of_gt (Heap.lt_size he₁)
  have hd₃ := Obj.data_mapFields hd (·.setIfInBounds 1 (Value.ref h₁.objs.size))
  have he₃ := Heap.get?_update_self (Obj.mapFields (·.setIfInBounds 1 (Value.ref h₁.objs.size))) he₂ (Obj.isFreed_of_fields hd₃)
  have hT₃ := (Heap.get?_update_other (h₁.push tob) (Obj.mapFields (·.setIfInBounds 1 (Value.ref h₁.objs.size))) (Ne.symm hTe)).trans (Heap.get?_push_size h₁ (by subst hto; rfl))
  have other : ∀ b o, b ≠ e → h₁.get? b = some o → ((h₁.push tob).update e (Obj.mapFields (·.setIfInBounds 1 (Value.ref h₁.objs.size)))).get? b = some o := fun b o hbe hb => by
    rw [Heap.get?_update_other _ _ (Ne.symm hbe)]
    exact Heap.get?_push_of_some _ hb
  have notE : ∀ b o, s.heap.get? b = some o → b ≠ e := fun b o q r => by rw [r, hnew] at q; cases q
  obtain ⟨h', tk, rfl, k⟩ := kp
  refine ⟨⟨_, tk, rfl, fun b o hb q => ?_, fun b o q hn => ?_⟩, hnew, _, t, h₁.objs.size, tob, _, he₃, ?_, ?_, ?_, hTe, hT₃, by subst hto; rfl, by rcases hpl with rfl | ⟨_, _, _, _, _, _, _, rfl⟩ <;> simp⟩
  · exact other b o (notE b o q) ((hs₁.2.1 b hb).trans (k b o q))
  · obtain ⟨sl, r⟩ := hs₁.2.2 b o (k b o q)
    exact ⟨sl, other b _ (notE b o q) r⟩
  · exact (Obj.cls_mapFields _ _).trans hcls
  · rw [hd₃]; rfl
  · cases q : s.heap.get? h₁.objs.size with
    | none => rfl
    | some o =>
      have := Heap.lt_size (k _ _ q)
      rw [hs₁.1] at this
      exact absurd this (Nat.lt_irrefl _)

theorem note_again {M : Model} {fs : List Addr} {Q : Unit → Shared → Prop} (hf : env.frame = some L) (x : Rs fs s e X ctx (rawInt L) s') (h : Q () s') : wpAny M A (noteFrame (.ref e) env) Q E s' := by
  obtain ⟨_, _, ob, t, T, oT, ts, he, _, hd, _, _, hT, hdT, h3⟩ := x
  unfold noteFrame
  simp only [hf]
  refine wpAny_bind (wpAny_field he hd (x := .ref T) rfl ?_)
  rw [if_pos (show (Value.ref T != Value.none) = true from by simp)]
  refine wpAny_bind (wpAny_field hT hdT h3 ?_)
  rw [if_pos (show (rawInt L == rawInt L) = true from by simp)]
  exact wpAny_pure h

theorem set_flight {M : Model} {fs : List Addr} {fo : Option Addr} {Q : Unit → Shared → Prop} (x : Rs fs s e X ctx fl s')
    (h : ∀ s'', Rs fs s e X ctx (fo.elim .none fun f => rawInt f) s'' → Q () s'') : wpAny M A (setFlight (.ref e) fo) Q E s' := by
  obtain ⟨kf, hnew, ob, t, T, oT, ts, he, hcls, hd, hTn, hTe, hT, hdT, h3⟩ := x
  have hsz3 : 3 < ts.size := (Array.getElem?_eq_some_iff.mp h3).1
  unfold setFlight
  refine wpAny_bind (wpAny_field he hd (x := .ref T) rfl ?_)
  rw [if_pos (show (Value.ref T != Value.none) = true from by simp)]
  refine wpAny_setField hT hdT hsz3 (h _ ?_)
  obtain ⟨h', tk, rfl, k, u⟩ := kf
  have other : ∀ b, b ≠ T → (h'.update T (Obj.mapFields (·.setIfInBounds 3 (fo.elim Value.none fun f => rawInt f)))).get? b = h'.get? b := fun b hb => Heap.get?_update_other _ _ (Ne.symm hb)
  have notT : ∀ b o, s.heap.get? b = some o → b ≠ T := fun b o q r => by rw [r, hTn] at q; cases q
  have hd₃ := Obj.data_mapFields hdT (·.setIfInBounds 3 (fo.elim Value.none fun f => rawInt f))
  refine ⟨⟨_, tk, rfl, fun b o hb q => (other b (notT b o q)).trans (k b o hb q), fun b o q hn => ?_⟩, hnew, ob, t, T, _, _, (other e (Ne.symm hTe)).trans he, hcls, hd, hTn, hTe,
    Heap.get?_update_self _ hT (Obj.isFreed_of_fields hd₃), hd₃, by simp [hsz3]⟩
  obtain ⟨sl, r⟩ := u b o q hn
  exact ⟨sl, (other b (notT b o q)).trans r⟩

theorem came_back {M : Model} {fs : List Addr} (hf : env.frame = some L) (x : Rs fs s e X ctx fl s') (h : ∀ s'', Rs fs s e X ctx (rawInt L) s'' → E (.ref e) s'') : cameBackBy M A env E (.ref e) s' := by
  have x' := x
  obtain ⟨_, _, ob, t, T, oT, ts, he, _, hd, _⟩ := x'
  unfold cameBackBy
  refine wpAny_bind (wpAny_field he hd (x := .ref T) rfl ?_)
  rw [if_neg (show ¬ ((Value.ref T == Value.none) = true) from by simp)]
  rw [hf]
  exact set_flight (fo := some L) x h

theorem pass_on {α : Type} {M : Model} {fs : List Addr} {what : String} {Q : α → Shared → Prop} (hf : env.frame = some L) (x : Rs fs s e X ctx fl s') (h : ∀ s'', Rs fs s e X ctx (rawInt L) s'' → E (.ref e) s'') : wpAny M A (PySem.passOn what (.ref e) env : Sem α) Q E s' := by
  have x' := x
  obtain ⟨_, _, ob, t, T, oT, ts, he, _, hd, _⟩ := x'
  unfold PySem.passOn
  refine wpAny_bind (wpAny_field he hd (x := .ref T) rfl ?_)
  rw [if_neg (show ¬ ((Value.ref T == Value.none) = true) from by simp)]
  rw [hf]
  exact wpAny_bind (wpAny_mono (set_flight (Q := fun _ s'' => E (.ref e) s'') (fo := some L) x h) (fun _ s'' q => wpAny_throw q) fun _ _ q => q)

-- ============ raising IndexError ============
def Raises (prog : Program) (w : World) (A : Around) (E : Value → Shared → Prop) (msg : String) (s : Shared) : Prop :=
  ∀ (α : Type) (A' : Around) (Q' : α → Shared → Prop), A'.handled = A.handled → wpAny (model prog w) A' (raiseErrorWords "IndexError" msg : Sem α) Q' E s

theorem raises_none {msg : String} (hh : A.handled = none) (h : ∀ e s', Mk0 s e "IndexError" .none s' → E (.ref e) s') : Raises prog w A E msg s := fun α A' Q' hA' =>
  wpAny_raiseErrorWords plainExc_IndexError (hA'.trans hh) fun h' tk e x => h e _ ⟨⟨h', tk, rfl, x.keeps⟩, x.new, let ⟨ob, t, h1, h2, h3⟩ := x.there; ⟨ob, t, h1, h2, h3⟩⟩

theorem raises_under {msg : String} {e₁ : Addr} {o₁ : Obj} {t₁ tb₁ : Value} (hh : A.handled = some (.ref e₁)) (he₁ : s.heap.get? e₁ = some o₁) (hd₁ : o₁.data = .fields #[t₁, tb₁, .none, .none, .bool false, .none])
    (h : ∀ e s', Mk0 s e "IndexError" (.ref e₁) s' → E (.ref e) s') : Raises prog w A E msg s := fun α A' Q' hA' => by
  unfold raiseErrorWords
  refine wpAny_bind (wpAny_mkText (wpAny_bind ?_))
  unfold newExc newTuple
  refine wpAny_bind (wpAny_newObj_type ?_)
  refine wpAny_bind (m := firstArgMember _ _) (wpAny_of_eq (a := Value.none) (by simp only [firstArgMember, plainExc_IndexError.first]; rfl) ?_)
  rw [plainExc_IndexError.own]
  refine wpAny_newObj_type ?_
  unfold raiseNew
  refine wpAny_bind (wpAny_handled ?_)
  rw [hA', hh]
  dsimp only
  generalize hto : ({ cls := Value.type "tuple", dict := none, data := Data.seq [Value.str msg s.toks].toArray } : Obj) = tob
  have hne : e₁ ≠ (s.heap.push tob).objs.size := by
    rw [Heap.size_push]
    exact Nat.ne_of_lt (Nat.lt_succ_of_lt (Heap.lt_size he₁))
  generalize heo : ({ cls := Value.type "IndexError", dict := none, data := Data.fields (#[Value.ref s.heap.objs.size, Value.none, Value.none, Value.none, Value.bool false, Value.none] ++ #[]) } : Obj) = eob
  have hg₁ : ((s.heap.push tob).push eob).get? e₁ = some o₁ := Heap.get?_push_of_some _ (Heap.get?_push_of_some _ he₁)
  have hg₂ : ((s.heap.push tob).push eob).get? (s.heap.push tob).objs.size = some eob := Heap.get?_push_size _ (by subst heo; rfl)
  have hd₂ : eob.data = .fields #[.ref s.heap.objs.size, .none, .none, .none, .bool false, .none] := by subst heo; simp
  have hcond : (Value.ref e₁ != Value.ref (s.heap.push tob).objs.size) = true := by
    have : Value.ref e₁ ≠ Value.ref (s.heap.push tob).objs.size := fun q => hne (by injection q)
    exact bne_iff_ne.mpr this
  rw [if_pos hcond]
  refine wpAny_bind (wpAny_holding (wpAny_runValue (codeAny_builtin (b := Builtin.«proto.unchain») (entryFor_of_tree (by kernel_rfl)) ?_)))
  unfold Builtin.«proto.unchain»
  dsimp only
  refine wpAny_bind (wpAny_field hg₁ hd₁ (x := .none) rfl ?_)
  rw [if_pos (show (Value.none == Value.none) = true from rfl)]
  refine wpAny_pure ?_
  refine wpAny_bind ?_
  have hd₃ := Obj.data_mapFields hd₂ (·.setIfInBounds 2 (Value.ref e₁))
  have key : ∀ b o, s.heap.get? b = some o → (((s.heap.push tob).push eob).update (s.heap.push tob).objs.size (Obj.mapFields (·.setIfInBounds 2 (Value.ref e₁)))).get? b = some o := fun b o q => by
    rw [Heap.get?_update_other _ _ (by rw [Heap.size_push]; exact Nat.ne_of_gt (Nat.lt_succ_of_lt (Heap.lt_size q)))]
    exact Heap.get?_push_of_some _ (Heap.get?_push_of_some _ q)
  show wpAny _ _ (setField (.ref (s.heap.push tob).objs.size) 2 (Value.ref e₁)) _ _ _
  refine wpAny_setField hg₂ hd₂ (by simp) (wpAny_throw (h _ _ ⟨⟨_, _, rfl, key⟩, ?_, ?_⟩))
  · exact Heap.get?_none_of_le (by rw [Heap.size_push]; exact Nat.le_succ _)
  · refine ⟨_, .ref s.heap.objs.size, Heap.get?_update_self _ hg₂ (Obj.isFreed_of_fields hd₃), ?_, ?_⟩
    · rw [Obj.cls_mapFields]; subst heo; rfl
    · rw [hd₃]; rfl

theorem getItem_out {l : Addr} {items : Array Value} {k : Int} {t : Tok} {Q : Value → Shared → Prop} (hl : s.heap.IsList l items)
    (hout : (items.size : Int) ≤ k) (hhi : k < 2 ^ 63) (hR : Raises prog w A E "list index out of range" s) :
    wpAny (model prog w) A (getItem (.ref l) (.int k t)) Q E s := by
  obtain ⟨o, ho, hc, ne, hd⟩ := id hl
  unfold getItem
  refine wpAny_holding ?_
  refine wpAny_bind (wpAny_sequenceKey hl.typeIs (by decide) ?_)
  refine wpAny_bind (wpAny_callSpecial?_slot (name := Str.ofString "__getitem__") hl.typeIs slot_list_getitem
    (wpAny_call_entry slot_list_getitem hl.typeIs entry_list_getitem ?_ (args_list_getitem _ _)))
  show wpAny _ _ (Builtin.List.listSubscript? (.int k t) >>= _) _ _ s
  refine wpAny_bind (wpAny_listSubscript_int (fitsIndex_both (by omega) hhi) ?_)
  cases k with
  | ofNat j =>
    have hx : items[j]? = none := Array.getElem?_eq_none (by have : (items.size : Int) ≤ (j : Int) := hout; omega)
    show wpAny _ _ ((seqItemAt l j >>= fun r => pure (r.map (j, ·))) >>= _) _ _ s
    refine wpAny_bind (wpAny_bind (wpAny_seqItemAt ho hd (wpAny_pure ?_)))
    rw [hx]
    refine wpAny_bind (wpAny_rule ?_)
    exact wpAny_bind (hR _ _ _ rfl)
  | negSucc j => exact absurd hout (by have := Int.negSucc_lt_zero j; omega)

theorem sub_out {value slice : Expr} {l : Addr} {xs : List Int} {k : Int} {t : Tok} {Q : Value → Shared → Prop} (hl : Li s.heap l xs) (hout : (xs.length : Int) ≤ k) (hhi : k < 2 ^ 63)
    (hR : Raises prog w A E "list index out of range" s) (hs : subscripted slice false (.ref l) (.int k t) = operate [.ref l, .int k t] (getItem (.ref l) (.int k t)) := by with_unfolding_all rfl) :
    wpAny (model prog w) A (subscriptTail value slice (.ref l) (.int k t)) Q E s := by
  obtain ⟨vs, hl', i⟩ := hl.isList
  exact tail_any hl'.typeIs slot_list_getitem.lookup (getItem_out hl' (by simpa [i.length] using hout) hhi hR) hs
end
end Mine

-- ================ Stm ================
namespace Mine

def upd (m : Str → Option Value) (n : Str) (v : Value) : Str → Option Value := fun y => if y = n then some v else m y
theorem upd_same {m : Str → Option Value} {n : Str} {v : Value} : upd m n v n = some v := if_pos rfl
theorem upd_ne {m : Str → Option Value} {n y : Str} {v : Value} (h : y ≠ n) : upd m n v y = m y := if_neg h

section
variable {prog : Program} {w : World} {A : Around} {E : Value → Shared → Prop} {s s' : Shared} {env : Env} {outer : List Env} {m : Str → Option Value}

/-- a local is stored: all else stands -/
theorem st_local {M : Model} {n : Str} {v : Value} {Q : Unit → Shared → Prop} (hn : s.heap.Ns env.locals m)
    (h : ∀ h' tk, h'.Ns env.locals (upd m n v) → Heap.SameBut env.locals s.heap h' → Q () { s with heap := h', toks := tk })
    (hl : env.kindOf n = some .local := by kernel_rfl) (hp : (env.scope.kind == .class || (env.scope.kind == .module && env.locals != env.globals)) = false := by kernel_rfl) :
    wpAny M A (storeName env n v) Q E s := wpAny_storeName_local hl hn (fun h' hn' hs' => h h' _ hn' hs') hp

theorem same_get {h h' : Heap} {a b : Addr} {o : Obj} (x : Heap.SameBut a h h') (hb : b ≠ a) (e : h.get? b = some o) : h'.get? b = some o := x.extBut b o hb e

theorem ns_li_ne {h : Heap} {L d : Addr} {m : Str → Option Value} {ns : List Int} (hn : h.Ns L m) (hl : Li h d ns) : d ≠ L := by
  rintro rfl
  obtain ⟨vs, n, e, _⟩ := hl
  obtain ⟨es, ep, q⟩ := ns_data hn e
  cases q

theorem li_upd {h : Heap} {d : Addr} {xs ys : List Int} {vs ws : List Value} {n : Nat} (e : h.get? d = some { cls := .type "list", data := .seq (List.toArray vs) n }) (f : Array Value → Array Value) (hf : f (List.toArray vs) = List.toArray ws) (i : IntsAre ws ys) :
    Li (h.update d (Obj.mapSeq f)) d ys := by
  have := Heap.get?_update_self (Obj.mapSeq f) e (by rfl)
  refine ⟨ws, (if (f (List.toArray vs)).size == (List.toArray vs).size then n else n + 1), this.trans ?_, i⟩
  show some ({ cls := .type "list", data := .seq (f (List.toArray vs)) _ } : Obj) = _
  rw [hf]

theorem attrBase_name {x : Str} {p : Pos} {attr : Str} {whole : Sem Value} : attributeBase (.Name x p) attr env whole = whole := rfl

theorem ex_append {X : Str} {px apos pos spos : Pos} {arg : Expr} {d : Addr} {Q : Flow → Shared → Prop} (hn : s.heap.Ns env.locals m) (hX : m X = some (.ref d)) (hd : ∃ xs, Li s.heap d xs)
    (hs : starEach [arg] env = [(false, eval arg env)])
    (h : wpAny (model prog w) A (eval arg env) (fun av s₁ => ∃ a u xs, av = .int a u ∧ Li s₁.heap d xs ∧ xs.length ≤ sizeLine ∧ ∀ h', Li h' d (xs ++ [a]) → Heap.SameBut d s₁.heap h' → Q .next { s₁ with heap := h' }) E s)
    (hline : (apos.endLine == pos.line) = true) (hi : interactive env = false := by kernel_rfl) (hsw : swapsWith (.Call (.Attribute (.Name X px) "append" apos) [arg] [] pos) none spos.line env = pure false := by kernel_rfl)
    (hk : env.scope.kind = .function := by kernel_rfl) (hl : env.kindOf X = some .local := by kernel_rfl)
    (hdb : (X == ("__debug__" : Str)) = false := by kernel_rfl) :
    wpAny (model prog w) A (exec (.Expr (.Call (.Attribute (.Name X px) "append" apos) [arg] [] pos) spos) env) Q E s := by
  obtain ⟨xs₀, hd⟩ := hd
  refine wpAny_Expr_any (wpAny_Call_method (T := "list") (id := "list.append") attrBase_name ?_ hline F.plainAttrs_list F.slot_list_append F.type_list_append ?_) hi hsw
  · rw [hs]; rfl
  · refine nL hn hX ⟨?_, ?_, ?_⟩ hk hl hdb
    · obtain ⟨vs, hli, _⟩ := hd.isList; exact hli.typeIs
    · intro a q; cases q; obtain ⟨vs, n, e, _⟩ := hd; exact ⟨_, e, rfl⟩
    · rw [hs]
      refine P.append_list (wpAny_mono h (fun av s₁ h₁ => ?_) fun _ _ q => q)
      obtain ⟨a, u, xs, rfl, ⟨vs, n, e, i⟩, hz, hQ⟩ := h₁
      refine ⟨_, n, by simpa [i.length] using hz, e, ?_⟩
      refine hQ _ ?_ (Heap.SameBut.update ..)
      exact li_upd e _ (ws := vs ++ [.int a u]) (by simp) (i.append (.cons a u .nil)) (xs := xs)

theorem ex_extend {X : Str} {px apos pos spos : Pos} {arg : Expr} {d : Addr} {Q : Flow → Shared → Prop} (hn : s.heap.Ns env.locals m) (hX : m X = some (.ref d)) (hd : ∃ xs, Li s.heap d xs)
    (hs : starEach [arg] env = [(false, eval arg env)])
    (h : wpAny (model prog w) A (eval arg env) (fun av s₁ => ∃ b xs ys, av = .ref b ∧ Li s₁.heap d xs ∧ Li s₁.heap b ys ∧ xs.length + ys.length ≤ 1000000 ∧ ∀ h', Li h' d (xs ++ ys) → Heap.SameBut d s₁.heap h' → Q .next { s₁ with heap := h' }) E s)
    (hline : (apos.endLine == pos.line) = true) (hi : interactive env = false := by kernel_rfl) (hsw : swapsWith (.Call (.Attribute (.Name X px) "extend" apos) [arg] [] pos) none spos.line env = pure false := by kernel_rfl)
    (hk : env.scope.kind = .function := by kernel_rfl) (hl : env.kindOf X = some .local := by kernel_rfl)
    (hdb : (X == ("__debug__" : Str)) = false := by kernel_rfl) :
    wpAny (model prog w) A (exec (.Expr (.Call (.Attribute (.Name X px) "extend" apos) [arg] [] pos) spos) env) Q E s := by
  obtain ⟨xs₀, hd⟩ := hd
  refine wpAny_Expr_any (wpAny_Call_method (T := "list") (id := "list.extend") attrBase_name ?_ hline F.plainAttrs_list F.slot_list_extend F.type_list_extend ?_) hi hsw
  · rw [hs]; rfl
  · refine nL hn hX ⟨?_, ?_, ?_⟩ hk hl hdb
    · obtain ⟨vs, hli, _⟩ := hd.isList; exact hli.typeIs
    · intro a q; cases q; obtain ⟨vs, n, e, _⟩ := hd; exact ⟨_, e, rfl⟩
    · rw [hs]
      refine P.extend_list (wpAny_mono h (fun av s₁ h₁ => ?_) fun _ _ q => q)
      obtain ⟨b, xs, ys, rfl, ⟨vs, n, e, i⟩, ⟨ws, n', e', i'⟩, hz, hQ⟩ := h₁
      have hline := sizeLine_eq
      refine ⟨b, _, _, n, n', ?_, ?_, ?_, rfl, e, e', ?_⟩
      · simp [i.length]; omega
      · simp [i.length, i'.length]; omega
      · have : Builtin.List.listTooLong (xs.length + ys.length) = false := by
          unfold Builtin.List.listTooLong
          simp
          omega
        simp [i.length, i'.length, this]
      · refine hQ _ ?_ (Heap.SameBut.update ..)
        exact li_upd e _ (ws := vs ++ ws) (by simp) (i.append i') (xs := xs)
end
end Mine

-- ================ Sld ================
namespace Mine

def CanRaise (prog : Program) (w : World) (A : Around) (ctx : Value) (s : Shared) : Prop :=
  ∀ E' : Value → Shared → Prop, (∀ e s', Mk0 s e "IndexError" ctx s' → E' (.ref e) s') → Raises prog w A E' "list index out of range" s

theorem KF.other {fs : List Addr} {s₀ s : Shared} {a : Addr} {h' : Heap} {tk : Nat} (x : KF fs s₀ s) (ha : s₀.heap.get? a = none) (hs : Heap.SameBut a s.heap h') : KF fs s₀ { s with heap := h', toks := tk } := by
  obtain ⟨h, t, rfl, k, u⟩ := x
  have ne : ∀ b o, s₀.heap.get? b = some o → b ≠ a := fun b o q r => by rw [r, ha] at q; cases q
  refine ⟨h', tk, rfl, fun b o hb q => hs.extBut b o (ne b o q) (k b o hb q), fun b o q hn => ?_⟩
  obtain ⟨sl, r⟩ := u b o q hn
  exact ⟨sl, hs.extBut b _ (ne b o q) r⟩
theorem KF.toks {fs : List Addr} {s₀ s : Shared} (x : KF fs s₀ s) (t : Nat) : KF fs s₀ { s with toks := t } := by
  obtain ⟨h, t', rfl, k, u⟩ := x
  exact ⟨h, t, rfl, k, u⟩

section
variable {prog : Program} {w : World} {A : Around} {E : Value → Shared → Prop} {s s' : Shared} {env : Env} {outer : List Env} {m : Str → Option Value} {mg mb : Str → Option Value}

theorem canRaise_none (hh : A.handled = none) : CanRaise prog w A .none s := fun _ h => raises_none hh h
theorem canRaise_under {e₁ : Addr} {o₁ : Obj} {t₁ tb₁ : Value} (hh : A.handled = some (.ref e₁)) (he₁ : s.heap.get? e₁ = some o₁) (hd₁ : o₁.data = .fields #[t₁, tb₁, .none, .none, .bool false, .none]) : CanRaise prog w A (.ref e₁) s :=
  fun _ h => raises_under hh he₁ hd₁ h

theorem skipW {X I V : Str} {p1 p2 p3 p4 p5 p6 : Pos} {body : List Stmt} {l : Addr} {xs : List Int} {k : Nat} {t u : Tok} {v : Int} {ctx : Value} {Q : Flow → Shared → Prop}
    (hfr : A.frames = some (env :: outer)) (hfs : Frs s.heap (env :: outer)) (hf : env.frame = some env.locals)
    (hn : s.heap.Ns env.locals m) (hX : m X = some (.ref l)) (hL : Li s.heap l xs) (hI : m I = some (.int (k : Nat) t)) (hV : m V = some (.int v u)) (hk : k ≤ 1000) (hne : ∀ x, xs[k]? = some x → x ≠ v)
    (hin : k < xs.length → Q .next s) (hcr : CanRaise prog w A ctx s)
    (hout : xs.length ≤ k → ∀ e s', Rs (frs (env :: outer)) s e "IndexError" ctx (rawInt env.locals) s' → E (.ref e) s')
    (ek : env.scope.kind = .function := by kernel_rfl) (kX : env.kindOf X = some .local := by kernel_rfl) (kI : env.kindOf I = some .local := by kernel_rfl) (kV : env.kindOf V = some .local := by kernel_rfl)
    (dX : (X == ("__debug__" : Str)) = false := by kernel_rfl) (dI : (I == ("__debug__" : Str)) = false := by kernel_rfl) (dV : (V == ("__debug__" : Str)) = false := by kernel_rfl) :
    wpAny (model prog w) A (exec (.While (.Compare (.Subscript (.Name X p1) (.Name I p2) p3) [.Eq] [.Name V p4] p5) body [] p6) env) Q E s := by
  refine wpAny_While (codeAny_whileLoop (fun n s' => n = 0 ∧ s' = s) (fun n s' hI' => ?_) 0 ⟨rfl, rfl⟩)
  obtain ⟨rfl, rfl⟩ := hI'
  refine wpAny_isTrue_Compare1 (Subscript_ (nL hn hX (nL hn hI ?_ ek kI dI) ek kX dX))
  by_cases hlt : k < xs.length
  · have hx : xs[k]? = some xs[k] := List.getElem?_eq_getElem hlt
    refine li_sub (x := xs[k]) hL (by omega) (by omega) (by simpa using hx) fun u' => ?_
    refine nL hn hV ?_ ek kV dV
    refine eq_int (wpAny_truthy_bool ?_)
    have hb : (xs[k] == v) = false := by
      have := hne _ hx
      simpa using this
    rw [hb]
    exact wpAny_execs_nil (hin hlt)
  · refine sub_out hL (by omega) (by omega) (hcr _ fun e s₁ mk => ?_)
    exact note_new hfr hfs hf mk fun s₂ rs => came_back hf rs fun s₃ rs₃ => hout (by omega) e s₃ rs₃

theorem ex_incr {I : Str} {p p' pos : Pos} {c} {k : Int} {t : Tok} {Q : Flow → Shared → Prop} (hn : s.heap.Ns env.locals m) (hI : m I = some (.int k t))
    (h : ∀ h' tk u, h'.Ns env.locals (upd m I (.int (k + 1) u)) → Heap.SameBut env.locals s.heap h' → Q .next { s with heap := h', toks := tk })
    (ek : env.scope.kind = .function := by kernel_rfl) (kI : env.kindOf I = some .local := by kernel_rfl) (hp : (env.scope.kind == .class || (env.scope.kind == .module && env.locals != env.globals)) = false := by kernel_rfl) :
    wpAny (model prog w) A (exec (.AugAssign (.Name I p) .Add (.Constant (.int 1) c p') pos) env) Q E s :=
  wpAny_AugAssign_Name (wpAny_loadName_local ek kI hn hI (cint (wpAny_iadd_int (st_local hn (fun h' tk hn' hs' => h h' tk _ hn' hs') kI hp))))

-- ================= sorted_list_difference =================
structure Ss (env : Env) (outer : List Env) (s₀ : Shared) (l1 l2 d1 d2 : Addr) (xs ys : List Int) : Prop where
  fL : s₀.heap.get? env.locals = none
  f1 : s₀.heap.get? d1 = none
  f2 : s₀.heap.get? d2 = none
  n12 : d1 ≠ d2
  l1 : Li s₀.heap l1 xs
  l2 : Li s₀.heap l2 ys
  fr : Frs s₀.heap outer
  ef : env.frame = some env.locals
  ek : env.scope.kind ≠ .module
structure Sd (env : Env) (outer : List Env) (s₀ : Shared) (l1 l2 d1 d2 : Addr) (m : Str → Option Value) (ms us : List Int) (s : Shared) : Prop where
  kf : KF (frs outer) s₀ s
  ns : s.heap.Ns env.locals m
  me : m "expected" = some (.ref l1)
  ma : m "actual" = some (.ref l2)
  mm : m "missing" = some (.ref d1)
  mu : m "unexpected" = some (.ref d2)
  d1 : Li s.heap d1 ms
  d2 : Li s.heap d2 us

variable {s₀ : Shared} {l1 l2 d1 d2 : Addr} {xs ys ms us : List Int}

theorem Sd.fs (S : Ss env outer s₀ l1 l2 d1 d2 xs ys) (x : Sd env outer s₀ l1 l2 d1 d2 m ms us s) : Frs s.heap (env :: outer) := ⟨S.ek, ⟨_, m, S.ef, x.ns⟩, S.fr.up x.kf.slots⟩
theorem Sd.l1' (S : Ss env outer s₀ l1 l2 d1 d2 xs ys) (x : Sd env outer s₀ l1 l2 d1 d2 m ms us s) : Li s.heap l1 xs := x.kf.li S.l1 (S.fr.off_li S.l1)
theorem Sd.l2' (S : Ss env outer s₀ l1 l2 d1 d2 xs ys) (x : Sd env outer s₀ l1 l2 d1 d2 m ms us s) : Li s.heap l2 ys := x.kf.li S.l2 (S.fr.off_li S.l2)
theorem Sd.tok (x : Sd env outer s₀ l1 l2 d1 d2 m ms us s) (t : Nat) : Sd env outer s₀ l1 l2 d1 d2 m ms us { s with toks := t } := { x with kf := x.kf.toks t }
theorem Sd.store (S : Ss env outer s₀ l1 l2 d1 d2 xs ys) (x : Sd env outer s₀ l1 l2 d1 d2 m ms us s) {n : Str} {v : Value} {h' : Heap} {tk : Nat} (hn : h'.Ns env.locals (upd m n v)) (hs : Heap.SameBut env.locals s.heap h')
    (h1 : "expected" ≠ n) (h2 : "actual" ≠ n) (h3 : "missing" ≠ n) (h4 : "unexpected" ≠ n) : Sd env outer s₀ l1 l2 d1 d2 (upd m n v) ms us { s with heap := h', toks := tk } where
  kf := x.kf.other S.fL hs
  ns := hn
  me := (upd_ne h1).trans x.me
  ma := (upd_ne h2).trans x.ma
  mm := (upd_ne h3).trans x.mm
  mu := (upd_ne h4).trans x.mu
  d1 := x.d1.at fun _ e => same_get hs (ns_li_ne x.ns x.d1) e
  d2 := x.d2.at fun _ e => same_get hs (ns_li_ne x.ns x.d2) e
theorem Sd.app1 (S : Ss env outer s₀ l1 l2 d1 d2 xs ys) (x : Sd env outer s₀ l1 l2 d1 d2 m ms us s) {ms' : List Int} {h' : Heap} {tk : Nat} (hl : Li h' d1 ms') (hs : Heap.SameBut d1 s.heap h') :
    Sd env outer s₀ l1 l2 d1 d2 m ms' us { s with heap := h', toks := tk } where
  kf := x.kf.other S.f1 hs
  ns := x.ns.sameBut hs (ns_li_ne x.ns x.d1).symm
  me := x.me
  ma := x.ma
  mm := x.mm
  mu := x.mu
  d1 := hl
  d2 := x.d2.at fun _ e => same_get hs S.n12.symm e
theorem Sd.app2 (S : Ss env outer s₀ l1 l2 d1 d2 xs ys) (x : Sd env outer s₀ l1 l2 d1 d2 m ms us s) {us' : List Int} {h' : Heap} {tk : Nat} (hl : Li h' d2 us') (hs : Heap.SameBut d2 s.heap h') :
    Sd env outer s₀ l1 l2 d1 d2 m ms us' { s with heap := h', toks := tk } where
  kf := x.kf.other S.f2 hs
  ns := x.ns.sameBut hs (ns_li_ne x.ns x.d2).symm
  me := x.me
  ma := x.ma
  mm := x.mm
  mu := x.mu
  d1 := x.d1.at fun _ e => same_get hs S.n12 e
  d2 := hl
theorem Sd.kept (S : Ss env outer s₀ l1 l2 d1 d2 xs ys) (x : Sd env outer s₀ l1 l2 d1 d2 m ms us s) (k : KF (frs (env :: outer)) s s') : Sd env outer s₀ l1 l2 d1 d2 m ms us s' where
  kf := by
    obtain ⟨h, t, rfl, k0, u0⟩ := x.kf
    obtain ⟨h', t', rfl, k1, u1⟩ := k
    refine ⟨h', t', rfl, fun b o hb q => k1 b o (fun hm => ?_) (k0 b o hb q), u0.trans u1⟩
    simp only [frs, List.filterMap_cons, S.ef] at hm
    rcases List.mem_cons.mp hm with rfl | hm
    · rw [S.fL] at q; cases q
    · exact hb hm
  ns := k.ns x.ns
  me := x.me
  ma := x.ma
  mm := x.mm
  mu := x.mu
  d1 := k.li x.d1 ((x.fs S).off_li x.d1)
  d2 := k.li x.d2 ((x.fs S).off_li x.d2)

/-- the math of a turn -/
structure Inv (xs ys : List Int) (i j : Nat) (ms us : List Int) : Prop where
  hi : i ≤ xs.length
  hj : j ≤ ys.length
  hm : ms = (xs.take i).filter (fun x => decide (x ∉ ys))
  hu : us = (ys.take j).filter (fun y => decide (y ∉ xs))
  below : ∀ x ∈ xs.take i, ∀ y ∈ ys.drop j, x < y
  above : ∀ y ∈ ys.take j, ∀ x ∈ xs.drop i, y < x

theorem take_succ_some {l : List Int} {i : Nat} {x : Int} (h : l[i]? = some x) : l.take (i + 1) = l.take i ++ [x] := by
  rw [List.take_add_one, h]; rfl
theorem drop_some {l : List Int} {i : Nat} {x : Int} (h : l[i]? = some x) : l.drop i = x :: l.drop (i + 1) := by
  obtain ⟨hl, rfl⟩ := List.getElem?_eq_some_iff.mp h
  exact List.drop_eq_getElem_cons hl
theorem split_lt {l : List Int} (hl : l.Pairwise (· < ·)) (i : Nat) : ∀ a ∈ l.take i, ∀ b ∈ l.drop i, a < b := by
  have h : (l.take i ++ l.drop i).Pairwise (· < ·) := by rw [List.take_append_drop]; exact hl
  exact (List.pairwise_append.mp h).2.2
theorem mem_split {l : List Int} (i : Nat) {a : Int} (h : a ∈ l) : a ∈ l.take i ∨ a ∈ l.drop i := by
  rw [← List.take_append_drop i l] at h
  exact List.mem_append.mp h

theorem inv_start : Inv xs ys 0 0 [] [] := ⟨Nat.zero_le _, Nat.zero_le _, rfl, rfl, by simp, by simp⟩
theorem Inv.swap {i j : Nat} (v : Inv xs ys i j ms us) : Inv ys xs j i us ms := ⟨v.hj, v.hi, v.hu, v.hm, v.above, v.below⟩
theorem Inv.lt {i j : Nat} {x y : Int} (hx : xs.Pairwise (· < ·)) (v : Inv xs ys i j ms us) (ex : xs[i]? = some x) (ey : ys[j]? = some y) (h : x < y) (hy : ys.Pairwise (· < ·)) : Inv xs ys (i + 1) j (ms ++ [x]) us := by
  have hd := drop_some ex
  have hdy := drop_some ey
  have hlt : i < xs.length := (List.getElem?_eq_some_iff.mp ex).1
  have hyj : ∀ b ∈ ys.drop j, y ≤ b := fun b hb => by
    rw [hdy] at hb
    rcases List.mem_cons.mp hb with rfl | hb
    · exact Int.le_refl _
    · have := split_lt hy (j + 1) y (by rw [take_succ_some ey]; simp) b hb
      omega
  have hxn : x ∉ ys := fun hm => by
    rcases mem_split j hm with hm | hm
    · have := v.above x hm x (by rw [hd]; simp)
      omega
    · have := hyj x hm
      omega
  refine ⟨hlt, v.hj, ?_, v.hu, ?_, ?_⟩
  · rw [take_succ_some ex, List.filter_append, v.hm]
    simp [hxn]
  · intro a ha b hb
    rw [take_succ_some ex] at ha
    rcases List.mem_append.mp ha with ha | ha
    · exact v.below a ha b hb
    · obtain rfl := List.mem_singleton.mp ha
      have := hyj b hb
      omega
  · intro b hb a ha
    exact v.above b hb a (by rw [hd]; exact List.mem_cons_of_mem _ ha)
theorem Inv.gt {i j : Nat} {x y : Int} (hx : xs.Pairwise (· < ·)) (v : Inv xs ys i j ms us) (ex : xs[i]? = some x) (ey : ys[j]? = some y) (h : y < x) (hy : ys.Pairwise (· < ·)) : Inv xs ys i (j + 1) ms (us ++ [y]) :=
  (v.swap.lt hy ey ex h hx).swap
theorem Inv.eq {i j : Nat} {x : Int} (hx : xs.Pairwise (· < ·)) (v : Inv xs ys i j ms us) (ex : xs[i]? = some x) (ey : ys[j]? = some x) (hy : ys.Pairwise (· < ·)) : Inv xs ys (i + 1) (j + 1) ms us := by
  have hd := drop_some ex
  have hdy := drop_some ey
  refine ⟨(List.getElem?_eq_some_iff.mp ex).1, (List.getElem?_eq_some_iff.mp ey).1, ?_, ?_, ?_, ?_⟩
  · rw [take_succ_some ex, List.filter_append, v.hm]
    simp [List.mem_of_getElem? ey]
  · rw [take_succ_some ey, List.filter_append, v.hu]
    simp [List.mem_of_getElem? ex]
  · intro a ha b hb
    have hb' : x < b := split_lt hy (j + 1) x (by rw [take_succ_some ey]; simp) b hb
    rw [take_succ_some ex] at ha
    rcases List.mem_append.mp ha with ha | ha
    · exact v.below a ha b (by rw [hdy]; exact List.mem_cons_of_mem _ hb)
    · obtain rfl := List.mem_singleton.mp ha
      exact hb'
  · intro b hb a ha
    have ha' : x < a := split_lt hx (i + 1) x (by rw [take_succ_some ex]; simp) a ha
    rw [take_succ_some ey] at hb
    rcases List.mem_append.mp hb with hb | hb
    · exact v.above b hb a (by rw [hd]; exact List.mem_cons_of_mem _ ha)
    · obtain rfl := List.mem_singleton.mp hb
      exact ha'
theorem filter_rest {xs ys : List Int} {i : Nat} (h : ∀ x ∈ xs.drop i, x ∉ ys) : (xs.take i).filter (fun x => decide (x ∉ ys)) ++ xs.drop i = xs.filter (fun x => decide (x ∉ ys)) := by
  have e : (xs.drop i).filter (fun x => decide (x ∉ ys)) = xs.drop i := List.filter_eq_self.mpr fun x hx => by simpa using h x hx
  conv => rhs; rw [← List.take_append_drop i xs, List.filter_append, e]
theorem Inv.fin {i j : Nat} (hx : xs.Pairwise (· < ·)) (v : Inv xs ys i j ms us) (hy : ys.Pairwise (· < ·)) (he : i = xs.length ∨ j = ys.length) :
    ms ++ xs.drop i = xs.filter (fun x => decide (x ∉ ys)) ∧ us ++ ys.drop j = ys.filter (fun y => decide (y ∉ xs)) := by
  rw [v.hm, v.hu]
  refine ⟨filter_rest fun x hx' hm => ?_, filter_rest fun y hy' hm => ?_⟩
  · rcases he with rfl | rfl
    · simp at hx'
    · rw [← List.take_length (l := ys)] at hm
      have := v.above x hm x hx'
      omega
  · rcases he with rfl | rfl
    · rw [← List.take_length (l := xs)] at hm
      have := v.below y hm y hy'
      omega
    · simp at hy'

-- ================= slices =================
theorem li_from {value lowerE : Expr} {p pos : Pos} {Q : Value → Shared → Prop}
    (h : wpAny (model prog w) A (eval value env) (fun o s₁ => wpAny (model prog w) A (eval lowerE env) (fun vl s₂ => ∃ l xs k u, o = .ref l ∧ vl = .int ((k : Nat) : Int) u ∧ Li s₂.heap l xs ∧ xs.length ≤ 1000000 ∧
      ∀ D s', Keeps s₂ s' → s₂.heap.get? D = none → Li s'.heap D (xs.drop k) → Q (.ref D) s') E s₁) E s)
    (ht : ∀ o r, letTemporaryGo value o r = pure () := by intro _ _; rfl) :
    wpAny (model prog w) A (eval (.Subscript value (.Slice (some lowerE) none none p) pos) env) Q E s := by
  refine wpAny_Subscript_list_slice (wpAny_mono h (fun o s₁ h₁ => wpAny_evalPart_some (wpAny_mono h₁ (fun vl s₂ h₂ => wpAny_evalPart_none ?_) fun _ _ q => q)) fun _ _ q => q) ht
  obtain ⟨l, xs, k, u, rfl, rfl, hl, hz, hQ⟩ := h₂
  obtain ⟨vs, hli, hi⟩ := hl.isList
  have hline := sizeLine_eq
  refine ⟨l, _, some ((k : Nat) : Int), none, rfl, hli, by simp [hi.length]; omega, .int _ _, .none, hQ _ _ ⟨_, _, rfl, fun b o e => Heap.get?_push_of_some _ (Heap.get?_push_of_some _ e)⟩ (fresh_size (Nat.le_succ _)) ?_⟩
  rw [slicePick_from']
  have := Li.new (h := s₂.heap.push { cls := .type "slice", data := .fields #[.int ((k : Nat) : Int) u, .none, .none] }) (hi.drop k)
  rw [Heap.size_push] at this
  exact this
theorem li_upto {value upperE : Expr} {p pos : Pos} {Q : Value → Shared → Prop}
    (h : wpAny (model prog w) A (eval value env) (fun o s₁ => wpAny (model prog w) A (eval upperE env) (fun vl s₂ => ∃ l vs xs k u, o = .ref l ∧ vl = .int ((k : Nat) : Int) u ∧ s₂.heap.IsList l (List.toArray vs) ∧ IntsAre vs xs ∧ xs.length ≤ 1000000 ∧
      ∀ D s', Keeps s₂ s' → s₂.heap.get? D = none → Li s'.heap D (xs.take k) → Q (.ref D) s') E s₁) E s)
    (ht : ∀ o r, letTemporaryGo value o r = pure () := by intro _ _; rfl) :
    wpAny (model prog w) A (eval (.Subscript value (.Slice none (some upperE) none p) pos) env) Q E s := by
  refine wpAny_Subscript_list_slice (wpAny_mono h (fun o s₁ h₁ => wpAny_evalPart_none (wpAny_evalPart_some (wpAny_mono h₁ (fun vl s₂ h₂ => ?_) fun _ _ q => q))) fun _ _ q => q) ht
  obtain ⟨l, vs, xs, k, u, rfl, rfl, hli, hi, hz, hQ⟩ := h₂
  have hline := sizeLine_eq
  refine ⟨l, _, none, some ((k : Nat) : Int), rfl, hli, by simp [hi.length]; omega, .none, .int _ _, hQ _ _ ⟨_, _, rfl, fun b o e => Heap.get?_push_of_some _ (Heap.get?_push_of_some _ e)⟩ (fresh_size (Nat.le_succ _)) ?_⟩
  rw [slicePick_upto']
  have := Li.new (h := s₂.heap.push { cls := .type "slice", data := .fields #[.none, .int ((k : Nat) : Int) u, .none] }) (hi.take k)
  rw [Heap.size_push] at this
  exact this
end
end Mine

-- ================ Sld2 ================
namespace Mine
section
variable {prog : Program} {w : World} {A : Around} {E : Value → Shared → Prop} {s s' : Shared} {m : Str → Option Value} {mg mb : Str → Option Value} {outer : List Env}
variable {s₀ : Shared} {l1 l2 d1 d2 : Addr} {xs ys ms us : List Int}

abbrev envS (pm cd : Value) (L : Addr) : Env := callEnvC (fdX (stAt 13) .none .none pm cd) L 102

def bodyAt (k i : Nat) : Stmt := ((bodyOf (stAt k))[i]?).getD (.Pass default)
def whileBody : Stmt → List Stmt
  | .While _ b _ _ => b
  | _ => []
def tryBody : Stmt → List Stmt
  | .Try b _ _ _ _ => b
  | _ => []
def tryHands : Stmt → List ExceptHandler
  | .Try _ h _ _ _ => h
  | _ => []
def sldTry : Stmt := ((whileBody (bodyAt 13 3))[0]?).getD (.Pass default)

theorem sld_handler {pm cd : Value} {L e : Addr} {ctx : Value} {i j : Nat} {t u : Tok} {Q : Flow → Shared → Prop} (hfr : A.frames = some (envS pm cd L :: outer)) (S : Ss (envS pm cd L) outer s₀ l1 l2 d1 d2 xs ys)
    (hg : s₀.heap.Ns mainGlobals mg) (hb : s₀.heap.Ns builtinsNs mb) (gi : mg "IndexError" = none) (bi : mb "IndexError" = some (.type "IndexError"))
    (hx : xs.Pairwise (· < ·)) (hy : ys.Pairwise (· < ·)) (hxl : xs.length ≤ 1000) (hyl : ys.length ≤ 1000)
    (x : Sd (envS pm cd L) outer s₀ l1 l2 d1 d2 m ms us s) (hi : m "i" = some (.int ((i : Nat) : Int) t)) (hj : m "j" = some (.int ((j : Nat) : Int) u)) (v : Inv xs ys i j ms us) (he : i = xs.length ∨ j = ys.length)
    (fl : Mk0 s e "IndexError" ctx s' ∨ Rs (frs (envS pm cd L :: outer)) s e "IndexError" ctx (rawInt L) s')
    (hQ : ∀ m' s'', Sd (envS pm cd L) outer s₀ l1 l2 d1 d2 m' (xs.filter fun x => decide (x ∉ ys)) (ys.filter fun y => decide (y ∉ xs)) s'' → Q .brk s'') :
    wpAny (model prog w) A (noteFrame (.ref e) (envS pm cd L)) (fun _ s₂ => wpAny (model prog w) A (setFlight (.ref e) none) (fun _ s₃ => wpAny (model prog w) A (handleBy (.ref e) (envS pm cd L) (tryHands sldTry)) Q E s₃) E s₂) E s' := by
  have note : ∀ {Q' : Unit → Shared → Prop}, (∀ s'', Rs (frs (envS pm cd L :: outer)) s e "IndexError" ctx (rawInt L) s'' → Q' () s'') → wpAny (model prog w) A (noteFrame (.ref e) (envS pm cd L)) Q' E s' := fun {Q'} k => by
    rcases fl with mk | rs
    · exact note_new hfr (x.fs S) S.ef mk k
    · exact note_again S.ef rs (k _ rs)
  refine note fun s₂ r₂ => set_flight (fo := none) r₂ fun s₃ r₃ => ?_
  have x₃ := x.kept S r₃.kf
  show wpAny (model prog w) A (handleBy (.ref e) (envS pm cd L) [.ExceptHandler (some (.Name "IndexError" _)) none (_ :: _) _]) Q E s₃
  refine wpAny_handleBy_builtin (X := "IndexError") (T := "IndexError") (b := true) F.isExc_IndexError F.notTuple_IndexError (by rw [isSubtype_type]; kernel_rfl) ?_
  refine nB (x₃.kf.ns hg) (x₃.kf.ns hb) gi bi ?_
  refine ⟨rfl, ?_, ?_⟩
  · obtain ⟨_, _, ob, tt, T, oT, ts, h1, h2, _⟩ := r₃
    exact ⟨ob, h1, h2⟩
  rw [if_pos rfl]
  refine set_flight (fo := none) r₃ fun s₄ r₄ => ?_
  have x₄ := x.kept S r₄.kf
  clear note
  refine wpAny_execs_cons (ex_extend x₄.ns x₄.mm ⟨ms, x₄.d1⟩ rfl ?_ rfl)
  refine li_from (nL x₄.ns x₄.me (nL x₄.ns hi ?_))
  have hml : ms.length ≤ 1000 := by rw [v.hm]; exact Nat.le_trans (List.length_filter_le _ _) (Nat.le_trans (List.length_take_le _ _) (Nat.le_trans v.hi hxl))
  have hul : us.length ≤ 1000 := by rw [v.hu]; exact Nat.le_trans (List.length_filter_le _ _) (Nat.le_trans (List.length_take_le _ _) (Nat.le_trans v.hj hyl))
  refine ⟨l1, xs, i, t, rfl, rfl, x₄.l1' S, by omega, fun D s₅ k₅ _ hD => ?_⟩
  have x₅ := x₄.kept S (.of_kp k₅)
  refine ⟨D, ms, xs.drop i, rfl, x₅.d1, hD, by rw [List.length_drop]; omega, fun h₆ hl₆ hs₆ => ?_⟩
  have x₆ := x₅.app1 S (tk := s₅.toks) hl₆ hs₆
  refine wpAny_execs_cons (ex_extend x₆.ns x₆.mu ⟨us, x₆.d2⟩ rfl ?_ rfl)
  refine li_from (nL x₆.ns x₆.ma (nL x₆.ns hj ?_))
  refine ⟨l2, ys, j, u, rfl, rfl, x₆.l2' S, by omega, fun D' s₇ k₇ _ hD' => ?_⟩
  have x₇ := x₆.kept S (.of_kp k₇)
  refine ⟨D', us, ys.drop j, rfl, x₇.d2, hD', by rw [List.length_drop]; omega, fun h₈ hl₈ hs₈ => ?_⟩
  have x₈ := x₇.app2 S (tk := s₇.toks) hl₈ hs₈
  refine wpAny_execs_cons (wpAny_Break ?_)
  have := v.fin hx hy he
  rw [this.1, this.2] at x₈
  exact hQ _ _ x₈

theorem KF.none_back {s₀ s : Shared} {e : Addr} (k : KF (frs outer) s₀ s) (hf : Frs s₀.heap outer) (h : s.heap.get? e = none) : s₀.heap.get? e = none := by
  cases q : s₀.heap.get? e with
  | none => rfl
  | some o =>
    by_cases hm : e ∈ frs outer
    · obtain ⟨m, hn⟩ := hf.mem hm
      obtain ⟨es, ep, hd⟩ := ns_data hn q
      obtain ⟨sl, r⟩ := k.slots e o q fun vs z => by rw [hd] at z; cases z
      rw [h] at r; cases r
    · rw [k.get hm q] at h; cases h

theorem rebase {env : Env} {e : Addr} {ctx fl : Value} {fs : List Addr} (_S : Ss env outer s₀ l1 l2 d1 d2 xs ys) (x : Sd env outer s₀ l1 l2 d1 d2 m ms us s) (he₀ : s₀.heap.get? e = none)
    (hx : ∃ ob t T oT ts, s.heap.get? e = some ob ∧ ob.cls = .type "IndexError" ∧ ob.data = .fields #[t, .ref T, ctx, .none, .bool false, .none] ∧ s₀.heap.get? T = none ∧ T ≠ e ∧ s.heap.get? T = some oT ∧ oT.data = .fields ts ∧ ts[3]? = some fl) :
    ∃ s_b, Sd env outer s₀ l1 l2 d1 d2 m ms us s_b ∧ Rs fs s_b e "IndexError" ctx fl s := by
  obtain ⟨ob, t, T, oT, ts, h1, h2, h3, h4, h5, h6, h7, h8⟩ := hx
  have neF : ∀ {b : Addr} {o : Obj}, s.heap.get? b = some o → (∀ vs, o.data ≠ .fields vs) → b ∉ [e, T] := fun {b o} q hn hm => by
    simp only [List.mem_cons, List.not_mem_nil, or_false] at hm
    rcases hm with rfl | rfl
    · rw [h1] at q; cases q; exact hn _ h3
    · rw [h6] at q; cases q; exact hn _ h7
  have li : ∀ {d : Addr} {ns : List Int}, Li s.heap d ns → Li (hideAll s.heap [e, T]) d ns := fun {d ns} hl => by
    obtain ⟨vs, n, q, i⟩ := hl
    exact ⟨vs, n, hideAll_get _ q (neF q fun vs z => by cases z), i⟩
  refine ⟨{ s with heap := hideAll s.heap [e, T] }, ⟨?_, ?_, x.me, x.ma, x.mm, x.mu, li x.d1, li x.d2⟩, ⟨⟨s.heap, s.toks, rfl, fun b o _ q => of_hideAll _ q, fun b o q _ => ⟨o.slots, of_hideAll _ q⟩⟩, hideAll_none _ (by simp), ?_⟩⟩
  · obtain ⟨h, tk, rfl, k, u⟩ := x.kf
    have ne : ∀ b o, s₀.heap.get? b = some o → b ∉ [e, T] := fun b o q hm => by
      simp only [List.mem_cons, List.not_mem_nil, or_false] at hm
      rcases hm with rfl | rfl
      · rw [he₀] at q; cases q
      · rw [h4] at q; cases q
    refine ⟨_, tk, rfl, fun b o hb q => hideAll_get _ (k b o hb q) (ne b o q), fun b o q hn => ?_⟩
    obtain ⟨sl, r⟩ := u b o q hn
    exact ⟨sl, hideAll_get _ r (ne b o q)⟩
  · obtain ⟨o, es, ep, q, hd, r⟩ := x.ns
    exact ⟨o, es, ep, hideAll_get _ q (neF q fun vs z => by rw [hd] at z; cases z), hd, r⟩
  · exact ⟨ob, t, T, oT, ts, h1, h2, h3, hideAll_none _ (by simp), h5, h6, h7, h8⟩

theorem sld_try {pm cd : Value} {L : Addr} {i j : Nat} {t u : Tok} {Q : Flow → Shared → Prop} (hfr : A.frames = some (envS pm cd L :: outer)) (hh : A.handled = none) (S : Ss (envS pm cd L) outer s₀ l1 l2 d1 d2 xs ys)
    (hg : s₀.heap.Ns mainGlobals mg) (hb : s₀.heap.Ns builtinsNs mb) (gi : mg "IndexError" = none) (bi : mb "IndexError" = some (.type "IndexError"))
    (hx : xs.Pairwise (· < ·)) (hy : ys.Pairwise (· < ·)) (hxl : xs.length ≤ 900) (hyl : ys.length ≤ 900)
    (x : Sd (envS pm cd L) outer s₀ l1 l2 d1 d2 m ms us s) (hi : m "i" = some (.int ((i : Nat) : Int) t)) (hj : m "j" = some (.int ((j : Nat) : Int) u)) (v : Inv xs ys i j ms us)
    (hN : ∀ m' ms' us' i' j' t' u' s'', Sd (envS pm cd L) outer s₀ l1 l2 d1 d2 m' ms' us' s'' → m' "i" = some (.int ((i' : Nat) : Int) t') → m' "j" = some (.int ((j' : Nat) : Int) u') → Inv xs ys i' j' ms' us' →
      i ≤ i' → j ≤ j' → i + j < i' + j' → Q .next s'')
    (hQ : ∀ m' s'', Sd (envS pm cd L) outer s₀ l1 l2 d1 d2 m' (xs.filter fun x => decide (x ∉ ys)) (ys.filter fun y => decide (y ∉ xs)) s'' → Q .brk s'') :
    wpAny (model prog w) A (exec sldTry (envS pm cd L)) Q E s := by
  have hmlen := v.hi
  have hylen := v.hj
  have hml : ms.length ≤ 900 := by rw [v.hm]; exact Nat.le_trans (List.length_filter_le _ _) (Nat.le_trans (List.length_take_le _ _) (Nat.le_trans v.hi hxl))
  have hul : us.length ≤ 900 := by rw [v.hu]; exact Nat.le_trans (List.length_filter_le _ _) (Nat.le_trans (List.length_take_le _ _) (Nat.le_trans v.hj hyl))
  have hline := sizeLine_eq
  have H : ∀ {m ms us s} {ctx : Value} {i j : Nat} {t u : Tok} {e s'}, Sd (envS pm cd L) outer s₀ l1 l2 d1 d2 m ms us s → m "i" = some (.int ((i : Nat) : Int) t) → m "j" = some (.int ((j : Nat) : Int) u) → Inv xs ys i j ms us → (i = xs.length ∨ j = ys.length) →
      (Mk0 s e "IndexError" ctx s' ∨ Rs (frs (envS pm cd L :: outer)) s e "IndexError" ctx (rawInt L) s') → _ := fun x hi hj v he fl =>
    sld_handler (prog := prog) (w := w) (E := E) hfr S hg hb gi bi hx hy (by omega) (by omega) x hi hj v he fl hQ
  show wpAny _ A (exec (.Try (_ :: _) (_ :: _) [] [] _) _) Q E s
  refine wpAny_Try_except ?_
  refine wpAny_execs_cons (wpAny_Assign_Name (Subscript_ (nL x.ns x.me (nL x.ns hi ?_))) (by kernel_rfl))
  by_cases hil : i < xs.length
  case neg => exact sub_out (x.l1' S) (by omega) (by omega) (raises_none hh fun e s₁ mk => H x hi hj v (.inl (by omega)) (.inl mk))
  have ex : xs[i]? = some xs[i] := List.getElem?_eq_getElem hil
  generalize xs[i] = ei at ex
  refine li_sub (x := ei) (x.l1' S) (by omega) (by omega) (by simpa using ex) fun te => ?_
  refine st_local x.ns fun h₁ tk₁ hn₁ hs₁ => ?_
  have x₁ := x.store S hn₁ hs₁ (tk := tk₁) (by decide) (by decide) (by decide) (by decide)
  have hi₁ := (upd_ne (m := m) (n := "e") (v := .int ei te) (y := "i") (by decide)).trans hi
  have hj₁ := (upd_ne (m := m) (n := "e") (v := .int ei te) (y := "j") (by decide)).trans hj
  refine wpAny_execs_cons (wpAny_Assign_Name (Subscript_ (nL x₁.ns x₁.ma (nL x₁.ns hj₁ ?_))) (by kernel_rfl))
  by_cases hjl : j < ys.length
  case neg => exact sub_out (x₁.l2' S) (by omega) (by omega) (raises_none hh fun e s₁ mk => H x₁ hi₁ hj₁ v (.inr (by omega)) (.inl mk))
  have ey : ys[j]? = some ys[j] := List.getElem?_eq_getElem hjl
  generalize ys[j] = aj at ey
  refine li_sub (x := aj) (x₁.l2' S) (by omega) (by omega) (by simpa using ey) fun ta => ?_
  refine st_local x₁.ns fun h₂ tk₂ hn₂ hs₂ => ?_
  have x₂ := x₁.store S hn₂ hs₂ (tk := tk₂) (by decide) (by decide) (by decide) (by decide)
  have hi₂ := (upd_ne (m := upd m "e" (.int ei te)) (n := "a") (v := .int aj ta) (y := "i") (by decide)).trans hi₁
  have hj₂ := (upd_ne (m := upd m "e" (.int ei te)) (n := "a") (v := .int aj ta) (y := "j") (by decide)).trans hj₁
  have he₂ : upd (upd m "e" (.int ei te)) "a" (.int aj ta) "e" = some (.int ei te) := (upd_ne (by decide)).trans upd_same
  have ha₂ : upd (upd m "e" (.int ei te)) "a" (.int aj ta) "a" = some (.int aj ta) := upd_same
  generalize upd (upd m "e" (.int ei te)) "a" (.int aj ta) = m₂ at *
  clear hn₁ hs₁ hn₂ hs₂ x₁ hi₁ hj₁ x hi hj
  refine wpAny_execs_cons (wpAny_If (wpAny_isTrue_Compare1 (nL x₂.ns he₂ (nL x₂.ns ha₂ (lt_int (wpAny_truthy_bool ?_))))))
  by_cases hlt : ei < aj
  · rw [decide_eq_true hlt]
    simp only [if_true]
    have v' := v.lt hx ex ey hlt hy
    refine wpAny_execs_cons (ex_append x₂.ns x₂.mm ⟨ms, x₂.d1⟩ rfl (nL x₂.ns he₂ ?_) rfl)
    refine ⟨ei, te, ms, rfl, x₂.d1, by omega, fun h₃ hl₃ hs₃ => ?_⟩
    have x₃ := x₂.app1 S (tk := tk₂) hl₃ hs₃
    refine wpAny_execs_cons (ex_incr x₃.ns hi₂ fun h₄ tk₄ u₄ hn₄ hs₄ => ?_)
    have x₄ := x₃.store S hn₄ hs₄ (tk := tk₄) (by decide) (by decide) (by decide) (by decide)
    have hi₄ : upd m₂ "i" (.int (((i : Nat) : Int) + 1) u₄) "i" = some (.int ((i + 1 : Nat) : Int) u₄) := upd_same
    have hj₄ : upd m₂ "i" (.int (((i : Nat) : Int) + 1) u₄) "j" = _ := (upd_ne (by decide)).trans hj₂
    have he₄ : upd m₂ "i" (.int (((i : Nat) : Int) + 1) u₄) "e" = _ := (upd_ne (by decide)).trans he₂
    refine wpAny_execs_cons (skipW (ctx := .none) hfr (x₄.fs S) S.ef x₄.ns x₄.me (x₄.l1' S) hi₄ he₄ (by omega) ?_ ?_ (canRaise_none hh) ?_)
    · intro y hy' q
      subst q
      have := split_lt hx (i + 1) y (by rw [take_succ_some ex]; simp) y (List.mem_of_getElem? (by rw [List.getElem?_drop]; simpa using hy' : (xs.drop (i + 1))[0]? = some y))
      omega
    · intro _
      exact wpAny_execs_nil (wpAny_execs_nil (wpAny_execs_nil (hN _ _ _ _ _ _ _ _ x₄ hi₄ hj₄ v' (by omega) (by omega) (by omega))))
    · intro hle e s'' rs
      exact H x₄ hi₄ hj₄ v' (.inl (by omega)) (.inr rs)
  · rw [decide_eq_false hlt]
    simp only [Bool.false_eq_true, if_false]
    refine wpAny_execs_cons (wpAny_If (wpAny_isTrue_Compare1 (nL x₂.ns he₂ (nL x₂.ns ha₂ (PyProof.Rows.gt_int (wpAny_truthy_bool ?_))))))
    by_cases hgt : aj < ei
    · rw [decide_eq_true hgt]
      simp only [if_true]
      have v' := v.gt hx ex ey hgt hy
      refine wpAny_execs_cons (ex_append x₂.ns x₂.mu ⟨us, x₂.d2⟩ rfl (nL x₂.ns ha₂ ?_) rfl)
      refine ⟨aj, ta, us, rfl, x₂.d2, by omega, fun h₃ hl₃ hs₃ => ?_⟩
      have x₃ := x₂.app2 S (tk := tk₂) hl₃ hs₃
      refine wpAny_execs_cons (ex_incr x₃.ns hj₂ fun h₄ tk₄ u₄ hn₄ hs₄ => ?_)
      have x₄ := x₃.store S hn₄ hs₄ (tk := tk₄) (by decide) (by decide) (by decide) (by decide)
      have hj₄ : upd m₂ "j" (.int (((j : Nat) : Int) + 1) u₄) "j" = some (.int ((j + 1 : Nat) : Int) u₄) := upd_same
      have hi₄ : upd m₂ "j" (.int (((j : Nat) : Int) + 1) u₄) "i" = _ := (upd_ne (by decide)).trans hi₂
      have ha₄ : upd m₂ "j" (.int (((j : Nat) : Int) + 1) u₄) "a" = _ := (upd_ne (by decide)).trans ha₂
      refine wpAny_execs_cons (skipW (ctx := .none) hfr (x₄.fs S) S.ef x₄.ns x₄.ma (x₄.l2' S) hj₄ ha₄ (by omega) ?_ ?_ (canRaise_none hh) ?_)
      · intro y hy' q
        subst q
        have := split_lt hy (j + 1) y (by rw [take_succ_some ey]; simp) y (List.mem_of_getElem? (by rw [List.getElem?_drop]; simpa using hy' : (ys.drop (j + 1))[0]? = some y))
        omega
      · intro _
        exact wpAny_execs_nil (wpAny_execs_nil (wpAny_execs_nil (wpAny_execs_nil (hN _ _ _ _ _ _ _ _ x₄ hi₄ hj₄ v' (by omega) (by omega) (by omega)))))
      · intro hle e s'' rs
        exact H x₄ hi₄ hj₄ v' (.inr (by omega)) (.inr rs)
    · rw [decide_eq_false hgt]
      simp only [Bool.false_eq_true, if_false]
      have heq : ei = aj := by omega
      subst heq
      have v' := v.eq hx ex ey hy
      refine wpAny_execs_cons (ex_incr x₂.ns hi₂ fun h₄ tk₄ u₄ hn₄ hs₄ => ?_)
      have x₄ := x₂.store S hn₄ hs₄ (tk := tk₄) (by decide) (by decide) (by decide) (by decide)
      have hi₄ : upd m₂ "i" (.int (((i : Nat) : Int) + 1) u₄) "i" = some (.int ((i + 1 : Nat) : Int) u₄) := upd_same
      have hj₄ : upd m₂ "i" (.int (((i : Nat) : Int) + 1) u₄) "j" = _ := (upd_ne (by decide)).trans hj₂
      have he₄ : upd m₂ "i" (.int (((i : Nat) : Int) + 1) u₄) "e" = _ := (upd_ne (by decide)).trans he₂
      have ha₄ : upd m₂ "i" (.int (((i : Nat) : Int) + 1) u₄) "a" = _ := (upd_ne (by decide)).trans ha₂
      generalize upd m₂ "i" (.int (((i : Nat) : Int) + 1) u₄) = m₄ at *
      have nx : ∀ y, xs[i + 1]? = some y → y ≠ ei := fun y hy' q => by
        subst q
        have := split_lt hx (i + 1) y (by rw [take_succ_some ex]; simp) y (List.mem_of_getElem? (by rw [List.getElem?_drop]; simpa using hy' : (xs.drop (i + 1))[0]? = some y))
        omega
      have ny : ∀ y, ys[j + 1]? = some y → y ≠ ei := fun y hy' q => by
        subst q
        have := split_lt hy (j + 1) y (by rw [take_succ_some ey]; simp) y (List.mem_of_getElem? (by rw [List.getElem?_drop]; simpa using hy' : (ys.drop (j + 1))[0]? = some y))
        omega
      refine wpAny_execs_cons (show wpAny _ _ (exec (.Try _ [] [] (_ :: _) _) _) _ _ _ from wpAny_Try_finally ?_)
      refine wpAny_execs_cons (skipW (ctx := .none) hfr (x₄.fs S) S.ef x₄.ns x₄.me (x₄.l1' S) hi₄ he₄ (by omega) nx ?_ (canRaise_none hh) ?_)
      · intro _
        refine wpAny_execs_nil (wpAny_execs_nil ?_)
        refine wpAny_execs_cons (ex_incr x₄.ns hj₄ fun h₅ tk₅ u₅ hn₅ hs₅ => ?_)
        have x₅ := x₄.store S hn₅ hs₅ (tk := tk₅) (by decide) (by decide) (by decide) (by decide)
        have hj₅ : upd m₄ "j" (.int (((j : Nat) : Int) + 1) u₅) "j" = some (.int ((j + 1 : Nat) : Int) u₅) := upd_same
        have hi₅ : upd m₄ "j" (.int (((j : Nat) : Int) + 1) u₅) "i" = _ := (upd_ne (by decide)).trans hi₄
        have ha₅ : upd m₄ "j" (.int (((j : Nat) : Int) + 1) u₅) "a" = _ := (upd_ne (by decide)).trans ha₄
        refine wpAny_execs_cons (skipW (ctx := .none) hfr (x₅.fs S) S.ef x₅.ns x₅.ma (x₅.l2' S) hj₅ ha₅ (by omega) ny ?_ (canRaise_none hh) ?_)
        · intro _
          exact wpAny_execs_nil (wpAny_execs_nil (wpAny_execs_nil (wpAny_execs_nil (wpAny_execs_nil (hN _ _ _ _ _ _ _ _ x₅ hi₅ hj₅ v' (by omega) (by omega) (by omega))))))
        · intro hle e s'' rs
          exact note_again S.ef rs (came_back S.ef rs fun s₆ rs₆ => H x₅ hi₅ hj₅ v' (.inr (by omega)) (.inr rs₆))
      · intro hle e s₅ r₅
        refine note_again S.ef r₅ ⟨(by intro q; cases q), note_again S.ef r₅ (set_flight (fo := none) r₅ fun s₆ r₆ => ?_)⟩
        have x₆ := x₄.kept S r₆.kf
        have he₀ := KF.none_back x₄.kf S.fr r₆.new
        obtain ⟨ob, tt, T, oT, ts, g1, g2, g3, g4, g5, g6, g7, g8⟩ := r₆.there
        have hT₀ := KF.none_back x₄.kf S.fr g4
        refine wpAny_execs_cons (ex_incr x₆.ns hj₄ fun h₇ tk₇ u₇ hn₇ hs₇ => ?_)
        have x₇ := x₆.store S hn₇ hs₇ (tk := tk₇) (by decide) (by decide) (by decide) (by decide)
        have hj₇ : upd m₄ "j" (.int (((j : Nat) : Int) + 1) u₇) "j" = some (.int ((j + 1 : Nat) : Int) u₇) := upd_same
        have hi₇ : upd m₄ "j" (.int (((j : Nat) : Int) + 1) u₇) "i" = _ := (upd_ne (by decide)).trans hi₄
        have ha₇ : upd m₄ "j" (.int (((j : Nat) : Int) + 1) u₇) "a" = _ := (upd_ne (by decide)).trans ha₄
        have neL : ∀ {b : Addr} {o : Obj} {vs : Array Value}, s₆.heap.get? b = some o → o.data = .fields vs → b ≠ (envS pm cd L).locals := fun {b o vs} q hd r => by
          subst r
          obtain ⟨es, ep, z⟩ := ns_data x₆.ns q
          rw [hd] at z; cases z
        have k1 := same_get hs₇ (neL g1 g3) g1
        have k6 := same_get hs₇ (neL g6 g7) g6
        refine wpAny_execs_cons (skipW (A := A.mark (some (.ref e))) (ctx := .ref e) hfr (x₇.fs S) S.ef x₇.ns x₇.ma (x₇.l2' S) hj₇ ha₇ (by omega) ny ?_ (canRaise_under rfl k1 g3) ?_)
        · intro _
          refine wpAny_execs_nil ?_
          obtain ⟨s_b, x_b, r_b⟩ := rebase (fs := frs (envS pm cd L :: outer)) (fl := .none) S x₇ he₀ ⟨ob, tt, T, oT, ts, k1, g2, g3, hT₀, g5, k6, g7, g8⟩
          exact pass_on S.ef r_b fun s₈ r₈ => H x_b hi₇ hj₇ v' (.inl (by omega)) (.inr r₈)
        · intro hle' e₂ s₈ r₈
          exact note_again S.ef r₈ (came_back S.ef r₈ fun s₉ r₉ => H x₇ hi₇ hj₇ v' (.inl (by omega)) (.inr r₉))

theorem ns_keeps {s s' : Shared} {a : Addr} {m : Str → Option Value} (hn : s.heap.Ns a m) (k : Keeps s s') : s'.heap.Ns a m := hn.keeps (kp_all k)

theorem sld_call {Q : Value → Shared → Prop} (W : Wd mg mb s.heap) (hd : A.depth < recursionLimit) (hh : A.handled = none) (hfr : A.frames = some outer) (hF : Frs s.heap outer)
    (h1 : Li s.heap l1 xs) (h2 : Li s.heap l2 ys) (hx : xs.Pairwise (· < ·)) (hy : ys.Pairwise (· < ·)) (hxl : xs.length ≤ 900) (hyl : ys.length ≤ 900)
    (h : ∀ D d1 d2 s', KF (frs outer) s s' → s.heap.get? D = none → s.heap.get? d1 = none → s.heap.get? d2 = none → s'.heap.get? D = some { cls := .type "tuple", data := .seq #[.ref d1, .ref d2] } →
      Li s'.heap d1 (xs.filter fun x => decide (x ∉ ys)) → Li s'.heap d2 (ys.filter fun y => decide (y ∉ xs)) → Q (.ref D) s') :
    wpAny (model prog w) A (call (.ref 102) [.ref l1, .ref l2]) Q E s := by
  obtain ⟨o, pm, cd, ho, hdt, hcd⟩ := W.sld.there
  refine wpAny_call (codeAny_call_cells (fd := fdX (stAt 13) .none .none pm cd) (body := bodyOf (stAt 13)) (binds := [("expected", .ref l1), ("actual", .ref l2)]) hd ho hdt W.lim hcd (by kernel_rfl) (by kernel_rfl) (by kernel_rfl)
    (by intro x hx; simp only [List.mem_cons, List.not_mem_nil, or_false] at hx; rcases hx with rfl | rfl <;> exact .inl (by kernel_rfl)) (fun s₁ x => ?_) (by kernel_rfl) (by kernel_rfl) (by kernel_rfl))
  have kk : Keeps s s₁ := let ⟨h', tk, e, k⟩ := x.done; ⟨h', tk, e, k⟩
  have hn₁ := x.toInCall.ns
  have hL : s.heap.get? s.heap.objs.size = none := fresh_size (Nat.le_refl _)
  clear x
  have W1 := W.keep (kp_all kk)
  generalize hm : bindL (callEnvC (fdX (stAt 13) Value.none Value.none pm cd) s.heap.objs.size 102).kindOf [(Str.ofString "expected", Value.ref l1), (Str.ofString "actual", Value.ref l2)] (fun _ => none) = m₁ at hn₁
  have me₁ : m₁ "expected" = some (.ref l1) := by subst hm; kernel_rfl
  have ma₁ : m₁ "actual" = some (.ref l2) := by subst hm; kernel_rfl
  clear hm
  have hfr' : (A.deeper (envS pm cd s.heap.objs.size)).frames = some (envS pm cd s.heap.objs.size :: outer) := by show A.frames.map _ = _; rw [hfr]; rfl
  -- i = j = 0
  refine wpAny_execs_cons (wpAny_Assign_two (cint ?_))
  refine wpAny_assign_Name (st_local hn₁ fun h₂ tk₂ hn₂ hs₂ => wpAny_assign_Name (st_local hn₂ fun h₃ tk₃ hn₃ hs₃ => ?_))
  have k₃ : KF (frs outer) s { s₁ with heap := h₃, toks := tk₃ } := ((KF.of_kp kk).other (a := s.heap.objs.size) hL hs₂ (tk := tk₂)).other hL hs₃
  clear hs₂ hs₃ hn₁ hn₂
  refine wpAny_execs_cons (wpAny_Assign_Name (List_ (args_nil ?_)) (by kernel_rfl))
  refine li_new (prog := prog) (w := w) (ns := []) .nil (by decide) fun d1 s₄ k₄ hd1 hl1 => ?_
  have k₄' := k₃.trans (.of_kp k₄)
  have hn₄ := ns_keeps hn₃ k₄
  refine st_local hn₄ fun h₅ tk₅ hn₅ hs₅ => ?_
  have k₅ := k₄'.other hL hs₅ (tk := tk₅)
  have hl1' : Li h₅ d1 [] := hl1.at fun _ e => same_get hs₅ (ns_li_ne hn₄ hl1) e
  refine wpAny_execs_cons (wpAny_Assign_Name (List_ (args_nil ?_)) (by kernel_rfl))
  refine li_new (prog := prog) (w := w) (ns := []) .nil (by decide) fun d2 s₆ k₆ hd2 hl2 => ?_
  have k₆' := k₅.trans (.of_kp k₆)
  have hn₆ := ns_keeps hn₅ k₆
  have hl1'' := hl1'.kp k₆
  refine st_local hn₆ fun h₇ tk₇ hn₇ hs₇ => ?_
  have k₇ := k₆'.other hL hs₇ (tk := tk₇)
  have f1 : s.heap.get? d1 = none := KF.none_back k₃ hF hd1
  have f2 : s.heap.get? d2 = none := KF.none_back k₅ hF hd2
  have S : Ss (envS pm cd s.heap.objs.size) outer s l1 l2 d1 d2 xs ys :=
    ⟨hL, f1, f2, fun q => (by subst q; obtain ⟨vs, n, e, _⟩ := hl1'; rw [hd2] at e; cases e), h1, h2, hF, rfl, (show (fdX (stAt 13) Value.none Value.none pm cd).scope.kind ≠ .module from (show (fdX (stAt 13) Value.none Value.none pm cd).scope.kind = .function from by kernel_rfl) ▸ (by decide))⟩
  have x₇ : Sd (envS pm cd s.heap.objs.size) outer s l1 l2 d1 d2 _ [] [] { s₆ with heap := h₇, toks := tk₇ } :=
    ⟨k₇, hn₇, ((upd_ne (by decide)).trans ((upd_ne (by decide)).trans ((upd_ne (by decide)).trans ((upd_ne (by decide)).trans me₁)))), ((upd_ne (by decide)).trans ((upd_ne (by decide)).trans ((upd_ne (by decide)).trans ((upd_ne (by decide)).trans ma₁)))),
      ((upd_ne (by decide)).trans upd_same), upd_same, hl1''.at fun _ e => same_get hs₇ (ns_li_ne hn₆ hl1'') e, hl2.at fun _ e => same_get hs₇ (ns_li_ne hn₆ hl2) e⟩
  refine wpAny_execs_cons (show wpAny _ _ (exec (.While (.Constant (.bool true) _ _) [sldTry] [] _) _) _ _ _ from wpAny_While ?_)
  refine codeAny_whileLoop (fun n s' => ∃ m ms us i j t u, Sd (envS pm cd s.heap.objs.size) outer s l1 l2 d1 d2 m ms us s' ∧ m "i" = some (.int ((i : Nat) : Int) t) ∧ m "j" = some (.int ((j : Nat) : Int) u) ∧ Inv xs ys i j ms us ∧ n = (xs.length - i) + (ys.length - j)) ?_
    ((xs.length - 0) + (ys.length - 0)) ⟨_, [], [], 0, 0, _, _, x₇, ((upd_ne (by decide)).trans ((upd_ne (by decide)).trans ((upd_ne (by decide)).trans upd_same))), ((upd_ne (by decide)).trans ((upd_ne (by decide)).trans upd_same)), inv_start, rfl⟩
  rintro n s₈ ⟨m, ms, us, i, j, t, u, x₈, hi, hj, v, rfl⟩
  refine wpAny_isTrue_value (wpAny_Constant_bool (wpAny_truthy_bool ?_))
  simp only [if_true]
  refine wpAny_execs_cons (sld_try hfr' hh S W.g W.b W.gidx W.bidx hx hy hxl hyl x₈ hi hj v ?_ ?_)
  · intro m' ms' us' i' j' t' u' s'' x' hi' hj' v' l1 l2 l3
    have := v'.hi
    have := v'.hj
    exact wpAny_execs_nil ⟨_, by omega, m', ms', us', i', j', t', u', x', hi', hj', v', rfl⟩
  · intro m' s'' x'
    refine wpAny_execs_cons (wpAny_Return_some (Tuple_ (args_cons (nL x'.ns x'.mm (args_cons (nL x'.ns x'.mu (args_nil ?_)))))))
    refine wpAny_newObj_type ?_ (by show 2 ≤ sizeLine; decide)
    have kp : Keeps s'' { s'' with heap := s''.heap.push { cls := .type "tuple", data := .seq [Value.ref d1, Value.ref d2].toArray } } := ⟨_, _, rfl, push_keep _ _⟩
    refine h _ d1 d2 _ (x'.kf.trans (.of_kp kp)) (KF.none_back x'.kf hF (fresh_size (Nat.le_refl _))) f1 f2 (Heap.get?_push_size _ rfl) (x'.d1.kp kp) (x'.d2.kp kp)
end
end Mine

-- ================ Mw ================
namespace Mine
open Builtin Builtin.ObjectAttr

def mwObj (l : Addr) : Obj := { cls := .type "method-wrapper", data := .fields #[.builtin "list.__contains__", .ref l] }

theorem type_contains : typeOf (.builtin "list.__contains__") = pure (.type "wrapper_descriptor") := by show builtinType _ = _; rw [builtinType_eq_fast]; kernel_rfl
theorem lk_wd_get : typeLookup (.type "wrapper_descriptor") "__get__" = pure (some (.builtin "wrapper_descriptor.__get__")) := by rw [typeLookup_type, builtinLookup_eq_fast]; kernel_rfl
theorem lk_wd_set : typeLookup (.type "wrapper_descriptor") "__set__" = pure none := by rw [typeLookup_type, builtinLookup_eq_fast]; kernel_rfl
theorem lk_wd_del : typeLookup (.type "wrapper_descriptor") "__delete__" = pure none := by rw [typeLookup_type, builtinLookup_eq_fast]; kernel_rfl

theorem slot_wd : Slot "wrapper_descriptor" "__get__" "wrapper_descriptor.__get__" :=
  .of (owner := "wrapper_descriptor") (n := "__get__") (by rw [typeLookup_type, builtinLookup_eq_fast]; kernel_rfl) (by decide +kernel) (by decide +kernel) (by decide +kernel)
    (by first | exact .inl (by decide +kernel) | exact .inr (by decide +kernel)) (by rw [isSubtype_type]; kernel_rfl)
theorem entry_wd : entryFor table "wrapper_descriptor.__get__" = some Builtin.«wrapper_descriptor.__get__» := entryFor_of_tree (by kernel_rfl)
theorem args_wd (a b c : Value) : argsOk "wrapper_descriptor.__get__" ⟨[a, b, c], []⟩ := by unfold argsOk; kernel_rfl
theorem sub_list_list : isSubtype (.type "list") (.type "list") = pure true := by rw [isSubtype_type]; kernel_rfl
theorem run_wd {M : Model} {A : Around} {E : Value → Shared → Prop} {s : Shared} {a : Addr} {P : Fin → Shared → Prop} (hT : s.TypeIs (.ref a) "list") (h : P (.done (.ret (.ref s.heap.objs.size))) { s with heap := s.heap.push (mwObj a) }) :
    wpAny M A (Builtin.«wrapper_descriptor.__get__» ⟨[.builtin "list.__contains__", .ref a, .type "list"], []⟩) P E s := by
  unfold Builtin.«wrapper_descriptor.__get__»
  refine wpAny_bind (wpAny_of_eq (a := (.builtin "list.__contains__", some (.ref a), some (.type "list"))) (by first | rfl | kernel_rfl) ?_)
  dsimp only
  refine wpAny_bind (m := _) ?_
  refine wpAny_bind (wpAny_of_eq (a := (Str.ofString "__contains__", Value.type "list")) (by kernel_rfl) ?_)
  refine wpAny_bind (wpAny_isInstance hT sub_list_list ?_)
  simp only [Bool.not_true, Bool.false_eq_true, if_false]
  refine wpAny_pure (wpAny_bind ?_)
  exact wpAny_newObj_type (wpAny_pure h)

theorem meets_getattribute_contains (a : Addr) (xs : Array Value) (k : Nat) (sl : Array (Option Value)) (u : Tok) :
    Meets (Builtin.«object.__getattribute__» ⟨[.ref a, .str "__contains__" u], []⟩) (fun A R s => s.heap.get? a = some { cls := .type "list", dict := none, data := .seq xs k, slots := sl } ∧ R (.ok (.ret (.ref s.heap.objs.size))) { s with heap := s.heap.push (mwObj a) }) :=
  Meets.of_wp fun prog w A R s hs => by
    obtain ⟨hp, g, d, tk, os⟩ := s
    obtain ⟨hx, hs⟩ := hs
    have hT : (⟨hp, g, d, tk, os⟩ : Shared).TypeIs (.ref a) "list" := ⟨_, hx, rfl⟩
    have f1 := F.slot_list_contains.lookup
    have f2 := type_contains
    have f3 := lk_wd_get
    have f4 := lk_wd_set
    have f5 := lk_wd_del
    unfold Builtin.«object.__getattribute__»
    repeat (any_goals (first | assumption | wp_step))
    refine codeAny_call_builtin slot_wd.plain entry_wd (slot_wd.check _ _ _ _ _ _ _ _ f2 (args_wd _ _ _) ?_)
    exact run_wd hT (wpAny_pure ⟨_, rfl, hs⟩)

theorem getAttr_contains {prog : Program} {w : World} {A : Around} {E : Value → Shared → Prop} {s : Shared} {l : Addr} {ns : List Int} {Q : Value → Shared → Prop} (hl : Li s.heap l ns)
    (h : ∀ tk, Q (.ref s.heap.objs.size) { s with heap := s.heap.push (mwObj l), toks := tk }) : wpAny (model prog w) A (getAttr (.ref l) "__contains__" true) Q E s := by
  obtain ⟨vs, n, hx, _⟩ := hl
  obtain ⟨hp, g, d, tk, os⟩ := s
  have hT : ∀ tk', (⟨hp, g, d, tk', os⟩ : Shared).TypeIs (.ref l) "list" := fun _ => ⟨_, hx, rfl⟩
  have f3 := F.slot_list_getattribute.lookup
  have f4 := F.slot_list_getattribute.bind (.ref l)
  have f5 := am_list_getattr_none
  unfold getAttr getAttrBy
  repeat (any_goals (first | assumption | exact hT _ | ((with_reducible show wpAny _ _ (call (Value.builtin "list.__getattribute__") _ _) _ _ _); refine call_meets F.slot_list_getattribute (hT _) am_entry_list_getattribute (F.args_list_getattribute_2 _ _) (meets_getattribute_contains l _ n _ _) ⟨hx, ?_⟩) | wp_step))
  exact wpAny_pure (h _)

theorem plain_contains : plainId "list.__contains__" = true := by decide +kernel
theorem check_contains (x y : Value) : checkBoundCall "list.__contains__" ⟨[x, y], []⟩ = pure () := by kernel_rfl

theorem mw_call {prog : Program} {w : World} {A : Around} {E : Value → Shared → Prop} {s : Shared} {u l : Addr} {a : Int} {t : Tok} {ns : List Int} {Q : Value → Shared → Prop} (hu : s.heap.get? u = some (mwObj l)) (hl : Li s.heap l ns)
    (h : Q (.bool (decide (a ∈ ns))) s) : wpAny (model prog w) A (call (.ref u) [.int a t]) Q E s := by
  obtain ⟨vs, n, hx, i⟩ := hl
  refine wpAny_call (codeAny_of_tree ?_)
  show wpAny _ _ (callAny (.ref u) _) _ _ _
  unfold callAny
  refine wpAny_bind (wpAny_load hu ?_)
  show wpAny _ _ (checkBoundCall "list.__contains__" ⟨[.ref l, .int a t], []⟩ >>= fun _ => again (.builtin "list.__contains__" ⟨[.ref l, .int a t], []⟩)) _ _ _
  rw [check_contains]
  refine wpAny_bind (wpAny_pure ?_)
  refine wpAny_pure ⟨plainId_quiet plain_contains _, codeAny_builtin F.entry_list_contains ?_⟩
  rw [Around.under_plainId plain_contains _]
  refine SeqInW.list_containsW l (List.toArray vs) n none #[] (.int a t) (fun y => match y with | .int b _ => b == a | _ => false) (fun y hy => ?_) prog w A _ s ⟨hx, ?_⟩
  · obtain ⟨b, ub, rfl⟩ := i.all y (by simpa using hy)
    exact MeetsSeq.EqGives.int b a ub t
  · have key := ints_any (a := a) i
    exact (congrArg (fun b => Q (.bool b) s) key).mpr h
end Mine

-- ================ Fil ================
namespace Mine

/-- what the head's fragment says of the class filterfalse -/
structure Ck (K : Frag) : Prop where
  makes : makesIn K 54 = true
  init : findIn K (.ref 54) "__init__" = some (some (.ref 36))
  initT : typeIn K (.ref 36) = some (.type "function")
  iter : findIn K (.ref 54) "__iter__" = some (some (.ref 43))
  iterF : isFn K (.ref 43) = true
  next : findIn K (.ref 54) "__next__" = some (some (.ref 50))
  nextF : isFn K (.ref 50) = true
  sat : findIn K (.ref 54) "__setattr__" = some (some (.builtin "object.__setattr__"))
  over : plainOver K 54 = true
  t56 : takerIn K 54 "_it" = some (some (.ref 56))
  t55 : takerIn K 54 "_func" = some (some (.ref 55))
  m56 : typeIn K (.ref 56) = some (.type "member_descriptor")
  m55 : typeIn K (.ref 55) = some (.type "member_descriptor")
  s56 : slotIn K 56 54 = some 1
  s55 : slotIn K 55 54 = some 0
  pit : plainGet K 54 "_it" = true
  pfu : plainGet K 54 "_func" = true
  cls : isClsIn K 54 = true
  fit : findIn K (.ref 54) "_it" = some (some (.ref 56))
  ffu : findIn K (.ref 54) "_func" = some (some (.ref 55))
  g56 : specialIn K (.ref 56) "__get__" = some (some (.builtin "member_descriptor.__get__"))
  g55 : specialIn K (.ref 55) "__get__" = some (some (.builtin "member_descriptor.__get__"))
  k56 : takesIn K (.ref 56) = some true
  k55 : takesIn K (.ref 55) = some true
  len : findIn K (.ref 54) "__len__" = some none
  hint : findIn K (.ref 54) "__length_hint__" = some none
  keep : keepIn K (.ref 54) = true

/-- a method of the class -/
def clsBody : Stmt → List Stmt
  | .ClassDef _ _ _ b .. => b
  | _ => []
def mtAt (i : Nat) : Stmt := ((clsBody (stAt 2))[i]?).getD (.Pass default)
def fdM (st : Stmt) (pm cd : Value) : FuncData := { fdX st .none .none pm cd with qualname := Str.ofString "filterfalse." ++ nmOf st }
def IsMt (h : Heap) (i : Nat) (a : Addr) : Prop := ∃ o pm cd, h.get? a = some o ∧ o.data = .func (fdM (mtAt i) pm cd) ∧ h.CodeRec cd (Str.ofString "filterfalse." ++ nmOf (mtAt i))

def instX (dx u it : Addr) : Obj := { cls := .ref 54, dict := some dx, data := .plain, slots := #[some (.ref u), some (.ref it)] }
def inst1 (dx it : Addr) : Obj := { cls := .ref 54, dict := some dx, data := .plain, slots := #[none, some (.ref it)] }

section
variable {prog : Program} {w : World} {A : Around} {E : Value → Shared → Prop} {s s' : Shared} {m : Str → Option Value} {mg mb : Str → Option Value} {K : Frag} {ns : List Int} {l : Addr}

theorem call_iter {Q : Value → Shared → Prop} (hl : Li s.heap l ns) (h : Q (.ref s.heap.objs.size) { s with heap := s.heap.push { cls := .type "list_iterator", data := .fields #[.ref l, .int 0 0] } }) :
    wpAny (model prog w) A (call (.builtin "iter") [.ref l]) Q E s := by
  obtain ⟨vs, hli, _⟩ := hl.isList
  refine Calls.call_function_entry (by decide +kernel) (by decide +kernel) kdk_entry_iter (kdk_args_iter _) ?_
  unfold Builtin.«iter»
  refine wpAny_bind (wpAny_of_eq (a := [Value.ref l]) (by first | rfl | kernel_rfl) ?_)
  show wpAny _ _ (pyIter (.ref l) >>= _) _ _ _
  exact wpAny_bind (wpAny_pyIter_list hli (wpAny_pure ⟨_, rfl, h⟩))

theorem call_next_item {it : Addr} {i : Nat} {a : Int} {Q : Value → Shared → Prop} (hit : s.heap.IsListIter it l i) (hl : Li s.heap l ns) (hx : ns[i]? = some a)
    (h : ∀ t h', h'.IsListIter it l (i + 1) → Heap.SameBut it s.heap h' → Q (.int a t) { s with heap := h' }) : wpAny (model prog w) A (call (.builtin "next") [.ref it]) Q E s := by
  obtain ⟨vs, hli, hi⟩ := hl.isList
  obtain ⟨t, ht⟩ := hi.get _ _ hx
  obtain ⟨o, ho, hc, hd⟩ := id hit
  obtain ⟨ol, hol, _, nl, hdl⟩ := hli
  refine Calls.call_function_entry (by decide +kernel) (by decide +kernel) kdk_entry_next (kdk_args_next _) ?_
  unfold Builtin.«next»
  refine wpAny_bind (wpAny_of_eq (a := [Value.ref it]) (by first | rfl | kernel_rfl) ?_)
  dsimp only
  refine wpAny_bind (wpAny_specialOf (name := Str.ofString "__next__") hit.typeIs slot_listiter_next.lookup ?_)
  rw [if_neg (by decide)]
  refine wpAny_bind (wpAny_callSpecial?_slot (name := Str.ofString "__next__") hit.typeIs slot_listiter_next
    (wpAny_call_entry slot_listiter_next hit.typeIs entry_listiter_next ?_ (args_listiter_next _)))
  show wpAny _ _ (field (.ref it) 0 >>= _) _ _ s
  refine wpAny_bind (wpAny_field ho hd (x := .ref l) rfl ?_)
  show wpAny _ _ (if (Value.ref l == Value.none) = true then _ else _) _ _ s
  rw [if_neg (show ¬ ((Value.ref l == Value.none) = true) from Bool.false_ne_true)]
  show wpAny _ _ (field (.ref it) 1 >>= _) _ _ s
  refine wpAny_bind (wpAny_field ho hd (x := .int i 0) rfl ?_)
  show wpAny _ _ (seqItems? (.ref l) >>= _) _ _ s
  refine wpAny_bind (wpAny_seqItems hol hdl ?_)
  have hx' : (List.toArray vs)[i]? = some (.int a t) := by simpa using ht
  simp only [Int.toNat_natCast, hx']
  refine wpAny_bind (wpAny_setField ho hd (by simp) (wpAny_pure ⟨_, rfl, wpAny_pure ⟨_, rfl, h t _ ?_ (Heap.SameBut.update ..)⟩⟩))
  exact ⟨_, Heap.get?_update_self _ ho (Obj.isFreed_of_fields (Obj.data_mapFields hd _)), (Obj.cls_mapFields ..).trans hc, by rw [Obj.data_mapFields hd]; simp [rawInt]⟩

theorem call_next_end {it : Addr} {i : Nat} {Q : Value → Shared → Prop} (hh : A.handled = none) (hit : s.heap.IsListIter it l i) (hl : Li s.heap l ns) (hx : ns[i]? = none)
    (h : ∀ h₁ e s', Heap.SameBut it s.heap h₁ → Mk0 { s with heap := h₁ } e "StopIteration" .none s' → E (.ref e) s') : wpAny (model prog w) A (call (.builtin "next") [.ref it]) Q E s := by
  obtain ⟨vs, hli, hi⟩ := hl.isList
  obtain ⟨o, ho, hc, hd⟩ := id hit
  obtain ⟨ol, hol, _, nl, hdl⟩ := hli
  refine Calls.call_function_entry (by decide +kernel) (by decide +kernel) kdk_entry_next (kdk_args_next _) ?_
  unfold Builtin.«next»
  refine wpAny_bind (wpAny_of_eq (a := [Value.ref it]) (by first | rfl | kernel_rfl) ?_)
  dsimp only
  refine wpAny_bind (wpAny_specialOf (name := Str.ofString "__next__") hit.typeIs slot_listiter_next.lookup ?_)
  rw [if_neg (by decide)]
  refine wpAny_bind (wpAny_callSpecial?_slot (name := Str.ofString "__next__") hit.typeIs slot_listiter_next
    (wpAny_call_entry slot_listiter_next hit.typeIs entry_listiter_next ?_ (args_listiter_next _)))
  show wpAny _ _ (field (.ref it) 0 >>= _) _ _ s
  refine wpAny_bind (wpAny_field ho hd (x := .ref l) rfl ?_)
  show wpAny _ _ (if (Value.ref l == Value.none) = true then _ else _) _ _ s
  rw [if_neg (show ¬ ((Value.ref l == Value.none) = true) from Bool.false_ne_true)]
  show wpAny _ _ (field (.ref it) 1 >>= _) _ _ s
  refine wpAny_bind (wpAny_field ho hd (x := .int i 0) rfl ?_)
  show wpAny _ _ (seqItems? (.ref l) >>= _) _ _ s
  refine wpAny_bind (wpAny_seqItems hol hdl ?_)
  have hx' : (List.toArray vs)[i]? = none := by
    have : ns.length ≤ i := by simpa using hx
    simp [hi.length]; exact this
  simp only [Int.toNat_natCast, hx']
  refine wpAny_bind (wpAny_rule (wpAny_bind (wpAny_setField ho hd (by simp) ?_)))
  show wpAny _ _ (newExc (.type "StopIteration") [] >>= _) _ _ _
  refine wpAny_bind ?_
  simp only [newExc, newTuple]
  refine wpAny_bind (wpAny_newObj_type ?_ (by size_fits))
  refine wpAny_bind (m := firstArgMember _ _) (wpAny_of_eq (a := Value.none) (by first | rfl | (simp only [firstArgMember]; rfl)) ?_)
  refine wpAny_newObj_type ?_ (by size_fits)
  simp only [raiseNew]
  refine wpAny_bind (wpAny_handled ?_)
  rw [show A.in1.handled = none from hh]
  refine wpAny_bind (wpAny_pure (wpAny_throw ?_))
  refine h _ _ _ (Heap.SameBut.update ..) ⟨⟨_, _, rfl, fun b o q => Heap.get?_push_of_some _ (Heap.get?_push_of_some _ q)⟩, ?_, ?_⟩
  · exact Heap.get?_none_of_le (by simp)
  · exact ⟨_, _, Heap.get?_push_size _ rfl, rfl, rfl⟩

theorem get_it {x dx u it : Addr} {Q : Value → Shared → Prop} (C : Ck K) (X : K.In s.heap) (hx : s.heap.get? x = some (instX dx u it)) (hdx : s.heap.get? dx = some emptyDict) (h : ∀ tk, Q (.ref it) { s with toks := tk }) :
    wpAny (model prog w) A (getAttr (.ref x) "_it" true) Q E s :=
  have I : InstAt s.heap x (instX dx u it) 54 (some emptyDict) := ⟨hx, rfl, rfl, hdx⟩
  get_bind X I (plainGet_of C.pit).1 (findObj_data C.cls C.fit C.g56 C.k56) (plainGet_of C.pit).2 (wpAny_call (slot_get (s := { s with toks := s.toks + 1 }) X I C.s56 rfl (handed_on rfl (h _))))
theorem get_func {x dx u it : Addr} {Q : Value → Shared → Prop} (C : Ck K) (X : K.In s.heap) (hx : s.heap.get? x = some (instX dx u it)) (hdx : s.heap.get? dx = some emptyDict) (h : ∀ tk, Q (.ref u) { s with toks := tk }) :
    wpAny (model prog w) A (getAttr (.ref x) "_func" true) Q E s :=
  have I : InstAt s.heap x (instX dx u it) 54 (some emptyDict) := ⟨hx, rfl, rfl, hdx⟩
  get_bind X I (plainGet_of C.pfu).1 (findObj_data C.cls C.ffu C.g55 C.k55) (plainGet_of C.pfu).2 (wpAny_call (slot_get (s := { s with toks := s.toks + 1 }) X I C.s55 rfl (handed_on rfl (h _))))

theorem init_call {R : Result → Shared → Prop} {x dx u : Addr} (C : Ck K) (X : K.In s.heap) (W : Wd mg mb s.heap) (M0 : IsMt s.heap 1 36) (hd : A.depth < recursionLimit) (hKx : ∀ a o, K.lookup a = some o → a ≠ x)
    (hx : s.heap.get? x = some (instObj 54 dx)) (hdx : s.heap.get? dx = some emptyDict) (hne : dx ≠ x) (hl : Li s.heap l ns)
    (h : ∀ it h' tk, (∀ b o, b ≠ x → s.heap.get? b = some o → h'.get? b = some o) → h'.get? x = some (instX dx u it) → s.heap.get? it = none → h'.IsListIter it l 0 → R (.ok (.ret .none)) { s with heap := h', toks := tk }) :
    codeAny (model prog w) A (.call (.ref 36) ⟨[.ref x, .ref u, .ref l], []⟩) R s := by
  obtain ⟨o, pm, cd, ho, hdt, hcd⟩ := M0
  refine codeAny_call_cells (fd := fdM (mtAt 1) pm cd) (body := bodyOf (mtAt 1)) (binds := [("self", .ref x), ("function", .ref u), ("iterable", .ref l)]) hd ho hdt W.lim hcd (by kernel_rfl) (by kernel_rfl) (by kernel_rfl)
    (by intro y hy; simp only [List.mem_cons, List.not_mem_nil, or_false] at hy; rcases hy with rfl | rfl | rfl <;> exact .inl (by kernel_rfl)) (fun s₁ z => ?_) (by kernel_rfl) (by kernel_rfl) (by kernel_rfl)
  obtain ⟨h₁, tk₁, rfl, kk⟩ := z.done
  have hn₁ := z.toInCall.ns
  clear z
  have W1 := W.keep kk
  generalize hm : bindL _ _ (fun _ => none) = m₁ at hn₁
  have ms : m₁ "self" = some (.ref x) := by subst hm; kernel_rfl
  have mf : m₁ "function" = some (.ref u) := by subst hm; kernel_rfl
  have mi : m₁ "iterable" = some (.ref l) := by subst hm; kernel_rfl
  clear hm
  -- self._it = iter(iterable)
  refine wpAny_execs_cons (plainObj_wpAny_Assign_Attribute (Call_ (nB W1.g W1.b W1.giter W1.biter (cwB (args_cons (nL hn₁ mi (args_nil ?_)))))) (by kernel_rfl))
  refine call_iter (hl.keep kk) ?_
  generalize hio : ({ cls := .type "list_iterator", data := .fields #[.ref l, .int 0 0] } : Obj) = io
  have hn₂ := hn₁.push io
  refine nL hn₂ ms ?_
  have k₂ : ∀ b o, s.heap.get? b = some o → (h₁.push io).get? b = some o := fun b o q => Heap.get?_push_of_some _ (kk b o q)
  have hit₂ : (h₁.push io).get? h₁.objs.size = some io := Heap.get?_push_size _ (by subst hio; rfl)
  have xne : x ≠ h₁.objs.size := Nat.ne_of_lt (Heap.lt_size (kk _ _ hx))
  have xL : x ≠ s.heap.objs.size := Nat.ne_of_lt (Heap.lt_size hx)
  have itn : s.heap.get? h₁.objs.size = none := by
    cases q : s.heap.get? h₁.objs.size with
    | none => rfl
    | some o' => exact absurd (Heap.lt_size (kk _ _ q)) (Nat.lt_irrefl _)
  have F : Fr (hideAll s.heap [x]) s.heap.objs.size (h₁.push io) m₁ := ⟨hn₂, fun b o q => k₂ b o (of_hideAll _ q), Nat.le_of_eq (hideAll_size _ _)⟩
  have Xh : K.In (hideAll s.heap [x]) := fun a o q => hideAll_get _ (X a o q) (by simpa using hKx a o q)
  have hn : ∀ b, s.heap.get? b = none → (hideAll s.heap [x]).get? b = none := fun b q => by
    cases r : (hideAll s.heap [x]).get? b with
    | none => rfl
    | some o => rw [of_hideAll _ r] at q; cases q
  have itL : h₁.objs.size ≠ s.heap.objs.size := fun q => by
    have := hn₁.lt
    exact absurd (q ▸ this) (Nat.lt_irrefl _)
  have N : News (hideAll s.heap [x]) s.heap.objs.size (h₁.push io) [(x, instObj 54 dx), (h₁.objs.size, io)] := by
    intro p hp
    simp only [List.mem_cons, List.not_mem_nil, or_false] at hp
    rcases hp with rfl | rfl
    · exact ⟨k₂ _ _ hx, xL, hideAll_none _ (by simp)⟩
    · exact ⟨hit₂, itL, hn _ itn⟩
  have I : InstAt (h₁.push io) x (instObj 54 dx) 54 (some emptyDict) := ⟨k₂ _ _ hx, rfl, rfl, k₂ _ _ hdx⟩
  refine set_slot (ox' := inst1 dx h₁.objs.size) (news' := [(x, inst1 dx h₁.objs.size), (h₁.objs.size, io)]) F Xh N I C.sat C.over C.t56 C.m56 C.s56 (by decide) rfl rfl (.head (by intro p hp; simp only [List.mem_singleton] at hp; subst hp; exact Ne.symm xne)) fun h₃ F₃ N₃ => ?_
  have hx₃ := N₃.get (.head _)
  have hdx₃ : h₃.get? dx = some emptyDict := F₃.keep dx _ (hideAll_get _ hdx (by simpa using hne))
  -- self._func = function
  refine wpAny_execs_cons (plainObj_wpAny_Assign_Attribute (nL F₃.ns mf (nL F₃.ns ms ?_)) (by kernel_rfl))
  refine set_slot (s := ⟨h₃, _, _, _, _⟩) (ox' := instX dx u h₁.objs.size) (news' := [(x, instX dx u h₁.objs.size), (h₁.objs.size, io)]) F₃ Xh N₃ ⟨hx₃, rfl, rfl, hdx₃⟩ C.sat C.over C.t55 C.m55 C.s55 (by decide) rfl rfl (.head (by intro p hp; simp only [List.mem_singleton] at hp; subst hp; exact Ne.symm xne)) fun h₄ F₄ N₄ => ?_
  refine wpAny_execs_nil ?_
  refine h h₁.objs.size h₄ _ (fun b o hb q => F₄.keep b o (hideAll_get _ q (by simpa using hb))) (N₄.get (.head _)) itn ?_
  have := N₄.get (.tail _ (.head _))
  exact ⟨io, this, by subst hio; rfl, by subst hio; rfl⟩
end
end Mine

-- ================ Fil2 ================
namespace Mine
section
variable {prog : Program} {w : World} {A : Around} {E : Value → Shared → Prop} {s s' : Shared} {env : Env} {m : Str → Option Value} {mg mb : Str → Option Value} {K : Frag} {ns sk : List Int} {l1 l2 x dx u it : Addr} {fr : List Env}

theorem KF.comp {fs fs' : List Addr} {L : Addr} {s s' s'' : Shared} (x : KF fs s s') (hL : s.heap.get? L = none) (y : KF (L :: fs') s' s'') (hs : ∀ b ∈ fs', b ∈ fs) : KF fs s s'' := by
  obtain ⟨h, t, rfl, k, u⟩ := x
  obtain ⟨h', t', rfl, k', u'⟩ := y
  refine ⟨h', t', rfl, fun b o hb e => k' b o (fun hm => ?_) (k b o hb e), u.trans u'⟩
  rcases List.mem_cons.mp hm with rfl | hm
  · rw [hL] at e; cases e
  · exact hb (hs b hm)
theorem KF.move {fs : List Addr} {a : Addr} {h' : Heap} {tk : Nat} (x : KF (a :: fs) s s') {o : Obj} {vs : Array Value} (ha : s'.heap.get? a = some o) (hd : o.data = .fields vs) (hs : Heap.SameBut a s'.heap h') : KF (a :: fs) s { s' with heap := h', toks := tk } := by
  obtain ⟨h, t, rfl, k, u⟩ := x
  refine ⟨h', tk, rfl, fun b o hb e => hs.extBut b o (fun q => hb (q ▸ List.mem_cons_self)) (k b o hb e), fun b o q hn => ?_⟩
  obtain ⟨sl, r⟩ := u b o q hn
  exact ⟨sl, hs.extBut b _ (fun z => by subst z; rw [ha] at r; cases r; exact hn vs hd) r⟩

theorem cwM {u l : Addr} {pos : Pos} {e : Expr} {Q : Value → Shared → Prop}
    (h : wpAny (model prog w) A (eval e env) (fun v s₁ => s₁.heap.get? u = some (mwObj l) ∧ wpAny (model prog w) A (call (.ref u) [v]) Q E s₁) E s)
    (he : starEach [e] env = [(false, eval e env)] := by rfl) :
    wpAny (model prog w) A (callWith pos (.ref u) [] (backTo pos (starEach [e] env)) []) Q E s := by
  rw [he]
  show wpAny (model prog w) A (callWith pos (.ref u) [] [(false, eval e env)] []) Q E s
  unfold callWith
  refine wpAny_bind (wpAny_holding (Calls.evalArgs_plain (Calls.spliced_cons (wpAny_mono h (fun v s₁ h₁ => Calls.spliced_nil (wpAny_bind (wpAny_standAt ?_))) fun _ _ q => q))))
  obtain ⟨hu, hc⟩ := h₁
  simp only [List.any_cons, List.any_nil, Bool.or_false]
  refine wpAny_bind (m := keeperOf (.ref u)) ?_
  unfold keeperOf
  refine wpAny_bind (wpAny_load hu ?_)
  have e1 : (Value.type "method-wrapper" != Value.type "method") = true := by decide
  have e2 : (Value.type "method-wrapper" == Value.type "builtin_function_or_method" || Value.type "method-wrapper" == Value.type "method-wrapper") = true := by decide
  simp only [mwObj, e1, e2, if_true]
  refine wpAny_pure ?_
  exact wpAny_bind (wpAny_mono hc (fun r s₂ hr => wpAny_bind (wpAny_holding (wpAny_point (wpAny_pure hr)))) fun _ _ q => q)

theorem next_call {i : Nat} {Q : Value → Shared → Prop} (C : Ck K) (X : K.In s.heap) (W : Wd mg mb s.heap) (M3 : IsMt s.heap 3 50) (hd : A.depth < recursionLimit) (hh : A.handled = none) (hfr : A.frames = some fr) (hF : Frs s.heap fr)
    (hx : s.heap.get? x = some (instX dx u it)) (hdx : s.heap.get? dx = some emptyDict) (hu : s.heap.get? u = some (mwObj l2)) (hl1 : Li s.heap l1 ns) (hl2 : Li s.heap l2 sk) (hit : s.heap.IsListIter it l1 i) (hi : i ≤ ns.length) (hlen : ns.length ≤ 1000)
    (hKf : ∀ a o, K.lookup a = some o → a ∉ it :: frs fr) (hdf : dx ∉ it :: frs fr) (hif : it ∉ frs fr)
    (hQ : ∀ j a t s', KF (it :: frs fr) s s' → s'.heap.IsListIter it l1 (j + 1) → ns[j]? = some a → a ∉ sk → i ≤ j → (∀ b ∈ (ns.take j).drop i, b ∈ sk) → Q (.int a t) s')
    (hE : ∀ e s', KF (it :: frs fr) s s' → s'.TypeIs (.ref e) "StopIteration" → (∀ b ∈ ns.drop i, b ∈ sk) → E (.ref e) s') :
    wpAny (model prog w) A (call (.ref 50) [.ref x]) Q E s := by
  obtain ⟨o, pm, cd, ho, hdt, hcd⟩ := M3
  refine wpAny_call (codeAny_call_cells (fd := fdM (mtAt 3) pm cd) (body := bodyOf (mtAt 3)) (binds := [("self", .ref x)]) hd ho hdt W.lim hcd (by kernel_rfl) (by kernel_rfl) (by kernel_rfl)
    (by intro y hy; simp only [List.mem_singleton] at hy; subst hy; exact .inl (by kernel_rfl)) (fun s₁ z => ?_) (by kernel_rfl) (by kernel_rfl) (by kernel_rfl))
  have kk : Keeps s s₁ := let ⟨h', tk, e, k⟩ := z.done; ⟨h', tk, e, k⟩
  have hn₁ := z.toInCall.ns
  clear z
  have hL : s.heap.get? s.heap.objs.size = none := fresh_size (Nat.le_refl _)
  generalize hm : bindL _ _ (fun _ => none) = m₁ at hn₁
  have ms : m₁ "self" = some (.ref x) := by subst hm; kernel_rfl
  clear hm
  -- func = self._func
  refine wpAny_execs_cons (wpAny_Assign_Name (Attribute_name (nL hn₁ ms (get_func C (X.keeps (kp_all kk)) (kp_get kk hx) (kp_get kk hdx) fun tk => ?_))) (by kernel_rfl))
  refine st_local hn₁ fun h₂ tk₂ hn₂ hs₂ => ?_
  have k₂ : KF (it :: frs fr) s { s₁ with heap := h₂, toks := tk₂ } := (KF.of_kp kk).other hL hs₂
  have ms₂ : upd m₁ "func" (.ref u) "self" = some (.ref x) := (upd_ne (by decide)).trans ms
  have mf₂ : upd m₁ "func" (.ref u) "func" = some (.ref u) := upd_same
  generalize upd m₁ "func" (.ref u) = m₂ at *
  have ne_it : ∀ {b : Addr} {o : Obj}, s.heap.get? b = some o → o.cls ≠ .type "list_iterator" → b ≠ it := fun {b o} q hc r => by
    subst r
    obtain ⟨oi, hoi, hci, _⟩ := hit
    rw [q] at hoi; cases hoi; exact hc hci
  have off : ∀ {b : Addr} {o : Obj}, s.heap.get? b = some o → (∀ es ep, o.data ≠ .dict es ep) → b ∉ frs fr := fun {b o} q hdd hm => by
    obtain ⟨m', hn'⟩ := hF.mem hm
    obtain ⟨es, ep, r⟩ := ns_data hn' q
    exact hdd es ep r
  have offx : x ∉ it :: frs fr := fun hm => by
    rcases List.mem_cons.mp hm with r | r
    · exact ne_it hx (show Value.ref 54 ≠ Value.type "list_iterator" by decide) r
    · exact off hx (fun _ _ q => by cases q) r
  have offu : u ∉ it :: frs fr := fun hm => by
    rcases List.mem_cons.mp hm with r | r
    · exact ne_it hu (show Value.type "method-wrapper" ≠ Value.type "list_iterator" by decide) r
    · exact off hu (fun _ _ q => by cases q) r
  have offl : ∀ {d : Addr} {zs : List Int}, Li s.heap d zs → d ∉ it :: frs fr := fun {d zs} hl hm => by
    rcases List.mem_cons.mp hm with r | r
    · obtain ⟨vs, n, q, _⟩ := hl; exact ne_it q (show Value.type "list" ≠ Value.type "list_iterator" by decide) r
    · exact hF.off_li hl r
  have X' : ∀ {s'}, KF (it :: frs fr) s s' → K.In s'.heap := fun {s'} k a o q => k.get (hKf a o q) (X a o q)
  have itL : it ≠ s.heap.objs.size := by
    obtain ⟨oi, hoi, _⟩ := hit
    exact Nat.ne_of_lt (Heap.lt_size hoi)
  have hit₂ : h₂.IsListIter it l1 i := by
    obtain ⟨oi, hoi, r⟩ := hit
    exact ⟨oi, same_get hs₂ itL (kp_get kk hoi), r⟩
  have hfr' : ∀ env', (A.deeper env').frames = some (env' :: fr) := fun env' => by show A.frames.map _ = _; rw [hfr]; rfl
  refine wpAny_execs_cons (wpAny_While ?_)
  refine codeAny_whileLoop (fun n s' => ∃ j m, n = ns.length - j ∧ i ≤ j ∧ j ≤ ns.length ∧ KF (it :: frs fr) s s' ∧ s'.heap.Ns s.heap.objs.size m ∧ m "self" = some (.ref x) ∧ m "func" = some (.ref u) ∧ s'.heap.IsListIter it l1 j ∧ (∀ b ∈ (ns.take j).drop i, b ∈ sk)) ?_ (ns.length - i)
    ⟨i, m₂, rfl, Nat.le_refl _, hi, k₂, hn₂, ms₂, mf₂, hit₂, fun b hb => by rw [List.drop_take] at hb; simp at hb⟩
  clear hit₂ k₂ hn₂ ms₂ mf₂ hs₂
  rintro n s₃ ⟨j, m, rfl, hij, hjl, k₃, hn₃, hms, hmf, hit₃, hsk⟩
  have itL₃ : s.heap.objs.size ≠ it := itL.symm
  refine wpAny_isTrue_value (wpAny_Constant_bool (wpAny_truthy_bool ?_))
  simp only [if_true]
  refine wpAny_execs_cons (wpAny_Assign_Name (Call_ (nB (k₃.ns W.g) (k₃.ns W.b) W.gnext W.bnext (cwB (args_cons (Attribute_name (nL hn₃ hms (get_it C (X' k₃) (k₃.get offx hx) (k₃.get hdf hdx) fun tk₄ => args_nil ?_))))))) (by kernel_rfl))
  have hl₃ := k₃.li hl1 (offl hl1)
  by_cases hjl' : j < ns.length
  · have ej : ns[j]? = some ns[j] := List.getElem?_eq_getElem hjl'
    generalize ns[j] = a at ej
    refine call_next_item hit₃ hl₃ ej fun t h₅ hit₅ hs₅ => ?_
    obtain ⟨oi, hoi, hci, hdi⟩ := id hit₃
    have k₅ : KF (it :: frs fr) s { s₃ with heap := h₅, toks := tk₄ } := k₃.move hoi hdi hs₅
    have hn₅ : h₅.Ns s.heap.objs.size m := hn₃.sameBut hs₅ itL₃
    refine st_local hn₅ fun h₆ tk₆ hn₆ hs₆ => ?_
    have k₆ : KF (it :: frs fr) s { s₃ with heap := h₆, toks := tk₆ } := k₅.other hL hs₆
    have hit₆ : h₆.IsListIter it l1 (j + 1) := by
      obtain ⟨oi', hoi', r⟩ := hit₅
      exact ⟨oi', same_get hs₆ itL hoi', r⟩
    have hms₆ : upd m "item" (.int a t) "self" = some (.ref x) := (upd_ne (by decide)).trans hms
    have hmf₆ : upd m "item" (.int a t) "func" = some (.ref u) := (upd_ne (by decide)).trans hmf
    have hmi₆ : upd m "item" (.int a t) "item" = some (.int a t) := upd_same
    have drop' : ∀ b ∈ (ns.take (j + 1)).drop i, b ∈ sk ∨ b = a := fun b hb => by
      rw [take_succ_some ej, List.drop_append] at hb
      rcases List.mem_append.mp hb with hb | hb
      · exact .inl (hsk b hb)
      · exact .inr (List.mem_singleton.mp (List.mem_of_mem_drop hb))
    -- if func is None or func is bool
    refine wpAny_execs_cons (wpAny_If (wpAny_isTrue_BoolOp (wpAny_allTrue_Or_cons (wpAny_isTrue_Compare1 (nL hn₆ hmf₆ (wpAny_Constant_none (wpAny_is_other rfl (by intro q; cases q) (wpAny_truthy_bool ?_))))))))
    simp only [Bool.false_eq_true, if_false]
    refine wpAny_allTrue_Or_cons (wpAny_isTrue_Compare1 (nL hn₆ hmf₆ (nB (k₆.ns W.g) (k₆.ns W.b) W.gbool W.bbool (wpAny_is_other rfl (by intro q; cases q) (wpAny_truthy_bool ?_)))))
    simp only [Bool.false_eq_true, if_false]
    refine wpAny_allTrue_Or_nil ?_
    simp only [Bool.false_eq_true, if_false]
    -- if not func(item)
    refine wpAny_execs_cons (wpAny_If (wpAny_isTrue_Not (wpAny_isTrue_value (Call_ (nL hn₆ hmf₆ (cwM (l := l2) (nL hn₆ hmi₆ ⟨k₆.get offu hu, mw_call (k₆.get offu hu) (k₆.li hl2 (offl hl2)) (wpAny_truthy_bool ?_)⟩)))))))
    by_cases hin : a ∈ sk
    · rw [decide_eq_true hin]
      simp only [Bool.not_true, Bool.false_eq_true, if_false]
      refine wpAny_execs_nil (wpAny_execs_nil (wpAny_execs_nil ⟨_, ?_, j + 1, _, rfl, by omega, hjl', k₆, hn₆, hms₆, hmf₆, hit₆, fun b hb => ?_⟩))
      · omega
      · rcases drop' b hb with h | rfl
        · exact h
        · exact hin
    · rw [decide_eq_false hin]
      simp only [Bool.not_false, if_true]
      refine wpAny_execs_cons (wpAny_Return_some (nL hn₆ hmi₆ ?_))
      exact hQ j a t _ k₆ hit₆ ej hin hij hsk
  · have ej : ns[j]? = none := by simp; omega
    have hjeq : j = ns.length := by omega
    refine call_next_end hh hit₃ hl₃ ej fun h₅ e s₆ hs₅ mk => ?_
    obtain ⟨oi, hoi, hci, hdi⟩ := id hit₃
    have k₅ : KF (it :: frs fr) s { s₃ with heap := h₅, toks := tk₄ } := k₃.move hoi hdi hs₅
    have hn₅ : h₅.Ns s.heap.objs.size m := hn₃.sameBut hs₅ itL₃
    have hF₅ : Frs h₅ (callEnvC (fdM (mtAt 3) pm cd) s.heap.objs.size 50 :: fr) :=
      ⟨(show (fdM (mtAt 3) pm cd).scope.kind ≠ .module from (show (fdM (mtAt 3) pm cd).scope.kind = .function from by kernel_rfl) ▸ (by decide)), ⟨_, m, rfl, hn₅⟩, hF.up k₅.slots⟩
    refine note_new (s := { s₃ with heap := h₅, toks := tk₄ }) (hfr' _) hF₅ rfl mk fun s₇ r₇ => came_back rfl r₇ fun s₈ r₈ => ?_
    show wpAny _ _ (leaving _ _) _ _ _
    unfold leaving
    refine wpAny_bind (note_again rfl r₈ (set_flight (fo := none) r₈ fun s₉ r₉ => ?_))
    refine hE e s₉ (k₅.comp (L := s.heap.objs.size) hL r₉.kf fun b hb => List.mem_cons_of_mem _ hb) ?_ ?_
    · obtain ⟨_, _, ob, tt, T, oT, ts, h1, h2, _⟩ := r₉
      exact ⟨ob, h1, h2⟩
    · intro b hb
      refine hsk b ?_
      rw [hjeq, List.take_length]
      exact hb
end
end Mine

-- ================ Fil3 ================
namespace Mine

theorem Frs.off {h : Heap} {l : List Env} {a : Addr} {o : Obj} (x : Frs h l) (ho : h.get? a = some o) (hd : ∀ es ep, o.data ≠ .dict es ep) : a ∉ frs l := fun hm => by
  obtain ⟨m, hn⟩ := x.mem hm
  obtain ⟨es, ep, q⟩ := ns_data hn ho
  exact hd es ep q
theorem Frs.off_none {h : Heap} {l : List Env} {a : Addr} (x : Frs h l) (ho : h.get? a = none) : a ∉ frs l := fun hm => by
  obtain ⟨m, o, _, _, q, _⟩ := x.mem hm
  rw [ho] at q; cases q

theorem code_kf {l : List Env} {s s' : Shared} (hF : Frs s.heap l) (k : KF (frs l) s s') {cd : Value} {q : Str} (x : s.heap.CodeRec cd q) : s'.heap.CodeRec cd q := by
  obtain ⟨c, o, vs, t, rfl, h1, h2, h3⟩ := x
  exact ⟨c, o, vs, t, rfl, k.get (hF.off h1 fun es ep z => by rw [h2] at z; cases z) h1, h2, h3⟩
theorem IsFn.kf {l : List Env} {s s' : Shared} {mg : Str → Option Value} {k : Nat} {a : Addr} {df kd : Value} (hF : Frs s.heap l) (kf : KF (frs l) s s') (x : IsFn mg s.heap k a df kd) : IsFn mg s'.heap k a df kd :=
  ⟨x.name, let ⟨o, pm, cd, h1, h2, h3⟩ := x.there; ⟨o, pm, cd, kf.get (hF.off h1 fun es ep z => by rw [h2] at z; cases z) h1, h2, code_kf hF kf h3⟩⟩
theorem IsMt.kf {l : List Env} {s s' : Shared} {k : Nat} {a : Addr} (hF : Frs s.heap l) (kf : KF (frs l) s s') (x : IsMt s.heap k a) : IsMt s'.heap k a :=
  let ⟨o, pm, cd, h1, h2, h3⟩ := x; ⟨o, pm, cd, kf.get (hF.off h1 fun es ep z => by rw [h2] at z; cases z) h1, h2, code_kf hF kf h3⟩
theorem Wd.kf {l : List Env} {s s' : Shared} {mg mb : Str → Option Value} (hF : Frs s.heap l) (kf : KF (frs l) s s') (x : Wd mg mb s.heap) : Wd mg mb s'.heap :=
  { x with g := kf.ns x.g, b := kf.ns x.b, lim := (let ⟨mc, h1, h2⟩ := x.lim; ⟨mc, kf.ns h1, h2⟩), weight := x.weight.kf hF kf, sixes := x.sixes.kf hF kf, sld := x.sld.kf hF kf }

section
variable {prog : Program} {w : World} {A : Around} {E : Value → Shared → Prop} {R : Result → Shared → Prop} {s s' : Shared} {m : Str → Option Value} {mg mb : Str → Option Value} {K : Frag} {ns sk : List Int} {l1 l2 x dx u it S L : Addr} {outer : List Env} {envf : Env}

/-- what stands while the new list is filled -/
structure Fj (prog : Program) (w : World) (mg mb : Str → Option Value) (K : Frag) (sc : Shared) (outer : List Env) (envf : Env) (l1 l2 x dx u it S : Addr) (ns sk : List Int) : Prop where
  C : Ck K
  X : K.In sc.heap
  hK : ∀ a o, K.lookup a = some o → a ∉ frs outer
  W : Wd mg mb sc.heap
  M2 : IsMt sc.heap 2 43
  M3 : IsMt sc.heap 3 50
  F : Frs sc.heap outer
  ef : envf.frame = some envf.locals
  ek : envf.scope.kind ≠ .module
  fL : sc.heap.get? envf.locals = none
  fx : sc.heap.get? x = none
  fdx : sc.heap.get? dx = none
  fu : sc.heap.get? u = none
  fit : sc.heap.get? it = none
  fS : sc.heap.get? S = none
  dL : dx ≠ envf.locals
  iL : it ≠ envf.locals
  di : dx ≠ it
  l1 : Li sc.heap l1 ns
  l2 : Li sc.heap l2 sk
  len : ns.length ≤ 1000
structure Fi (sc : Shared) (outer : List Env) (envf : Env) (l1 l2 x dx u it S : Addr) (i : Nat) (zs : List Int) (s : Shared) : Prop where
  kf : KF (frs outer) sc s
  ns : ∃ m, s.heap.Ns envf.locals m
  hx : s.heap.get? x = some (instX dx u it)
  hdx : s.heap.get? dx = some emptyDict
  hu : s.heap.get? u = some (mwObj l2)
  hit : s.heap.IsListIter it l1 i
  li : Li s.heap S zs

variable {sc : Shared} {i : Nat} {zs : List Int}
theorem Fi.frs' (J : Fj prog w mg mb K sc outer envf l1 l2 x dx u it S ns sk) (f : Fi sc outer envf l1 l2 x dx u it S i zs s) : Frs s.heap (envf :: outer) := ⟨J.ek, (let ⟨m, h⟩ := f.ns; ⟨_, m, J.ef, h⟩), J.F.up f.kf.slots⟩
theorem Fi.kin (J : Fj prog w mg mb K sc outer envf l1 l2 x dx u it S ns sk) (f : Fi sc outer envf l1 l2 x dx u it S i zs s) : K.In s.heap := fun a o q => f.kf.get (J.hK a o q) (J.X a o q)
theorem Fj.mem (J : Fj prog w mg mb K sc outer envf l1 l2 x dx u it S ns sk) {b : Addr} : b ∈ it :: frs (envf :: outer) ↔ b = it ∨ b = envf.locals ∨ b ∈ frs outer := by
  simp only [frs, List.filterMap_cons, J.ef, List.mem_cons]
theorem Fj.offOld (J : Fj prog w mg mb K sc outer envf l1 l2 x dx u it S ns sk) {b : Addr} {o : Obj} (h : sc.heap.get? b = some o) (hb : b ∉ frs outer) : b ∉ it :: frs (envf :: outer) := fun hm => by
  rcases J.mem.mp hm with rfl | rfl | hm
  · rw [J.fit] at h; cases h
  · rw [J.fL] at h; cases h
  · exact hb hm
theorem Fi.after (J : Fj prog w mg mb K sc outer envf l1 l2 x dx u it S ns sk) (f : Fi sc outer envf l1 l2 x dx u it S i zs s) {j : Nat} (k : KF (it :: frs (envf :: outer)) s s') (h : s'.heap.IsListIter it l1 j) : Fi sc outer envf l1 l2 x dx u it S j zs s' := by
  have off : ∀ {b : Addr} {o : Obj}, s.heap.get? b = some o → (∀ es ep, o.data ≠ .dict es ep) → o.cls ≠ .type "list_iterator" → b ∉ it :: frs (envf :: outer) := fun {b o} q hd hc hm => by
    rcases List.mem_cons.mp hm with rfl | hm
    · obtain ⟨oi, hoi, hci, _⟩ := f.hit
      rw [q] at hoi; cases hoi; exact hc hci
    · exact (f.frs' J).off q hd hm
  refine ⟨?_, ?_, k.get (off f.hx (fun _ _ q => by cases q) (show Value.ref 54 ≠ .type "list_iterator" by decide)) f.hx, k.get (fun hm => ?_) f.hdx, k.get (off f.hu (fun _ _ q => by cases q) (show Value.type "method-wrapper" ≠ .type "list_iterator" by decide)) f.hu, h, ?_⟩
  · obtain ⟨h1, t1, rfl, k1, u1⟩ := f.kf
    obtain ⟨h2, t2, rfl, k2, u2⟩ := k
    exact ⟨h2, t2, rfl, fun b o hb q => k2 b o (J.offOld q hb) (k1 b o hb q), u1.trans u2⟩
  · obtain ⟨m, hn⟩ := f.ns; exact ⟨m, k.ns hn⟩
  · rcases J.mem.mp hm with q | q | q
    · exact J.di q
    · exact J.dL q
    · exact J.F.off_none J.fdx q
  · obtain ⟨vs, n, q, r⟩ := f.li
    exact ⟨vs, n, k.get (off q (fun _ _ z => by cases z) (show Value.type "list" ≠ .type "list_iterator" by decide)) q, r⟩
theorem Fi.set (J : Fj prog w mg mb K sc outer envf l1 l2 x dx u it S ns sk) (f : Fi sc outer envf l1 l2 x dx u it S i zs s) {h' : Heap} {tk : Nat} {zs' : List Int} (hs : Heap.SameBut S s.heap h') (hl : Li h' S zs') : Fi sc outer envf l1 l2 x dx u it S i zs' { s with heap := h', toks := tk } := by
  have ne : ∀ {b : Addr} {o : Obj}, s.heap.get? b = some o → o.cls ≠ .type "list" → b ≠ S := fun {b o} q hc r => by
    subst r
    obtain ⟨vs, n, e, _⟩ := f.li
    rw [q] at e; cases e; exact hc rfl
  refine ⟨f.kf.other J.fS hs, ?_, same_get hs (ne f.hx (show Value.ref 54 ≠ .type "list" by decide)) f.hx, same_get hs (ne f.hdx (show Value.type "dict" ≠ .type "list" by decide)) f.hdx, same_get hs (ne f.hu (show Value.type "method-wrapper" ≠ .type "list" by decide)) f.hu, ?_, hl⟩
  · obtain ⟨m, hn⟩ := f.ns
    exact ⟨m, hn.sameBut hs (ns_li_ne hn f.li).symm⟩
  · obtain ⟨oi, hoi, hci, hdi⟩ := f.hit
    exact ⟨oi, same_get hs (ne hoi (by rw [hci]; decide)) hoi, hci, hdi⟩

theorem filter_take {ns sk : List Int} {i j : Nat} {a : Int} (ej : ns[j]? = some a) (ha : a ∉ sk) (hij : i ≤ j) (h : ∀ b ∈ (ns.take j).drop i, b ∈ sk) :
    (ns.take (j + 1)).filter (fun y => decide (y ∉ sk)) = (ns.take i).filter (fun y => decide (y ∉ sk)) ++ [a] := by
  have e1 : ns.take j = ns.take i ++ (ns.take j).drop i := by
    conv => lhs; rw [← List.take_append_drop i (ns.take j)]
    rw [List.take_take, Nat.min_eq_left hij]
  rw [take_succ_some ej, List.filter_append, e1, List.filter_append]
  have e2 : ((ns.take j).drop i).filter (fun y => decide (y ∉ sk)) = [] := List.filter_eq_nil_iff.mpr fun y hy => by simpa using h y hy
  rw [e2]
  simp [ha]

theorem extend_loop (J : Fj prog w mg mb K sc outer envf l1 l2 x dx u it S ns sk) (hd : A.depth < recursionLimit) (hh : A.handled = none) (hfr : A.frames = some (envf :: outer))
    (hR : ∀ s', KF (frs outer) sc s' → Li s'.heap S (ns.filter fun y => decide (y ∉ sk)) → R (.ok (.ret .none)) s') :
    ∀ (n i : Nat) (s : Shared), n = ns.length - i → i ≤ ns.length → Fi sc outer envf l1 l2 x dx u it S i ((ns.take i).filter fun y => decide (y ∉ sk)) s → codeAny (model prog w) A (.builtin "list.extend.loop" ⟨[.ref S, .ref x, .none], []⟩) R s := by
  intro n
  induction n using Nat.strongRecOn with
  | ind n ih =>
    intro i s hn hi f
    refine codeAny_builtin PySem.F.entry_extend_loop ?_
    rw [Around.under_plainId PySem.F.plain_extend_loop _]
    unfold Builtin.«list.extend.loop»
    have hst : isSubtype (.type "StopIteration") (.type "StopIteration") = pure true := by rw [isSubtype_type]; kernel_rfl
    show wpAny _ _ (pyNext (.ref x) >>= _) _ _ s
    refine wpAny_bind ?_
    unfold pyNext
    have I : InstAt s.heap x (instX dx u it) 54 (some emptyDict) := ⟨f.hx, rfl, rfl, f.hdx⟩
    refine wpAny_bind (wpAny_attempt (special_fn (name := "__next__") (args := []) (f.kin J) I J.C.next (beq_iff_eq.mp J.C.nextF) ?_))
    refine next_call (A := A.in1) (fr := envf :: outer) J.C (f.kin J) (J.W.kf J.F f.kf) (J.M3.kf J.F f.kf) hd hh hfr (f.frs' J) f.hx f.hdx f.hu (f.kf.li J.l1 (J.F.off_li J.l1)) (f.kf.li J.l2 (J.F.off_li J.l2)) f.hit hi J.len
      (fun a o q => J.offOld (J.X a o q) (J.hK a o q)) (fun hm => ?_) (fun hm => ?_) ?_ ?_
    · rcases J.mem.mp hm with q | q | q
      · exact J.di q
      · exact J.dL q
      · exact J.F.off_none J.fdx q
    · simp only [frs, List.filterMap_cons, J.ef, List.mem_cons] at hm
      rcases hm with q | q
      · exact J.iL q
      · exact J.F.off_none J.fit q
    · intro j a t s' k hit' ej ha hij hb
      have f' := f.after J k hit'
      have hj : j < ns.length := (List.getElem?_eq_some_iff.mp ej).1
      refine wpAny_pure ?_
      dsimp only
      obtain ⟨vs, c, e, iv⟩ := f'.li
      have hlen : vs.length ≤ 1000 := by
        rw [iv.length]
        exact Nat.le_trans (List.length_filter_le _ _) (Nat.le_trans (List.length_take_le _ _) (Nat.le_trans hi J.len))
      have hline := sizeLine_eq
      show wpAny _ _ (updateSeq S (·.push (Value.int a t)) >>= fun _ => again (.builtin "list.extend.loop" ⟨[.ref S, .ref x, .none], []⟩)) _ _ _
      refine wpAny_bind (wpAny_updateSeq e rfl ?_ (by simp; omega) (by simp; omega))
      refine wpAny_pure ⟨plainId_quiet PySem.F.plain_extend_loop _, ih (ns.length - (j + 1)) (by omega) (j + 1) _ rfl hj ?_⟩
      refine f'.set J (tk := s'.toks) (Heap.SameBut.update ..) ?_
      rw [filter_take ej ha hij hb]
      exact li_upd e _ (ws := vs ++ [.int a t]) (by simp) (iv.append (.cons a t .nil)) (xs := ns)
    · intro e s' k hT hb
      refine wpAny_bind (wpAny_isInstance hT hst ?_)
      rw [if_pos rfl]
      refine wpAny_pure (wpAny_pure (hR s' ?_ ?_))
      · obtain ⟨h1, t1, rfl, k1, u1⟩ := f.kf
        obtain ⟨h2, t2, rfl, k2, u2⟩ := k
        exact ⟨h2, t2, rfl, fun b o hb q => k2 b o (J.offOld q hb) (k1 b o hb q), u1.trans u2⟩
      · have hz : ns.filter (fun y => decide (y ∉ sk)) = (ns.take i).filter (fun y => decide (y ∉ sk)) := by
          conv => lhs; rw [← List.take_append_drop i ns, List.filter_append]
          rw [show (ns.drop i).filter (fun y => decide (y ∉ sk)) = [] from List.filter_eq_nil_iff.mpr (fun y hy => by simpa using hb y hy), List.append_nil]
        rw [hz]
        obtain ⟨vs, n, q, r⟩ := f.li
        refine ⟨vs, n, k.get (fun hm => ?_) q, r⟩
        rcases List.mem_cons.mp hm with rfl | hm
        · obtain ⟨oi, hoi, hci, _⟩ := f.hit
          rw [q] at hoi; cases hoi; exact absurd hci (show Value.type "list" ≠ .type "list_iterator" by decide)
        · exact (f.frs' J).off q (fun _ _ z => by cases z) hm
end
end Mine

-- ================ Fil4 ================
namespace Mine
section
variable {prog : Program} {w : World} {A : Around} {E : Value → Shared → Prop} {R : Result → Shared → Prop} {s s' : Shared} {m : Str → Option Value} {mg mb : Str → Option Value} {K : Frag} {ns sk : List Int} {l1 l2 x dx u it S L : Addr} {outer : List Env} {envf : Env} {sc : Shared}

theorem KF.fresh {s₀ s : Shared} {e : Addr} (k : KF (frs outer) s₀ s) (hf : Frs s₀.heap outer) (h : s.heap.objs.size ≤ e) : s₀.heap.get? e = none := k.none_back hf (fresh_size h)

theorem iter_call {Q : Value → Shared → Prop} (W : Wd mg mb s.heap) (M2 : IsMt s.heap 2 43) (hd : A.depth < recursionLimit) (h : ∀ s', Keeps s s' → Q (.ref x) s') :
    wpAny (model prog w) A (call (.ref 43) [.ref x]) Q E s := by
  obtain ⟨o, pm, cd, ho, hdt, hcd⟩ := M2
  refine wpAny_call (codeAny_call_cells (fd := fdM (mtAt 2) pm cd) (body := bodyOf (mtAt 2)) (binds := [("self", .ref x)]) hd ho hdt W.lim hcd (by kernel_rfl) (by kernel_rfl) (by kernel_rfl)
    (by intro y hy; simp only [List.mem_singleton] at hy; subst hy; exact .inl (by kernel_rfl)) (fun s₁ z => ?_) (by kernel_rfl) (by kernel_rfl) (by kernel_rfl))
  have kk : Keeps s s₁ := let ⟨h', tk, e, k⟩ := z.done; ⟨h', tk, e, k⟩
  have hn₁ := z.toInCall.ns
  clear z
  generalize hm : bindL _ _ (fun _ => none) = m₁ at hn₁
  have ms : m₁ "self" = some (.ref x) := by subst hm; kernel_rfl
  clear hm
  exact wpAny_execs_cons (wpAny_Return_some (nL hn₁ ms (h _ kk)))

theorem KF.kp {fs : List Addr} {s₀ : Shared} (x : KF fs s₀ s) (y : Keeps s s') : KF fs s₀ s' := x.trans (.of_kp y)

theorem Fi.kp {i : Nat} {zs : List Int} (f : Fi sc outer envf l1 l2 x dx u it S i zs s) (k : Keeps s s') : Fi sc outer envf l1 l2 x dx u it S i zs s' :=
  ⟨f.kf.kp k, (let ⟨m, h⟩ := f.ns; ⟨m, h.keeps (kp_all k)⟩), kp_all k _ _ f.hx, kp_all k _ _ f.hdx, kp_all k _ _ f.hu, (let ⟨o, h1, h2⟩ := f.hit; ⟨o, kp_all k _ _ h1, h2⟩), f.li.kp k⟩

set_option maxHeartbeats 1000000 in
theorem list_own {Q : Value → Shared → Prop} (hd : A.depth < recursionLimit) (hh : A.handled = none) (hfr : A.frames = some (envf :: outer)) (hL : sc.heap.objs.size ≤ envf.locals)
    (J : ∀ S, sc.heap.get? S = none → Fj prog w mg mb K sc outer envf l1 l2 x dx u it S ns sk)
    (hF : Frs sc.heap outer) (f00 : KF (frs outer) sc s) (f : ∀ S s', Keeps s s' → Li s'.heap S [] → Fi sc outer envf l1 l2 x dx u it S 0 [] s')
    (h : ∀ D s', sc.heap.get? D = none → KF (frs outer) sc s' → Li s'.heap D (ns.filter fun y => decide (y ∉ sk)) → Q (.ref D) s') :
    wpAny (model prog w) A (call (.type "list") [.ref x]) Q E s := by
  refine callType_codes (Q₁ := fun obj s₁ => obj = .ref s.heap.objs.size ∧ s₁ = { s with heap := s.heap.push { cls := .type "list", data := .seq #[] } }) F.called_list (F.typeCall_list_1 _) F.entry_list_init
    (code_list_new _ ⟨rfl, rfl⟩) fun obj s₁ h₁ => ?_
  obtain ⟨rfl, rfl⟩ := h₁
  have hS₀ : (s.heap.push { cls := .type "list", data := .seq #[] }).get? s.heap.objs.size = some { cls := .type "list", data := .seq #[] } := Heap.get?_push_size _ rfl
  have kp₁ : Keeps s { s with heap := s.heap.push { cls := .type "list", data := .seq #[] } } := ⟨_, _, rfl, push_keep _ _⟩
  have fS : s.heap.get? s.heap.objs.size = none := fresh_size (Nat.le_refl _)
  generalize s.heap.objs.size = S at *
  generalize hs₁ : ({ s with heap := s.heap.push { cls := .type "list", data := .seq #[] } } : Shared) = s₁ at *
  have hS : s₁.heap.get? S = some { cls := .type "list", data := .seq #[] } := by subst hs₁; exact hS₀
  have f0 := f S s₁ kp₁ ⟨[], _, hS, .nil⟩
  have hSn : sc.heap.get? S = none := f00.none_back hF fS
  clear f hS₀ hs₁ kp₁
  have J := J S hSn
  refine ⟨⟨_, hS, rfl⟩, F.args_list_init_2 _ _, ?_⟩
  show wpAny _ A.in1.in1 (do let old ← Builtin.List.listItems (.ref S); Builtin.List.listUpdate (.ref S) (fun _ => #[]); letGo old.toList.reverse; Builtin.List.listExtendWith (.ref S) (.ref x) .none) _ _ _
  refine wpAny_bind ?_
  unfold Builtin.List.listItems
  refine wpAny_bind (wpAny_seqItems hS rfl (wpAny_pure ?_))
  show wpAny _ A.in1.in1 (updateSeq S (fun _ => #[]) >>= fun _ => letGo (#[] : Array Value).toList.reverse >>= fun _ => Builtin.List.listExtendWith (.ref S) (.ref x) .none) _ _ _
  refine wpAny_bind (wpAny_updateSeq hS rfl ?_)
  refine wpAny_bind (wpAny_letGo ?_)
  have hS₂ := Heap.get?_update_self (Obj.mapSeq (fun _ => (#[] : Array Value))) hS rfl
  have f1 := f0.set J (Heap.SameBut.update s₁.heap S (Obj.mapSeq (fun _ => (#[] : Array Value)))) (tk := s₁.toks) (zs' := []) ⟨[], _, hS₂, .nil⟩
  clear f0
  revert f1 hS₂
  generalize s₁.heap.update S (Obj.mapSeq (fun _ => (#[] : Array Value))) = h₂
  intro hS₂ f1
  generalize hs₂ : ({ s₁ with heap := h₂ } : Shared) = s₂
  have f1 : Fi sc outer envf l1 l2 x dx u it S 0 [] s₂ := by subst hs₂; exact f1
  have hS₂ : s₂.heap.get? S = some { cls := .type "list", data := .seq #[] } := by subst hs₂; exact hS₂
  have X₂ := f1.kin J
  have I : InstAt s₂.heap x (instX dx u it) 54 (some emptyDict) := ⟨f1.hx, rfl, rfl, f1.hdx⟩
  unfold Builtin.List.listExtendWith
  refine wpAny_bind (I.type.here ?_)
  have q1 : Builtin.List.listSameRef (.ref S) (.ref x) = false := by
    have : S ≠ x := fun e => by subst e; rw [f1.hx] at hS₂; cases hS₂
    simp [Builtin.List.listSameRef, this]
  have q2 : (Value.ref 54 == Value.type "list") = false := by decide
  have q3 : (Value.ref 54 == Value.type "tuple") = false := by decide
  simp only [q1, q2, q3, Bool.or_false, Bool.false_eq_true, if_false]
  obtain ⟨mf, hmf⟩ := f1.ns
  have F₂ : Fr (hideAll sc.heap (frs outer)) envf.locals s₂.heap mf := ⟨hmf, fun b o q => by
    by_cases hb : b ∈ frs outer
    · rw [hideAll_none _ hb] at q; cases q
    · exact f1.kf.get hb (of_hideAll _ q), by rw [hideAll_size]; exact hL⟩
  have Xh : K.In (hideAll sc.heap (frs outer)) := fun a o q => hideAll_get _ (J.X a o q) (J.hK a o q)
  refine wpAny_bind (owit_iter F₂ Xh I J.C.iter J.C.iterF (iter_call (J.W.kf J.F f1.kf) (J.M2.kf J.F f1.kf) hd fun s₃ k₃ => ?_))
  have f3 := f1.kp k₃
  have X₃ := f3.kin J
  have I₃ : InstAt s₃.heap x (instX dx u it) 54 (some emptyDict) := ⟨f3.hx, rfl, rfl, f3.hdx⟩
  refine owit_it ⟨hmf.keeps (kp_all k₃), fun b o q => kp_all k₃ _ _ (F₂.keep b o q), F₂.above⟩ Xh I₃ J.C.next ?_
  refine wpAny_bind (wpAny_holding ?_)
  unfold Builtin.List.listLengthHint
  refine wpAny_bind (wpAny_bind (I₃.type.here ((looks_findIn X₃ J.C.len).here ?_)))
  show wpAny _ A.in1.in1 (specialOf (Value.ref x) (Str.ofString "__length_hint__") >>= _) _ _ _
  refine wpAny_bind (wpAny_bind (I₃.type.here ((looks_findIn X₃ J.C.hint).here ?_)))
  refine wpAny_pure ?_
  show wpAny _ A.in1.in1 (rule "list.extend.makes-room" >>= fun _ => Builtin.List.listTouch (.ref S) >>= fun _ =>
    again (.builtin "list.extend.loop" ⟨[.ref S, .ref x, .none], []⟩)) _ _ _
  refine wpAny_bind (wpAny_rule ?_)
  refine wpAny_bind ?_
  show wpAny _ A.in1.in1 (updateSeq S (·.push .none) >>= fun _ => updateSeq S (·.pop)) _ _ _
  have hS₃ := kp_all k₃ _ _ hS₂
  refine wpAny_bind (wpAny_updateSeq hS₃ rfl ?_)
  have hS₄ := Heap.get?_update_self (Obj.mapSeq (·.push Value.none)) hS₃ rfl
  refine wpAny_updateSeq (hz := by seq_fits) hS₄ rfl ?_
  have hS₅ := Heap.get?_update_self (Obj.mapSeq (·.pop)) hS₄ rfl
  have f5 := f3.set J ((Heap.SameBut.update s₃.heap S (Obj.mapSeq (·.push Value.none))).trans (Heap.SameBut.update _ S (Obj.mapSeq (·.pop)))) (tk := s₃.toks) (zs' := []) ⟨[], _, hS₅, .nil⟩
  refine wpAny_pure ⟨plainId_quiet PySem.F.plain_extend_loop _, extend_loop (A := A.in1) J hd hh hfr (fun s' k hl => ⟨rfl, h S s' hSn k hl⟩) ns.length 0 _ rfl (Nat.zero_le _) ?_⟩
  simpa using f5
end
end Mine

-- ================ Fil5 ================
namespace Mine

structure Fx (mg : Str → Option Value) (h : Heap) : Prop where
  gff : mg "filterfalse" = some (.ref 54)
  flt : IsFn mg h 4 65 .none .none
  m1 : IsMt h 1 36
  m2 : IsMt h 2 43
  m3 : IsMt h 3 50
theorem Fx.kf {l : List Env} {s s' : Shared} {mg : Str → Option Value} (hF : Frs s.heap l) (kf : KF (frs l) s s') (x : Fx mg s.heap) : Fx mg s'.heap :=
  ⟨x.gff, x.flt.kf hF kf, x.m1.kf hF kf, x.m2.kf hF kf, x.m3.kf hF kf⟩
theorem IsMt.keep {h h' : Heap} {k : Nat} {a : Addr} (x : IsMt h k a) (kp : ∀ b o, h.get? b = some o → h'.get? b = some o) : IsMt h' k a :=
  let ⟨o, pm, cd, h1, h2, h3⟩ := x; ⟨o, pm, cd, kp _ _ h1, h2, h3.keeps kp⟩

section
variable {prog : Program} {w : World} {A : Around} {E : Value → Shared → Prop} {R : Result → Shared → Prop} {s s' : Shared} {m : Str → Option Value} {mg mb : Str → Option Value} {K : Frag} {ns sk : List Int} {l1 l2 x dx u it S L : Addr} {outer : List Env} {envf : Env} {sc : Shared}

abbrev envF (pm cd : Value) (L : Addr) : Env := callEnvC (fdX (stAt 4) .none .none pm cd) L 65

set_option maxHeartbeats 1000000 in
theorem filter_call {Q : Value → Shared → Prop} (C : Ck K) (X : K.In s.heap) (hK : ∀ a o, K.lookup a = some o → a ∉ frs outer) (W : Wd mg mb s.heap) (Y : Fx mg s.heap) (hd : A.depth + 8 < recursionLimit) (hh : A.handled = none) (hfr : A.frames = some outer)
    (hF : Frs s.heap outer) (hl1 : Li s.heap l1 ns) (hl2 : Li s.heap l2 sk) (hlen : ns.length ≤ 1000)
    (h : ∀ D s', s.heap.get? D = none → KF (frs outer) s s' → Li s'.heap D (ns.filter fun y => decide (y ∉ sk)) → Q (.ref D) s') :
    wpAny (model prog w) A (call (.ref 65) [.ref l1, .ref l2]) Q E s := by
  obtain ⟨o, pm, cd, ho, hdt, hcd⟩ := Y.flt.there
  refine wpAny_call (codeAny_call_cells (fd := fdX (stAt 4) .none .none pm cd) (body := bodyOf (stAt 4)) (binds := [("flist", .ref l1), ("skip", .ref l2)]) (by omega) ho hdt W.lim hcd (by kernel_rfl) (by kernel_rfl) (by kernel_rfl)
    (by intro x hx; simp only [List.mem_cons, List.not_mem_nil, or_false] at hx; rcases hx with rfl | rfl <;> exact .inl (by kernel_rfl)) (fun s₁ x => ?_) (by kernel_rfl) (by kernel_rfl) (by kernel_rfl))
  have kk : Keeps s s₁ := let ⟨h', tk, e, k⟩ := x.done; ⟨h', tk, e, k⟩
  have hn₁ := x.toInCall.ns
  have hL : s.heap.get? s.heap.objs.size = none := fresh_size (Nat.le_refl _)
  clear x
  have W1 := W.keep (kp_all kk)
  generalize hm : bindL _ _ (fun _ => none) = m₁ at hn₁
  have mf₁ : m₁ "flist" = some (.ref l1) := by subst hm; kernel_rfl
  have ms₁ : m₁ "skip" = some (.ref l2) := by subst hm; kernel_rfl
  clear hm
  refine wpAny_execs_cons (wpAny_Return_some (Call_ (nB W1.g W1.b W1.glist W1.blist (cwT (args_cons (Call_ (nG W1.g Y.gff ?_)))))))
  have X₁ : K.In s₁.heap := fun a o q => kp_all kk _ _ (X a o q)
  refine callWith_K X₁ C.keep (args_cons (Attribute_name (nL hn₁ ms₁ ?_)))
  refine getAttr_contains (hl2.kp kk) fun tk₂ => ?_
  generalize hs₂ : ({ s₁ with heap := s₁.heap.push (mwObj l2), toks := tk₂ } : Shared) = s₂
  have k₂ : Keeps s₁ s₂ := by subst hs₂; exact ⟨_, _, rfl, push_keep _ _⟩
  have hu₂ : s₂.heap.get? s₁.heap.objs.size = some (mwObj l2) := by subst hs₂; exact Heap.get?_push_size _ rfl
  have fu : s₁.heap.get? s₁.heap.objs.size = none := fresh_size (Nat.le_refl _)
  generalize s₁.heap.objs.size = u at *
  clear hs₂
  have hn₂ := hn₁.keeps (kp_all k₂)
  have X₂ : K.In s₂.heap := fun a o q => kp_all k₂ _ _ (X₁ a o q)
  refine args_cons (nL hn₂ mf₁ (args_nil ⟨X₂, ?_⟩))
  -- the new filter
  have kf₂ : KF (frs outer) s s₂ := (KF.of_kp kk).kp k₂
  have hn₂' : s₂.heap.Ns (envF pm cd s.heap.objs.size).locals m₁ := hn₂
  have W₂ := W.kf hF kf₂
  have Y₂ := Y.kf hF kf₂
  have hl1₂ := (hl1.kp kk).kp k₂
  have hl2₂ := (hl2.kp kk).kp k₂
  clear hn₂ hn₁ W1 X₁
  obtain ⟨h₂, g, d, t, os⟩ := s₂
  refine wpAny_call (make_core (makes_of X₂ C.makes) (looks_findIn X₂ C.init) (fun self => bind_fn X₂ self C.initT) (.inl rfl) ?_)
  have hx₃ : ((h₂.push emptyDict).push (instObj 54 h₂.objs.size)).get? (h₂.objs.size + 1) = some (instObj 54 h₂.objs.size) := by heap_get
  have hdx₃ : ((h₂.push emptyDict).push (instObj 54 h₂.objs.size)).get? h₂.objs.size = some emptyDict := by heap_get
  have fx₂ : h₂.get? (h₂.objs.size + 1) = none := fresh_size (Nat.le_succ _)
  have fdx₂ : h₂.get? h₂.objs.size = none := fresh_size (Nat.le_refl _)
  have k₃ : Keeps (⟨h₂, g, d, t, os⟩ : Shared) ⟨(h₂.push emptyDict).push (instObj 54 h₂.objs.size), g, d, t, os⟩ := ⟨_, _, rfl, fun b o q => Heap.get?_push_of_some _ (Heap.get?_push_of_some _ q)⟩
  have dLt : (envF pm cd s.heap.objs.size).locals < h₂.objs.size := hn₂'.lt
  have hne : h₂.objs.size ≠ h₂.objs.size + 1 := Nat.ne_of_lt (Nat.lt_succ_self _)
  generalize hx₀ : h₂.objs.size + 1 = x at *
  generalize hdx₀ : h₂.objs.size = dx at *
  generalize (h₂.push emptyDict).push (instObj 54 dx) = h₃ at *
  have kf₃ : KF (frs outer) s ⟨h₃, g, d, t, os⟩ := kf₂.kp k₃
  refine init_call (s := ⟨h₃, g, d, t, os⟩) C (fun a o q => kp_all k₃ _ _ (X₂ a o q)) (W₂.keep (kp_all k₃)) (Y₂.m1.keep (kp_all k₃)) (show A.depth + 1 + 1 < recursionLimit by omega) (fun a o q z => ?_) hx₃ hdx₃ hne (hl1₂.kp k₃) ?_
  · subst z
    have := X₂ a o q
    rw [fx₂] at this; cases this
  · intro it h₄ tk₄ k₄ hx₄ fit hit
    refine ⟨rfl, ?_⟩
    have fx : s.heap.get? x = none := kf₂.none_back hF fx₂
    have kf₄ : KF (frs outer) s ⟨h₄, g, d, tk₄, os⟩ := by
      obtain ⟨h', t', e, q, r⟩ := kf₃
      cases e
      refine ⟨h₄, tk₄, rfl, fun b o hb e => k₄ b o (fun z => by subst z; rw [fx] at e; cases e) (q b o hb e), fun b o e hnf => ?_⟩
      obtain ⟨sl, e'⟩ := r b o e hnf
      exact ⟨sl, k₄ b _ (fun z => by subst z; rw [fx] at e; cases e) e'⟩
    have hn₃ : h₃.Ns (envF pm cd s.heap.objs.size).locals m₁ := hn₂'.keeps (kp_all k₃)
    obtain ⟨oL, hoL⟩ : ∃ o, h₃.get? (envF pm cd s.heap.objs.size).locals = some o := by
      obtain ⟨o, _, _, e, _⟩ := hn₃
      exact ⟨o, e⟩
    have Lx : (envF pm cd s.heap.objs.size).locals ≠ x := fun z => by
      rw [z, ← hx₀] at dLt
      exact absurd dLt (Nat.not_lt.mpr (Nat.le_succ _))
    have hn₄ : h₄.Ns (envF pm cd s.heap.objs.size).locals m₁ := hn₃.at fun o e => k₄ _ _ Lx e
    have hdx₄ : h₄.get? dx = some emptyDict := k₄ _ _ hne hdx₃
    have hu₄ : h₄.get? u = some (mwObj l2) := k₄ _ _ (fun z => by subst z; rw [fx₂] at hu₂; cases hu₂) (kp_all k₃ _ _ hu₂)
    refine args_nil (list_own (sc := s) (s := ⟨h₄, g, d, tk₄, os⟩) (envf := envF pm cd s.heap.objs.size) (mg := mg) (mb := mb) (outer := outer) (l1 := l1) (l2 := l2) (dx := dx) (u := u) (it := it) (ns := ns) (sk := sk) (K := K) (show A.depth + 1 < recursionLimit by omega) hh (show A.frames.map _ = _ by rw [hfr]; rfl) (Nat.le_refl _) (fun S fS => ?_) hF kf₄ (fun S s' k hl => ?_) h)
    · refine ⟨C, X, hK, W, Y.m2, Y.m3, hF, rfl, ?_, hL, fx, kf₂.none_back hF fdx₂, (KF.of_kp kk).none_back hF fu, kf₃.none_back hF fit, fS, Ne.symm (Nat.ne_of_lt dLt), ?_, ?_, hl1, hl2, hlen⟩
      · exact (show (envF pm cd s.heap.objs.size).scope.kind = .function by kernel_rfl) ▸ (by decide)
      · intro z; rw [z] at fit; rw [hoL] at fit; cases fit
      · intro z; rw [← z, hdx₃] at fit; cases fit
    · exact ⟨kf₄.kp k, ⟨m₁, hn₄.keeps (kp_all k)⟩, kp_all k _ _ hx₄, kp_all k _ _ hdx₄, kp_all k _ _ hu₄, (let ⟨o, h1, h2⟩ := hit; ⟨o, kp_all k _ _ h1, h2⟩), hl⟩
end
end Mine

-- ================ Loop ================
namespace Mine

/-- all is kept exactly, off X -/
def Kx (X : List Addr) (s s' : Shared) : Prop := ∃ h tk, s' = { s with heap := h, toks := tk } ∧ ∀ b o, b ∉ X → s.heap.get? b = some o → h.get? b = some o
theorem Kx.refl {X : List Addr} (s : Shared) : Kx X s s := ⟨_, _, rfl, fun _ _ _ e => e⟩
theorem Kx.trans {X : List Addr} {a b c : Shared} (x : Kx X a b) (y : Kx X b c) : Kx X a c := by
  obtain ⟨h, t, rfl, k⟩ := x
  obtain ⟨h', t', rfl, k'⟩ := y
  exact ⟨h', t', rfl, fun b o hb e => k' b o hb (k b o hb e)⟩
theorem Kx.get {X : List Addr} {s s' : Shared} (x : Kx X s s') {b : Addr} {o : Obj} (hb : b ∉ X) (e : s.heap.get? b = some o) : s'.heap.get? b = some o := by
  obtain ⟨h, t, rfl, k⟩ := x
  exact k b o hb e
theorem Kx.li {X : List Addr} {s s' : Shared} (x : Kx X s s') {l : Addr} {ns : List Int} (hl : Li s.heap l ns) (hf : l ∉ X) : Li s'.heap l ns := hl.at fun _ e => x.get hf e
theorem Kx.of_kp {X : List Addr} {s s' : Shared} (k : Keeps s s') : Kx X s s' := by
  obtain ⟨h, t, rfl, k⟩ := k
  exact ⟨h, t, rfl, fun b o _ e => k b o e⟩
theorem Kx.kp {X : List Addr} {s s' s'' : Shared} (x : Kx X s s') (k : Keeps s' s'') : Kx X s s'' := x.trans (.of_kp k)
theorem Kx.of_kf {X fs : List Addr} {s s' : Shared} (k : KF fs s s') (h : ∀ b ∈ fs, b ∈ X) : Kx X s s' := by
  obtain ⟨h', t, rfl, k, _⟩ := k
  exact ⟨h', t, rfl, fun b o hb e => k b o (fun q => hb (h b q)) e⟩
theorem Kx.mono {X Y : List Addr} {s s' : Shared} (x : Kx X s s') (h : ∀ b ∈ X, b ∈ Y) : Kx Y s s' := by
  obtain ⟨h', t, rfl, k⟩ := x
  exact ⟨h', t, rfl, fun b o hb e => k b o (fun q => hb (h b q)) e⟩
theorem Kx.of_but {X : List Addr} {s : Shared} {a : Addr} {h' : Heap} {tk : Nat} (hs : Heap.ExtBut a s.heap h') (h : a ∈ X) : Kx X s { s with heap := h', toks := tk } :=
  ⟨h', tk, rfl, fun b o hb e => hs b o (fun q => hb (q ▸ h)) e⟩
theorem Kx.but {X : List Addr} {s s' : Shared} {a : Addr} {h' : Heap} {tk : Nat} (x : Kx X s s') (hs : Heap.ExtBut a s'.heap h') (h : a ∈ X) : Kx X s { s' with heap := h', toks := tk } := x.trans (.of_but hs h)
theorem Kx.new {X : List Addr} {s s' : Shared} {a : Addr} {h' : Heap} {tk : Nat} (x : Kx X s s') (hs : Heap.ExtBut a s'.heap h') (h : s.heap.get? a = none) : Kx X s { s' with heap := h', toks := tk } := by
  obtain ⟨h₁, t, rfl, k⟩ := x
  exact ⟨h', tk, rfl, fun b o hb e => hs b o (fun q => by subst q; rw [h] at e; cases e) (k b o hb e)⟩
theorem Kx.none_back {X : List Addr} {s s' : Shared} {a : Addr} (x : Kx X s s') (h : s'.heap.get? a = none) (ha : a ∉ X) : s.heap.get? a = none := by
  cases q : s.heap.get? a with
  | none => rfl
  | some o => rw [x.get ha q] at h; cases h

/-- a function at work: the frame at L, its cells; all else since s₀ is kept -/
structure Lw (s₀ : Shared) (outer : List Env) (L : Addr) (m : Str → Option Value) (cl : List (Addr × Option Value)) (s : Shared) : Prop where
  kf : KF (frs outer) s₀ s
  ns : s.heap.Ns L m
  cs : ∀ p ∈ cl, s.heap.IsCell p.1 p.2
  fr : Frs s₀.heap outer
  fL : s₀.heap.get? L = none
  fc : ∀ p ∈ cl, s₀.heap.get? p.1 = none

section
variable {s₀ s s' : Shared} {outer : List Env} {L : Addr} {m : Str → Option Value} {cl : List (Addr × Option Value)}

theorem KF.but {fs : List Addr} {s₀ s : Shared} {a : Addr} {h' : Heap} {tk : Nat} (x : KF fs s₀ s) (ha : s₀.heap.get? a = none) (hs : Heap.ExtBut a s.heap h') : KF fs s₀ { s with heap := h', toks := tk } := by
  obtain ⟨h, t, rfl, k, u⟩ := x
  have ne : ∀ b o, s₀.heap.get? b = some o → b ≠ a := fun b o q r => by rw [r, ha] at q; cases q
  refine ⟨h', tk, rfl, fun b o hb q => hs b o (ne b o q) (k b o hb q), fun b o q hn => ?_⟩
  obtain ⟨sl, r⟩ := u b o q hn
  exact ⟨sl, hs b _ (ne b o q) r⟩

theorem Lw.none_back (x : Lw s₀ outer L m cl s) {a : Addr} (h : s.heap.get? a = none) : s₀.heap.get? a = none := x.kf.none_back x.fr h
theorem Lw.kp (x : Lw s₀ outer L m cl s) (k : Keeps s s') : Lw s₀ outer L m cl s' :=
  ⟨x.kf.kp k, x.ns.keeps (kp_all k), fun p hp => (x.cs p hp).keeps (kp_all k), x.fr, x.fL, x.fc⟩
theorem Lw.toks (x : Lw s₀ outer L m cl s) (tk : Nat) : Lw s₀ outer L m cl { s with toks := tk } := x.kp ⟨_, _, rfl, fun _ _ e => e⟩
theorem Lw.frs (x : Lw s₀ outer L m cl s) {env : Env} (hf : env.frame = some L) (hk : env.scope.kind ≠ .module) : Frs s.heap (env :: outer) := ⟨hk, ⟨L, m, hf, x.ns⟩, x.fr.up x.kf.slots⟩
theorem frs_cons {env : Env} (hf : env.frame = some L) : frs (env :: outer) = L :: frs outer := by simp only [Mine.frs, List.filterMap_cons, hf]
theorem KF.drop {s₀ s s' : Shared} (x : KF (frs outer) s₀ s) (y : KF (L :: frs outer) s s') (fL : s₀.heap.get? L = none) : KF (frs outer) s₀ s' := by
  obtain ⟨h, t, rfl, k, u⟩ := x
  obtain ⟨h', t', rfl, k', u'⟩ := y
  refine ⟨h', t', rfl, fun b o hb e => k' b o (fun q => ?_) (k b o hb e), u.trans u'⟩
  rcases List.mem_cons.mp q with rfl | q
  · rw [fL] at e; cases e
  · exact hb q
theorem Lw.kf' (x : Lw s₀ outer L m cl s) (k : KF (L :: Mine.frs outer) s s') : Lw s₀ outer L m cl s' :=
  ⟨x.kf.drop k x.fL, k.ns x.ns, fun p hp => k.cell (x.cs p hp), x.fr, x.fL, x.fc⟩
theorem Lw.but (x : Lw s₀ outer L m cl s) {a : Addr} {h' : Heap} {tk : Nat} (hs : Heap.ExtBut a s.heap h') (ha : s₀.heap.get? a = none) (hL : a ≠ L) (hc : ∀ p ∈ cl, a ≠ p.1) : Lw s₀ outer L m cl { s with heap := h', toks := tk } :=
  ⟨x.kf.but ha hs, x.ns.extBut hs (Ne.symm hL), fun p hp => (let ⟨o, h1, h2⟩ := x.cs p hp; ⟨o, hs _ _ (Ne.symm (hc p hp)) h1, h2⟩), x.fr, x.fL, x.fc⟩
theorem cell_li_ne {h : Heap} {c d : Addr} {v : Option Value} {ns : List Int} (hc : h.IsCell c v) (hl : Li h d ns) : d ≠ c := by
  rintro rfl
  obtain ⟨vs, n, e, _⟩ := hl
  obtain ⟨o, ho, hd⟩ := hc
  rw [e] at ho; cases ho; cases hd
theorem Lw.li (x : Lw s₀ outer L m cl s) {d : Addr} {ns : List Int} (hl : Li s.heap d ns) (hd : s₀.heap.get? d = none) {h' : Heap} {tk : Nat} (hs : Heap.SameBut d s.heap h') : Lw s₀ outer L m cl { s with heap := h', toks := tk } :=
  x.but hs.extBut hd (ns_li_ne x.ns hl) fun p hp => cell_li_ne (x.cs p hp) hl
theorem cell_ns_ne {h : Heap} {c L : Addr} {v : Option Value} {m : Str → Option Value} (hc : h.IsCell c v) (hn : h.Ns L m) : c ≠ L := by
  rintro rfl
  obtain ⟨o, ho, hd⟩ := hc
  obtain ⟨es, ep, q⟩ := ns_data hn ho
  rw [hd] at q; cases q
theorem Lw.st (x : Lw s₀ outer L m cl s) {m' : Str → Option Value} {h' : Heap} {tk : Nat} (hn : h'.Ns L m') (hs : Heap.SameBut L s.heap h') : Lw s₀ outer L m' cl { s with heap := h', toks := tk } :=
  ⟨x.kf.but x.fL hs.extBut, hn, fun p hp => (let ⟨o, h1, h2⟩ := x.cs p hp; ⟨o, hs.extBut _ _ (cell_ns_ne (x.cs p hp) x.ns) h1, h2⟩), x.fr, x.fL, x.fc⟩

variable {prog : Program} {w : World} {A : Around} {E : Value → Shared → Prop} {R : Result → Shared → Prop} {env : Env}

/-- one object was written -/
def Sb (a : Addr) (s s' : Shared) : Prop := ∃ h' tk, s' = { s with heap := h', toks := tk } ∧ Heap.SameBut a s.heap h'
theorem Sb.kx {X : List Addr} {a : Addr} (x : Sb a s s') (h : a ∈ X) : Kx X s s' := by
  obtain ⟨h', tk, rfl, hs⟩ := x
  exact .of_but hs.extBut h
theorem Sb.get {a b : Addr} {o : Obj} (x : Sb a s s') (h : b ≠ a) (e : s.heap.get? b = some o) : s'.heap.get? b = some o := by
  obtain ⟨h', tk, rfl, hs⟩ := x
  exact same_get hs h e
theorem Lw.sb (x : Lw s₀ outer L m cl s) {d : Addr} {ns : List Int} (hl : Li s.heap d ns) (hd : s₀.heap.get? d = none) (hs : Sb d s s') : Lw s₀ outer L m cl s' := by
  obtain ⟨h', tk, rfl, hs⟩ := hs
  exact x.li hl hd hs
theorem Lw.sbl (x : Lw s₀ outer L m cl s) {d : Addr} {ns : List Int} (hl : Li s.heap d ns) (hs : Sb L s s') : Li s'.heap d ns := hl.at fun _ e => hs.get (ns_li_ne x.ns hl) e

theorem Lw.store {M : Model} (x : Lw s₀ outer env.locals m cl s) {n : Str} {v : Value} {Q : Unit → Shared → Prop}
    (h : ∀ s', Sb env.locals s s' → Lw s₀ outer env.locals (upd m n v) cl s' → Q () s')
    (hl : env.kindOf n = some .local := by kernel_rfl) (hp : (env.scope.kind == .class || (env.scope.kind == .module && env.locals != env.globals)) = false := by kernel_rfl) :
    wpAny M A (storeName env n v) Q E s := st_local x.ns (fun h' tk hn hs => h _ ⟨h', tk, rfl, hs⟩ (x.st hn hs)) hl hp

/-- a for loop over whatever walks -/
theorem for_w {I : Addr} {fp X : List Addr} {n : Nat} {P : Nat → Value → Prop} {St : Nat → Heap → Prop} {Inv : Nat → Shared → Prop} {s_b : Shared} {target : Expr} {body : List Stmt}
    (W : Walks prog w A I fp [I] n P St) (hfp : ∀ b ∈ fp, b ∉ X) (hI : s_b.heap.get? I = none) (hk0 : Kx X s_b s) (hst0 : St 0 s.heap) (h0 : Inv 0 s) (hfl : ∀ i h, St i h → ∀ o, h.get? I = some o → ∃ vs, o.data = .fields vs)
    (stab : ∀ i s h' tk, Inv i s → Kx X s_b s → (∀ o, s.heap.get? I = some o → ∃ vs, o.data = .fields vs) → Heap.ExtBut I s.heap h' → Inv i { s with heap := h', toks := tk })
    (step : ∀ i v s₁ (E' : Value → Shared → Prop), P i v → i < n → Kx X s_b s₁ → Inv i s₁ →
      wpAny (model prog w) A (assign target env v) (fun _ s₂ => wpAny (model prog w) A (execs body env) (fun f s₃ => (f = .next ∨ f = .cont) ∧ Kx X s₁ s₃ ∧ Inv (i + 1) s₃) E' s₂) E' s₁)
    (hR : ∀ s', Kx X s_b s' → Inv n s' → R (.ok .next) s') (ht : ∀ v, letOwnedTupleGo target (.ref I) v = pure () := by intro _; rfl) :
    codeAny (model prog w) A (.forLoop target (.ref I) body [] env) R s := by
  refine codeAny_forLoop (fun k s' => ∃ i, k = n + 1 - i ∧ i ≤ n ∧ St i s'.heap ∧ Kx X s_b s' ∧ Inv i s') ?_ (n + 1) ⟨0, rfl, Nat.zero_le _, hst0, hk0, h0⟩ ht
  rintro k s₁ ⟨i, rfl, hi, hst, hk, hv⟩
  by_cases hlt : i < n
  · refine W.item i s₁ _ _ hlt hst fun v h' tk hP hst' hke => ?_
    have hx : Heap.ExtBut I s₁.heap h' := fun b o hb e => hke b o (by simpa using hb) e
    refine wpAny_mono (step i v _ _ hP hlt (hk.new hx hI (tk := tk)) (stab i s₁ h' tk hv hk (hfl _ _ hst) hx)) (fun _ s₂ h₂ => wpAny_mono h₂ (fun f s₃ h₃ => ?_) fun _ _ e => e) fun _ _ e => e
    obtain ⟨hf, k₃, v₃⟩ := h₃
    have z : ∃ m, m < n + 1 - i ∧ ∃ i, m = n + 1 - i ∧ i ≤ n ∧ St i s₃.heap ∧ Kx X s_b s₃ ∧ Inv i s₃ :=
      ⟨n + 1 - (i + 1), by omega, i + 1, rfl, hlt, W.frame _ _ _ hst' (fun b hb o e => k₃.get (hfp b hb) e), (hk.new hx hI (tk := tk)).trans k₃, v₃⟩
    rcases hf with rfl | rfl <;> exact z
  · have : i = n := by omega
    subst this
    refine W.done s₁ _ _ hst fun h' tk hke => ?_
    have hx : Heap.ExtBut I s₁.heap h' := fun b o hb e => hke b o (by simpa using hb) e
    exact wpAny_execs_nil (hR _ (hk.new hx hI) (stab i s₁ h' tk hv hk (hfl _ _ hst) hx))

theorem Frs.live {h : Heap} {l : List Env} (x : Frs h l) : ∀ b ∈ Mine.frs l, b < h.objs.size := fun _ hb => let ⟨_, hn⟩ := x.mem hb; hn.lt

theorem Lw.live (x : Lw s₀ outer L m cl s) : ∀ b ∈ L :: Mine.frs outer, b < s.heap.objs.size := fun b hb => by
  rcases List.mem_cons.mp hb with rfl | hb
  · exact x.ns.lt
  · exact (x.fr.up x.kf.slots).live b hb
theorem Li.off {h : Heap} {d I : Addr} {ns : List Int} (x : Li h d ns) (hf : ∀ o, h.get? I = some o → ∃ vs, o.data = .fields vs) : d ≠ I := by
  rintro rfl
  obtain ⟨vs, n, e, _⟩ := x
  obtain ⟨ws, q⟩ := hf _ e
  cases q
theorem Li.but {h h' : Heap} {d I : Addr} {ns : List Int} (x : Li h d ns) (hs : Heap.ExtBut I h h') (hne : d ≠ I) : Li h' d ns := x.at fun o e => hs d o hne e

theorem iter_range {a b c : Int} {t u v : Tok} {r : Addr} {n : Nat} {X : List Addr} {Inv : Nat → Shared → Prop} {target : Expr} {body : List Stmt} (hh : A.handled = none) (hr : IsRange s.heap r a b c t u v)
    (hsmall : Builtin.Range.small a b c = true) (hn : Builtin.Range.rangeSize a b c = (n : Int)) (hX : ∀ b ∈ X, b < s.heap.objs.size) (h0 : Inv 0 s)
    (stab : ∀ I, s.heap.get? I = none → (∀ b ∈ X, I ≠ b) → ∀ i s₁ h' tk, Inv i s₁ → Kx X s s₁ → (∀ o, s₁.heap.get? I = some o → ∃ vs, o.data = .fields vs) → Heap.ExtBut I s₁.heap h' → Inv i { s₁ with heap := h', toks := tk })
    (step : ∀ (i : Nat) t s₁ (E' : Value → Shared → Prop), i < n → Kx X s s₁ → Inv i s₁ →
      wpAny (model prog w) A (assign target env (.int (a + i * c) t)) (fun _ s₂ => wpAny (model prog w) A (execs body env) (fun f s₃ => (f = .next ∨ f = .cont) ∧ Kx X s₁ s₃ ∧ Inv (i + 1) s₃) E' s₂) E' s₁)
    (hR : ∀ s', Kx X s s' → Inv n s' → R (.ok .next) s') (ht : ∀ v it, letOwnedTupleGo target it v = pure () := by intro _ _; rfl) :
    wpAny (model prog w) A (pyIter (.ref r)) (fun it s₂ => codeAny (model prog w) A (.forLoop target it body [] env) R s₂) E s := by
  refine wpAny_pyIter_range hr hsmall ?_
  have hI : s.heap.get? s.heap.objs.size = none := fresh_size (Nat.le_refl _)
  have hIX : ∀ b ∈ X, s.heap.objs.size ≠ b := fun b hb q => absurd (hX b hb) (q ▸ Nat.lt_irrefl _)
  have ke : Heap.ExtBut s.heap.objs.size s.heap (s.heap.push { cls := .type "range_iterator", data := .fields #[rawInt a, rawInt (Builtin.Range.rangeSize a b c), rawInt c] }) := fun b o _ e => Heap.get?_push_of_some _ e
  refine for_w (X := X) (s_b := s) (Inv := Inv) (Walks.range hh s.heap.objs.size a c n) (fun b hb q => hIX b q (List.mem_singleton.mp hb).symm) hI (.of_kp ⟨_, _, rfl, push_keep _ _⟩) ?_
    (stab _ hI hIX 0 s _ s.toks h0 (.refl _) (fun o q => by rw [hI] at q; cases q) ke) ?_ (stab _ hI hIX) (fun i v s₁ E' hv hi hk hv' => ?_) hR (fun v => ht v _)
  · show IsRangeIter _ _ _ _ _
    rw [hn]
    simpa using Heap.get?_push_size _ rfl
  · intro i h e o q
    rw [e] at q; cases q; exact ⟨_, rfl⟩
  · obtain ⟨t, rfl⟩ := hv
    exact step i t s₁ E' hi hk hv'

theorem iter_li {l : Addr} {xs : List Int} {X : List Addr} {Inv : Nat → Shared → Prop} {target : Expr} {body : List Stmt} (hh : A.handled = none) (hl : Li s.heap l xs) (hlX : l ∉ X) (hX : ∀ b ∈ X, b < s.heap.objs.size) (h0 : Inv 0 s)
    (stab : ∀ I, s.heap.get? I = none → (∀ b ∈ X, I ≠ b) → ∀ i s₁ h' tk, Inv i s₁ → Kx X s s₁ → (∀ o, s₁.heap.get? I = some o → ∃ vs, o.data = .fields vs) → Heap.ExtBut I s₁.heap h' → Inv i { s₁ with heap := h', toks := tk })
    (step : ∀ (i : Nat) a t s₁ (E' : Value → Shared → Prop), xs[i]? = some a → Kx X s s₁ → Inv i s₁ →
      wpAny (model prog w) A (assign target env (.int a t)) (fun _ s₂ => wpAny (model prog w) A (execs body env) (fun f s₃ => (f = .next ∨ f = .cont) ∧ Kx X s₁ s₃ ∧ Inv (i + 1) s₃) E' s₂) E' s₁)
    (hR : ∀ s', Kx X s s' → Inv xs.length s' → R (.ok .next) s') (ht : ∀ v it, letOwnedTupleGo target it v = pure () := by intro _ _; rfl) :
    wpAny (model prog w) A (pyIter (.ref l)) (fun it s₂ => codeAny (model prog w) A (.forLoop target it body [] env) R s₂) E s := by
  obtain ⟨vs, hli, hi⟩ := hl.isList
  refine wpAny_pyIter_list hli ?_
  have hI : s.heap.get? s.heap.objs.size = none := fresh_size (Nat.le_refl _)
  have hIX : ∀ b ∈ X, s.heap.objs.size ≠ b := fun b hb q => absurd (hX b hb) (q ▸ Nat.lt_irrefl _)
  have hlI : l ≠ s.heap.objs.size := Nat.ne_of_lt hl.lt
  generalize hio : ({ cls := .type "list_iterator", data := .fields #[.ref l, .int 0 0] } : Obj) = io
  have ke : Heap.ExtBut s.heap.objs.size s.heap (s.heap.push io) := fun b o _ e => Heap.get?_push_of_some _ e
  have hsz : (List.toArray vs).size = xs.length := by simp [hi.length]
  refine for_w (X := X) (s_b := s) (Inv := Inv) (Walks.list hh s.heap.objs.size l hlI (List.toArray vs)) (fun b hb q => ?_) hI (.of_kp ⟨_, _, rfl, push_keep _ _⟩) ?_
    (stab _ hI hIX 0 s _ s.toks h0 (.refl _) (fun o q => by rw [hI] at q; cases q) ke) ?_ (stab _ hI hIX) (fun i v s₁ E' hv hi' hk hv' => ?_) (by rw [hsz]; exact hR) (fun v => ht v _)
  · simp only [List.mem_cons, List.not_mem_nil, or_false] at hb
    rcases hb with rfl | rfl
    · exact hIX _ q rfl
    · exact hlX q
  · refine ⟨⟨io, Heap.get?_push_size _ (by subst hio; rfl), by subst hio; rfl, by subst hio; rfl⟩, ?_⟩
    obtain ⟨o, ho, r⟩ := hli
    exact ⟨o, Heap.get?_push_of_some _ ho, r⟩
  · rintro i h ⟨⟨oi, e, _, hd⟩, _⟩ o q
    rw [e] at q; cases q; exact ⟨_, hd⟩
  · have hi₂ : i < xs.length := by omega
    obtain ⟨u, hu⟩ := hi.get _ _ (List.getElem?_eq_getElem hi₂)
    have : v = .int xs[i] u := by
      have e : (List.toArray vs)[i]? = some v := hv
      rw [show (List.toArray vs)[i]? = vs[i]? by simp, hu] at e
      exact (Option.some.inj e).symm
    subst this
    exact step i _ u s₁ E' (List.getElem?_eq_getElem hi₂) hk hv'
end
end Mine

-- ================ Ev ================
namespace Mine

/-- at `s`, the expression gives the int `a` and moves nothing but the counter of tokens -/
def Ev (prog : Program) (w : World) (A : Around) (env : Env) (s : Shared) (e : Expr) (a : Int) : Prop :=
  ∀ (t₀ : Nat) (E : Value → Shared → Prop) (Q : Value → Shared → Prop), (∀ u tk, Q (.int a u) { s with toks := tk }) → wpAny (model prog w) A (eval e env) Q E { s with toks := t₀ }
/-- an operator on two ints -/
def Op2 (prog : Program) (w : World) (A : Around) (op : Operator) (a b c : Int) : Prop :=
  ∀ (s : Shared) (t u : Tok) (E : Value → Shared → Prop) (Q : Value → Shared → Prop), (∀ v tk, Q (.int c v) { s with toks := tk }) → wpAny (model prog w) A (binaryOp op (.int a t) (.int b u)) Q E s

section
variable {prog : Program} {w : World} {A : Around} {E : Value → Shared → Prop} {s s' : Shared} {m : Str → Option Value} {mg mb : Str → Option Value} {env : Env} {e₁ e₂ : Expr} {a b c : Int} {pos : Pos}

theorem Ev.use {e : Expr} {Q : Value → Shared → Prop} (x : Ev prog w A env s e a) (h : ∀ u tk, Q (.int a u) { s with toks := tk }) : wpAny (model prog w) A (eval e env) Q E s := x s.toks E Q h
theorem Ev.at (x : Ev prog w A env s e₁ a) (tk : Nat) : Ev prog w A env { s with toks := tk } e₁ a := fun t₀ E Q h => x t₀ E Q h
theorem Ev.const {k} (i : Int) : Ev prog w A env s (.Constant (.int i) k pos) i := fun _ _ _ h => cint (h _ _)
theorem Ev.loc {n : Str} {u : Tok} (hn : s.heap.Ns env.locals m) (hv : m n = some (.int a u)) (hk : env.scope.kind = .function := by kernel_rfl) (hl : env.kindOf n = some .local := by kernel_rfl)
    (hd : (n == ("__debug__" : Str)) = false := by kernel_rfl) : Ev prog w A env s (.Name n pos) a := fun t₀ _ _ h => nL (s := { s with toks := t₀ }) hn hv (h _ _) hk hl hd
theorem Ev.cell {n : Str} {u : Tok} {c : Addr} (hv : s.heap.IsCell c (some (.int a u))) (hc : env.cells.lookup n = some c := by kernel_rfl) (hk : env.scope.kind = .function := by kernel_rfl) (hl : env.kindOf n = some .cell := by kernel_rfl)
    (hd : (n == ("__debug__" : Str)) = false := by kernel_rfl) : Ev prog w A env s (.Name n pos) a := fun t₀ _ _ h => nC (s := { s with toks := t₀ }) hv (h _ _) hc hk hl hd
theorem Ev.bin {op : Operator} (x : Ev prog w A env s e₁ a) (y : Ev prog w A env s e₂ b) (o : Op2 prog w A op a b c) : Ev prog w A env s (.BinOp e₁ op e₂ pos) c := fun t₀ E Q h =>
  wpAny_BinOp (x t₀ _ _ fun u tk => y tk _ _ fun v tk' => o { s with toks := tk' } u v _ _ fun z tk₂ => h z tk₂)
theorem Op2.add : Op2 prog w A .Add a b (a + b) := fun _ _ _ _ _ h => wpAny_add_int (h _ _)
theorem Op2.sub : Op2 prog w A .Sub a b (a - b) := fun _ _ _ _ _ h => sub_int' (h _ _)
theorem Op2.mul (hm : IntMulOk a b) : Op2 prog w A .Mult a b (a * b) := fun _ _ _ _ _ h => mul_int (h _ _) hm
theorem Op2.div (hb : 0 < b) (hb' : b < 1073741824) : Op2 prog w A .FloorDiv a b (a / b) := fun _ _ _ _ _ h => i_div hb hb' (h _ _)
theorem Op2.mod (hb : 0 < b) : Op2 prog w A .Mod a b (a % b) := fun _ _ _ _ _ h => i_mod hb (h _ _)
theorem Op2.and : Op2 prog w A .BitAnd a b (Builtin.bitAnd a b) := fun _ _ _ _ _ h => and_int (h _ _)
theorem Op2.or : Op2 prog w A .BitOr a b (Builtin.bitOr a b) := fun _ _ _ _ _ h => or_int (h _ _)
theorem Op2.xor : Op2 prog w A .BitXor a b (Builtin.bitXor a b) := fun _ _ _ _ _ h => xor_int (h _ _)
theorem Op2.shr (hb : 0 ≤ b) : Op2 prog w A .RShift a b (a / 2 ^ b.toNat) := fun _ _ _ _ _ h => PyProof.Rows.rshift_int hb (by
  rw [Int.fdiv_eq_ediv_of_nonneg a (by exact_mod_cast Nat.zero_le (2 ^ b.toNat))]; exact h _ _)
theorem Op2.shl (hb : 0 ≤ b) (hz : (Builtin.Int.intBits a : Int) + b ≤ 2 ^ 27) : Op2 prog w A .LShift a b (a * 2 ^ b.toNat) := fun _ _ _ _ _ h => PyProof.Rows.lshift_int hb hz (h _ _)
theorem Ev.item {X : Str} {p₁ : Pos} {l : Addr} {xs : List Int} {k : Int} (hn : s.heap.Ns env.locals m) (hX : m X = some (.ref l)) (hl : Li s.heap l xs) (y : Ev prog w A env s e₂ k) (h0 : 0 ≤ k) (hfit : k < 2 ^ 63) (hx : xs[k.toNat]? = some a)
    (hs : ∀ t, subscripted e₂ false (.ref l) (.int k t) = operate [.ref l, .int k t] (getItem (.ref l) (.int k t)) := by intro _; with_unfolding_all rfl)
    (hk : env.scope.kind = .function := by kernel_rfl) (hlo : env.kindOf X = some .local := by kernel_rfl)
    (hd : (X == ("__debug__" : Str)) = false := by kernel_rfl) : Ev prog w A env s (.Subscript (.Name X p₁) e₂ pos) a := fun t₀ E Q h =>
  Subscript_ (nL (s := { s with toks := t₀ }) hn hX (y t₀ _ _ fun u tk => li_sub (s := { s with toks := tk }) hl h0 hfit hx (fun v => h v tk) (hs u)) hk hlo hd)

/-- a display of such expressions -/
inductive Evs (prog : Program) (w : World) (A : Around) (env : Env) (s : Shared) : List Expr → List Int → Prop
  | nil : Evs prog w A env s [] []
  | cons {e es a as} (x : Ev prog w A env s e a) (r : Evs prog w A env s es as) (hp : starEach (e :: es) env = (false, eval e env) :: starEach es env := by rfl) : Evs prog w A env s (e :: es) (a :: as)
theorem Evs.items : ∀ {es : List Expr} {as : List Int}, Evs prog w A env s es as → ∀ {t₀ : Nat} {E : Value → Shared → Prop} {Q : List Value → Shared → Prop},
    (∀ vs tk, IntsAre vs as → Q vs { s with toks := tk }) → wpAny (model prog w) A (spliced (backTo pos (starEach es env))) Q E { s with toks := t₀ }
  | _, _, .nil, t₀, E, Q, h => args_nil (h [] t₀ .nil)
  | _, _, .cons x r hp, t₀, E, Q, h => args_cons (x t₀ _ _ fun u tk => r.items fun vs tk' i => h _ tk' (.cons _ u i)) hp
theorem Evs.list {es : List Expr} {as : List Int} {Q : Value → Shared → Prop} (x : Evs prog w A env s es as) (hz : as.length ≤ sizeLine)
    (h : ∀ D s', Keeps s s' → s.heap.get? D = none → Li s'.heap D as → Q (.ref D) s') : wpAny (model prog w) A (eval (.List es pos) env) Q E s := by
  refine List_ (x.items (t₀ := s.toks) fun vs tk hi => li_new hi (by rw [hi.length]; exact hz) fun D s' k hD hl => h D s' ?_ hD hl)
  obtain ⟨h', tk', rfl, k'⟩ := k
  exact ⟨h', tk', rfl, k'⟩
end
end Mine

-- ================ Six ================
namespace Mine

/-- the plain answer of _law_sixes: one group -/
def sixOf (row : List Int) (i : Nat) : List Int :=
  let n := row.getD (3 * i) 0 * 65536 + row.getD (3 * i + 1) 0 * 256 + row.getD (3 * i + 2) 0
  [n / 262144, n / 4096 % 64, n / 64 % 64, n % 64]
def sixesTo (row : List Int) : Nat → List Int
  | 0 => []
  | i + 1 => sixesTo row i ++ sixOf row i
theorem sixesTo_length (row : List Int) : ∀ i, (sixesTo row i).length = 4 * i
  | 0 => rfl
  | i + 1 => by rw [sixesTo, List.length_append, sixesTo_length row i]; simp [sixOf]; omega

structure Wd2 (mg mb : Str → Option Value) (h : Heap) : Prop where
  glen : mg "len" = none
  blen : mb "len" = some (.builtin "len")
  grange : mg "range" = none
  brange : mb "range" = some (.type "range")

section
variable {prog : Program} {w : World} {A : Around} {E : Value → Shared → Prop} {R : Result → Shared → Prop} {s s' : Shared} {m : Str → Option Value} {mg mb : Str → Option Value} {outer : List Env} {env : Env}

theorem getD_some {xs : List Int} {k : Nat} (h : k < xs.length) : xs[k]? = some (xs.getD k 0) := by
  rw [List.getD_eq_getElem?_getD, List.getElem?_eq_getElem h]; rfl

theorem c_range3 {a b c : Int} {t u v : Tok} {Q : Value → Shared → Prop} (hc : c ≠ 0) (hp : Builtin.divisionGoesByPylong (b - a) c = false) (h : ∀ r s', Keeps s s' → IsRange s'.heap r a b c t u v → Q (.ref r) s') :
    wpAny (model prog w) A (call (.type "range") [.int a t, .int b u, .int c v]) Q E s :=
  call_range_3 hc (h _ _ ⟨_, _, rfl, push_keep _ _⟩ (Heap.get?_push_size _ rfl)) (.inl hp)

abbrev envX (pm cd : Value) (L : Addr) : Env := callEnvC (fdX (stAt 15) .none .none pm cd) L 109

theorem sixes_call {l : Addr} {row : List Int} {q : Nat} {Q : Value → Shared → Prop} (W : Wd mg mb s.heap) (Z : Wd2 mg mb s.heap) (hd : A.depth < recursionLimit) (hh : A.handled = none) (hF : Frs s.heap outer)
    (hl : Li s.heap l row) (hq : row.length = 3 * q) (hq' : q = 1 ∨ q = 2) (hb : ∀ x ∈ row, 0 ≤ x ∧ x < 256)
    (h : ∀ D s', s.heap.get? D = none → KF (frs outer) s s' → Li s'.heap D (sixesTo row q) → Q (.ref D) s') :
    wpAny (model prog w) A (call (.ref 109) [.ref l]) Q E s := by
  obtain ⟨o, pm, cd, ho, hdt, hcd⟩ := W.sixes.there
  refine wpAny_call (codeAny_call_cells (fd := fdX (stAt 15) .none .none pm cd) (body := bodyOf (stAt 15)) (binds := [("row", .ref l)]) hd ho hdt W.lim hcd (by kernel_rfl) (by kernel_rfl) (by kernel_rfl)
    (by intro y hy; simp only [List.mem_singleton] at hy; subst hy; exact .inl (by kernel_rfl)) (fun s₁ z => ?_) (by kernel_rfl) (by kernel_rfl) (by kernel_rfl))
  have kk : Keeps s s₁ := let ⟨h', tk, e, k⟩ := z.done; ⟨h', tk, e, k⟩
  have hn₁ := z.toInCall.ns
  have hL : s.heap.get? s.heap.objs.size = none := fresh_size (Nat.le_refl _)
  clear z
  have W1 := W.keep (kp_all kk)
  generalize hm : bindL _ _ (fun _ => none) = m₁ at hn₁
  have mr₁ : m₁ "row" = some (.ref l) := by subst hm; kernel_rfl
  clear hm
  have x₁ : Lw s outer (envX pm cd s.heap.objs.size).locals m₁ [] s₁ := ⟨.of_kp kk, hn₁, by simp, hF, hL, by simp⟩
  have hl₁ := hl.kp kk
  -- answer = []
  refine wpAny_execs_cons (wpAny_Assign_Name (List_ (args_nil ?_)) (by kernel_rfl))
  refine li_new (prog := prog) (w := w) (ns := []) .nil (by decide) fun d s₂ k₂ hd₂ hl₂ => ?_
  have x₂ := x₁.kp k₂
  have hl₂' := hl₁.kp k₂
  refine x₂.store (n := "answer") fun s₃ b₃ x₃ => ?_
  have hl₃ := x₂.sbl hl₂' b₃
  have hd₃ := x₂.sbl hl₂ b₃
  have mr₃ : upd m₁ "answer" (.ref d) "row" = some (.ref l) := (upd_ne (by decide)).trans mr₁
  have ma₃ : upd m₁ "answer" (.ref d) "answer" = some (.ref d) := upd_same
  have W₃ := W.kf hF x₃.kf
  -- the loop
  have hz : (100 : Nat) ≤ sizeLine := by decide
  refine wpAny_execs_cons (wpAny_For (Call_ (nB W₃.g W₃.b Z.grange Z.brange (cwT (args_cons (cint (args_cons (Call_ (nB W₃.g W₃.b Z.glen Z.blen (cwB (args_cons (nL x₃.ns mr₃ (args_nil (li_len hl₃ (by rw [hq]; omega) fun u tk => args_cons (cint (args_nil ?_))))))))))))))))
  rw [hq]
  refine c_range3 (by decide) (by rcases hq' with rfl | rfl <;> decide +kernel) fun r s₄ k₄' hr₄ => ?_
  have k₄ : Keeps s₃ s₄ := let ⟨h', tk, e, k⟩ := k₄'; ⟨h', tk, e, k⟩
  have x₄ := x₃.kp k₄
  have hl₄ := hl₃.kp k₄
  have hd₄ := hd₃.kp k₄
  have hsm : Builtin.Range.small 0 ((3 * q : Nat) : Int) 3 = true := by rcases hq' with rfl | rfl <;> decide
  have hrs : Builtin.Range.rangeSize 0 ((3 * q : Nat) : Int) 3 = (q : Int) := by rcases hq' with rfl | rfl <;> decide
  have hek : (envX pm cd s.heap.objs.size).scope.kind ≠ .module := (show (envX pm cd s.heap.objs.size).scope.kind = .function by kernel_rfl) ▸ (by decide)
  have hfd : s.heap.get? d = none := x₁.none_back hd₂
  refine iter_range (Inv := fun i s' => ∃ m D, Lw s outer (envX pm cd s.heap.objs.size).locals m [] s' ∧ m "row" = some (.ref l) ∧ m "answer" = some (.ref D) ∧ Li s'.heap l row ∧ Li s'.heap D (sixesTo row i) ∧ s.heap.get? D = none)
    (X := (envX pm cd s.heap.objs.size).locals :: frs outer) hh hr₄ hsm hrs x₄.live ⟨_, d, x₄, mr₃, ma₃, hl₄, hd₄, hfd⟩ ?_ ?_ ?_
  · rintro I hI hIX i s₅ h₆ tk₆ ⟨m, D, x, mr, ma, hlr, hld, fD⟩ hk hf hx
    exact ⟨m, D, x.but hx (x₄.none_back hI) (hIX _ (.head _)) (by simp), mr, ma, hlr.but hx (hlr.off hf), hld.but hx (hld.off hf), fD⟩
  · rintro i t s₅ E' hi hk ⟨m, D, x, mr, ma, hlr, hld, fD⟩
    refine wpAny_assign_Name (x.store (n := "k") fun s₆ b₆ x₆ => ?_)
    have e₀ : (0 + (i : Int) * 3) = ((3 * i : Nat) : Int) := by omega
    rw [e₀] at x₆
    have hlr₆ := x.sbl hlr b₆
    have hld₆ := x.sbl hld b₆
    have mk₆ : upd m "k" (.int ((3 * i : Nat) : Int) t) "k" = some (.int ((3 * i : Nat) : Int) t) := upd_same
    have mr₆ : upd m "k" (.int ((3 * i : Nat) : Int) t) "row" = some (.ref l) := (upd_ne (by decide)).trans mr
    have ma₆ : upd m "k" (.int ((3 * i : Nat) : Int) t) "answer" = some (.ref D) := (upd_ne (by decide)).trans ma
    have g0 := getD_some (xs := row) (k := 3 * i) (by omega)
    have g1 := getD_some (xs := row) (k := 3 * i + 1) (by omega)
    have g2 := getD_some (xs := row) (k := 3 * i + 2) (by omega)
    have b0 := hb _ (List.mem_of_getElem? g0)
    have b1 := hb _ (List.mem_of_getElem? g1)
    have b2 := hb _ (List.mem_of_getElem? g2)
    generalize hr0 : row.getD (3 * i) 0 = r0 at *
    generalize hr1 : row.getD (3 * i + 1) 0 = r1 at *
    generalize hr2 : row.getD (3 * i + 2) 0 = r2 at *
    have t0 : (((3 * i : Nat) : Int)).toNat = 3 * i := by omega
    have t1 : (((3 * i : Nat) : Int) + 1).toNat = 3 * i + 1 := by omega
    have t2 : (((3 * i : Nat) : Int) + 2).toNat = 3 * i + 2 := by omega
    -- number
    refine wpAny_execs_cons (wpAny_Assign_Name ?_ (by kernel_rfl))
    refine Ev.use (Ev.bin (Ev.bin (Ev.bin (Ev.item x₆.ns mr₆ hlr₆ (.loc x₆.ns mk₆) (by omega) (by omega) (by rw [t0]; exact g0)) (.const 65536) (.mul (.of_right (by decide))))
        (Ev.bin (Ev.item x₆.ns mr₆ hlr₆ ((Ev.loc x₆.ns mk₆).bin (.const 1) .add) (by omega) (by omega) (by rw [t1]; exact g1)) (.const 256) (.mul (.of_right (by decide)))) .add)
        (Ev.item x₆.ns mr₆ hlr₆ ((Ev.loc x₆.ns mk₆).bin (.const 2) .add) (by omega) (by omega) (by rw [t2]; exact g2)) .add) fun un tkn => ?_
    refine (x₆.toks _).store (n := "number") fun s₇ b₇ x₇ => ?_
    have hlr₇ := (x₆.toks _).sbl hlr₆ b₇
    have hld₇ := (x₆.toks _).sbl hld₆ b₇
    generalize hnum : r0 * 65536 + r1 * 256 + r2 = num at *
    have mn₇ : ∀ v, upd (upd m "k" (.int ((3 * i : Nat) : Int) t)) "number" v "number" = some v := fun v => upd_same
    have mr₇ : ∀ v, upd (upd m "k" (.int ((3 * i : Nat) : Int) t)) "number" v "row" = some (.ref l) := fun v => (upd_ne (by decide)).trans mr₆
    have ma₇ : ∀ v, upd (upd m "k" (.int ((3 * i : Nat) : Int) t)) "number" v "answer" = some (.ref D) := fun v => (upd_ne (by decide)).trans ma₆
    refine wpAny_execs_cons (wpAny_Assign_Name ?_ (by kernel_rfl))
    refine wpAny_BinOp (nL x₇.ns (ma₇ _) ?_)
    have n₇ := mn₇ (.int num un)
    refine Evs.list (.cons ((Ev.loc x₇.ns n₇).bin (.const 262144) (.div (by decide) (by decide))) (.cons (((Ev.loc x₇.ns n₇).bin (.const 4096) (.div (by decide) (by decide))).bin (.const 64) (.mod (by decide)))
      (.cons (((Ev.loc x₇.ns n₇).bin (.const 64) (.div (by decide) (by decide))).bin (.const 64) (.mod (by decide))) (.cons ((Ev.loc x₇.ns n₇).bin (.const 64) (.mod (by decide))) .nil)))) (show 4 ≤ sizeLine by decide) fun d₈ s₈ k₈ hd₈ hl₈ => ?_
    have k₈' : Keeps s₇ s₈ := let ⟨h', tk, e, k⟩ := k₈; ⟨h', tk, e, k⟩
    have x₈ := x₇.kp k₈'
    have hlr₈ := hlr₇.kp k₈'
    have hld₈ := hld₇.kp k₈'
    refine li_add hld₈ hl₈ (by rw [sixesTo_length]; simp; omega) fun D' s₉ k₉ hD' hl₉ => ?_
    have x₉ := x₈.kp k₉
    have hlr₉ := hlr₈.kp k₉
    refine x₉.store (n := "answer") fun s₁₀ b₁₀ x₁₀ => wpAny_execs_nil ?_
    refine ⟨.inl rfl, ?_, _, D', x₁₀, (upd_ne (by decide)).trans (mr₇ _), upd_same, x₉.sbl hlr₉ b₁₀, ?_, x₈.none_back hD'⟩
    · exact (((((b₆.kx (.head _)).kp ⟨_, _, rfl, fun _ _ e => e⟩).trans (b₇.kx (.head _))).kp k₈').kp k₉).trans (b₁₀.kx (.head _))
    · have := x₉.sbl hl₉ b₁₀
      rw [sixesTo, sixOf, hr0, hr1, hr2, hnum]
      exact this
  · rintro s₅ hk ⟨m, D, x, mr, ma, hlr, hld, fD⟩
    exact wpAny_execs_cons (wpAny_Return_some (nL x.ns ma (h D s₅ fD x.kf hld)))
end
end Mine

-- ================ Buf ================
namespace Mine

def table64 : List Int := ((List.range 26).map fun (i : Nat) => ((65 + i : Nat) : Int)) ++ ((List.range 26).map fun (i : Nat) => ((97 + i : Nat) : Int)) ++ ((List.range 10).map fun (i : Nat) => ((48 + i : Nat) : Int)) ++ [43, 47]

structure Wb (mg mb : Str → Option Value) (h : Heap) : Prop where
  buffer : IsFn mg h 6 72 .none .none
  truth : IsFn mg h 7 79 .none .none
  b2a : IsFn mg h 9 87 .none (.ref 80)
  b64 : IsFn mg h 11 95 (.ref 88) .none
  dflt : ∃ o n, h.get? 88 = some o ∧ o.data = .seq #[.none] n
  tab : ∃ b t, mg "_B64" = some (.bytes b t) ∧ KBw.bInts b = table64
  gtype : mg "type" = none
  btype : mb "type" = some (.type "type")
  gbytes : mg "bytes" = none
  bbytes : mb "bytes" = some (.type "bytes")
  gbool : mg "bool" = none
  bbool : mb "bool" = some (.type "bool")
theorem Wb.keep {mg mb : Str → Option Value} {h h' : Heap} (x : Wb mg mb h) (kp : ∀ b o, h.get? b = some o → h'.get? b = some o) : Wb mg mb h' :=
  { x with buffer := x.buffer.keep kp, truth := x.truth.keep kp, b2a := x.b2a.keep kp, b64 := x.b64.keep kp, dflt := (let ⟨o, n, h1, h2⟩ := x.dflt; ⟨o, n, kp _ _ h1, h2⟩) }
theorem Wb.kf {l : List Env} {s s' : Shared} {mg mb : Str → Option Value} (hF : Frs s.heap l) (kf : KF (frs l) s s') (x : Wb mg mb s.heap) : Wb mg mb s'.heap :=
  { x with buffer := x.buffer.kf hF kf, truth := x.truth.kf hF kf, b2a := x.b2a.kf hF kf, b64 := x.b64.kf hF kf, dflt := (let ⟨o, n, h1, h2⟩ := x.dflt; ⟨o, n, kf.get (hF.off h1 fun es ep z => by rw [h2] at z; cases z) h1, h2⟩) }

section
variable {prog : Program} {w : World} {A : Around} {E : Value → Shared → Prop} {R : Result → Shared → Prop} {s s' : Shared} {m : Str → Option Value} {mg mb : Str → Option Value} {outer : List Env} {env : Env}

theorem kp_st {L : Addr} {h' : Heap} {tk : Nat} {s₁ : Shared} (kk : Keeps s s₁) (hL : s.heap.get? L = none) (hs : Heap.SameBut L s₁.heap h') : Keeps s { s₁ with heap := h', toks := tk } := by
  obtain ⟨h₁, t, rfl, k⟩ := kk
  exact ⟨h', tk, rfl, fun b o e => hs.extBut b o (fun q => by rw [q, hL] at e; cases e) (k b o e)⟩

theorem ofMap {x : Str} {v : Value} {l : List (Str × Value)} (h : l.reverse.lookup x = some v) : (fun y => l.reverse.lookup y) x = some v := h

theorem buffer_call {b : Array UInt8} {t : Tok} {Q : Value → Shared → Prop} (W : Wd mg mb s.heap) (Z : Wb mg mb s.heap) (hd : A.depth < recursionLimit) (h : ∀ s', Keeps s s' → Q (.bytes b t) s') :
    wpAny (model prog w) A (call (.ref 72) [.bytes b t]) Q E s := by
  obtain ⟨o, pm, cd, ho, hdt, hcd⟩ := Z.buffer.there
  refine wpAny_call (codeAny_call_cells (fd := fdX (stAt 6) .none .none pm cd) (body := bodyOf (stAt 6)) (binds := [("data", .bytes b t)]) hd ho hdt W.lim hcd (by kernel_rfl) (by kernel_rfl) (by kernel_rfl)
    (by intro y hy; simp only [List.mem_singleton] at hy; subst hy; exact .inl (by kernel_rfl)) (fun s₁ z => ?_) (by kernel_rfl) (by kernel_rfl) (by kernel_rfl))
  have kk : Keeps s s₁ := let ⟨h', tk, e, k⟩ := z.done; ⟨h', tk, e, k⟩
  have hn₁ := z.toInCall.ns
  have hL : s.heap.get? s.heap.objs.size = none := fresh_size (Nat.le_refl _)
  clear z
  have W1 := W.keep (kp_all kk)
  generalize hm : bindL _ _ (fun _ => none) = m₁ at hn₁
  have md₁ : m₁ "data" = some (.bytes b t) := by subst hm; kernel_rfl
  clear hm
  refine wpAny_execs_cons (wpAny_Assign_Name (Call_ (nB W1.g W1.b Z.gtype Z.btype (cwT (args_cons (nL hn₁ md₁ (args_nil (call_type_of (typeIs_bytes _ _ _) (by decide) ?_))))))) (by kernel_rfl))
  refine st_local hn₁ fun h₂ tk₂ hn₂ hs₂ => ?_
  have k₂ := kp_st (tk := tk₂) kk hL hs₂
  have W2 := W.keep (kp_all k₂)
  refine wpAny_execs_cons (wpAny_If (wpAny_isTrue_Compare1 (nL hn₂ upd_same (nB W2.g W2.b Z.gbytes Z.bbytes (wpAny_is_self rfl ?_)))))
  refine wpAny_truthy_bool ?_
  simp only [if_true]
  exact wpAny_execs_cons (wpAny_Return_some (nL hn₂ ((upd_ne (by decide)).trans md₁) (h _ k₂)))

theorem truth_call {Q : Value → Shared → Prop} (W : Wd mg mb s.heap) (Z : Wb mg mb s.heap) (hd : A.depth < recursionLimit) (h : ∀ s', Keeps s s' → Q (.bool false) s') :
    wpAny (model prog w) A (call (.ref 79) [.bool false]) Q E s := by
  obtain ⟨o, pm, cd, ho, hdt, hcd⟩ := Z.truth.there
  refine wpAny_call (codeAny_call_cells (fd := fdX (stAt 7) .none .none pm cd) (body := bodyOf (stAt 7)) (binds := [("x", .bool false)]) hd ho hdt W.lim hcd (by kernel_rfl) (by kernel_rfl) (by kernel_rfl)
    (by intro y hy; simp only [List.mem_singleton] at hy; subst hy; exact .inl (by kernel_rfl)) (fun s₁ z => ?_) (by kernel_rfl) (by kernel_rfl) (by kernel_rfl))
  have kk : Keeps s s₁ := let ⟨h', tk, e, k⟩ := z.done; ⟨h', tk, e, k⟩
  have hn₁ := z.toInCall.ns
  have hL : s.heap.get? s.heap.objs.size = none := fresh_size (Nat.le_refl _)
  clear z
  have W1 := W.keep (kp_all kk)
  generalize hm : bindL _ _ (fun _ => none) = m₁ at hn₁
  have md₁ : m₁ "x" = some (.bool false) := by subst hm; kernel_rfl
  clear hm
  refine wpAny_execs_cons (wpAny_Assign_Name (Call_ (nB W1.g W1.b Z.gtype Z.btype (cwT (args_cons (nL hn₁ md₁ (args_nil (call_type_of (Tx := "bool") rfl (by decide) ?_))))))) (by kernel_rfl))
  refine st_local hn₁ fun h₂ tk₂ hn₂ hs₂ => ?_
  have k₂ := kp_st (tk := tk₂) kk hL hs₂
  have W2 := W.keep (kp_all k₂)
  have mx₂ : upd m₁ "t" (.type "bool") "x" = some (.bool false) := (upd_ne (by decide)).trans md₁
  refine wpAny_execs_cons (wpAny_If (wpAny_isTrue_BoolOp (wpAny_allTrue_Or_cons (wpAny_isTrue_Compare1 (nL hn₂ mx₂ (wpAny_Constant_none (is_bool_none (wpAny_truthy_bool ?_))))))))
  simp only [Bool.false_eq_true, if_false]
  refine wpAny_allTrue_Or_cons (wpAny_isTrue_Compare1 (nL hn₂ upd_same (nB W2.g W2.b Z.gbool Z.bbool (wpAny_is_self rfl (wpAny_truthy_bool ?_)))))
  simp only [if_true]
  refine wpAny_execs_cons (wpAny_Return_some (IfExp_ (wpAny_isTrue_value (nL hn₂ mx₂ (wpAny_truthy_bool ?_)))))
  simp only [Bool.false_eq_true, if_false]
  exact wpAny_Constant_bool (h _ k₂)
end
end Mine

-- ================ B64a ================
namespace Mine

theorem or_shift {x b : Int} (hx : 0 ≤ x) (hb : 0 ≤ b) (hb' : b < 256) : Builtin.bitOr (x * 256) b = x * 256 + b := by
  rw [bitOr_and]
  have : Builtin.bitAnd (x * 256) b = 0 := by
    obtain ⟨n, rfl⟩ := Int.eq_ofNat_of_zero_le hx
    obtain ⟨c, rfl⟩ := Int.eq_ofNat_of_zero_le hb
    have hc : c < 256 := by omega
    have e : ((n : Int) * 256) = ((n * 256 : Nat) : Int) := by omega
    rw [e]
    unfold Builtin.bitAnd
    rw [show decide (0 ≤ ((n * 256 : Nat) : Int)) = true by simp; omega, show decide (0 ≤ ((c : Nat) : Int)) = true by simp]
    simp only [Int.toNat_natCast]
    have : n * 256 &&& c = 0 := by
      apply Nat.eq_of_testBit_eq
      intro i
      rw [Nat.testBit_and, Nat.zero_testBit, show n * 256 = n * 2 ^ 8 from rfl, Nat.testBit_mul_two_pow]
      by_cases hi : 8 ≤ i
      · rw [Nat.testBit_lt_two_pow (x := c) (i := i) (Nat.lt_of_lt_of_le hc (show 2 ^ 8 ≤ 2 ^ i from Nat.pow_le_pow_right (n := 2) (by decide) hi))]
        simp
      · simp [hi]
    rw [this]; rfl
  omega

/-- the letter for a sextet -/
def tbl (x : Int) : Int := table64.getD x.toNat 0
/-- the state of the encoder after i octets: letters, bits left, the buffer -/
def enc (bs : List Int) : Nat → List Int × Nat × Int
  | 0 => ([], 0, 0)
  | i + 1 =>
    let r := enc bs i
    let lc := (r.2.2 * 256 + bs.getD i 0) % 65536
    if r.2.1 = 0 then (r.1 ++ [tbl (lc / 4 % 64)], 2, lc)
    else if r.2.1 = 2 then (r.1 ++ [tbl (lc / 16 % 64)], 4, lc)
    else (r.1 ++ [tbl (lc / 64 % 64)] ++ [tbl (lc % 64)], 0, lc)
theorem enc_ok (bs : List Int) : ∀ i, ((enc bs i).2.1 = 0 ∨ (enc bs i).2.1 = 2 ∨ (enc bs i).2.1 = 4) ∧ 0 ≤ (enc bs i).2.2 ∧ (enc bs i).2.2 < 65536 ∧ (enc bs i).1.length ≤ 2 * i
  | 0 => by simp [enc]
  | i + 1 => by
    obtain ⟨h1, h2, h3, h4⟩ := enc_ok bs i
    rw [enc]
    generalize enc bs i = r at *
    rcases h1 with h | h | h <;> simp only [h] <;> simp <;> omega
theorem tbl_in (x : Int) : 0 ≤ tbl x ∧ tbl x < 256 := by
  unfold tbl
  have : ∀ k ∈ table64, (0 : Int) ≤ k ∧ k < 256 := by decide
  rw [List.getD_eq_getElem?_getD]
  cases h : table64[x.toNat]? with
  | none => decide
  | some k => exact this k (List.mem_of_getElem? h)
theorem enc_in (bs : List Int) : ∀ i, ∀ x ∈ (enc bs i).1, 0 ≤ x ∧ x < 256
  | 0 => by simp [enc]
  | i + 1 => by
    have ih := enc_in bs i
    rw [enc]
    generalize enc bs i = r at *
    intro x hx
    split at hx
    · simp only [List.mem_append, List.mem_singleton] at hx
      rcases hx with hx | rfl
      · exact ih x hx
      · exact tbl_in _
    · split at hx
      · simp only [List.mem_append, List.mem_singleton] at hx
        rcases hx with hx | rfl
        · exact ih x hx
        · exact tbl_in _
      · simp only [List.mem_append, List.mem_singleton] at hx
        rcases hx with (hx | rfl) | rfl
        · exact ih x hx
        · exact tbl_in _
        · exact tbl_in _

/-- the inner while -/
inductive Drain (lc : Int) : Nat → List Int → Nat → List Int → Prop
  | done {lb out} : lb < 6 → Drain lc lb out lb out
  | more {lb out lb' out'} : 6 ≤ lb → Drain lc (lb - 6) (out ++ [tbl (lc / 2 ^ (lb - 6) % 64)]) lb' out' → Drain lc lb out lb' out'
theorem enc_drain (bs : List Int) (i : Nat) : Drain (((enc bs i).2.2 * 256 + bs.getD i 0) % 65536) ((enc bs i).2.1 + 8) (enc bs i).1 (enc bs (i + 1)).2.1 (enc bs (i + 1)).1 := by
  obtain ⟨h1, h2, h3, h4⟩ := enc_ok bs i
  rw [enc]
  generalize enc bs i = r at *
  rcases h1 with h | h | h <;> simp only [h]
  · exact .more (by decide) (.done (by decide))
  · exact .more (by decide) (.done (by decide))
  · refine .more (by decide) (.more (by decide) ?_)
    have := @Drain.done ((r.2.2 * 256 + bs.getD i 0) % 65536) 0 (r.1 ++ [tbl ((r.2.2 * 256 + bs.getD i 0) % 65536 / 64 % 64)] ++ [tbl ((r.2.2 * 256 + bs.getD i 0) % 65536 % 64)]) (by decide)
    simpa using this
theorem enc_lc (bs : List Int) (i : Nat) : (enc bs (i + 1)).2.2 = ((enc bs i).2.2 * 256 + bs.getD i 0) % 65536 := by
  rw [enc]
  split
  · rfl
  · split <;> rfl

section
variable {prog : Program} {w : World} {A : Around} {E : Value → Shared → Prop} {R : Result → Shared → Prop} {s s' : Shared} {m : Str → Option Value} {mg mb : Str → Option Value} {outer : List Env} {env : Env}
theorem Op2.shlS {a b : Int} (hn : 0 ≤ b) (hn2 : b ≤ 1000000) (ha : a.natAbs < 2 ^ 64) : Op2 prog w A .LShift a b (a * 2 ^ b.toNat) := fun _ _ _ _ _ h => lshift_int_small hn hn2 ha (h _ _)

theorem iter_bytes {b : Array UInt8} {tb : Tok} {xs : List Int} {X : List Addr} {Inv : Nat → Shared → Prop} {target : Expr} {body : List Stmt} (hh : A.handled = none) (hk : KBw.bInts b = xs) (hX : ∀ b ∈ X, b < s.heap.objs.size) (h0 : Inv 0 s)
    (stab : ∀ I, s.heap.get? I = none → (∀ b ∈ X, I ≠ b) → ∀ i s₁ h' tk, Inv i s₁ → Kx X s s₁ → (∀ o, s₁.heap.get? I = some o → ∃ vs, o.data = .fields vs) → Heap.ExtBut I s₁.heap h' → Inv i { s₁ with heap := h', toks := tk })
    (step : ∀ (i : Nat) a t s₁ (E' : Value → Shared → Prop), xs[i]? = some a → 0 ≤ a → a < 256 → Kx X s s₁ → Inv i s₁ →
      wpAny (model prog w) A (assign target env (.int a t)) (fun _ s₂ => wpAny (model prog w) A (execs body env) (fun f s₃ => (f = .next ∨ f = .cont) ∧ Kx X s₁ s₃ ∧ Inv (i + 1) s₃) E' s₂) E' s₁)
    (hR : ∀ s', Kx X s s' → Inv xs.length s' → R (.ok .next) s') (ht : ∀ v it, letOwnedTupleGo target it v = pure () := by intro _ _; rfl) :
    wpAny (model prog w) A (pyIter (.bytes b tb)) (fun it s₂ => codeAny (model prog w) A (.forLoop target it body [] env) R s₂) E s := by
  refine KBw.pyIter_bytes ?_
  have hI : s.heap.get? s.heap.objs.size = none := fresh_size (Nat.le_refl _)
  have hIX : ∀ b ∈ X, s.heap.objs.size ≠ b := fun b hb q => absurd (hX b hb) (q ▸ Nat.lt_irrefl _)
  generalize hio : ({ cls := .type "bytes_iterator", data := .fields #[.bytes b tb, .int 0 0] } : Obj) = io
  have ke : Heap.ExtBut s.heap.objs.size s.heap (s.heap.push io) := fun b o _ e => Heap.get?_push_of_some _ e
  have hsz : b.size = xs.length := by rw [← hk, KBw.ints_length]
  refine for_w (X := X) (s_b := s) (Inv := Inv) (KBw.walks hh s.heap.objs.size b tb) (fun b hb q => hIX b q (List.mem_singleton.mp hb).symm) hI (.of_kp ⟨_, _, rfl, push_keep _ _⟩) ?_
    (stab _ hI hIX 0 s _ s.toks h0 (.refl _) (fun o q => by rw [hI] at q; cases q) ke) ?_ (stab _ hI hIX) (fun i v s₁ E' hv hi' hk' hv' => ?_) (by rw [hsz]; exact hR) (fun v => ht v _)
  · exact ⟨io, Heap.get?_push_size _ (by subst hio; rfl), by subst hio; rfl, by subst hio; rfl⟩
  · rintro i h ⟨oi, e, _, hd⟩ o q
    rw [e] at q; cases q; exact ⟨_, hd⟩
  · obtain ⟨c, u, hc, rfl⟩ := hv
    have := KBw.ints_get hc
    rw [hk] at this
    have hr := KBw.ints_in (b := b) (k := (c.toNat : Int)) (by rw [hk]; exact List.mem_of_getElem? this)
    exact step i _ u s₁ E' this hr.1 hr.2 hk' hv'
end
end Mine

-- ================ B64b ================
namespace Mine
section
variable {prog : Program} {w : World} {A : Around} {E : Value → Shared → Prop} {R : Result → Shared → Prop} {s s' : Shared} {m : Str → Option Value} {mg mb : Str → Option Value} {outer : List Env} {env : Env}

theorem Drain.len {lc : Int} {lb lb' : Nat} {out out' : List Int} (x : Drain lc lb out lb' out') : out.length ≤ out'.length := by
  induction x with
  | done _ => exact Nat.le_refl _
  | more _ _ ih => simp at ih; omega

theorem Drain.stop {lc : Int} {lb lb' : Nat} {out out' : List Int} (x : Drain lc lb out lb' out') (h : lb < 6) : lb' = lb ∧ out' = out := by
  cases x with
  | done _ => exact ⟨rfl, rfl⟩
  | more h' _ => omega
theorem Drain.next {lc : Int} {lb lb' : Nat} {out out' : List Int} (x : Drain lc lb out lb' out') (h : 6 ≤ lb) : Drain lc (lb - 6) (out ++ [tbl (lc / 2 ^ (lb - 6) % 64)]) lb' out' := by
  cases x with
  | done h' => omega
  | more _ h => exact h

abbrev envQ (pm cd : Value) (L : Addr) : Env := callEnv (fdX (stAt 9) .none (.ref 80) pm cd) L 87

/-- what stands in b2a_base64 while it works -/
structure Bq (s₀ : Shared) (outer : List Env) (L D : Addr) (lb : Nat) (lc : Int) (out : List Int) (m : Str → Option Value) (s : Shared) : Prop where
  lw : Lw s₀ outer L m [] s
  mo : m "out" = some (.ref D)
  ml : ∃ t, m "leftbits" = some (.int lb t)
  mc : ∃ t, m "leftchar" = some (.int lc t)
  mn : m "newline" = some (.bool false)
  li : Li s.heap D out


theorem Bq.kx_out {s₀ : Shared} {L D : Addr} {lb : Nat} {lc : Int} {out : List Int} (x : Bq s₀ outer L D lb lc out m s) : D ≠ L := ns_li_ne x.lw.ns x.li

/-- the while statement of b2a_base64 -/
def b2aWhile : Stmt := match bodyOf (stAt 9) with
  | [_, _, _, _, _, .For _ _ [_, _, w] .., _, _, _] => w
  | _ => .Pass default
def b2aFor : Stmt := ((bodyOf (stAt 9))[5]?).getD (.Pass default)

theorem b2a_while {s₀ : Shared} {D L : Addr} {X : List Addr} {lc : Int} {LB : Nat} {OUT : List Int} {Q : Flow → Shared → Prop} {pm cd : Value} (W : Wd mg mb s₀.heap) (Z : Wb mg mb s₀.heap) (hlc : 0 ≤ lc) (hz : OUT.length ≤ 1000)
    (hD : s₀.heap.get? D = none) (hX : D ∈ X ∧ L ∈ X) {lb : Nat} {out : List Int} (x : Bq s₀ outer L D lb lc out m s) (dr : Drain lc lb out LB OUT) (hlb : lb ≤ 14)
    (h : ∀ m' s', Bq s₀ outer L D LB lc OUT m' s' → Kx X s s' → Q .next s') :
    wpAny (model prog w) A (exec b2aWhile (envQ pm cd L)) Q E s := by
  refine (show wpAny _ _ (exec (.While (.Compare _ [.GtE] [_] _) [_, _] [] _) _) _ _ _ from wpAny_While ?_)
  refine codeAny_whileLoop (fun n s' => ∃ m lb out, n = lb ∧ lb ≤ 14 ∧ Drain lc lb out LB OUT ∧ Bq s₀ outer L D lb lc out m s' ∧ Kx X s s') ?_ lb ⟨m, lb, out, rfl, hlb, dr, x, .refl _⟩
  rintro n s₁ ⟨m₁, lb₁, out₁, hn, hlb₁, dr₁, x₁, k₁⟩
  obtain ⟨t₁, ml₁⟩ := x₁.ml
  obtain ⟨u₁, mc₁⟩ := x₁.mc
  refine wpAny_isTrue_Compare1 (nL x₁.lw.ns ml₁ (cint (ge_int (wpAny_truthy_bool ?_))))
  have W₁ := W.kf x₁.lw.fr x₁.lw.kf
  rcases Nat.lt_or_ge lb₁ 6 with hlt | hge
  · obtain ⟨e1, e2⟩ := dr₁.stop hlt
    rw [show decide ((6 : Int) ≤ ((lb₁ : Nat) : Int)) = false by simp; omega]
    simp only [Bool.false_eq_true, if_false]
    refine wpAny_execs_nil (h m₁ _ ⟨x₁.lw.toks _, x₁.mo, ⟨t₁, by rw [e1]; exact ml₁⟩, ⟨u₁, mc₁⟩, x₁.mn, by rw [e2]; exact x₁.li⟩ (k₁.kp ⟨_, _, rfl, fun _ _ e => e⟩))
  · have dr₂ := dr₁.next hge
    rw [show decide ((6 : Int) ≤ ((lb₁ : Nat) : Int)) = true by simp; omega]
    simp only [if_true]
    obtain ⟨bt, tt, gt, ht⟩ := Z.tab
    refine wpAny_execs_cons (ex_append (d := D) x₁.lw.ns x₁.mo ⟨_, x₁.li⟩ rfl ?_ (by kernel_rfl))
    refine Subscript_ (nG W₁.g gt ?_)
    refine Ev.use (Ev.bin (Ev.bin (Ev.loc x₁.lw.ns mc₁) (Ev.bin (Ev.loc x₁.lw.ns ml₁) (.const 6) .sub) (.shr (by omega))) (.const 63) .and) fun ui tk => ?_
    have e1 : (((lb₁ : Nat) : Int) - 6).toNat = lb₁ - 6 := by omega
    rw [e1, bitAnd_m6]
    have hdiv : 0 ≤ lc / 2 ^ (lb₁ - 6) % 64 ∧ lc / 2 ^ (lb₁ - 6) % 64 < 64 := by omega
    refine KBw.item_K ht (by decide) hdiv.1 (by show _ < ((64 : Nat) : Int); omega) fun t' k _ _ => ?_
    refine ⟨_, _, out₁, rfl, x₁.li, ?_, fun h' hl' hs' => ?_⟩
    · have := dr₂.len
      have := sizeLine_eq
      simp at *; omega
    have x₂ : Lw s₀ outer L m₁ [] { s₁ with heap := h', toks := k } := x₁.lw.li x₁.li hD hs'
    refine wpAny_execs_cons (wpAny_Assign_Name (Ev.use (Ev.bin (Ev.loc x₂.ns ml₁) (.const 6) .sub) fun ul tl => ?_) (by kernel_rfl))
    refine (x₂.toks _).store (env := envQ pm cd L) (n := "leftbits") fun s₃ b₃ x₃ => wpAny_execs_nil ?_
    have e2 : (((lb₁ : Nat) : Int) - 6) = ((lb₁ - 6 : Nat) : Int) := by omega
    refine ⟨lb₁ - 6, by omega, _, lb₁ - 6, _, rfl, by omega, dr₂, ⟨x₃, (upd_ne (by decide)).trans x₁.mo, ⟨_, by rw [← e2]; exact upd_same⟩, ⟨_, (upd_ne (by decide)).trans mc₁⟩, (upd_ne (by decide)).trans x₁.mn, ?_⟩, ?_⟩
    · exact (x₂.toks _).sbl hl' b₃
    · exact (k₁.trans ((Kx.of_but hs'.extBut hX.1 (tk := k)).kp ⟨_, tl, rfl, fun _ _ e => e⟩)).trans (b₃.kx hX.2)
theorem b2a_call {b : Array UInt8} {t : Tok} {bs : List Int} {Q : Value → Shared → Prop} (W : Wd mg mb s.heap) (Z : Wb mg mb s.heap) (hd : A.depth + 4 < recursionLimit) (hh : A.handled = none) (hF : Frs s.heap outer)
    (hk : KBw.bInts b = bs) (hlen : bs.length ≤ 6) (h0 : (enc bs bs.length).2.1 = 0)
    (h : ∀ r t s', KF (frs outer) s s' → KBw.bInts r = (enc bs bs.length).1 → Q (.bytes r t) s') :
    wpAny (model prog w) A (call (.ref 87) [.bytes b t] [("newline", .bool false)]) Q E s := by
  obtain ⟨o, pm, cd, ho, hdt, hcd⟩ := Z.b2a.there
  refine wpAny_call (codeAny_call_def (fd := fdX (stAt 9) .none (.ref 80) pm cd) (body := bodyOf (stAt 9)) (binds := [("data", .bytes b t), ("newline", .bool false)]) (by omega) ho hdt W.lim hcd (by kernel_rfl) (.of_eq (by kernel_rfl))
    (show ∀ x ∈ (scopeOf (stAt 9)).names, x.2 ≠ .cell by decide) (by intro y hy; simp only [List.mem_cons, List.not_mem_nil, or_false] at hy; rcases hy with rfl | rfl <;> kernel_rfl) (fun h₁ hn₁ k₁ => ?_) (by kernel_rfl) (by kernel_rfl) (by kernel_rfl))
  have hL : s.heap.get? s.heap.objs.size = none := fresh_size (Nat.le_refl _)
  generalize hm : (fun (x : Str) => List.lookup x (List.reverse [(Str.ofString "data", Value.bytes b t), (Str.ofString "newline", Value.bool false)])) = m₁ at hn₁
  have md : m₁ "data" = some (.bytes b t) := by subst hm; kernel_rfl
  have mn : m₁ "newline" = some (.bool false) := by subst hm; kernel_rfl
  clear hm
  have x₁ : Lw s outer (envQ pm cd s.heap.objs.size).locals m₁ [] { s with heap := h₁, toks := s.toks + 2 } := ⟨.of_kp ⟨h₁, _, rfl, k₁⟩, hn₁, by simp, hF, hL, by simp⟩
  have W₁ := W.kf hF x₁.kf
  have Z₁ := Z.kf hF x₁.kf
  obtain ⟨ob, pmb, cdb, hob, hdtb, hcdb⟩ := Z₁.buffer.there
  refine wpAny_execs_cons (wpAny_Assign_Name (Call_ (nG W₁.g Z₁.buffer.name (cwF hdtb (args_cons (nL hn₁ md (args_nil ⟨hob, buffer_call W₁ Z₁ (show A.depth + 1 < recursionLimit by omega) fun s₂ k₂ => ?_⟩)))))) (by kernel_rfl))
  have x₂ := x₁.kp k₂
  refine x₂.store (env := envQ pm cd s.heap.objs.size) (n := "bin_data") fun s₃ b₃ x₃ => ?_
  have W₃ := W.kf hF x₃.kf
  have Z₃ := Z.kf hF x₃.kf
  obtain ⟨ot, pmt, cdt, hot, hdtt, hcdt⟩ := Z₃.truth.there
  refine wpAny_execs_cons (wpAny_Assign_Name (Call_ (nG W₃.g Z₃.truth.name (cwF hdtt (args_cons (nL x₃.ns ((upd_ne (by decide)).trans mn) (args_nil ⟨hot, truth_call W₃ Z₃ (show A.depth + 1 < recursionLimit by omega) fun s₄ k₄ => ?_⟩)))))) (by kernel_rfl))
  have x₄ := x₃.kp k₄
  refine x₄.store (env := envQ pm cd s.heap.objs.size) (n := "newline") fun s₅ b₅ x₅ => ?_
  refine wpAny_execs_cons (wpAny_Assign_Name (List_ (args_nil ?_)) (by kernel_rfl))
  refine li_new (prog := prog) (w := w) (ns := []) .nil (by decide) fun D s₆ k₆ hD₆ hl₆ => ?_
  have x₆ := x₅.kp k₆
  refine x₆.store (env := envQ pm cd s.heap.objs.size) (n := "out") fun s₇ b₇ x₇ => ?_
  have hl₇ := x₆.sbl hl₆ b₇
  refine wpAny_execs_cons (wpAny_Assign_Name (cint ?_) (by kernel_rfl))
  refine (x₇.toks _).store (env := envQ pm cd s.heap.objs.size) (n := "leftbits") fun s₈ b₈ x₈ => ?_
  have hl₈ := (x₇.toks _).sbl hl₇ b₈
  refine wpAny_execs_cons (wpAny_Assign_Name (cint ?_) (by kernel_rfl))
  refine (x₈.toks _).store (env := envQ pm cd s.heap.objs.size) (n := "leftchar") fun s₉ b₉ x₉ => ?_
  have hl₉ := (x₈.toks _).sbl hl₈ b₉
  have hD : s.heap.get? D = none := x₅.none_back hD₆
  generalize hm₉ : upd (upd (upd (upd (upd m₁ _ _) _ _) _ _) _ _) _ _ = m₉ at x₉
  have mb₉ : m₉ "bin_data" = some (.bytes b t) := by subst hm₉; exact (upd_ne (by decide)).trans ((upd_ne (by decide)).trans ((upd_ne (by decide)).trans ((upd_ne (by decide)).trans upd_same)))
  have B₉ : Bq s outer (envQ pm cd s.heap.objs.size).locals D 0 0 [] m₉ s₉ := by
    refine ⟨x₉, ?_, ?_, ?_, ?_, hl₉⟩ <;> subst hm₉
    · exact (upd_ne (by decide)).trans ((upd_ne (by decide)).trans upd_same)
    · exact ⟨_, (upd_ne (by decide)).trans upd_same⟩
    · exact ⟨_, upd_same⟩
    · exact (upd_ne (by decide)).trans ((upd_ne (by decide)).trans ((upd_ne (by decide)).trans upd_same))
  clear hm₉ x₁ x₂ x₃ x₄ x₅ x₆ x₇ x₈ b₃ b₅ b₇ b₈ b₉ W₁ W₃ Z₁ Z₃ hl₆ hl₇ hl₈
  have hDL : D ≠ (envQ pm cd s.heap.objs.size).locals := B₉.kx_out
  refine wpAny_execs_cons (wpAny_For (nL x₉.ns mb₉ ?_))
  refine iter_bytes (Inv := fun i s' => ∃ m, Bq s outer (envQ pm cd s.heap.objs.size).locals D (enc bs i).2.1 (enc bs i).2.2 (enc bs i).1 m s') (X := D :: (envQ pm cd s.heap.objs.size).locals :: frs outer) hh hk ?_ ⟨m₉, B₉⟩ ?_ ?_ ?_
  · intro c hc
    rcases List.mem_cons.mp hc with rfl | hc
    · exact hl₉.lt
    · exact x₉.live c hc
  · rintro I hI hIX i s₅ h₆ tk₆ ⟨m, x⟩ hk' hf hx
    exact ⟨m, x.lw.but hx (x₉.none_back hI) (hIX _ (.tail _ (.head _))) (by simp), x.mo, x.ml, x.mc, x.mn, x.li.but hx (x.li.off hf)⟩
  · rintro i a ta s₅ E' ha ha0 ha1 hk' ⟨m, x⟩
    obtain ⟨hphase, hc0, hc1, hlen₁⟩ := enc_ok bs i
    have hi6 : i < bs.length := (List.getElem?_eq_some_iff.mp ha).1
    have hg : bs.getD i 0 = a := by rw [List.getD_eq_getElem?_getD, ha]; rfl
    obtain ⟨tl, ml⟩ := x.ml
    obtain ⟨tc, mc⟩ := x.mc
    refine wpAny_assign_Name (x.lw.store (env := envQ pm cd s.heap.objs.size) (n := "b") fun s₆ b₆ x₆ => ?_)
    have li₆ := x.lw.sbl x.li b₆
    refine wpAny_execs_cons (wpAny_Assign_Name (Ev.use (Ev.bin (Ev.bin (Ev.bin (Ev.loc x₆.ns ((upd_ne (by decide)).trans mc)) (.const 8) (.shlS (by decide) (by decide) (by omega))) (Ev.loc x₆.ns upd_same) .or) (.const 65535) .and) fun u1 k1 => ?_) (by kernel_rfl))
    have e1 : Builtin.bitAnd (Builtin.bitOr ((enc bs i).2.2 * 2 ^ (8 : Int).toNat) a) 65535 = (enc bs (i + 1)).2.2 := by
      rw [show (2 : Int) ^ (8 : Int).toNat = 256 from rfl, or_shift hc0 ha0 ha1, bitAnd_m16, enc_lc, hg]
    rw [e1]
    refine (x₆.toks _).store (env := envQ pm cd s.heap.objs.size) (n := "leftchar") fun s₇ b₇ x₇ => ?_
    have li₇ := (x₆.toks _).sbl li₆ b₇
    refine wpAny_execs_cons (wpAny_Assign_Name (Ev.use (Ev.bin (Ev.loc x₇.ns ((upd_ne (by decide)).trans ((upd_ne (by decide)).trans ml))) (.const 8) .add) fun u2 k2 => ?_) (by kernel_rfl))
    refine (x₇.toks _).store (env := envQ pm cd s.heap.objs.size) (n := "leftbits") fun s₈ b₈ x₈ => ?_
    have li₈ := (x₇.toks _).sbl li₇ b₈
    have e2 : (((enc bs i).2.1 : Nat) : Int) + 8 = (((enc bs i).2.1 + 8 : Nat) : Int) := by omega
    have dr := enc_drain bs i
    rw [hg, ← hg, ← enc_lc] at dr
    have B₈ : Bq s outer (envQ pm cd s.heap.objs.size).locals D ((enc bs i).2.1 + 8) (enc bs (i + 1)).2.2 (enc bs i).1 _ s₈ :=
      ⟨x₈, (upd_ne (by decide)).trans ((upd_ne (by decide)).trans ((upd_ne (by decide)).trans x.mo)), ⟨u2, by rw [← e2]; exact upd_same⟩, ⟨u1, (upd_ne (by decide)).trans upd_same⟩, (upd_ne (by decide)).trans ((upd_ne (by decide)).trans ((upd_ne (by decide)).trans x.mn)), li₈⟩
    have hlen₂ := (enc_ok bs (i + 1)).2.2.2
    refine wpAny_execs_cons (b2a_while (s₀ := s) (outer := outer) (mg := mg) (mb := mb) (X := D :: (envQ pm cd s.heap.objs.size).locals :: frs outer) W Z (enc_ok bs (i + 1)).2.1 (by omega) hD ⟨.head _, .tail _ (.head _)⟩ B₈ dr (by omega) fun m' s₉ B' k' => wpAny_execs_nil ⟨.inl rfl, ?_, m', B'⟩)
    exact (((b₆.kx (.tail _ (.head _))).kp ⟨_, k1, rfl, fun _ _ e => e⟩).trans (((b₇.kx (.tail _ (.head _))).kp ⟨_, k2, rfl, fun _ _ e => e⟩).trans (b₈.kx (.tail _ (.head _))))).trans k'
  · rintro s₅ hk' ⟨m, x⟩
    obtain ⟨tl, ml⟩ := x.ml
    rw [h0] at ml
    have W₅ := W.kf hF x.lw.kf
    have Z₅ := Z.kf hF x.lw.kf
    refine wpAny_execs_cons (wpAny_If (wpAny_isTrue_Compare1 (nL x.lw.ns ml (cint (eq_int (wpAny_truthy_bool ?_))))))
    rw [show (((0 : Nat) : Int) == 2) = false from rfl]
    simp only [Bool.false_eq_true, if_false]
    refine wpAny_execs_cons (wpAny_If (wpAny_isTrue_Compare1 (nL x.lw.ns ml (cint (eq_int (wpAny_truthy_bool ?_))))))
    rw [show (((0 : Nat) : Int) == 4) = false from rfl]
    simp only [Bool.false_eq_true, if_false]
    refine wpAny_execs_nil (wpAny_execs_nil ?_)
    refine wpAny_execs_cons (wpAny_If (wpAny_isTrue_value (nL x.lw.ns x.mn (wpAny_truthy_bool ?_))))
    simp only [Bool.false_eq_true, if_false]
    refine wpAny_execs_nil ?_
    refine wpAny_execs_cons (wpAny_Return_some (Call_ (nB W₅.g W₅.b Z.gbytes Z.bbytes (cwT (args_cons (nL x.lw.ns x.mo (args_nil ?_)))))))
    obtain ⟨vs, hli, hvs⟩ := x.li.isList
    have hr := enc_in bs bs.length
    have hz := (enc_ok bs bs.length).2.2.2
    refine call_bytes_ints hli hvs hr (by rw [hvs.length]; have := sizeLine_eq; omega) hh fun h' t' k hkp => ?_
    refine h _ _ _ (x.lw.kf.kp ⟨h', k, rfl, fun c o e => hkp c o e⟩) ?_
    exact KBa.ints_make hr
end
end Mine

-- ================ B64c ================
namespace Mine
section
variable {prog : Program} {w : World} {A : Around} {E : Value → Shared → Prop} {R : Result → Shared → Prop} {s s' : Shared} {m : Str → Option Value} {mg mb : Str → Option Value} {outer : List Env} {env : Env}

theorem callKw {M : Model} {x : Str} {np pos : Pos} {es : List Expr} {kws : List Keyword} {Q : Value → Shared → Prop}
    (h : wpAny M A (eval (.Name x np) env) (fun f s₁ => wpAny M A (callWith pos f [] (backTo pos (starEach es env)) (backToKw pos (keywordEach kws env))) Q E s₁) E s) :
    wpAny M A (eval (.Call (.Name x np) es kws pos) env) Q E s := by
  show wpAny M A (do callWith pos (← eval (.Name x np) env) [] (backTo pos (starEach es env)) (backToKw pos (keywordEach kws env))) Q E s
  exact wpAny_bind h

abbrev envG (pm cd : Value) (L : Addr) : Env := callEnv (fdX (stAt 11) (.ref 88) .none pm cd) L 95

theorem b64_call {b : Array UInt8} {t : Tok} {bs : List Int} {Q : Value → Shared → Prop} (W : Wd mg mb s.heap) (Z : Wb mg mb s.heap) (hd : A.depth + 8 < recursionLimit) (hh : A.handled = none) (hF : Frs s.heap outer)
    (hk : KBw.bInts b = bs) (hlen : bs.length ≤ 6) (h0 : (enc bs bs.length).2.1 = 0)
    (h : ∀ r t s', KF (frs outer) s s' → KBw.bInts r = (enc bs bs.length).1 → Q (.bytes r t) s') :
    wpAny (model prog w) A (call (.ref 95) [.bytes b t]) Q E s := by
  obtain ⟨o, pm, cd, ho, hdt, hcd⟩ := Z.b64.there
  obtain ⟨od, nd, hod, hdd⟩ := Z.dflt
  refine wpAny_call (codeAny_call_def (fd := fdX (stAt 11) (.ref 88) .none pm cd) (body := bodyOf (stAt 11)) (binds := [("s", .bytes b t), ("altchars", .none)]) (by omega) ho hdt W.lim hcd (by kernel_rfl) (.of_defaults (items := #[.none]) rfl hod hdd rfl (by kernel_rfl))
    (show ∀ x ∈ (scopeOf (stAt 11)).names, x.2 ≠ .cell by decide) (by intro y hy; simp only [List.mem_cons, List.not_mem_nil, or_false] at hy; rcases hy with rfl | rfl <;> kernel_rfl) (fun h₁ hn₁ k₁ => ?_) (by kernel_rfl) (by kernel_rfl) (by kernel_rfl))
  have hL : s.heap.get? s.heap.objs.size = none := fresh_size (Nat.le_refl _)
  generalize hm : (fun (x : Str) => List.lookup x (List.reverse [(Str.ofString "s", Value.bytes b t), (Str.ofString "altchars", Value.none)])) = m₁ at hn₁
  have md : m₁ "s" = some (.bytes b t) := by subst hm; kernel_rfl
  have mn : m₁ "altchars" = some .none := by subst hm; kernel_rfl
  clear hm
  have x₁ : Lw s outer (envG pm cd s.heap.objs.size).locals m₁ [] { s with heap := h₁, toks := s.toks + 2 } := ⟨.of_kp ⟨h₁, _, rfl, k₁⟩, hn₁, by simp, hF, hL, by simp⟩
  have W₁ := W.kf hF x₁.kf
  have Z₁ := Z.kf hF x₁.kf
  obtain ⟨ob, pmb, cdb, hob, hdtb, hcdb⟩ := Z₁.b2a.there
  refine wpAny_execs_cons (wpAny_Assign_Name (callKw (nG W₁.g Z₁.b2a.name (callWith_def_kw hdtb (evalArgs_kw2 (by rfl) (args_cons (nL hn₁ md (args_nil (kwAll_cons (wpAny_Constant_bool (kwAll_nil ?_)))))))))) (by kernel_rfl))
  have hek : (envG pm cd s.heap.objs.size).scope.kind ≠ .module := (show (envG pm cd s.heap.objs.size).scope.kind = .function by kernel_rfl) ▸ (by decide)
  refine ⟨hob, b2a_call (outer := envG pm cd s.heap.objs.size :: outer) W₁ Z₁ (show A.depth + 1 + 4 < recursionLimit by omega) hh (x₁.frs (env := envG pm cd s.heap.objs.size) rfl hek) hk hlen h0 fun r t' s₂ k₂ hr => ?_⟩
  rw [frs_cons (L := (envG pm cd s.heap.objs.size).locals) rfl] at k₂
  have x₂ := x₁.kf' k₂
  refine x₂.store (env := envG pm cd s.heap.objs.size) (n := "encoded") fun s₃ b₃ x₃ => ?_
  refine wpAny_execs_cons (wpAny_If (wpAny_isTrue_Compare1 (nL x₃.ns ((upd_ne (by decide)).trans mn) (wpAny_Constant_none (wpAny_isNot_self rfl (wpAny_truthy_bool ?_))))))
  simp only [Bool.false_eq_true, if_false]
  exact wpAny_execs_nil (wpAny_execs_cons (wpAny_Return_some (nL x₃.ns upd_same (h r t' s₃ x₃.kf hr))))
end
end Mine

-- ================ Comp2 ================
namespace Mine
section
variable {prog : Program} {w : World} {A : Around} {E : Value → Shared → Prop} {R : Result → Shared → Prop} {s s' s₀ : Shared} {m : Str → Option Value} {mg mb : Str → Option Value} {outer : List Env} {env : Env} {cl₀ : List (Addr × Option Value)}

/-- 0, 1, … n-1 as ints -/
def upTo (n : Nat) : List Int := (List.range n).map fun (i : Nat) => (i : Int)
theorem upTo_length (n : Nat) : (upTo n).length = n := by simp [upTo]
theorem upTo_get {n i : Nat} (h : i < n) : (upTo n)[i]? = some (i : Int) := by unfold upTo; rw [List.getElem?_map, List.getElem?_range h]; rfl
/-- a comprehension over whatever walks through ints -/
theorem comp_w {elt iter : Expr} {x : Str} {px : Pos} {ifs : List Expr} {scope : Scope} {cl : List (Str × Addr)} {pos : Pos} {Q : Value → Shared → Prop} (pz : Int → Bool) (f : Int → Int)
    (hh : A.handled = none) (hclos : closureFor scope env = pure cl) (hcell : ∀ y ∈ scope.names, y.2 ≠ .cell) (hkind : scope.kind = .function)
    (hnames : ∀ y ∈ scope.names, y.2 = .local → scope.names.lookup y.1 = some .local) (hx : scope.names.lookup x = some .local)
    (h : wpAny (model prog w) A (eval iter env) (fun xv s₁ => wpAny (model prog w) A (pyIter xv) (fun it s₂ => ∃ I fp n P St ns, it = .ref I ∧ Walks prog w A I fp [I] n P St ∧ n ≤ sizeLine ∧ St 0 s₂.heap ∧ (∀ b ∈ fp, b < s₂.heap.objs.size) ∧
      (∀ i v, P i v → ∃ a t, v = Value.int a t ∧ ns[i]? = some a) ∧ n = ns.length ∧ s₁.heap.get? I = none ∧ Keeps s₁ s₂ ∧ CompLi prog w A env scope cl x ifs elt pz f ns s₁ ∧
      (∀ D s', Keeps s₁ s' → s₁.heap.get? D = none → Li s'.heap D ((ns.filter pz).map f) → Q (.ref D) s')) E s₁) E s)
    (hs : ∀ x, foldedSetIterable iter env x = pure x := by intro _; rfl) :
    wpAny (model prog w) A (eval (.ListComp elt [⟨.Name x px, iter, ifs, 0⟩] scope pos) env) Q E s := by
  refine wpAny_ListComp_free (fun v => match v with | .int a _ => pz a | _ => false) (fun v y => ∃ a t u, v = Value.int a t ∧ y = Value.int (f a) u) hclos hcell hkind hnames hx
    (wpAny_mono h (fun xv s₁ h₁ => wpAny_mono h₁ (fun it s₂ h₂ => ?_) fun _ _ e => e) fun _ _ e => e) hs
  obtain ⟨I, fp, n, P, St, ns, rfl, W, hz, hst, hfp, hP, hn, hI, k₂, c, hQ⟩ := h₂
  have up : ∀ b o, s₁.heap.get? b = some o → b ∉ [I] ∧ s₂.heap.get? b = some o := fun b o e => ⟨fun q => (by rw [List.mem_singleton.mp q, hI] at e; cases e), kp_get k₂ e⟩
  refine ⟨I, fp, [I], n, P, St, rfl, W, hz, hst, hfp, ⟨?_, ?_⟩, ?_⟩
  · intro C j v s₃ m₃ E' _ hPj hnC hm hold _
    obtain ⟨a, t, rfl, hj⟩ := hP j v hPj
    exact c.tests C a t s₃ m₃ E' (List.mem_of_getElem? hj) hnC hm fun b o e => hold b o (up b o e).1 (up b o e).2
  · intro C j v s₃ m₃ E' _ hPj hp hnC hm hold _
    obtain ⟨a, t, rfl, hj⟩ := hP j v hPj
    refine wpAny_mono (c.elt C a t s₃ m₃ E' (List.mem_of_getElem? hj) hp hnC hm fun b o e => hold b o (up b o e).1 (up b o e).2) (fun y s₄ h₄ => ?_) fun _ _ e => e
    obtain ⟨⟨u, rfl⟩, k⟩ := h₄
    exact ⟨⟨a, t, u, rfl, rfl⟩, k⟩
  · intro D h' tk ys ws hnew hlD hpl hlen hPj hF hk
    have hws : IntsAre ws ns := by
      have key : ∀ (ws : List Value) (ns : List Int), ws.length = ns.length → (∀ (j : Nat) (v : Value), ws[j]? = some v → ∃ a t, v = Value.int a t ∧ ns[j]? = some a) → IntsAre ws ns := by
        intro ws
        induction ws with
        | nil => intro ns hl _; cases ns with | nil => exact .nil | cons _ _ => cases hl
        | cons v r ih =>
          intro ns hl hp
          cases ns with
          | nil => cases hl
          | cons a r' =>
            obtain ⟨a', t, rfl, e⟩ := hp 0 v rfl
            cases e
            exact .cons _ _ (ih r' (by simpa using hl) fun j v hj => by simpa using hp (j + 1) v (by simpa using hj))
      exact key ws ns (by rw [hlen, hn]) fun j v hj => hP j v (hPj j v hj)
    have keep : ∀ b o, s₁.heap.get? b = some o → h'.get? b = some o := fun b o e => hk b o (up b o e).1 (up b o e).2
    refine hQ D _ ?_ (kp_none k₂ hnew) (plain_li hpl (paired_li hws hF))
    obtain ⟨h₂', t₂, rfl, _⟩ := k₂
    exact ⟨h', tk, rfl, keep⟩

theorem comp_bytes {elt iter : Expr} {x : Str} {px : Pos} {ifs : List Expr} {scope : Scope} {cl : List (Str × Addr)} {pos : Pos} {Q : Value → Shared → Prop} (pz : Int → Bool) (f : Int → Int)
    (hh : A.handled = none) (hclos : closureFor scope env = pure cl) (hcell : ∀ y ∈ scope.names, y.2 ≠ .cell) (hkind : scope.kind = .function)
    (hnames : ∀ y ∈ scope.names, y.2 = .local → scope.names.lookup y.1 = some .local) (hx : scope.names.lookup x = some .local)
    (h : wpAny (model prog w) A (eval iter env) (fun xv s₁ => ∃ b t ns, xv = .bytes b t ∧ KBw.bInts b = ns ∧ ns.length ≤ sizeLine ∧ CompLi prog w A env scope cl x ifs elt pz f ns s₁ ∧
      (∀ D s', Keeps s₁ s' → s₁.heap.get? D = none → Li s'.heap D ((ns.filter pz).map f) → Q (.ref D) s')) E s)
    (hs : ∀ x, foldedSetIterable iter env x = pure x := by intro _; rfl) :
    wpAny (model prog w) A (eval (.ListComp elt [⟨.Name x px, iter, ifs, 0⟩] scope pos) env) Q E s := by
  refine comp_w pz f hh hclos hcell hkind hnames hx (wpAny_mono h (fun xv s₁ h₁ => ?_) fun _ _ e => e) hs
  obtain ⟨b, t, ns, rfl, hb, hz, c, hQ⟩ := h₁
  refine KBw.pyIter_bytes ?_
  have hsz : b.size = ns.length := by rw [← hb, KBw.ints_length]
  refine ⟨s₁.heap.objs.size, _, _, _, _, ns, rfl, KBw.walks hh s₁.heap.objs.size b t, by rw [hsz]; exact hz, ⟨_, Heap.get?_push_size _ rfl, rfl, rfl⟩, ?_, ?_, hsz, fresh_size (Nat.le_refl _), ⟨_, _, rfl, push_keep _ _⟩, c, hQ⟩
  · intro a ha
    rw [List.mem_singleton.mp ha]
    show _ < (s₁.heap.push _).objs.size
    rw [Heap.size_push]; exact Nat.lt_succ_self _
  · rintro i v ⟨c, u, hc, rfl⟩
    have := KBw.ints_get hc
    rw [hb] at this
    exact ⟨_, _, rfl, this⟩

theorem comp_range {elt iter : Expr} {x : Str} {px : Pos} {ifs : List Expr} {scope : Scope} {cl : List (Str × Addr)} {pos : Pos} {Q : Value → Shared → Prop} (pz : Int → Bool) (f : Int → Int)
    (hh : A.handled = none) (hclos : closureFor scope env = pure cl) (hcell : ∀ y ∈ scope.names, y.2 ≠ .cell) (hkind : scope.kind = .function)
    (hnames : ∀ y ∈ scope.names, y.2 = .local → scope.names.lookup y.1 = some .local) (hx : scope.names.lookup x = some .local)
    (h : wpAny (model prog w) A (eval iter env) (fun xv s₁ => ∃ (r : Addr) (n : Nat) (t u v : Tok), xv = .ref r ∧ IsRange s₁.heap r 0 (n : Int) 1 t u v ∧ Builtin.Range.small 0 (n : Int) 1 = true ∧ Builtin.Range.rangeSize 0 (n : Int) 1 = (n : Int) ∧ n ≤ sizeLine ∧ CompLi prog w A env scope cl x ifs elt pz f (upTo n) s₁ ∧
      (∀ D s', Keeps s₁ s' → s₁.heap.get? D = none → Li s'.heap D (((upTo n).filter pz).map f) → Q (.ref D) s')) E s)
    (hs : ∀ x, foldedSetIterable iter env x = pure x := by intro _; rfl) :
    wpAny (model prog w) A (eval (.ListComp elt [⟨.Name x px, iter, ifs, 0⟩] scope pos) env) Q E s := by
  refine comp_w pz f hh hclos hcell hkind hnames hx (wpAny_mono h (fun xv s₁ h₁ => ?_) fun _ _ e => e) hs
  obtain ⟨r, n, t, u, v, rfl, hr, hsm, hrs, hz, c, hQ⟩ := h₁
  refine wpAny_pyIter_range hr hsm ?_
  refine ⟨s₁.heap.objs.size, _, _, _, _, upTo n, rfl, (Walks.range hh s₁.heap.objs.size 0 1 n).bound, hz, ?_, ?_, ?_, (upTo_length n).symm, fresh_size (Nat.le_refl _), ⟨_, _, rfl, push_keep _ _⟩, c, hQ⟩
  · show IsRangeIter _ _ _ _ _
    rw [hrs]
    simpa using Heap.get?_push_size _ rfl
  · intro a ha
    rw [List.mem_singleton.mp ha]
    show _ < (s₁.heap.push _).objs.size
    rw [Heap.size_push]; exact Nat.lt_succ_self _
  · rintro i v ⟨hi, t, rfl⟩
    refine ⟨_, t, rfl, ?_⟩
    rw [upTo_get hi]
    simp

/-- the value goes straight into a local name -/
theorem comp_lw {elt iter : Expr} {x y : Str} {px py : Pos} {ifs : List Expr} {scope : Scope} {cl : List (Str × Addr)} {pos spos : Pos} {Q : Flow → Shared → Prop} (pz : Int → Bool) (f : Int → Int)
    (hsw : swapsWith (.ListComp elt [⟨.Name x px, iter, ifs, 0⟩] scope pos) (some (.Name y py)) spos.line env = pure true)
    (hh : A.handled = none) (hclos : closureFor scope env = pure cl) (hcell : ∀ y ∈ scope.names, y.2 ≠ .cell) (hkind : scope.kind = .function)
    (hnames : ∀ y ∈ scope.names, y.2 = .local → scope.names.lookup y.1 = some .local) (hx : scope.names.lookup x = some .local)
    (hy : env.kindOf y = some .local) (hp : (env.scope.kind == .class || (env.scope.kind == .module && env.locals != env.globals)) = false)
    (h : wpAny (model prog w) A (eval iter env) (fun xv s₁ => ∃ ax vs ns m, xv = .ref ax ∧ s₁.heap.IsList ax (List.toArray vs) ∧ IntsAre vs ns ∧ ns.length ≤ sizeLine ∧ CompLi prog w A env scope cl x ifs elt pz f ns s₁ ∧ Lw s₀ outer env.locals m cl₀ s₁ ∧
      (∀ D s', Lw s₀ outer env.locals (upd m y (.ref D)) cl₀ s' → Kx [env.locals] s₁ s' → s₁.heap.get? D = none → Li s'.heap D ((ns.filter pz).map f) → Q .next s')) E s)
    (hs : ∀ x, foldedSetIterable iter env x = pure x := by intro _; rfl) :
    wpAny (model prog w) A (exec (.Assign [.Name y py] (.ListComp elt [⟨.Name x px, iter, ifs, 0⟩] scope pos) spos) env) Q E s := by
  refine comp_li_assign pz f hsw hh hclos hcell hkind hnames hx hy hp (wpAny_mono h (fun xv s₁ h₁ => ?_) fun _ _ e => e) hs
  obtain ⟨ax, vs, ns, m, rfl, hl, hi, hz, c, x₁, hQ⟩ := h₁
  refine ⟨ax, vs, ns, m, rfl, hl, hi, hz, c, x₁.ns, fun D h' tk hk hD hn hld => ?_⟩
  have ke : Heap.ExtBut env.locals s₁.heap h' := fun b o hb e => hk b o hb e
  refine hQ D _ ⟨x₁.kf.but x₁.fL ke, hn, fun p hp => (let ⟨o, h1, h2⟩ := x₁.cs p hp; ⟨o, hk _ _ (cell_ns_ne (x₁.cs p hp) x₁.ns) h1, h2⟩), x₁.fr, x₁.fL, x₁.fc⟩ (.of_but ke (List.mem_singleton.mpr rfl)) hD hld
end
end Mine

-- ================ Law0 ================
namespace Mine

abbrev envL (cd : Value) (L a : Addr) : Env := envOfC (nmOf (stAt 17)) (scopeOf (stAt 17)) L a cd
/-- the three cells of the law -/
def cells (L : Addr) (v1 v2 v3 : Option Value) : List (Addr × Option Value) := [(L + 1, v1), (L + 2, v2), (L + 3, v3)]

/-- all that the law asks of the heap outside -/
structure Gl (K : Frag) (mg mb : Str → Option Value) (h : Heap) : Prop where
  C : Ck K
  X : K.In h
  W : Wd mg mb h
  Z : Wd2 mg mb h
  B : Wb mg mb h
  Y : Fx mg h
  gsorted : mg "sorted" = none
  bsorted : mb "sorted" = some (.builtin "sorted")
  gchr : mg "chr" = none
  bchr : mb "chr" = some (.builtin "chr")

section
variable {prog : Program} {w : World} {A : Around} {E : Value → Shared → Prop} {R : Result → Shared → Prop} {s s' s₀ : Shared} {m : Str → Option Value} {mg mb : Str → Option Value} {outer : List Env} {env : Env} {K : Frag} {L a : Addr} {cd : Value} {cl : List (Addr × Option Value)} {v1 v2 v3 : Option Value}

theorem Gl.kf (g : Gl K mg mb s.heap) (k : KF (frs []) s s') : Gl K mg mb s'.heap :=
  { g with X := fun a o q => k.get (by simp [frs]) (g.X a o q), W := g.W.kf (l := []) trivial k, Z := ⟨g.Z.glen, g.Z.blen, g.Z.grange, g.Z.brange⟩, B := g.B.kf (l := []) trivial k, Y := g.Y.kf (l := []) trivial k }
theorem Gl.at (g : Gl K mg mb s₀.heap) (x : Lw s₀ [] L m cl s) : Gl K mg mb s.heap := g.kf x.kf

theorem Lw.cst (x : Lw s₀ outer L m cl s) {c : Addr} {v₀ : Option Value} {v : Value} (hc : (c, v₀) ∈ cl) {cl' : List (Addr × Option Value)} (hcl : ∀ p ∈ cl', p = (c, some v) ∨ (p.1 ≠ c ∧ p ∈ cl)) {h' : Heap} {tk : Nat}
    (hn : h'.IsCell c (some v)) (hs : Heap.SameBut c s.heap h') : Lw s₀ outer L m cl' { s with heap := h', toks := tk } := by
  have fc := x.fc _ hc
  refine ⟨x.kf.but fc hs.extBut, x.ns.extBut hs.extBut (Ne.symm (cell_ns_ne (x.cs _ hc) x.ns)), fun p hp => ?_, x.fr, x.fL, fun p hp => ?_⟩
  · rcases hcl p hp with rfl | ⟨h1, h2⟩
    · exact hn
    · obtain ⟨o, h3, h4⟩ := x.cs p h2
      exact ⟨o, hs.extBut _ _ h1 h3, h4⟩
  · rcases hcl p hp with rfl | ⟨h1, h2⟩
    · exact fc
    · exact x.fc p h2
theorem Lw.sbc (x : Lw s₀ outer L m cl s) {d c : Addr} {v₀ : Option Value} {ns : List Int} (hc : (c, v₀) ∈ cl) (hl : Li s.heap d ns) (hs : Sb c s s') : Li s'.heap d ns := hl.at fun _ e => hs.get (cell_li_ne (x.cs _ hc) hl) e

theorem st1 {M : Model} {v : Value} {Q : Unit → Shared → Prop} (x : Lw s₀ outer L m (cells L v1 v2 v3) s) (h : ∀ s', Sb (L + 1) s s' → Lw s₀ outer L m (cells L (some v) v2 v3) s' → Q () s') :
    wpAny M A (storeName (envL cd L a) "signs" v) Q E s :=
  wpAny_storeName_cell (c := L + 1) (v₀ := v1) (by kernel_rfl) (by kernel_rfl) (by kernel_rfl) (x.cs (L + 1, v1) (by simp [cells])) fun h' hn hs => h _ ⟨h', s.toks, rfl, hs⟩ (x.cst (v₀ := v1) (by simp [cells]) (by intro p hp; simp only [cells, List.mem_cons, List.not_mem_nil, or_false] at hp ⊢; rcases hp with rfl | rfl | rfl <;> simp) hn hs)
theorem st2 {M : Model} {v : Value} {Q : Unit → Shared → Prop} (x : Lw s₀ outer L m (cells L v1 v2 v3) s) (h : ∀ s', Sb (L + 2) s s' → Lw s₀ outer L m (cells L v1 (some v) v3) s' → Q () s') :
    wpAny M A (storeName (envL cd L a) "places" v) Q E s :=
  wpAny_storeName_cell (c := L + 2) (v₀ := v2) (by kernel_rfl) (by kernel_rfl) (by kernel_rfl) (x.cs (L + 2, v2) (by simp [cells])) fun h' hn hs => h _ ⟨h', s.toks, rfl, hs⟩ (x.cst (v₀ := v2) (by simp [cells]) (by intro p hp; simp only [cells, List.mem_cons, List.not_mem_nil, or_false] at hp ⊢; rcases hp with rfl | rfl | rfl <;> simp) hn hs)
theorem st3 {M : Model} {v : Value} {Q : Unit → Shared → Prop} (x : Lw s₀ outer L m (cells L v1 v2 v3) s) (h : ∀ s', Sb (L + 3) s s' → Lw s₀ outer L m (cells L v1 v2 (some v)) s' → Q () s') :
    wpAny M A (storeName (envL cd L a) "thing" v) Q E s :=
  wpAny_storeName_cell (c := L + 3) (v₀ := v3) (by kernel_rfl) (by kernel_rfl) (by kernel_rfl) (x.cs (L + 3, v3) (by simp [cells])) fun h' hn hs => h _ ⟨h', s.toks, rfl, hs⟩ (x.cst (v₀ := v3) (by simp [cells]) (by intro p hp; simp only [cells, List.mem_cons, List.not_mem_nil, or_false] at hp ⊢; rcases hp with rfl | rfl | rfl <;> simp) hn hs)

/-- the string of the sixty-four signs, as the program has it -/
def signsStr : Str := match bodyOf (stAt 17) with
  | .Assign _ (.Constant (.str x) ..) _ :: _ => x
  | _ => .empty
def lawSt (k : Nat) : Stmt := ((bodyOf (stAt 17))[k]?).getD (.Pass default)

/-- the padding of the octets -/
inductive Pad : List Int → List Int → Prop
  | done {xs} : xs.length ≠ 0 → xs.length % 3 = 0 → Pad xs xs
  | more {xs out} : (xs.length = 0 ∨ xs.length % 3 ≠ 0) → Pad (xs ++ [(7 + 83 * (xs.length : Int)) % 256]) out → Pad xs out
theorem Pad.stop {xs out : List Int} (x : Pad xs out) (h : xs.length ≠ 0) (h' : xs.length % 3 = 0) : out = xs := by
  cases x with
  | done _ _ => rfl
  | more h'' _ => omega
theorem Pad.next {xs out : List Int} (x : Pad xs out) (h : xs.length = 0 ∨ xs.length % 3 ≠ 0) : Pad (xs ++ [(7 + 83 * (xs.length : Int)) % 256]) out := by
  cases x with
  | done _ _ => omega
  | more _ h => exact h
theorem pad_ex : ∀ (n : Nat) (xs : List Int), xs.length ≤ 6 → n = 6 - xs.length → (∀ x ∈ xs, 0 ≤ x ∧ x < 256) → ∃ out q, Pad xs out ∧ out.length = 3 * q ∧ (q = 1 ∨ q = 2) ∧ ∀ x ∈ out, 0 ≤ x ∧ x < 256 := by
  intro n
  induction n using Nat.strongRecOn with
  | ind n ih =>
    intro xs hl hn hb
    by_cases h : xs.length = 0 ∨ xs.length % 3 ≠ 0
    · obtain ⟨out, q, h1, h2⟩ := ih (6 - (xs.length + 1)) (by omega) (xs ++ [(7 + 83 * (xs.length : Int)) % 256]) (by simp; omega) (by simp) (by
        intro x hx
        rcases List.mem_append.mp hx with hx | hx
        · exact hb x hx
        · rw [List.mem_singleton.mp hx]; omega)
      exact ⟨out, q, .more h h1, h2⟩
    · refine ⟨xs, xs.length / 3, .done (by omega) (by omega), by omega, by omega, hb⟩
end
end Mine

-- ================ Law1 ================
namespace Mine
section
variable {prog : Program} {w : World} {A : Around} {E : Value → Shared → Prop} {R : Result → Shared → Prop} {s s' s₀ : Shared} {m : Str → Option Value} {mg mb : Str → Option Value} {env : Env} {K : Frag} {L a sl : Addr} {cd : Value} {vs : List Value} {script : List Int}

theorem li_lenE {l : Addr} {xs : List Int} {p₁ p₂ p₃ : Pos} {n : Str} {Z : Wd2 mg mb s.heap} (W : Wd mg mb s.heap) (hn : s.heap.Ns env.locals m) (hX : m n = some (.ref l)) (hl : Li s.heap l xs) (hz : xs.length ≤ sizeLine) (hk : env.scope.kind = .function := by kernel_rfl)
    (hlo : env.kindOf n = some .local := by kernel_rfl) (hg : env.kindOf "len" = some .globalImplicit := by kernel_rfl) (he : env.globals = mainGlobals := by kernel_rfl) (hb : env.builtins = builtinsNs := by kernel_rfl) (hd : (n == ("__debug__" : Str)) = false := by kernel_rfl) :
    Ev prog w A env s (.Call (.Name "len" p₁) [.Name n p₂] [] p₃) (xs.length : Nat) := fun t₀ E Q h =>
  Call_ (nB (s := { s with toks := t₀ }) W.g W.b Z.glen Z.blen (cwB (args_cons (nL (s := { s with toks := t₀ }) hn hX (args_nil (li_len (s := { s with toks := t₀ }) hl hz fun u tk => h u tk)) hk hlo hd))) he hb hk hg)

theorem Pad.len {xs out : List Int} (x : Pad xs out) : xs.length ≤ out.length := by
  induction x with
  | done _ _ => exact Nat.le_refl _
  | more _ _ ih => simp at ih; omega

def lawTurn : Stmt := match lawSt 2 with
  | .While _ [b] .. => b
  | _ => .Pass default

theorem law_turn {D : Addr} {xs : List Int} {v1 v2 v3 : Option Value} {Q : Flow → Shared → Prop} (G : Gl K mg mb s.heap) (hz : xs.length ≤ 100) (hD : s₀.heap.get? D = none)
    (x : Lw s₀ [] L m (cells L v1 v2 v3) s) (mo : m "octets" = some (.ref D)) (hl : Li s.heap D xs)
    (h : ∀ s', Lw s₀ [] L m (cells L v1 v2 v3) s' → Li s'.heap D (xs ++ [(7 + 83 * (xs.length : Int)) % 256]) → Q .next s') :
    wpAny (model prog w) A (exec lawTurn (envL cd L a)) Q E s := by
  have hsz : (1000 : Nat) ≤ sizeLine := by decide
  refine ex_append (d := D) x.ns mo ⟨_, hl⟩ rfl ?_ (by kernel_rfl)
  refine Ev.use (Ev.bin (Ev.bin (.const 7) (Ev.bin (.const 83) (li_lenE (Z := G.Z) G.W x.ns mo hl (by omega)) (.mul (.of_left (by decide)))) .add) (.const 256) (.mod (by decide))) fun u tk => ?_
  refine ⟨_, _, xs, rfl, hl, by omega, fun h' hl' hs' => ?_⟩
  exact h _ ((x.toks tk).li hl hD hs') hl'

theorem law_while {D : Addr} {out xs : List Int} {v1 v2 v3 : Option Value} {Q : Flow → Shared → Prop} (G : Gl K mg mb s₀.heap) (hz : out.length ≤ 100) (hD : s₀.heap.get? D = none)
    (x : Lw s₀ [] L m (cells L v1 v2 v3) s) (mo : m "octets" = some (.ref D)) (hl : Li s.heap D xs) (pd : Pad xs out)
    (h : ∀ s', Lw s₀ [] L m (cells L v1 v2 v3) s' → Li s'.heap D out → Q .next s') :
    wpAny (model prog w) A (exec (lawSt 2) (envL cd L a)) Q E s := by
  refine (show wpAny _ _ (exec (.While (.BoolOp .Or [.Compare (.Call (.Name "len" _) [.Name "octets" _] [] _) [.Eq] [_] _, .Compare (.BinOp (.Call (.Name "len" _) [.Name "octets" _] [] _) _ _ _) [.NotEq] [_] _] _) [_] [] _) _) _ _ _ from wpAny_While ?_)
  refine codeAny_whileLoop (fun n s' => ∃ xs, n = 1000 - xs.length ∧ Pad xs out ∧ Lw s₀ [] L m (cells L v1 v2 v3) s' ∧ Li s'.heap D xs) ?_ (1000 - xs.length) ⟨xs, rfl, pd, x, hl⟩
  rintro n s₁ ⟨xs, hn, pd, x₁, hl₁⟩
  have G₁ := G.at x₁
  have hlen := pd.len
  have hsz : (1000 : Nat) ≤ sizeLine := by decide
  refine wpAny_isTrue_BoolOp (wpAny_allTrue_Or_cons (wpAny_isTrue_Compare1 (Ev.use (li_lenE (Z := G₁.Z) G₁.W x₁.ns mo hl₁ (by omega)) fun u tk => cint (eq_int (wpAny_truthy_bool ?_)))))
  have use : ∀ (s₂ : Shared) (tk : Nat), s₂ = { s₁ with toks := tk } → (xs.length = 0 ∨ xs.length % 3 ≠ 0) → ∀ (E' : Value → Shared → Prop) (RR : Flow → Shared → Prop),
      (∀ s₃, (∃ xs', 1000 - xs'.length < n ∧ Pad xs' out ∧ Lw s₀ [] L m (cells L v1 v2 v3) s₃ ∧ Li s₃.heap D xs') → RR .next s₃) →
      wpAny (model prog w) A (execs [lawTurn] (envL cd L a)) RR E' s₂ := by
    rintro s₂ tk rfl ho E' RR hR
    have hz₁ : xs.length ≤ 100 := by omega
    refine wpAny_execs_cons (law_turn (xs := xs) (G₁.kf (KF.refl _)) hz₁ hD (x₁.toks tk) mo hl₁ fun s₃ x₃ hl₃ => wpAny_execs_nil (hR s₃ ⟨_, ?_, pd.next ho, x₃, hl₃⟩))
    have hl' := (pd.next ho).len
    rw [List.length_append, List.length_singleton] at hl' ⊢
    omega
  by_cases h0 : xs.length = 0
  · rw [show (((xs.length : Nat) : Int) == 0) = true by simp [h0]]
    simp only [if_true]
    refine use _ _ rfl (.inl h0) _ _ fun s₃ ⟨xs', e, r1, r2, r3⟩ => ⟨_, e, xs', rfl, r1, r2, r3⟩
  · rw [show (((xs.length : Nat) : Int) == 0) = false from beq_eq_false_iff_ne.mpr (by omega)]
    simp only [Bool.false_eq_true, if_false]
    refine wpAny_allTrue_Or_cons (wpAny_isTrue_Compare1 (Ev.use (Ev.bin (li_lenE (Z := G₁.Z) G₁.W x₁.ns mo hl₁ (by omega)) (.const 3) (.mod (by decide))) fun u' tk' => cint (ne_int (wpAny_truthy_bool ?_))))
    by_cases h3 : xs.length % 3 ≠ 0
    · rw [show (((xs.length : Nat) : Int) % 3 != 0) = true from bne_iff_ne.mpr (by omega)]
      simp only [if_true]
      exact use _ _ rfl (.inr h3) _ _ fun s₃ ⟨xs', e, r1, r2, r3⟩ => ⟨_, e, xs', rfl, r1, r2, r3⟩
    · rw [show (((xs.length : Nat) : Int) % 3 != 0) = false from bne_eq_false_iff_eq.mpr (by omega)]
      simp only [Bool.false_eq_true, if_false]
      refine wpAny_allTrue_Or_nil ?_
      simp only [Bool.false_eq_true, if_false]
      have := pd.stop h0 (by omega)
      subst this
      exact wpAny_execs_nil (h _ (x₁.kp ⟨_, _, rfl, fun _ _ e => e⟩) hl₁)
end
end Mine

-- ================ M1 ================
namespace Mine

-- ======== the letters are the sextets ========
def findSign (c : Int) : Int := Txt.find signsStr ⟨#[c.toNat]⟩
theorem find_tbl : ∀ i : Fin 64, findSign (tbl (i.val : Int)) = (i.val : Int) := by decide +kernel
theorem find_tbl' {x : Int} (h0 : 0 ≤ x) (h1 : x < 64) : findSign (tbl x) = x := by
  have := find_tbl ⟨x.toNat, by omega⟩
  simpa [Int.toNat_of_nonneg h0] using this

theorem places_eq {octets : List Int} {q : Nat} (hq : octets.length = 3 * q) (hq' : q = 1 ∨ q = 2) (hb : ∀ x ∈ octets, 0 ≤ x ∧ x < 256) :
    (enc octets octets.length).2.1 = 0 ∧ ((enc octets octets.length).1.map findSign) = sixesTo octets q := by
  rcases hq' with rfl | rfl
  · match octets, hq, hb with
    | [a, b, c], _, hb =>
      have ha := hb a (by simp)
      have hb' := hb b (by simp)
      have hc := hb c (by simp)
      refine ⟨by simp [enc], ?_⟩
      simp [enc, sixesTo, sixOf]
      refine ⟨?_, ?_, ?_, ?_⟩ <;> rw [find_tbl' (by omega) (by omega)] <;> omega
  · match octets, hq, hb with
    | [a, b, c, d, e, f], _, hb =>
      have ha := hb a (by simp)
      have hb' := hb b (by simp)
      have hc := hb c (by simp)
      have hd := hb d (by simp)
      have he := hb e (by simp)
      have hf := hb f (by simp)
      refine ⟨by simp [enc], ?_⟩
      simp [enc, sixesTo, sixOf]
      refine ⟨?_, ?_, ?_, ?_, ?_, ?_, ?_, ?_⟩ <;> rw [find_tbl' (by omega) (by omega)] <;> omega

theorem sixes_in {octets : List Int} (hb : ∀ x ∈ octets, 0 ≤ x ∧ x < 256) : ∀ q, ∀ x ∈ sixesTo octets q, 0 ≤ x ∧ x < 64
  | 0 => by simp [sixesTo]
  | q + 1 => by
    intro x hx
    rw [sixesTo] at hx
    rcases List.mem_append.mp hx with hx | hx
    · exact sixes_in hb q x hx
    · have g : ∀ k, 0 ≤ octets.getD k 0 ∧ octets.getD k 0 < 256 := by
        intro k
        rw [List.getD_eq_getElem?_getD]
        cases h : octets[k]? with
        | none => decide
        | some y => exact hb y (List.mem_of_getElem? h)
      have g0 := g (3 * q)
      have g1 := g (3 * q + 1)
      have g2 := g (3 * q + 2)
      simp only [sixOf, List.mem_cons, List.not_mem_nil, or_false] at hx
      rcases hx with rfl | rfl | rfl | rfl <;> omega

-- ======== the distinct ones ========
def pzD (ps : List Int) (i : Int) : Bool := !decide (ps.getD i.toNat 0 ∈ ps.take i.toNat)
def fD (ps : List Int) (i : Int) : Int := ps.getD i.toNat 0
def dist (ps : List Int) : List Int := ((upTo ps.length).filter (pzD ps)).map (fD ps)
theorem dist_nodup (ps : List Int) : (dist ps).Nodup := by
  unfold dist upTo
  rw [List.filter_map, List.map_map, List.nodup_iff_pairwise_ne]
  rw [List.pairwise_map]
  have hp : ((List.range ps.length).filter (pzD ps ∘ fun (i : Nat) => (i : Int))).Pairwise (· < ·) := List.pairwise_lt_range.filter _
  refine hp.imp_of_mem fun {i j} hi hj hlt => ?_
  simp only [List.mem_filter, List.mem_range, Function.comp, pzD, Int.toNat_natCast, Bool.not_eq_true', decide_eq_false_iff_not] at hi hj
  simp only [Function.comp, fD, Int.toNat_natCast]
  intro e
  refine hj.2 ?_
  rw [← e]
  have hi' := hi.1
  rw [List.getD_eq_getElem?_getD, List.getElem?_eq_getElem hi']
  exact List.mem_take_iff_getElem.mpr ⟨i, by omega, rfl⟩
theorem dist_in {ps : List Int} (h : ∀ x ∈ ps, 0 ≤ x ∧ x < 64) : ∀ x ∈ dist ps, 0 ≤ x ∧ x < 64 := by
  intro x hx
  unfold dist at hx
  obtain ⟨i, hi, rfl⟩ := List.mem_map.mp hx
  have hi' := (List.mem_filter.mp hi).1
  unfold upTo at hi'
  obtain ⟨k, hk, rfl⟩ := List.mem_map.mp hi'
  have hk' := List.mem_range.mp hk
  refine h _ ?_
  unfold fD
  rw [List.getD_eq_getElem?_getD, Int.toNat_natCast, List.getElem?_eq_getElem hk']
  exact List.getElem_mem hk'
theorem dist_length (ps : List Int) : (dist ps).length ≤ ps.length := by
  unfold dist
  rw [List.length_map]
  refine Nat.le_trans (List.length_filter_le _ _) ?_
  rw [upTo_length]
  exact Nat.le_refl _

/-- strictly sorted, and within 0 … 63 -/
structure Fam (S : List Int) : Prop where
  sorted : S.Pairwise (· < ·)
  within : ∀ x ∈ S, 0 ≤ x ∧ x < 64
theorem strict_of {ys xs : List Int} (hp : ys.Perm xs) (hs : ys.Pairwise (· ≤ ·)) (hn : xs.Nodup) : ys.Pairwise (· < ·) := by
  have hn' : ys.Nodup := hp.nodup_iff.mpr hn
  rw [List.nodup_iff_pairwise_ne] at hn'
  exact (hs.and hn').imp fun ⟨h1, h2⟩ => by omega
theorem fam_of {ys ps : List Int} (hp : ys.Perm (dist ps)) (hs : ys.Pairwise (· ≤ ·)) (h : ∀ x ∈ ps, 0 ≤ x ∧ x < 64) : Fam ys :=
  ⟨strict_of hp hs (dist_nodup ps), fun x hx => dist_in h x (hp.mem_iff.mp hx)⟩
end Mine

-- ================ Law2 ================
namespace Mine
section
variable {prog : Program} {w : World} {A : Around} {E : Value → Shared → Prop} {R : Result → Shared → Prop} {s s' s₀ : Shared} {m : Str → Option Value} {mg mb : Str → Option Value} {env : Env} {K : Frag} {L a sl : Addr} {cd : Value} {vs : List Value} {script : List Int} {v1 v2 v3 : Option Value}

theorem envL_kind : (envL cd L a).scope.kind ≠ .module := (show (envL cd L a).scope.kind = .function by kernel_rfl) ▸ (by decide)
theorem Lw.frL (x : Lw s₀ [] L m (cells L v1 v2 v3) s) : Frs s.heap [envL cd L a] := x.frs (env := envL cd L a) rfl envL_kind
theorem frL : frs [envL cd L a] = [L] := rfl

theorem law_places {D : Addr} {octets : List Int} {q : Nat} {tS : Tok} {Q : Flow → Shared → Prop} (G : Gl K mg mb s₀.heap) (hd : A.depth + 20 < recursionLimit) (hh : A.handled = none) (hfr : A.frames = some [envL cd L a])
    (x : Lw s₀ [] L m (cells L (some (.str signsStr tS)) none none) s) (mo : m "octets" = some (.ref D)) (hl : Li s.heap D octets)
    (hq : octets.length = 3 * q) (hq' : q = 1 ∨ q = 2) (hb : ∀ x ∈ octets, 0 ≤ x ∧ x < 256)
    (h : ∀ P s', Lw s₀ [] L m (cells L (some (.str signsStr tS)) (some (.ref P)) none) s' → Li s'.heap D octets → Li s'.heap P (sixesTo octets q) → Q .next s') :
    wpAny (model prog w) A (exec (lawSt 3) (envL cd L a)) Q E s := by
  obtain ⟨p1, p2⟩ := places_eq hq hq' hb
  have G₁ := G.at x
  obtain ⟨o, pm, cd', ho, hdt, hcd⟩ := G₁.B.b64.there
  refine wpAny_Assign_Name ?_ (by kernel_rfl)
  refine comp_bytes (cl := [("signs", L + 1)]) (fun _ => true) findSign hh (by kernel_rfl) (by decide) (by kernel_rfl) (by decide) (by kernel_rfl) ?_
  refine Call_ (nG G₁.W.g G₁.B.b64.name (cwF hdt (args_cons (Call_ (nB G₁.W.g G₁.W.b G₁.B.gbytes G₁.B.bbytes (cwT (args_cons (nL x.ns mo (args_nil ?_)))))))))
  obtain ⟨ws, hli, hws⟩ := hl.isList
  refine call_bytes_ints hli hws hb (by rw [hws.length]; have := sizeLine_eq; omega) hh fun h' t' k hkp => ?_
  have k₂ : Keeps s { s with heap := h', toks := k } := ⟨h', k, rfl, fun c o e => hkp c o e⟩
  have x₂ := x.kp k₂
  have G₂ := G.at x₂
  refine args_nil ⟨kp_get k₂ ho, b64_call (outer := [envL cd L a]) (bs := octets) G₂.W G₂.B (by omega) hh x₂.frL (KBa.ints_make hb) (by omega) p1 fun r t s₃ k₃ hr => ?_⟩
  have x₃ := x₂.kf' (show KF (L :: frs []) _ s₃ from k₃)
  have hl₃ : Li s₃.heap D octets := k₃.li (hl.kp k₂) (by rw [frL]; simpa using ns_li_ne x₂.ns (hl.kp k₂))
  have hc₃ := x₃.cs (L + 1, some (.str signsStr tS)) (by simp [cells])
  have G₃ := G.at x₃
  have hlen := (enc_ok octets octets.length).2.2.2
  refine ⟨r, t, _, rfl, hr, by have := sizeLine_eq; omega, ⟨?_, ?_⟩, ?_⟩
  · intros; exact wpAny_tests_nil ⟨rfl, kp_refl _⟩
  · intro C n t₄ s₄ m₄ E' hn _ hn₄ hm₄ hk₄
    have hin := enc_in octets octets.length n hn
    have W₄ := G₃.W.keep hk₄
    refine Call_method1 rfl rfl (by kernel_rfl) (nC (hc₃.keeps hk₄) ?_)
    refine MethodOnS.str1 PySem.F.slot_str_find PySem.F.type_str_find PySem.F.entry_str_find ?_
    refine Call_ (nB W₄.g W₄.b G₃.gchr G₃.bchr (cwB (args_cons (nL hn₄ hm₄ (args_nil (chr_of_range hin.1 (by omega) ?_))))))
    refine ⟨PySem.F.args_str_find_2 _ _, _, gives_str_find _ _ _ _, ?_⟩
    exact ⟨⟨_, rfl⟩, ⟨_, _, rfl, fun _ _ e => e⟩⟩
  · intro P s₅ k₅ hP hlP
    have e : (((enc octets octets.length).1.filter fun _ => true).map findSign) = sixesTo octets q := by
      rw [List.filter_eq_self.mpr (fun _ _ => rfl)]; exact p2
    rw [e] at hlP
    have x₅ := x₃.kp k₅
    refine st2 x₅ fun s₆ b₆ x₆ => ?_
    exact h P s₆ x₆ (x₅.sbc (v₀ := none) (c := L + 2) (by simp [cells]) (hl₃.kp k₅) b₆) (x₅.sbc (v₀ := none) (c := L + 2) (by simp [cells]) hlP b₆)
end
end Mine

-- ================ Law3 ================
namespace Mine
section
variable {prog : Program} {w : World} {A : Around} {E : Value → Shared → Prop} {R : Result → Shared → Prop} {s s' s₀ : Shared} {m : Str → Option Value} {mg mb : Str → Option Value} {env : Env} {K : Frag} {L a sl : Addr} {cd : Value} {vs : List Value} {script : List Int} {v1 v2 v3 : Option Value}

theorem law_check {D P : Addr} {octets : List Int} {q : Nat} {Q : Flow → Shared → Prop} (G : Gl K mg mb s₀.heap) (hd : A.depth + 20 < recursionLimit) (hh : A.handled = none) (hu : A.units + 20 < cLine)
    (x : Lw s₀ [] L m (cells L v1 (some (.ref P)) v3) s) (mo : m "octets" = some (.ref D)) (hl : Li s.heap D octets) (hp : Li s.heap P (sixesTo octets q))
    (hq : octets.length = 3 * q) (hq' : q = 1 ∨ q = 2) (hb : ∀ x ∈ octets, 0 ≤ x ∧ x < 256)
    (h : ∀ s', Lw s₀ [] L m (cells L v1 (some (.ref P)) v3) s' → Li s'.heap P (sixesTo octets q) → Q .next s') :
    wpAny (model prog w) A (exec (lawSt 4) (envL cd L a)) Q E s := by
  have G₁ := G.at x
  obtain ⟨o, pm, cd', ho, hdt, hcd⟩ := G₁.W.sixes.there
  refine wpAny_If (wpAny_isTrue_Compare1 (nC (x.cs (L + 2, some (.ref P)) (by simp [cells])) (Call_ (nG G₁.W.g G₁.W.sixes.name (cwF hdt (args_cons (nL x.ns mo (args_nil ⟨ho, ?_⟩))))))))
  refine sixes_call (outer := [envL cd L a]) (q := q) G₁.W G₁.Z (by omega) hh x.frL hl hq hq' hb fun D₂ s₂ hD₂ k₂ hl₂ => ?_
  have x₂ := x.kf' (show KF (L :: frs []) _ s₂ from k₂)
  have hp₂ : Li s₂.heap P (sixesTo octets q) := k₂.li hp (by rw [frL]; simpa using ns_li_ne x.ns hp)
  refine li_ne hp₂ hl₂ (by omega) (wpAny_truthy_bool ?_)
  simp only [Bool.false_eq_true, if_false]
  exact wpAny_execs_nil (h s₂ x₂ hp₂)

theorem rng_all : ∀ n : Fin 65, Builtin.Range.small 0 (n.val : Int) 1 = true ∧ Builtin.Range.rangeSize 0 (n.val : Int) 1 = (n.val : Int) := by decide +kernel
theorem rng {n : Nat} (h : n ≤ 64) : Builtin.Range.small 0 (n : Int) 1 = true ∧ Builtin.Range.rangeSize 0 (n : Int) 1 = (n : Int) := rng_all ⟨n, by omega⟩
theorem c_range1 {n : Int} {t : Tok} {Q : Value → Shared → Prop} (h : ∀ r s' t u v, Keeps s s' → IsRange s'.heap r 0 n 1 t u v → Q (.ref r) s') : wpAny (model prog w) A (call (.type "range") [.int n t]) Q E s :=
  call_range_1 (h _ _ _ _ _ ⟨_, _, rfl, push_keep _ _⟩ (Heap.get?_push_size _ rfl))

theorem law_first {P : Addr} {ps : List Int} {Q : Flow → Shared → Prop} (G : Gl K mg mb s₀.heap) (hh : A.handled = none)
    (x : Lw s₀ [] L m (cells L v1 (some (.ref P)) v3) s) (hp : Li s.heap P ps) (hlen : ps.length ≤ 8) (hin : ∀ x ∈ ps, 0 ≤ x ∧ x < 64)
    (h : ∀ D s' ys, Lw s₀ [] L (upd m "first" (.ref D)) (cells L v1 (some (.ref P)) v3) s' → Li s'.heap D ys → Fam ys → ys.length ≤ 8 → s₀.heap.get? D = none → Q .next s') :
    wpAny (model prog w) A (exec (lawSt 5) (envL cd L a)) Q E s := by
  have G₁ := G.at x
  have hc := x.cs (L + 2, some (.ref P)) (by simp [cells])
  have hz : (1000 : Nat) ≤ sizeLine := by decide
  refine wpAny_Assign_Name (Call_ (nB G₁.W.g G₁.W.b G₁.gsorted G₁.bsorted (cwB (args_cons ?_)))) (by kernel_rfl)
  refine comp_range (cl := [("places", L + 2)]) (pzD ps) (fD ps) hh (by kernel_rfl) (by decide) (by kernel_rfl) (by decide) (by kernel_rfl) ?_
  refine Call_ (nB G₁.W.g G₁.W.b G₁.Z.grange G₁.Z.brange (cwT (args_cons (Call_ (nB G₁.W.g G₁.W.b G₁.Z.glen G₁.Z.blen (cwB (args_cons (nC hc (args_nil (li_len hp (by omega) fun u tk => args_nil (c_range1 fun r s₂ t u' v k₂' hr => ?_)))))))))))
  have k₂ : Keeps s s₂ := let ⟨h', t, e, k⟩ := k₂'; ⟨h', t, e, k⟩
  refine ⟨r, ps.length, t, u', v, rfl, hr, (rng (by omega)).1, (rng (by omega)).2, by omega, ⟨?_, ?_⟩, ?_⟩
  · intro C n t₃ s₃ m₃ E' hn hn₃ hm₃ hk₃
    unfold upTo at hn
    obtain ⟨i, hi, rfl⟩ := List.mem_map.mp hn
    have hi' := List.mem_range.mp hi
    have hc₃ := (hc.keeps (kp_all k₂)).keeps hk₃
    have hp₃ := (hp.kp k₂).keep hk₃
    refine wpAny_tests_one (wpAny_isTrue_Compare1 (Subscript_ (nC hc₃ (nL hn₃ hm₃ ?_))))
    refine li_sub hp₃ (by omega) (by omega) (getD_some (by omega)) fun u₄ => ?_
    obtain ⟨ws, hli, hws⟩ := hp₃.isList
    refine li_upto (nC hc₃ (nL hn₃ hm₃ ⟨P, ws, ps, i, _, rfl, rfl, hli, hws, by omega, fun D s₅ k₅ hD hl₅ => ?_⟩))
    refine li_notIn hl₅ (wpAny_truthy_bool ⟨?_, k₅⟩)
    unfold pzD
    simp
  · intro C n t₃ s₃ m₃ E' hn _ hn₃ hm₃ hk₃
    unfold upTo at hn
    obtain ⟨i, hi, rfl⟩ := List.mem_map.mp hn
    have hi' := List.mem_range.mp hi
    have hc₃ := (hc.keeps (kp_all k₂)).keeps hk₃
    have hp₃ := (hp.kp k₂).keep hk₃
    refine Subscript_ (nC hc₃ (nL hn₃ hm₃ ?_))
    refine li_sub hp₃ (by omega) (by omega) (getD_some (by omega)) fun u₄ => ?_
    exact ⟨⟨_, rfl⟩, kp_refl _⟩
  · intro D₃ s₃ k₃ hD₃ hl₃
    have x₃ := (x.kp k₂).kp k₃
    have hdl := dist_length ps
    refine args_nil (li_sorted hl₃ (show (dist ps).length < 64 by omega) fun D s₄ ys k₄ hD hperm hsort hl₄ => ?_)
    have x₄ := x₃.kp k₄
    refine x₄.store (env := envL cd L a) (n := "first") fun s₅ b₅ x₅ => ?_
    refine h D s₅ ys x₅ (x₄.sbl hl₄ b₅) (fam_of hperm hsort hin) ?_ (x₃.none_back hD)
    have : ys.length = (dist ps).length := hperm.length_eq
    omega
end
end Mine

-- ================ M2 ================
namespace Mine

def bitOn (b x : Int) : Bool := x / b % 2 == 1
def lighter (b : Int) (S : List Int) : List Int := (S.filter (bitOn b)).map (fun p => p - b)
def notIn (S : List Int) (x : Int) : Bool := decide (x ∉ S)
def fresh (b : Int) (S : List Int) : List Int := (lighter b S).filter (fun x => decide (x ∉ S))
def gone (b : Int) (S : List Int) : List Int := (fresh b S).map (fun p => p + b)

theorem sorted_ext {xs ys : List Int} (hx : xs.Pairwise (· < ·)) (hy : ys.Pairwise (· < ·)) (h : ∀ a, a ∈ xs ↔ a ∈ ys) : xs = ys := by
  induction xs generalizing ys with
  | nil =>
    cases ys with
    | nil => rfl
    | cons y r => exact absurd ((h y).mpr (List.mem_cons_self)) (by simp)
  | cons x r ih =>
    cases ys with
    | nil => exact absurd ((h x).mp (List.mem_cons_self)) (by simp)
    | cons y r' =>
      rw [List.pairwise_cons] at hx hy
      have hxy : x = y := by
        rcases List.mem_cons.mp ((h x).mp List.mem_cons_self) with e | e
        · exact e
        · rcases List.mem_cons.mp ((h y).mpr List.mem_cons_self) with e' | e'
          · exact e'.symm
          · have := hx.1 y e'
            have := hy.1 x e
            omega
      subst hxy
      congr 1
      refine ih hx.2 hy.2 fun a => ⟨fun ha => ?_, fun ha => ?_⟩
      · rcases List.mem_cons.mp ((h a).mp (List.mem_cons_of_mem _ ha)) with rfl | e
        · exact absurd (hx.1 a ha) (by omega)
        · exact e
      · rcases List.mem_cons.mp ((h a).mpr (List.mem_cons_of_mem _ ha)) with rfl | e
        · exact absurd (hy.1 a ha) (by omega)
        · exact e

/-- the members after the shift by b -/
def Dmem (b : Int) (S : List Int) (x : Int) : Prop := (x ∈ S ∧ ¬(bitOn b x = true ∧ x - b ∉ S)) ∨ (x ∉ S ∧ x + b ∈ S ∧ bitOn b (x + b) = true)

theorem fresh_mem {b : Int} {S : List Int} {x : Int} : x ∈ fresh b S ↔ x ∉ S ∧ x + b ∈ S ∧ bitOn b (x + b) = true := by
  simp only [fresh, lighter, List.mem_filter, List.mem_map, decide_eq_true_eq]
  constructor
  · rintro ⟨⟨p, ⟨h1, h2⟩, rfl⟩, h3⟩
    exact ⟨h3, by rw [Int.sub_add_cancel]; exact h1, by rw [Int.sub_add_cancel]; exact h2⟩
  · rintro ⟨h1, h2, h3⟩
    exact ⟨⟨x + b, ⟨h2, h3⟩, by omega⟩, h1⟩
theorem gone_mem {b : Int} {S : List Int} {x : Int} : x ∈ gone b S ↔ x ∈ S ∧ bitOn b x = true ∧ x - b ∉ S := by
  simp only [gone, List.mem_map]
  constructor
  · rintro ⟨p, hp, rfl⟩
    obtain ⟨h1, h2, h3⟩ := fresh_mem.mp hp
    exact ⟨h2, h3, by rw [Int.add_sub_cancel]; exact h1⟩
  · rintro ⟨h1, h2, h3⟩
    exact ⟨x - b, fresh_mem.mpr ⟨h3, by rw [Int.sub_add_cancel]; exact h1, by rw [Int.sub_add_cancel]; exact h2⟩, by omega⟩
theorem fresh_sorted {b : Int} {S : List Int} (h : S.Pairwise (· < ·)) : (fresh b S).Pairwise (· < ·) := by
  refine List.Pairwise.filter _ ?_
  unfold lighter
  rw [List.pairwise_map]
  exact (h.filter _).imp fun h => by omega
theorem gone_sorted {b : Int} {S : List Int} (h : S.Pairwise (· < ·)) : (gone b S).Pairwise (· < ·) := by
  unfold gone
  rw [List.pairwise_map]
  exact (fresh_sorted h).imp fun h => by omega
theorem nodup_of_lt {xs : List Int} (h : xs.Pairwise (· < ·)) : xs.Nodup := h.imp fun h => by omega

structure Shift (b : Int) (S M : List Int) : Prop where
  fam : Fam M
  gone : S.filter (fun x => decide (x ∉ M)) = gone b S
  fresh : M.filter (fun x => decide (x ∉ S)) = fresh b S
  len : M.length = S.length
  mem : ∀ x, x ∈ M ↔ Dmem b S x

theorem bit_ge {b x : Int} (hb : b ∈ things) (h0 : 0 ≤ x) (h : bitOn b x = true) : b ≤ x := by
  simp only [bitOn, beq_iff_eq] at h
  simp only [things, List.mem_cons, List.not_mem_nil, or_false] at hb
  rcases hb with rfl | rfl | rfl | rfl | rfl | rfl <;> omega
theorem things_pos {b : Int} (hb : b ∈ things) : 0 < b ∧ b < 64 := by
  simp only [things, List.mem_cons, List.not_mem_nil, or_false] at hb
  omega

theorem filter_split (p : Int → Bool) (S : List Int) : (S.filter p).length + (S.filter (fun x => !p x)).length = S.length := by
  induction S with
  | nil => rfl
  | cons x r ih =>
    cases h : p x <;> simp [List.filter_cons, h] <;> omega

theorem shift_ok {b : Int} {S M : List Int} (hS : Fam S) (hb : b ∈ things) (hM : M.Perm (S.filter (fun x => decide (x ∉ gone b S)) ++ fresh b S)) (hs : M.Pairwise (· ≤ ·)) : Shift b S M := by
  obtain ⟨hb0, hb1⟩ := things_pos hb
  have mem : ∀ x, x ∈ M ↔ Dmem b S x := by
    intro x
    rw [hM.mem_iff, List.mem_append, List.mem_filter, fresh_mem, decide_eq_true_eq, gone_mem]
    unfold Dmem
    constructor
    · rintro (⟨h1, h2⟩ | h)
      · exact .inl ⟨h1, fun h3 => h2 ⟨h1, h3⟩⟩
      · exact .inr h
    · rintro (⟨h1, h2⟩ | h)
      · exact .inl ⟨h1, fun h3 => h2 h3.2⟩
      · exact .inr h
  have hn : (S.filter (fun x => decide (x ∉ gone b S)) ++ fresh b S).Nodup := by
    rw [List.nodup_append]
    refine ⟨nodup_of_lt (hS.sorted.filter _), nodup_of_lt (fresh_sorted hS.sorted), fun x hx y hy e => ?_⟩
    subst e
    exact (fresh_mem.mp hy).1 (List.mem_filter.mp hx).1
  have hlt := strict_of hM hs hn
  have fam : Fam M := ⟨hlt, fun x hx => by
    rcases (mem x).mp hx with ⟨h1, _⟩ | ⟨_, h2, h3⟩
    · exact hS.within x h1
    · have := hS.within _ h2
      have := bit_ge hb this.1 h3
      omega⟩
  have hg : S.filter (fun x => decide (x ∉ M)) = gone b S := by
    refine sorted_ext (hS.sorted.filter _) (gone_sorted hS.sorted) fun x => ?_
    rw [List.mem_filter, gone_mem, decide_eq_true_eq, mem]
    unfold Dmem
    constructor
    · rintro ⟨h1, h2⟩
      by_cases h3 : bitOn b x = true ∧ x - b ∉ S
      · exact ⟨h1, h3⟩
      · exact absurd (.inl ⟨h1, h3⟩) h2
    · rintro ⟨h1, h2⟩
      refine ⟨h1, ?_⟩
      rintro (⟨_, h3⟩ | ⟨h3, _⟩)
      · exact h3 h2
      · exact h3 h1
  have hf : M.filter (fun x => decide (x ∉ S)) = fresh b S := by
    refine sorted_ext (hlt.filter _) (fresh_sorted hS.sorted) fun x => ?_
    rw [List.mem_filter, fresh_mem, decide_eq_true_eq, mem]
    unfold Dmem
    constructor
    · rintro ⟨⟨h1, _⟩ | h1, h2⟩
      · exact absurd h1 h2
      · exact h1
    · rintro h
      exact ⟨.inr h, h.1⟩
  refine ⟨fam, hg, hf, ?_, mem⟩
  have e1 := hM.length_eq
  rw [List.length_append] at e1
  have e2 : (gone b S).length = (fresh b S).length := by unfold gone; rw [List.length_map]
  have e3 : S.filter (fun x => !decide (x ∉ gone b S)) = gone b S := by
    refine sorted_ext (hS.sorted.filter _) (gone_sorted hS.sorted) fun x => ?_
    rw [List.mem_filter]
    simp only [Bool.not_eq_true', decide_eq_false_iff_not, Classical.not_not]
    exact ⟨fun h => h.2, fun h => ⟨(gone_mem.mp h).1, h⟩⟩
  have e4 := filter_split (fun x => decide (x ∉ gone b S)) S
  rw [e3] at e4
  omega

/-- the families, one shift after the other -/
inductive Chain (first : List Int) : Nat → List Int → Prop
  | zero : Chain first 0 first
  | succ {i S b M} : Chain first i S → things[i]? = some b → Fam S → Shift b S M → Chain first (i + 1) M
theorem Chain.len {first : List Int} {i : Nat} {S : List Int} (x : Chain first i S) : S.length = first.length := by
  induction x with
  | zero => rfl
  | succ _ _ _ h ih => rw [h.len, ih]
theorem Chain.fam {first : List Int} {i : Nat} {S : List Int} (hf : Fam first) (x : Chain first i S) : Fam S := by
  cases x with
  | zero => exact hf
  | succ _ _ _ h => exact h.fam
end Mine

-- ================ Law4 ================
namespace Mine
def shiftBody : List Stmt := match lawSt 7 with
  | .For _ _ b .. => b
  | _ => []
section
variable {prog : Program} {w : World} {A : Around} {E : Value → Shared → Prop} {R : Result → Shared → Prop} {s s' s₀ : Shared} {m : Str → Option Value} {mg mb : Str → Option Value} {env : Env} {K : Frag} {L a sl : Addr} {cd : Value} {vs : List Value} {script : List Int} {v1 v2 v3 : Option Value}

theorem cell3 {v : Option Value} (x : Lw s₀ [] L m (cells L v1 v2 v) s) : s.heap.IsCell (L + 3) v := x.cs (L + 3, v) (by simp [cells])

theorem law_comp_sub {F : Addr} {S : List Int} {b : Int} {t : Tok} {Q : Flow → Shared → Prop} (hh : A.handled = none) (x : Lw s₀ [] L m (cells L v1 v2 (some (.int b t))) s) (mf : m "family" = some (.ref F)) (hl : Li s.heap F S)
    (hb : b ∈ things) (hlen : S.length ≤ 8)
    (h : ∀ D s', Lw s₀ [] L (upd m "lighter" (.ref D)) (cells L v1 v2 (some (.int b t))) s' → Kx [L] s s' → Li s'.heap D (lighter b S) → Q .next s') :
    wpAny (model prog w) A (exec ((shiftBody[0]?).getD (.Pass default)) (envL cd L a)) Q E s := by
  obtain ⟨hb0, hb1⟩ := things_pos hb
  refine comp_lw (s₀ := s₀) (outer := []) (cl₀ := cells L v1 v2 (some (.int b t))) (cl := [("thing", L + 3)]) (bitOn b) (fun p => p - b) (by kernel_rfl) hh (by kernel_rfl) (by decide) (by kernel_rfl) (by decide) (by kernel_rfl) (by kernel_rfl) (by kernel_rfl) (nL x.ns mf ?_)
  obtain ⟨ws, hli, hws⟩ := hl.isList
  refine ⟨F, ws, S, m, rfl, hli, hws, by have := sizeLine_eq; omega, ⟨?_, ?_⟩, x, fun D s' x' k' _ hl' => h D s' x' k' hl'⟩
  · intro C n t₃ s₃ m₃ E' hn hn₃ hm₃ hk₃
    refine wpAny_tests_one (wpAny_isTrue_Compare1 (Ev.use (((Ev.loc hn₃ hm₃).bin (Ev.cell ((cell3 x).keeps hk₃)) (.div hb0 (by omega))).bin (.const 2) (.mod (by decide))) fun u tk => cint (eq_int (wpAny_truthy_bool ⟨rfl, _, _, rfl, fun _ _ e => e⟩))))
  · intro C n t₃ s₃ m₃ E' hn _ hn₃ hm₃ hk₃
    exact Ev.use ((Ev.loc hn₃ hm₃).bin (Ev.cell ((cell3 x).keeps hk₃)) .sub) fun u tk => ⟨⟨_, rfl⟩, _, _, rfl, fun _ _ e => e⟩

theorem law_comp_add {F : Addr} {S : List Int} {b : Int} {t : Tok} {Q : Flow → Shared → Prop} (hh : A.handled = none) (x : Lw s₀ [] L m (cells L v1 v2 (some (.int b t))) s) (mf : m "fresh" = some (.ref F)) (hl : Li s.heap F S)
    (hlen : S.length ≤ 8)
    (h : ∀ D s', Lw s₀ [] L (upd m "gone" (.ref D)) (cells L v1 v2 (some (.int b t))) s' → Kx [L] s s' → Li s'.heap D (S.map (fun p => p + b)) → Q .next s') :
    wpAny (model prog w) A (exec ((shiftBody[2]?).getD (.Pass default)) (envL cd L a)) Q E s := by
  refine comp_lw (s₀ := s₀) (outer := []) (cl₀ := cells L v1 v2 (some (.int b t))) (cl := [("thing", L + 3)]) (fun _ => true) (fun p => p + b) (by kernel_rfl) hh (by kernel_rfl) (by decide) (by kernel_rfl) (by decide) (by kernel_rfl) (by kernel_rfl) (by kernel_rfl) (nL x.ns mf ?_)
  obtain ⟨ws, hli, hws⟩ := hl.isList
  refine ⟨F, ws, S, m, rfl, hli, hws, by have := sizeLine_eq; omega, ⟨?_, ?_⟩, x, fun D s' x' k' _ hl' => h D s' x' k' (by rw [List.filter_eq_self.mpr (fun _ _ => rfl)] at hl'; exact hl')⟩
  · intros; exact wpAny_tests_nil ⟨rfl, kp_refl _⟩
  · intro C n t₃ s₃ m₃ E' hn _ hn₃ hm₃ hk₃
    exact Ev.use ((Ev.loc hn₃ hm₃).bin (Ev.cell ((cell3 x).keeps hk₃)) .add) fun u tk => ⟨⟨_, rfl⟩, _, _, rfl, fun _ _ e => e⟩

/-- a call of _filter by names of the law -/
theorem law_filter {F₁ F₂ : Addr} {S T : List Int} {v : Option Value} {Q : Value → Shared → Prop} (G : Gl K mg mb s₀.heap) (hd : A.depth + 20 < recursionLimit) (hh : A.handled = none) (hfr : A.frames = some [envL cd L a])
    (x : Lw s₀ [] L m (cells L v1 v2 v) s) (hl1 : Li s.heap F₁ S) (hl2 : Li s.heap F₂ T) (hlen : S.length ≤ 1000)
    (h : ∀ D s', s₀.heap.get? D = none → Lw s₀ [] L m (cells L v1 v2 v) s' → Kx [L] s s' → Li s'.heap D (S.filter fun y => decide (y ∉ T)) → Q (.ref D) s') :
    wpAny (model prog w) A (call (.ref 65) [.ref F₁, .ref F₂]) Q E s := by
  have G₁ := G.at x
  refine filter_call (outer := [envL cd L a]) G₁.C G₁.X (fun c o q => ?_) G₁.W G₁.Y (by omega) hh hfr x.frL hl1 hl2 hlen fun D s' hD k' hl' => ?_
  · rw [frL]
    intro hm
    have := G.X c o q
    rw [List.mem_singleton.mp hm, x.fL] at this; cases this
  · exact h D s' (x.none_back hD) (x.kf' (show KF (L :: frs []) s s' from k')) (Kx.of_kf k' (by rw [frL]; exact fun b hb => hb)) hl'

theorem Kx.liL (k : Kx [L] s s') {d : Addr} {ns : List Int} (hn : s.heap.Ns L m) (hl : Li s.heap d ns) : Li s'.heap d ns := k.li hl (by simpa using ns_li_ne hn hl)
end
end Mine

-- ================ Law5 ================
namespace Mine
section
variable {prog : Program} {w : World} {A : Around} {E : Value → Shared → Prop} {R : Result → Shared → Prop} {s s' s₀ : Shared} {m : Str → Option Value} {mg mb : Str → Option Value} {env : Env} {K : Frag} {L a sl : Addr} {cd : Value} {vs : List Value} {script : List Int} {v1 v2 v3 : Option Value}

theorem tup_ne {T₁ T₂ d1 d2 e1 e2 : Addr} {xs ys : List Int} {Q : Value → Shared → Prop} (hu : A.units + 20 < cLine) (h1 : s.heap.get? T₁ = some { cls := .type "tuple", data := .seq #[.ref d1, .ref d2] }) (h2 : s.heap.get? T₂ = some { cls := .type "tuple", data := .seq #[.ref e1, .ref e2] })
    (l1 : Li s.heap d1 xs) (l2 : Li s.heap d2 ys) (r1 : Li s.heap e1 xs) (r2 : Li s.heap e2 ys) (n1 : d1 ≠ e1) (n2 : d2 ≠ e2) (h : Q (.bool false) s) :
    wpAny (model prog w) A (compareOp .NotEq (.ref T₁) (.ref T₂)) Q E s := by
  have := SeqAt.RcNeAt.tuples (A := A) (s := s) (l := T₁) (b := T₂) (items := #[.ref d1, .ref d2]) (items2 := #[.ref e1, .ref e2]) (e := fun _ => true) ⟨_, h1, rfl, _, rfl⟩ ⟨_, h2, rfl, _, rfl⟩ (by omega) fun j j1 j2 => ?_
  · exact this prog w E Q h
  · match j, j1, j2 with
    | 0, _, _ => exact li_eqAt l1 r1 n1 (show A.units + 1 < cLine by omega)
    | 1, _, _ => exact li_eqAt l2 r2 n2 (show A.units + 1 < cLine by omega)

theorem law_shift {F : Addr} {S : List Int} {b : Int} {t : Tok} {Q : Flow → Shared → Prop} (G : Gl K mg mb s₀.heap) (hd : A.depth + 20 < recursionLimit) (hh : A.handled = none) (hfr : A.frames = some [envL cd L a]) (hu : A.units + 20 < cLine)
    (x : Lw s₀ [] L m (cells L v1 v2 (some (.int b t))) s) (mf : m "family" = some (.ref F)) (hl : Li s.heap F S) (hS : Fam S) (hb : b ∈ things) (hlen : S.length ≤ 8)
    (h : ∀ m' M F' s', Shift b S M → Lw s₀ [] L m' (cells L v1 v2 (some (.int b t))) s' → m' "family" = some (.ref F') → m' "first" = m "first" → Li s'.heap F' M → Kx [L] s s' → Q .next s') :
    wpAny (model prog w) A (execs shiftBody (envL cd L a)) Q E s := by
  refine wpAny_execs_cons (law_comp_sub hh x mf hl hb hlen fun D₁ s₁ x₁ k₁ l₁ => ?_)
  have lF₁ := k₁.liL x.ns hl
  have len1 : (lighter b S).length ≤ 8 := by unfold lighter; rw [List.length_map]; exact Nat.le_trans (List.length_filter_le _ _) hlen
  have len2 : (fresh b S).length ≤ 8 := Nat.le_trans (List.length_filter_le _ _) len1
  -- fresh = _filter(lighter, family)
  have G₁ := G.at x₁
  obtain ⟨o, pm, cd', ho, hdt, hcd⟩ := G₁.Y.flt.there
  refine wpAny_execs_cons (wpAny_Assign_Name (Call_ (nG G₁.W.g G₁.Y.flt.name (cwF hdt (args_cons (nL x₁.ns upd_same (args_cons (nL x₁.ns ((upd_ne (by decide)).trans mf) (args_nil ⟨ho, ?_⟩)))))))) (by kernel_rfl))
  refine law_filter G hd hh hfr x₁ l₁ lF₁ (by omega) fun D₂ s₂ fD₂ x₂ k₂ l₂ => ?_
  have l₂ : Li s₂.heap D₂ (fresh b S) := l₂
  refine x₂.store (env := envL cd L a) (n := "fresh") fun s₃ b₃ x₃ => ?_
  have lF₃ := x₂.sbl (k₂.liL x₁.ns lF₁) b₃
  have l₃ := x₂.sbl l₂ b₃
  -- gone
  refine wpAny_execs_cons (law_comp_add hh x₃ upd_same l₃ len2 fun D₄ s₄ x₄ k₄ l₄ => ?_)
  have l₄ : Li s₄.heap D₄ (gone b S) := l₄
  have lF₄ := k₄.liL x₃.ns lF₃
  have lf₄ := k₄.liL x₃.ns l₃
  generalize hm₄ : upd (upd (upd m _ _) _ _) _ _ = m₄ at x₄
  have mF₄ : m₄ "family" = some (.ref F) := by subst hm₄; exact (upd_ne (by decide)).trans ((upd_ne (by decide)).trans ((upd_ne (by decide)).trans mf))
  have mf₄ : m₄ "fresh" = some (.ref D₂) := by subst hm₄; exact (upd_ne (by decide)).trans upd_same
  have mg₄ : m₄ "gone" = some (.ref D₄) := by subst hm₄; exact upd_same
  have mfi₄ : m₄ "first" = m "first" := by subst hm₄; exact (upd_ne (by decide)).trans ((upd_ne (by decide)).trans (upd_ne (by decide)))
  have kx₄ : Kx [L] s s₄ := ((k₁.trans k₂).trans (b₃.kx (.head _))).trans k₄
  clear hm₄ x₁ x₂ x₃ k₁ k₂ k₄ b₃ lF₁ lF₃ l₁ l₂ l₃ G₁ ho hdt hcd
  -- moved = sorted(_filter(family, gone) + fresh)
  have G₄ := G.at x₄
  obtain ⟨o, pm, cd', ho, hdt, hcd⟩ := G₄.Y.flt.there
  refine wpAny_execs_cons (wpAny_Assign_Name (Call_ (nB G₄.W.g G₄.W.b G₄.gsorted G₄.bsorted (cwB (args_cons (wpAny_BinOp (Call_ (nG G₄.W.g G₄.Y.flt.name (cwF hdt (args_cons (nL x₄.ns mF₄ (args_cons (nL x₄.ns mg₄ (args_nil ⟨ho, ?_⟩)))))))))))) ) (by kernel_rfl))
  refine law_filter G hd hh hfr x₄ lF₄ l₄ (by omega) fun D₅ s₅ fD₅ x₅ k₅ l₅ => ?_
  have lf₅ := k₅.liL x₄.ns lf₄
  have lF₅ := k₅.liL x₄.ns lF₄
  have lg₅ := k₅.liL x₄.ns l₄
  refine nL x₅.ns mf₄ ?_
  have len5 : (S.filter fun y => decide (y ∉ gone b S)).length ≤ 8 := Nat.le_trans (List.length_filter_le _ _) hlen
  refine li_add l₅ lf₅ (by have := sizeLine_eq; omega) fun D₆ s₆ k₆ fD₆ l₆ => ?_
  refine args_nil (li_sorted l₆ (by rw [List.length_append]; omega) fun D₇ s₇ M k₇ fD₇ hperm hsort l₇ => ?_)
  have sh := shift_ok hS hb hperm hsort
  have k₆₇ := kp_trans k₆ k₇
  have x₇ := x₅.kp k₆₇
  refine x₇.store (env := envL cd L a) (n := "moved") fun s₈ b₈ x₈ => ?_
  have lF₈ := x₇.sbl (lF₅.kp k₆₇) b₈
  have lf₈ := x₇.sbl (lf₅.kp k₆₇) b₈
  have lg₈ := x₇.sbl (lg₅.kp k₆₇) b₈
  have lM₈ := x₇.sbl l₇ b₈
  have kx₈ : Kx [L] s s₈ := ((kx₄.trans k₅).kp k₆₇).trans (b₈.kx (.head _))
  have mF₈ : upd m₄ "moved" (.ref D₇) "family" = some (.ref F) := (upd_ne (by decide)).trans mF₄
  have mf₈ : upd m₄ "moved" (.ref D₇) "fresh" = some (.ref D₂) := (upd_ne (by decide)).trans mf₄
  have mg₈ : upd m₄ "moved" (.ref D₇) "gone" = some (.ref D₄) := (upd_ne (by decide)).trans mg₄
  clear x₇ x₅ k₆₇ b₈ lF₅ lf₅ lg₅ l₅ l₆ l₇ k₅ lF₄ lf₄ l₄ kx₄ k₆ k₇
  -- the check
  have G₈ := G.at x₈
  obtain ⟨o, pm, cd', ho, hdt, hcd⟩ := G₈.W.sld.there
  refine wpAny_execs_cons (wpAny_If (wpAny_isTrue_Compare1 (Call_ (nG G₈.W.g G₈.W.sld.name (cwF hdt (args_cons (nL x₈.ns mF₈ (args_cons (nL x₈.ns upd_same (args_nil ⟨ho, ?_⟩))))))))))
  refine sld_call (outer := [envL cd L a]) G₈.W (by omega) hh hfr x₈.frL lF₈ lM₈ hS.sorted sh.fam.sorted (by omega) (by rw [sh.len]; omega) fun T₁ d1 d2 s₉ k₉ fT fd1 fd2 hT l1 l2 => ?_
  have x₉ := x₈.kf' (show KF (L :: frs []) _ s₉ from k₉)
  have kx₉ : Kx [L] s₈ s₉ := Kx.of_kf k₉ (by rw [frL]; exact fun b hb => hb)
  rw [sh.gone] at l1
  rw [sh.fresh] at l2
  have lf₉ := kx₉.liL x₈.ns lf₈
  have lg₉ := kx₉.liL x₈.ns lg₈
  have lM₉ := kx₉.liL x₈.ns lM₈
  have n1 : d1 ≠ D₄ := fun e => by subst e; obtain ⟨_, _, q, _⟩ := lg₈; rw [fd1] at q; cases q
  have n2 : d2 ≠ D₂ := fun e => by subst e; obtain ⟨_, _, q, _⟩ := lf₈; rw [fd2] at q; cases q
  refine Tuple_ (args_cons (nL x₉.ns mg₈ (args_cons (nL x₉.ns mf₈ (args_nil ?_)))))
  refine wpAny_newObj_type ?_ (by show 2 ≤ sizeLine; decide)
  generalize hs₁₀ : Shared.mk _ _ _ _ _ = s₁₀
  have k₁₀ : Keeps s₉ s₁₀ := by subst hs₁₀; exact ⟨_, _, rfl, push_keep _ _⟩
  have hT₂ : s₁₀.heap.get? s₉.heap.objs.size = some { cls := .type "tuple", data := .seq #[.ref D₄, .ref D₂] } := by subst hs₁₀; exact Heap.get?_push_size _ rfl
  clear hs₁₀
  refine tup_ne hu (kp_get k₁₀ hT) hT₂ (l1.kp k₁₀) (l2.kp k₁₀) (lg₉.kp k₁₀) (lf₉.kp k₁₀) n1 n2 (wpAny_truthy_bool ?_)
  simp only [Bool.false_eq_true, if_false]
  refine wpAny_execs_nil ?_
  have x₁₀ := x₉.kp k₁₀
  refine wpAny_execs_cons (wpAny_Assign_Name (nL x₁₀.ns upd_same ?_) (by kernel_rfl))
  refine x₁₀.store (env := envL cd L a) (n := "family") fun s₁₁ b₁₁ x₁₁ => wpAny_execs_nil ?_
  exact h _ M D₇ s₁₁ sh x₁₁ upd_same ((upd_ne (by decide)).trans ((upd_ne (by decide)).trans mfi₄)) (x₁₀.sbl (lM₉.kp k₁₀) b₁₁) (((kx₈.trans kx₉).kp k₁₀).trans (b₁₁.kx (.head _)))
end
end Mine

-- ================ Law6 ================
namespace Mine
section
variable {prog : Program} {w : World} {A : Around} {E : Value → Shared → Prop} {R : Result → Shared → Prop} {s s' s₀ : Shared} {m : Str → Option Value} {mg mb : Str → Option Value} {env : Env} {K : Frag} {L a sl : Addr} {cd : Value} {vs : List Value} {script : List Int} {v1 v2 v3 : Option Value}

/-- the places a loop of the law may write -/
abbrev xL (L : Addr) : List Addr := [L, L + 1, L + 2, L + 3]
theorem Lw.liveL (x : Lw s₀ [] L m (cells L v1 v2 v3) s) : ∀ b ∈ xL L, b < s.heap.objs.size := by
  intro b hb
  have c : ∀ c v, (c, v) ∈ cells L v1 v2 v3 → c < s.heap.objs.size := fun c v h => let ⟨o, h1, _⟩ := x.cs _ h; Heap.lt_size h1
  simp only [xL, List.mem_cons, List.not_mem_nil, or_false] at hb
  rcases hb with rfl | rfl | rfl | rfl
  · exact x.ns.lt
  · exact c _ v1 (by simp [cells])
  · exact c _ v2 (by simp [cells])
  · exact c _ v3 (by simp [cells])
theorem Lw.butL (x : Lw s₀ [] L m (cells L v1 v2 v3) s) {I : Addr} {h' : Heap} {tk : Nat} (hs : Heap.ExtBut I s.heap h') (hI : s₀.heap.get? I = none) (hX : ∀ b ∈ xL L, I ≠ b) : Lw s₀ [] L m (cells L v1 v2 v3) { s with heap := h', toks := tk } :=
  x.but hs hI (hX _ (.head _)) fun p hp => by
    simp only [cells, List.mem_cons, List.not_mem_nil, or_false] at hp
    rcases hp with rfl | rfl | rfl
    · exact hX _ (by simp)
    · exact hX _ (by simp)
    · exact hX _ (by simp)
theorem Lw.offL (x : Lw s₀ [] L m (cells L v1 v2 v3) s) {d : Addr} {ns : List Int} (hl : Li s.heap d ns) : d ∉ xL L := by
  intro hm
  simp only [xL, List.mem_cons, List.not_mem_nil, or_false] at hm
  rcases hm with rfl | rfl | rfl | rfl
  · exact ns_li_ne x.ns hl rfl
  · exact cell_li_ne (x.cs (L + 1, v1) (by simp [cells])) hl rfl
  · exact cell_li_ne (x.cs (L + 2, v2) (by simp [cells])) hl rfl
  · exact cell_li_ne (x.cs (L + 3, v3) (by simp [cells])) hl rfl

theorem law_shifts {D : Addr} {first : List Int} {Q : Flow → Shared → Prop} (G : Gl K mg mb s₀.heap) (hd : A.depth + 20 < recursionLimit) (hh : A.handled = none) (hfr : A.frames = some [envL cd L a]) (hu : A.units + 20 < cLine)
    (x : Lw s₀ [] L m (cells L v1 v2 v3) s) (mfi : m "first" = some (.ref D)) (mf : m "family" = some (.ref D)) (hl : Li s.heap D first) (hS : Fam first) (hlen : first.length ≤ 8)
    (h : ∀ m' v3' F S s', Chain first 6 S → Lw s₀ [] L m' (cells L v1 v2 v3') s' → m' "first" = some (.ref D) → m' "family" = some (.ref F) → Li s'.heap D first → Li s'.heap F S → Q .next s') :
    wpAny (model prog w) A (exec (lawSt 7) (envL cd L a)) Q E s := by
  refine (show wpAny _ _ (exec (.For (.Name "thing" _) (.List _ _) shiftBody [] _) _) _ _ _ from wpAny_For ?_)
  refine written_list (is := things) (by repeat constructor) (by decide) fun T s₁ k₁ fT lT => ?_
  have x₁ := x.kp k₁
  have hl₁ := hl.kp k₁
  refine iter_li (X := xL L) (Inv := fun i s' => ∃ m v3 F S, Lw s₀ [] L m (cells L v1 v2 v3) s' ∧ m "first" = some (.ref D) ∧ m "family" = some (.ref F) ∧ Li s'.heap D first ∧ Li s'.heap F S ∧ Chain first i S) hh lT (x₁.offL lT) x₁.liveL
    ⟨m, v3, D, first, x₁, mfi, mf, hl₁, hl₁, .zero⟩ ?_ ?_ ?_
  · rintro I hI hIX i s₂ h' tk ⟨m, v3, F, S, x, mfi, mf, l1, l2, ch⟩ hk hf hx
    exact ⟨m, v3, F, S, x.butL hx (x₁.none_back hI) hIX, mfi, mf, l1.but hx (l1.off hf), l2.but hx (l2.off hf), ch⟩
  · rintro i b t s₂ E' hb hk ⟨m, v3, F, S, x, mfi, mf, l1, l2, ch⟩
    refine wpAny_assign_Name (st3 x fun s₃ b₃ x₃ => ?_)
    have l1' := x.sbc (v₀ := v3) (c := L + 3) (by simp [cells]) l1 b₃
    have l2' := x.sbc (v₀ := v3) (c := L + 3) (by simp [cells]) l2 b₃
    have hSf := ch.fam hS
    have hSl := ch.len
    refine law_shift G hd hh hfr hu x₃ mf l2' hSf (List.mem_of_getElem? hb) (by omega) fun m' M F' s₄ sh x₄ mf' mfi' l₄ k₄ => ?_
    refine ⟨.inl rfl, (b₃.kx (by simp)).trans (k₄.mono (by simp)), m', _, F', M, x₄, mfi'.trans mfi, mf', k₄.liL x₃.ns l1', l₄, ch.succ hb hSf sh⟩
  · rintro s₂ hk ⟨m, v3, F, S, x, mfi, mf, l1, l2, ch⟩
    exact h m v3 F S s₂ ch x mfi mf l1 l2
end
end Mine

-- ================ Law7 ================
namespace Mine

def trStep (p : Int) (acc : List Int) (o : Int) : List Int := if Builtin.bitAnd o p ∈ acc then acc else acc ++ [Builtin.bitAnd o p]
def traces (first : List Int) (p : Int) : List Int := first.foldl (trStep p) []
theorem traces_len (p : Int) : ∀ (xs acc : List Int), (xs.foldl (trStep p) acc).length ≤ acc.length + xs.length
  | [], acc => by simp
  | x :: r, acc => by
    rw [List.foldl_cons]
    have := traces_len p r (trStep p acc x)
    have h2 : (trStep p acc x).length ≤ acc.length + 1 := by unfold trStep; split <;> simp
    simp only [List.length_cons]
    omega
theorem traces_take {p : Int} {xs : List Int} {i : Nat} {a : Int} (h : xs[i]? = some a) : (xs.take (i + 1)).foldl (trStep p) [] = trStep p ((xs.take i).foldl (trStep p) []) a := by
  rw [take_succ_some h, List.foldl_append]; rfl

structure Lc (s₀ : Shared) (L : Addr) (v1 v2 v3 : Option Value) (D F : Addr) (first S : List Int) (m : Str → Option Value) (s : Shared) : Prop where
  lw : Lw s₀ [] L m (cells L v1 v2 v3) s
  mfi : m "first" = some (.ref D)
  mfa : m "family" = some (.ref F)
  l1 : Li s.heap D first
  l2 : Li s.heap F S

def placeBody : List Stmt := match lawSt 9 with
  | .For _ _ b .. => b
  | _ => []
section
variable {prog : Program} {w : World} {A : Around} {E : Value → Shared → Prop} {R : Result → Shared → Prop} {s s' s₀ : Shared} {m : Str → Option Value} {mg mb : Str → Option Value} {env : Env} {K : Frag} {L a D F : Addr} {cd : Value} {first S : List Int} {v1 v2 v3 : Option Value}

theorem Lc.butL (x : Lc s₀ L v1 v2 v3 D F first S m s) {I : Addr} {h' : Heap} {tk : Nat} (hs : Heap.ExtBut I s.heap h') (hI : s₀.heap.get? I = none) (hX : ∀ b ∈ xL L, I ≠ b) (hf : ∀ o, s.heap.get? I = some o → ∃ vs, o.data = .fields vs) :
    Lc s₀ L v1 v2 v3 D F first S m { s with heap := h', toks := tk } := ⟨x.lw.butL hs hI hX, x.mfi, x.mfa, x.l1.but hs (x.l1.off hf), x.l2.but hs (x.l2.off hf)⟩
theorem Lc.kp (x : Lc s₀ L v1 v2 v3 D F first S m s) (k : Keeps s s') : Lc s₀ L v1 v2 v3 D F first S m s' := ⟨x.lw.kp k, x.mfi, x.mfa, x.l1.kp k, x.l2.kp k⟩
theorem Lc.toks (x : Lc s₀ L v1 v2 v3 D F first S m s) (tk : Nat) : Lc s₀ L v1 v2 v3 D F first S m { s with toks := tk } := x.kp ⟨_, _, rfl, fun _ _ e => e⟩
theorem Lc.st (x : Lc s₀ L v1 v2 v3 D F first S m s) {n : Str} {v : Value} {Q : Unit → Shared → Prop} (n1 : ("first" : Str) ≠ n) (n2 : ("family" : Str) ≠ n) (hn : (envL cd L a).kindOf n = some .local)
    (h : ∀ s', Sb L s s' → Lc s₀ L v1 v2 v3 D F first S (upd m n v) s' → Q () s') : wpAny (model prog w) A (storeName (envL cd L a) n v) Q E s :=
  x.lw.store (env := envL cd L a) (fun s' b x' => h s' b ⟨x', (upd_ne n1).trans x.mfi, (upd_ne n2).trans x.mfa, x.lw.sbl x.l1 b, x.lw.sbl x.l2 b⟩) hn
theorem Lc.st3 (x : Lc s₀ L v1 v2 v3 D F first S m s) {v : Value} {Q : Unit → Shared → Prop} (h : ∀ s', Sb (L + 3) s s' → Lc s₀ L v1 v2 (some v) D F first S m s' → Q () s') :
    wpAny (model prog w) A (storeName (envL cd L a) "thing" v) Q E s :=
  Mine.st3 x.lw fun s' b x' => h s' b ⟨x', x.mfi, x.mfa, x.lw.sbc (v₀ := v3) (c := L + 3) (by simp [cells]) x.l1 b, x.lw.sbc (v₀ := v3) (c := L + 3) (by simp [cells]) x.l2 b⟩

/-- the first loop over things for a place -/
theorem law_down {p : Int} {t : Tok} {Q : Flow → Shared → Prop} (hh : A.handled = none) (x : Lc s₀ L v1 v2 v3 D F first S m s) (mp : m "place" = some (.int p t)) (hdown : ∀ b ∈ things, bitOn b p = true → p - b ∈ S)
    (h : ∀ v3' s', Lc s₀ L v1 v2 v3' D F first S m s' → Kx (xL L) s s' → Q .next s') :
    wpAny (model prog w) A (exec ((placeBody[0]?).getD (.Pass default)) (envL cd L a)) Q E s := by
  refine (show wpAny _ _ (exec (.For (.Name "thing" _) (.List _ _) [_] [] _) _) _ _ _ from wpAny_For ?_)
  refine written_list (is := things) (by repeat constructor) (by decide) fun T s₁ k₁ fT lT => ?_
  have x₁ := x.kp k₁
  refine iter_li (X := xL L) (Inv := fun i s' => ∃ v3, Lc s₀ L v1 v2 v3 D F first S m s') hh lT (x₁.lw.offL lT) x₁.lw.liveL ⟨v3, x₁⟩ ?_ ?_ ?_
  · rintro I hI hIX i s₂ h' tk ⟨v3, x⟩ hk hf hx
    exact ⟨v3, x.butL hx (x₁.lw.none_back hI) hIX hf⟩
  · rintro i b tb s₂ E' hb hk ⟨v3, x⟩
    have hb' := List.mem_of_getElem? hb
    obtain ⟨hb0, hb1⟩ := things_pos hb'
    refine wpAny_assign_Name (x.st3 fun s₃ b₃ x₃ => ?_)
    refine wpAny_execs_cons (wpAny_If (wpAny_isTrue_BoolOp (wpAny_allTrue_And_cons (wpAny_isTrue_Compare1 (Ev.use (((Ev.loc x₃.lw.ns mp).bin (Ev.cell (cell3 x₃.lw)) (.div hb0 (by omega))).bin (.const 2) (.mod (by decide))) fun u tk => cint (eq_int (wpAny_truthy_bool ?_)))))))
    cases hbit : bitOn b p with
    | false =>
      rw [show (p / b % 2 == 1) = false from hbit]
      simp only [Bool.false_eq_true, if_false]
      exact wpAny_execs_nil (wpAny_execs_nil ⟨.inl rfl, ((b₃.kx (by simp)).kp ⟨_, _, rfl, fun _ _ e => e⟩), _, x₃.toks _⟩)
    | true =>
      rw [show (p / b % 2 == 1) = true from hbit]
      simp only [if_true]
      refine wpAny_allTrue_And_cons (wpAny_isTrue_Compare1 (Ev.use ((Ev.loc x₃.lw.ns mp).bin (Ev.cell (cell3 (x₃.toks _).lw)) .sub) fun u' tk' => nL x₃.lw.ns x₃.mfa (li_notIn x₃.l2 (wpAny_truthy_bool ?_))))
      rw [decide_eq_true (hdown b hb' hbit)]
      simp only [Bool.not_true, Bool.false_eq_true, if_false]
      exact wpAny_execs_nil (wpAny_execs_nil ⟨.inl rfl, ((b₃.kx (by simp)).kp ⟨_, _, rfl, fun _ _ e => e⟩), _, x₃.toks _⟩)
  · rintro s₂ hk ⟨v3, x⟩
    exact h v3 s₂ x ((Kx.of_kp k₁).trans hk)
end
end Mine

-- ================ Law8 ================
namespace Mine
section
variable {prog : Program} {w : World} {A : Around} {E : Value → Shared → Prop} {R : Result → Shared → Prop} {s s' s₀ : Shared} {m : Str → Option Value} {mg mb : Str → Option Value} {env : Env} {K : Frag} {L a D F : Addr} {cd : Value} {first S : List Int} {v1 v2 v3 : Option Value}

theorem Lc.sbT (x : Lc s₀ L v1 v2 v3 D F first S m s) {T : Addr} {ts : List Int} (hT : Li s.heap T ts) (fT : s₀.heap.get? T = none) (n1 : D ≠ T) (n2 : F ≠ T) {h' : Heap} {tk : Nat} (hs : Heap.SameBut T s.heap h') :
    Lc s₀ L v1 v2 v3 D F first S m { s with heap := h', toks := tk } :=
  ⟨x.lw.li hT fT hs, x.mfi, x.mfa, x.l1.at fun _ e => same_get hs n1 e, x.l2.at fun _ e => same_get hs n2 e⟩

/-- the loop that gathers the traces -/
theorem law_traces {p : Int} {t : Tok} {T : Addr} {Q : Flow → Shared → Prop} (hh : A.handled = none) (x : Lc s₀ L v1 v2 v3 D F first S m s) (mp : m "place" = some (.int p t)) (mt : m "traces" = some (.ref T)) (hT : Li s.heap T [])
    (fT : s₀.heap.get? T = none) (n1 : D ≠ T) (n2 : F ≠ T) (hlen : first.length ≤ 8)
    (h : ∀ m' s', Lc s₀ L v1 v2 v3 D F first S m' s' → m' "place" = some (.int p t) → m' "traces" = some (.ref T) → Li s'.heap T (traces first p) → Kx (T :: xL L) s s' → Q .next s') :
    wpAny (model prog w) A (exec ((placeBody[2]?).getD (.Pass default)) (envL cd L a)) Q E s := by
  refine (show wpAny _ _ (exec (.For (.Name "other" _) (.Name "first" _) [_] [] _) _) _ _ _ from wpAny_For (nL x.lw.ns x.mfi ?_))
  refine iter_li (X := T :: xL L) (Inv := fun i s' => ∃ m, Lc s₀ L v1 v2 v3 D F first S m s' ∧ m "place" = some (.int p t) ∧ m "traces" = some (.ref T) ∧ Li s'.heap T ((first.take i).foldl (trStep p) [])) hh x.l1
    (fun hm => by rcases List.mem_cons.mp hm with e | e; exact n1 e; exact x.lw.offL x.l1 e) (fun c hc => by rcases List.mem_cons.mp hc with e | e; (rw [e]; exact hT.lt); exact x.lw.liveL c e) ⟨m, x, mp, mt, hT⟩ ?_ ?_ ?_
  · rintro I hI hIX i s₂ h' tk ⟨m, x', mp, mt, lt⟩ hk hf hx
    exact ⟨m, x'.butL hx (x.lw.none_back hI) (fun b hb => hIX b (.tail _ hb)) hf, mp, mt, lt.but hx (lt.off hf)⟩
  · rintro i o to s₂ E' ho hk ⟨m, x₂, mp, mt, lt⟩
    refine wpAny_assign_Name (x₂.st (n := "other") (by decide) (by decide) (by kernel_rfl) fun s₃ b₃ x₃ => ?_)
    have lt₃ := x₂.lw.sbl lt b₃
    have mp₃ : upd m "other" (.int o to) "place" = some (.int p t) := (upd_ne (by decide)).trans mp
    have mt₃ : upd m "other" (.int o to) "traces" = some (.ref T) := (upd_ne (by decide)).trans mt
    have mo₃ : upd m "other" (.int o to) "other" = some (.int o to) := upd_same
    have hlen₃ : ((first.take i).foldl (trStep p) []).length ≤ 8 := by
      have := traces_len p (first.take i) []
      have := List.length_take_le i first
      simp at *; omega
    rw [traces_take ho]
    generalize (first.take i).foldl (trStep p) [] = acc at *
    refine wpAny_execs_cons (wpAny_If (wpAny_isTrue_Compare1 (Ev.use ((Ev.loc x₃.lw.ns mo₃).bin (Ev.loc x₃.lw.ns mp₃) .and) fun u tk => nL x₃.lw.ns mt₃ (li_notIn lt₃ (wpAny_truthy_bool ?_)))))
    by_cases hin : Builtin.bitAnd o p ∈ acc
    · rw [decide_eq_true hin]
      simp only [Bool.not_true, Bool.false_eq_true, if_false]
      refine wpAny_execs_nil (wpAny_execs_nil ⟨.inl rfl, (b₃.kx (by simp)).kp ⟨_, _, rfl, fun _ _ e => e⟩, _, x₃.toks _, mp₃, mt₃, ?_⟩)
      unfold trStep
      rw [if_pos hin]
      exact lt₃
    · rw [decide_eq_false hin]
      simp only [Bool.not_false, if_true]
      refine wpAny_execs_cons (ex_append (d := T) x₃.lw.ns mt₃ ⟨_, lt₃⟩ rfl ?_ (by kernel_rfl))
      refine Ev.use ((Ev.loc x₃.lw.ns mo₃).bin (Ev.loc x₃.lw.ns mp₃) .and) fun u' tk' => ?_
      refine ⟨_, _, acc, rfl, lt₃, by have := sizeLine_eq; omega, fun h' hl' hs' => wpAny_execs_nil (wpAny_execs_nil ⟨.inl rfl, ?_, _, x₃.sbT lt₃ fT n1 n2 hs', mp₃, mt₃, ?_⟩)⟩
      · exact (b₃.kx (by simp)).trans (.of_but hs'.extBut (.head _))
      · unfold trStep
        rw [if_neg hin]
        exact hl'
  · rintro s₂ hk ⟨m, x, mp, mt, lt⟩
    rw [List.take_length] at lt
    exact h m s₂ x mp mt lt hk

theorem wt_in {p : Int} (h0 : 0 ≤ p) : 0 ≤ wt p ∧ wt p ≤ 6 := by
  simp only [wt, things, List.map_cons, List.map_nil, List.sum_cons, List.sum_nil]
  omega

theorem law_place {p : Int} {t : Tok} {Q : Flow → Shared → Prop} (G : Gl K mg mb s₀.heap) (hd : A.depth + 20 < recursionLimit) (hh : A.handled = none) (x : Lc s₀ L v1 v2 v3 D F first S m s) (mp : m "place" = some (.int p t)) (hp : 0 ≤ p)
    (hdown : ∀ b ∈ things, bitOn b p = true → p - b ∈ S) (htr : ((traces first p).length : Int) = 2 ^ (wt p).toNat) (hlen : first.length ≤ 8)
    (h : ∀ v3' m' s', Lc s₀ L v1 v2 v3' D F first S m' s' → Kx (xL L) s s' → Q .next s') :
    wpAny (model prog w) A (execs placeBody (envL cd L a)) Q E s := by
  refine wpAny_execs_cons (law_down hh x mp hdown fun v3' s₁ x₁ k₁ => ?_)
  refine wpAny_execs_cons (wpAny_Assign_Name (List_ (args_nil ?_)) (by kernel_rfl))
  refine li_new (prog := prog) (w := w) (ns := []) .nil (by decide) fun T s₂ k₂ fT lT => ?_
  have x₂ := x₁.kp k₂
  have n1 : D ≠ T := fun e => by subst e; obtain ⟨_, _, q, _⟩ := x₁.l1; rw [fT] at q; cases q
  have n2 : F ≠ T := fun e => by subst e; obtain ⟨_, _, q, _⟩ := x₁.l2; rw [fT] at q; cases q
  refine x₂.st (n := "traces") (by decide) (by decide) (by kernel_rfl) fun s₃ b₃ x₃ => ?_
  have lT₃ := x₂.lw.sbl lT b₃
  refine wpAny_execs_cons (law_traces hh x₃ ((upd_ne (by decide)).trans mp) upd_same lT₃ (x₁.lw.none_back fT) n1 n2 hlen fun m₄ s₄ x₄ mp₄ mt₄ lT₄ k₄ => ?_)
  have kx : Kx (xL L) s s₄ := by
    obtain ⟨h₁, t₁, rfl, q₁⟩ := (k₁.kp k₂).trans (b₃.kx (by simp))
    obtain ⟨h₂, t₂, rfl, q₂⟩ := k₄
    refine ⟨h₂, t₂, rfl, fun c o hc e => q₂ c o (fun hm => ?_) (q₁ c o hc e)⟩
    rcases List.mem_cons.mp hm with rfl | hm
    · have := k₁.get hc e
      rw [fT] at this; cases this
    · exact hc hm
  have G₄ := G.at x₄.lw
  have hz : (traces first p).length ≤ 8 := Nat.le_trans (by have := traces_len p first []; simpa [traces] using this) hlen
  have hw := wt_in hp
  obtain ⟨o, pm, cd', ho, hdt, hcd⟩ := G₄.W.weight.there
  refine wpAny_execs_cons (wpAny_If (wpAny_isTrue_Compare1 (Ev.use (li_lenE (Z := G₄.Z) G₄.W x₄.lw.ns mt₄ lT₄ (by have := sizeLine_eq; omega)) fun u tk => ?_)))
  refine wpAny_BinOp (cint (Call_ (nG G₄.W.g G₄.W.weight.name (cwF hdt (args_cons (nL x₄.lw.ns mp₄ (args_nil ⟨ho, weight_call ((G₄.W.keep fun _ _ e => e)) (by omega) hh fun u' s₅ k₅' => ?_⟩)))))))
  have k₅ : Keeps s₄ s₅ := let ⟨h', t, e, k⟩ := k₅'; ⟨h', t, e, k⟩
  refine pow_int_small hw.1 (by omega) (by decide) (ne_int (wpAny_truthy_bool ?_))
  rw [show (((traces first p).length : Int) != 2 ^ (wt p).toNat) = false by rw [htr]; exact bne_self_eq_false _]
  simp only [Bool.false_eq_true, if_false]
  exact wpAny_execs_nil (wpAny_execs_nil (h v3' m₄ _ ((x₄.kp k₅).toks _) ((kx.kp k₅).kp ⟨_, _, rfl, fun _ _ e => e⟩)))
end
end Mine

-- ================ Law9 ================
namespace Mine

def isEdge (a b : Int) : Bool := wt (Builtin.bitXor a b) == 1
def partIn (first : List Int) (i : Nat) : Nat → Int
  | 0 => 0
  | j + 1 => partIn first i j + (if isEdge (first.getD i 0) (first.getD j 0) then 1 else 0)
def partTo (first : List Int) : Nat → Int
  | 0 => 0
  | i + 1 => partTo first i + partIn first i i

/-- the plain law: what the checks ask of the first and the last family -/
structure Ends (first S : List Int) : Prop where
  down : ∀ p ∈ S, ∀ b ∈ things, bitOn b p = true → p - b ∈ S
  traces : ∀ p ∈ S, ((traces first p).length : Int) = 2 ^ (wt p).toNat
  parted : partTo first first.length ≤ (S.map wt).sum

section
variable {prog : Program} {w : World} {A : Around} {E : Value → Shared → Prop} {R : Result → Shared → Prop} {s s' s₀ : Shared} {m : Str → Option Value} {mg mb : Str → Option Value} {env : Env} {K : Frag} {L a D F : Addr} {cd : Value} {first S : List Int} {v1 v2 v3 : Option Value}

theorem law_places_loop {Q : Flow → Shared → Prop} (G : Gl K mg mb s₀.heap) (hd : A.depth + 20 < recursionLimit) (hh : A.handled = none) (x : Lc s₀ L v1 v2 v3 D F first S m s) (hS : Fam S) (e : Ends first S) (hlen : first.length ≤ 8)
    (h : ∀ v3' m' s', Lc s₀ L v1 v2 v3' D F first S m' s' → Q .next s') :
    wpAny (model prog w) A (exec (lawSt 9) (envL cd L a)) Q E s := by
  refine (show wpAny _ _ (exec (.For (.Name "place" _) (.Name "family" _) placeBody [] _) _) _ _ _ from wpAny_For (nL x.lw.ns x.mfa ?_))
  refine iter_li (X := xL L) (Inv := fun i s' => ∃ v3 m, Lc s₀ L v1 v2 v3 D F first S m s') hh x.l2 (x.lw.offL x.l2) x.lw.liveL ⟨v3, m, x⟩ ?_ ?_ ?_
  · rintro I hI hIX i s₂ h' tk ⟨v3, m, x'⟩ hk hf hx
    exact ⟨v3, m, x'.butL hx (x.lw.none_back hI) hIX hf⟩
  · rintro i p t s₂ E' hp hk ⟨v3, m, x₂⟩
    have hp' := List.mem_of_getElem? hp
    refine wpAny_assign_Name (x₂.st (n := "place") (by decide) (by decide) (by kernel_rfl) fun s₃ b₃ x₃ => ?_)
    refine law_place G hd hh x₃ upd_same (hS.within p hp').1 (e.down p hp') (e.traces p hp') hlen fun v3' m' s₄ x₄ k₄ => ?_
    exact ⟨.inl rfl, (b₃.kx (by simp)).trans k₄, v3', m', x₄⟩
  · rintro s₂ hk ⟨v3, m, x⟩
    exact h v3 m s₂ x

def partBody : List Stmt := match lawSt 11 with
  | .For _ _ b .. => b
  | _ => []

theorem law_inner {i : Nat} {ti tp : Tok} {c : Int} {Q : Flow → Shared → Prop} (G : Gl K mg mb s₀.heap) (hd : A.depth + 20 < recursionLimit) (hh : A.handled = none) (x : Lc s₀ L v1 v2 v3 D F first S m s)
    (mi : m "i" = some (.int (i : Int) ti)) (mp : m "parted" = some (.int c tp)) (hi : i < first.length) (hlen : first.length ≤ 8)
    (h : ∀ m' s' t', Lc s₀ L v1 v2 v3 D F first S m' s' → m' "parted" = some (.int (c + partIn first i i) t') → Kx (xL L) s s' → Q .next s') :
    wpAny (model prog w) A (exec ((partBody[0]?).getD (.Pass default)) (envL cd L a)) Q E s := by
  have G₁ := G.at x.lw
  refine (show wpAny _ _ (exec (.For (.Name "j" _) (.Call (.Name "range" _) [.Name "i" _] [] _) [_] [] _) _) _ _ _ from wpAny_For (Call_ (nB G₁.W.g G₁.W.b G₁.Z.grange G₁.Z.brange (cwT (args_cons (nL x.lw.ns mi (args_nil (c_range1 fun r s₁ t u v k₁ hr => ?_))))))))
  have x₁ := x.kp k₁
  refine iter_range (X := xL L) (Inv := fun j s' => ∃ m t', Lc s₀ L v1 v2 v3 D F first S m s' ∧ m "i" = some (.int (i : Int) ti) ∧ m "parted" = some (.int (c + partIn first i j) t')) hh hr (rng (by omega)).1 (rng (by omega)).2 x₁.lw.liveL
    ⟨m, tp, x₁, mi, by simpa [partIn] using mp⟩ ?_ ?_ ?_
  · rintro I hI hIX j s₂ h' tk ⟨m, t', x', mi, mp⟩ hk hf hx
    exact ⟨m, t', x'.butL hx (x₁.lw.none_back hI) hIX hf, mi, mp⟩
  · rintro j tj s₂ E' hj hk ⟨m, t', x₂, mi, mp⟩
    have e₀ : (0 + (j : Int) * 1) = (j : Int) := by omega
    rw [e₀]
    refine wpAny_assign_Name (x₂.st (n := "j") (by decide) (by decide) (by kernel_rfl) fun s₃ b₃ x₃ => ?_)
    have mi₃ : upd m "j" (.int (j : Int) tj) "i" = some (.int (i : Int) ti) := (upd_ne (by decide)).trans mi
    have mp₃ : upd m "j" (.int (j : Int) tj) "parted" = some (.int (c + partIn first i j) t') := (upd_ne (by decide)).trans mp
    have mj₃ : upd m "j" (.int (j : Int) tj) "j" = some (.int (j : Int) tj) := upd_same
    have G₃ := G.at x₃.lw
    obtain ⟨o, pm, cd', ho, hdt, hcd⟩ := G₃.W.weight.there
    refine wpAny_execs_cons (wpAny_If (wpAny_isTrue_Compare1 (Call_ (nG G₃.W.g G₃.W.weight.name (cwF hdt (args_cons ?_))))))
    refine Ev.use ((Ev.item x₃.lw.ns x₃.mfi x₃.l1 (.loc x₃.lw.ns mi₃) (by omega) (by omega) (getD_some (by omega))).bin (Ev.item x₃.lw.ns x₃.mfi x₃.l1 (.loc x₃.lw.ns mj₃) (by omega) (by omega) (getD_some (by omega))) .xor) fun u tk => ?_
    refine args_nil ⟨ho, weight_call ((G₃.W.keep fun _ _ e => e)) (by omega) hh fun u' s₄ k₄' => ?_⟩
    have k₄ : Keeps s₃ s₄ := let ⟨h', t, e, k⟩ := k₄'; ⟨h', t, e, k⟩
    have x₄ := x₃.kp k₄
    refine cint (eq_int (wpAny_truthy_bool ?_))
    rw [partIn]
    cases he : isEdge (first.getD i 0) (first.getD j 0) with
    | false =>
      rw [show (wt (Builtin.bitXor (first.getD (i : Int).toNat 0) (first.getD (j : Int).toNat 0)) == 1) = false from he]
      simp only [Bool.false_eq_true, if_false]
      exact wpAny_execs_nil (wpAny_execs_nil ⟨.inl rfl, ((b₃.kx (by simp)).kp k₄).kp ⟨_, _, rfl, fun _ _ e => e⟩, _, t', x₄.toks _, mi₃, by rw [Int.add_zero]; exact mp₃⟩)
    | true =>
      rw [show (wt (Builtin.bitXor (first.getD (i : Int).toNat 0) (first.getD (j : Int).toNat 0)) == 1) = true from he]
      simp only [if_true]
      refine wpAny_execs_cons (wpAny_Assign_Name (Ev.use ((Ev.loc x₄.lw.ns mp₃).bin (.const 1) .add) fun u₅ tk₅ => ?_) (by kernel_rfl))
      refine (x₄.toks _).st (n := "parted") (by decide) (by decide) (by kernel_rfl) fun s₆ b₆ x₆ => wpAny_execs_nil (wpAny_execs_nil ⟨.inl rfl, ?_, _, _, x₆, (upd_ne (by decide)).trans mi₃, by rw [← Int.add_assoc]; exact upd_same⟩)
      exact ((((b₃.kx (by simp)).kp k₄).kp ⟨_, tk₅, rfl, fun _ _ e => e⟩).trans (b₆.kx (by simp)))
  · rintro s₂ hk ⟨m, t', x, mi, mp⟩
    exact h m s₂ t' x mp ((Kx.of_kp k₁).trans hk)
end
end Mine

-- ================ LawA ================
namespace Mine
section
variable {prog : Program} {w : World} {A : Around} {E : Value → Shared → Prop} {R : Result → Shared → Prop} {s s' s₀ : Shared} {m : Str → Option Value} {mg mb : Str → Option Value} {env : Env} {K : Frag} {L a D F sl : Addr} {cd : Value} {first S script : List Int} {vs : List Value} {v1 v2 v3 : Option Value}

theorem law_parted {tp : Tok} {Q : Flow → Shared → Prop} (G : Gl K mg mb s₀.heap) (hd : A.depth + 20 < recursionLimit) (hh : A.handled = none) (x : Lc s₀ L v1 v2 v3 D F first S m s)
    (mp : m "parted" = some (.int 0 tp)) (hlen : first.length ≤ 8)
    (h : ∀ m' s' t', Lc s₀ L v1 v2 v3 D F first S m' s' → m' "parted" = some (.int (partTo first first.length) t') → Q .next s') :
    wpAny (model prog w) A (exec (lawSt 11) (envL cd L a)) Q E s := by
  have G₁ := G.at x.lw
  refine (show wpAny _ _ (exec (.For (.Name "i" _) (.Call (.Name "range" _) [.Call (.Name "len" _) [.Name "first" _] [] _] [] _) partBody [] _) _) _ _ _ from wpAny_For (Call_ (nB G₁.W.g G₁.W.b G₁.Z.grange G₁.Z.brange (cwT (args_cons (Ev.use (li_lenE (Z := G₁.Z) G₁.W x.lw.ns x.mfi x.l1 (by have := sizeLine_eq; omega)) fun u tk => args_nil (c_range1 fun r s₁ t u v k₁' hr => ?_)))))))
  have k₁ : Keeps s s₁ := let ⟨h', t, e, k⟩ := k₁'; ⟨h', t, e, k⟩
  have x₁ := x.kp k₁
  refine iter_range (X := xL L) (Inv := fun i s' => ∃ m t', Lc s₀ L v1 v2 v3 D F first S m s' ∧ m "parted" = some (.int (partTo first i) t')) hh hr (rng (by omega)).1 (rng (by omega)).2 x₁.lw.liveL ⟨m, tp, x₁, mp⟩ ?_ ?_ ?_
  · rintro I hI hIX j s₂ h' tk ⟨m, t', x', mp⟩ hk hf hx
    exact ⟨m, t', x'.butL hx (x₁.lw.none_back hI) hIX hf, mp⟩
  · rintro i tj s₂ E' hi hk ⟨m, t', x₂, mp⟩
    have e₀ : (0 + (i : Int) * 1) = (i : Int) := by omega
    rw [e₀]
    refine wpAny_assign_Name (x₂.st (n := "i") (by decide) (by decide) (by kernel_rfl) fun s₃ b₃ x₃ => ?_)
    refine wpAny_execs_cons (law_inner G hd hh x₃ upd_same ((upd_ne (by decide)).trans mp) hi hlen fun m' s₄ t₄ x₄ mp₄ k₄ => wpAny_execs_nil ⟨.inl rfl, (b₃.kx (by simp)).trans k₄, m', t₄, x₄, mp₄⟩)
  · rintro s₂ hk ⟨m, t', x, mp⟩
    exact h m s₂ t' x mp

/-- the last line -/
theorem law_last {tp : Tok} {c : Int} {Q : Flow → Shared → Prop} (G : Gl K mg mb s₀.heap) (hd : A.depth + 20 < recursionLimit) (hh : A.handled = none) (x : Lc s₀ L v1 v2 v3 D F first S m s)
    (mp : m "parted" = some (.int c tp)) (hS : Fam S) (hlen : S.length ≤ 8) (hc : c ≤ (S.map wt).sum) (h : ∀ s', KF [] s₀ s' → Q (.ret (.bool true)) s') :
    wpAny (model prog w) A (exec (lawSt 12) (envL cd L a)) Q E s := by
  have G₁ := G.at x.lw
  have hz := sizeLine_eq
  refine wpAny_Return_some (wpAny_Compare1 (nL x.lw.ns mp (Call_ (nB G₁.W.g G₁.W.b G₁.W.gsum G₁.W.bsum (cwB (args_cons ?_))))))
  obtain ⟨ws, hli, hws⟩ := x.l2.isList
  refine comp_li (cl := []) (fun _ => true) wt hh (by kernel_rfl) (by decide) (by kernel_rfl) (by decide) (by kernel_rfl) (nL x.lw.ns x.mfa ?_)
  refine ⟨F, ws, S, rfl, hli, hws, by omega, ⟨?_, ?_⟩, ?_⟩
  · intros; exact wpAny_tests_nil ⟨rfl, kp_refl _⟩
  · intro C n t₃ s₃ m₃ E' hn _ hn₃ hm₃ hk₃
    have W₃ := G₁.W.keep hk₃
    obtain ⟨o, pm, cd', ho, hdt, hcd⟩ := W₃.weight.there
    refine Call_ (nG W₃.g W₃.weight.name (cwF hdt (args_cons (nL hn₃ hm₃ (args_nil ⟨ho, weight_call W₃ (by omega) hh fun u' s₄ k₄ => ⟨⟨_, rfl⟩, k₄⟩⟩)))))
  · intro D₂ s₂ k₂ fD₂ l₂
    rw [List.filter_eq_self.mpr (fun _ _ => rfl)] at l₂
    refine args_nil (li_sum l₂ hh ?_ (by rw [List.length_map]; omega) fun u s₃ k₃ => ?_)
    · intro y hy
      obtain ⟨p, hp, rfl⟩ := List.mem_map.mp hy
      have := wt_in (hS.within p hp).1
      omega
    · refine le_int ?_
      rw [decide_eq_true hc]
      exact h s₃ (((x.lw.kf.kp k₂).kp k₃) : KF (frs []) s₀ s₃)
end
end Mine

-- ================ LawB ================
namespace Mine
def PlainLaw : Prop := ∀ first S : List Int, Fam first → first.length ≤ 8 → Chain first 6 S → Ends first S
section
variable {prog : Program} {w : World} {A : Around} {E : Value → Shared → Prop} {R : Result → Shared → Prop} {s s' s₀ : Shared} {m : Str → Option Value} {mg mb : Str → Option Value} {env : Env} {K : Frag} {L a D F sl : Addr} {cd : Value} {first S script : List Int} {vs : List Value} {v1 v2 v3 : Option Value}

theorem law_octets {Q : Flow → Shared → Prop} (hh : A.handled = none)
    (x : Lw s₀ [] L m (cells L v1 v2 v3) s) (ms : m "script" = some (.ref sl)) (hsl : s₀.heap.IsList sl (List.toArray vs)) (hi : IntsAre vs script) (hlen : script.length ≤ 63)
    (h : ∀ D s', Lw s₀ [] L (upd m "octets" (.ref D)) (cells L v1 v2 v3) s' → s₀.heap.get? D = none → Li s'.heap D ((script.take 6).map (· % 256)) → Q .next s') :
    wpAny (model prog w) A (exec (lawSt 1) (envL cd L a)) Q E s := by
  have hsl₁ : s.heap.IsList sl (List.toArray vs) := let ⟨o, e, r⟩ := hsl; ⟨o, x.kf.get (by simp [frs]) e, r⟩
  have hz := sizeLine_eq
  refine comp_lw (s₀ := s₀) (outer := []) (cl₀ := cells L v1 v2 v3) (cl := []) (fun _ => true) (· % 256) (by kernel_rfl) hh (by kernel_rfl) (by decide) (by kernel_rfl) (by decide) (by kernel_rfl) (by kernel_rfl) (by kernel_rfl) ?_
  refine li_upto (nL x.ns ms (cint ⟨sl, vs, script, 6, _, rfl, rfl, hsl₁, hi, by omega, fun D₁ s₁ k₁' fD₁ l₁ => ?_⟩))
  have k₁ : Keeps s s₁ := let ⟨h', t, e, k⟩ := k₁'; ⟨h', t, e, k⟩
  obtain ⟨ws, hli, hws⟩ := l₁.isList
  have x₁ := x.kp k₁
  refine ⟨D₁, ws, script.take 6, m, rfl, hli, hws, by have := List.length_take_le 6 script; omega, ⟨?_, ?_⟩, x₁, fun D s' x' k' fD hl' => ?_⟩
  · intros; exact wpAny_tests_nil ⟨rfl, kp_refl _⟩
  · intro C n t₃ s₃ m₃ E' hn _ hn₃ hm₃ hk₃
    exact Ev.use ((Ev.loc hn₃ hm₃).bin (.const 256) (.mod (by decide))) fun u tk => ⟨⟨_, rfl⟩, _, _, rfl, fun _ _ e => e⟩
  · rw [List.filter_eq_self.mpr (fun _ _ => rfl)] at hl'
    exact h D s' x' (x₁.none_back fD) hl'

theorem law_walk {Q : Flow → Shared → Prop} (plain : PlainLaw) (G : Gl K mg mb s₀.heap) (hd : A.depth + 20 < recursionLimit) (hh : A.handled = none) (hfr : A.frames = some [envL cd L a]) (hu : A.units + 20 < cLine)
    (x : Lw s₀ [] L m (cells L none none none) s) (ms : m "script" = some (.ref sl)) (hsl : s₀.heap.IsList sl (List.toArray vs)) (hi : IntsAre vs script) (hlen : script.length ≤ 63)
    (h : ∀ s', KF [] s₀ s' → Q (.ret (.bool true)) s') :
    wpAny (model prog w) A (execs (bodyOf (stAt 17)) (envL cd L a)) Q E s := by
  have hz := sizeLine_eq
  -- signs
  refine wpAny_execs_cons (wpAny_Assign_Name (wpAny_Constant_str ?_) (by kernel_rfl))
  refine st1 (x.toks _) fun s₁ b₁ x₁ => ?_
  have x₁ : Lw s₀ [] L m (cells L (some (.str signsStr s.toks)) none none) s₁ := x₁
  clear x b₁
  -- octets
  refine wpAny_execs_cons (law_octets hh x₁ ms hsl hi hlen fun D s₂ x₂ fD l₂ => ?_)
  obtain ⟨octets, q, pd, hq, hq', hb⟩ := pad_ex _ ((script.take 6).map (· % 256)) (by rw [List.length_map]; exact List.length_take_le 6 script) rfl (by
    intro y hy
    obtain ⟨z, _, rfl⟩ := List.mem_map.mp hy
    omega)
  refine wpAny_execs_cons (law_while G (by omega) fD x₂ upd_same l₂ pd fun s₃ x₃ l₃ => ?_)
  -- places
  refine wpAny_execs_cons (law_places G hd hh hfr x₃ upd_same l₃ hq hq' hb fun P s₄ x₄ l₄ p₄ => ?_)
  refine wpAny_execs_cons (law_check G hd hh hu x₄ upd_same l₄ p₄ hq hq' hb fun s₅ x₅ p₅ => ?_)
  have pin := sixes_in hb q
  have plen := sixesTo_length octets q
  -- first
  refine wpAny_execs_cons (law_first G hh x₅ p₅ (by omega) pin fun D₆ s₆ first x₆ l₆ hF hFl fD₆ => ?_)
  refine wpAny_execs_cons (wpAny_Assign_Name (nL x₆.ns upd_same ?_) (by kernel_rfl))
  refine x₆.store (env := envL cd L a) (n := "family") fun s₇ b₇ x₇ => ?_
  have l₇ := x₆.sbl l₆ b₇
  -- the shifts
  refine wpAny_execs_cons (law_shifts G hd hh hfr hu x₇ ((upd_ne (by decide)).trans upd_same) upd_same l₇ hF hFl fun m₈ v₈ F S s₈ ch x₈ mfi mfa l1 l2 => ?_)
  have hS := ch.fam hF
  have hSl := ch.len
  have e := plain first S hF hFl ch
  -- the lengths
  have G₈ := G.at x₈
  refine wpAny_execs_cons (wpAny_If (wpAny_isTrue_Compare1 (Ev.use (li_lenE (Z := G₈.Z) G₈.W x₈.ns mfa l2 (by omega)) fun u tk => Ev.use (li_lenE (Z := G₈.Z) (G₈.W.keep fun _ _ e => e) x₈.ns mfi l1 (by omega)) fun u' tk' => ne_int (wpAny_truthy_bool ?_))))
  rw [show (((S.length : Nat) : Int) != ((first.length : Nat) : Int)) = false by rw [hSl]; exact bne_self_eq_false _]
  simp only [Bool.false_eq_true, if_false]
  refine wpAny_execs_nil ?_
  have x₉ : Lc s₀ L _ _ v₈ D₆ F first S m₈ { s₈ with toks := tk' } := ⟨x₈.toks _, mfi, mfa, l1, l2⟩
  refine wpAny_execs_cons (law_places_loop G hd hh x₉ hS e hFl fun v₁₀ m₁₀ s₁₀ x₁₀ => ?_)
  refine wpAny_execs_cons (wpAny_Assign_Name (cint ?_) (by kernel_rfl))
  refine (x₁₀.toks _).st (n := "parted") (by decide) (by decide) (by kernel_rfl) fun s₁₁ b₁₁ x₁₁ => ?_
  refine wpAny_execs_cons (law_parted G hd hh x₁₁ upd_same hFl fun m₁₂ s₁₂ t₁₂ x₁₂ mp₁₂ => ?_)
  exact wpAny_execs_cons (law_last G hd hh x₁₂ mp₁₂ hS (by omega) e.parted h)
end
end Mine

-- ================ LawC ================
namespace Mine

/-- a def of the program, as the head's fragment has it -/
def FnK (K : Frag) (k : Nat) (a : Addr) (df kd : Value) : Prop :=
  nsIn K mainGlobals (nmOf (stAt k)) = some (some (.ref a)) ∧ ∃ o pm c oc vs t, K.lookup a = some o ∧ o.data = .func (fdX (stAt k) df kd pm (.ref c)) ∧ K.lookup c = some oc ∧ oc.data = .fields vs ∧ vs[1]? = some (.str (nmOf (stAt k)) t)
def MtK (K : Frag) (i : Nat) (a : Addr) : Prop :=
  ∃ o pm c oc vs t, K.lookup a = some o ∧ o.data = .func (fdM (mtAt i) pm (.ref c)) ∧ K.lookup c = some oc ∧ oc.data = .fields vs ∧ vs[1]? = some (.str (Str.ofString "filterfalse." ++ nmOf (mtAt i)) t)

structure Kf (K : Frag) : Prop where
  C : Ck K
  weight : FnK K 16 114 .none .none
  sixes : FnK K 15 109 .none .none
  sld : FnK K 13 102 .none .none
  buffer : FnK K 6 72 .none .none
  truth : FnK K 7 79 .none .none
  b2a : FnK K 9 87 .none (.ref 80)
  b64 : FnK K 11 95 (.ref 88) .none
  flt : FnK K 4 65 .none .none
  m1 : MtK K 1 36
  m2 : MtK K 2 43
  m3 : MtK K 3 50
  dflt : ∃ o n, K.lookup 88 = some o ∧ o.data = .seq #[.none] n
  tab : ∃ b t, nsIn K mainGlobals "_B64" = some (some (.bytes b t)) ∧ KBw.bInts b = table64
  gff : nsIn K mainGlobals "filterfalse" = some (some (.ref 54))
  none_ : ∀ n ∈ (["sum", "iter", "next", "bool", "list", "IndexError", "len", "range", "type", "bytes", "sorted", "chr"] : List Str), nsIn K mainGlobals n = some none

section
variable {K : Frag} {h : Heap} {mg mb : Str → Option Value}
theorem FnK.is {k : Nat} {a : Addr} {df kd : Value} (x : FnK K k a df kd) (KX : K.In h) (g : h.Ns mainGlobals mg) : IsFn mg h k a df kd := by
  obtain ⟨e, o, pm, c, oc, vs, t, h1, h2, h3, h4, h5⟩ := x
  exact ⟨mg_of KX g e, o, pm, .ref c, KX _ _ h1, h2, c, oc, vs, t, rfl, KX _ _ h3, h4, h5⟩
theorem MtK.is {i : Nat} {a : Addr} (x : MtK K i a) (KX : K.In h) : IsMt h i a := by
  obtain ⟨o, pm, c, oc, vs, t, h1, h2, h3, h4, h5⟩ := x
  exact ⟨o, pm, .ref c, KX _ _ h1, h2, c, oc, vs, t, rfl, KX _ _ h3, h4, h5⟩

theorem gl_of (f : Kf K) (KX : K.In h) (g : h.Ns mainGlobals mg) (b : h.Ns builtinsNs mb) (lim : h.NoLimit) (hmb : ∀ x : Str, x ≠ "__name__" → mb x = bootBuiltins x) : Gl K mg mb h := by
  have gn := fun n hn => mg_none_of KX g (f.none_ n hn)
  refine ⟨f.C, KX, ⟨g, b, lim, f.weight.is KX g, f.sixes.is KX g, f.sld.is KX g, ?_, ?_, ?_, ?_, ?_, ?_, ?_, ?_, ?_, ?_, ?_, ?_⟩, ⟨?_, ?_, ?_, ?_⟩,
    ⟨f.buffer.is KX g, f.truth.is KX g, f.b2a.is KX g, f.b64.is KX g, ?_, ?_, ?_, ?_, ?_, ?_, ?_, ?_⟩, ⟨mg_of KX g f.gff, f.flt.is KX g, f.m1.is KX, f.m2.is KX, f.m3.is KX⟩, ?_, ?_, ?_, ?_⟩
  all_goals first
    | exact gn _ (by simp)
    | exact (hmb _ (by decide)).trans (by kernel_rfl)
    | skip
  · obtain ⟨o, n, h1, h2⟩ := f.dflt
    exact ⟨o, n, KX _ _ h1, h2⟩
  · obtain ⟨b, t, h1, h2⟩ := f.tab
    exact ⟨b, t, mg_of KX g h1, h2⟩
end

theorem law_entry {prog : Program} {w : World} {K : Frag} {s₁ : Shared} {mg mb m : Str → Option Value} {h₁ : Heap} {tk : Nat} {sl fa : Addr} {cd : Value} {vs : List Value} {script : List Int} {Q : Flow → Shared → Prop} {E : Value → Shared → Prop}
    (plain : PlainLaw) (f : Kf K) (KX : K.In s₁.heap) (g : s₁.heap.Ns mainGlobals mg) (b : s₁.heap.Ns builtinsNs mb) (lim : s₁.heap.NoLimit) (hmb : ∀ x : Str, x ≠ "__name__" → mb x = bootBuiltins x)
    (F : Fr s₁.heap s₁.heap.objs.size h₁ m) (ms : m "script" = some (.ref sl))
    (c1 : h₁.IsCell (s₁.heap.objs.size + 1) none) (c2 : h₁.IsCell (s₁.heap.objs.size + 2) none) (c3 : h₁.IsCell (s₁.heap.objs.size + 3) none)
    (hsl : s₁.heap.IsList sl vs.toArray) (hi : IntsAre vs script) (hlen : ¬ ((63 : Nat) : Int) < (script.length : Int))
    (h : ∀ h' tk', (∀ b o, s₁.heap.get? b = some o → h'.get? b = some o) → Q (.ret (.bool true)) { s₁ with heap := h', toks := tk' }) :
    wpAny (model prog w) (callerA.deeper (envL cd s₁.heap.objs.size fa)) (execs (bodyOf (stAt 17)) (envL cd s₁.heap.objs.size fa)) Q E { s₁ with heap := h₁, toks := tk } := by
  have k₁ : Keeps s₁ { s₁ with heap := h₁, toks := tk } := ⟨h₁, tk, rfl, F.keep⟩
  have fresh : ∀ n, s₁.heap.get? (s₁.heap.objs.size + n) = none := fun n => fresh_size (Nat.le_add_right _ _)
  have x : Lw s₁ [] s₁.heap.objs.size m (cells s₁.heap.objs.size none none none) { s₁ with heap := h₁, toks := tk } := by
    refine ⟨.of_kp k₁, F.ns, fun p hp => ?_, trivial, fresh 0, fun p hp => ?_⟩
    · simp only [cells, List.mem_cons, List.not_mem_nil, or_false] at hp
      rcases hp with rfl | rfl | rfl
      · exact c1
      · exact c2
      · exact c3
    · simp only [cells, List.mem_cons, List.not_mem_nil, or_false] at hp
      rcases hp with rfl | rfl | rfl <;> exact fresh _
  refine law_walk plain (gl_of f KX g b lim hmb) (by show callerA.depth + 1 + 20 < recursionLimit; decide) rfl rfl (by show callerA.units + 3 + 20 < cLine; decide) x ms hsl hi (by omega) fun s' k => ?_
  obtain ⟨h', tk', rfl, q, _⟩ := k
  exact h h' tk' fun b o e => q b o (by simp) e
end Mine

-- ================ M3 ================
namespace Mine

theorem things_cases {b : Int} (hb : b ∈ things) : b = 1 ∨ b = 2 ∨ b = 4 ∨ b = 8 ∨ b = 16 ∨ b = 32 := by
  simpa [things] using hb
theorem bit_add {b x : Int} (hb : b ∈ things) : bitOn b (x + b) = !bitOn b x := by
  rcases things_cases hb with rfl | rfl | rfl | rfl | rfl | rfl <;> simp only [bitOn] <;> rw [Bool.eq_iff_iff] <;> simp <;> omega
theorem bit_sub {b x : Int} (hb : b ∈ things) : bitOn b (x - b) = !bitOn b x := by
  rcases things_cases hb with rfl | rfl | rfl | rfl | rfl | rfl <;> simp only [bitOn] <;> rw [Bool.eq_iff_iff] <;> simp <;> omega
theorem add_ne_all : ∀ x : Fin 64, ∀ b ∈ things, ∀ c ∈ things, b ≠ c → bitOn b (x.val : Int) = false → bitOn c ((x.val : Int) + b) = bitOn c (x.val : Int) := by decide +kernel
theorem sub_ne_all : ∀ x : Fin 64, ∀ b ∈ things, ∀ c ∈ things, b ≠ c → bitOn b (x.val : Int) = true → bitOn c ((x.val : Int) - b) = bitOn c (x.val : Int) := by decide +kernel
theorem add_lt_all : ∀ x : Fin 64, ∀ b ∈ things, bitOn b (x.val : Int) = false → (x.val : Int) + b < 64 := by decide +kernel
theorem fin_of {x : Int} (h0 : 0 ≤ x) (h1 : x < 64) : ∃ y : Fin 64, x = (y.val : Int) := ⟨⟨x.toNat, by omega⟩, by simp; omega⟩
theorem bit_add_ne {b c x : Int} (h0 : 0 ≤ x) (h1 : x < 64) (hb : b ∈ things) (hc : c ∈ things) (hne : b ≠ c) (h : bitOn b x = false) : bitOn c (x + b) = bitOn c x := by
  obtain ⟨y, rfl⟩ := fin_of h0 h1
  exact add_ne_all y b hb c hc hne h
theorem bit_sub_ne {b c x : Int} (h0 : 0 ≤ x) (h1 : x < 64) (hb : b ∈ things) (hc : c ∈ things) (hne : b ≠ c) (h : bitOn b x = true) : bitOn c (x - b) = bitOn c x := by
  obtain ⟨y, rfl⟩ := fin_of h0 h1
  exact sub_ne_all y b hb c hc hne h
theorem bit_add_lt {b x : Int} (h0 : 0 ≤ x) (h1 : x < 64) (hb : b ∈ things) (h : bitOn b x = false) : x + b < 64 := by
  obtain ⟨y, rfl⟩ := fin_of h0 h1
  exact add_lt_all y b hb h
theorem bits_ext {x y : Int} (h0 : 0 ≤ x) (h1 : x < 64) (h0' : 0 ≤ y) (h1' : y < 64) (h : ∀ b ∈ things, bitOn b x = bitOn b y) : x = y := by
  have g : ∀ b ∈ things, x / b % 2 = y / b % 2 := by
    intro b hb
    have := h b hb
    simp only [bitOn] at this
    rw [Bool.eq_iff_iff] at this
    simp only [beq_iff_eq] at this
    have a := Int.emod_two_eq (x / b)
    have a' := Int.emod_two_eq (y / b)
    omega
  have g1 := g 1 (by decide)
  have g2 := g 2 (by decide)
  have g3 := g 4 (by decide)
  have g4 := g 8 (by decide)
  have g5 := g 16 (by decide)
  have g6 := g 32 (by decide)
  omega

-- ======== closed under taking away a bit ========
def Closed (b : Int) (S : List Int) : Prop := ∀ x ∈ S, bitOn b x = true → x - b ∈ S
theorem shift_closes {b : Int} {S M : List Int} (hb : b ∈ things) (sh : Shift b S M) : Closed b M := by
  intro x hx hbit
  rcases (sh.mem x).mp hx with ⟨h1, h2⟩ | ⟨h1, h2, h3⟩
  · have h4 : x - b ∈ S := Classical.byContradiction fun h => h2 ⟨hbit, h⟩
    refine (sh.mem _).mpr (.inl ⟨h4, fun h5 => ?_⟩)
    have := h5.1
    rw [bit_sub hb, hbit] at this
    cases this
  · rw [bit_add hb, hbit] at h3
    cases h3
theorem shift_keeps_closed {b c : Int} {S M : List Int} (hS : Fam S) (hb : b ∈ things) (hc : c ∈ things) (hne : b ≠ c) (sh : Shift b S M) (h : Closed c S) : Closed c M := by
  intro x hx hbit
  have hxM := sh.fam.within x hx
  have hxc := bit_ge hc hxM.1 hbit
  have hbc : bitOn b (x - c) = bitOn b x := bit_sub_ne hxM.1 hxM.2 hc hb (Ne.symm hne) hbit
  rcases (sh.mem x).mp hx with ⟨h1, h2⟩ | ⟨h1, h2, h3⟩
  · have h4 := h x h1 hbit
    refine (sh.mem _).mpr (.inl ⟨h4, fun h5 => ?_⟩)
    rw [hbc] at h5
    have h6 : x - b ∈ S := Classical.byContradiction fun h => h2 ⟨h5.1, h⟩
    have h7 : bitOn c (x - b) = true := by rw [bit_sub_ne hxM.1 hxM.2 hb hc hne h5.1]; exact hbit
    have h8 := h _ h6 h7
    exact h5.2 (by rw [show x - c - b = x - b - c by omega]; exact h8)
  · have hboff : bitOn b x = false := by rw [bit_add hb] at h3; simpa using h3
    have h4 : bitOn c (x + b) = true := by rw [bit_add_ne hxM.1 hxM.2 hb hc hne hboff]; exact hbit
    have h5 := h _ h2 h4
    have e : x + b - c = x - c + b := by omega
    rw [e] at h5
    by_cases h6 : x - c ∈ S
    · refine (sh.mem _).mpr (.inl ⟨h6, fun h7 => ?_⟩)
      rw [hbc, hboff] at h7
      cases h7.1
    · refine (sh.mem _).mpr (.inr ⟨h6, h5, ?_⟩)
      rw [bit_add hb, hbc, hboff]; rfl
theorem things_nodup {i j : Nat} {b c : Int} (hi : things[i]? = some b) (hj : things[j]? = some c) (hne : i ≠ j) : b ≠ c := by
  have li : i < 6 := (List.getElem?_eq_some_iff.mp hi).1
  have lj : j < 6 := (List.getElem?_eq_some_iff.mp hj).1
  have : ∀ (i j : Fin 6), i ≠ j → things[i.val]? ≠ things[j.val]? := by decide
  intro e
  subst e
  exact this ⟨i, li⟩ ⟨j, lj⟩ (fun q => hne (Fin.mk.inj q)) (hi.trans hj.symm)
theorem chain_closed {first : List Int} {i : Nat} {S : List Int} (x : Chain first i S) : ∀ j b, j < i → things[j]? = some b → Closed b S := by
  induction x with
  | zero => intro j b hj; omega
  | succ ch hb hf sh ih =>
    intro j c hj hc
    rename_i i S b M
    by_cases e : j = i
    · subst e
      rw [hb] at hc; cases hc
      exact shift_closes (List.mem_of_getElem? hb) sh
    · exact shift_keeps_closed hf (List.mem_of_getElem? hb) (List.mem_of_getElem? hc) (things_nodup hb hc (Ne.symm e)) sh (ih j c (by omega) hc)
theorem chain_down {first S : List Int} (x : Chain first 6 S) : ∀ b ∈ things, Closed b S := by
  intro b hb
  obtain ⟨j, hj, e⟩ := List.mem_iff_getElem.mp hb
  exact chain_closed x j b hj (List.getElem?_eq_some_iff.mpr ⟨hj, e⟩)

-- ======== shattering ========
def Sub (q p : Int) : Prop := ∀ b ∈ things, bitOn b q = true → bitOn b p = true
def Sh (S : List Int) (p : Int) : Prop := ∀ q, 0 ≤ q → q < 64 → Sub q p → ∃ o ∈ S, ∀ b ∈ things, bitOn b p = true → bitOn b o = bitOn b q
theorem sh_step {b p : Int} {S M : List Int} (hS : Fam S) (hb : b ∈ things) (sh : Shift b S M) (h : Sh M p) : Sh S p := by
  intro q q0 q1 hq
  cases hp : bitOn b p with
  | false =>
    obtain ⟨o, ho, ha⟩ := h q q0 q1 hq
    rcases (sh.mem o).mp ho with ⟨h1, _⟩ | ⟨h1, h2, h3⟩
    · exact ⟨o, h1, ha⟩
    · have hoM := sh.fam.within o ho
      have hoff : bitOn b o = false := by rw [bit_add hb] at h3; simpa using h3
      refine ⟨o + b, h2, fun c hc hcp => ?_⟩
      have hne : b ≠ c := fun e => by subst e; rw [hp] at hcp; cases hcp
      rw [bit_add_ne hoM.1 hoM.2 hb hc hne hoff]
      exact ha c hc hcp
  | true =>
    have key : ∀ q', 0 ≤ q' → q' < 64 → Sub q' p → bitOn b q' = true → ∃ o ∈ S, o - b ∈ S ∧ 0 ≤ o ∧ o < 64 ∧ bitOn b o = true ∧ ∀ c ∈ things, bitOn c p = true → bitOn c o = bitOn c q' := by
      intro q' h0 h1 hs hb'
      obtain ⟨o, ho, ha⟩ := h q' h0 h1 hs
      have hob : bitOn b o = true := (ha b hb hp).trans hb'
      have hoM := sh.fam.within o ho
      rcases (sh.mem o).mp ho with ⟨h1, h2⟩ | ⟨h1, h2, h3⟩
      · exact ⟨o, h1, Classical.byContradiction fun h => h2 ⟨hob, h⟩, hoM.1, hoM.2, hob, ha⟩
      · rw [bit_add hb, hob] at h3; cases h3
    cases hqb : bitOn b q with
    | true =>
      obtain ⟨o, ho, _, _, _, _, ha⟩ := key q q0 q1 hq hqb
      exact ⟨o, ho, ha⟩
    | false =>
      have hb0 := (things_pos hb).1
      have hs' : Sub (q + b) p := by
        intro c hc hcq
        by_cases e : b = c
        · subst e; exact hp
        · rw [bit_add_ne q0 q1 hb hc e hqb] at hcq
          exact hq c hc hcq
      obtain ⟨o, ho, hob, o0, o1, hon, ha⟩ := key (q + b) (by omega) (bit_add_lt q0 q1 hb hqb) hs' (by rw [bit_add hb, hqb]; rfl)
      refine ⟨o - b, hob, fun c hc hcp => ?_⟩
      by_cases e : b = c
      · subst e
        rw [bit_sub hb, hon, hqb]; rfl
      · rw [bit_sub_ne o0 o1 hb hc e hon, ha c hc hcp, bit_add_ne q0 q1 hb hc e hqb]
theorem sh_first {first : List Int} {i : Nat} {S : List Int} (x : Chain first i S) : ∀ p, Sh S p → Sh first p := by
  induction x with
  | zero => intro p h; exact h
  | succ ch hb hf sh ih => intro p h; exact ih p (sh_step hf (List.mem_of_getElem? hb) sh h)
theorem sub_mem {S : List Int} (hS : Fam S) (hd : ∀ b ∈ things, Closed b S) : ∀ (n : Nat) (p : Int), p.toNat = n → p ∈ S → ∀ q, 0 ≤ q → q < 64 → Sub q p → q ∈ S := by
  intro n
  induction n using Nat.strongRecOn with
  | ind n ih =>
    intro p hn hp q q0 q1 hq
    have hpw := hS.within p hp
    by_cases h : ∀ b ∈ things, bitOn b q = bitOn b p
    · rw [bits_ext q0 q1 hpw.1 hpw.2 h]; exact hp
    · have h' : ∃ b, b ∈ things ∧ bitOn b q ≠ bitOn b p := by
        refine Classical.byContradiction fun hc => h fun b hb => Classical.byContradiction fun hn => hc ⟨b, hb, hn⟩
      obtain ⟨b, hb, hne⟩ := h'
      have hqb : bitOn b q = false := by
        cases e : bitOn b q with
        | false => rfl
        | true => exact absurd ((e).trans (hq b hb e).symm) hne
      have hpb : bitOn b p = true := by
        cases e : bitOn b p with
        | true => rfl
        | false => exact absurd (hqb.trans e.symm) hne
      have hge := bit_ge hb hpw.1 hpb
      have hb0 := (things_pos hb).1
      refine ih (p - b).toNat (by omega) (p - b) rfl (hd b hb p hp hpb) q q0 q1 fun c hc hcq => ?_
      have hne' : b ≠ c := fun e => by subst e; rw [hqb] at hcq; cases hcq
      rw [bit_sub_ne hpw.1 hpw.2 hb hc hne' hpb]
      exact hq c hc hcq
theorem sh_down {S : List Int} (hS : Fam S) (hd : ∀ b ∈ things, Closed b S) {p : Int} (hp : p ∈ S) : Sh S p :=
  fun q q0 q1 hq => ⟨q, sub_mem hS hd _ p rfl hp q q0 q1 hq, fun _ _ _ => rfl⟩
end Mine

-- ================ M4 ================
namespace Mine

theorem bitOn_nat (n k : Nat) : bitOn ((2 ^ k : Nat) : Int) (n : Int) = n.testBit k := by
  rw [Nat.testBit_eq_decide_div_mod_eq]
  simp only [bitOn]
  rw [Bool.eq_iff_iff]
  simp only [beq_iff_eq, decide_eq_true_eq]
  omega
theorem things_pow {b : Int} (hb : b ∈ things) : ∃ k : Nat, b = ((2 ^ k : Nat) : Int) := by
  rcases things_cases hb with rfl | rfl | rfl | rfl | rfl | rfl
  · exact ⟨0, rfl⟩
  · exact ⟨1, rfl⟩
  · exact ⟨2, rfl⟩
  · exact ⟨3, rfl⟩
  · exact ⟨4, rfl⟩
  · exact ⟨5, rfl⟩
theorem and_nat (n m : Nat) : Builtin.bitAnd (n : Int) (m : Int) = ((n &&& m : Nat) : Int) := by
  unfold Builtin.bitAnd
  rw [show decide (0 ≤ ((n : Nat) : Int)) = true by simp, show decide (0 ≤ ((m : Nat) : Int)) = true by simp]
  simp only [Int.toNat_natCast]
theorem bit_and {b x y : Int} (hb : b ∈ things) (hx : 0 ≤ x) (hy : 0 ≤ y) : bitOn b (Builtin.bitAnd x y) = (bitOn b x && bitOn b y) := by
  obtain ⟨k, rfl⟩ := things_pow hb
  obtain ⟨n, rfl⟩ := Int.eq_ofNat_of_zero_le hx
  obtain ⟨m, rfl⟩ := Int.eq_ofNat_of_zero_le hy
  rw [and_nat, bitOn_nat, bitOn_nat, bitOn_nat, Nat.testBit_and]
theorem and_in {x y : Int} (hx : 0 ≤ x) (hy : 0 ≤ y) : 0 ≤ Builtin.bitAnd x y ∧ Builtin.bitAnd x y ≤ y := by
  obtain ⟨n, rfl⟩ := Int.eq_ofNat_of_zero_le hx
  obtain ⟨m, rfl⟩ := Int.eq_ofNat_of_zero_le hy
  rw [and_nat]
  have := Nat.and_le_right (n := n) (m := m)
  omega

-- ======== the traces ========
theorem tr_nodup (p : Int) : ∀ (xs acc : List Int), acc.Nodup → (xs.foldl (trStep p) acc).Nodup
  | [], acc, h => h
  | x :: r, acc, h => by
    rw [List.foldl_cons]
    refine tr_nodup p r _ ?_
    unfold trStep
    split
    · exact h
    · rename_i hn
      rw [List.nodup_append]
      exact ⟨h, by simp, fun a ha b hb e => hn (by rw [List.mem_singleton.mp hb] at e; exact e ▸ ha)⟩
theorem tr_mem (p q : Int) : ∀ (xs acc : List Int), q ∈ xs.foldl (trStep p) acc ↔ q ∈ acc ∨ ∃ o ∈ xs, Builtin.bitAnd o p = q
  | [], acc => by simp
  | x :: r, acc => by
    rw [List.foldl_cons, tr_mem p q r]
    have : q ∈ trStep p acc x ↔ q ∈ acc ∨ Builtin.bitAnd x p = q := by
      unfold trStep
      split
      · rename_i h
        exact ⟨.inl, fun h' => h'.elim id fun e => e ▸ h⟩
      · rw [List.mem_append, List.mem_singleton]
        exact ⟨fun h => h.elim .inl fun e => .inr e.symm, fun h => h.elim .inl fun e => .inr e.symm⟩
    rw [this]
    simp only [List.mem_cons, exists_eq_or_imp, or_assoc]
def subs (p : Int) : List Int := (upTo 64).filter fun q => Builtin.bitAnd q p == q
theorem subs_count : ∀ p : Fin 64, ((subs (p.val : Int)).length : Int) = 2 ^ (wt (p.val : Int)).toNat := by decide +kernel
theorem upTo_nodup (n : Nat) : (upTo n).Nodup := by
  unfold upTo
  rw [List.nodup_iff_pairwise_ne, List.pairwise_map]
  exact List.pairwise_lt_range.imp fun h => by omega
theorem upTo_mem {n : Nat} {x : Int} : x ∈ upTo n ↔ 0 ≤ x ∧ x < n := by
  unfold upTo
  rw [List.mem_map]
  constructor
  · rintro ⟨k, hk, rfl⟩
    have := List.mem_range.mp hk
    omega
  · rintro ⟨h0, h1⟩
    exact ⟨x.toNat, List.mem_range.mpr (by omega), by omega⟩
theorem traces_count {first : List Int} {p : Int} (hF : Fam first) (p0 : 0 ≤ p) (p1 : p < 64) (sh : Sh first p) : ((traces first p).length : Int) = 2 ^ (wt p).toNat := by
  have hm : ∀ q, q ∈ traces first p ↔ q ∈ subs p := by
    intro q
    unfold traces subs
    rw [tr_mem, List.mem_filter, upTo_mem, beq_iff_eq]
    constructor
    · rintro (h | ⟨o, ho, rfl⟩)
      · cases h
      · have hw := hF.within o ho
        have hi := and_in hw.1 p0
        refine ⟨⟨hi.1, by omega⟩, ?_⟩
        have hi2 := and_in hi.1 p0
        refine bits_ext hi2.1 (by omega) hi.1 (by omega) fun b hb => ?_
        rw [bit_and hb hi.1 p0, bit_and hb hw.1 p0]
        cases bitOn b o <;> cases bitOn b p <;> rfl
    · rintro ⟨⟨h0, h1⟩, h2⟩
      have hsub : Sub q p := by
        intro b hb hq
        rw [← h2, bit_and hb h0 p0] at hq
        simp only [Bool.and_eq_true] at hq
        exact hq.2
      obtain ⟨o, ho, ha⟩ := sh q h0 (by omega) hsub
      have hw := hF.within o ho
      have hi := and_in hw.1 p0
      refine .inr ⟨o, ho, bits_ext hi.1 (by omega) h0 (by omega) fun b hb => ?_⟩
      rw [bit_and hb hw.1 p0]
      cases hp : bitOn b p with
      | true => rw [ha b hb hp]; simp
      | false =>
        cases hq : bitOn b q with
        | false => simp
        | true => rw [hsub b hb hq] at hp; cases hp
  have hperm : (traces first p).Perm (subs p) := (List.perm_ext_iff_of_nodup (tr_nodup p first [] .nil) ((upTo_nodup 64).filter _)).mpr hm
  rw [hperm.length_eq]
  obtain ⟨y, rfl⟩ := fin_of p0 p1
  exact subs_count y
end Mine

-- ================ M5 ================
namespace Mine

def ind (P : Prop) [Decidable P] : Int := if P then 1 else 0
theorem ind_nonneg (P : Prop) [Decidable P] : 0 ≤ ind P := by unfold ind; split <;> omega
theorem ind_le {P Q : Prop} [Decidable P] [Decidable Q] (h : P → Q) : ind P ≤ ind Q := by
  unfold ind
  by_cases hp : P
  · rw [if_pos hp, if_pos (h hp)]; exact Int.le_refl _
  · rw [if_neg hp]; split <;> omega
def sum6 (g : Int → Int) : Int := (things.map g).sum
theorem sum6_le {f g : Int → Int} (h : ∀ c ∈ things, f c ≤ g c) : sum6 f ≤ sum6 g := by
  unfold sum6 things
  simp only [List.map_cons, List.map_nil, List.sum_cons, List.sum_nil]
  have h1 := h 1 (by decide)
  have h2 := h 2 (by decide)
  have h3 := h 4 (by decide)
  have h4 := h 8 (by decide)
  have h5 := h 16 (by decide)
  have h6 := h 32 (by decide)
  omega
theorem sum6_swap (g : Int → Int → Int) : ∀ l : List Int, (l.map (fun y => sum6 (fun c => g c y))).sum = sum6 (fun c => (l.map (g c)).sum)
  | [] => by simp [sum6, things]
  | x :: r => by
    rw [List.map_cons, List.sum_cons, sum6_swap g r]
    unfold sum6 things
    simp only [List.map_cons, List.map_nil, List.sum_cons, List.sum_nil]
    omega
theorem sum_le {f g : Int → Int} : ∀ {l : List Int}, (∀ x ∈ l, f x ≤ g x) → (l.map f).sum ≤ (l.map g).sum
  | [], _ => Int.le_refl _
  | x :: r, h => by
    rw [List.map_cons, List.map_cons, List.sum_cons, List.sum_cons]
    have := h x List.mem_cons_self
    have := sum_le (l := r) fun y hy => h y (List.mem_cons_of_mem _ hy)
    omega
theorem perm_sum {l₁ l₂ : List Int} (h : l₁.Perm l₂) : l₁.sum = l₂.sum := by
  induction h with
  | nil => rfl
  | cons x _ ih => rw [List.sum_cons, List.sum_cons, ih]
  | swap x y l => simp only [List.sum_cons]; omega
  | trans _ _ ih1 ih2 => exact ih1.trans ih2
theorem regroup_perm : ∀ b ∈ things, (upTo 64).isPerm (((upTo 64).filter fun y => !bitOn b y).flatMap fun y => [y, y + b]) = true := by decide +kernel
theorem flat_sum (f : Int → Int) (b : Int) : ∀ l : List Int, ((l.flatMap fun y => [y, y + b]).map f).sum = (l.map fun y => f y + f (y + b)).sum
  | [] => rfl
  | x :: r => by
    rw [List.flatMap_cons, List.map_append, List.sum_append, flat_sum f b r, List.map_cons, List.sum_cons]
    simp
theorem regroup {b : Int} (hb : b ∈ things) (f : Int → Int) : ((upTo 64).map f).sum = (((upTo 64).filter fun y => !bitOn b y).map fun y => f y + f (y + b)).sum := by
  rw [← flat_sum]
  exact perm_sum ((List.isPerm_iff.mp (regroup_perm b hb)).map f)

/-- the pairs of S that differ in the place c alone -/
def Ed (c : Int) (S : List Int) : Int := ((upTo 64).map fun y => ind (bitOn c y = true ∧ y ∈ S ∧ y - c ∈ S)).sum

theorem mem_off {b u : Int} {S M : List Int} (hb : b ∈ things) (sh : Shift b S M) (h : bitOn b u = false) : u ∈ M ↔ u ∈ S ∨ u + b ∈ S := by
  rw [sh.mem]
  unfold Dmem
  rw [bit_add hb, h]
  by_cases h1 : u ∈ S <;> simp [h1]
theorem mem_on {b u : Int} {S M : List Int} (hb : b ∈ things) (sh : Shift b S M) (h : bitOn b u = false) : u + b ∈ M ↔ u ∈ S ∧ u + b ∈ S := by
  rw [sh.mem]
  unfold Dmem
  have e1 := bit_add (x := u) hb
  have e2 := bit_add (x := u + b) hb
  rw [h] at e1
  rw [e1] at e2
  rw [e1, e2, Int.add_sub_cancel]
  by_cases h1 : u ∈ S <;> by_cases h2 : u + b ∈ S <;> simp [h1, h2]

theorem ed_mono {b c : Int} {S M : List Int} (hS : Fam S) (hb : b ∈ things) (hc : c ∈ things) (sh : Shift b S M) : Ed c S ≤ Ed c M := by
  by_cases hne : b = c
  · subst hne
    refine sum_le fun y hy => ind_le ?_
    rintro ⟨h1, h2, h3⟩
    have hoff : bitOn b (y - b) = false := by rw [bit_sub hb, h1]; rfl
    refine ⟨h1, ?_, ?_⟩
    · have := (mem_on hb sh hoff).mpr ⟨h3, by rw [Int.sub_add_cancel]; exact h2⟩
      rwa [Int.sub_add_cancel] at this
    · exact (mem_off hb sh hoff).mpr (.inl h3)
  · unfold Ed
    rw [regroup hb, regroup hb]
    refine sum_le fun y hy => ?_
    obtain ⟨hy1, hy2⟩ := List.mem_filter.mp hy
    obtain ⟨y0, y1⟩ := upTo_mem.mp hy1
    have hoff : bitOn b y = false := by simpa using hy2
    have e1 : bitOn c (y + b) = bitOn c y := bit_add_ne y0 (by omega) hb hc hne hoff
    have e2 : y + b - c = y - c + b := by omega
    rw [e1, e2]
    cases hcy : bitOn c y with
    | false => simp [ind]
    | true =>
      have hoff' : bitOn b (y - c) = false := by rw [bit_sub_ne y0 (by omega) hc hb (Ne.symm hne) hcy]; exact hoff
      have m1 := mem_off hb sh hoff
      have m2 := mem_on hb sh hoff
      have m3 := mem_off hb sh hoff'
      have m4 := mem_on hb sh hoff'
      unfold ind
      simp only [m1, m2, m3, m4]
      by_cases a1 : y ∈ S <;> by_cases a2 : y + b ∈ S <;> by_cases a3 : y - c ∈ S <;> by_cases a4 : y - c + b ∈ S <;> simp [a1, a2, a3, a4]
theorem ed_chain {first : List Int} {i : Nat} {S : List Int} {c : Int} (hc : c ∈ things) (x : Chain first i S) : Ed c first ≤ Ed c S := by
  induction x with
  | zero => exact Int.le_refl _
  | succ ch hb hf sh ih => exact Int.le_trans ih (ed_mono hf (List.mem_of_getElem? hb) hc sh)

theorem fam_filter {S : List Int} (hS : Fam S) : S = (upTo 64).filter fun y => decide (y ∈ S) := by
  refine sorted_ext hS.sorted (List.Pairwise.filter _ ?_) fun a => ?_
  · unfold upTo
    rw [List.pairwise_map]
    exact List.pairwise_lt_range.imp fun h => by omega
  · rw [List.mem_filter, upTo_mem, decide_eq_true_eq]
    exact ⟨fun h => ⟨hS.within a h, h⟩, fun h => h.2⟩
theorem sum_filter (p : Int → Bool) (g : Int → Int) : ∀ l : List Int, ((l.filter p).map g).sum = (l.map fun y => if p y = true then g y else 0).sum
  | [] => rfl
  | x :: r => by
    cases h : p x with
    | true => rw [List.filter_cons_of_pos h, List.map_cons, List.map_cons, List.sum_cons, List.sum_cons, sum_filter p g r, if_pos h]
    | false => rw [List.filter_cons_of_neg (by simp [h]), List.map_cons, List.sum_cons, sum_filter p g r, if_neg (by simp [h])]; omega
theorem ed_sum {S : List Int} (hS : Fam S) (c : Int) : (S.map fun x => ind (bitOn c x = true ∧ x - c ∈ S)).sum = Ed c S := by
  have e : (S.map fun x => ind (bitOn c x = true ∧ x - c ∈ S)).sum = (((upTo 64).filter fun y => decide (y ∈ S)).map fun x => ind (bitOn c x = true ∧ x - c ∈ S)).sum := by
    rw [← fam_filter hS]
  rw [e, sum_filter]
  unfold Ed
  congr 1
  refine List.map_congr_left fun y hy => ?_
  unfold ind
  by_cases h1 : y ∈ S <;> by_cases h2 : bitOn c y = true <;> by_cases h3 : y - c ∈ S <;> simp [h1, h2, h3]

theorem wt_ge {S : List Int} (x : Int) : sum6 (fun c => ind (bitOn c x = true ∧ x - c ∈ S)) ≤ wt x := by
  refine sum6_le fun c hc => ?_
  unfold ind
  have h2 := Int.emod_two_eq (x / c)
  split
  · rename_i h
    have := h.1
    simp only [bitOn, beq_iff_eq] at this
    omega
  · omega

-- ======== the count of the pairs ========
theorem edge_all : ∀ x y : Fin 64, y.val < x.val → isEdge (x.val : Int) (y.val : Int) = true → ∃ c ∈ things, bitOn c (x.val : Int) = true ∧ (y.val : Int) = (x.val : Int) - c := by decide +kernel
theorem one_le {P : Prop} [Decidable P] {k : Int} : ∀ {l l' : List Int}, l.Nodup → (∀ y ∈ l, y ∈ l') → (l.map fun y => ind (P ∧ y = k)).sum ≤ ind (P ∧ k ∈ l') := by
  intro l
  induction l with
  | nil => intro l' _ _; exact ind_nonneg _
  | cons x r ih =>
    intro l' hn hs
    rw [List.nodup_cons] at hn
    rw [List.map_cons, List.sum_cons]
    by_cases hx : P ∧ x = k
    · have hz : (r.map fun y => ind (P ∧ y = k)).sum = 0 := by
        have : ∀ y ∈ r, ind (P ∧ y = k) = 0 := fun y hy => if_neg fun h => hn.1 (by rw [hx.2, ← h.2]; exact hy)
        rw [List.map_congr_left this]
        clear ih hn hs this
        induction r with
        | nil => rfl
        | cons _ _ ih => simpa using ih
      rw [hz]
      unfold ind
      rw [if_pos hx, if_pos ⟨hx.1, hx.2 ▸ hs x List.mem_cons_self⟩]
      omega
    · have := ih hn.2 fun y hy => hs y (List.mem_cons_of_mem _ hy)
      have e : ind (P ∧ x = k) = 0 := if_neg hx
      omega
theorem partIn_sum {first : List Int} {i : Nat} : ∀ j, j ≤ first.length → partIn first i j = ((first.take j).map fun y => ind (isEdge (first.getD i 0) y = true)).sum
  | 0, _ => by simp [partIn]
  | j + 1, h => by
    rw [partIn, partIn_sum j (by omega), take_succ_some (getD_some (xs := first) (k := j) (by omega)), List.map_append, List.sum_append]
    simp [ind]
theorem partIn_le {first : List Int} (hF : Fam first) {i : Nat} (hi : i < first.length) : partIn first i i ≤ sum6 (fun c => ind (bitOn c (first.getD i 0) = true ∧ first.getD i 0 - c ∈ first)) := by
  rw [partIn_sum i (by omega)]
  have hx := getD_some hi
  generalize first.getD i 0 = x at *
  have hxw := hF.within x (List.mem_of_getElem? hx)
  refine Int.le_trans (sum_le (g := fun y => sum6 (fun c => ind (bitOn c x = true ∧ y = x - c))) fun y hy => ?_) ?_
  · have hyw := hF.within y (List.mem_of_mem_take hy)
    have hlt : y < x := by
      obtain ⟨k, hk, e⟩ := List.mem_take_iff_getElem.mp hy
      have hkl : k < first.length := by omega
      have := List.pairwise_iff_getElem.mp hF.sorted k i hkl hi (by omega)
      rw [e] at this
      rw [List.getElem?_eq_getElem hi] at hx
      cases hx
      exact this
    unfold ind
    split
    · rename_i he
      obtain ⟨x', rfl⟩ := fin_of hxw.1 hxw.2
      obtain ⟨y', rfl⟩ := fin_of hyw.1 hyw.2
      obtain ⟨c, hc, h1, h2⟩ := edge_all x' y' (by omega) he
      have nn : ∀ c : Int, (0 : Int) ≤ (if bitOn c (x'.val : Int) = true ∧ (y'.val : Int) = (x'.val : Int) - c then 1 else 0) := fun c => by split <;> omega
      have hone : (if bitOn c (x'.val : Int) = true ∧ (y'.val : Int) = (x'.val : Int) - c then (1 : Int) else 0) = 1 := if_pos ⟨h1, h2⟩
      unfold sum6 things
      simp only [List.map_cons, List.map_nil, List.sum_cons, List.sum_nil]
      have n1 := nn 1
      have n2 := nn 2
      have n3 := nn 4
      have n4 := nn 8
      have n5 := nn 16
      have n6 := nn 32
      rcases things_cases hc with rfl | rfl | rfl | rfl | rfl | rfl <;> omega
    · have : sum6 (fun _ => 0) ≤ sum6 (fun c => if bitOn c x = true ∧ y = x - c then 1 else 0) := sum6_le fun c _ => by split <;> omega
      have e : sum6 (fun _ => 0) = 0 := by decide
      rw [e] at this
      exact this
  · rw [sum6_swap (fun c y => ind (bitOn c x = true ∧ y = x - c))]
    refine sum6_le fun c _ => ?_
    exact one_le ((nodup_of_lt hF.sorted).sublist (List.take_sublist _ _)) fun y hy => List.mem_of_mem_take hy
theorem partTo_le {first : List Int} (hF : Fam first) : ∀ n, n ≤ first.length → partTo first n ≤ ((first.take n).map fun x => sum6 (fun c => ind (bitOn c x = true ∧ x - c ∈ first))).sum
  | 0, _ => by simp [partTo]
  | n + 1, h => by
    rw [partTo, take_succ_some (getD_some (xs := first) (k := n) (by omega)), List.map_append, List.sum_append]
    have h1 := partTo_le hF n (by omega)
    have h2 := partIn_le hF (i := n) (by omega)
    simp only [List.map_cons, List.map_nil, List.sum_cons, List.sum_nil]
    omega

theorem parted_le {first S : List Int} (hF : Fam first) (hS : Fam S) (x : Chain first 6 S) : partTo first first.length ≤ (S.map wt).sum := by
  have h1 := partTo_le hF first.length (Nat.le_refl _)
  rw [List.take_length, sum6_swap (fun c x => ind (bitOn c x = true ∧ x - c ∈ first))] at h1
  refine Int.le_trans h1 (Int.le_trans (sum6_le fun c hc => ?_) (Int.le_trans (Int.le_of_eq (sum6_swap (fun c x => ind (bitOn c x = true ∧ x - c ∈ S)) S).symm) (sum_le fun y _ => wt_ge y)))
  rw [ed_sum hF, ed_sum hS]
  exact ed_chain hc x

theorem plain_law : PlainLaw := fun first S hF _ x => by
  have hS := x.fam hF
  have hd := chain_down x
  refine ⟨fun p hp b hb h => hd b hb p hp h, fun p hp => ?_, parted_le hF hS x⟩
  have hw := hS.within p hp
  exact traces_count hF hw.1 hw.2 (sh_first x p (sh_down hS hd hp))
end Mine

set_option maxRecDepth 100000 in
set_option maxHeartbeats 8000000 in
theorem PySem.Challenge.cw_ik0173_01_holds : PySem.Challenge.rw_ik0173_01.Holds := by
  w_on; o_law; k_head; (case hw => w_witness2)
  w_strict (
    k_go0; (all_goals try k_fold)
    rename Top _ _ _ _ _ _ => T
    rename Frag.In _ _ => KX
    rename Fr _ _ _ _ => F
    rename News _ _ _ _ => N0
    rename Heap.IsList _ _ _ => hL
    rename IntsAre _ _ => hI
    rename _ = #[] => hgens
    rename ¬ _ < _ => hlen
    refine Mine.law_entry Mine.plain_law ?kf KX T.g T.b T.nolimit T.builtins F (by kernel_rfl) ?c1 ?c2 ?c3 hL hI hlen ?fin
    case c1 => exact ⟨_, (N0 _ (.tail _ (.tail _ (.head _)))).1, by assumption⟩
    case c2 => exact ⟨_, (N0 _ (.tail _ (.head _))).1, by assumption⟩
    case c3 => exact ⟨_, (N0 _ (.head _)).1, by assumption⟩
    case kf =>
      refine ⟨?_, ?_, ?_, ?_, ?_, ?_, ?_, ?_, ?_, ?_, ?_, ?_, ?_, ?_, ?_, ?_⟩
      · constructor <;> kernel_rfl
      · exact ⟨by kernel_rfl, _, _, _, _, _, _, rfl, rfl, rfl, rfl, rfl⟩
      · exact ⟨by kernel_rfl, _, _, _, _, _, _, rfl, rfl, rfl, rfl, rfl⟩
      · exact ⟨by kernel_rfl, _, _, _, _, _, _, rfl, rfl, rfl, rfl, rfl⟩
      · exact ⟨by kernel_rfl, _, _, _, _, _, _, rfl, rfl, rfl, rfl, rfl⟩
      · exact ⟨by kernel_rfl, _, _, _, _, _, _, rfl, rfl, rfl, rfl, rfl⟩
      · exact ⟨by kernel_rfl, _, _, _, _, _, _, rfl, rfl, rfl, rfl, rfl⟩
      · exact ⟨by kernel_rfl, _, _, _, _, _, _, rfl, rfl, rfl, rfl, rfl⟩
      · exact ⟨by kernel_rfl, _, _, _, _, _, _, rfl, rfl, rfl, rfl, rfl⟩
      · exact ⟨_, _, _, _, _, _, rfl, rfl, rfl, rfl, rfl⟩
      · exact ⟨_, _, _, _, _, _, rfl, rfl, rfl, rfl, rfl⟩
      · exact ⟨_, _, _, _, _, _, rfl, rfl, rfl, rfl, rfl⟩
      · exact ⟨_, _, rfl, rfl⟩
      · exact ⟨_, _, rfl, by kernel_rfl⟩
      · kernel_rfl
      · intro n hn
        simp only [List.mem_cons, List.not_mem_nil, or_false] at hn
        rcases hn with rfl | rfl | rfl | rfl | rfl | rfl | rfl | rfl | rfl | rfl | rfl | rfl <;> kernel_rfl
    case fin =>
      intro h' tk' hk
      show GoodW _ _ _ _ _ (.ok (.ret (.bool true))) _
      exact ⟨.inl ⟨.bool true, .bool true, [], rfl, raisesW_false allW_false_nil, .bool true, postW_of (by wrow_shape) (by wtm_val) (by w_fin), fun _ => ⟨.nil, fun a ha => nomatch ha⟩⟩, hk, rfl, hgens⟩)
