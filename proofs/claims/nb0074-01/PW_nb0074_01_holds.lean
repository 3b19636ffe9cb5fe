import PyProof.Rows.All
import Wide.All
import OpenK.AllK
import Wide.FinOn
import PySem.Challenge.RW_nb0074_01
open PySem PySem.W PyProof.Rows
set_option Elab.async false
set_option maxRecDepth 100000
set_option maxHeartbeats 0
namespace Mine
open_top hd for PySem.Challenge.rw_nb0074_01
theorem steps_off : True := by
  w_top off
  trivial
end Mine

namespace Mine
open PySem PySem.W PyProof.Rows
def Ext (h h' : Heap) : Prop := ∀ b o, h.get? b = some o → h'.get? b = some o
theorem fd2 (a : Int) : Int.fdiv a 2 = a / 2 := Int.fdiv_eq_ediv_of_nonneg _ (by decide)
theorem fm2 (a : Int) : Int.fmod a 2 = a % 2 := Int.fmod_eq_emod_of_nonneg _ (by decide)
theorem fdp (a : Int) (k : Nat) : Int.fdiv a (2 ^ k) = a / 2 ^ k := Int.fdiv_eq_ediv_of_nonneg _ (Int.le_of_lt (Int.pow_pos (by decide)))
theorem fmp (a : Int) (k : Nat) : Int.fmod a (2 ^ k) = a % 2 ^ k := Int.fmod_eq_emod_of_nonneg _ (Int.le_of_lt (Int.pow_pos (by decide)))
theorem Ext.refl (h : Heap) : Ext h h := fun _ _ e => e
theorem Ext.trans {a b c : Heap} (x : Ext a b) (y : Ext b c) : Ext a c := fun p o e => y p o (x p o e)
section
variable {prog : Program} {w : World} {A : Around} {E : Value → Shared → Prop} {s : Shared} {env : Env} {h₀ : Heap} {x : Str} {body : List Stmt} {Q : Flow → Shared → Prop}
theorem iter_rangeJ {r : Addr} {a₀ b₀ : Int} {t₀ u₀ v₀ : Tok} {n : Nat} {m₀ : Str → Option Value} {news : List (Addr × Obj)} (K : (Str → Option Value) → List (Addr × Obj) → Nat → (Str → Option Value) → List (Addr × Obj) → Prop)
    (hh : A.handled = none) (hr : IsRange s.heap r a₀ b₀ 1 t₀ u₀ v₀) (hsmall : Builtin.Range.small a₀ b₀ 1 = true) (hn : Builtin.Range.rangeSize a₀ b₀ 1 = (n : Int)) (F : Fr h₀ env.locals s.heap m₀) (N : News h₀ env.locals s.heap news) (hj : K m₀ news 0 m₀ news)
    (turn : ∀ i t m₁ news₁ h tk own, i < n → news₁.map (·.1) = news.map (·.1) → OwnOff own (news.map (·.1)) → K m₀ news i m₁ news₁ → Fr h₀ env.locals h (fun y => if y = x then some (.int (a₀ + (i : Int)) t) else m₁ y) → News h₀ env.locals h (news₁ ++ own) →
      wpAny (model prog w) A (execs body env) (InvPostN h₀ env.locals (K m₀ news (i + 1)) own (news.map (·.1)) { s with heap := h, toks := tk } Q) E { s with heap := h, toks := tk })
    (done : ∀ m₁ news₁ h tk, news₁.map (·.1) = news.map (·.1) → K m₀ news n m₁ news₁ → Fr h₀ env.locals h m₁ → News h₀ env.locals h news₁ → Q .next { s with heap := h, toks := tk }) :
    wpAny (model prog w) A (pyIter (.ref r)) (fun it s₂ => LoopAtV prog w A h₀ env x body Q E it s₂) E s := by
  refine wpAny_pyIter_range hr hsmall ?_
  refine loop_invN (fun i m₁ nx => nx.map (·.1) = news.map (·.1) ∧ K m₀ news i m₁ nx) (Walks.range hh s.heap.objs.size a₀ 1 n).bound ?_ ?_ ?_ ?_ (by show IsRangeIter _ _ _ _ _; rw [hn]; simpa using Heap.get?_push_size _ rfl) (F.push _) (fun p hp => ⟨Heap.get?_push_of_some _ (N p hp).1, (N p hp).2⟩) ⟨rfl, hj⟩ ?_ (fun m₁ nx h tk hJ => done m₁ nx h tk hJ.1 hJ.2)
  · intro hm; exact absurd F.ns.lt ((List.mem_singleton.mp hm) ▸ Nat.lt_irrefl _)
  · intro b hb; rw [List.mem_singleton.mp hb]; exact next_is_new F
  · intro p hp hI; exact absurd (Heap.lt_size (N p hp).1) ((List.mem_singleton.mp hI) ▸ Nat.lt_irrefl _)
  · intro p hp hI; exact absurd (Heap.lt_size (N p hp).1) ((List.mem_singleton.mp hI) ▸ Nat.lt_irrefl _)
  · rintro i v m₁ news₁ h tk own hi ⟨_, t, rfl⟩ hadr hoff hJ F₁ N₁
    rw [Int.mul_one] at F₁
    refine wpAny_mono (turn i t m₁ news₁ h tk own hi hadr hoff hJ.2 F₁ N₁) (fun f s₂ p => ?_) fun _ _ e => e
    have fin : InvEndN h₀ env.locals (K m₀ news (i + 1)) own (news.map (·.1)) { s with heap := h, toks := tk } s₂ → InvEndN h₀ env.locals (fun m₁ nx => nx.map (·.1) = news.map (·.1) ∧ K m₀ news (i + 1) m₁ nx) own (news.map (·.1)) { s with heap := h, toks := tk } s₂ := by
      rintro ⟨h', tk, m', news', nx, e, F', N', hn, ho, ha, hm⟩
      exact ⟨h', tk, m', news', nx, e, F', N', hn, ho, ha, ha, hm⟩
    cases f with
    | ret v => exact p
    | brk => exact p
    | next => exact fin p
    | cont => exact fin p
theorem over_self {stored : List Str} {m' r : Str → Option Value} (h : ∀ y, stored.contains y = false → m' y = r y) : m' = fun y => if stored.contains y = true then m' y else r y := by
  funext y
  cases q : stored.contains y with
  | true => simp
  | false => simpa using h y q
theorem ne_of_contains {stored : List Str} {y z : Str} (h : stored.contains y = false) (hz : stored.contains z = true) : y ≠ z := by
  rintro rfl; rw [h] at hz; cases hz
theorem shadow {x : Str} {a b : Option Value} {c : Str → Option Value} : (fun y => if y = x then a else if y = x then b else c y) = fun y => if y = x then a else c y := by
  funext y; by_cases h : y = x <;> simp [h]
theorem unshadow {x : Str} {c : Str → Option Value} : c = fun y => if y = x then c x else c y := by
  funext y; by_cases h : y = x <;> simp [h]
end
section
variable {prog : Program} {w : World} {A : Around} {E : Value → Shared → Prop} {s : Shared}
theorem item_at {value slice : PySem.Expr} {l : Addr} {vs : List Value} {k : Int} {u : Tok} {v : Value} {Q : Value → Shared → Prop}
    (hl : s.heap.IsList l vs.toArray) (h0 : 0 ≤ k) (hhi : k < 2 ^ 63) (hx : vs[k.toNat]? = some v) (h : Q v s)
    (hs : subscripted slice false (.ref l) (.int k u) = operate [.ref l, .int k u] (getItem (.ref l) (.int k u)) := by with_unfolding_all rfl) :
    wpAny (model prog w) A (subscriptTail value slice (.ref l) (.int k u)) Q E s :=
  tail_any hl.typeIs slot_list_getitem.lookup (wpAny_getItem_list hl h0 hhi (by simpa using hx) h) hs
end
section
variable {prog : Program} {w : World} {A : Around} {E : Value → Shared → Prop} {Q : Flow → Shared → Prop} {s : Shared} {env : Env} {h₀ : Heap} {L : Addr}
theorem While_invK {test : PySem.Expr} {body : List Stmt} {pos : Pos} {m : Str → Option Value} {news : List (Addr × Obj)} (K : (Str → Option Value) → List (Addr × Obj) → Nat → (Str → Option Value) → List (Addr × Obj) → Prop) {n₀ : Nat}
    (F : Fr h₀ L s.heap m) (N : News h₀ L s.heap news) (hJ : K m news n₀ m news)
    (turn : ∀ n m₁ news₁ h₁ tk₁, Fr h₀ L h₁ m₁ → News h₀ L h₁ news₁ → K m news n m₁ news₁ →
      wpAny (model prog w) A (isTrue test env (eval test env)) (fun b s₂ =>
        if b = true then wpAny (model prog w) A (execs body env) (WhileStep h₀ L s (K m news) n) E s₂ else Q .next s₂) E { s with heap := h₁, toks := tk₁ })
    (hE : PassesOwn (model prog w) A env E := by passes_own) :
    wpAny (model prog w) A (exec (.While test body [] pos) env) Q E s := While_inv (K m news) F N hJ turn hE
theorem iter_listK {x : Str} {body : List Stmt} {l : Addr} {vs : List Value} {ns : List Int} {m₀ : Str → Option Value} {news : List (Addr × Obj)} (K : (Str → Option Value) → List (Addr × Obj) → Nat → (Str → Option Value) → List (Addr × Obj) → Prop)
    (hh : A.handled = none) (hl : h₀.IsList l vs.toArray) (hi : IntsAre vs ns) (F : Fr h₀ env.locals s.heap m₀) (N : News h₀ env.locals s.heap news) (hj : K m₀ news 0 m₀ news)
    (turn : ∀ i n t m₁ news₁ h tk own, ns[i]? = some n → news₁.map (·.1) = news.map (·.1) → OwnOff own (news.map (·.1)) → K m₀ news i m₁ news₁ → Fr h₀ env.locals h (fun y => if y = x then some (.int n t) else m₁ y) → News h₀ env.locals h (news₁ ++ own) →
      wpAny (model prog w) A (execs body env) (InvPostN h₀ env.locals (K m₀ news (i + 1)) own (news.map (·.1)) { s with heap := h, toks := tk } Q) E { s with heap := h, toks := tk })
    (done : ∀ m₁ news₁ h tk, K m₀ news ns.length m₁ news₁ → Fr h₀ env.locals h m₁ → News h₀ env.locals h news₁ → Q .next { s with heap := h, toks := tk }) :
    wpAny (model prog w) A (pyIter (.ref l)) (fun it s₂ => LoopAtV prog w A h₀ env x body Q E it s₂) E s := iter_invN (K m₀ news) hh hl hi F N hj turn done
end
section
variable {prog : Program} {w : World} {A : Around} {E : Value → Shared → Prop} {s : Shared} {h₀ : Heap} {L : Addr} {m : Str → Option Value} {env : Env}
theorem newPlain_news {h' : Heap} {news : List (Addr × Obj)} {D : Addr} {ys : List Value} (F : Fr h₀ L h' m) (N : News h₀ L h' news) (h0 : h₀.get? D = none) (P : NewPlain h' news D ys.toArray) :
    ∃ n, News h₀ L h' ((D, listOf ys.toArray n) :: news) ∧ ∀ p ∈ news, p.1 ≠ D := by
  obtain ⟨⟨n, e⟩, hne⟩ := id P
  refine ⟨n, fun p hp => ?_, hne⟩
  rcases List.mem_cons.mp hp with rfl | hp
  · exact ⟨e, P.ne_locals F, h0⟩
  · exact N p hp
/-- a pure comprehension over a range by ones -/
theorem comp_range {elt iter : PySem.Expr} {x : Str} {px : Pos} {ifs : List PySem.Expr} {scope : Scope} {cl : List (Str × Addr)} {pos : Pos} {Q : Value → Shared → Prop} (pz : Int → Bool) (d : Int → PyData) (_F₀ : Fr h₀ L s.heap m)
    (hh : A.handled = none) (hclos : closureFor scope env = pure cl) (hcell : ∀ y ∈ scope.names, y.2 ≠ .cell) (hkind : scope.kind = .function)
    (hnames : ∀ y ∈ scope.names, y.2 = .local → scope.names.lookup y.1 = some .local) (hx : scope.names.lookup x = some .local)
    (hs : ∀ x, foldedSetIterable iter env x = pure x)
    (h : wpAny (model prog w) A (eval iter env) (fun xv s₁ => ∃ news : List (Addr × Obj), ∃ r a₀ b₀ t₀ u₀ v₀, ∃ n : Nat, xv = .ref r ∧ IsRange s₁.heap r a₀ b₀ 1 t₀ u₀ v₀ ∧ Builtin.Range.small a₀ b₀ 1 = true ∧ Builtin.Range.rangeSize a₀ b₀ 1 = (n : Int) ∧ n ≤ sizeLine ∧ Fr h₀ L s₁.heap m ∧ News h₀ L s₁.heap news ∧
      (∀ C a t s₂ m₂ E', s₁.heap.objs.size ≤ C → a₀ ≤ a → a < a₀ + (n : Int) → s₂.heap.Ns C m₂ → m₂ x = some (.int a t) → Ext s₁.heap s₂.heap → Fr h₀ L s₂.heap m → News h₀ L s₂.heap news →
        wpAny (model prog w) A (forIn ifs true fun c r => if r = true then do let ok ← isTrue c (compEnvC scope cl C env) (eval c (compEnvC scope cl C env)); pure (ForInStep.yield ok) else pure (ForInStep.yield r))
          (fun ok s₃ => ok = pz a ∧ Keeps s₂ s₃) E' s₂) ∧
      (∀ C a t s₂ m₂ E', s₁.heap.objs.size ≤ C → a₀ ≤ a → a < a₀ + (n : Int) → pz a = true → s₂.heap.Ns C m₂ → m₂ x = some (.int a t) → Ext s₁.heap s₂.heap → Fr h₀ L s₂.heap m → News h₀ L s₂.heap news →
        wpAny (model prog w) A (eval elt (compEnvC scope cl C env)) (fun y s₃ => Carried y (d a) ∧ Keeps s₂ s₃) E' s₂) ∧
      (∀ D (ys : List Value) k h' tk, Ext s₁.heap h' → Fr h₀ L h' m → News h₀ L h' ((D, listOf ys.toArray k) :: news) → (∀ p ∈ news, p.1 ≠ D) → CarriedAll ys (((rangeInts a₀ 1 n).filter pz).map d) → Q (.ref D) { s₁ with heap := h', toks := tk })) E s) :
    wpAny (model prog w) A (eval (.ListComp elt [⟨.Name x px, iter, ifs, 0⟩] scope pos) env) Q E s := by
  refine wpAny_ListComp_free (ItemKind.int.lift pz) (fun v y => ∃ a, ItemKind.int.is a v ∧ Carried y (d a)) hclos hcell hkind hnames hx (wpAny_mono h (fun xv s₁ h₁ => ?_) fun _ _ e => e) hs
  obtain ⟨news, r, a₀, b₀, t₀, u₀, v₀, n, rfl, hr, hsmall, hn, hsz, F, N, htests, helt, hQ⟩ := h₁
  have up : ∀ (h₃ : Heap), (∀ b o, b ∉ [s₁.heap.objs.size] → (s₁.heap.push { cls := .type "range_iterator", data := .fields #[rawInt a₀, rawInt (Builtin.Range.rangeSize a₀ b₀ 1), rawInt 1] }).get? b = some o → h₃.get? b = some o) → Ext s₁.heap h₃ :=
    fun h₃ hk b o e => hk b o (fun hm => Nat.lt_irrefl _ ((List.mem_singleton.mp hm) ▸ Heap.lt_size e)) (Heap.get?_push_of_some _ e)
  refine wpAny_pyIter_range hr hsmall ⟨s₁.heap.objs.size, [s₁.heap.objs.size], [s₁.heap.objs.size], n, _, _, rfl, (Walks.range hh _ a₀ 1 n).bound, hsz, (by show IsRangeIter _ _ _ _ _; rw [hn]; simpa using Heap.get?_push_size _ rfl), ?_, ⟨?_, ?_⟩, ?_⟩
  · intro b hb
    rw [List.mem_singleton.mp hb]
    show s₁.heap.objs.size < (s₁.heap.push _).objs.size
    rw [Heap.size_push]; exact Nat.lt_succ_self _
  · intro C i v s₃ m₃ E' hC hP hn' hm hk _
    obtain ⟨hi, t, rfl⟩ := hP
    rw [ItemKind.lift_is (K := .int) (a := a₀ + (i : Int) * 1) (v := .int (a₀ + (i : Int) * 1) t) ⟨t, rfl⟩]
    exact htests C _ t s₃ m₃ E' (Nat.le_of_succ_le (by simpa [Heap.size_push] using hC)) (by omega) (by omega) hn' hm (up _ hk) (F.keeps (up _ hk)) (N.grown (up _ hk))
  · intro C i v s₃ m₃ E' hC hP hp hn' hm hk _
    obtain ⟨hi, t, rfl⟩ := hP
    rw [ItemKind.lift_is (K := .int) (a := a₀ + (i : Int) * 1) (v := .int (a₀ + (i : Int) * 1) t) ⟨t, rfl⟩] at hp
    exact wpAny_mono (helt C _ t s₃ m₃ E' (Nat.le_of_succ_le (by simpa [Heap.size_push] using hC)) (by omega) (by omega) hp hn' hm (up _ hk) (F.keeps (up _ hk)) (N.grown (up _ hk))) (fun y s₄ h₄ => ⟨⟨_, ⟨t, rfl⟩, h₄.1⟩, h₄.2⟩) fun _ _ e => e
  · intro D h' tk ys vs' hnew hlD hplD hlen hP hF hk
    have hi : AreOf .int vs' (rangeInts a₀ 1 n) := AreOf.of_get (hlen.trans (rangeInts_length _ _ _).symm) fun j v hv => ⟨_, rangeInts_get (hP j v hv).1, (hP j v hv).2⟩
    have keep := up h' hk
    have h0 : h₀.get? D = none := by
      cases e : h₀.get? D with
      | none => rfl
      | some o' => rw [Heap.get?_push_of_some _ (F.keep _ _ e)] at hnew; cases hnew
    have hne : ∀ p ∈ news, p.1 ≠ D := fun p hp e => by rw [← e, Heap.get?_push_of_some _ (N p hp).1] at hnew; cases hnew
    obtain ⟨k, N', hne'⟩ := newPlain_news (ys := ys.toList) (F.keeps keep) (N.grown keep) h0 ⟨by rw [Array.toArray_toList]; exact hplD, hne⟩
    exact hQ D ys.toList k h' tk keep (F.keeps keep) N' hne' (hi.paired pz d _ hF)
/-- a pure comprehension over a list -/
theorem comp_list {α : Type} {K : ItemKind α} {elt iter : PySem.Expr} {x : Str} {px : Pos} {ifs : List PySem.Expr} {scope : Scope} {cl : List (Str × Addr)} {pos : Pos} {Q : Value → Shared → Prop} (pz : α → Bool) (d : α → PyData) (_F₀ : Fr h₀ L s.heap m)
    (hh : A.handled = none) (hclos : closureFor scope env = pure cl) (hcell : ∀ y ∈ scope.names, y.2 ≠ .cell) (hkind : scope.kind = .function)
    (hnames : ∀ y ∈ scope.names, y.2 = .local → scope.names.lookup y.1 = some .local) (hx : scope.names.lookup x = some .local)
    (hs : ∀ x, foldedSetIterable iter env x = pure x)
    (h : wpAny (model prog w) A (eval iter env) (fun xv s₁ => ∃ news : List (Addr × Obj), ∃ ax vs as, xv = .ref ax ∧ s₁.heap.IsList ax vs.toArray ∧ AreOf K vs as ∧ as.length ≤ sizeLine ∧ Fr h₀ L s₁.heap m ∧ News h₀ L s₁.heap news ∧
      (∀ C a v s₂ m₂ E', s₁.heap.objs.size ≤ C → a ∈ as → K.is a v → s₂.heap.Ns C m₂ → m₂ x = some v → Ext s₁.heap s₂.heap → Fr h₀ L s₂.heap m → News h₀ L s₂.heap news →
        wpAny (model prog w) A (forIn ifs true fun c r => if r = true then do let ok ← isTrue c (compEnvC scope cl C env) (eval c (compEnvC scope cl C env)); pure (ForInStep.yield ok) else pure (ForInStep.yield r))
          (fun ok s₃ => ok = pz a ∧ Keeps s₂ s₃) E' s₂) ∧
      (∀ C a v s₂ m₂ E', s₁.heap.objs.size ≤ C → a ∈ as → K.is a v → pz a = true → s₂.heap.Ns C m₂ → m₂ x = some v → Ext s₁.heap s₂.heap → Fr h₀ L s₂.heap m → News h₀ L s₂.heap news →
        wpAny (model prog w) A (eval elt (compEnvC scope cl C env)) (fun y s₃ => Carried y (d a) ∧ Keeps s₂ s₃) E' s₂) ∧
      (∀ D (ys : List Value) k h' tk, Fr h₀ L h' m → News h₀ L h' ((D, listOf ys.toArray k) :: news) → (∀ p ∈ news, p.1 ≠ D) → CarriedAll ys ((as.filter pz).map d) → Q (.ref D) { s₁ with heap := h', toks := tk })) E s) :
    wpAny (model prog w) A (eval (.ListComp elt [⟨.Name x px, iter, ifs, 0⟩] scope pos) env) Q E s := by
  refine ListComp_DCn (h₀ := h₀) (L := L) (m := m) (K := K) (pz := pz) (d := d) hh hclos hcell hkind hnames hx (wpAny_mono h (fun xv s₁ h₁ => ?_) fun _ _ e => e) hs
  obtain ⟨news, ax, vs, as, rfl, hl, hi, hsz, F, N, htests, helt, hQ⟩ := h₁
  refine ⟨news, ax, vs, as, rfl, hl, hi, hsz, F, N, fun C a v s₂ m₂ E' hC ha hv hn hm hk => htests C a v s₂ m₂ E' hC ha hv hn hm hk (F.keeps hk) (N.grown hk),
    fun C a v s₂ m₂ E' hC ha hv hp hn hm hk => helt C a v s₂ m₂ E' hC ha hv hp hn hm hk (F.keeps hk) (N.grown hk), fun D ys h' tk F' N' h0 _ P hc => ?_⟩
  obtain ⟨k, N2, hne⟩ := newPlain_news F' N' h0 P
  exact hQ D ys k h' tk F' N2 hne hc
end
end Mine

namespace Mine
open PySem PySem.W PyProof.Rows
section
variable {prog : Program} {w : World} {A : Around} {E : Value → Shared → Prop} {s : Shared} {h₀ : Heap} {L : Addr} {m : Str → Option Value} {env : Env}
theorem mem_rangeInts1 {a₀ a : Int} {n : Nat} (h : a ∈ rangeInts a₀ 1 n) : a₀ ≤ a ∧ a < a₀ + (n : Int) := by
  obtain ⟨i, hi⟩ := List.getElem?_of_mem h
  have hl : i < n := by
    have := (List.getElem?_eq_some_iff.mp hi).1
    rw [rangeInts_length] at this; exact this
  rw [rangeInts_get hl] at hi
  injection hi with hi
  omega
/-- a pure comprehension over a range, given to a local name -/
theorem comp_range_as {elt iter : PySem.Expr} {x y : Str} {px py : Pos} {ifs : List PySem.Expr} {scope : Scope} {cl : List (Str × Addr)} {pos spos : Pos} {Q : Flow → Shared → Prop} (pz : Int → Bool) (d : Int → PyData) (_F₀ : Fr h₀ L s.heap m)
    (hsw : swapsWith (.ListComp elt [⟨.Name x px, iter, ifs, 0⟩] scope pos) (some (.Name y py)) spos.line env = pure true) (hL : env.locals = L)
    (hh : A.handled = none) (hclos : closureFor scope env = pure cl) (hcell : ∀ z ∈ scope.names, z.2 ≠ .cell) (hkind : scope.kind = .function)
    (hnames : ∀ z ∈ scope.names, z.2 = .local → scope.names.lookup z.1 = some .local) (hx : scope.names.lookup x = some .local)
    (hy : env.kindOf y = some .local) (hp : (env.scope.kind == .class || (env.scope.kind == .module && env.locals != env.globals)) = false)
    (hs : ∀ x, foldedSetIterable iter env x = pure x)
    (h : wpAny (model prog w) A (eval iter env) (fun xv s₁ => ∃ news : List (Addr × Obj), ∃ r a₀ b₀ t₀ u₀ v₀, ∃ n : Nat, xv = .ref r ∧ IsRange s₁.heap r a₀ b₀ 1 t₀ u₀ v₀ ∧ Builtin.Range.small a₀ b₀ 1 = true ∧ Builtin.Range.rangeSize a₀ b₀ 1 = (n : Int) ∧ n ≤ sizeLine ∧ Fr h₀ L s₁.heap m ∧ News h₀ L s₁.heap news ∧
      (∀ C a t s₂ m₂ E', s₁.heap.objs.size ≤ C → a₀ ≤ a → a < a₀ + (n : Int) → s₂.heap.Ns C m₂ → m₂ x = some (.int a t) → Ext s₁.heap s₂.heap → Fr h₀ L s₂.heap m → News h₀ L s₂.heap news →
        wpAny (model prog w) A (forIn ifs true fun c r => if r = true then do let ok ← isTrue c (compEnvC scope cl C env) (eval c (compEnvC scope cl C env)); pure (ForInStep.yield ok) else pure (ForInStep.yield r))
          (fun ok s₃ => ok = pz a ∧ Keeps s₂ s₃) E' s₂) ∧
      (∀ C a t s₂ m₂ E', s₁.heap.objs.size ≤ C → a₀ ≤ a → a < a₀ + (n : Int) → pz a = true → s₂.heap.Ns C m₂ → m₂ x = some (.int a t) → Ext s₁.heap s₂.heap → Fr h₀ L s₂.heap m → News h₀ L s₂.heap news →
        wpAny (model prog w) A (eval elt (compEnvC scope cl C env)) (fun y s₃ => Carried y (d a) ∧ Keeps s₂ s₃) E' s₂) ∧
      (∀ D (ys : List Value) k h' tk, Fr h₀ L h' (fun z => if z = y then some (.ref D) else m z) → News h₀ L h' ((D, listOf ys.toArray k) :: news) → (∀ p ∈ news, p.1 ≠ D) → CarriedAll ys (((rangeInts a₀ 1 n).filter pz).map d) → Q .next { s₁ with heap := h', toks := tk })) E s) :
    wpAny (model prog w) A (exec (.Assign [.Name y py] (.ListComp elt [⟨.Name x px, iter, ifs, 0⟩] scope pos) spos) env) Q E s := by
  refine Assign_ListComp_DCr (h₀ := h₀) (L := L) (m := m) (pz := pz) (d := d) hsw hL hh hclos hcell hkind hnames hx hy hp (wpAny_mono h (fun xv s₁ h₁ => ?_) fun _ _ e => e) hs
  obtain ⟨news, r, a₀, b₀, t₀, u₀, v₀, n, rfl, hr, hsmall, hn, hsz, F, N, htests, helt, hQ⟩ := h₁
  refine ⟨news, r, a₀, b₀, 1, t₀, u₀, v₀, n, rfl, hr, hsmall, hn, hsz, F, N, ?_, ?_, ?_⟩
  · rintro C a v s₂ m₂ E' hC ha ⟨t, rfl⟩ hn' hm hk
    have hr := mem_rangeInts1 ha
    exact htests C a t s₂ m₂ E' hC hr.1 hr.2 hn' hm hk (F.keeps hk) (N.grown hk)
  · rintro C a v s₂ m₂ E' hC ha ⟨t, rfl⟩ hpa hn' hm hk
    have hr := mem_rangeInts1 ha
    exact helt C a t s₂ m₂ E' hC hr.1 hr.2 hpa hn' hm hk (F.keeps hk) (N.grown hk)
  · intro D ys h' tk F' N' h0 _ P hc
    obtain ⟨k, N2, hne⟩ := newPlain_news F' N' h0 P
    exact hQ D ys k h' tk F' N2 hne hc
end
end Mine

namespace Mine
open PySem PySem.W PyProof.Rows
theorem highbit_call {w : World} {s : Shared} {env : Env} {base h₀ : Heap} {L : Addr} {m mg mb : Str → Option Value} {mean : ExcName → Option Value} {E : Value → Shared → Prop} {Q : Value → Shared → Prop} {v : Int} {t : Tok}
    (B : Below callerA base [] h₀) (F : Fr h₀ L s.heap m) (X : (hd.heap_39 w.params).In h₀) (T : Top hd.view_39 (looseW hd.view_39 []) mean mg mb h₀)
    (hf : env.frame = some L) (hke : env.scope.kind = .function)
    (h : ∀ h' tk t', Ext s.heap h' → Q (.int ((Builtin.Int.intBits v : Int) - 1) t') { s with heap := h', toks := tk }) :
    wpAny (model PySem.Challenge.rw_nb0074_01.row.toRowW.prog w) (callerA.deeper env) (call (.ref 35) [.int v t] []) Q E s := by
  revert X; k_fill; intro X
  refine wpAny_call ?_
  refine' code_defG B F X News.nil T rfl hf hke ?k6 ?k7 ?k8 ?k9 ?kB ?_ ?c2 ?c3 ?c4 ?c5
  case k6 => k_is
  case k7 => k_is
  case k8 => k_room
  case k9 => exact BindsTo.of_eq rfl
  case c5 => decide
  case kB => exact locs rfl
  case c2 => exact rfl
  case c3 => exact rfl
  case c4 => exact rfl
  intro g' L' h' FG' F' N' B' X' T' kG'
  try dsimp only
  k_fold
  iterate 12 (first | (k_unfold; (try dsimp only)) | (k_end; wrow_close) | walk1 | (dsimp only; walk1) | (leave1; walk_say "STEP leave1"; try dsimp only) | fail "no step")

  exact h _ _ _ (fun b o e => F'.keep b o (kG' b o e (by simp)))
end Mine

namespace Mine
open PySem PySem.W PyProof.Rows
def sbit (v : Int) : Bool := if (v == 0) = true then false else Builtin.bitAnd v (v - 1) == 0
theorem ite_cases {c : Prop} [Decidable c] {a b : Prop} (h : c → a) (k : ¬ c → b) : if c then a else b := by
  by_cases q : c
  · rw [if_pos q]; exact h q
  · rw [if_neg q]; exact k q
theorem ret_as {Q : Value → Shared → Prop} {v v' : Value} {s : Shared} (e : v' = v) (h : Q v s) : Q v' s := e ▸ h
theorem single_call {w : World} {s : Shared} {env : Env} {base h₀ : Heap} {L : Addr} {m mg mb : Str → Option Value} {mean : ExcName → Option Value} {E : Value → Shared → Prop} {Q : Value → Shared → Prop} {v : Int} {t : Tok}
    (B : Below callerA base [] h₀) (F : Fr h₀ L s.heap m) (X : (hd.heap_39 w.params).In h₀) (T : Top hd.view_39 (looseW hd.view_39 []) mean mg mb h₀)
    (hf : env.frame = some L) (hke : env.scope.kind = .function)
    (h : ∀ h' tk, Ext s.heap h' → Q (.bool (sbit v)) { s with heap := h', toks := tk }) :
    wpAny (model PySem.Challenge.rw_nb0074_01.row.toRowW.prog w) (callerA.deeper env) (call (.ref 28) [.int v t] []) Q E s := by
  revert X; k_fill; intro X
  refine wpAny_call ?_
  refine' code_defG B F X News.nil T rfl hf hke ?k6 ?k7 ?k8 ?k9 ?kB ?_ ?c2 ?c3 ?c4 ?c5
  case k6 => k_is
  case k7 => k_is
  case k8 => k_room
  case k9 => exact BindsTo.of_eq rfl
  case c5 => decide
  case kB => exact locs rfl
  case c2 => exact rfl
  case c3 => exact rfl
  case c4 => exact rfl
  intro g' L' h' FG' F' N' B' X' T' kG'
  try dsimp only
  k_fold
  iterate 8 (first | (k_unfold; (try dsimp only)) | (k_end; wrow_close) | walk1 | (dsimp only; walk1) | (leave1; walk_say "STEP leave1"; try dsimp only) | fail "no step")
  refine ite_cases (fun c => ?_) (fun c => ?_)
  · repeat (first | (k_unfold; (try dsimp only)) | (k_end; wrow_close) | walk1 | (dsimp only; walk1) | (leave1; walk_say "STEP leave1"; try dsimp only) | fail "no step")
    refine ret_as ?_ (h _ _ (fun b o e => F'.keep b o (kG' b o e (by simp))))
    rw [sbit, if_pos c]
  · repeat (first | (k_unfold; (try dsimp only)) | (k_end; wrow_close) | walk1 | (dsimp only; walk1) | (leave1; walk_say "STEP leave1"; try dsimp only) | fail "no step")
    rename Fr g' _ _ _ => F5
    refine ret_as ?_ (h _ _ (fun b o e => F5.keep b o (kG' b o e (by simp))))
    rw [sbit, if_neg c]
end Mine

namespace Mine
open PySem PySem.W PyProof.Rows
def modUpTo : Nat → List Str
  | 0 => [Str.ofString "", Str.ofString "ab"]
  | i + 1 => modUpTo i ++ [(modUpTo i).getD ((i + 2) / 2) Str.empty ++ (if (i + 2) % 2 = 0 then Str.ofString ".a" else Str.ofString ".ab")]
theorem modUpTo_length : ∀ i, (modUpTo i).length = i + 2
  | 0 => rfl
  | i + 1 => by rw [modUpTo, List.length_append, modUpTo_length i]; rfl
theorem modUpTo_at (i j : Nat) (h : j < i + 2) : (modUpTo i)[j]? = some ((modUpTo i).getD j Str.empty) := by
  rw [List.getD_eq_getElem?_getD, List.getElem?_eq_getElem (by rw [modUpTo_length]; exact h)]; rfl
theorem modUpTo_len : ∀ i, ∀ x ∈ modUpTo i, x.length ≤ 3 * i + 2
  | 0 => by decide
  | i + 1 => by
    intro x hx
    rw [modUpTo, List.mem_append] at hx
    rcases hx with hx | hx
    · have := modUpTo_len i x hx; omega
    · rw [List.mem_singleton] at hx
      subst hx
      have h1 : ((modUpTo i).getD ((i + 2) / 2) Str.empty).length ≤ 3 * i + 2 := modUpTo_len i _ (List.mem_of_getElem? (modUpTo_at i ((i + 2) / 2) (by omega)))
      have h2 : (if (i + 2) % 2 = 0 then Str.ofString ".a" else Str.ofString ".ab").length ≤ 3 := by split <;> decide
      rw [Str.length_append]; omega
theorem none_of {h g : Heap} {D : Addr} (k : GSub h g []) (e : g.get? D = none) : h.get? D = none := by
  cases q : h.get? D with
  | none => rfl
  | some o => rw [k D o q (by simp)] at e; cases e
theorem item_pick2 {prog : Program} {w : World} {A : Around} {E : Value → Shared → Prop} {s : Shared} {value slice : PySem.Expr} {l : Addr} {a b : Str} {ta tb : Tok} {k : Int} {u : Tok} {n : Nat} {Q : Value → Shared → Prop}
    (hl : s.heap.IsList l [Value.str a ta, Value.str b tb].toArray) (hk : k = ((n % 2 : Nat) : Int)) (h : ∀ t, Q (.str (if n % 2 = 0 then a else b) t) s)
    (hs : subscripted slice false (.ref l) (.int k u) = operate [.ref l, .int k u] (getItem (.ref l) (.int k u)) := by with_unfolding_all rfl) :
    wpAny (model prog w) A (subscriptTail value slice (.ref l) (.int k u)) Q E s := by
  have hx : ∃ t, [Value.str a ta, Value.str b tb][k.toNat]? = some (.str (if n % 2 = 0 then a else b) t) := by
    subst hk
    rcases Nat.mod_two_eq_zero_or_one n with h0 | h0 <;> rw [h0] <;> exact ⟨_, rfl⟩
  obtain ⟨t, ht⟩ := hx
  exact item_at hl (by omega) (by omega) ht (h t) hs
theorem modules_call {w : World} {s : Shared} {env : Env} {base h₀ : Heap} {L : Addr} {m mg mb : Str → Option Value} {mean : ExcName → Option Value} {E : Value → Shared → Prop} {Q : Value → Shared → Prop}
    (B : Below callerA base [] h₀) (F : Fr h₀ L s.heap m) (X : (hd.heap_39 w.params).In h₀) (T : Top hd.view_39 (looseW hd.view_39 []) mean mg mb h₀)
    (hf : env.frame = some L) (hke : env.scope.kind = .function)
    (h : ∀ D vs n h' tk, Ext s.heap h' → s.heap.get? D = none → h'.get? D = some (listOf vs.toArray n) → StrsAre vs (modUpTo 30) → Q (.ref D) { s with heap := h', toks := tk }) :
    wpAny (model PySem.Challenge.rw_nb0074_01.row.toRowW.prog w) (callerA.deeper env) (call (.ref 104) [] []) Q E s := by
  revert X; k_fill; intro X
  refine wpAny_call ?_
  refine' code_defG B F X News.nil T rfl hf hke ?k6 ?k7 ?k8 ?k9 ?kB ?_ ?c2 ?c3 ?c4 ?c5
  case k6 => k_is
  case k7 => k_is
  case k8 => k_room
  case k9 => exact BindsTo.of_eq rfl
  case c5 => decide
  case kB => exact locs rfl
  case c2 => exact rfl
  case c3 => exact rfl
  case c4 => exact rfl
  intro g' L' h' FG' F' N' B' X' T' kG'
  try dsimp only
  k_fold
  iterate 23 (first | (k_unfold; (try dsimp only)) | (k_end; wrow_close) | walk1 | (dsimp only; walk1) | (leave1; walk_say "STEP leave1"; try dsimp only) | fail "no step")
  rename News _ _ _ _ => N1
  rename Fr _ _ _ _ => F1
  rename IsRange _ _ _ _ _ _ _ _ => R1
  refine iter_rangeJ (n := 30) (fun m₀ _ i m₁ nx => (∃ u, m₁ = fun z => if z = Str.ofString "n" then u else m₀ z) ∧ ∃ D vs n, nx = [(D, listOf vs.toArray n)] ∧ StrsAre vs (modUpTo i)) rfl R1 (by decide) (by decide) F1 N1 ?_ ?_ ?_
  · exact ⟨⟨_, unshadow⟩, _, _, _, rfl, .cons _ _ (.cons _ _ .nil)⟩
  · rintro i t m₁ nx hp tk own hi hadr hoff ⟨⟨u, rfl⟩, D, vs, n, rfl, hS⟩ F2 N2
    obtain rfl : D = _ := by simpa using hadr
    dsimp only [List.cons_append, List.nil_append] at N2
    iterate 14 (first | (k_unfold; (try dsimp only)) | (k_end; wrow_close) | walk1 | (dsimp only; walk1) | (leave1; walk_say "STEP leave1"; try dsimp only) | fail "no step")
    obtain ⟨t5, ht5⟩ := hS.get ((i + 2) / 2) _ (modUpTo_at i ((i + 2) / 2) (by omega))
    refine item_at (vs := vs) (v := .str ((modUpTo i).getD ((i + 2) / 2) Str.empty) t5) ?_ ?_ ?_ ?_ ?_
    · exact ⟨_, N2.get (.head _), rfl, _, rfl⟩
    · rw [fd2]; omega
    · rw [fd2]; omega
    · rw [fd2, ← ht5]; congr 1; omega
    iterate 12 (first | (k_unfold; (try dsimp only)) | (k_end; wrow_close) | walk1 | (dsimp only; walk1) | (leave1; walk_say "STEP leave1"; try dsimp only) | fail "no step")
    rename News _ _ _ _ => N3
    rename _ ∧ AllLt _ _ => l1
    refine item_pick2 (n := i + 2) ⟨_, N3.get (.head _), rfl, _, rfl⟩ (by rw [fm2]; omega) fun t6 => ?_
    refine add_str (fun t7 tk7 => ?_) ?_
    rotate_left
    · have h1 : ((modUpTo i).getD ((i + 2) / 2) Str.empty).length ≤ 3 * i + 2 := modUpTo_len i _ (List.mem_of_getElem? (modUpTo_at i ((i + 2) / 2) (by omega)))
      have h2 : (if (i + 2) % 2 = 0 then Str.ofString ".a" else Str.ofString ".ab").length ≤ 3 := by split <;> decide
      rw [sizeLine_eq]; omega
    iterate 1 (first | (k_unfold; (try dsimp only)) | (k_end; wrow_close) | walk1 | (dsimp only; walk1) | (leave1; walk_say "STEP leave1"; try dsimp only) | fail "no step")
    rename Fr _ _ _ _ => F3
    refine append_K F3 N3 (Upd.tail ?_ (Upd.head ?_)) (fun h5 F5 N5 => ?_) ?_
    · exact Nat.ne_of_gt l1.1
    · exact hoff.ne (by simp)
    rotate_left
    · rw [List.size_toArray, hS.length, modUpTo_length, sizeLine_eq]; omega
    rw [List.push_toArray] at N5
    refine wpAny_execs_nil (InvEndN.intro (nx := [(D, listOf (vs ++ [Value.str ((modUpTo i).getD ((i + 2) / 2) Str.empty ++ (if (i + 2) % 2 = 0 then Str.ofString ".a" else Str.ofString ".ab")) t7]).toArray (n + 1))]) F5 N5 ⟨⟨_, shadow⟩, _, _, _, rfl, ?_⟩ rfl ?_ ?_)
    · exact StrsAre.append' hS (.cons _ _ .nil)
    · intro p hp; rw [List.mem_singleton.mp hp]; exact .tail _ (.head _)
    · intro p hp; exact .tail _ (.tail _ hp)
  · rintro m₁ nx hp tk hadr ⟨⟨u, rfl⟩, D, vs, n, rfl, hS⟩ F2 N2
    obtain rfl : D = _ := by simpa using hadr
    dsimp only
    iterate 4 (first | (k_unfold; (try dsimp only)) | (k_end; wrow_close) | walk1 | (dsimp only; walk1) | (leave1; walk_say "STEP leave1"; try dsimp only) | fail "no step")
    refine h _ vs n hp _ (fun b o e => F2.keep b o (kG' b o e (by simp))) ?_ (N2.get (.head _)) hS
    exact none_of kG' (N2.fresh (.head _))
end Mine

namespace Mine
open PySem PySem.W PyProof.Rows
theorem start_over (stored : List Str) {x : Str} {v : Option Value} {c : Str → Option Value} :
    (fun y => if y = x then v else c y) = fun z => if stored.contains z = true then (fun y => if y = x then v else c y) z else if z = x then v else (fun y => if y = x then v else c y) z := by
  funext y; by_cases h : y = x <;> simp [h]
theorem start_two {x z : Str} {v u : Option Value} {c : Str → Option Value} :
    (fun y => if y = x then v else if y = z then u else c y) = fun y => if y = x then v else if y = z then u else (fun y => if y = x then v else if y = z then u else c y) y := by
  funext y; by_cases h : y = x <;> by_cases k : y = z <;> simp [h, k]
theorem turn_two {x z : Str} {v u v' u' : Option Value} {c : Str → Option Value} (hne : x ≠ z) :
    (fun y => if y = x then v else if y = z then u else if y = z then u' else if y = x then v' else c y) = fun y => if y = z then u else if y = x then v else c y := by
  funext y
  by_cases h : y = x
  · have : ¬ x = z := hne
    simp [h, this]
  · by_cases k : y = z
    · have : ¬ z = x := fun q => hne q.symm
      simp [k, this]
    · simp [h, k]
theorem end_over {stored : List Str} {x lo be mk : Str} {V B l B0 L0 X0 M0 : Option Value} {u c : Str → Option Value} (hx : stored.contains x = true) (hl : stored.contains lo = true) (hb : stored.contains be = true) :
    (fun y => if y = mk then V else if y = be then B else if y = lo then l else if y = be then B0 else if y = lo then L0 else if y = x then X0 else if stored.contains y = true then u y else if y = mk then M0 else c y)
      = fun z => if stored.contains z = true then (fun y => if y = mk then V else if y = be then B else if y = lo then l else if y = be then B0 else if y = lo then L0 else if y = x then X0 else if stored.contains y = true then u y else if y = mk then M0 else c y) z else if z = mk then V else c z :=
  over_self fun y hy => by
    have k1 := ne_of_contains hy hx
    have k2 := ne_of_contains hy hl
    have k3 := ne_of_contains hy hb
    simp only [k1, k2, k3, hy, if_false, Bool.false_eq_true]
    by_cases q : y = mk <;> simp [q]
def LowInv (lo be : Int) : Prop := 1 ≤ lo ∧ lo ≤ 31 ∧ ((be = lo + 1) ∨ (be = lo + 2 ∧ lo % 2 = 0) ∨ (be = lo + 4 ∧ lo % 4 = 0) ∨ (be = lo + 8 ∧ lo % 8 = 0) ∨ (be = lo + 16 ∧ lo % 16 = 0))
theorem LowInv.start (v : Int) : LowInv (Int.fmod v 31 + 1) (Int.fmod v 31 + 1 + 1) := by
  rw [Int.fmod_eq_emod_of_nonneg _ (by decide)]
  refine ⟨by omega, by omega, .inl rfl⟩
theorem LowInv.turn {lo be : Int} (h : LowInv lo be) (k : lo < 16) : LowInv (2 * lo) (2 * be) := by
  unfold LowInv at *; omega
theorem LowInv.ends {lo be : Int} (h : LowInv lo be) (k : ¬ lo < 16) : 16 ≤ lo ∧ lo < be ∧ be ≤ 32 := by
  unfold LowInv at *; omega
theorem xor_bound {a b : Int} (ha : 0 ≤ a) (ha' : a < 65536) (hb : 0 ≤ b) (hb' : b < 65536) : 0 ≤ Builtin.bitXor a b ∧ Builtin.bitXor a b < 65536 := by
  obtain ⟨x, rfl⟩ := Int.eq_ofNat_of_zero_le ha
  obtain ⟨y, rfl⟩ := Int.eq_ofNat_of_zero_le hb
  have e : Builtin.bitXor (x : Int) (y : Int) = ((x ||| y : Nat) : Int) - ((x &&& y : Nat) : Int) := by
    have h1 : ¬ (0 : Int) ≤ -(x : Int) - 1 := by omega
    have h2 : ¬ (0 : Int) ≤ -(y : Int) - 1 := by omega
    have h3 : (-(-(x : Int) - 1) - 1).toNat = x := by omega
    have h4 : (-(-(y : Int) - 1) - 1).toNat = y := by omega
    simp only [Builtin.bitXor, Builtin.bitOr, Builtin.bitAnd, Builtin.bitNot, h1, h2, ha, hb, decide_true, decide_false, h3, h4, Int.toNat_natCast]
    omega
  have h1 := Nat.or_lt_two_pow (n := 16) (x := x) (y := y) (by omega) (by omega)
  have h2 : x &&& y ≤ x := Nat.and_le_left
  have h3 : x ≤ x ||| y := Nat.left_le_or
  rw [e]; omega
theorem pow_sub_bound {lo be : Int} (h : 16 ≤ lo) (h1 : lo < be) (h2 : be ≤ 32) : 0 ≤ (2 : Int) ^ (be - 16).toNat - 2 ^ (lo - 16).toNat ∧ (2 : Int) ^ (be - 16).toNat - 2 ^ (lo - 16).toNat < 65536 := by
  obtain ⟨a, ha⟩ : ∃ a : Nat, (lo - 16).toNat = a := ⟨_, rfl⟩
  obtain ⟨b, hb⟩ : ∃ b : Nat, (be - 16).toNat = b := ⟨_, rfl⟩
  rw [ha, hb]
  have h3 : (2 : Int) ^ a ≤ 2 ^ b := by exact_mod_cast Nat.pow_le_pow_right (by decide) (by omega : a ≤ b)
  have h4 : (2 : Int) ^ b ≤ 2 ^ 16 := by exact_mod_cast Nat.pow_le_pow_right (by decide) (by omega : b ≤ 16)
  have h5 : (0 : Int) < 2 ^ a := Int.pow_pos (by decide)
  omega
theorem mask_call {w : World} {s : Shared} {env : Env} {base h₀ : Heap} {L : Addr} {m mg mb : Str → Option Value} {mean : ExcName → Option Value} {E : Value → Shared → Prop} {Q : Value → Shared → Prop} {a : Addr} {vs : List Value} {ns : List Int}
    (B : Below callerA base [] h₀) (F : Fr h₀ L s.heap m) (X : (hd.heap_39 w.params).In h₀) (T : Top hd.view_39 (looseW hd.view_39 []) mean mg mb h₀)
    (hf : env.frame = some L) (hke : env.scope.kind = .function)
    (hl : s.heap.IsList a vs.toArray) (hi : IntsAre vs ns) (h : ∀ M t h' tk, Ext s.heap h' → 0 ≤ M → M < 65536 → Q (.int M t) { s with heap := h', toks := tk }) :
    wpAny (model PySem.Challenge.rw_nb0074_01.row.toRowW.prog w) (callerA.deeper env) (call (.ref 111) [.ref a] []) Q E s := by
  revert X; k_fill; intro X
  refine wpAny_call ?_
  refine' code_defG B F X News.nil T rfl hf hke ?k6 ?k7 ?k8 ?k9 ?kB ?_ ?c2 ?c3 ?c4 ?c5
  case k6 => k_is
  case k7 => k_is
  case k8 => k_room
  case k9 => exact BindsTo.of_eq rfl
  case c5 => decide
  case kB => exact locs rfl
  case c2 => exact rfl
  case c3 => exact rfl
  case c4 => exact rfl
  intro g' L' h' FG' F' N' B' X' T' kG'
  try dsimp only
  k_fold
  have hl' : g'.IsList a vs.toArray := hl.at fun o e => kG' a o e (by simp)
  iterate 5 (first | (k_unfold; (try dsimp only)) | (k_end; wrow_close) | walk1 | (dsimp only; walk1) | (leave1; walk_say "STEP leave1"; try dsimp only) | fail "no step")
  refine' For_invV g' ?a ?b ?_ ?d ?e
  case a => with_unfolding_all rfl
  case b => with_unfolding_all rfl
  case d => intro _; with_unfolding_all rfl
  case e => passes_own
  iterate 1 (first | (k_unfold; (try dsimp only)) | (k_end; wrow_close) | walk1 | (dsimp only; walk1) | (leave1; walk_say "STEP leave1"; try dsimp only) | fail "no step")
  rename Fr g' _ _ _ => F1
  rename News g' _ _ _ => N1
  refine iter_listK (fun m₀ _ i m₁ nx => nx = [] ∧ ∃ (u : Str → Option Value) (M : Int) (t : Tok), m₁ = (fun z => if [Str.ofString "x", Str.ofString "low", Str.ofString "behind"].contains z = true then u z else if z = Str.ofString "mask" then some (.int M t) else m₀ z) ∧ 0 ≤ M ∧ M < 65536) rfl hl' hi F1 N1 ?_ ?_ ?_
  · exact ⟨rfl, _, 0, _, start_over _, by decide, by decide⟩
  · rintro i v t m₁ nx hp tk own hv hadr hoff ⟨rfl, u, M, tM, rfl, hM0, hM1⟩ F2 N2
    dsimp only [List.nil_append] at N2
    iterate 18 (first | (k_unfold; (try dsimp only)) | (k_end; wrow_close) | walk1 | (dsimp only; walk1) | (leave1; walk_say "STEP leave1"; try dsimp only) | fail "no step")
    rename Fr g' _ _ _ => F3
    rename News g' _ _ _ => N3
    refine' While_invK (n₀ := (32 - (Int.fmod v 31 + 1)).toNat) (fun m₀ news n m₁ nx => nx = news ∧ ∃ (lo be : Int) (t1 t2 : Tok), m₁ = (fun y => if y = Str.ofString "behind" then some (.int be t2) else if y = Str.ofString "low" then some (.int lo t1) else m₀ y) ∧ LowInv lo be ∧ n = (32 - lo).toNat) F3 N3 ?s ?t ?e
    case e => passes_own
    case s => exact ⟨rfl, _, _, _, _, start_two, LowInv.start v, rfl⟩
    case t =>
      rintro n m₁ nx hq tq F4 N4 ⟨rfl, lo, be, t1, t2, rfl, hI, rfl⟩
      iterate 5 (first | (k_unfold; (try dsimp only)) | (k_end; wrow_close) | walk1 | (dsimp only; walk1) | (leave1; walk_say "STEP leave1"; try dsimp only) | fail "no step")
      refine ite_cases (fun c => ?_) (fun c => ?_)
      · have c' : lo < 16 := by simpa using c
        iterate 25 (first | (k_unfold; (try dsimp only)) | (k_end; wrow_close) | walk1 | (dsimp only; walk1) | (leave1; walk_say "STEP leave1"; try dsimp only) | fail "no step")
        rename Fr g' _ _ _ => F5
        rename News g' _ _ _ => N5
        refine WhileStep.intro (n' := (32 - 2 * lo).toNat) F5 (fun p hp => N5 p (.tail _ hp)) ?_ ?_
        · have := hI.1; omega
        · exact ⟨rfl, _, _, _, _, turn_two (by decide), hI.turn c', rfl⟩
      · have c' : ¬ lo < 16 := by simpa using c
        obtain ⟨e1, e2, e3⟩ := hI.ends c'
        iterate 23 (first | (k_unfold; (try dsimp only)) | (k_end; wrow_close) | walk1 | (dsimp only; walk1) | (leave1; walk_say "STEP leave1"; try dsimp only) | fail "no step")
        rename Fr g' _ _ _ => F5
        rename News g' _ _ _ => N5
        have hb := pow_sub_bound e1 e2 e3
        have hx := xor_bound hM0 hM1 hb.1 hb.2
        exact InvEndN.intro (nx := []) F5 N5 ⟨rfl, _, _, _, end_over (by decide) (by decide) (by decide), hx.1, hx.2⟩ rfl (fun p hp => nomatch hp) (fun p hp => hp)
  · rintro m₁ nx hp tk ⟨rfl, u, M, tM, rfl, hM0, hM1⟩ F2 N2
    dsimp only
    repeat (first | (k_unfold; (try dsimp only)) | (k_end; wrow_close) | walk1 | (dsimp only; walk1) | (leave1; walk_say "STEP leave1"; try dsimp only) | fail "no step")
    exact h M tM _ _ (fun b o e => F2.keep b o (kG' b o e (by simp))) hM0 hM1
end Mine

namespace Mine
open PySem PySem.W PyProof.Rows
section
variable {prog : Program} {w : World} {A A₀ : Around} {s : Shared} {K : Frag} {L : Addr} {h₀ base : Heap} {m mg mb : Str → Option Value} {p : Program} {loose : List Str} {mean : ExcName → Option Value}
theorem code_defC0 {env : Env} {outer : List Env} {R : Result → Shared → Prop} {name qual : Str} {params : Arguments} {body : List Stmt} {scope : Scope} {dV kV doc pm cdv ct oc : Value} {an od : Option Addr} {osl : Array (Option Value)} {f : Addr} {args : Args} {binds : List (Str × Value)}
    (B : Below A₀ base outer h₀) (F : Fr h₀ L s.heap m) (X₀ : K.In h₀) (T : Top p loose mean mg mb h₀) (hA : A.frames = some (env :: outer)) (hf : env.frame = some L) (hke : env.scope.kind = .function)
    (ho : K.lookup f = some ⟨oc, od, .func (fnOf name qual params body scope dV kV doc pm an cdv ct), osl⟩) (hcd : codeIn K cdv qual = true) (hroom : A.depth < recursionLimit)
    (hbind : BindsTo s (fnOf name qual params body scope dV kV doc pm an cdv ct) args binds) (hkind : (binds.all fun y => scope.names.lookup y.1 == some .local || scope.names.lookup y.1 == some .cell) = true)
    (hnd : ((cellsFrom 0 scope.names []).map (·.1)).Nodup)
    (h : ∀ L' h₁ tk cells, Fr s.heap L' h₁ (bindL (envOfC qual scope L' f cdv).kindOf binds fun _ => none) → News s.heap L' h₁ cells →
      CellsAre (bindC (envOfC qual scope L' f cdv).kindOf binds fun _ => none) (cellsFrom (L' + 1) scope.names []) cells → Below A base (env :: outer) s.heap → K.In s.heap → Top p loose mean mg mb s.heap →
      wpAny (model prog w) (A.deeper (envOfC qual scope L' f cdv)) (execs body (envOfC qual scope L' f cdv))
        (fun fl s' => LeaveK h₀ L m s.heap R (match fl with | .ret v => v | _ => .none) s')
        (fun e s' => wpAny (model prog w) (A.deeper (envOfC qual scope L' f cdv)) (leaving (envOfC qual scope L' f cdv) e) (fun _ s'' => R (.error e) s'') (fun e' s'' => R (.error e') s'') s')
        { s with heap := h₁, toks := tk })
    (hco : scope.isCoroutine = false) (hgen : scope.isGenerator = false) (hk : scope.kind = .function) : codeAny (model prog w) A (.call (.ref f) args) R s := by
  have X := X₀.keeps F.keep
  have T' := T.keeps F.keep
  obtain ⟨_, BG, _, lv⟩ := groundX (R := R) B F (News.nil (h₀ := h₀) (L := L) (h := s.heap)) hA hf hke
  refine codeAny_call_function hroom (X _ _ ho) rfl hco hgen rfl (codeRec_of X hcd) (hbind _ _ _ _ ?_)
  refine wpAny_newFunctionEnv_cells hk (kindsX hkind _) fun env' he s' x => ?_
  subst he
  refine ⟨T'.nolimit.keeps x.toInCall.keep, codeAny_func ?_⟩
  obtain ⟨h₁, tk, rfl, _⟩ := x.done
  obtain ⟨cells, NC, Y⟩ := Cl.news (h₀ := s.heap) (Nat.le_refl _) fun n c hm => ⟨x.cell n c (lookup_of_mem_nodup (cellsFrom_names scope.names 0 (s.heap.objs.size + 1) [] [] rfl ▸ hnd) hm), x.above n c hm⟩
  exact wpAny_mono (h s.heap.objs.size h₁ tk cells ⟨x.toInCall.ns, x.toInCall.keep, Nat.le_refl _⟩ NC Y BG X T') (fun fl s' hl => lv _ _ hl) fun _ _ y => y
end
end Mine

namespace Mine
open PySem PySem.W PyProof.Rows
def lev0 (M : Int) : List Bool := (List.range 16).map fun k => (M / 2 ^ k) % 2 == 1
def half (l : List Bool) : List Bool := (List.range (l.length / 2)).map fun k => l.getD (2 * k) false && l.getD (2 * k + 1) false
def lev (M : Int) : Nat → List Bool
  | 0 => lev0 M
  | j + 1 => half (lev M j)
def wh (M : Int) : Nat → List Bool
  | 0 => lev0 M
  | j + 1 => lev M (j + 1) ++ wh M j
theorem bools_of : ∀ {ys : List Value} {bs : List Bool}, CarriedAll ys (bs.map PyData.bool) → ys = bs.map Value.bool
  | _, [], .nil => rfl
  | _, _ :: _, .cons (.bool b) r => by rw [bools_of r]; rfl
theorem lev0_ys {M : Int} {ys : List Value} (hc : CarriedAll ys (((rangeInts 0 1 16).filter (fun _ => true)).map fun k => PyData.bool ((M / 2 ^ k.toNat) % 2 == 1))) : ys = (lev0 M).map Value.bool := by
  refine bools_of ?_
  have e : ((rangeInts 0 1 16).filter (fun _ => true)).map (fun k => PyData.bool ((M / 2 ^ k.toNat) % 2 == 1)) = (lev0 M).map PyData.bool := by
    rw [List.filter_eq_self.mpr (fun _ _ => rfl)]
    simp [rangeInts, lev0, List.map_map, Function.comp_def]
  rw [← e]; exact hc
theorem lev_length (M : Int) : ∀ j, j ≤ 4 → (lev M j).length = 2 ^ (4 - j)
  | 0, _ => by simp [lev, lev0]
  | j + 1, h => by
    have := lev_length M j (by omega)
    rw [lev, half, List.length_map, List.length_range, this, show 4 - j = (4 - (j + 1)) + 1 by omega, Nat.pow_succ]
    omega
theorem lev_even (M : Int) (j : Nat) (h : j < 4) : ∃ q, 1 ≤ q ∧ q ≤ 8 ∧ (lev M j).length = 2 * q := by
  have := lev_length M j (by omega)
  refine ⟨2 ^ (3 - j), Nat.one_le_two_pow, Nat.pow_le_pow_right (by decide) (by omega : 3 - j ≤ 3), ?_⟩
  rw [this, show 4 - j = (3 - j) + 1 by omega, Nat.pow_succ]; omega
theorem range_small (q : Nat) (h : q ≤ 8) : Builtin.Range.small 0 (q : Int) 1 = true := by
  have : q = 0 ∨ q = 1 ∨ q = 2 ∨ q = 3 ∨ q = 4 ∨ q = 5 ∨ q = 6 ∨ q = 7 ∨ q = 8 := by omega
  rcases this with rfl | rfl | rfl | rfl | rfl | rfl | rfl | rfl | rfl <;> decide
theorem bool_at {l : List Bool} {k : Int} {n : Nat} (hk : k.toNat = n) (h : n < l.length) : (l.map Value.bool)[k.toNat]? = some (.bool (l.getD n false)) := by
  rw [hk, List.getElem?_map, List.getD_eq_getElem?_getD, List.getElem?_eq_getElem h]; rfl
theorem half_ys {M : Int} {j q : Nat} {ys : List Value} (hlen : (lev M j).length = 2 * q) (hc : CarriedAll ys (((rangeInts 0 1 q).filter (fun _ => true)).map fun k => PyData.bool ((lev M j).getD (2 * k.toNat) false && (lev M j).getD (2 * k.toNat + 1) false))) : ys = (lev M (j + 1)).map Value.bool := by
  refine bools_of ?_
  have e : ((rangeInts 0 1 q).filter (fun _ => true)).map (fun k => PyData.bool ((lev M j).getD (2 * k.toNat) false && (lev M j).getD (2 * k.toNat + 1) false)) = (lev M (j + 1)).map PyData.bool := by
    rw [List.filter_eq_self.mpr (fun _ _ => rfl), lev, half, hlen, Nat.mul_div_cancel_left _ (by decide)]
    simp [rangeInts, List.map_map, Function.comp_def]
  rw [← e]; exact hc
theorem news_dup {h₀ h : Heap} {L : Addr} {p : Addr × Obj} {news : List (Addr × Obj)} (N : News h₀ L h (p :: news)) : News h₀ L h (p :: p :: news) := fun q hq => by
  rcases List.mem_cons.mp hq with rfl | hq
  · exact N _ (.head _)
  · exact N _ hq
theorem shadow2 {x : Str} {v : Option Value} {c : Str → Option Value} : (fun y => if y = x then v else c y) = fun y => if y = x then v else (fun y => if y = x then v else c y) y := by
  funext y; by_cases h : y = x <;> simp [h]
theorem wh_length (M : Int) : ∀ j, (wh M j).length ≤ 16 * (j + 1)
  | 0 => by simp [wh, lev0]
  | j + 1 => by
    have h1 := wh_length M j
    have h2 : (lev M (j + 1)).length ≤ 16 := by
      clear h1
      induction j with
      | zero => simp [lev, half, lev0]
      | succ k ih => rw [lev, half, List.length_map, List.length_range]; omega
    rw [wh, List.length_append]; omega
theorem keeps_refl (s : Shared) : Keeps s s := ⟨s.heap, s.toks, rfl, fun _ _ e => e⟩
theorem whole_call {w : World} {s : Shared} {env : Env} {base h₀ : Heap} {L : Addr} {m mg mb : Str → Option Value} {mean : ExcName → Option Value} {E : Value → Shared → Prop} {Q : Value → Shared → Prop} {M : Int} {t : Tok}
    (B : Below callerA base [] h₀) (F : Fr h₀ L s.heap m) (X : (hd.heap_39 w.params).In h₀) (T : Top hd.view_39 (looseW hd.view_39 []) mean mg mb h₀)
    (hf : env.frame = some L) (hke : env.scope.kind = .function) (hM0 : 0 ≤ M) (hM1 : M < 65536)
    (h : ∀ D n h' tk, Ext s.heap h' → s.heap.get? D = none → h'.get? D = some (listOf ((false :: wh M 4).map Value.bool).toArray n) → Q (.ref D) { s with heap := h', toks := tk }) :
    wpAny (model PySem.Challenge.rw_nb0074_01.row.toRowW.prog w) (callerA.deeper env) (call (.ref 116) [.int M t] []) Q E s := by
  revert X; k_fill; intro X
  refine wpAny_call ?_
  refine' code_defC0 B F X T rfl hf hke ?k6 ?k7 ?k8 ?k9 ?kB ?kD ?_ ?c2 ?c3 ?c4
  case k6 => k_is
  case k7 => k_is
  case k8 => k_room
  case k9 => exact BindsTo.of_eq rfl
  case kB => exact rfl
  case kD => decide +kernel
  case c2 => exact rfl
  case c3 => exact rfl
  case c4 => exact rfl
  intro L' h' tk' cells' F' N' Y' B' X' T'
  k_cells Y'
  rename_i o1 o2 d1 d2
  k_unmd
  k_fold
  iterate 2 (first | (k_unfold; (try dsimp only)) | (k_end; wrow_close) | walk1 | (dsimp only; walk1) | (leave1; walk_say "STEP leave1"; try dsimp only) | fail "no step")
  rename Fr s.heap _ _ _ => F0
  refine' comp_range (fun _ => true) (fun k => PyData.bool ((M / 2 ^ k.toNat) % 2 == 1)) F0 ?a ?b ?c ?d ?e ?f ?g ?_
  case a => rfl
  case b => with_unfolding_all rfl
  case c => decide
  case d => rfl
  case e => decide
  case f => rfl
  case g => intro _; with_unfolding_all rfl
  iterate 7 (first | (k_unfold; (try dsimp only)) | (k_end; wrow_close) | walk1 | (dsimp only; walk1) | (leave1; walk_say "STEP leave1"; try dsimp only) | fail "no step")
  rename Fr s.heap _ _ _ => F1
  rename News s.heap _ _ _ => N1
  rename IsRange _ _ _ _ _ _ _ _ => R1
  refine ⟨_, _, _, _, _, _, _, 16, rfl, R1, by decide, by decide, by rw [sizeLine_eq]; decide, F1, N1, ?_, ?_, ?_⟩
  · intro C a t s₂ m₂ E' hC h0 h1 hn hm hk F₂ N₂
    exact wpAny_tests_nil ⟨rfl, keeps_refl _⟩
  · intro C a t s₂ m₂ E' hC h0 h1 _ hn hm hk F₂ N₂
    have hE := InElt.start s₂.heap
    k_unmd
    k_fold
    iterate 14 (first | (k_unfold; (try dsimp only)) | (k_end; wrow_close) | walk1 | (dsimp only; walk1) | (leave1; walk_say "STEP leave1"; try dsimp only) | fail "no step")
    refine ⟨?_, _, _, rfl, fun _ _ e => e⟩
    rw [fdp, fm2]; exact .bool _
  · intro D ys k h5 tk5 hE5 F5 N5 hne hc
    have k1 : @Ne Nat (L' + 1 + 1) D := hne _ (.head _)
    have k2 : @Ne Nat (L' + 1) D := hne _ (.tail _ (.head _))
    iterate 7 (first | (k_unfold; (try dsimp only)) | (k_end; wrow_close) | walk1 | (dsimp only; walk1) | (leave1; walk_say "STEP leave1"; try dsimp only) | fail "no step")
    rename Fr s.heap _ _ _ => F6
    rename News s.heap _ _ _ => N6
    rename Obj.data _ = Data.cell (some (Value.ref D)) => d6
    obtain rfl := lev0_ys hc
    have N6' := news_dup N6
    refine' While_invK (n₀ := 4) (fun m₀ _ n m₁ nx => ∃ j Dl Dw kl kw o, j ≤ 4 ∧ n = 4 - j ∧ nx = [(Dl, listOf ((lev M j).map Value.bool).toArray kl), (Dw, listOf ((wh M j).map Value.bool).toArray kw), (L' + 1 + 1, o), (L' + 1, o2)] ∧ o.data = .cell (some (.ref Dl)) ∧ @Ne Nat (L' + 1 + 1) Dl ∧ @Ne Nat (L' + 1 + 1) Dw ∧ m₁ = fun y => if y = Str.ofString "whole" then some (.ref Dw) else m₀ y) F6 N6' ?s ?t ?e
    case e => passes_own
    case s => exact ⟨0, D, D, _, _, _, by decide, rfl, rfl, d6, k1, k1, shadow2⟩
    case t =>
      rintro n m₁ nx hq tq F7 N7 ⟨j, Dl, Dw, kl, kw, o, hj, rfl, rfl, hd, n1, n2, rfl⟩
      have hlen := lev_length M j hj
      iterate 7 (first | (k_unfold; (try dsimp only)) | (k_end; wrow_close) | walk1 | (dsimp only; walk1) | (leave1; walk_say "STEP leave1"; try dsimp only) | fail "no step")
      refine len_list (items := ((lev M j).map Value.bool).toArray) ⟨_, N7.get (.head _), rfl, _, rfl⟩ ?_ ?_
      · simp only [List.size_toArray, List.length_map, hlen]
        have : 2 ^ (4 - j) ≤ 2 ^ 4 := Nat.pow_le_pow_right (by decide) (by omega)
        omega
      simp only [List.size_toArray, List.length_map]
      iterate 3 (first | (k_unfold; (try dsimp only)) | (k_end; wrow_close) | walk1 | (dsimp only; walk1) | (leave1; walk_say "STEP leave1"; try dsimp only) | fail "no step")
      rcases Nat.lt_or_ge j 4 with hj4 | hj4
      · obtain ⟨q, hq1, hq2, hlen⟩ := lev_even M j hj4
        rw [hlen]
        refine ite_pos (by simp; omega) ?_
        iterate 3 (first | (k_unfold; (try dsimp only)) | (k_end; wrow_close) | walk1 | (dsimp only; walk1) | (leave1; walk_say "STEP leave1"; try dsimp only) | fail "no step")
        refine' comp_range (fun _ => true) (fun k => PyData.bool ((lev M j).getD (2 * k.toNat) false && (lev M j).getD (2 * k.toNat + 1) false)) F7 ?a ?b ?c ?d ?e ?f ?g ?_
        case a => rfl
        case b => with_unfolding_all rfl
        case c => decide
        case d => rfl
        case e => decide
        case f => rfl
        case g => intro _; with_unfolding_all rfl
        iterate 11 (first | (k_unfold; (try dsimp only)) | (k_end; wrow_close) | walk1 | (dsimp only; walk1) | (leave1; walk_say "STEP leave1"; try dsimp only) | fail "no step")
        refine len_list (items := ((lev M j).map Value.bool).toArray) ⟨_, N7.get (.head _), rfl, _, rfl⟩ ?_ ?_
        · simp only [List.size_toArray, List.length_map, hlen]
          omega
        simp only [List.size_toArray, List.length_map, hlen]
        iterate 4 (first | (k_unfold; (try dsimp only)) | (k_end; wrow_close) | walk1 | (dsimp only; walk1) | (leave1; walk_say "STEP leave1"; try dsimp only) | fail "no step")
        rename Fr s.heap _ _ _ => F8
        rename News s.heap _ _ _ => N8
        rename IsRange _ _ _ _ _ _ _ _ => R2
        have eq : Int.fdiv ((2 * q : Nat) : Int) 2 = (q : Int) := by rw [fd2]; omega
        rw [eq] at R2
        refine ⟨_, _, _, _, _, _, _, q, rfl, R2, range_small q hq2, by rw [rangeSize_nat]; omega, by rw [sizeLine_eq]; omega, F8, N8, ?_, ?_, ?_⟩
        · intro C a t s₂ m₂ E' hC h0 h1 hn hm hk F₂ N₂
          exact wpAny_tests_nil ⟨rfl, keeps_refl _⟩
        · intro C a t s₂ m₂ E' hC h0 h1 _ hn hm hk F₂ N₂
          have hE := InElt.start s₂.heap
          k_unmd
          k_fold
          iterate 7 (first | (k_unfold; (try dsimp only)) | (k_end; wrow_close) | walk1 | (dsimp only; walk1) | (leave1; walk_say "STEP leave1"; try dsimp only) | fail "no step")
          refine item_at (vs := (lev M j).map Value.bool) (v := .bool ((lev M j).getD (2 * a.toNat) false)) ⟨_, N₂.get (.head _), rfl, _, rfl⟩ (by omega) (by omega) (bool_at (by omega) (by omega)) ?_
          iterate 1 (first | (k_unfold; (try dsimp only)) | (k_end; wrow_close) | walk1 | (dsimp only; walk1) | (leave1; walk_say "STEP leave1"; try dsimp only) | fail "no step")
          refine ite_cases (fun c => ?_) (fun c => ?_)
          · iterate 10 (first | (k_unfold; (try dsimp only)) | (k_end; wrow_close) | walk1 | (dsimp only; walk1) | (leave1; walk_say "STEP leave1"; try dsimp only) | fail "no step")
            refine item_at (vs := (lev M j).map Value.bool) (v := .bool ((lev M j).getD (2 * a.toNat + 1) false)) ⟨_, N₂.get (.head _), rfl, _, rfl⟩ (by omega) (by omega) (bool_at (by omega) (by omega)) ?_
            iterate 1 (first | (k_unfold; (try dsimp only)) | (k_end; wrow_close) | walk1 | (dsimp only; walk1) | (leave1; walk_say "STEP leave1"; try dsimp only) | fail "no step")
            refine ⟨?_, _, _, rfl, fun _ _ e => e⟩
            rw [c, Bool.true_and]; exact .bool _
          · iterate 1 (first | (k_unfold; (try dsimp only)) | (k_end; wrow_close) | walk1 | (dsimp only; walk1) | (leave1; walk_say "STEP leave1"; try dsimp only) | fail "no step")
            refine ⟨?_, _, _, rfl, fun _ _ e => e⟩
            have c' : (lev M j).getD (2 * a.toNat) false = false := by simpa using c
            rw [c', Bool.false_and]; exact .bool _
        · intro D8 ys8 k8 h8 tk8 hE8 F9 N9 hne8 hc8
          have k81 : @Ne Nat (L' + 1 + 1) D8 := hne8 _ (.tail _ (.tail _ (.head _)))
          have k82 : @Ne Nat Dl D8 := hne8 _ (.head _)
          have k83 : @Ne Nat Dw D8 := hne8 _ (.tail _ (.head _))
          have k84 : @Ne Nat (L' + 1) D8 := hne8 _ (.tail _ (.tail _ (.tail _ (.head _))))
          iterate 7 (first | (k_unfold; (try dsimp only)) | (k_end; wrow_close) | walk1 | (dsimp only; walk1) | (leave1; walk_say "STEP leave1"; try dsimp only) | fail "no step")
          rename Fr s.heap _ _ _ => F10
          rename News s.heap _ _ _ => N10
          rename Obj.data _ = Data.cell (some (Value.ref D8)) => d10
          obtain rfl := half_ys hlen hc8
          have hw := wh_length M j
          refine add_lists (vs := (lev M (j + 1)).map Value.bool) (ws := (wh M j).map Value.bool) F10 N10 ⟨_, N10.get (.head _), rfl, _, rfl⟩ ⟨_, N10.get (.tail _ (.tail _ (.head _))), rfl, _, rfl⟩ (fun h11 F11 N11 => ?_) ?_
          rotate_left
          · rw [List.length_map, List.length_map, lev_length M (j + 1) (by omega), sizeLine_eq]
            have : 2 ^ (4 - (j + 1)) ≤ 2 ^ 4 := Nat.pow_le_pow_right (by decide) (by omega)
            omega
          rw [← List.map_append] at N11
          have n12 : @Ne Nat (L' + 1 + 1) _ := Nat.ne_of_lt (Heap.lt_size (N10.get (.tail _ (.tail _ (.tail _ (.head _))))))
          iterate 2 (first | (k_unfold; (try dsimp only)) | (k_end; wrow_close) | walk1 | (dsimp only; walk1) | (leave1; walk_say "STEP leave1"; try dsimp only) | fail "no step")
          rename Fr s.heap _ _ _ => F12
          rename News s.heap _ _ _ => N12
          refine WhileStep.intro (n' := 4 - (j + 1)) F12 (news₂ := [(D8, _), (_, _), (L' + 1 + 1, _), (L' + 1, o2)]) (fun p hp => N12 p ?_) (by omega) ⟨j + 1, _, _, k8, 0, _, by omega, rfl, rfl, d10, k81, n12, shadow⟩
          simp only [List.mem_cons, List.not_mem_nil, or_false] at hp ⊢
          rcases hp with rfl | rfl | rfl | rfl <;> simp [wh]
      · obtain rfl : j = 4 := by omega
        refine ite_neg (by rw [hlen]; simp) ?_
        iterate 10 (first | (k_unfold; (try dsimp only)) | (k_end; wrow_close) | walk1 | (dsimp only; walk1) | (leave1; walk_say "STEP leave1"; try dsimp only) | fail "no step")
        rename Fr s.heap _ _ _ => F13
        rename News s.heap _ _ _ => N13
        have hw := wh_length M 4
        refine add_lists (vs := [Value.bool false]) (ws := (wh M 4).map Value.bool) F13 N13 ⟨_, N13.get (.head _), rfl, _, rfl⟩ ⟨_, N13.get (.tail _ (.tail _ (.head _))), rfl, _, rfl⟩ (fun h14 F14 N14 => ?_) ?_
        rotate_left
        · rw [List.length_map, sizeLine_eq]; simp; omega
        iterate 2 (first | (k_unfold; (try dsimp only)) | (k_end; wrow_close) | walk1 | (dsimp only; walk1) | (leave1; walk_say "STEP leave1"; try dsimp only) | fail "no step")
        exact h _ _ _ _ F14.keep (N14.fresh (.head _)) (N14.get (.head _))
end Mine

namespace Mine
open PySem PySem.W PyProof.Rows
theorem owner_setit : Manifest.owners.lookup (String.ofList ['r', 'o', 't', 'a', 'r', 'e', 't', 'i', '_', 't', 'e', 's'].reverse) = some Manifest.sig_set_iterator := by kernel_rfl
theorem slot_setit_next : Slot "set_iterator" "__next__" "set_iterator.__next__" :=
  .of (owner := "set_iterator") (n := "__next__") (by rw [typeLookup_type, builtinLookup_eq_fast]; kernel_rfl) (by decide +kernel) (by decide +kernel) (by decide +kernel)
    (by first | exact .inl (by decide +kernel) | exact .inr (by decide +kernel)) (by rw [isSubtype_type]; kernel_rfl)
theorem entry_setit_next : entryFor table "set_iterator.__next__" = some Builtin.«set_iterator.__next__» := entryFor_of_tree (by kernel_rfl)
theorem args_setit_next (a : Value) : argsOk "set_iterator.__next__" ⟨[a], []⟩ := by
  unfold argsOk; rw [signature?_of (id := "set_iterator.__next__") (n := ['_', '_', 't', 'x', 'e', 'n', '_', '_']) (o := ['r', 'o', 't', 'a', 'r', 'e', 't', 'i', '_', 't', 'e', 's']) (by kernel_rfl) owner_setit]; kernel_rfl
theorem slot_setit_iter : Slot "set_iterator" "__iter__" "set_iterator.__iter__" :=
  .of (owner := "set_iterator") (n := "__iter__") (by rw [typeLookup_type, builtinLookup_eq_fast]; kernel_rfl) (by decide +kernel) (by decide +kernel) (by decide +kernel)
    (by first | exact .inl (by decide +kernel) | exact .inr (by decide +kernel)) (by rw [isSubtype_type]; kernel_rfl)
theorem args_setit_iter (a : Value) : argsOk "set_iterator.__iter__" ⟨[a], []⟩ := by
  unfold argsOk; rw [signature?_of (id := "set_iterator.__iter__") (n := ['_', '_', 'r', 'e', 't', 'i', '_', '_']) (o := ['r', 'o', 't', 'a', 'r', 'e', 't', 'i', '_', 't', 'e', 's']) (by kernel_rfl) owner_setit]; kernel_rfl
theorem entry_setit_iter : entryFor table "set_iterator.__iter__" = some Builtin.«dict_keyiterator.__iter__» :=
  entryFor_alias (id' := "dict_keyiterator.__iter__") (by kernel_rfl) rfl (by decide +kernel) (by kernel_rfl)
theorem entry_set_iter : entryFor table "set.__iter__" = some Builtin.«frozenset.__iter__» :=
  entryFor_alias (id' := "frozenset.__iter__") (by kernel_rfl) rfl (by decide +kernel) (by kernel_rfl)
end Mine

namespace Mine
open PySem PySem.W PyProof.Rows
theorem erase_perm {α : Type} : ∀ (l : List α) (i : Nat) (h : i < l.length), (l[i] :: l.eraseIdx i).Perm l
  | x :: xs, 0, _ => by simpa using List.Perm.refl _
  | x :: xs, i + 1, h => by
    have ih := erase_perm xs i (by simpa using h)
    simp only [List.getElem_cons_succ, List.eraseIdx_cons_succ]
    exact (List.Perm.swap _ _ _).trans (ih.cons x)
section
variable {prog : Program} {w : World} {A : Around} {E : Value → Shared → Prop} {s : Shared}
theorem wpAny_choose {M : Model} {src : Source} {n : Nat} {Q : Nat → Shared → Prop} (hn : n ≠ 0) (h : Q (M.w.draws src (s.drawn.get src) % n) { s with drawn := s.drawn.bump src }) : wpAny M A (choose src n) Q E s :=
  fun _ _ _ => ⟨hn, h⟩
theorem wpAny_drawOrder {M : Model} {α : Type} : ∀ (n : Nat) (xs : List α) (s : Shared) {Q : List α → Shared → Prop}, xs.length ≤ n →
    (∀ out d, out.Perm xs → Q out { s with drawn := d }) → wpAny M A (drawOrder n xs) Q E s
  | 0, xs, s, Q, hn, h => by
    obtain rfl : xs = [] := List.length_eq_zero_iff.mp (Nat.le_zero.mp hn)
    unfold drawOrder
    exact wpAny_pure (h [] s.drawn (List.Perm.refl _))
  | n + 1, [], s, Q, hn, h => by
    unfold drawOrder
    exact wpAny_pure (h [] s.drawn (List.Perm.refl _))
  | n + 1, x :: xs, s, Q, hn, h => by
    unfold drawOrder
    refine wpAny_bind (wpAny_choose (by simp) ?_)
    have hlt : M.w.draws .order (s.drawn.get .order) % (x :: xs).length < (x :: xs).length := Nat.mod_lt _ (by simp)
    generalize M.w.draws .order (s.drawn.get .order) % (x :: xs).length = i at hlt
    rw [List.getElem?_eq_getElem hlt]
    refine wpAny_bind (wpAny_drawOrder n ((x :: xs).eraseIdx i) _ (by rw [List.length_eraseIdx_of_lt hlt]; simp at hn ⊢; omega) fun out d hp => wpAny_pure (h _ d ?_))
    exact (List.Perm.cons _ hp).trans (erase_perm _ i hlt)
abbrev itObj (first : Value) (i : Int) (sv : Value) (n ep : Int) : Obj := { cls := .type "set_iterator", data := .fields #[first, .int i 0, sv, .int n 0, .int ep 0] }
theorem next_drawn {I T a : Addr} {i n : Nat} {o oT : Obj} {places : Array Value} {es : Array (Int × Value)} {ep nT : Nat} {t : SetTable} {p : Nat} {hx : Int} {x : Value} {Q : Option Value → Shared → Prop}
    (hI : s.heap.get? I = some (itObj (.ref T) i (.ref a) n ep)) (hT : s.heap.get? T = some oT) (hTd : oT.data = .seq places nT) (ha : s.heap.get? a = some o) (hd : o.data = .set es ep t) (hf : t.fits es.size = true) (hn : es.size = n)
    (hp : places[i]? = some (.int p 0)) (he : es[p]? = some (hx, x))
    (hQ : ∀ h', h'.get? I = some (itObj (.ref T) ((i + 1 : Nat) : Int) (.ref a) n ep) → Heap.SameBut I s.heap h' → Q (some x) { s with heap := h' }) :
    wpAny (model prog w) A (pyNext (.ref I)) Q E s := by
  have hty : s.TypeIs (.ref I) "set_iterator" := ⟨_, hI, rfl⟩
  unfold pyNext
  refine wpAny_bind (wpAny_attempt (wpAny_callSpecial?_slot (name := Str.ofString "__next__") hty slot_setit_next
    (wpAny_call_entry slot_setit_next hty entry_setit_next ?_ (args_setit_next _))))
  show wpAny _ _ (fieldsOf (.ref I) >>= _) _ _ s
  refine wpAny_bind (wpAny_fieldsOf hI rfl ?_)
  dsimp only
  refine wpAny_bind (wpAny_setEntries_of ha hd hf ?_)
  rw [hn]
  simp only [bne_self_eq_false, Bool.false_eq_true, if_false]
  refine wpAny_bind (wpAny_seqItems hT hTd ?_)
  simp only [Int.toNat_natCast, hp]
  refine wpAny_bind ?_
  unfold setNextDrawn
  refine wpAny_bind (wpAny_setState_of ha hd hf ?_)
  dsimp only
  simp only [Int.toNat_natCast, bne_self_eq_false, Bool.false_eq_true, if_false, he]
  refine wpAny_pure (wpAny_bind (wpAny_setField_rec hI (by simp) fun h' hI' hs' => wpAny_pure ⟨x, rfl, wpAny_pure (hQ h' ?_ hs')⟩))
  rw [hI']; simp [rawInt, itObj]
theorem stop_tail {I : Addr} {Q : Option Value → Shared → Prop} {h₁ : Heap} (hh : A.handled = none) (hs : Heap.ExtBut I s.heap h₁)
    (hQ : ∀ h', Heap.ExtBut I s.heap h' → Q none { s with heap := h' }) :
    wpAny (model prog w) A.in1 (newExc (.type "StopIteration") [] >>= fun e => (raiseNew e : Sem Fin)) (fun _ _ => False)
      (fun e s' => wpAny (model prog w) A (do if ← isInstance e (.type "StopIteration") then pure none else throw e) Q E s') { s with heap := h₁ } := by
  refine wpAny_bind ?_
  simp only [newExc, newTuple]
  refine wpAny_bind (wpAny_newObj_type ?_ (by size_fits))
  refine wpAny_bind (m := firstArgMember _ _) (wpAny_of_eq (a := Value.none) (by first | rfl | (simp only [firstArgMember]; rfl)) ?_)
  refine wpAny_newObj_type ?_ (by size_fits)
  simp only [raiseNew]
  refine wpAny_bind (wpAny_handled ?_)
  rw [show A.in1.handled = none from hh]
  refine wpAny_bind (wpAny_pure (wpAny_throw ?_))
  refine wpAny_bind (wpAny_isInstance (T := "StopIteration") (b := true) ⟨_, Heap.get?_push_size _ rfl, rfl⟩ isSubtype_stop ?_)
  exact wpAny_pure (hQ _ ((hs.push _).push _))
theorem end_drawn {I T a : Addr} {i n : Nat} {o oT : Obj} {places : Array Value} {es : Array (Int × Value)} {ep nT : Nat} {t : SetTable} {Q : Option Value → Shared → Prop} (hh : A.handled = none)
    (hI : s.heap.get? I = some (itObj (.ref T) i (.ref a) n ep)) (hT : s.heap.get? T = some oT) (hTd : oT.data = .seq places nT) (ha : s.heap.get? a = some o) (hd : o.data = .set es ep t) (hf : t.fits es.size = true) (hn : es.size = n)
    (hp : places[i]? = none)
    (hQ : ∀ h', Heap.ExtBut I s.heap h' → Q none { s with heap := h' }) :
    wpAny (model prog w) A (pyNext (.ref I)) Q E s := by
  have hty : s.TypeIs (.ref I) "set_iterator" := ⟨_, hI, rfl⟩
  unfold pyNext
  refine wpAny_bind (wpAny_attempt (wpAny_callSpecial?_slot (name := Str.ofString "__next__") hty slot_setit_next
    (wpAny_call_entry slot_setit_next hty entry_setit_next ?_ (args_setit_next _))))
  show wpAny _ _ (fieldsOf (.ref I) >>= _) _ _ s
  refine wpAny_bind (wpAny_fieldsOf hI rfl ?_)
  dsimp only
  refine wpAny_bind (wpAny_setEntries_of ha hd hf ?_)
  rw [hn]
  simp only [bne_self_eq_false, Bool.false_eq_true, if_false]
  refine wpAny_bind (wpAny_seqItems hT hTd ?_)
  simp only [Int.toNat_natCast, hp]
  refine wpAny_bind (wpAny_setField_rec hI (by simp) fun h1 hI1 hs1 => ?_)
  refine wpAny_bind (wpAny_setField_rec hI1 (by simp) fun h2 hI2 hs2 => ?_)
  exact wpAny_mono (stop_tail (s := s) hh (hs1.trans hs2).extBut hQ) (fun _ _ f => f.elim) (fun _ _ h => h)
theorem wpAny_if_neg {M : Model} {α : Type} {c : Prop} [Decidable c] {a b : Sem α} {Q : α → Shared → Prop} (hc : ¬ c) (h : wpAny M A b Q E s) : wpAny M A (if c then a else b) Q E s := by
  rw [if_neg hc]; exact h
theorem wpAny_if_pos {M : Model} {α : Type} {c : Prop} [Decidable c] {a b : Sem α} {Q : α → Shared → Prop} (hc : c) (h : wpAny M A a Q E s) : wpAny M A (if c then a else b) Q E s := by
  rw [if_pos hc]; exact h
theorem next_plain {I a : Addr} {i n slot nxt : Nat} {o : Obj} {es : Array (Int × Value)} {ep : Nat} {t : SetTable} {x : Value} {Q : Option Value → Shared → Prop}
    (hI : s.heap.get? I = some (itObj (.int slot 0) i (.ref a) n ep)) (ha : s.heap.get? a = some o) (hd : o.data = .set es ep t) (hf : t.fits es.size = true) (hn : es.size = n)
    (hx : ∀ (Q' : Option (Value × Nat) → Shared → Prop) (E' : Value → Shared → Prop), Q' (some (x, nxt)) s → wpAny (model prog w) A.in1 (setNext a slot i ep) Q' E' s)
    (hQ : ∀ h', h'.get? I = some (itObj (.int nxt 0) ((i + 1 : Nat) : Int) (.ref a) n ep) → Heap.SameBut I s.heap h' → Q (some x) { s with heap := h' }) :
    wpAny (model prog w) A (pyNext (.ref I)) Q E s := by
  have hty : s.TypeIs (.ref I) "set_iterator" := ⟨_, hI, rfl⟩
  unfold pyNext
  refine wpAny_bind (wpAny_attempt (wpAny_callSpecial?_slot (name := Str.ofString "__next__") hty slot_setit_next
    (wpAny_call_entry slot_setit_next hty entry_setit_next ?_ (args_setit_next _))))
  show wpAny _ _ (fieldsOf (.ref I) >>= _) _ _ s
  refine wpAny_bind (wpAny_fieldsOf hI rfl ?_)
  dsimp only
  refine wpAny_bind (wpAny_setEntries_of ha hd hf ?_)
  rw [hn]
  simp only [bne_self_eq_false, Bool.false_eq_true, if_false, Int.toNat_natCast]
  refine wpAny_bind (hx _ _ ?_)
  dsimp only
  refine wpAny_bind (wpAny_setField_rec hI (by simp) fun h1 hI1 hs1 => ?_)
  refine wpAny_bind (wpAny_setField_rec hI1 (by simp) fun h2 hI2 hs2 => ?_)
  refine wpAny_pure ⟨x, rfl, wpAny_pure (hQ h2 ?_ (hs1.trans hs2))⟩
  rw [hI2]; simp [rawInt, itObj]
theorem end_plain {I a : Addr} {i n slot : Nat} {o : Obj} {es : Array (Int × Value)} {ep : Nat} {t : SetTable} {Q : Option Value → Shared → Prop} (hh : A.handled = none)
    (hI : s.heap.get? I = some (itObj (.int slot 0) i (.ref a) n ep)) (ha : s.heap.get? a = some o) (hd : o.data = .set es ep t) (hf : t.fits es.size = true) (hn : es.size = n)
    (hx : ∀ (Q' : Option (Value × Nat) → Shared → Prop) (E' : Value → Shared → Prop), Q' none s → wpAny (model prog w) A.in1 (setNext a slot i ep) Q' E' s)
    (hQ : ∀ h', Heap.ExtBut I s.heap h' → Q none { s with heap := h' }) :
    wpAny (model prog w) A (pyNext (.ref I)) Q E s := by
  have hty : s.TypeIs (.ref I) "set_iterator" := ⟨_, hI, rfl⟩
  unfold pyNext
  refine wpAny_bind (wpAny_attempt (wpAny_callSpecial?_slot (name := Str.ofString "__next__") hty slot_setit_next
    (wpAny_call_entry slot_setit_next hty entry_setit_next ?_ (args_setit_next _))))
  show wpAny _ _ (fieldsOf (.ref I) >>= _) _ _ s
  refine wpAny_bind (wpAny_fieldsOf hI rfl ?_)
  dsimp only
  refine wpAny_bind (wpAny_setEntries_of ha hd hf ?_)
  rw [hn]
  simp only [bne_self_eq_false, Bool.false_eq_true, if_false, Int.toNat_natCast]
  refine wpAny_bind (hx _ _ ?_)
  dsimp only
  refine wpAny_bind (wpAny_setField_rec hI (by simp) fun h1 hI1 hs1 => ?_)
  exact wpAny_mono (stop_tail (s := s) hh hs1.extBut hQ) (fun _ _ f => f.elim) (fun _ _ h => h)
theorem setNext_text {a : Addr} {o : Obj} {es : Array (Int × Value)} {ep slot i : Nat} {t : SetTable} {Q : Option (Value × Nat) → Shared → Prop}
    (ha : s.heap.get? a = some o) (hd : o.data = .set es ep t) (hf : t.fits es.size = true) (hb : w.params.followText "set-order" = true)
    (h : Q (((pickOrder (w.params.setOrder a ep) es)[i]?).map fun e => (e.2, slot)) s) : wpAny (model prog w) A (setNext a slot i ep) Q E s := by
  unfold setNext
  refine wpAny_bind (wpAny_setState_of ha hd hf ?_)
  dsimp only
  refine wpAny_bind (wpAny_bind (wpAny_askSetting (wpAny_pure ?_)))
  simp only [model, hb, if_true, bne_self_eq_false, Bool.false_eq_true, if_false]
  refine wpAny_bind ?_
  unfold setWalk
  refine wpAny_bind (wpAny_setState_of ha hd hf ?_)
  dsimp only
  refine wpAny_bind (wpAny_bind (wpAny_askSetting (wpAny_pure ?_)))
  simp only [model, hb, if_true]
  exact wpAny_bind (wpAny_askSetting (wpAny_pure (wpAny_pure h)))
theorem setNext_place {a : Addr} {o : Obj} {es : Array (Int × Value)} {ep slot i : Nat} {t : SetTable} {Q : Option (Value × Nat) → Shared → Prop}
    (ha : s.heap.get? a = some o) (hd : o.data = .set es ep t) (hf : t.fits es.size = true) (hb : w.params.followText "set-order" = false) (hled : (!t.led && !es.isEmpty) = false) (hsz : es.size ≤ 1)
    (h : Q (match es[SetTable.below t.place slot]?, t.place[SetTable.below t.place slot]? with | some (_, x), some j => some (x, j + 1) | _, _ => none) s) : wpAny (model prog w) A (setNext a slot i ep) Q E s := by
  unfold setNext
  refine wpAny_bind (wpAny_setState_of ha hd hf ?_)
  dsimp only
  refine wpAny_bind (wpAny_bind (wpAny_askSetting (wpAny_pure ?_)))
  simp only [model, hb, Bool.false_eq_true, if_false]
  refine wpAny_if_neg ?_ (wpAny_bind (wpAny_of_eq (a := ()) ?_ (wpAny_pure h)))
  · show ¬ ((!t.plain && decide (es.size > 1)) = true)
    rw [decide_eq_false (by omega), Bool.and_false]; exact Bool.false_ne_true
  · show (if (!t.led && !es.isEmpty) = true then unsupported "set:maker-not-led" else pure ()) = pure ()
    rw [hled]; rfl
end
end Mine

namespace Mine
open PySem PySem.W PyProof.Rows
theorem pick_go {α : Type} (next : Nat → Nat) : ∀ (fuel k : Nat) (left : List α) (out : Array α), left.length ≤ fuel → (pickOrder.go next fuel k left out).toList.Perm (out.toList ++ left)
  | 0, k, left, out, h => by
    obtain rfl : left = [] := List.length_eq_zero_iff.mp (Nat.le_zero.mp h)
    simp [pickOrder.go]
  | fuel + 1, k, left, out, h => by
    unfold pickOrder.go
    by_cases hl : left = []
    · subst hl; simp
    · have hlt : next k % left.length < left.length := Nat.mod_lt _ (List.length_pos_iff.mpr hl)
      rw [List.getElem?_eq_getElem hlt]
      dsimp only
      refine (pick_go next fuel (k + 1) _ _ (by rw [List.length_eraseIdx_of_lt hlt]; omega)).trans ?_
      rw [Array.toList_push, List.append_assoc]
      exact List.Perm.append_left _ (erase_perm left _ hlt)
theorem pick_perm {α : Type} (next : Nat → Nat) (xs : Array α) : (pickOrder next xs).toList.Perm xs.toList := by
  have := pick_go next xs.size 0 xs.toList #[] (by simp)
  simpa [pickOrder] using this
theorem below_one_zero (p : Nat) : SetTable.below #[p] 0 = 0 := by simp [SetTable.below, SetTable.below.go]
theorem below_one_succ (p : Nat) : SetTable.below #[p] (p + 1) = 1 := by simp [SetTable.below, SetTable.below.go]
section
variable {prog : Program} {w : World} {A : Around} {E : Value → Shared → Prop} {s : Shared}
def StrSet (w : World) (o : Obj) (vs : List Value) : Prop :=
  o.ExactSet ∧ ∃ es ep t, o.data = .set es ep t ∧ t.fits es.size = true ∧ t.led = (!w.params.followText "set-order") ∧ (0 < es.size → t.plain = false) ∧ (es.toList.map (·.2)).Perm vs ∧
    ∀ e ∈ es.toList, ∃ k u, e.2 = .str k u ∧ e.1 = hashStr w k
def orderOf (es : Array (Int × Value)) (places : List Nat) : List Value := places.filterMap fun (p : Nat) => (es[p]?).map Prod.snd
/-- as StrSet, the maker's mark asked of a filled one alone -/
def StrSetW (w : World) (o : Obj) (vs : List Value) : Prop :=
  o.ExactSet ∧ ∃ es ep t, o.data = .set es ep t ∧ t.fits es.size = true ∧ (0 < es.size → t.led = (!w.params.followText "set-order")) ∧ (0 < es.size → t.plain = false) ∧ (es.toList.map (·.2)).Perm vs ∧
    ∀ e ∈ es.toList, ∃ k u, e.2 = .str k u ∧ e.1 = hashStr w k
theorem StrSet.toW {o : Obj} {vs : List Value} (h : StrSet w o vs) : StrSetW w o vs :=
  let ⟨a, es, ep, t, b, c, d, e, f, g⟩ := h; ⟨a, es, ep, t, b, c, fun _ => d, e, f, g⟩
theorem strSetW_empty (led : Bool) : StrSetW w { cls := .type "set", dict := none, data := .set #[] 0 (.fresh 0 0 led) } [] :=
  ⟨⟨rfl, rfl, rfl⟩, #[], 0, _, rfl, rfl, fun h => absurd h (by simp), fun h => absurd h (by simp), by simp, fun e he => by simp at he⟩
theorem walks_drawn {I T a : Addr} {o oT : Obj} {places : List Nat} {es : Array (Int × Value)} {ep nT : Nat} {t : SetTable} (hh : A.handled = none) (hTI : T ≠ I) (haI : a ≠ I)
    (hTd : oT.data = .seq (places.map fun (p : Nat) => rawInt (p : Int)).toArray nT) (hd : o.data = .set es ep t) (hf : t.fits es.size = true) (hp : places.Perm (List.range es.size)) :
    Walks prog w A I [I, T, a] [I] (orderOf es places).length (fun i v => (orderOf es places)[i]? = some v)
      (fun i h => h.get? I = some (itObj (.ref T) (i : Nat) (.ref a) (es.size : Nat) (ep : Nat)) ∧ h.get? T = some oT ∧ h.get? a = some o) := by
  have hall : ∀ p ∈ places, p < es.size := fun p hm => List.mem_range.mp (hp.mem_iff.mp hm)
  have hget : ∀ i : Nat, (orderOf es places)[i]? = (places[i]?).bind fun (p : Nat) => (es[p]?).map Prod.snd := by
    intro i
    clear hTd hp
    unfold orderOf
    induction places generalizing i with
    | nil => simp
    | cons p r ih =>
      have h1 : p < es.size := hall p (.head _)
      have ih' := ih (fun q hq => hall q (.tail _ hq))
      cases i with
      | zero => simp [h1]
      | succ i => simpa [h1] using ih' i
  have hlen : (orderOf es places).length = places.length := by
    clear hTd hp hget
    unfold orderOf
    induction places with
    | nil => rfl
    | cons p r ih => simp [hall p (.head _), ih (fun q hq => hall q (.tail _ hq))]
  refine { sub := ?_, frame := ?_, item := ?_, done := ?_, self := ?_ }
  · intro b hb; rw [List.mem_singleton.mp hb]; exact .head _
  · rintro i h h' ⟨h1, h2, h3⟩ hk
    exact ⟨hk I (by simp) _ h1, hk T (by simp) _ h2, hk a (by simp) _ h3⟩
  · rintro i s Q E hi ⟨h1, h2, h3⟩ hQ
    rw [hlen] at hi
    have hpl := hall places[i] (List.getElem_mem hi)
    refine next_drawn (i := i) (p := places[i]) (hx := es[places[i]].1) (x := es[places[i]].2) h1 h2 hTd h3 hd hf rfl ?_ (by simp [hpl]) fun h' hI' hs' => ?_
    · simp [hi, rawInt]
    · refine hQ _ h' s.toks ?_ ⟨hI', (hs'.2 T hTI).trans h2, (hs'.2 a haI).trans h3⟩ fun b o hb e => (hs'.2 b (by simpa using hb)).trans e
      rw [hget]; simp [hi, hpl]
  · rintro s Q E ⟨h1, h2, h3⟩ hQ
    refine end_drawn (i := _) hh h1 h2 hTd h3 hd hf rfl ?_ fun h' he => hQ h' s.toks fun b o hb e => he b o (by simpa using hb) e
    rw [hlen]; simp
  · rintro i s Q E ⟨h1, _, _⟩ hQ
    have hty : s.TypeIs (.ref I) "set_iterator" := ⟨_, h1, rfl⟩
    refine wpAny_pyIter_slot hty slot_setit_iter (wpAny_call_entry slot_setit_iter hty entry_setit_iter ?_ (args_setit_iter _))
    show wpAny _ _ (ret (.ref I)) _ _ s
    exact wpAny_pure ⟨_, rfl, "set_iterator", _, hty, slot_setit_next.lookup, hQ⟩
theorem order_perm {es : Array (Int × Value)} {places : List Nat} (hp : places.Perm (List.range es.size)) : (orderOf es places).Perm (es.toList.map Prod.snd) := by
  refine (hp.filterMap _).trans ?_
  have : (List.range es.size).filterMap (fun (p : Nat) => (es[p]?).map Prod.snd) = es.toList.map Prod.snd := by
    rw [← filterMap_getElem?_range es, List.map_filterMap]
  rw [this]
theorem self_walk {I : Addr} {fv : Array Value} {Q : Value → Shared → Prop} (h1 : s.heap.get? I = some { cls := .type "set_iterator", data := .fields fv }) (hQ : Q (.ref I) s) : wpAny (model prog w) A (pyIter (.ref I)) Q E s := by
  have hty : s.TypeIs (.ref I) "set_iterator" := ⟨_, h1, rfl⟩
  refine wpAny_pyIter_slot hty slot_setit_iter (wpAny_call_entry slot_setit_iter hty entry_setit_iter ?_ (args_setit_iter _))
  show wpAny _ _ (ret (.ref I)) _ _ s
  exact wpAny_pure ⟨_, rfl, "set_iterator", _, hty, slot_setit_next.lookup, hQ⟩
theorem walks_text {I a : Addr} {o : Obj} {es : Array (Int × Value)} {ep : Nat} {t : SetTable} (hh : A.handled = none) (haI : a ≠ I)
    (hd : o.data = .set es ep t) (hf : t.fits es.size = true) (hb : w.params.followText "set-order" = true) :
    Walks prog w A I [I, a] [I] ((pickOrder (w.params.setOrder a ep) es).toList.map Prod.snd).length (fun i v => ((pickOrder (w.params.setOrder a ep) es).toList.map Prod.snd)[i]? = some v)
      (fun i h => h.get? I = some (itObj (.int (0 : Nat) 0) (i : Nat) (.ref a) (es.size : Nat) (ep : Nat)) ∧ h.get? a = some o) := by
  refine { sub := ?_, frame := ?_, item := ?_, done := ?_, self := ?_ }
  · intro b hb; rw [List.mem_singleton.mp hb]; exact .head _
  · rintro i h h' ⟨h1, h3⟩ hk
    exact ⟨hk I (by simp) _ h1, hk a (by simp) _ h3⟩
  · rintro i s Q E hi ⟨h1, h3⟩ hQ
    have hi' : i < (pickOrder (w.params.setOrder a ep) es).size := by simpa using hi
    refine next_plain (i := i) (nxt := 0) (x := (pickOrder (w.params.setOrder a ep) es)[i].2) h1 h3 hd hf rfl (fun Q' E' q => setNext_text h3 hd hf hb (by simpa [hi'] using q)) fun h' hI' hs' => ?_
    refine hQ _ h' s.toks ?_ ⟨hI', (hs'.2 a haI).trans h3⟩ fun b o hb e => (hs'.2 b (by simpa using hb)).trans e
    simp [hi']
  · rintro s Q E ⟨h1, h3⟩ hQ
    refine end_plain hh h1 h3 hd hf rfl (fun Q' E' q => setNext_text h3 hd hf hb (by simpa using q)) fun h' he => hQ h' s.toks fun b o hb e => he b o (by simpa using hb) e
  · rintro i s Q E ⟨h1, _⟩ hQ
    exact self_walk h1 hQ
theorem walks_none {I a : Addr} {o : Obj} {ep : Nat} {t : SetTable} (hh : A.handled = none)
    (hd : o.data = .set #[] ep t) (hf : t.fits 0 = true) (hb : w.params.followText "set-order" = false) :
    Walks prog w A I [I, a] [I] ([] : List Value).length (fun i v => ([] : List Value)[i]? = some v)
      (fun _ h => h.get? I = some (itObj (.int (0 : Nat) 0) (0 : Nat) (.ref a) (0 : Nat) (ep : Nat)) ∧ h.get? a = some o) := by
  refine { sub := ?_, frame := ?_, item := ?_, done := ?_, self := ?_ }
  · intro b hb; rw [List.mem_singleton.mp hb]; exact .head _
  · rintro i h h' ⟨h1, h3⟩ hk
    exact ⟨hk I (by simp) _ h1, hk a (by simp) _ h3⟩
  · rintro i s Q E hi
    exact absurd hi (Nat.not_lt_zero _)
  · rintro s Q E ⟨h1, h3⟩ hQ
    refine end_plain hh h1 h3 hd hf rfl (fun Q' E' q => setNext_place h3 hd hf hb (by simp) (by simp) (by simpa using q)) fun h' he => hQ h' s.toks fun b o hb e => he b o (by simpa using hb) e
  · rintro i s Q E ⟨h1, _⟩ hQ
    exact self_walk h1 hQ
theorem walks_one {I a : Addr} {o : Obj} {e0 : Int × Value} {ep p : Nat} {t : SetTable} (hh : A.handled = none) (haI : a ≠ I)
    (hd : o.data = .set #[e0] ep t) (hf : t.fits 1 = true) (hpl : t.place = #[p]) (hb : w.params.followText "set-order" = false) (hled : t.led = true) :
    Walks prog w A I [I, a] [I] [e0.2].length (fun i v => [e0.2][i]? = some v)
      (fun i h => h.get? I = some (itObj (.int ((if i = 0 then 0 else p + 1 : Nat) : Int) 0) (i : Nat) (.ref a) (1 : Nat) (ep : Nat)) ∧ h.get? a = some o) := by
  refine { sub := ?_, frame := ?_, item := ?_, done := ?_, self := ?_ }
  · intro b hb; rw [List.mem_singleton.mp hb]; exact .head _
  · rintro i h h' ⟨h1, h3⟩ hk
    exact ⟨hk I (by simp) _ h1, hk a (by simp) _ h3⟩
  · rintro i s Q E hi ⟨h1, h3⟩ hQ
    obtain rfl : i = 0 := by simpa using hi
    refine next_plain (nxt := p + 1) (x := e0.2) h1 h3 hd hf rfl (fun Q' E' q => setNext_place h3 hd hf hb (by simp [hled]) (by simp) (by rw [hpl, if_pos rfl, below_one_zero]; simpa using q)) fun h' hI' hs' => ?_
    exact hQ _ h' s.toks rfl ⟨hI', (hs'.2 a haI).trans h3⟩ fun b o hb e => (hs'.2 b (by simpa using hb)).trans e
  · rintro s Q E ⟨h1, h3⟩ hQ
    refine end_plain hh h1 h3 hd hf rfl (fun Q' E' q => setNext_place h3 hd hf hb (by simp [hled]) (by simp) (by rw [hpl, if_neg (by simp), below_one_succ]; simpa using q)) fun h' he => hQ h' s.toks fun b o hb e => he b o (by simpa using hb) e
  · rintro i s Q E ⟨h1, _⟩ hQ
    exact self_walk h1 hQ
abbrev drawnB (es : Array (Int × Value)) (t : SetTable) : Bool := !t.plain && decide (es.size > 1)
theorem iter_set {a : Addr} {o : Obj} {vs : List Value} {Q : Value → Shared → Prop} (hh : A.handled = none) (ho : s.heap.get? a = some o) (hs : StrSetW w o vs) (hsz : vs.length ≤ 100)
    (hQ : ∀ I fp St (order : List Value) h' d, order.Perm vs → Walks prog w A I fp [I] order.length (fun i v => order[i]? = some v) St → St 0 h' → s.heap.get? I = none → (∀ b ∈ fp, b = a ∨ s.heap.get? b = none) → Ext s.heap h' →
      Q (.ref I) { s with heap := h', drawn := d }) :
    wpAny (model prog w) A (pyIter (.ref a)) Q E s := by
  obtain ⟨hex, es, ep, t, hd, hf, hled, hpl, hperm, hel⟩ := hs
  have hty : s.TypeIs (.ref a) "set" := ⟨o, ho, hex.1⟩
  have hlt : a < s.heap.objs.size := Heap.lt_size ho
  have fresh : ∀ b, s.heap.objs.size ≤ b → s.heap.get? b = none := fun b hb => by
    cases q : s.heap.get? b with
    | none => rfl
    | some o' => exact absurd (Heap.lt_size q) (Nat.not_lt.mpr hb)
  have hlen : es.size = vs.length := by have := hperm.length_eq; simpa using this
  refine wpAny_pyIter_slot hty F.slot_set_iter (wpAny_call_entry F.slot_set_iter hty entry_set_iter ?_ (F.args_set_iter_1 _))
  show wpAny _ _ (Builtin.Frozenset.sizeOf a >>= _) _ _ s
  refine wpAny_bind (wpAny_bind (wpAny_setEntries_of ho hd hf (wpAny_pure ?_)))
  refine wpAny_bind ?_
  unfold setDrawn
  refine wpAny_bind (wpAny_setState_of ho hd hf ?_)
  dsimp only
  refine wpAny_bind (wpAny_bind (wpAny_askSetting (wpAny_pure ?_)))
  refine wpAny_pure ?_
  have tl : ∀ {St : Nat → Heap → Prop} {order : List Value}, order.Perm vs → Walks prog w A s.heap.objs.size [s.heap.objs.size, a] [s.heap.objs.size] order.length (fun i v => order[i]? = some v) St →
      St 0 (s.heap.push (itObj (.int (0 : Nat) 0) (0 : Nat) (.ref a) (es.size : Nat) (ep : Nat))) →
      wpAny (model prog w) A.in1 (pure (rawInt 0) >>= fun first => setEpoch a >>= fun e => newFields "set_iterator" [first, rawInt 0, .ref a, rawInt (es.size : Nat), rawInt (e : Nat)] >>= fun v => ret v)
        (fun f s' => ∃ v, f = .done (.ret v) ∧ ∃ T' r, s'.TypeIs v T' ∧ typeLookup (.type T') "__next__" = pure (some r) ∧ Q v s') E s := by
    intro St order hp W h0
    refine wpAny_bind (wpAny_pure (wpAny_bind (wpAny_setEpoch_of ho hd hf (wpAny_bind (wpAny_newObj_type (wpAny_pure ⟨_, rfl, "set_iterator", _, ⟨_, Heap.get?_push_size _ rfl, rfl⟩, slot_setit_next.lookup, ?_⟩))))))
    exact hQ _ _ St order _ s.drawn hp W h0 (fresh _ (Nat.le_refl _)) (fun b hb => by
      rcases List.mem_cons.mp hb with rfl | hb
      · exact .inr (fresh _ (Nat.le_refl _))
      · exact .inl (List.mem_singleton.mp hb)) fun b o' e => Heap.get?_push_of_some _ e
  have hne : a ≠ s.heap.objs.size := Nat.ne_of_lt hlt
  rcases Bool.eq_false_or_eq_true (w.params.followText "set-order") with hb | hb
  · refine wpAny_if_neg (by show ¬ ((!w.params.followText "set-order" && (!t.plain && decide (es.size > 1))) = true); rw [hb]; simp) (tl ((List.Perm.map _ (pick_perm _ es)).trans hperm) (walks_text hh hne hd hf hb) ?_)
    exact ⟨Heap.get?_push_size _ rfl, Heap.get?_push_of_some _ ho⟩
  · by_cases h1 : 1 < es.size
    · refine wpAny_if_pos ?_ ?_
      · show (!w.params.followText "set-order" && (!t.plain && decide (es.size > 1))) = true
        rw [hb, hpl (by omega), decide_eq_true h1]; rfl
      refine wpAny_bind (wpAny_drawOrder _ _ _ (by simp) fun out d hp => ?_)
      refine wpAny_bind (wpAny_newObj_type ?_ (by show (out.map _).toArray.size ≤ sizeLine; rw [List.size_toArray, List.length_map, hp.length_eq, List.length_range, hlen, sizeLine_eq]; omega))
      have ho1 : (s.heap.push { cls := .type "tuple", data := .seq (out.map fun (p : Nat) => rawInt (p : Int)).toArray }).get? a = some o := Heap.get?_push_of_some _ ho
      have hz : (s.heap.push { cls := .type "tuple", data := .seq (out.map fun (p : Nat) => rawInt (p : Int)).toArray }).objs.size = s.heap.objs.size + 1 := Heap.size_push ..
      refine wpAny_bind (wpAny_setEpoch_of (s := { s with heap := _, drawn := d }) ho1 hd hf (wpAny_bind (wpAny_newObj_type (wpAny_pure ⟨_, rfl, "set_iterator", _, ⟨_, Heap.get?_push_size _ rfl, rfl⟩, slot_setit_next.lookup, ?_⟩))))
      refine hQ _ _ _ (orderOf es out) _ d ((order_perm hp).trans hperm) (walks_drawn (T := s.heap.objs.size) hh ?_ ?_ (nT := 0) rfl hd hf hp) ⟨Heap.get?_push_size _ rfl, Heap.get?_push_of_some _ (Heap.get?_push_size _ rfl), Heap.get?_push_of_some _ ho1⟩ ?_ ?_ ?_
      · dsimp only; rw [hz]; exact Nat.ne_of_lt (Nat.lt_succ_self _)
      · dsimp only; rw [hz]; exact Nat.ne_of_lt (Nat.lt_succ_of_lt hlt)
      · dsimp only; rw [hz]; exact fresh _ (Nat.le_succ _)
      · dsimp only; rw [hz]
        intro b hb
        simp only [List.mem_cons, List.not_mem_nil, or_false] at hb
        rcases hb with rfl | rfl | rfl
        · exact .inr (fresh _ (Nat.le_succ _))
        · exact .inr (fresh _ (Nat.le_refl _))
        · exact .inl rfl
      · exact fun b o' e => Heap.get?_push_of_some _ (Heap.get?_push_of_some _ e)
    · refine wpAny_if_neg ?_ ?_
      · show ¬ ((!w.params.followText "set-order" && (!t.plain && decide (es.size > 1))) = true)
        rw [hb, decide_eq_false h1]; simp
      rcases Nat.lt_or_ge 0 es.size with h0 | h0
      · obtain ⟨e0, rfl⟩ : ∃ e0, es = #[e0] := Array.size_eq_one_iff.mp (by omega)
        have hps : t.place.size = 1 := by
          simp only [SetTable.fits, Bool.and_eq_true, beq_iff_eq] at hf; simpa using hf.1
        obtain ⟨p, hp⟩ : ∃ p, t.place = #[p] := Array.size_eq_one_iff.mp hps
        refine tl (order := [e0.2]) (by simpa using hperm) (walks_one (p := p) hh hne hd hf hp hb ((hled h0).trans (by rw [hb]; rfl))) ?_
        exact ⟨Heap.get?_push_size _ rfl, Heap.get?_push_of_some _ ho⟩
      · obtain rfl : es = #[] := Array.size_eq_zero_iff.mp (by omega)
        refine tl (order := []) (by simpa using hperm) (walks_none hh hd hf hb) ?_
        exact ⟨Heap.get?_push_size _ rfl, Heap.get?_push_of_some _ ho⟩
end
end Mine

namespace Mine
open PySem PySem.W PyProof.Rows
theorem layNew_led (t : SetTable) (es : Array (Int × Value)) (h : Int) (x : Value) : (layNew t es h x).2.1.led = t.led := by
  unfold layNew
  split
  · simp only [SetTable.put, SetTable.orStandIn, SetTable.standIn]
    repeat' split
    all_goals rfl
  · rfl
theorem layNew_plain (t : SetTable) (es : Array (Int × Value)) (h : Int) (x : Value) (hp : t.plain = false) : (layNew t es h x).2.1.plain = false := by
  unfold layNew
  split
  · simp only [SetTable.put, SetTable.orStandIn, SetTable.standIn]
    repeat' split
    all_goals first | exact hp | rfl
  · rfl
theorem relaid_facts {t t' : SetTable} {hs : Array Int} {n : Nat} {ord : Array Nat} (h : t.relaid hs n = some (t', ord)) : t'.led = t.led ∧ t'.plain = t.plain := by
  unfold SetTable.relaid SetTable.laid at h
  simp only [Option.bind_eq_bind, Option.bind_eq_some_iff] at h
  obtain ⟨ow, _, h⟩ := h
  simp only [Option.pure_def, Option.some.injEq, Prod.mk.injEq] at h
  obtain ⟨rfl, _⟩ := h
  exact ⟨rfl, rfl⟩
theorem relayAll_led (t : SetTable) (es : Array (Int × Value)) (n : Nat) : (relayAll t es n).2.1.led = t.led := by
  unfold relayAll
  split
  · rename_i t' ord h
    dsimp only
    split
    · exact (relaid_facts h).1
    · rfl
  · rfl
theorem relayAll_plain (t : SetTable) (es : Array (Int × Value)) (n : Nat) (hp : t.plain = false) : (relayAll t es n).2.1.plain = false := by
  unfold relayAll
  split
  · rename_i t' ord h
    dsimp only
    split
    · exact (relaid_facts h).2.trans hp
    · rfl
  · rfl
section
variable {prog : Program} {w : World} {A : Around} {E : Value → Shared → Prop} {s : Shared}
theorem StrSet.store {h : Heap} {a : Addr} {o : Obj} {es es' : Array (Int × Value)} {ep : Nat} {t t' : SetTable} {vs : List Value} (ho : h.get? a = some o) (hex : o.ExactSet) (hd : o.data = .set es ep t)
    (hf : t'.fits es'.size = true) (hled : t'.led = (!w.params.followText "set-order")) (hpl : t'.plain = false) (hp : (es'.toList.map (·.2)).Perm vs) (hel : ∀ e ∈ es'.toList, ∃ k u, e.2 = .str k u ∧ e.1 = hashStr w k) :
    (h.update a (Obj.putSet es' t')).get? a = some { o with data := .set es' (ep + 1) t' } ∧ StrSet w { o with data := .set es' (ep + 1) t' } vs := by
  have hg : (h.update a (Obj.putSet es' t')).get? a = some { o with data := .set es' (ep + 1) t' } := by
    have := Heap.get?_update_self (Obj.putSet es' t') ho (by rw [putSet_of es' t' hd]; rfl)
    rw [putSet_of es' t' hd] at this; exact this
  exact ⟨hg, hex, es', ep + 1, t', rfl, hf, hled, fun _ => hpl, hp, hel⟩
theorem add_tail {g : Bool → Sem Unit} (hg : ∀ (b : Bool) (s₁ : Shared) (Q' : Unit → Shared → Prop), Q' () s₁ → wpAny (model prog w) A (g b) Q' E s₁)
    {a : Addr} {o : Obj} {es es1 : Array (Int × Value)} {ep : Nat} {t t2 : SetTable} {vs : List Value} (ho : s.heap.get? a = some o) (hex : o.ExactSet) (hd : o.data = .set es ep t)
    (hf : t2.fits es1.size = true) (hled : t2.led = (!w.params.followText "set-order")) (hpl : t2.plain = false) (hp : (es1.toList.map (·.2)).Perm vs) (hel : ∀ e ∈ es1.toList, ∃ k u, e.2 = .str k u ∧ e.1 = hashStr w k) (hb : es1.size < scanBound)
    {wasDummy : Bool} {R : Option Bool → Shared → Prop}
    (h : ∀ h' o', h'.get? a = some o' → StrSet w o' vs → Heap.SameBut a s.heap h' → R (some true) { s with heap := h' }) :
    wpAny (model prog w) A (do
        storeSet a es1 t2
        if (!wasDummy && t2.tooFull) = true then do
            g (relayAll t2 es1 (SetTable.grown es1.size)).2.2
            storeSet a (relayAll t2 es1 (SetTable.grown es1.size)).1 (relayAll t2 es1 (SetTable.grown es1.size)).2.1
            pure (some true)
          else pure (some true)) R E s := by
  refine wpAny_bind (wpAny_storeSet_of ho hd ?_ (fits_of_scanBound hb))
  obtain ⟨ho1, hS1⟩ := StrSet.store (w := w) ho hex hd hf hled hpl hp hel
  have hsb1 := Heap.SameBut.update s.heap a (Obj.putSet es1 t2)
  split
  · have hpr := relayAll_perm t2 es1 (SetTable.grown es1.size)
    have hfr := relayAll_fits t2 es1 (SetTable.grown es1.size)
    have hlr := relayAll_led t2 es1 (SetTable.grown es1.size)
    have hplr := relayAll_plain t2 es1 (SetTable.grown es1.size) hpl
    generalize relayAll t2 es1 (SetTable.grown es1.size) = Rl at hpr hfr hlr hplr ⊢
    obtain ⟨es2, t3, gave2⟩ := Rl
    dsimp only at hpr hfr hlr hplr ⊢
    have hsz : es2.size = es1.size := by rw [← Array.length_toList, hpr.length_eq, Array.length_toList]
    refine wpAny_bind (hg _ _ _ ?_)
    refine wpAny_bind (wpAny_storeSet_of ho1 rfl ?_ (fits_of_scanBound (by rw [hsz]; exact hb)))
    obtain ⟨ho2, hS2⟩ := StrSet.store (w := w) (o := { o with data := .set es1 (ep + 1) t2 }) ho1 hex rfl hfr (hlr.trans hled) hplr ((hpr.map _).trans hp) (fun e he => hel e (hpr.mem_iff.mp he))
    exact wpAny_pure (h _ _ ho2 hS2 (hsb1.trans (Heap.SameBut.update _ a _)))
  · exact wpAny_pure (h _ _ ho1 hS1 hsb1)
theorem add_str {a : Addr} {o : Obj} {vs : List Value} {x : Str} {u : Tok} {Q : Bool → Shared → Prop} (ho : s.heap.get? a = some o) (hs : StrSet w o vs) (hnew : ∀ u', Value.str x u' ∉ vs) (hsz : vs.length < 100)
    (h : ∀ h' o', h'.get? a = some o' → StrSet w o' (vs ++ [.str x u]) → Heap.SameBut a s.heap h' → Q true { s with heap := h', toks := s.toks + 1 }) :
    wpAny (model prog w) A (setAdd a (.str x u)) Q E s := by
  obtain ⟨hex, es, ep, t, hd, hf, hled, hpl, hperm, hel⟩ := hs
  have hlen : es.size = vs.length := by have := hperm.length_eq; simpa using this
  have hkey : (PySem.strKind prog w).is x (.str x u) = true := by show (x == x) = true; simp
  have hE : ElemsOf (PySem.strKind prog w) es.toList := fun e he => by
    obtain ⟨k, u', h1, h2⟩ := hel e he
    exact ⟨⟨k, by rw [h1]; show (k == k) = true; simp, h2⟩, by rw [h1]; rfl⟩
  unfold setAdd
  refine wpAny_holding (wpAny_bind ((PySem.strKind prog w).pyHash (k := x) hkey ?_))
  unfold setAddHashed setAddHashedIn
  refine wpAny_holding (wpAny_bind (wpAny_setState_of ho hd hf ?_))
  dsimp only
  rw [byScan_of (knd := PySem.strKind prog w) rfl (by unfold scanBound; omega) hE]
  simp only [↓reduceIte]
  unfold setAddByScan
  refine wpAny_bind ?_
  refine wpAny_bind (wpAny_rule ?_)
  refine wpAny_bind (wpAny_setScan_of (knd := PySem.strKind prog w) hkey ho hd hf hE ?_)
  have hno : List.findIdx? (fun e => (PySem.strKind prog w).is x e.2) es.toList = none := by
    rw [List.findIdx?_eq_none_iff]
    intro e he
    obtain ⟨k, u', h1, h2⟩ := hel e he
    rw [h1]
    show (k == x) = false
    cases q : k == x with
    | false => rfl
    | true =>
      have : k = x := eq_of_beq q
      subst this
      exact absurd (hperm.mem_iff.mp (h1 ▸ List.mem_map_of_mem he)) (hnew u')
  rw [hno]
  dsimp only
  have hgw : ∀ (b : Bool) {s₁ : Shared} {Q' : Unit → Shared → Prop}, Q' () s₁ → wpAny (model prog w) A (match b with | true => rule "set.scan.the-table-gave-way" | false => pure ()) Q' E s₁ :=
    fun b s₁ Q' hq => by cases b <;> first | exact wpAny_pure hq | exact wpAny_rule hq
  have hpm := layNew_perm t es ((PySem.strKind prog w).hash x) (.str x u)
  have hfits := layNew_fits t es ((PySem.strKind prog w).hash x) (.str x u)
  have hl1 := layNew_led t es ((PySem.strKind prog w).hash x) (.str x u)
  have hp1 := layNew_plain t es ((PySem.strKind prog w).hash x) (.str x u)
  generalize layNew t es ((PySem.strKind prog w).hash x) (.str x u) = LN at hpm hfits hl1 hp1 ⊢
  obtain ⟨es1, t1, wasDummy, gave⟩ := LN
  dsimp only at hpm hfits hl1 hp1 ⊢
  rw [Array.toList_push] at hpm
  have hp' : (es1.toList.map (·.2)).Perm (vs ++ [.str x u]) := by
    refine (hpm.map _).trans ?_
    rw [List.map_append]
    exact List.Perm.append_right _ hperm
  have hel' : ∀ e ∈ es1.toList, ∃ k u, e.2 = .str k u ∧ e.1 = hashStr w k := fun e he => by
    rcases List.mem_append.mp (hpm.mem_iff.mp he) with he | he
    · exact hel e he
    · rw [List.mem_singleton.mp he]; exact ⟨x, u, rfl, rfl⟩
  have hb1 : es1.size < scanBound := by rw [← Array.length_toList, hpm.length_eq, List.length_append, Array.length_toList, hlen]; unfold scanBound; simp; omega
  refine wpAny_bind (hgw _ ?_)
  split
  · refine wpAny_bind ?_
    rw [hashByValue_scannable 8 rfl]
    refine wpAny_pure ?_
    refine add_tail (s := { s with toks := s.toks + 1 }) ?_ ho hex hd ?_ ?_ ?_ hp' hel' hb1 fun h' o' h1 h2 h3 => ?_
    · intro b s₁ Q' hq; cases b <;> first | exact wpAny_pure hq | exact wpAny_rule hq
    · simpa [plainKind] using SetTable.fits_plain_off hfits
    · simpa [plainKind] using hl1.trans hled
    · simp [plainKind]
    · dsimp only; exact wpAny_pure (h h' o' h1 h2 h3)
  · rename_i hnp
    refine wpAny_bind (wpAny_pure ?_)
    simp only [↓reduceIte]
    refine add_tail (s := { s with toks := s.toks + 1 }) ?_ ho hex hd hfits (hl1.trans hled) (by simpa using hnp) hp' hel' hb1 fun h' o' h1 h2 h3 => ?_
    · intro b s₁ Q' hq; cases b <;> first | exact wpAny_pure hq | exact wpAny_rule hq
    · dsimp only; exact wpAny_pure (h h' o' h1 h2 h3)
end
end Mine

namespace Mine
open PySem PySem.W PyProof.Rows
section
variable {prog : Program} {w : World} {A : Around} {E : Value → Shared → Prop} {s : Shared}
/-- the filling loop of set(iterable): strs, no two equal -/
theorem set_fill {S I l : Addr} {vs : List Value} {xs : List Str} {R : Result → Shared → Prop} (hh : A.handled = none) (hSI : S ≠ I) (hSl : S ≠ l) (hlI : l ≠ I) (hi : StrsAre vs xs) (hnd : xs.Nodup) (hsz : xs.length < 100) :
    ∀ (k i : Nat) (s : Shared) (o : Obj), vs.length - i = k → i ≤ vs.length → s.heap.IsListIter I l i → s.heap.IsList l vs.toArray → s.heap.get? S = some o → StrSet w o (vs.take i) →
      (∀ h' tk o', h'.get? S = some o' → StrSet w o' vs → (∀ b o, b ≠ S → b ≠ I → s.heap.get? b = some o → h'.get? b = some o) → R (.ok (.ret .none)) { s with heap := h', toks := tk }) →
      codeAny (model prog w) A (.builtin "set.update.loop" ⟨[.ref S, .ref I], []⟩) R s := by
  intro k
  induction k with
  | zero =>
    intro i s o hk hi' hit hl hS hset hR
    obtain rfl : i = vs.length := by omega
    refine codeAny_builtin F.entry_set_update_loop ?_
    rw [Around.under_plainId F.plain_set_update_loop _]
    show wpAny _ A.in1 (pyNext (.ref I) >>= _) _ _ s
    refine wpAny_bind (wpAny_pyNext_list_end (by simp [hh]) hit hl (by simp) fun h' he => ?_)
    show wpAny _ A.in1 (ret Value.none) _ _ _
    rw [List.take_length] at hset
    exact wpAny_pure (hR h' s.toks o (he S o hSI hS) hset fun b o' hbS hbI e => he b o' hbI e)
  | succ k ih =>
    intro i s o hk hi' hit hl hS hset hR
    have hlt : i < vs.length := by omega
    have hlx : i < xs.length := by rw [← hi.length]; exact hlt
    obtain ⟨t, ht⟩ := hi.get i xs[i] (by simp [hlx])
    refine codeAny_builtin F.entry_set_update_loop ?_
    rw [Around.under_plainId F.plain_set_update_loop _]
    show wpAny _ A.in1 (pyNext (.ref I) >>= _) _ _ s
    refine wpAny_bind (wpAny_pyNext_list_item hit hl (x := .str xs[i] t) (by simpa using ht) fun h1 hit1 hs1 => ?_)
    show wpAny _ A.in1 (holding [Value.str xs[i] t] (setAdd S (.str xs[i] t)) >>= _) _ _ _
    refine wpAny_bind (wpAny_holding ?_)
    refine add_str (s := { s with heap := h1 }) (o := o) ((hs1.2 S hSI).trans hS) hset ?_ ?_ fun h2 o2 hS2 hset2 hs2 => ?_
    · intro u hm
      obtain ⟨j, hj, e⟩ := List.mem_take_iff_getElem.mp hm
      have hj' : j < vs.length := by omega
      have hjx : j < xs.length := by rw [← hi.length]; exact hj'
      obtain ⟨t', ht'⟩ := hi.get j xs[j] (by simp [hjx])
      rw [List.getElem?_eq_getElem hj', e] at ht'
      injection ht' with e1
      injection e1 with e1
      have := (List.getElem_inj hnd).mp e1.symm
      omega
    · rw [List.length_take]; have := hi.length; omega
    refine wpAny_pure ⟨plainId_quiet F.plain_set_update_loop _, ih (i + 1) _ o2 (by omega) hlt ?_ ?_ hS2 ?_ fun h' tk o' h1' h2' h3' => ?_⟩
    · obtain ⟨oi, hoi, r⟩ := hit1; exact ⟨oi, (hs2.2 I (Ne.symm hSI)).trans hoi, r⟩
    · obtain ⟨ol, hol, r⟩ := hl; exact ⟨ol, (hs2.2 l (Ne.symm hSl)).trans ((hs1.2 l hlI).trans hol), r⟩
    · rw [List.take_add_one, ht]; exact hset2
    · exact hR h' tk o' h1' h2' fun b o' hbS hbI e => h3' b o' hbS hbI ((hs2.2 b hbS).trans ((hs1.2 b hbI).trans e))
theorem strSet_fresh : StrSet w { cls := .type "set", dict := none, data := .set #[] 0 (.fresh 0 0 (!w.params.followText "set-order")) } [] :=
  ⟨⟨rfl, rfl, rfl⟩, #[], 0, _, rfl, rfl, rfl, fun h => absurd h (by simp), by simp, fun e he => by simp at he⟩
theorem set_new_led (a : Value) {Q₁ : Value → Shared → Prop}
    (h : Q₁ (.ref s.heap.objs.size) { s with heap := s.heap.push { cls := .type "set", dict := none, data := .set #[] 0 (.fresh 0 0 (!w.params.followText "set-order")) } }) :
    codeAny (model prog w) A (.call (.builtin "set.__new__") ⟨[.type "set", a], []⟩) (wants Q₁ E) s := by
  refine codeAny_of_tree ?_
  show wpAny _ A.in1 (do checkBuiltinCall "set.__new__" ⟨[.type "set", a], []⟩; again (.builtin "set.__new__" ⟨[.type "set", a], []⟩)) _ _ s
  refine wpAny_bind (wpAny_of_eq (F.newCall_set_1 a) (wpAny_pure ⟨plainId_quiet F.plain_set_new _, codeAny_builtin F.entry_set_new ?_⟩))
  rw [Around.under_plainId F.plain_set_new _]
  unfold Builtin.«set.__new__» Builtin.Frozenset.newClass
  have hsub := sub_set_self
  obtain ⟨hp, g, d, tk, os⟩ := s
  dsimp only
  wp_walk
  refine wpAny_askSetting (wpAny_pure ?_)
  dsimp only
  simp only [newObj]
  refine wpAny_bind (wpAny_alloc (wpAny_pure ?_))
  exact wpAny_pure h
theorem call_set_strs {l : Addr} {vs : List Value} {xs : List Str} {Q : Value → Shared → Prop}
    (hh : A.handled = none) (hl : s.heap.IsList l vs.toArray) (hi : StrsAre vs xs) (hnd : xs.Nodup) (hsz : xs.length < 100)
    (h : ∀ (h' : Heap) (tk : Nat) o, h'.get? s.heap.objs.size = some o → StrSet w o vs → Ext s.heap h' → Q (.ref s.heap.objs.size) { s with heap := h', toks := tk }) :
    wpAny (model prog w) A (call (.type "set") [.ref l]) Q E s := by
  obtain ⟨c, tl, hmro⟩ := F.called_set.mro
  have hmade := F.called_set.made
  have hsub := F.called_set.sub
  refine wpAny_call (codeAny_of_tree ?_)
  show wpAny _ _ (callAny (.type "set") _) _ _ _
  refine wpAny_pure ⟨Code.quiet_builtin _ (by decide +kernel), codeAny_builtin F.entry_type_call ?_⟩
  rw [Around.under_plain (weight_type_call_type "set" [.ref l] []) rfl]
  have h1 := F.called_set.notType
  have h2 := F.called_set.canCreate
  have hct := F.typeCall_set_1 (.ref l)
  repeat (any_goals (first | assumption | wp_step))
  generalize hS0 : ({ cls := .type "set", dict := none, data := .set #[] 0 (.fresh 0 0 (!w.params.followText "set-order")) } : Obj) = S0
  have hset0 : StrSet w S0 [] := hS0 ▸ strSet_fresh
  have hcls : S0.cls = .type "set" := hS0 ▸ rfl
  have hfr : S0.isFreed = false := hS0 ▸ rfl
  refine codeAny_mono (set_new_led (.ref l) (E := E) (Q₁ := fun obj s₁ => obj = .ref s.heap.objs.size ∧ s₁ = { s with heap := s.heap.push S0 }) ⟨rfl, by rw [hS0]⟩) fun r s₁ hr => ?_
  cases r with
  | error e => exact hr
  | ok fl =>
    cases fl with
    | ret obj =>
      obtain ⟨rfl, rfl⟩ := hr
      have hS : (s.heap.push S0).get? s.heap.objs.size = some S0 := Heap.get?_push_size _ hfr
      have hT : Shared.TypeIs { s with heap := s.heap.push S0 } (.ref s.heap.objs.size) "set" := ⟨_, hS, hcls⟩
      have hli := F.called_set.init.lookup
      have hbi := F.called_set.init.bind (.ref s.heap.objs.size)
      repeat (any_goals (first | assumption | wp_step))
      refine codeAny_mono (codeAny_call_builtin (R := wants (fun r s₂ => r = .none ∧ ∃ h' tk o, s₂ = { s with heap := h', toks := tk } ∧ h'.get? s.heap.objs.size = some o ∧ StrSet w o vs ∧ Ext s.heap h') E) F.called_set.init.plain F.entry_set_init (check_set_init_1 hT ?_)) fun r₂ s₂ hr₂ => ?_
      · subst hS0
        obtain ⟨ol, hol, hcl, nl, hdl⟩ := hl
        obtain ⟨ocls, odict, odata, oslots⟩ := ol
        simp only at hcl hdl
        subst hcl; subst hdl
        have hol' : (s.heap.push { cls := .type "set", dict := none, data := .set #[] 0 (.fresh 0 0 (!w.params.followText "set-order")) }).get? l = some { cls := .type "list", dict := odict, data := .seq vs.toArray nl, slots := oslots } := Heap.get?_push_of_some _ hol
        have hsls := F.sub_list_set
        have hslf := F.sub_list_frozenset
        have hne : (Value.type "list" == Value.type "dict") = false := by decide
        have hl1 : (s.heap.push { cls := .type "set", dict := none, data := .set #[] 0 (.fresh 0 0 (!w.params.followText "set-order")) }).IsList l vs.toArray := ⟨_, hol', rfl, nl, rfl⟩
        unfold Builtin.«set.__init__» noKeywords Builtin.Frozenset.updateFrom
        generalize hPI : pyIter = PI
        wp_walk
        subst hPI
        refine wpAny_pyIter_list hl1 ?_
        refine wpAny_bind (wpAny_runValue ?_)
        have hlS : l < s.heap.objs.size := Heap.lt_size hol
        have hz : (s.heap.push { cls := .type "set", dict := none, data := .set #[] 0 (.fresh 0 0 (!w.params.followText "set-order")) }).objs.size = s.heap.objs.size + 1 := Heap.size_push ..
        refine set_fill (l := l) (vs := vs) (xs := xs) (by simp [hh]) ?_ (Nat.ne_of_gt hlS) ?_ hi hnd hsz (vs.length - 0) 0 _ _ (by omega) (Nat.zero_le _) ⟨_, Heap.get?_push_size _ rfl, rfl, rfl⟩ (hl1.push _) (Heap.get?_push_of_some _ hS) hset0 ?_
        · dsimp only; rw [hz]; exact Nat.ne_of_lt (Nat.lt_succ_self _)
        · dsimp only; rw [hz]; exact Nat.ne_of_lt (Nat.lt_succ_of_lt hlS)
        · intro h' tk o' ho' hset hk
          show wpAny _ _ _ _ _ _
          refine wpAny_pure ?_
          show wpAny _ _ (ret Value.none) _ _ _
          refine wpAny_pure ⟨rfl, h', tk, o', rfl, ho', hset, fun b o hb => ?_⟩
          have hb' := Heap.lt_size hb
          exact hk b o (Nat.ne_of_lt hb') (by dsimp only; rw [hz]; exact Nat.ne_of_lt (Nat.lt_succ_of_lt hb')) (Heap.get?_push_of_some _ (Heap.get?_push_of_some _ hb))
      · cases r₂ with
        | error e => exact hr₂
        | ok fl₂ =>
          cases fl₂ with
          | ret r =>
            obtain ⟨rfl, h', tk, o, rfl, ho', hset, hk⟩ := hr₂
            repeat (any_goals (first | assumption | wp_step))
            exact h _ _ _ ho' hset hk
          | _ => exact hr₂.elim
    | _ => exact hr.elim
theorem set_strs_N {h₀ : Heap} {L : Addr} {m : Str → Option Value} {news : List (Addr × Obj)} {l : Addr} {vs : List Value} {xs : List Str} {Q : Value → Shared → Prop} (F : Fr h₀ L s.heap m) (N : News h₀ L s.heap news)
    (hh : A.handled = none) (hl : s.heap.IsList l vs.toArray) (hi : StrsAre vs xs) (hnd : xs.Nodup) (hsz : xs.length < 100)
    (h : ∀ D h' tk o, Fr h₀ L h' m → News h₀ L h' ((D, o) :: news) → (∀ p ∈ news, p.1 < D) → StrSet w o vs → Q (.ref D) { s with heap := h', toks := tk }) :
    wpAny (model prog w) A (call (.type "set") [.ref l]) Q E s := by
  refine call_set_strs hh hl hi hnd hsz fun h' tk o ho hs hk => ?_
  refine h _ h' tk o (F.keeps hk) (fun p hp => ?_) (fun p hp => Heap.lt_size (N p hp).1) hs
  rcases List.mem_cons.mp hp with rfl | hp
  · refine ⟨ho, Nat.ne_of_gt F.ns.lt, ?_⟩
    cases hq : h₀.get? s.heap.objs.size with
    | none => rfl
    | some o' => exact absurd (Heap.lt_size (F.keep _ _ hq)) (Nat.lt_irrefl _)
  · exact ⟨hk _ _ (N p hp).1, (N p hp).2⟩
end
end Mine

namespace Mine
open PySem PySem.W PyProof.Rows
theorem ite_join {M : Model} {A : Around} {E : Value → Shared → Prop} {α : Type} {c : Prop} [Decidable c] {t1 t2 : Sem α} {s1 s2 : Shared} {Q : α → Shared → Prop} (P : α → Shared → Prop)
    (h1 : c → wpAny M A t1 P E s1) (h2 : ¬ c → wpAny M A t2 P E s2) (h : ∀ v s, P v s → Q v s) : if c then wpAny M A t1 Q E s1 else wpAny M A t2 Q E s2 := by
  by_cases q : c
  · rw [if_pos q]; exact wpAny_mono (h1 q) h fun _ _ e => e
  · rw [if_neg q]; exact wpAny_mono (h2 q) h fun _ _ e => e
theorem grown_new {h₀ h h' : Heap} {L : Addr} {m : Str → Option Value} {news : List (Addr × Obj)} {o : Obj} (F : Fr h₀ L h m) (N : News h₀ L h news) (hk : Ext h h') (ho : h'.get? h.objs.size = some o) :
    Fr h₀ L h' m ∧ News h₀ L h' ((h.objs.size, o) :: news) ∧ ∀ p ∈ news, p.1 < h.objs.size := by
  refine ⟨F.keeps hk, fun p hp => ?_, fun p hp => Heap.lt_size (N p hp).1⟩
  rcases List.mem_cons.mp hp with rfl | hp
  · refine ⟨ho, Nat.ne_of_gt F.ns.lt, ?_⟩
    cases hq : h₀.get? h.objs.size with
    | none => rfl
    | some o' => exact absurd (Heap.lt_size (F.keep _ _ hq)) (Nat.lt_irrefl _)
  · exact ⟨hk _ _ (N p hp).1, (N p hp).2⟩
abbrev igDict (w : World) (sa la da : Addr) (t1 t2 t3 : Tok) : Obj :=
  dictOf [⟨PyData.keyHash w.params (Str.ofString "_mods"), .str (Str.ofString "_mods") t1, .ref sa⟩, ⟨PyData.keyHash w.params (Str.ofString "_dirs"), .str (Str.ofString "_dirs") t2, .ref la⟩, ⟨PyData.keyHash w.params (Str.ofString "_ignore"), .str (Str.ofString "_ignore") t3, .ref da⟩] 3
def tabD (T : List (Str × Int)) : List (PyData × PyData) := T.map fun p => (.str p.1, .int p.2)
def Ign (prog : Program) (w : World) (od : Obj) (T : List (Str × Int)) : Prop := ∃ kvs, od.IsDictOf (PySem.strKind prog w) kvs ∧ PyProof.V.FlatPairs PyData.str kvs (tabD T)
local macro_rules | `(tactic| k_all) => `(tactic| assumption)
theorem ignore_call {w : World} {s : Shared} {env : Env} {base h₀ : Heap} {L : Addr} {m mg mb : Str → Option Value} {mean : ExcName → Option Value} {E : Value → Shared → Prop} {Q : Value → Shared → Prop} {news : List (Addr × Obj)} {l : Addr} {vs : List Value} {xs : List Str}
    (B : Below callerA base [] h₀) (F : Fr h₀ L s.heap m) (X : (hd.heap_39 w.params).In h₀) (T : Top hd.view_39 (looseW hd.view_39 []) mean mg mb h₀) (N : News h₀ L s.heap news)
    (hf : env.frame = some L) (hke : env.scope.kind = .function) {kl : Nat} (hl : (l, listOf vs.toArray kl) ∈ news) (hi : StrsAre vs xs) (hnd : xs.Nodup) (hsz : xs.length < 100)
    (h : ∀ x dx sa la da so od t1 t2 t3 h' tk, Fr h₀ L h' m → News h₀ L h' ((da, od) :: (la, listOf #[] 0) :: (sa, so) :: (x, instObj 93 dx) :: (dx, igDict w sa la da t1 t2 t3) :: news) →
      StrSetW w so vs → Ign PySem.Challenge.rw_nb0074_01.row.toRowW.prog w od [(Str.ofString "<string>", 1)] → (da == sysModules) = false → (∀ p ∈ news, p.1 < dx) → dx < x → x < sa → sa < la → la < da → Q (.ref x) { s with heap := h', toks := tk }) :
    wpAny (model PySem.Challenge.rw_nb0074_01.row.toRowW.prog w) (callerA.deeper env) (call (.ref 93) [.ref l] []) Q E s := by
  revert X; k_fill; intro X
  refine' call_cls F X N ?k4 ?k5 ?k6 ?_
  case k4 => k_is
  case k5 => k_is
  case k6 => k_is
  intro x dx h1 F1 N1 l1 l2
  have l2' : @LT.lt Nat _ dx x := l2
  have q1 : ∀ p ∈ news, p.1 ≠ dx := fun p hp => Nat.ne_of_lt (l1 p hp)
  refine' code_def B F1 X N1 T rfl hf hke ?k6 ?k7 ?k8 ?k9 ?kB ?_ ?c2 ?c3 ?c4 ?c5
  case k6 => k_is
  case k7 => k_is
  case k8 => k_room
  case k9 => first | exact BindsTo.of_eq rfl | exact binds_K (by k_in) rfl (by k_is) rfl rfl rfl
  case c5 => decide
  case kB => exact locs rfl
  case c2 => exact rfl
  case c3 => exact rfl
  case c4 => exact rfl
  intro g' L' h' FG' F' N' B' X' T'
  try dsimp only
  k_fold
  have hl' : h'.IsList l vs.toArray := ⟨_, N'.get (.tail _ (.tail _ hl)), rfl, _, rfl⟩
  have hvl := hi.length
  iterate 6 (first | (k_unfold; (try dsimp only)) | (k_end; wrow_close) | walk1 | (dsimp only; walk1) | (leave1; walk_say "STEP leave1"; try dsimp only) | fail "no step")
  refine wpAny_truthy_list hl' (by rw [List.size_toArray]; omega) ?_
  refine ite_join (P := fun v s' => ∃ sa so h2 tk2, v = .ref sa ∧ s' = { s with heap := h2, toks := tk2 } ∧ Ext h' h2 ∧ sa = h'.objs.size ∧ h2.get? sa = some so ∧ StrSetW w so vs) (fun c => ?_) (fun c => ?_) ?_
  · have hv : vs = [] := by simpa using c
    iterate 3 (first | (k_unfold; (try dsimp only)) | (k_end; wrow_close) | walk1 | (dsimp only; walk1) | (leave1; walk_say "STEP leave1"; try dsimp only) | fail "no step")
    refine call_set_0 fun led => ?_
    exact ⟨_, _, _, _, rfl, rfl, fun _ _ e => Heap.get?_push_of_some _ e, rfl, Heap.get?_push_size _ rfl, by rw [hv]; exact strSetW_empty led⟩
  · iterate 6 (first | (k_unfold; (try dsimp only)) | (k_end; wrow_close) | walk1 | (dsimp only; walk1) | (leave1; walk_say "STEP leave1"; try dsimp only) | fail "no step")
    refine call_set_strs rfl hl' hi hnd hsz fun h2 tk2 so ho hs hk => ?_
    exact ⟨_, _, _, _, rfl, rfl, hk, rfl, ho, hs.toW⟩
  rintro v s' ⟨sa, so, h2, tk2, rfl, rfl, hk2, rfl, ho2, hset⟩
  obtain ⟨F2, N2, lt2⟩ := grown_new F' N' hk2 ho2
  have a1 : @LT.lt Nat _ x h'.objs.size := lt2 _ (.head _)
  have a2 : @LT.lt Nat _ dx h'.objs.size := lt2 _ (.tail _ (.head _))
  generalize h'.objs.size = sa at *
  iterate 20 (first | (k_unfold; (try dsimp only)) | (k_end; wrow_close) | walk1 | (dsimp only; walk1) | (leave1; walk_say "STEP leave1"; try dsimp only) | fail "no step")
  repeat (first | (k_unfold; (try dsimp only)) | (k_end; wrow_close) | walk1 | (dsimp only; walk1) | (leave1; walk_say "STEP leave1"; try dsimp only) | fail "no step")
  rename News h₀ L _ _ => kN
  rename Fr h₀ L _ _ => kF
  rename Obj.IsDictOf _ _ _ => hd1
  rename PyProof.V.FlatPairs _ _ _ => hf1
  rename (_ == sysModules) = false => lo1
  rename _ ∧ _ => l5
  obtain ⟨z1, -⟩ := l5
  rename _ ∧ _ => l6
  obtain ⟨z2, -⟩ := l6
  exact h _ _ _ _ _ _ _ _ _ _ _ _ kF kN hset ⟨_, hd1, hf1⟩ lo1 l1 l2 a1 z2 z1
end Mine

namespace Mine
open PySem PySem.W PyProof.Rows
section
variable {prog : Program} {w : World} {A : Around} {E : Value → Shared → Prop} {s : Shared} {env : Env} {h₀ : Heap} {x : Str} {body : List Stmt} {Q : Flow → Shared → Prop}
def SearchPost (h₀ : Heap) (L : Addr) (x : Str) (m₀ : Str → Option Value) (need : List (Addr × Obj)) (pn : Prop) (s₁ : Shared) (Q : Flow → Shared → Prop) (f : Flow) (s₂ : Shared) : Prop :=
  match f with
  | .ret v => Q (.ret v) s₂
  | .brk => Q .next s₂
  | _ => pn ∧ ∃ h' tk m', s₂ = { s₁ with heap := h', toks := tk } ∧ Fr h₀ L h' m' ∧ (∀ y, y ≠ x → m' y = m₀ y) ∧ News h₀ L h' need
theorem loop_search {I : Addr} {fp wr : List Addr} {n : Nat} {P : Nat → Value → Prop} {St : Nat → Heap → Prop} {m₀ : Str → Option Value} {news : List (Addr × Obj)} (Pn : Value → Prop)
    (W : Walks prog w A I fp wr n P St) (hfun : ∀ i v v', P i v → P i v' → v = v') (hLf : env.locals ∉ fp) (hwr : ∀ b ∈ wr, h₀.get? b = none) (hnw : ∀ p ∈ news, p.1 ∉ wr) (hst : St 0 s.heap) (F : Fr h₀ env.locals s.heap m₀) (N : News h₀ env.locals s.heap news)
    (turn : ∀ i v h tk own, i < n → P i v → Fr h₀ env.locals h (fun y => if y = x then some v else m₀ y) → News h₀ env.locals h (own ++ news) →
      wpAny (model prog w) A (execs body env) (SearchPost h₀ env.locals x m₀ (own ++ news) (Pn v) { s with heap := h, toks := tk } Q) E { s with heap := h, toks := tk })
    (done : ∀ u h tk, (∀ i v, i < n → P i v → Pn v) → Fr h₀ env.locals h (fun y => if y = x then u else m₀ y) → News h₀ env.locals h news → Q .next { s with heap := h, toks := tk }) :
    LoopAtV prog w A h₀ env x body Q E (.ref I) s := by
  let J : Nat → (Str → Option Value) → List (Addr × Obj) → Prop := fun i m₁ news₁ => news₁ = news ∧ (∀ y, y ≠ x → m₁ y = m₀ y) ∧ ∀ j v, j < i → P j v → Pn v
  refine ⟨I, fp, wr, n, P, St, m₀, news, J, rfl, W, hLf, hwr, hnw, hst, F, N, ⟨rfl, fun _ _ => rfl, fun j v hj => absurd hj (Nat.not_lt_zero _)⟩, ?_, ?_⟩
  · rintro i v m₁ news₁ s₁ own ⟨hh', tk', rfl⟩ hin hP ⟨rfl, hJ, hA⟩ hoff _ _ _ _ F₁ N₁
    have e : (fun y => if y = x then some v else m₁ y) = fun y => if y = x then some v else m₀ y := by
      funext y
      by_cases h1 : y = x
      · simp [h1]
      · simp only [if_neg h1]; exact hJ y h1
    rw [e] at F₁
    refine wpAny_mono (turn i v hh' tk' own hin hP F₁ N₁) (fun f s₂ p => ?_) fun _ _ e => e
    have fin : (Pn v ∧ ∃ h' tk m', s₂ = { s with heap := h', toks := tk } ∧ Fr h₀ env.locals h' m' ∧ (∀ y, y ≠ x → m' y = m₀ y) ∧ News h₀ env.locals h' (own ++ news₁)) → LoopStepU h₀ env.locals wr own (J (i + 1)) { s with heap := hh', toks := tk' } .next s₂ := by
      rintro ⟨hp, h', tk, m', e, F', hm, N'⟩
      refine ⟨rfl, h', tk, m', news₁, e, F', N', hoff, rfl, hm, fun j v' hj hv' => ?_⟩
      rcases Nat.lt_succ_iff_lt_or_eq.mp hj with hj | rfl
      · exact hA j v' hj hv'
      · rw [hfun _ _ _ hv' hP]; exact hp
    cases f with
    | ret v => exact .ret p
    | brk => exact .brk p
    | next => exact .next (fin p)
    | cont => exact .cont (fin p)
  · rintro h' tk m' news' F' N' _ ⟨rfl, hJ, hA⟩
    refine done (m' x) h' tk (fun i v hi hv => hA i v hi hv) ?_ N'
    have e : (fun y => if y = x then m' x else m₀ y) = m' := by
      funext y
      by_cases h1 : y = x
      · simp [h1]
      · simp only [if_neg h1]; exact (hJ y h1).symm
    rw [e]; exact F'
end
section
variable {prog : Program} {w : World} {A : Around} {E : Value → Shared → Prop} {s : Shared}
theorem StrSetW.setOf {h : Heap} {a : Addr} {o : Obj} {vs : List Value} (hs : StrSetW w o vs) (ho : h.get? a = some o) (hsz : vs.length < 100) : h.SetOf (PySem.strKind prog w) a (fun k => vs.any (Value.isStrOf k)) vs.length := by
  obtain ⟨hex, es, ep, t, hd, hf, _, _, hperm, hel⟩ := hs
  have hlen : es.size = vs.length := by have := hperm.length_eq; simpa using this
  refine ⟨o, es, ep, t, ho, hex, hd, fun e he => ?_, fun k => ?_, by unfold scanBound; omega, hf, hlen⟩
  · obtain ⟨k, u', h1, h2⟩ := hel e he
    exact ⟨⟨k, by rw [h1]; show (k == k) = true; simp, h2⟩, by rw [h1]; rfl⟩
  · rw [List.any_eq_true]
    constructor
    · rintro ⟨v, hv, hk⟩
      obtain ⟨e, he, rfl⟩ := List.mem_map.mp (hperm.mem_iff.mpr hv)
      exact ⟨e, he, hk⟩
    · rintro ⟨e, he, hk⟩
      exact ⟨e.2, hperm.mem_iff.mp (List.mem_map_of_mem he), hk⟩
theorem in_strSet {a : Addr} {o : Obj} {vs : List Value} {xs : List Str} {nm : Str} {t : Tok} {Q : Value → Shared → Prop} (ho : s.heap.get? a = some o) (hs : StrSetW w o vs) (hi : StrsAre vs xs) (hsz : xs.length < 100)
    (h : Q (.bool (xs.contains nm)) { s with toks := s.toks + 1 }) : wpAny (model prog w) A (compareOp .In (.str nm t) (.ref a)) Q E s := by
  have e : vs.any (Value.isStrOf nm) = xs.contains nm := by
    clear hs hsz h
    induction hi with
    | nil => rfl
    | cons y t _ ih => rw [List.any_cons, ih, List.contains_cons]; show (y == nm || _) = (nm == y || _); rw [Bool.beq_comm (a := y)]
  refine wpAny_inSet_of (knd := PySem.strKind prog w) (k := nm) (by show (nm == nm) = true; simp) rfl (hs.setOf ho (by rw [hi.length]; exact hsz)) ?_
  rw [e]; exact h
end
end Mine

namespace Mine
open PySem PySem.W PyProof.Rows
local macro_rules | `(tactic| k_all) => `(tactic| assumption)
theorem tab_none {T : List (Str × Int)} {nm : Str} (h : ∀ p ∈ T, p.1 ≠ nm) : PySem.Spec.lookup (.str nm) (tabD T) = none := by
  induction T with
  | nil => rfl
  | cons p r ih =>
    have h1 : p.1 ≠ nm := h p (.head _)
    have ih' := ih fun q hq => h q (.tail _ hq)
    show (if PySem.Spec.same (.str p.1) (.str nm) = true then some _ else PySem.Spec.lookup (.str nm) (tabD r)) = none
    rw [PyProof.V.same_str, decide_eq_false h1]
    simpa using ih'
theorem putD_new {T : List (Str × Int)} {nm : Str} {r : Int} (h : ∀ p ∈ T, p.1 ≠ nm) : PyProof.V.putD (.str nm) (.int r) (tabD T) = tabD (T ++ [(nm, r)]) := by
  have e : (tabD T).any (fun p => PySem.Spec.same p.1 (.str nm)) = false := by
    rw [List.any_eq_false]
    intro p hp
    obtain ⟨q, hq, rfl⟩ := List.mem_map.mp hp
    rw [PyProof.V.same_str, decide_eq_false (h q hq)]; simp
  unfold PyProof.V.putD
  rw [e]
  simp [tabD]
theorem store_new {prog : Program} {w : World} {A : Around} {E : Value → Shared → Prop} {s : Shared} {h₀ : Heap} {L da : Addr} {m : Str → Option Value} {rest : List (Addr × Obj)} {od : Obj} {T : List (Str × Int)} {nm : Str} {t t' : Tok} {r : Int} {Q : Unit → Shared → Prop}
    (F : Fr h₀ L s.heap m) (N : News h₀ L s.heap ((da, od) :: rest)) (hne : ∀ p ∈ rest, p.1 ≠ da) (hig : Ign prog w od T) (hT : T.length ≤ 100) (hnk : ∀ p ∈ T, p.1 ≠ nm)
    (h : ∀ h' od', Fr h₀ L h' m → News h₀ L h' ((da, od') :: rest) → Ign prog w od' (T ++ [(nm, r)]) → Q () { s with heap := h', toks := s.toks + 1 }) :
    wpAny (model prog w) A (setItem (.ref da) (.str nm t) (.int r t')) Q E s := by
  obtain ⟨kvs, hd, hf⟩ := hig
  refine setItem_K (knd := PySem.strKind prog w) (k := nm) PyProof.V.same_str (by show (nm == nm) = true; simp) (PyProof.V.Flat.int r t') F N (UpdF.head hne) hd hf (fun h' o' F' N' hd' hf' => ?_) ?_
  · rw [putD_new hnk] at hf'
    exact h h' o' F' N' ⟨_, hd', hf'⟩
  · rw [tabD, List.length_map, sizeLine_eq]; omega
theorem strs_mem {vs : List Value} {xs : List Str} (h : StrsAre vs xs) {v : Value} (hv : v ∈ vs) : ∃ y u, v = .str y u ∧ y ∈ xs := by
  induction h with
  | nil => cases hv
  | cons y t _ ih =>
    rcases List.mem_cons.mp hv with rfl | hv
    · exact ⟨y, t, rfl, .head _⟩
    · obtain ⟨z, u, e, hz⟩ := ih hv
      exact ⟨z, u, e, .tail _ hz⟩
def toldV (xs : List Str) (nm : Str) : Bool := xs.contains nm || xs.any fun y => Txt.startswith nm (y ++ Str.ofString ".")
theorem toldV_of_any {xs : List Str} {nm y : Str} (hy : y ∈ xs) (h : Txt.startswith nm (y ++ Str.ofString ".") = true) : toldV xs nm = true := by
  rw [toldV, Bool.or_eq_true]
  exact .inr (List.any_eq_true.mpr ⟨y, hy, h⟩)
theorem strs_back {vs : List Value} {xs : List Str} (h : StrsAre vs xs) {y : Str} (hy : y ∈ xs) : ∃ v u, v = .str y u ∧ v ∈ vs := by
  induction h with
  | nil => cases hy
  | cons z t _ ih =>
    rcases List.mem_cons.mp hy with rfl | hy
    · exact ⟨_, t, rfl, .head _⟩
    · obtain ⟨v, u, e, hz⟩ := ih hy
      exact ⟨v, u, e, .tail _ hz⟩
theorem iter_empty {prog : Program} {w : World} {A : Around} {E : Value → Shared → Prop} {s : Shared} {env : Env} {h₀ : Heap} {x : Str} {body : List Stmt} {Q : Flow → Shared → Prop} {l : Addr} {nn : Nat} {m₀ : Str → Option Value} {news : List (Addr × Obj)}
    (hh : A.handled = none) (hl : (l, listOf #[] nn) ∈ news) (F : Fr h₀ env.locals s.heap m₀) (N : News h₀ env.locals s.heap news)
    (done : ∀ (_ : Unit) h tk, Fr h₀ env.locals h m₀ → News h₀ env.locals h news → Q .next { s with heap := h, toks := tk }) :
    wpAny (model prog w) A (pyIter (.ref l)) (fun it s₂ => LoopAtV prog w A h₀ env x body Q E it s₂) E s := by
  refine iter_invNL (vs := []) (ns := []) (fun _ m₁ nx => m₁ = m₀ ∧ nx = news) hh hl .nil F N ⟨rfl, rfl⟩ ?_ ?_
  · intro i n t m₁ news₁ h tk own hn
    simp at hn
  · rintro m₁ nx h tk _ ⟨rfl, rfl⟩ F' N'
    exact done () h tk F' N'
theorem names_new {w : World} {s : Shared} {env : Env} {base h₀ : Heap} {L : Addr} {m mg mb : Str → Option Value} {mean : ExcName → Option Value} {E : Value → Shared → Prop} {Q : Value → Shared → Prop} {news : List (Addr × Obj)} {vs : List Value} {xs : List Str}
    {x dx sa la da : Addr} {so od : Obj} {t1 t2 t3 : Tok} {T' : List (Str × Int)} {nm fn : Str} {t tf : Tok}
    (B : Below callerA base [] h₀) (F : Fr h₀ L s.heap m) (X : (hd.heap_39 w.params).In h₀) (T : Top hd.view_39 (looseW hd.view_39 []) mean mg mb h₀)
    (N : News h₀ L s.heap ((da, od) :: (la, listOf #[] 0) :: (sa, so) :: (x, instObj 93 dx) :: (dx, igDict w sa la da t1 t2 t3) :: news))
    (hne : ∀ p ∈ ((la, listOf #[] 0) :: (sa, so) :: (x, instObj 93 dx) :: (dx, igDict w sa la da t1 t2 t3) :: news), p.1 ≠ da)
    (hf : env.frame = some L) (hke : env.scope.kind = .function) (hset : StrSetW w so vs) (hi : StrsAre vs xs) (hsz : xs.length < 100) (hlen : ∀ y ∈ xs, y.length ≤ 200) (hig : Ign PySem.Challenge.rw_nb0074_01.row.toRowW.prog w od T') (hTl : T'.length ≤ 100) (hlo : (da == sysModules) = false)
    (hnk : ∀ p ∈ T', p.1 ≠ nm)
    (h : ∀ r t' od' h' tk d, r = (if toldV xs nm = true then 1 else 0) → Fr h₀ L h' m → News h₀ L h' ((da, od') :: (la, listOf #[] 0) :: (sa, so) :: (x, instObj 93 dx) :: (dx, igDict w sa la da t1 t2 t3) :: news) →
      Ign PySem.Challenge.rw_nb0074_01.row.toRowW.prog w od' (T' ++ [(nm, r)]) → Q (.int r t') { s with heap := h', toks := tk, drawn := d }) :
    wpAny (model PySem.Challenge.rw_nb0074_01.row.toRowW.prog w) (callerA.deeper env) (call (.ref 90) [.ref x, .str fn tf, .str nm t] []) Q E s := by
  revert X; k_fill; intro X
  refine wpAny_call ?_
  refine' code_def B F X N T rfl hf hke ?k6 ?k7 ?k8 ?k9 ?kB ?_ ?c2 ?c3 ?c4 ?c5
  case k6 => k_is
  case k7 => k_is
  case k8 => k_room
  case k9 => first | exact BindsTo.of_eq rfl | exact binds_K (by k_in) rfl (by k_is) rfl rfl rfl
  case c5 => decide
  case kB => exact locs rfl
  case c2 => exact rfl
  case c3 => exact rfl
  case c4 => exact rfl
  intro g' L' h' FG' F' N' B' X' T''
  try dsimp only
  k_fold
  obtain ⟨kvs, hdd, hff⟩ := hig
  iterate 10 (first | (k_unfold; (try dsimp only)) | (k_end; wrow_close) | walk1 | (dsimp only; walk1) | (leave1; walk_say "STEP leave1"; try dsimp only) | fail "no step")
  refine ite_neg (by rw [tab_none hnk]; simp) ?_
  iterate 9 (first | (k_unfold; (try dsimp only)) | (k_end; wrow_close) | walk1 | (dsimp only; walk1) | (leave1; walk_say "STEP leave1"; try dsimp only) | fail "no step")
  refine in_strSet (N'.get (.tail _ (.tail _ (.head _)))) hset hi hsz ?_
  iterate 1 (first | (k_unfold; (try dsimp only)) | (k_end; wrow_close) | walk1 | (dsimp only; walk1) | (leave1; walk_say "STEP leave1"; try dsimp only) | fail "no step")
  refine ite_cases (fun c => ?_) (fun c => ?_)
  · iterate 8 (first | (k_unfold; (try dsimp only)) | (k_end; wrow_close) | walk1 | (dsimp only; walk1) | (leave1; walk_say "STEP leave1"; try dsimp only) | fail "no step")
    refine store_new F' N' hne ⟨kvs, hdd, hff⟩ hTl hnk fun h5 o5 F5 N5 hig5 => ?_
    iterate 4 (first | (k_unfold; (try dsimp only)) | (k_end; wrow_close) | walk1 | (dsimp only; walk1) | (leave1; walk_say "STEP leave1"; try dsimp only) | fail "no step")
    rename News h₀ L _ _ => kN
    rename Fr h₀ L _ _ => kF
    exact h 1 _ o5 _ _ s.drawn (by rw [toldV, c]; rfl) kF kN hig5
  · iterate 7 (first | (k_unfold; (try dsimp only)) | (k_end; wrow_close) | walk1 | (dsimp only; walk1) | (leave1; walk_say "STEP leave1"; try dsimp only) | fail "no step")
    refine iter_set rfl (N'.get (.tail _ (.tail _ (.head _)))) hset (by rw [hi.length]; omega) fun I fp St order h5 d5 hperm W hst hI hfp hk => ?_
    rename Fr g' _ _ _ => F'
    have F5 := F'.keeps hk
    have N5 := N'.grown hk
    have hin : ∀ (i : Nat) (v : Value), order[i]? = some v → ∃ y u, v = Value.str y u ∧ y ∈ xs := fun i v hv => strs_mem hi (hperm.mem_iff.mp (List.mem_of_getElem? hv))
    refine loop_search (fun (v : Value) => ∀ (y : Str) (u : Tok), v = Value.str y u → Txt.startswith nm (y ++ Str.ofString ".") = false) W (fun i v v' h1 h2 => by rw [h1] at h2; exact Option.some.inj h2) ?_ ?_ ?_ hst F5 N5 ?_ ?_
    · intro hm
      rcases hfp _ hm with e | e
      · exact (N' (sa, so) (.tail _ (.tail _ (.head _)))).2.1 e.symm
      · obtain ⟨oL, _, _, hL, _⟩ := F'.ns
        have e' : h'.get? L' = none := e
        rw [hL] at e'; cases e'
    · intro b hb
      rw [List.mem_singleton.mp hb]
      cases q : g'.get? I with
      | none => rfl
      | some o => have := F'.keep _ _ q; rw [hI] at this; cases this
    · intro p hp hm
      have := (N' p hp).1
      rw [List.mem_singleton.mp hm, hI] at this; cases this
    · intro i v h6 tk6 own hlt hv F6 N6
      obtain ⟨y, u, rfl, hy⟩ := hin i v hv
      iterate 11 (first | (k_unfold; (try dsimp only)) | (k_end; wrow_close) | walk1 | (dsimp only; walk1) | (leave1; walk_say "STEP leave1"; try dsimp only) | fail "no step")
      refine PyProof.Rows.add_str (fun t7 tk7 => ?_) ?_
      rotate_left
      · have := hlen y hy
        have h2 : (Str.ofString ".").length = 1 := by decide
        rw [h2, sizeLine_eq]; omega
      iterate 3 (first | (k_unfold; (try dsimp only)) | (k_end; wrow_close) | walk1 | (dsimp only; walk1) | (leave1; walk_say "STEP leave1"; try dsimp only) | fail "no step")
      refine ite_cases (fun c6 => ?_) (fun c6 => ?_)
      · have N7 : News g' L' h6 _ := fun p hp => N6 p (List.mem_append_right _ hp)
        iterate 7 (first | (k_unfold; (try dsimp only)) | (k_end; wrow_close) | walk1 | (dsimp only; walk1) | (leave1; walk_say "STEP leave1"; try dsimp only) | fail "no step")
        rename Fr g' _ _ _ => F6
        refine store_new F6 N7 hne ⟨kvs, hdd, hff⟩ hTl hnk fun h8 o8 F8 N8 hig8 => ?_
        iterate 3 (first | (k_unfold; (try dsimp only)) | (k_end; wrow_close) | walk1 | (dsimp only; walk1) | (leave1; walk_say "STEP leave1"; try dsimp only) | fail "no step")
        dsimp only [SearchPost]
        repeat (first | (k_unfold; (try dsimp only)) | (k_end; wrow_close) | walk1 | (dsimp only; walk1) | (leave1; walk_say "STEP leave1"; try dsimp only) | fail "no step")
        rename News h₀ L _ _ => kN
        rename Fr h₀ L _ _ => kF
        exact h 1 _ o8 _ _ d5 (by rw [if_pos (toldV_of_any hy c6)]) kF kN hig8
      · iterate 2 (first | (k_unfold; (try dsimp only)) | (k_end; wrow_close) | walk1 | (dsimp only; walk1) | (leave1; walk_say "STEP leave1"; try dsimp only) | fail "no step")
        refine ⟨fun y' u' e => ?_, _, _, _, rfl, F6, fun z hz => if_neg hz, N6⟩
        cases e; simpa using c6
    · intro u h6 tk6 hall F6 N6
      have hfalse : toldV xs nm = false := by
        rw [toldV, Bool.or_eq_false_iff]
        refine ⟨by simpa using c, ?_⟩
        rw [List.any_eq_false]
        intro y hy
        obtain ⟨v, u', e, hv⟩ := strs_back hi hy
        obtain ⟨i, hi1, hi2⟩ := List.getElem_of_mem (hperm.mem_iff.mpr hv)
        have := hall i v hi1 (by rw [List.getElem?_eq_getElem hi1, hi2]) y u' e
        simp [this]
      iterate 14 (first | (k_unfold; (try dsimp only)) | (k_end; wrow_close) | walk1 | (dsimp only; walk1) | (leave1; walk_say "STEP leave1"; try dsimp only) | fail "no step")
      rename Fr g' _ _ _ => F6
      rename News g' _ _ _ => N6
      refine iter_empty rfl (.tail _ (.head _)) F6 N6 fun v7 h7 tk7 F7 N7 => ?_
      iterate 7 (first | (k_unfold; (try dsimp only)) | (k_end; wrow_close) | walk1 | (dsimp only; walk1) | (leave1; walk_say "STEP leave1"; try dsimp only) | fail "no step")
      refine store_new F7 N7 hne ⟨kvs, hdd, hff⟩ hTl hnk fun h8 o8 F8 N8 hig8 => ?_
      repeat (first | (k_unfold; (try dsimp only)) | (k_end; wrow_close) | walk1 | (dsimp only; walk1) | (leave1; walk_say "STEP leave1"; try dsimp only) | fail "no step")
      rename News h₀ L _ _ => kN
      rename Fr h₀ L _ _ => kF
      exact h 0 _ o8 _ _ d5 (by rw [hfalse]; rfl) kF kN hig8
end Mine

namespace Mine
open PySem PySem.W PyProof.Rows
local macro_rules | `(tactic| k_all) => `(tactic| assumption)
theorem names_old {w : World} {s : Shared} {env : Env} {base h₀ : Heap} {L : Addr} {m mg mb : Str → Option Value} {mean : ExcName → Option Value} {E : Value → Shared → Prop} {Q : Value → Shared → Prop} {news : List (Addr × Obj)}
    {x dx sa la da : Addr} {so od : Obj} {t1 t2 t3 : Tok} {T' : List (Str × Int)} {nm : Str} {fv : Value} {t : Tok} {r : Int}
    (B : Below callerA base [] h₀) (F : Fr h₀ L s.heap m) (X : (hd.heap_39 w.params).In h₀) (T : Top hd.view_39 (looseW hd.view_39 []) mean mg mb h₀)
    (N : News h₀ L s.heap ((da, od) :: (la, listOf #[] 0) :: (sa, so) :: (x, instObj 93 dx) :: (dx, igDict w sa la da t1 t2 t3) :: news))
    (hf : env.frame = some L) (hke : env.scope.kind = .function) (hig : Ign PySem.Challenge.rw_nb0074_01.row.toRowW.prog w od T') (hlo : (da == sysModules) = false)
    (hnk : PySem.Spec.lookup (.str nm) (tabD T') = some (.int r))
    (h : ∀ t' h' tk, Fr h₀ L h' m → News h₀ L h' ((da, od) :: (la, listOf #[] 0) :: (sa, so) :: (x, instObj 93 dx) :: (dx, igDict w sa la da t1 t2 t3) :: news) → Q (.int r t') { s with heap := h', toks := tk }) :
    wpAny (model PySem.Challenge.rw_nb0074_01.row.toRowW.prog w) (callerA.deeper env) (call (.ref 90) [.ref x, fv, .str nm t] []) Q E s := by
  revert X; k_fill; intro X
  refine wpAny_call ?_
  refine' code_def B F X N T rfl hf hke ?k6 ?k7 ?k8 ?k9 ?kB ?_ ?c2 ?c3 ?c4 ?c5
  case k6 => k_is
  case k7 => k_is
  case k8 => k_room
  case k9 => first | exact BindsTo.of_eq rfl | exact binds_K (by k_in) rfl (by k_is) rfl rfl rfl
  case c5 => decide
  case kB => exact locs rfl
  case c2 => exact rfl
  case c3 => exact rfl
  case c4 => exact rfl
  intro g' L' h' FG' F' N' B' X' T''
  try dsimp only
  k_fold
  obtain ⟨kvs, hdd, hff⟩ := hig
  iterate 10 (first | (k_unfold; (try dsimp only)) | (k_end; wrow_close) | walk1 | (dsimp only; walk1) | (leave1; walk_say "STEP leave1"; try dsimp only) | fail "no step")
  refine ite_pos (by rw [hnk]; rfl) ?_
  iterate 8 (first | (k_unfold; (try dsimp only)) | (k_end; wrow_close) | walk1 | (dsimp only; walk1) | (leave1; walk_say "STEP leave1"; try dsimp only) | fail "no step")
  have TT : TabAt (PySem.strKind PySem.Challenge.rw_nb0074_01.row.toRowW.prog w) PyData.str h' da (tabD T') := TabAt.ofObj hlo (N'.get (.head _)) hdd hff
  refine tab_tail TT ?_
  refine getItem_tab (k := nm) PyProof.V.same_str (by show (nm == nm) = true; simp) TT hnk fun v hv => ?_
  obtain ⟨t5, rfl⟩ : ∃ t5, v = .int r t5 := by cases hv h'; exact ⟨_, rfl⟩
  repeat (first | (k_unfold; (try dsimp only)) | (k_end; wrow_close) | walk1 | (dsimp only; walk1) | (leave1; walk_say "STEP leave1"; try dsimp only) | fail "no step")
  rename News h₀ L _ _ => kN
  rename Fr h₀ L _ _ => kF
  exact h _ _ _ kF kN
end Mine

namespace Mine
open PySem PySem.W PyProof.Rows PyProof.Rows.LCg
section
variable {prog : Program} {w : World} {A : Around} {E : Value → Shared → Prop} {s : Shared} {h₀ : Heap} {L : Addr} {m : Str → Option Value} {env : Env}
def Off (I C D : Addr) (news : List (Addr × Obj)) : Prop := ∀ p ∈ news, p.1 ≠ I ∧ p.1 ≠ C ∧ p.1 ≠ D
/-- what an element's evaluation must leave behind -/
def LedEnd (h₀ : Heap) (L : Addr) (m : Str → Option Value) (s₁ : Shared) (I C D : Addr) (oI oC oD : Obj) (J : Value → List (Addr × Obj) → Prop) (y : Value) (s₃ : Shared) : Prop :=
  s₃.gens = s₁.gens ∧ s₃.os = s₁.os ∧ ∃ news', Fr h₀ L s₃.heap m ∧ News h₀ L s₃.heap ((I, oI) :: (C, oC) :: (D, oD) :: news') ∧ Off I C D news' ∧ J y news'
/-- a comprehension over a range whose elements change the ledger and may draw -/
theorem comp_led {elt iter : PySem.Expr} {x : Str} {px : Pos} {scope : Scope} {cl : List (Str × Addr)} {pos : Pos} {Q : Value → Shared → Prop} (J : Nat → List Value → List (Addr × Obj) → Prop) (_F₀ : Fr h₀ L s.heap m)
    (hh : A.handled = none) (hclos : closureFor scope env = pure cl) (hcell : ∀ y ∈ scope.names, y.2 ≠ .cell) (hkind : scope.kind = .function)
    (hnames : ∀ y ∈ scope.names, y.2 = .local → scope.names.lookup y.1 = some .local) (hx : scope.names.lookup x = some .local)
    (hs : ∀ x, foldedSetIterable iter env x = pure x)
    (h : wpAny (model prog w) A (eval iter env) (fun xv s₁ => ∃ news : List (Addr × Obj), ∃ r a₀ b₀ t₀ u₀ v₀, ∃ n : Nat, xv = .ref r ∧ IsRange s₁.heap r a₀ b₀ 1 t₀ u₀ v₀ ∧ Builtin.Range.small a₀ b₀ 1 = true ∧ Builtin.Range.rangeSize a₀ b₀ 1 = (n : Int) ∧ n ≤ sizeLine ∧ Fr h₀ L s₁.heap m ∧ News h₀ L s₁.heap news ∧ J 0 [] news ∧
      (∀ i ys news' t C I D oI oC m₂ s₂ E', i < n → ys.length = i → J i ys news' → s₂.gens = s₁.gens → s₂.os = s₁.os → NsObj oC m₂ → m₂ x = some (.int (a₀ + (i : Int)) t) → Fr h₀ L s₂.heap m → News h₀ L s₂.heap ((I, oI) :: (C, oC) :: (D, lst ys) :: news') → Off I C D news' →
        wpAny (model prog w) A (eval elt (compEnvC scope cl C env)) (LedEnd h₀ L m s₁ I C D oI oC (lst ys) (fun y nw => J (i + 1) (ys ++ [y]) nw)) E' s₂) ∧
      (∀ D ys news' s₂, J n ys news' → s₂.gens = s₁.gens → s₂.os = s₁.os → Fr h₀ L s₂.heap m → News h₀ L s₂.heap ((D, lst ys) :: news') → (∀ p ∈ news', p.1 ≠ D) → Q (.ref D) s₂)) E s) :
    wpAny (model prog w) A (eval (.ListComp elt [⟨.Name x px, iter, [], 0⟩] scope pos) env) Q E s := by
  rw [eval_ListComp]
  refine wpAny_comprehension_free (use := none) rfl hs hclos hkind hnames (wpAny_mono h (fun xv s₁ h₁ => ?_) fun _ _ e => e)
  obtain ⟨news, r, a₀, b₀, t₀, u₀, v₀, n, rfl, hr, hsm, hn, hsz, F, N, hJ0, turn, fin⟩ := h₁
  refine wpAny_pyIter_range hr hsm ?_
  -- the iterator
  generalize hI : s₁.heap.objs.size = I
  generalize hH1 : s₁.heap.push { cls := .type "range_iterator", data := .fields #[rawInt a₀, rawInt (Builtin.Range.rangeSize a₀ b₀ 1), rawInt 1] } = H1
  have up1 : Ext s₁.heap H1 := fun b o e => hH1 ▸ Heap.get?_push_of_some _ e
  have z1 : H1.objs.size = I + 1 := by rw [← hH1, Heap.size_push, hI]
  have hst0 : IsRangeIter H1 I (a₀ + ((0 : Nat) : Int) * 1) ((n : Int) - ((0 : Nat) : Int)) 1 := by
    show H1.get? I = _
    rw [← hH1, ← hI, hn]; simpa using Heap.get?_push_size _ rfl
  have W := range_walks (prog := prog) (w := w) (I := I) hh a₀ n
  -- the list
  refine wpAny_newObj_type (wpAny_newFunctionEnv hcell (by intro y hy; simp at hy) (fun h₁ hns₁ hsb₁ => ?_) hkind)
  dsimp only at hns₁ hsb₁ ⊢
  generalize hD : H1.objs.size = D at hns₁ hsb₁ ⊢
  generalize hH2 : H1.push { cls := .type "list", dict := none, data := .seq ([] : List Value).toArray } = H2 at hns₁ hsb₁ ⊢
  have z2 : H2.objs.size = D + 1 := by rw [← hH2, Heap.size_push, hD]
  generalize hC : H2.objs.size = C at hns₁ hsb₁ ⊢
  have eD : D = I + 1 := by rw [← hD, z1]
  have eC : C = I + 2 := by rw [← hC, z2, eD]
  have hID : @Ne Nat I D := by omega
  have hIC : @Ne Nat I C := by omega
  have hDC : @Ne Nat D C := by omega
  have lt1 : ∀ b o, s₁.heap.get? b = some o → @LT.lt Nat _ b I := fun b o e => hI ▸ Heap.lt_size e
  have old : Ext H1 h₁ := fun b o e => hsb₁.extBut b o (fun q => by
    have h5 := Heap.lt_size e
    rw [hD] at h5
    have h6 : @LT.lt Nat _ b D := h5
    have q' : @Eq Nat b C := q
    omega) (Heap.get?_push_of_some _ (hH2 ▸ Heap.get?_push_of_some _ e))
  have hacc : h₁.get? D = some (lst []) := hsb₁.extBut _ _ hDC (Heap.get?_push_of_some _ (by rw [← hH2, ← hD]; exact Heap.get?_push_size _ rfl))
  have hLlt : @LT.lt Nat _ L I := hI ▸ F.ns.lt
  have fresh₀ : ∀ a, I ≤ a → h₀.get? a = none := fun a ha => by
    cases e : h₀.get? a with
    | none => rfl
    | some o' => have := lt1 _ _ (F.keep a o' e); omega
  have hI₀ := fresh₀ I (Nat.le_refl _)
  have hD₀ := fresh₀ D (by omega)
  have hC₀ := fresh₀ C (by omega)
  have hIL : I ≠ L := by show @Ne Nat I L; omega
  have hDL : D ≠ L := by show @Ne Nat D L; omega
  have hCL : C ≠ L := by show @Ne Nat C L; omega
  have Foff : Off I C D news := fun p hp => by
    have h1 := lt1 _ _ (N p hp).1
    refine ⟨?_, ?_, ?_⟩
    · show @Ne Nat p.1 I; omega
    · show @Ne Nat p.1 C; omega
    · show @Ne Nat p.1 D; omega
  have loop : ∀ s₃ : Shared, s₃.heap = h₁ → s₃.gens = s₁.gens → s₃.os = s₁.os →
      codeAny (model prog w) A (.compLoop (.ListComp elt [⟨.Name x px, iter, [], 0⟩] scope pos) 0 (.ref I) (.ref D) (compEnvC scope cl C env))
        (compPost (model prog w) A E none Q (.ref D) C) s₃ := by
    intro s₃ e1 e2 e3
    obtain ⟨mm, hmm⟩ : ∃ mm, h₁.Ns C mm := ⟨_, hns₁⟩
    refine codeAny_compLoop_tests
      (fun k s' => ∃ i ys m' news', s'.gens = s₁.gens ∧ s'.os = s₁.os ∧ i ≤ n ∧ k = n + 1 - i ∧ ys.length = i ∧ IsRangeIter s'.heap I (a₀ + (i : Nat) * 1) ((n : Int) - (i : Nat)) 1 ∧ Fr h₀ L s'.heap m ∧ s'.heap.Ns C m' ∧ News h₀ L s'.heap ((D, lst ys) :: news') ∧
        Off I C D news' ∧ J i ys news') ?_ (n + 1) ⟨0, [], mm, news, e2, e3, Nat.zero_le _, rfl, rfl, ?_, ?_, ?_, ?_, Foff, hJ0⟩
    · rintro k s' ⟨i, ys, m', news', g1, g2, hi, rfl, hyl, hst', F', hn', N', off', J'⟩
      by_cases hlt : i < n
      · refine W.item i _ _ _ hlt hst' fun v h₂ tk₂ hPv hst₂ hk₂ => ?_
        obtain ⟨t, rfl⟩ := hPv
        refine wpAny_assign_Name (wpAny_storeName_local (lookup_relabel_local hx) (hn'.at' fun o e => hk₂ _ o (by simpa using Ne.symm hIC) e) (fun h₃ hn₃ hs₃ => ?_) (by simp [compEnvC, relabel, hkind]))
        refine wpAny_tests_nil ?_
        simp only [if_true]
        have heI : h₃.get? I = some _ := (hs₃.2 I hIC).trans hst₂
        obtain ⟨oC, heC, hoC⟩ := ns_obj hn₃
        have F₂ : Fr h₀ L h₂ m := fr_but F' hk₂ (Ne.symm hIL) hI₀
        have F₃ : Fr h₀ L h₃ m := F₂.change hs₃ hCL hC₀
        have N₂ : News h₀ L h₂ ((D, lst ys) :: news') := news_but N' hk₂ fun p hp => by
          rcases List.mem_cons.mp hp with rfl | hp
          · exact Ne.symm hID
          · exact (off' p hp).1
        have N₃ : News h₀ L h₃ ((I, _) :: (C, oC) :: (D, lst ys) :: news') := fun p hp => by
          rcases List.mem_cons.mp hp with rfl | hp
          · exact ⟨heI, hIL, hI₀⟩
          · rcases List.mem_cons.mp hp with rfl | hp
            · exact ⟨heC, hCL, hC₀⟩
            · have z := N₂ p hp
              refine ⟨(hs₃.2 _ ?_).trans z.1, z.2⟩
              rcases List.mem_cons.mp hp with rfl | hp
              · exact hDC
              · exact (off' p hp).2.1
        refine wpAny_mono (turn i ys news' t C I D _ oC _ _ _ hlt hyl J' g1 g2 hoC (by simp) F₃ N₃ off') (fun y s₄ h₄ => ?_) fun _ _ e => e
        obtain ⟨g3, g4, news₄, F₄, N₄, off₄, J₄⟩ := h₄
        have zI := (N₄ _ (.head _)).1
        have zC := (N₄ _ (.tail _ (.head _))).1
        have zD := (N₄ _ (.tail _ (.tail _ (.head _)))).1
        refine append_at (hsz := by show ys.toArray.size ≤ sizeLine; rw [List.size_toArray, hyl]; exact Nat.le_trans hi hsz) zD fun h₅ hs₅ hD₅ => ?_
        refine ⟨n + 1 - (i + 1), by omega, i + 1, ys ++ [y], _, news₄, g3, g4, hlt, rfl, by rw [List.length_append, List.length_singleton, hyl], (hs₅.2 I hID).trans zI, F₄.change hs₅ hDL hD₀,
          (hoC.ns zC).sameBut hs₅ (Ne.symm hDC), fun p hp => ?_, off₄, J₄⟩
        rcases List.mem_cons.mp hp with rfl | hp
        · exact ⟨hD₅.trans (congrArg some (lst_snoc ys y)), hDL, hD₀⟩
        · have z := N₄ p (.tail _ (.tail _ (.tail _ hp)))
          exact ⟨(hs₅.2 _ (off₄ p hp).2.2).trans z.1, z.2⟩
      · obtain rfl : i = n := Nat.le_antisymm hi (Nat.not_lt.mp hlt)
        refine W.done _ _ _ hst' fun h₂ tk₂ hk₂ => ?_
        refine ⟨m', hn'.at' fun o e => hk₂ _ o (by simpa using Ne.symm hIC) e, fun h₃ hs₃ => ?_⟩
        refine fin D ys news' _ J' g1 g2 ((fr_but F' hk₂ (Ne.symm hIL) hI₀).change hs₃ hCL hC₀) (fun p hp => ?_) fun p hp => (off' p hp).2.2
        have hp1 : p.1 ≠ I := by
          rcases List.mem_cons.mp hp with rfl | hp
          · exact Ne.symm hID
          · exact (off' p hp).1
        have hp2 : p.1 ≠ C := by
          rcases List.mem_cons.mp hp with rfl | hp
          · exact hDC
          · exact (off' p hp).2.1
        have z := N' p hp
        exact ⟨(hs₃.2 _ hp2).trans (hk₂ _ _ (by simpa using hp1) z.1), z.2⟩
    · rw [e1]; exact old I _ hst0
    · rw [e1]; exact F.keeps (up1.trans old)
    · rw [e1]; exact hmm
    · rw [e1]
      intro p hp
      rcases List.mem_cons.mp hp with rfl | hp
      · exact ⟨hacc, hDL, hD₀⟩
      · exact ⟨old _ _ (up1 _ _ (N p hp).1), (N p hp).2⟩
  exact codeAny_compStart_list (loop _ rfl rfl rfl) (W.self 0 _ _ _ (old I _ hst0) (loop _ rfl rfl rfl))
end
end Mine

namespace Mine
open PySem PySem.W PyProof.Rows
theorem ext_new {h₀ h h' : Heap} {L D : Addr} {m : Str → Option Value} {news : List (Addr × Obj)} {o : Obj} (F : Fr h₀ L h m) (N : News h₀ L h news) (hk : Ext h h') (hn : h.get? D = none) (ho : h'.get? D = some o) :
    Fr h₀ L h' m ∧ News h₀ L h' ((D, o) :: news) ∧ ∀ p ∈ news, p.1 ≠ D := by
  refine ⟨F.keeps hk, fun p hp => ?_, fun p hp e => ?_⟩
  · rcases List.mem_cons.mp hp with rfl | hp
    · refine ⟨ho, ?_, ?_⟩
      · rintro rfl
        obtain ⟨oL, _, _, hL, _⟩ := F.ns
        rw [hL] at hn; cases hn
      · cases hq : h₀.get? D with
        | none => rfl
        | some o' => rw [F.keep _ _ hq] at hn; cases hn
    · exact ⟨hk _ _ (N p hp).1, (N p hp).2⟩
  · have := (N p hp).1; rw [e, hn] at this; cases this
def fnParts (n : String) : List Stmt → List Stmt × Scope
  | [] => ([], default)
  | .FunctionDef name _ body _ _ _ scope _ _ _ :: r => if name == Str.ofString n then (body, scope) else fnParts n r
  | _ :: r => fnParts n r
def lawDef : List Stmt × Scope := fnParts "law" PySem.Challenge.pw_nb0074_01.main.body
abbrev lawEnv (L fa : Addr) (cd : Value) : Env := envOfC (Str.ofString "law") lawDef.2 L fa cd
def whL (M : Int) : List Bool := false :: wh M 4
def Wb (M : Int) (n : Nat) : Bool := (whL M).getD n false
theorem whL_length (M : Int) : (whL M).length = 32 := by
  have h1 := lev_length M 1 (by decide)
  have h2 := lev_length M 2 (by decide)
  have h3 := lev_length M 3 (by decide)
  have h4 := lev_length M 4 (by decide)
  simp only [whL, wh, List.length_cons, List.length_append, h1, h2, h3, h4]
  simp [lev0]
def shutL (M : Int) : List Int := ((rangeInts 1 1 31).filter fun n => Wb M n.toNat && !Wb M (n.toNat / 2)).map fun n => n
def modS (n : Nat) : Str := (modUpTo 30).getD n Str.empty
theorem shutL_length (M : Int) : (shutL M).length ≤ 31 := by
  rw [shutL, List.length_map]
  refine Nat.le_trans (List.length_filter_le _ _) ?_
  rw [rangeInts_length]; decide
theorem shutL_mem {M a : Int} (h : a ∈ shutL M) : 1 ≤ a ∧ a < 32 := by
  rw [shutL, List.map_id'] at h
  have := mem_rangeInts1 (List.mem_filter.mp h).1
  omega
def xsL (M : Int) : List Str := (shutL M).map fun n => modS n.toNat
def tv (M : Int) (n : Nat) : Int := if toldV (xsL M) (modS n) = true then 1 else 0
def tvs (M : Int) (i : Nat) : List Int := (List.range i).map fun j => tv M (j + 1)
def b01 (b : Bool) : Int := if b = true then 1 else 0
def dueL (M : Int) : List Int := (whL M).map b01
theorem dueL_len (M : Int) : (dueL M).length = 32 := by rw [dueL, List.length_map, whL_length]
def szI (n : Int) : Int := 16 / 2 ^ (Builtin.Int.intBits n - 1)
def bitsL (M : Int) (a z : Nat) : List Int := ((dueL M).drop a).take z
theorem bitsL_len (M : Int) {a q : Nat} (h : a + q ≤ 32) : (bitsL M a q).length = q := by
  rw [bitsL, List.length_take, List.length_drop, dueL_len]; omega
theorem piece_range {M P : Int} {a q : Nat} (_h0 : 0 ≤ M) (hP : M / 2 ^ a % 2 ^ q = P) : 0 ≤ P ∧ P < 2 ^ q := by
  subst hP
  have : (0 : Int) < 2 ^ q := Int.pow_pos (by decide)
  exact ⟨Int.emod_nonneg _ (by omega), Int.emod_lt_of_pos _ this⟩
def onesL (M : Int) (a q : Nat) : List Int := (rangeInts 0 1 q).filter fun k => (bitsL M a q).getD k.toNat 0 == 1
def lastI (M : Int) (a q : Nat) : Int := if onesL M a q = [] then -1 else (onesL M a q).getLastD 0
end Mine

namespace Mine
open PySem PySem.W PyProof.Rows
theorem modS_inj' : ∀ i : Nat, i < 32 → ∀ j : Nat, j < 32 → modS i = modS j → i = j := by decide +kernel
theorem modS_not' : ∀ i : Nat, i < 32 → modS i ≠ Str.ofString "<string>" := by decide +kernel
def tb (k n : Nat) : Bool := modS k == modS n || Txt.startswith (modS n) (modS k ++ Str.ofString ".")
theorem tb_table : ∀ k : Nat, k < 32 → ∀ n : Nat, n < 32 → 1 ≤ k → 1 ≤ n → tb k n = (k == n || k == n / 2 || k == n / 4 || k == n / 8 || k == n / 16) := by decide +kernel
def whX (x0 x1 x2 x3 x4 x5 x6 x7 x8 x9 x10 x11 x12 x13 x14 x15 : Bool) : List Bool := [false, ((((x0 && x1) && (x2 && x3)) && ((x4 && x5) && (x6 && x7))) && (((x8 && x9) && (x10 && x11)) && ((x12 && x13) && (x14 && x15)))), (((x0 && x1) && (x2 && x3)) && ((x4 && x5) && (x6 && x7))), (((x8 && x9) && (x10 && x11)) && ((x12 && x13) && (x14 && x15))), ((x0 && x1) && (x2 && x3)), ((x4 && x5) && (x6 && x7)), ((x8 && x9) && (x10 && x11)), ((x12 && x13) && (x14 && x15)), (x0 && x1), (x2 && x3), (x4 && x5), (x6 && x7), (x8 && x9), (x10 && x11), (x12 && x13), (x14 && x15), x0, x1, x2, x3, x4, x5, x6, x7, x8, x9, x10, x11, x12, x13, x14, x15]
theorem half_nil : half [] = [] := rfl
theorem half_cons (a b : Bool) (l : List Bool) : half (a :: b :: l) = (a && b) :: half l := by
  unfold half
  rw [show (a :: b :: l).length / 2 = l.length / 2 + 1 by simp only [List.length_cons]; omega, List.range_succ_eq_map, List.map_cons, List.map_map]
  congr 1
theorem half_X (x0 x1 x2 x3 x4 x5 x6 x7 x8 x9 x10 x11 x12 x13 x14 x15 : Bool) : false :: (half (half (half (half [x0, x1, x2, x3, x4, x5, x6, x7, x8, x9, x10, x11, x12, x13, x14, x15]))) ++ (half (half (half [x0, x1, x2, x3, x4, x5, x6, x7, x8, x9, x10, x11, x12, x13, x14, x15])) ++ (half (half [x0, x1, x2, x3, x4, x5, x6, x7, x8, x9, x10, x11, x12, x13, x14, x15]) ++ (half [x0, x1, x2, x3, x4, x5, x6, x7, x8, x9, x10, x11, x12, x13, x14, x15] ++ [x0, x1, x2, x3, x4, x5, x6, x7, x8, x9, x10, x11, x12, x13, x14, x15])))) = whX x0 x1 x2 x3 x4 x5 x6 x7 x8 x9 x10 x11 x12 x13 x14 x15 := by
  simp only [half_cons, half_nil]
  rfl
theorem whL_X (M : Int) : whL M = whX ((M / 2 ^ 0) % 2 == 1) ((M / 2 ^ 1) % 2 == 1) ((M / 2 ^ 2) % 2 == 1) ((M / 2 ^ 3) % 2 == 1) ((M / 2 ^ 4) % 2 == 1) ((M / 2 ^ 5) % 2 == 1) ((M / 2 ^ 6) % 2 == 1) ((M / 2 ^ 7) % 2 == 1) ((M / 2 ^ 8) % 2 == 1) ((M / 2 ^ 9) % 2 == 1) ((M / 2 ^ 10) % 2 == 1) ((M / 2 ^ 11) % 2 == 1) ((M / 2 ^ 12) % 2 == 1) ((M / 2 ^ 13) % 2 == 1) ((M / 2 ^ 14) % 2 == 1) ((M / 2 ^ 15) % 2 == 1) := by
  rw [← half_X]
  rfl
theorem Wb_half (M : Int) : ∀ n : Nat, 1 ≤ n → n < 16 → Wb M n = (Wb M (2 * n) && Wb M (2 * n + 1)) := by
  intro n h0 h1
  unfold Wb
  rw [whL_X]
  generalize ((M / 2 ^ 0) % 2 == 1) = x0
  generalize ((M / 2 ^ 1) % 2 == 1) = x1
  generalize ((M / 2 ^ 2) % 2 == 1) = x2
  generalize ((M / 2 ^ 3) % 2 == 1) = x3
  generalize ((M / 2 ^ 4) % 2 == 1) = x4
  generalize ((M / 2 ^ 5) % 2 == 1) = x5
  generalize ((M / 2 ^ 6) % 2 == 1) = x6
  generalize ((M / 2 ^ 7) % 2 == 1) = x7
  generalize ((M / 2 ^ 8) % 2 == 1) = x8
  generalize ((M / 2 ^ 9) % 2 == 1) = x9
  generalize ((M / 2 ^ 10) % 2 == 1) = x10
  generalize ((M / 2 ^ 11) % 2 == 1) = x11
  generalize ((M / 2 ^ 12) % 2 == 1) = x12
  generalize ((M / 2 ^ 13) % 2 == 1) = x13
  generalize ((M / 2 ^ 14) % 2 == 1) = x14
  generalize ((M / 2 ^ 15) % 2 == 1) = x15
  rcases (show n = 1 ∨ n = 2 ∨ n = 3 ∨ n = 4 ∨ n = 5 ∨ n = 6 ∨ n = 7 ∨ n = 8 ∨ n = 9 ∨ n = 10 ∨ n = 11 ∨ n = 12 ∨ n = 13 ∨ n = 14 ∨ n = 15 by omega) with rfl | rfl | rfl | rfl | rfl | rfl | rfl | rfl | rfl | rfl | rfl | rfl | rfl | rfl | rfl <;> rfl
theorem Wb_zero (M : Int) : Wb M 0 = false := rfl
theorem Wb_leaf (M : Int) : ∀ k : Nat, k < 16 → Wb M (16 + k) = ((M / 2 ^ k) % 2 == 1) := by
  intro n h1
  unfold Wb
  rw [whL_X]
  rcases (show n = 0 ∨ n = 1 ∨ n = 2 ∨ n = 3 ∨ n = 4 ∨ n = 5 ∨ n = 6 ∨ n = 7 ∨ n = 8 ∨ n = 9 ∨ n = 10 ∨ n = 11 ∨ n = 12 ∨ n = 13 ∨ n = 14 ∨ n = 15 by omega) with rfl | rfl | rfl | rfl | rfl | rfl | rfl | rfl | rfl | rfl | rfl | rfl | rfl | rfl | rfl | rfl <;> rfl
end Mine

namespace Mine
open PySem PySem.W PyProof.Rows
theorem Wb_mono (M : Int) (n : Nat) (h1 : n < 32) (h : Wb M (n / 2) = true) : Wb M n = true := by
  rcases (show n / 2 = 0 ∨ 1 ≤ n / 2 by omega) with e | e
  · rw [e, Wb_zero] at h; cases h
  · have := Wb_half M (n / 2) e (by omega)
    rw [h] at this
    have h2 := (Bool.and_eq_true _ _ ▸ this.symm : Wb M (2 * (n / 2)) = true ∧ Wb M (2 * (n / 2) + 1) = true)
    rcases (show n = 2 * (n / 2) ∨ n = 2 * (n / 2) + 1 by omega) with e2 | e2
    · rw [e2]; exact h2.1
    · rw [e2]; exact h2.2
theorem shutL_iff {M a : Int} : a ∈ shutL M ↔ (1 ≤ a ∧ a < 32) ∧ Wb M a.toNat = true ∧ Wb M (a.toNat / 2) = false := by
  rw [shutL, List.map_id', List.mem_filter]
  constructor
  · rintro ⟨h1, h2⟩
    have := mem_rangeInts1 h1
    refine ⟨by omega, ?_⟩
    simpa using h2
  · rintro ⟨h1, h2⟩
    refine ⟨?_, by simpa using h2⟩
    rw [rangeInts]
    exact List.mem_map.mpr ⟨(a - 1).toNat, List.mem_range.mpr (by omega), by omega⟩
theorem told_tb (M : Int) (n : Nat) : toldV (xsL M) (modS n) = (shutL M).any fun k => tb k.toNat n := by
  rw [Bool.eq_iff_iff, toldV, Bool.or_eq_true, List.any_eq_true, List.any_eq_true, List.contains_iff_mem]
  constructor
  · rintro (h | ⟨y, hy, h⟩)
    · obtain ⟨k, hk, e⟩ := List.mem_map.mp h
      exact ⟨k, hk, by rw [tb, Bool.or_eq_true]; exact .inl (by simpa using e)⟩
    · obtain ⟨k, hk, rfl⟩ := List.mem_map.mp hy
      exact ⟨k, hk, by rw [tb, Bool.or_eq_true]; exact .inr h⟩
  · rintro ⟨k, hk, h⟩
    rw [tb, Bool.or_eq_true] at h
    rcases h with h | h
    · exact .inl (List.mem_map.mpr ⟨k, hk, by simpa using h⟩)
    · exact .inr ⟨_, List.mem_map.mpr ⟨k, hk, rfl⟩, h⟩
theorem told_W (M : Int) (n : Nat) (h0 : 1 ≤ n) (h1 : n < 32) : toldV (xsL M) (modS n) = Wb M n := by
  rw [told_tb, Bool.eq_iff_iff, List.any_eq_true]
  have m1 := Wb_mono M n h1
  have m2 : Wb M (n / 4) = true → Wb M (n / 2) = true := fun h => Wb_mono M (n / 2) (by omega) (by rwa [Nat.div_div_eq_div_mul])
  have m3 : Wb M (n / 8) = true → Wb M (n / 4) = true := fun h => Wb_mono M (n / 4) (by omega) (by rwa [Nat.div_div_eq_div_mul])
  have m4 : Wb M (n / 16) = true → Wb M (n / 8) = true := fun h => Wb_mono M (n / 8) (by omega) (by rwa [Nat.div_div_eq_div_mul])
  constructor
  · rintro ⟨k, hk, h⟩
    obtain ⟨⟨k0, k1⟩, hw, _⟩ := shutL_iff.mp hk
    rw [tb_table k.toNat (by omega) n h1 (by omega) h0] at h
    simp only [Bool.or_eq_true, beq_iff_eq] at h
    rcases h with (((h | h) | h) | h) | h <;> rw [h] at hw
    · exact hw
    · exact m1 hw
    · exact m1 (m2 hw)
    · exact m1 (m2 (m3 hw))
    · exact m1 (m2 (m3 (m4 hw)))
  · intro hw
    have put : ∀ j : Nat, 1 ≤ j → j < 32 → Wb M j = true → Wb M (j / 2) = false → (j = n ∨ j = n / 2 ∨ j = n / 4 ∨ j = n / 8 ∨ j = n / 16) → ∃ x, x ∈ shutL M ∧ tb x.toNat n = true := by
      intro j j0 j1 w1 w2 e
      refine ⟨(j : Int), shutL_iff.mpr ⟨by omega, by rw [Int.toNat_natCast]; exact ⟨w1, w2⟩⟩, ?_⟩
      rw [Int.toNat_natCast, tb_table j j1 n h1 j0 h0]
      simp only [Bool.or_eq_true, beq_iff_eq]
      omega
    have z : ∀ j : Nat, Wb M j = true → 1 ≤ j := by
      intro j h
      rcases Nat.eq_zero_or_pos j with rfl | h'
      · rw [Wb_zero] at h; cases h
      · exact h'
    cases e1 : Wb M (n / 2) with
    | false => exact put n h0 h1 hw e1 (by omega)
    | true =>
    cases e2 : Wb M (n / 4) with
    | false => exact put (n / 2) (z _ e1) (by omega) e1 (by rw [Nat.div_div_eq_div_mul]; exact e2) (by omega)
    | true =>
    cases e3 : Wb M (n / 8) with
    | false => exact put (n / 4) (z _ e2) (by omega) e2 (by rw [Nat.div_div_eq_div_mul]; exact e3) (by omega)
    | true =>
    cases e4 : Wb M (n / 16) with
    | false => exact put (n / 8) (z _ e3) (by omega) e3 (by rw [Nat.div_div_eq_div_mul]; exact e4) (by omega)
    | true => exact put (n / 16) (z _ e4) (by omega) e4 (by rw [show n / 16 / 2 = 0 by omega, Wb_zero]) (by omega)
theorem whL_range (M : Int) : whL M = (List.range 32).map (Wb M) := by
  apply List.ext_getElem
  · rw [whL_length]; simp
  · intro i h1 h2
    simp only [List.getElem_map, List.getElem_range, Wb]
    simp [List.getD, h1]
theorem told_due' (M : Int) : 0 :: tvs M 31 = dueL M := by
  rw [dueL, whL_range, tvs, List.map_map, show (List.range 32) = 0 :: (List.range 31).map (· + 1) from by decide, List.map_cons, List.map_map]
  congr 1
  apply List.map_congr_left
  intro j hj
  have := List.mem_range.mp hj
  simp only [Function.comp, tv, b01]
  rw [told_W M (j + 1) (by omega) (by omega)]
theorem xsL_nodup' (M : Int) : (xsL M).Nodup := by
  unfold xsL
  rw [List.Nodup, List.pairwise_map]
  have h : (shutL M).Pairwise (· ≠ ·) := by
    rw [shutL, List.map_id']
    exact List.Pairwise.filter _ (by decide)
  refine h.imp_of_mem fun {a b} ha hb hne e => ?_
  have h1 := shutL_mem ha
  have h2 := shutL_mem hb
  have := modS_inj' a.toNat (by omega) b.toNat (by omega) e
  omega
end Mine

namespace Mine
open PySem PySem.W PyProof.Rows
theorem szI_1 : szI 1 = 16 := by decide +kernel
theorem szI_2 : szI 2 = 8 := by decide +kernel
theorem szI_3 : szI 3 = 8 := by decide +kernel
theorem szI_4 : szI 4 = 4 := by decide +kernel
theorem szI_5 : szI 5 = 4 := by decide +kernel
theorem szI_6 : szI 6 = 4 := by decide +kernel
theorem szI_7 : szI 7 = 4 := by decide +kernel
theorem szI_8 : szI 8 = 2 := by decide +kernel
theorem szI_9 : szI 9 = 2 := by decide +kernel
theorem szI_10 : szI 10 = 2 := by decide +kernel
theorem szI_11 : szI 11 = 2 := by decide +kernel
theorem szI_12 : szI 12 = 2 := by decide +kernel
theorem szI_13 : szI 13 = 2 := by decide +kernel
theorem szI_14 : szI 14 = 2 := by decide +kernel
theorem szI_15 : szI 15 = 2 := by decide +kernel
theorem szI_16 : szI 16 = 1 := by decide +kernel
theorem szI_17 : szI 17 = 1 := by decide +kernel
theorem szI_18 : szI 18 = 1 := by decide +kernel
theorem szI_19 : szI 19 = 1 := by decide +kernel
theorem szI_20 : szI 20 = 1 := by decide +kernel
theorem szI_21 : szI 21 = 1 := by decide +kernel
theorem szI_22 : szI 22 = 1 := by decide +kernel
theorem szI_23 : szI 23 = 1 := by decide +kernel
theorem szI_24 : szI 24 = 1 := by decide +kernel
theorem szI_25 : szI 25 = 1 := by decide +kernel
theorem szI_26 : szI 26 = 1 := by decide +kernel
theorem szI_27 : szI 27 = 1 := by decide +kernel
theorem szI_28 : szI 28 = 1 := by decide +kernel
theorem szI_29 : szI 29 = 1 := by decide +kernel
theorem szI_30 : szI 30 = 1 := by decide +kernel
theorem szI_31 : szI 31 = 1 := by decide +kernel
theorem filter_sum (p : Int → Bool) (f : Int → Int) : ∀ l : List Int, ((l.filter p).map f).sum = (l.map fun k => if p k = true then f k else 0).sum
  | [] => rfl
  | a :: r => by
    rw [List.filter_cons, List.map_cons, List.sum_cons, ← filter_sum p f r]
    cases h : p a <;> simp
theorem shut_term (M k : Int) (h0 : 0 ≤ k) (h1 : k < 32) (c : Int) : (if (Wb M k.toNat && !Wb M (k.toNat / 2)) = true then c else 0) = c * b01 (Wb M k.toNat) - c * b01 (Wb M (k.toNat / 2)) := by
  have := Wb_mono M k.toNat (by omega)
  cases h : Wb M (k.toNat / 2) with
  | true => rw [this h]; simp [b01]
  | false => cases Wb M k.toNat <;> simp [b01]
theorem shut_sum' (M : Int) : ((shutL M).map szI).sum = ((dueL M).drop 16).sum := by
  rw [shutL, List.map_id', filter_sum]
  have e : ((rangeInts 1 1 31).map fun k => if (Wb M k.toNat && !Wb M (k.toNat / 2)) = true then szI k else 0) = (rangeInts 1 1 31).map fun k => szI k * b01 (Wb M k.toNat) - szI k * b01 (Wb M (k.toNat / 2)) :=
    List.map_congr_left fun k hk => by
      have := mem_rangeInts1 hk
      exact shut_term M k (by omega) (by omega) _
  rw [e, show rangeInts 1 1 31 = [1, 2, 3, 4, 5, 6, 7, 8, 9, 10, 11, 12, 13, 14, 15, 16, 17, 18, 19, 20, 21, 22, 23, 24, 25, 26, 27, 28, 29, 30, 31] by decide, dueL, whL_range, List.map_map, ← List.map_drop, show (List.range 32).drop 16 = [16, 17, 18, 19, 20, 21, 22, 23, 24, 25, 26, 27, 28, 29, 30, 31] by decide]
  simp only [List.map_cons, List.map_nil, List.sum_cons, List.sum_nil, Function.comp, szI_1, szI_2, szI_3, szI_4, szI_5, szI_6, szI_7, szI_8, szI_9, szI_10, szI_11, szI_12, szI_13, szI_14, szI_15, szI_16, szI_17, szI_18, szI_19, szI_20, szI_21, szI_22, szI_23, szI_24, szI_25, szI_26, szI_27, szI_28, szI_29, szI_30, szI_31, Int.reduceToNat, Nat.reduceDiv, Wb_zero]
  have z : b01 false = 0 := rfl
  rw [z]
  omega
end Mine

namespace Mine
open PySem PySem.W PyProof.Rows
def nb : Nat → Nat → List Int
  | _, 0 => []
  | p, q + 1 => ((p % 2 : Nat) : Int) :: nb (p / 2) q
theorem nb_len : ∀ (q p : Nat), (nb p q).length = q
  | 0, _ => rfl
  | q + 1, p => by rw [nb, List.length_cons, nb_len q]
theorem nb_get : ∀ (q p j : Nat), j < q → (nb p q).getD j 0 = ((p / 2 ^ j % 2 : Nat) : Int)
  | q + 1, p, 0, _ => by simp [nb]
  | q + 1, p, j + 1, h => by
    have := nb_get q (p / 2) j (by omega)
    rw [nb, List.getD_cons_succ, this, Nat.div_div_eq_div_mul, Nat.pow_succ, Nat.mul_comm]
theorem nb_le : ∀ (q p : Nat), ∀ y ∈ nb p q, 0 ≤ y ∧ y ≤ 1
  | 0, _, _, h => by cases h
  | q + 1, p, y, h => by
    rcases List.mem_cons.mp h with rfl | h
    · omega
    · exact nb_le q _ y h
theorem nb_zero : ∀ (q p : Nat), p < 2 ^ q → ((∀ y ∈ nb p q, y ≤ 0) ↔ p = 0)
  | 0, p, h => by
    have : p = 0 := by simpa using h
    simp [nb, this]
  | q + 1, p, h => by
    have ih := nb_zero q (p / 2) (by rw [Nat.pow_succ] at h; omega)
    rw [nb]
    constructor
    · intro hy
      have h1 := hy _ (.head _)
      have h2 := ih.mp fun y hy' => hy y (.tail _ hy')
      omega
    · rintro rfl y hy
      rcases List.mem_cons.mp hy with rfl | hy
      · simp
      · exact ih.mpr (by omega) y hy
def on (l : List Int) : List Int := (rangeInts 0 1 l.length).filter fun k => l.getD k.toNat 0 == 1
theorem rangeInts_zero_succ (n : Nat) : rangeInts 0 1 (n + 1) = 0 :: (rangeInts 0 1 n).map (· + 1) := by
  simp only [rangeInts, List.range_succ_eq_map, List.map_cons, List.map_map]
  congr 1
theorem on_cons (x : Int) (l : List Int) : on (x :: l) = (if (x == 1) = true then [0] else []) ++ (on l).map (· + 1) := by
  unfold on
  rw [List.length_cons, rangeInts_zero_succ, List.filter_cons, List.filter_map]
  have e : (rangeInts 0 1 l.length).filter ((fun k : Int => (x :: l).getD k.toNat 0 == 1) ∘ (· + 1)) = (rangeInts 0 1 l.length).filter fun k => l.getD k.toNat 0 == 1 := by
    apply List.filter_congr
    intro k hk
    have := mem_rangeInts1 hk
    simp only [Function.comp]
    rw [show (k + 1).toNat = k.toNat + 1 by omega, List.getD_cons_succ]
  rw [e]
  cases h : x == 1 <;> simp_all
theorem on_nonneg {l : List Int} {k : Int} (h : k ∈ on l) : 0 ≤ k := (mem_rangeInts1 (List.mem_filter.mp h).1).1
def lastOf (o : List Int) : Int := if o = [] then -1 else o.getLastD 0
theorem lastOf_map (x : Int) (l : List Int) (h : on l ≠ []) : lastOf (on (x :: l)) = lastOf (on l) + 1 := by
  have h2 : (on l).map (· + 1) ≠ [] := by simpa using h
  have h3 : on (x :: l) ≠ [] := by rw [on_cons]; simp [h]
  rw [lastOf, if_neg h3, lastOf, if_neg h, on_cons, List.getLastD_eq_getLast?, List.getLastD_eq_getLast?, List.getLast?_append, List.getLast?_map]
  rw [List.getLast?_eq_some_getLast h]
  simp
theorem lastOf_nil (x : Int) (l : List Int) (h : on l = []) : lastOf (on (x :: l)) = if (x == 1) = true then 0 else -1 := by
  rw [on_cons, h]
  cases x == 1 <;> simp [lastOf]
theorem lastOf_nonneg {l : List Int} (h : on l ≠ []) : 0 ≤ lastOf (on l) := by
  rw [lastOf, if_neg h, List.getLastD_eq_getLast?, List.getLast?_eq_some_getLast h]
  exact on_nonneg (List.getLast_mem h)
def ib (p : Nat) : Nat := if p = 0 then 0 else p.log2 + 1
theorem ib_eq (p : Nat) : Builtin.Int.intBits (p : Int) = ib p := by
  unfold Builtin.Int.intBits ib
  by_cases h : p = 0 <;> simp [h]
theorem ib_step (p : Nat) (h : 2 ≤ p) : ib p = ib (p / 2) + 1 := by
  have e1 : p ≠ 0 := by omega
  have e2 : p / 2 ≠ 0 := by omega
  unfold ib
  rw [if_neg e1, if_neg e2, Nat.log2_def, if_pos h]
theorem ib_le (q p : Nat) (h : p < 2 ^ q) : ib p ≤ q := by
  unfold ib
  split
  · omega
  · rename_i hn; exact (Nat.log2_lt hn).mpr h
theorem ib_one : ib 1 = 1 := by decide
theorem ib_zero : ib 0 = 0 := rfl
theorem ib_pos {p : Nat} (h : ib p = 0) : p = 0 := by
  unfold ib at h; split at h <;> omega
theorem last_law : ∀ (q p : Nat), p < 2 ^ q → (ib p : Int) - 1 = lastOf (on (nb p q))
  | 0, p, h => by
    have : p = 0 := by simpa using h
    subst this; rfl
  | q + 1, p, h => by
    have ih := last_law q (p / 2) (by rw [Nat.pow_succ] at h; omega)
    rw [nb]
    by_cases hr : p / 2 = 0
    · have hn : on (nb (p / 2) q) = [] := by
        rw [hr, ib_zero] at ih
        refine Classical.byContradiction fun hn => ?_
        have := lastOf_nonneg hn
        rw [hr] at this
        omega
      rw [lastOf_nil _ _ hn]
      rcases (show p = 0 ∨ p = 1 by omega) with rfl | rfl <;> simp [ib_zero, ib_one]
    · have hn : on (nb (p / 2) q) ≠ [] := by
        intro hn
        rw [hn] at ih
        have : lastOf ([] : List Int) = -1 := rfl
        exact hr (ib_pos (by omega))
      rw [lastOf_map _ _ hn, ← ih, ib_step p (by omega)]
      omega
end Mine

namespace Mine
open PySem PySem.W PyProof.Rows
def sb (p : Nat) : Bool := if p = 0 then false else (p &&& (p - 1)) == 0
theorem sbit_nat (p : Nat) : sbit (p : Int) = sb p := by
  unfold sbit sb
  by_cases h : p = 0
  · simp [h]
  · have h1 : ((p : Int) == 0) = false := by simpa using h
    have h2 : (0 : Int) ≤ (p : Int) := by omega
    have h3 : (0 : Int) ≤ (p : Int) - 1 := by omega
    have h4 : ((p : Int) - 1).toNat = p - 1 := by omega
    rw [h1, if_neg (by decide), if_neg h]
    simp only [Builtin.bitAnd, h2, h3, decide_true, Int.toNat_natCast, h4]
    rw [Bool.eq_iff_iff]
    simp only [beq_iff_eq]
    omega
theorem and_odd (r : Nat) : (2 * r + 1) &&& (2 * r) = 2 * r := by
  apply Nat.eq_of_testBit_eq
  intro i
  rw [Nat.testBit_and]
  cases i with
  | zero => simp
  | succ i =>
    rw [Nat.testBit_succ, Nat.testBit_succ, show (2 * r + 1) / 2 = r by omega, show 2 * r / 2 = r by omega, Bool.and_self]
theorem and_even (r s : Nat) : (2 * r) &&& (2 * s + 1) = 2 * (r &&& s) := by
  apply Nat.eq_of_testBit_eq
  intro i
  rw [Nat.testBit_and]
  cases i with
  | zero => simp
  | succ i =>
    rw [Nat.testBit_succ, Nat.testBit_succ, Nat.testBit_succ, show (2 * s + 1) / 2 = s by omega, show 2 * r / 2 = r by omega, show 2 * (r &&& s) / 2 = (r &&& s) by omega, Nat.testBit_and]
theorem sb_odd (r : Nat) : sb (2 * r + 1) = (r == 0) := by
  rw [sb, if_neg (by omega), Nat.add_sub_cancel, and_odd]
  cases r <;> simp
theorem sb_even (r : Nat) : sb (2 * r) = sb r := by
  unfold sb
  by_cases h : r = 0
  · simp [h]
  · rw [if_neg (by omega), if_neg h, show 2 * r - 1 = 2 * (r - 1) + 1 by omega, and_even, Bool.eq_iff_iff]
    simp only [beq_iff_eq]
    omega
theorem on_len0 (q p : Nat) (h : p < 2 ^ q) : ((on (nb p q)).length = 0 ↔ p = 0) := by
  have hl := last_law q p h
  constructor
  · intro e
    rw [List.length_eq_zero_iff.mp e] at hl
    have : lastOf ([] : List Int) = -1 := rfl
    exact ib_pos (by omega)
  · rintro rfl
    rw [ib_zero] at hl
    refine List.length_eq_zero_iff.mpr (Classical.byContradiction fun hn => ?_)
    have := lastOf_nonneg hn
    omega
theorem one_law : ∀ (q p : Nat), p < 2 ^ q → sb p = ((on (nb p q)).length == 1)
  | 0, p, h => by
    have : p = 0 := by simpa using h
    subst this; rfl
  | q + 1, p, h => by
    have hr : p / 2 < 2 ^ q := by rw [Nat.pow_succ] at h; omega
    have ih := one_law q (p / 2) hr
    have h0 := on_len0 q (p / 2) hr
    rw [nb, on_cons, List.length_append, List.length_map]
    rcases Nat.mod_two_eq_zero_or_one p with e | e
    · rw [show sb p = sb (2 * (p / 2)) by congr 1; omega, sb_even, ih, e]
      simp
    · rw [show sb p = sb (2 * (p / 2) + 1) by congr 1; omega, sb_odd, e, Bool.eq_iff_iff]
      simp only [beq_iff_eq, ← h0]
      simp
theorem desc_law : ∀ (q p : Nat), p < 2 ^ q → (sb (p + 1) = true ↔ (nb p q).Pairwise (· ≥ ·))
  | 0, p, h => by
    have : p = 0 := by simpa using h
    subst this; simp [nb]; decide
  | q + 1, p, h => by
    have hr : p / 2 < 2 ^ q := by rw [Nat.pow_succ] at h; omega
    have ih := desc_law q (p / 2) hr
    have h0 := nb_zero q (p / 2) hr
    have hle := nb_le q (p / 2)
    rw [nb, List.pairwise_cons]
    rcases Nat.mod_two_eq_zero_or_one p with e | e
    · rw [show sb (p + 1) = sb (2 * (p / 2) + 1) by congr 1; omega, sb_odd, e]
      simp only [beq_iff_eq]
      constructor
      · intro h1
        have h2 := h0.mpr h1
        refine ⟨fun y hy => by simpa using h2 y hy, ?_⟩
        refine List.Pairwise.imp_of_mem (R := fun _ _ => True) (fun {a b} ha hb _ => ?_) (List.pairwise_of_forall fun _ _ => trivial)
        have h3 := h2 b hb
        have h4 := (hle a ha).1
        show b ≤ a
        omega
      · rintro ⟨h1, _⟩
        exact h0.mp fun y hy => by simpa using h1 y hy
    · rw [show sb (p + 1) = sb (2 * (p / 2 + 1)) by congr 1; omega, sb_even, ih, e]
      constructor
      · intro h1
        exact ⟨fun y hy => by have := (hle y hy).2; simpa using this, h1⟩
      · exact fun h1 => h1.2
theorem sorted_law {l sn : List Int} (hp : sn.Perm l) (hw : sn.Pairwise (· ≤ ·)) : (l = sn.reverse ↔ l.Pairwise (· ≥ ·)) := by
  constructor
  · rintro rfl
    exact List.pairwise_reverse.mpr hw
  · intro h
    have h1 : l.reverse.Pairwise (· ≤ ·) := List.pairwise_reverse.mpr h
    have h2 : sn = l.reverse := List.Perm.eq_of_pairwise (fun a b _ _ x y => Int.le_antisymm x y) hw h1 (hp.trans (List.reverse_perm l).symm)
    rw [h2, List.reverse_reverse]
theorem all_law : ∀ (q p : Nat), p < 2 ^ q → (ib (p + 1) = q + 1 ↔ ∀ y ∈ nb p q, y = 1)
  | 0, p, h => by
    have : p = 0 := by simpa using h
    subst this; simp [nb, ib_one]
  | q + 1, p, h => by
    have hr : p / 2 < 2 ^ q := by rw [Nat.pow_succ] at h; omega
    have ih := all_law q (p / 2) hr
    have hl := ib_le q (p / 2) hr
    rw [nb]
    rcases Nat.mod_two_eq_zero_or_one p with e | e
    · constructor
      · intro h1
        by_cases h2 : p = 0
        · subst h2; rw [ib_one] at h1; omega
        · rw [ib_step (p + 1) (by omega), show (p + 1) / 2 = p / 2 by omega] at h1
          omega
      · intro h1
        have := h1 _ (.head _)
        rw [e] at this; cases this
    · rw [ib_step (p + 1) (by omega), show (p + 1) / 2 = p / 2 + 1 by omega, e]
      constructor
      · intro h1 y hy
        rcases List.mem_cons.mp hy with rfl | hy
        · rfl
        · exact ih.mp (by omega) y hy
      · intro h1
        have := ih.mpr fun y hy => h1 y (.tail _ hy)
        omega
end Mine

namespace Mine
open PySem PySem.W PyProof.Rows
theorem bitsL_get (M : Int) (a q j : Nat) (h : j < q) (h2 : a + q ≤ 32) : (bitsL M a q).getD j 0 = b01 (Wb M (a + j)) := by
  rw [bitsL, dueL, whL_range, List.map_map]
  simp only [List.getD, List.getElem?_take, List.getElem?_drop, List.getElem?_map, if_pos h]
  rw [List.getElem?_range (by omega)]
  rfl
theorem piece_nat {M P : Int} {c q : Nat} (hM0 : 0 ≤ M) (hP : M / 2 ^ c % 2 ^ q = P) : P = ((M.toNat / 2 ^ c % 2 ^ q : Nat) : Int) := by
  obtain ⟨k, rfl⟩ := Int.eq_ofNat_of_zero_le hM0
  rw [← hP, Int.toNat_natCast]
  simp
theorem bitsL_nb {M P : Int} {a q : Nat} (hM0 : 0 ≤ M) (z2 : 16 ≤ a) (z3 : a + q ≤ 32) (hP : M / 2 ^ (a - 16) % 2 ^ q = P) : bitsL M a q = nb P.toNat q := by
  apply List.ext_getElem
  · rw [bitsL_len M z3, nb_len]
  · intro j h1 h2
    have hj : j < q := by rwa [bitsL_len M z3] at h1
    have e1 := bitsL_get M a q j hj z3
    have e2 := nb_get q P.toNat j hj
    simp only [List.getD, List.getElem?_eq_getElem h1, List.getElem?_eq_getElem h2, Option.getD_some] at e1 e2
    rw [e1, e2, piece_nat hM0 hP, Int.toNat_natCast, show a + j = 16 + (a - 16 + j) by omega, Wb_leaf M _ (by omega)]
    obtain ⟨k, rfl⟩ := Int.eq_ofNat_of_zero_le hM0
    rw [Int.toNat_natCast]
    have t1 : (k / 2 ^ (a - 16) % 2 ^ q).testBit j = (k / 2 ^ (a - 16)).testBit j := by
      rw [Nat.testBit_mod_two_pow]; simp [hj]
    rw [Nat.testBit_eq_decide_div_mod_eq, Nat.testBit_eq_decide_div_mod_eq] at t1
    have t2 : k / 2 ^ (a - 16) / 2 ^ j = k / 2 ^ (a - 16 + j) := by rw [Nat.div_div_eq_div_mul, Nat.pow_add]
    rw [t2] at t1
    have t3 : ((k : Int) / 2 ^ (a - 16 + j)) % 2 = ((k / 2 ^ (a - 16 + j) % 2 : Nat) : Int) := by simp
    rw [t3]
    have t4 := Nat.mod_two_eq_zero_or_one (k / 2 ^ (a - 16 + j))
    have t5 := Nat.mod_two_eq_zero_or_one (k / 2 ^ (a - 16) % 2 ^ q / 2 ^ j)
    rcases t4 with t4 | t4 <;> rcases t5 with t5 | t5 <;> rw [t4, t5] at t1 ⊢ <;> simp [b01] at t1 ⊢
theorem piece_lt {M P : Int} {c q : Nat} (hM0 : 0 ≤ M) (hP : M / 2 ^ c % 2 ^ q = P) : P.toNat < 2 ^ q ∧ P = (P.toNat : Int) := by
  have h := piece_range hM0 hP
  refine ⟨?_, by omega⟩
  have : ((P.toNat : Nat) : Int) < ((2 ^ q : Nat) : Int) := by rw [show ((2 ^ q : Nat) : Int) = 2 ^ q by simp]; omega
  exact_mod_cast this
theorem onesL_on {M P : Int} {a q : Nat} (hM0 : 0 ≤ M) (z2 : 16 ≤ a) (z3 : a + q ≤ 32) (hP : M / 2 ^ (a - 16) % 2 ^ q = P) : onesL M a q = on (nb P.toNat q) := by
  rw [onesL, on, nb_len, bitsL_nb hM0 z2 z3 hP]
theorem law_last' {M P : Int} {a q : Nat} (hM0 : 0 ≤ M) (z2 : 16 ≤ a) (z3 : a + q ≤ 32) (hP : M / 2 ^ (a - 16) % 2 ^ q = P) :
    (Builtin.Int.intBits P : Int) - 1 = lastI M a q := by
  obtain ⟨h1, h2⟩ := piece_lt hM0 hP
  rw [lastI, onesL_on hM0 z2 z3 hP, h2, ib_eq]
  exact last_law q _ h1
theorem law_one' {M P : Int} {a q : Nat} (hM0 : 0 ≤ M) (z2 : 16 ≤ a) (z3 : a + q ≤ 32) (hP : M / 2 ^ (a - 16) % 2 ^ q = P) :
    sbit P = (((onesL M a q).length : Int) == 1) := by
  obtain ⟨h1, h2⟩ := piece_lt hM0 hP
  rw [onesL_on hM0 z2 z3 hP, h2, sbit_nat, one_law q _ h1, Bool.eq_iff_iff, Int.toNat_natCast]
  simp only [beq_iff_eq]
  omega
theorem law_sorted' {M P : Int} {a q : Nat} (hM0 : 0 ≤ M) (z2 : 16 ≤ a) (z3 : a + q ≤ 32) (hP : M / 2 ^ (a - 16) % 2 ^ q = P)
    {sn : List Int} (hp : sn.Perm (bitsL M a q)) (hw : sn.Pairwise (· ≤ ·)) : sbit (P + 1) = decide (bitsL M a q = sn.reverse) := by
  obtain ⟨h1, h2⟩ := piece_lt hM0 hP
  rw [Bool.eq_iff_iff, decide_eq_true_iff, sorted_law hp hw, bitsL_nb hM0 z2 z3 hP, ← desc_law q _ h1, ← sbit_nat, h2]
  simp
theorem law_all' {M P : Int} {a q : Nat} (hM0 : 0 ≤ M) (z2 : 16 ≤ a) (z3 : a + q ≤ 32) (hP : M / 2 ^ (a - 16) % 2 ^ q = P) :
    ((Builtin.Int.intBits (P + 1) : Int) - 1 == (q : Int)) = (List.range q).all fun j => Wb M (a + j) := by
  obtain ⟨h1, h2⟩ := piece_lt hM0 hP
  have h3 := all_law q _ h1
  rw [← bitsL_nb hM0 z2 z3 hP] at h3
  rw [Bool.eq_iff_iff, List.all_eq_true, show P + 1 = ((P.toNat + 1 : Nat) : Int) by omega, ib_eq]
  simp only [beq_iff_eq]
  constructor
  · intro e j hj
    have hj' := List.mem_range.mp hj
    have e1 := bitsL_get M a q j hj' z3
    have h4 := h3.mp (by omega)
    have h5 : (bitsL M a q).getD j 0 ∈ bitsL M a q := by
      rw [List.getD, List.getElem?_eq_getElem (by rw [bitsL_len M z3]; exact hj'), Option.getD_some]
      exact List.getElem_mem _
    have h6 := h4 _ h5
    rw [e1] at h6
    cases hw : Wb M (a + j) with
    | true => rfl
    | false => rw [hw] at h6; cases h6
  · intro e
    have := h3.mpr fun y hy => ?_
    · omega
    · obtain ⟨j, hj, rfl⟩ := List.getElem_of_mem hy
      have hj' : j < q := by rwa [bitsL_len M z3] at hj
      have e1 := bitsL_get M a q j hj' z3
      rw [List.getD, List.getElem?_eq_getElem hj, Option.getD_some] at e1
      rw [e1, e j (List.mem_range.mpr hj')]
      rfl
theorem due_at (M : Int) (n : Nat) (h : n < 32) : ((dueL M).getD n 0 == 1) = Wb M n := by
  rw [dueL, whL_range, List.map_map]
  simp only [List.getD, List.getElem?_map]
  rw [List.getElem?_range h]
  simp only [Option.map_some, Option.getD_some, Function.comp]
  cases Wb M n <;> rfl
theorem allW_step (M : Int) (n r : Nat) (h0 : 1 ≤ n) (h1 : n < 16) (hl : Wb M (2 * n) = (List.range r).all fun j => Wb M (2 * n * r + j)) (hr : Wb M (2 * n + 1) = (List.range r).all fun j => Wb M ((2 * n + 1) * r + j)) :
    Wb M n = (List.range (2 * r)).all fun j => Wb M (n * (2 * r) + j) := by
  rw [Wb_half M n h0 h1, hl, hr, Bool.eq_iff_iff, Bool.and_eq_true, List.all_eq_true, List.all_eq_true, List.all_eq_true]
  have e1 : n * (2 * r) = 2 * n * r := by rw [← Nat.mul_assoc, Nat.mul_comm n 2]
  have e2 : (2 * n + 1) * r = 2 * n * r + r := by rw [Nat.add_mul, Nat.one_mul]
  rw [e1, e2]
  simp only [List.mem_range]
  constructor
  · rintro ⟨a, b⟩ j hj
    rcases Nat.lt_or_ge j r with h | h
    · exact a j h
    · have := b (j - r) (by omega)
      rwa [show 2 * n * r + r + (j - r) = 2 * n * r + j by omega] at this
  · intro a
    refine ⟨fun j hj => a j (by omega), fun j hj => ?_⟩
    have := a (r + j) (by omega)
    rwa [← Nat.add_assoc] at this
theorem allW0 (M : Int) (n : Nat) : Wb M n = (List.range 1).all fun j => Wb M (n * 1 + j) := by
  simp [List.range_succ]
theorem allW1 (M : Int) (n : Nat) (h0 : 8 ≤ n) (h1 : n < 16) : Wb M n = (List.range 2).all fun j => Wb M (n * 2 + j) := allW_step M n 1 (by omega) h1 (allW0 M _) (allW0 M _)
theorem allW2 (M : Int) (n : Nat) (h0 : 4 ≤ n) (h1 : n < 8) : Wb M n = (List.range 4).all fun j => Wb M (n * 4 + j) := allW_step M n 2 (by omega) (by omega) (allW1 M _ (by omega) (by omega)) (allW1 M _ (by omega) (by omega))
theorem allW3 (M : Int) (n : Nat) (h0 : 2 ≤ n) (h1 : n < 4) : Wb M n = (List.range 8).all fun j => Wb M (n * 8 + j) := allW_step M n 4 (by omega) (by omega) (allW2 M _ (by omega) (by omega)) (allW2 M _ (by omega) (by omega))
theorem allW4 (M : Int) : Wb M 1 = (List.range 16).all fun j => Wb M (1 * 16 + j) := allW_step M 1 8 (by omega) (by omega) (allW3 M _ (by omega) (by omega)) (allW3 M _ (by omega) (by omega))
theorem sz_case : ∀ i : Nat, i < 31 → (szI (1 + (i : Int)) = 16 ∧ i = 0) ∨ (szI (1 + (i : Int)) = 8 ∧ 2 ≤ 1 + i ∧ 1 + i < 4) ∨ (szI (1 + (i : Int)) = 4 ∧ 4 ≤ 1 + i ∧ 1 + i < 8) ∨ (szI (1 + (i : Int)) = 2 ∧ 8 ≤ 1 + i ∧ 1 + i < 16) ∨ (szI (1 + (i : Int)) = 1 ∧ 16 ≤ 1 + i) := by decide +kernel
theorem allW (M : Int) {i q : Nat} (hi : i < 31) (hz : szI (1 + (i : Int)) = q) : Wb M (1 + i) = (List.range q).all fun j => Wb M ((1 + i) * q + j) := by
  rcases sz_case i hi with ⟨e, rfl⟩ | ⟨e, a, b⟩ | ⟨e, a, b⟩ | ⟨e, a, b⟩ | ⟨e, a⟩ <;> rw [hz] at e
  · obtain rfl : q = 16 := by omega
    exact allW4 M
  · obtain rfl : q = 8 := by omega
    exact allW3 M _ a b
  · obtain rfl : q = 4 := by omega
    exact allW2 M _ a b
  · obtain rfl : q = 2 := by omega
    exact allW1 M _ a b
  · obtain rfl : q = 1 := by omega
    exact allW0 M _
end Mine

namespace Mine
open PySem PySem.W PyProof.Rows
theorem xsL_nodup (M : Int) : (xsL M).Nodup := xsL_nodup' M
abbrev ledR (L : Addr) (M : Int) (shD : Addr) (shv : List Value) (shk : Nat) (wD : Addr) (wk : Nat) (mD : Addr) (mv : List Value) (mk : Nat) (o4 c3 c2 c1 : Obj) : List (Addr × Obj) :=
  [(shD, listOf shv.toArray shk), (wD, listOf ((whL M).map Value.bool).toArray wk), (mD, listOf mv.toArray mk), (L + 1 + 1 + 1 + 1, o4), (L + 1 + 1 + 1, c3), (L + 1 + 1, c2), (L + 1, c1)]
abbrev ledB (w : World) (da : Addr) (od : Obj) (la sa : Addr) (so : Obj) (x dx : Addr) (t1 t2 t3 : Tok) (R : List (Addr × Obj)) : List (Addr × Obj) :=
  (da, od) :: (la, listOf #[] 0) :: (sa, so) :: (x, instObj 93 dx) :: (dx, igDict w sa la da t1 t2 t3) :: R
/-- what holds of the law's own things once the names are laid -/
structure Laid (w : World) (L : Addr) (M : Int) (shD : Addr) (shv : List Value) (wD mD : Addr) (mv : List Value) (c3 c2 c1 : Obj) (la sa : Addr) (so : Obj) (x dx da : Addr) (xv : List Value) : Prop where
  m0 : 0 ≤ M
  m1 : M < 65536
  mods : StrsAre mv (modUpTo 30)
  shut : IntsAre shv (shutL M)
  c1 : c1.data = .cell (some (.ref mD))
  c2 : c2.data = .cell (some (.ref wD))
  c3 : c3.data = .cell (some (.ref x))
  sets : StrSetW w so xv
  named : StrsAre xv (xsL M)
  lo : (da == sysModules) = false
  a1 : @LT.lt Nat _ (L + 1 + 1 + 1 + 1) dx
  a2 : @LT.lt Nat _ mD dx
  a3 : @LT.lt Nat _ wD dx
  a4 : @LT.lt Nat _ shD dx
  a5 : @LT.lt Nat _ dx x
  a6 : @LT.lt Nat _ x sa
  a7 : @LT.lt Nat _ sa la
  a8 : @LT.lt Nat _ la da
  b1 : @Ne Nat (L + 1 + 1 + 1 + 1) shD
  b2 : @Ne Nat (L + 1 + 1 + 1 + 1) wD
  b3 : @Ne Nat (L + 1 + 1 + 1 + 1) mD
end Mine

namespace Mine
open PySem PySem.W PyProof.Rows
theorem stageA {w : World} {s : Shared} {base h₀ : Heap} {L fa : Addr} {cd : Value} {m mg mb : Str → Option Value} {mean : ExcName → Option Value} {E : Value → Shared → Prop} {Q : Flow → Shared → Prop} {o1 o2 o3 o4 : Obj} {sc : Addr} {vs : List Value} {ns : List Int}
    (B : Below callerA base [] h₀) (F : Fr h₀ L s.heap m) (X : (hd.heap_39 w.params).In h₀) (T : Top hd.view_39 (looseW hd.view_39 []) mean mg mb h₀)
    (N : News h₀ L s.heap [(L + 1 + 1 + 1 + 1, o4), (L + 1 + 1 + 1, o3), (L + 1 + 1, o2), (L + 1, o1)]) (hm : m (Str.ofString "script") = some (.ref sc)) (hl : h₀.IsList sc vs.toArray) (hi : IntsAre vs ns) (hns : ns.length ≤ 63)
    (h1 : o1.data = .cell none) (h2 : o2.data = .cell none) (h3 : o3.data = .cell none) (h4 : o4.data = .cell none)
    (k : ∀ M tM mD mv mk wD wk shD shv shk xv x dx sa la da so od t1 t2 t3 c1 c2 c3 h tk, Fr h₀ L h (fun y => if y = Str.ofString "shut" then some (.ref shD) else if y = Str.ofString "mask" then some (.int M tM) else m y) →
      News h₀ L h (ledB w da od la sa so x dx t1 t2 t3 (ledR L M shD shv shk wD wk mD mv mk o4 c3 c2 c1)) → Laid w L M shD shv wD mD mv c3 c2 c1 la sa so x dx da xv → Ign PySem.Challenge.rw_nb0074_01.row.toRowW.prog w od [(Str.ofString "<string>", 1)] →
      wpAny (model PySem.Challenge.rw_nb0074_01.row.toRowW.prog w) (callerA.deeper (lawEnv L fa cd)) (execs (lawDef.1.drop 5) (lawEnv L fa cd)) Q E { s with heap := h, toks := tk }) :
    wpAny (model PySem.Challenge.rw_nb0074_01.row.toRowW.prog w) (callerA.deeper (lawEnv L fa cd)) (execs lawDef.1 (lawEnv L fa cd)) Q E s := by
  revert X; k_fill; intro X
  unfold lawEnv
  conv in (occs := *) lawDef.1 => all_goals whnf
  conv in (occs := *) lawDef.2 => all_goals whnf

  iterate 5 (first | (k_unfold; (try dsimp only)) | (k_end; wrow_close) | walk1 | (dsimp only; walk1) | (leave1; walk_say "STEP leave1"; try dsimp only) | fail "no step")
  refine modules_call B F X T rfl rfl fun mD mv mk ha tka hEa hNa hOa hSm => ?_
  obtain ⟨Fa, Na, nea⟩ := ext_new F N hEa hNa hOa
  have n1 : @Ne Nat (L + 1 + 1 + 1 + 1) mD := nea _ (.head _)
  have n2 : @Ne Nat (L + 1 + 1 + 1) mD := nea _ (.tail _ (.head _))
  have n3 : @Ne Nat (L + 1 + 1) mD := nea _ (.tail _ (.tail _ (.head _)))
  have n4 : @Ne Nat (L + 1) mD := nea _ (.tail _ (.tail _ (.tail _ (.head _))))
  iterate 14 (first | (k_unfold; (try dsimp only)) | (k_end; wrow_close) | walk1 | (dsimp only; walk1) | (leave1; walk_say "STEP leave1"; try dsimp only) | fail "no step")
  rename Fr h₀ _ _ _ => Fb
  refine nameX_L Fb hm ?_ rfl rfl
  iterate 9 (first | (k_unfold; (try dsimp only)) | (k_end; wrow_close) | walk1 | (dsimp only; walk1) | (leave1; walk_say "STEP leave1"; try dsimp only) | fail "no step")
  rename Fr h₀ _ _ _ => Fc
  rename News h₀ _ _ _ => Nc
  rename IntsAre _ ([5] ++ _) => hIc
  refine mask_call B Fc X T rfl rfl ⟨_, Nc.get (.head _), rfl, _, rfl⟩ hIc fun M tM hc tkc hEc hM0 hM1 => ?_
  have Fd := Fc.keeps hEc
  have Nd := (show News h₀ L _ _ from fun p hp => Nc p (.tail _ (.tail _ (.tail _ hp)))).grown hEc
  clear Fc Nc
  iterate 11 (first | (k_unfold; (try dsimp only)) | (k_end; wrow_close) | walk1 | (dsimp only; walk1) | (leave1; walk_say "STEP leave1"; try dsimp only) | fail "no step")
  rename Fr h₀ _ _ _ => Fe
  rename News h₀ _ _ _ => Ne
  refine whole_call B Fe X T rfl rfl hM0 hM1 fun wD wk hw tkw hEw hNw hOw => ?_
  obtain ⟨Fw, Nw, new⟩ := ext_new Fe Ne hEw hNw hOw
  clear Fe Ne
  have nw1 : @Ne Nat (L + 1 + 1 + 1 + 1) wD := new _ (.tail _ (.head _))
  have nw2 : @Ne Nat (L + 1 + 1 + 1) wD := new _ (.tail _ (.tail _ (.head _)))
  have nw3 : @Ne Nat (L + 1 + 1) wD := new _ (.tail _ (.tail _ (.tail _ (.head _))))
  have nw4 : @Ne Nat (L + 1) wD := new _ (.tail _ (.tail _ (.tail _ (.tail _ (.head _)))))
  have nw5 : @Ne Nat mD wD := new _ (.head _)
  iterate 3 (first | (k_unfold; (try dsimp only)) | (k_end; wrow_close) | walk1 | (dsimp only; walk1) | (leave1; walk_say "STEP leave1"; try dsimp only) | fail "no step")
  rename Fr h₀ _ _ _ => Ff
  rename News h₀ _ _ _ => Nf
  refine' comp_range_as (fun n => Wb M n.toNat && !Wb M (n.toNat / 2)) (fun n => PyData.int n) Ff ?a ?b ?c ?d ?e ?f ?g ?hx ?hy ?hp ?hs ?_
  case a => with_unfolding_all rfl
  case b => rfl
  case c => rfl
  case d => with_unfolding_all rfl
  case e => decide
  case f => rfl
  case g => decide
  case hx => rfl
  case hy => with_unfolding_all rfl
  case hp => rfl
  case hs => intro _; with_unfolding_all rfl
  iterate 9 (first | (k_unfold; (try dsimp only)) | (k_end; wrow_close) | walk1 | (dsimp only; walk1) | (leave1; walk_say "STEP leave1"; try dsimp only) | fail "no step")
  rename Fr h₀ _ _ _ => Fg
  rename News h₀ _ _ _ => Ng
  rename IsRange _ _ _ _ _ _ _ _ => R1
  have hwl := whL_length M
  refine ⟨_, _, _, _, _, _, _, 31, rfl, R1, by decide, by decide, by rw [sizeLine_eq]; decide, Fg, Ng, ?_, ?_, ?_⟩
  · intro C a t s₂ m₂ E' hC g0 g1 hn hm2 hk F₂ N₂
    refine wpAny_tests_one ?_
    have hE := InElt.start s₂.heap
    k_unmd
    k_fold
    iterate 5 (first | (k_unfold; (try dsimp only)) | (k_end; wrow_close) | walk1 | (dsimp only; walk1) | (leave1; walk_say "STEP leave1"; try dsimp only) | fail "no step")
    refine item_at (vs := (whL M).map Value.bool) (v := .bool (Wb M a.toNat)) ⟨_, N₂.get (.head _), rfl, _, rfl⟩ (by omega) (by omega) (bool_at rfl (by omega)) ?_
    iterate 1 (first | (k_unfold; (try dsimp only)) | (k_end; wrow_close) | walk1 | (dsimp only; walk1) | (leave1; walk_say "STEP leave1"; try dsimp only) | fail "no step")
    refine ite_cases (fun c => ?_) (fun c => ?_)
    · iterate 9 (first | (k_unfold; (try dsimp only)) | (k_end; wrow_close) | walk1 | (dsimp only; walk1) | (leave1; walk_say "STEP leave1"; try dsimp only) | fail "no step")
      refine item_at (vs := (whL M).map Value.bool) (v := .bool (Wb M (a.toNat / 2))) ⟨_, N₂.get (.head _), rfl, _, rfl⟩ (by rw [fd2]; omega) (by rw [fd2]; omega) (bool_at (by rw [fd2]; omega) (by omega)) ?_
      iterate 1 (first | (k_unfold; (try dsimp only)) | (k_end; wrow_close) | walk1 | (dsimp only; walk1) | (leave1; walk_say "STEP leave1"; try dsimp only) | fail "no step")
      refine ite_cases (fun c2 => ?_) (fun c2 => ?_)
      · iterate 1 (first | (k_unfold; (try dsimp only)) | (k_end; wrow_close) | walk1 | (dsimp only; walk1) | (leave1; walk_say "STEP leave1"; try dsimp only) | fail "no step")
        refine ⟨?_, _, _, rfl, fun _ _ e => e⟩
        rw [c, Bool.true_and, c2]
      · iterate 1 (first | (k_unfold; (try dsimp only)) | (k_end; wrow_close) | walk1 | (dsimp only; walk1) | (leave1; walk_say "STEP leave1"; try dsimp only) | fail "no step")
        refine ⟨?_, _, _, rfl, fun _ _ e => e⟩
        have c3 : (!Wb M (a.toNat / 2)) = false := by simpa using c2
        rw [c, Bool.true_and, c3]
    · iterate 1 (first | (k_unfold; (try dsimp only)) | (k_end; wrow_close) | walk1 | (dsimp only; walk1) | (leave1; walk_say "STEP leave1"; try dsimp only) | fail "no step")
      refine ⟨?_, keeps_refl _⟩
      have c' : Wb M a.toNat = false := by simpa using c
      rw [c', Bool.false_and]
  · intro C a t s₂ m₂ E' hC g0 g1 _ hn hm2 hk F₂ N₂
    have hE := InElt.start s₂.heap
    k_unmd
    k_fold
    iterate 2 (first | (k_unfold; (try dsimp only)) | (k_end; wrow_close) | walk1 | (dsimp only; walk1) | (leave1; walk_say "STEP leave1"; try dsimp only) | fail "no step")
    exact ⟨.int _ _, keeps_refl _⟩
  · intro shD shv shk h8 tk8 F8 N8 hne8 hc8
    have hSh : IntsAre shv (shutL M) := CarriedAll.intsOf (f := fun n => n) hc8
    iterate 6 (first | (k_unfold; (try dsimp only)) | (k_end; wrow_close) | walk1 | (dsimp only; walk1) | (leave1; walk_say "STEP leave1"; try dsimp only) | fail "no step")
    rename Fr h₀ _ _ _ => F9
    rename News h₀ _ _ _ => N9
    refine' comp_list (K := ItemKind.int) (fun _ => true) (fun n => PyData.str (modS n.toNat)) F9 ?a ?b ?c ?d ?e ?f ?g ?_
    case a => rfl
    case b => with_unfolding_all rfl
    case c => decide
    case d => rfl
    case e => decide
    case f => rfl
    case g => intro _; with_unfolding_all rfl
    iterate 1 (first | (k_unfold; (try dsimp only)) | (k_end; wrow_close) | walk1 | (dsimp only; walk1) | (leave1; walk_say "STEP leave1"; try dsimp only) | fail "no step")
    refine ⟨_, _, shv, shutL M, rfl, ⟨_, N9.get (.head _), rfl, _, rfl⟩, hSh.areOf, ?_, F9, N9, ?_, ?_, ?_⟩
    · have := shutL_length M; rw [sizeLine_eq]; omega
    · intro C a v s₂ m₂ E' hC ha hv hn hm2 hk F₂ N₂
      exact wpAny_tests_nil ⟨rfl, keeps_refl _⟩
    · rintro C a v s₂ m₂ E' hC ha ⟨t, rfl⟩ _ hn hm2 hk F₂ N₂
      have hb := shutL_mem ha
      have hE := InElt.start s₂.heap
      k_unmd
      k_fold
      iterate 3 (first | (k_unfold; (try dsimp only)) | (k_end; wrow_close) | walk1 | (dsimp only; walk1) | (leave1; walk_say "STEP leave1"; try dsimp only) | fail "no step")
      obtain ⟨t5, ht5⟩ := hSm.get a.toNat _ (modUpTo_at 30 a.toNat (by omega))
      refine item_at (vs := mv) (v := .str (modS a.toNat) t5) ⟨_, N₂.get (.tail _ (.tail _ (.head _))), rfl, _, rfl⟩ (by omega) (by omega) ht5 ?_
      iterate 1 (first | (k_unfold; (try dsimp only)) | (k_end; wrow_close) | walk1 | (dsimp only; walk1) | (leave1; walk_say "STEP leave1"; try dsimp only) | fail "no step")
      exact ⟨.str _ _, keeps_refl _⟩
    · intro xD xv xk h10 tk10 F10 N10 hne10 hc10
      have hXs : StrsAre xv (xsL M) := by
        have := CarriedAll.strsOf (f := fun n : Int => modS n.toNat) hc10
        rw [List.filter_eq_self.mpr (fun _ _ => rfl)] at this
        exact this
      iterate 2 (first | (k_unfold; (try dsimp only)) | (k_end; wrow_close) | walk1 | (dsimp only; walk1) | (leave1; walk_say "STEP leave1"; try dsimp only) | fail "no step")
      refine ignore_call B F10 X T N10 rfl rfl (.head _) hXs (xsL_nodup M) (by rw [xsL, List.length_map]; have := shutL_length M; omega) fun x dx sa la da so od t1 t2 t3 h11 tk11 F11 N11 hset hig hlo hlt l1 l2 l3 l4 => ?_
      have e1 : @LT.lt Nat _ (L + 1 + 1 + 1) dx := hlt (L + 1 + 1 + 1, o3) (by simp)
      have e2 : @LT.lt Nat _ (L + 1 + 1 + 1 + 1) dx := hlt (L + 1 + 1 + 1 + 1, o4) (by simp)
      have e3 : @LT.lt Nat _ mD dx := hlt (mD, _) (.tail _ (.tail _ (.tail _ (.head _))))
      have e4 : @LT.lt Nat _ wD dx := hlt (wD, _) (.tail _ (.tail _ (.head _)))
      have e5 : @LT.lt Nat _ shD dx := hlt (shD, _) (.tail _ (.head _))
      have e6 : @LT.lt Nat _ xD dx := hlt (xD, _) (.head _)
      have e7 : @Ne Nat (L + 1 + 1 + 1) shD := hne8 (L + 1 + 1 + 1, o3) (by simp)
      have e8 : @Ne Nat (L + 1 + 1 + 1) xD := hne10 (L + 1 + 1 + 1, o3) (by simp)
      have e9 : @Ne Nat (L + 1 + 1 + 1 + 1) shD := hne8 (L + 1 + 1 + 1 + 1, o4) (by simp)
      have e10 : @Ne Nat (L + 1 + 1 + 1 + 1) xD := hne10 (L + 1 + 1 + 1 + 1, o4) (by simp)
      have l1' : @LT.lt Nat _ dx x := l1
      have l2' : @LT.lt Nat _ x sa := l2
      have l3' : @LT.lt Nat _ sa la := l3
      have l4' : @LT.lt Nat _ la da := l4
      iterate 2 (first | (k_unfold; (try dsimp only)) | (k_end; wrow_close) | walk1 | (dsimp only; walk1) | (leave1; walk_say "STEP leave1"; try dsimp only) | fail "no step")
      rename Fr h₀ _ _ _ => F12
      rename News h₀ _ _ _ => N12
      refine k M tM mD mv mk wD wk shD shv shk xv x dx sa la da so od t1 t2 t3 _ _ _ _ _ F12 (fun p hp => N12 p ?_) ⟨hM0, hM1, hSm, hSh, by assumption, by assumption, by assumption, hset, hXs, hlo, e2, e3, e4, e5, l1', l2', l3', l4', e9, nw1, n1⟩ hig
      simp only [ledB, ledR, List.mem_cons, List.not_mem_nil, or_false] at hp ⊢
      rcases hp with hp | hp | hp | hp | hp | hp | hp | hp | hp | hp | hp | hp <;> simp [hp, whL]
end Mine

namespace Mine
open PySem PySem.W PyProof.Rows PyProof.Rows.LCg
def tabOf (M : Int) (i : Nat) : List (Str × Int) := (Str.ofString "<string>", 1) :: (List.range i).map fun j => (modS (j + 1), tv M (j + 1))
theorem modS_inj : ∀ i j : Nat, i < 32 → j < 32 → modS i = modS j → i = j := fun i j hi hj => modS_inj' i hi j hj
theorem modS_not (i : Nat) (h : i < 32) : modS i ≠ Str.ofString "<string>" := modS_not' i h
theorem modS_len (i : Nat) (h : i < 32) : (modS i).length ≤ 92 := modUpTo_len 30 _ (List.mem_of_getElem? (modUpTo_at 30 i h))
theorem tabOf_new (M : Int) (i : Nat) (h : i < 31) : ∀ p ∈ tabOf M i, p.1 ≠ modS (i + 1) := by
  intro p hp
  rcases List.mem_cons.mp hp with rfl | hp
  · exact Ne.symm (modS_not _ (by omega))
  · obtain ⟨j, hj, rfl⟩ := List.mem_map.mp hp
    have hj' := List.mem_range.mp hj
    intro e
    have := modS_inj (j + 1) (i + 1) (by omega) (by omega) e
    omega
theorem tabOf_succ (M : Int) (i : Nat) : tabOf M i ++ [(modS (i + 1), tv M (i + 1))] = tabOf M (i + 1) := by
  simp [tabOf, List.range_succ]
theorem tvs_succ (M : Int) (i : Nat) : tvs M (i + 1) = tvs M i ++ [tv M (i + 1)] := by simp [tvs, List.range_succ]
theorem xsL_len (M : Int) : ∀ y ∈ xsL M, y.length ≤ 200 := by
  intro y hy
  obtain ⟨n, hn, rfl⟩ := List.mem_map.mp hy
  have := shutL_mem hn
  exact Nat.le_trans (modS_len _ (by omega)) (by decide)
theorem stageB {w : World} {s : Shared} {base h₀ : Heap} {L fa : Addr} {cd : Value} {m mg mb : Str → Option Value} {mean : ExcName → Option Value} {E : Value → Shared → Prop} {Q : Flow → Shared → Prop} {o4 : Obj}
    {M : Int} {mD : Addr} {mv : List Value} {mk : Nat} {wD : Addr} {wk : Nat} {shD : Addr} {shv : List Value} {shk : Nat} {xv : List Value} {x dx sa la da : Addr} {so od : Obj} {t1 t2 t3 : Tok} {c1 c2 c3 : Obj}
    (B : Below callerA base [] h₀) (F : Fr h₀ L s.heap m) (X : (hd.heap_39 w.params).In h₀) (T : Top hd.view_39 (looseW hd.view_39 []) mean mg mb h₀)
    (N : News h₀ L s.heap (ledB w da od la sa so x dx t1 t2 t3 (ledR L M shD shv shk wD wk mD mv mk o4 c3 c2 c1))) (G : Laid w L M shD shv wD mD mv c3 c2 c1 la sa so x dx da xv)
    (hig : Ign PySem.Challenge.rw_nb0074_01.row.toRowW.prog w od (tabOf M 0))
    (k : ∀ tD tl tk od' s', s'.gens = s.gens → s'.os = s.os → Fr h₀ L s'.heap (fun y => if y = Str.ofString "told" then some (.ref tD) else m y) →
      News h₀ L s'.heap ((tD, listOf tl.toArray tk) :: ledB w da od' la sa so x dx t1 t2 t3 (ledR L M shD shv shk wD wk mD mv mk o4 c3 c2 c1)) → (∀ p ∈ ledB w da od' la sa so x dx t1 t2 t3 (ledR L M shD shv shk wD wk mD mv mk o4 c3 c2 c1), p.1 ≠ tD) → IntsAre tl (0 :: tvs M 31) →
      Ign PySem.Challenge.rw_nb0074_01.row.toRowW.prog w od' (tabOf M 31) →
      wpAny (model PySem.Challenge.rw_nb0074_01.row.toRowW.prog w) (callerA.deeper (lawEnv L fa cd)) (execs (lawDef.1.drop 6) (lawEnv L fa cd)) Q E s') :
    wpAny (model PySem.Challenge.rw_nb0074_01.row.toRowW.prog w) (callerA.deeper (lawEnv L fa cd)) (execs (lawDef.1.drop 5) (lawEnv L fa cd)) Q E s := by
  revert X; k_fill; intro X
  have k' := k
  clear k
  unfold lawEnv
  conv in (occs := *) lawDef.1.drop 5 => all_goals whnf
  conv in (occs := *) lawDef.2 => all_goals whnf
  obtain ⟨g0, g1, gm, gs, gc1, gc2, gc3, gset, gstr, glo, a1, a2, a3, a4, a5, a6, a7, a8, b1, b2, b3⟩ := id G
  iterate 8 (first | (k_unfold; (try dsimp only)) | (k_end; wrow_close) | walk1 | (dsimp only; walk1) | (leave1; walk_say "STEP leave1"; try dsimp only) | fail "no step")
  rename Fr h₀ _ _ _ => F1
  rename News h₀ _ _ _ => N1
  rename _ ∧ _ => lz
  generalize hzo : ([Value.int 0 s.toks] : List Value) = zl at N1
  rename Addr => zD
  refine' comp_led (fun i ys nw => ∃ od', nw = (zD, listOf zl.toArray 0) :: ledB w da od' la sa so x dx t1 t2 t3 (ledR L M shD shv shk wD wk mD mv mk o4 c3 c2 c1) ∧ Ign PySem.Challenge.rw_nb0074_01.row.toRowW.prog w od' (tabOf M i) ∧ IntsAre ys (tvs M i)) F1 ?a ?b ?c ?d ?e ?f ?g ?_
  case a => rfl
  case b => with_unfolding_all rfl
  case c => decide
  case d => rfl
  case e => decide
  case f => rfl
  case g => intro _; with_unfolding_all rfl
  iterate 9 (first | (k_unfold; (try dsimp only)) | (k_end; wrow_close) | walk1 | (dsimp only; walk1) | (leave1; walk_say "STEP leave1"; try dsimp only) | fail "no step")
  rename Fr h₀ _ _ _ => F2
  rename News h₀ _ _ _ => N2
  rename IsRange _ _ _ _ _ _ _ _ => R1
  have hzd : @LT.lt Nat _ da zD := lz.1
  refine ⟨_, _, _, _, _, _, _, 31, rfl, R1, by decide, by decide, by rw [sizeLine_eq]; decide, F2, N2, ⟨od, rfl, hig, .nil⟩, ?_, ?_⟩
  · rintro i ys nw t C I D oI oC m₂ s₂ E' hi hyl ⟨od', rfl, hig', hys⟩ eg eo hoC hm2 F3 N3 off
    have p1 : @Ne Nat da I := (off (da, od') (.tail _ (.head _))).1
    have p2 : @Ne Nat da C := (off (da, od') (.tail _ (.head _))).2.1
    have p3 : @Ne Nat da D := (off (da, od') (.tail _ (.head _))).2.2
    have hE := InElt.start s₂.heap
    k_unmd
    k_fold
    iterate 10 (first | (k_unfold; (try dsimp only)) | (k_end; wrow_close) | walk1 | (dsimp only; walk1) | (leave1; walk_say "STEP leave1"; try dsimp only) | fail "no step")
    obtain ⟨t5, ht5⟩ := gm.get (i + 1) _ (modUpTo_at 30 (i + 1) (by omega))
    refine item_at (vs := mv) (v := .str (modS (i + 1)) t5) ⟨_, N3.get (a := mD) (o := listOf mv.toArray mk) (by simp [ledB, ledR]), rfl, _, rfl⟩ (by omega) (by omega) (by rw [show ((1 : Int) + (i : Int)).toNat = i + 1 by omega]; exact ht5) ?_
    iterate 2 (first | (k_unfold; (try dsimp only)) | (k_end; wrow_close) | walk1 | (dsimp only; walk1) | (leave1; walk_say "STEP leave1"; try dsimp only) | fail "no step")
    have N4 : News h₀ L s₂.heap (ledB w da od' la sa so x dx t1 t2 t3 (ledR L M shD shv shk wD wk mD mv mk o4 c3 c2 c1 ++ [(zD, listOf zl.toArray 0), (I, oI), (C, oC), (D, lst ys)])) := fun p hp => N3 p (by
      simp only [ledB, ledR, List.cons_append, List.nil_append, List.mem_cons, List.not_mem_nil, or_false] at hp ⊢
      rcases hp with hp | hp | hp | hp | hp | hp | hp | hp | hp | hp | hp | hp | hp | hp | hp | hp <;> simp [hp])
    refine names_new (s := { s₂ with toks := _ }) B F3 X T N4 ?_ rfl rfl gset gstr ?_ (xsL_len M) hig' ?_ glo (tabOf_new M i hi) fun r t' od2 h5 tk5 d5 hr F5 N5 hig5 => ?_
    · intro p hp
      simp only [ledR, List.cons_append, List.nil_append, List.mem_cons, List.not_mem_nil, or_false] at hp
      show @Ne Nat p.1 da
      rcases hp with rfl | rfl | rfl | rfl | rfl | rfl | rfl | rfl | rfl | rfl | rfl | rfl | rfl | rfl | rfl <;> dsimp only <;> omega
    · rw [xsL, List.length_map]; have := shutL_length M; omega
    · rw [tabOf, List.length_cons, List.length_map, List.length_range]; omega
    iterate 1 (first | (k_unfold; (try dsimp only)) | (k_end; wrow_close) | walk1 | (dsimp only; walk1) | (leave1; walk_say "STEP leave1"; try dsimp only) | fail "no step")
    have hr' : r = tv M (i + 1) := hr
    subst hr'
    rw [tabOf_succ] at hig5
    refine ⟨eg, eo, (zD, listOf zl.toArray 0) :: ledB w da od2 la sa so x dx t1 t2 t3 (ledR L M shD shv shk wD wk mD mv mk o4 c3 c2 c1), F5, fun p hp => N5 p ?_, fun p hp => ?_, od2, rfl, hig5, ?_⟩
    · simp only [ledB, ledR, List.cons_append, List.nil_append, List.mem_cons, List.not_mem_nil, or_false] at hp ⊢
      rcases hp with hp | hp | hp | hp | hp | hp | hp | hp | hp | hp | hp | hp | hp | hp | hp | hp <;> simp [hp]
    · rcases List.mem_cons.mp hp with rfl | hp
      · exact off _ (.head _)
      · rcases List.mem_cons.mp hp with rfl | hp
        · exact off (da, od') (.tail _ (.head _))
        · exact off p (.tail _ (.tail _ hp))
    · rw [tvs_succ]; exact hys.append (.cons _ _ .nil)
  · rintro D ys nw s₂ ⟨od', rfl, hig', hys⟩ eg eo F3 N3 hne3
    subst hzo
    refine add_lists (vs := [Value.int 0 s.toks]) (ws := ys) F3 N3 ⟨_, N3.get (.tail _ (.head _)), rfl, _, rfl⟩ ⟨_, N3.get (.head _), rfl, _, rfl⟩ (fun h6 F6 N6 => ?_) ?_
    rotate_left
    · have := hys.length; rw [this, tvs, List.length_map, List.length_range, sizeLine_eq]; simp
    have q1 : ∀ p ∈ ledB w da od' la sa so x dx t1 t2 t3 (ledR L M shD shv shk wD wk mD mv mk o4 c3 c2 c1), p.1 ≠ s₂.heap.objs.size := fun p hp => Nat.ne_of_lt (Heap.lt_size (N3 p (.tail _ (.tail _ hp))).1)
    iterate 2 (first | (k_unfold; (try dsimp only)) | (k_end; wrow_close) | walk1 | (dsimp only; walk1) | (leave1; walk_say "STEP leave1"; try dsimp only) | fail "no step")
    rename Fr h₀ _ _ _ => F7
    rename News h₀ _ _ _ => N7
    refine k' _ ([Value.int 0 s.toks] ++ ys) 0 od' _ eg eo F7 (fun p hp => N7 p ?_) q1 ?_ hig'
    · rcases List.mem_cons.mp hp with rfl | hp
      · exact .head _
      · exact .tail _ (.tail _ (.tail _ hp))
    · exact .cons _ _ hys
end Mine

namespace Mine
open PySem PySem.W PyProof.Rows PyProof.Rows.LCg
theorem lookup_mem {T : List (Str × Int)} {nm : Str} {r : Int} (hm : (nm, r) ∈ T) (hu : ∀ r', (nm, r') ∈ T → r' = r) : PySem.Spec.lookup (.str nm) (tabD T) = some (.int r) := by
  induction T with
  | nil => cases hm
  | cons p q ih =>
    show (if PySem.Spec.same (.str p.1) (.str nm) = true then some (PyData.int p.2) else PySem.Spec.lookup (.str nm) (tabD q)) = _
    rw [PyProof.V.same_str]
    by_cases h : p.1 = nm
    · have h2 : p.2 = r := hu p.2 (by rw [← h]; exact .head _)
      simp [h, h2]
    · rw [decide_eq_false h]
      rcases List.mem_cons.mp hm with e | e
      · exact absurd (by rw [← e]) h
      · simpa using ih e fun r' h' => hu r' (.tail _ h')
theorem tab_at (M : Int) (i : Nat) (h : i < 31) : PySem.Spec.lookup (.str (modS (i + 1))) (tabD (tabOf M 31)) = some (.int (tv M (i + 1))) := by
  refine lookup_mem ?_ ?_
  · exact .tail _ (List.mem_map.mpr ⟨i, List.mem_range.mpr h, rfl⟩)
  · intro r' hr
    rcases List.mem_cons.mp hr with e | e
    · exact absurd (congrArg Prod.fst e) (modS_not _ (by omega))
    · obtain ⟨j, hj, e⟩ := List.mem_map.mp e
      have hj' := List.mem_range.mp hj
      have e1 := congrArg Prod.fst e
      have e2 := congrArg Prod.snd e
      have := modS_inj (j + 1) (i + 1) (by omega) (by omega) e1
      obtain rfl : j = i := by omega
      exact e2.symm
theorem stageC {w : World} {s : Shared} {base h₀ : Heap} {L fa : Addr} {cd : Value} {m mg mb : Str → Option Value} {mean : ExcName → Option Value} {E : Value → Shared → Prop} {Q : Flow → Shared → Prop} {o4 : Obj}
    {M : Int} {mD : Addr} {mv : List Value} {mk : Nat} {wD : Addr} {wk : Nat} {shD : Addr} {shv : List Value} {shk : Nat} {xv : List Value} {x dx sa la da : Addr} {so od : Obj} {t1 t2 t3 : Tok} {c1 c2 c3 : Obj}
    (B : Below callerA base [] h₀) (F : Fr h₀ L s.heap m) (X : (hd.heap_39 w.params).In h₀) (T : Top hd.view_39 (looseW hd.view_39 []) mean mg mb h₀)
    {tD : Addr} {tl : List Value} {tk : Nat}
    (N : News h₀ L s.heap ((tD, listOf tl.toArray tk) :: ledB w da od la sa so x dx t1 t2 t3 (ledR L M shD shv shk wD wk mD mv mk o4 c3 c2 c1))) (G : Laid w L M shD shv wD mD mv c3 c2 c1 la sa so x dx da xv)
    (hig : Ign PySem.Challenge.rw_nb0074_01.row.toRowW.prog w od (tabOf M 31))
    (k : ∀ aD al ak s', s'.gens = s.gens → s'.os = s.os → Fr h₀ L s'.heap (fun y => if y = Str.ofString "again" then some (.ref aD) else m y) →
      News h₀ L s'.heap ((aD, listOf al.toArray ak) :: (tD, listOf tl.toArray tk) :: ledB w da od la sa so x dx t1 t2 t3 (ledR L M shD shv shk wD wk mD mv mk o4 c3 c2 c1)) → (∀ p ∈ ((tD, listOf tl.toArray tk) :: ledB w da od la sa so x dx t1 t2 t3 (ledR L M shD shv shk wD wk mD mv mk o4 c3 c2 c1)), p.1 ≠ aD) → IntsAre al (0 :: tvs M 31) →
      wpAny (model PySem.Challenge.rw_nb0074_01.row.toRowW.prog w) (callerA.deeper (lawEnv L fa cd)) (execs (lawDef.1.drop 7) (lawEnv L fa cd)) Q E s') :
    wpAny (model PySem.Challenge.rw_nb0074_01.row.toRowW.prog w) (callerA.deeper (lawEnv L fa cd)) (execs (lawDef.1.drop 6) (lawEnv L fa cd)) Q E s := by
  revert X; k_fill; intro X
  have k' := k
  clear k
  unfold lawEnv
  conv in (occs := *) lawDef.1.drop 6 => all_goals whnf
  conv in (occs := *) lawDef.2 => all_goals whnf
  obtain ⟨g0, g1, gm, gs, gc1, gc2, gc3, gset, gstr, glo, a1, a2, a3, a4, a5, a6, a7, a8, b1, b2, b3⟩ := id G
  iterate 8 (first | (k_unfold; (try dsimp only)) | (k_end; wrow_close) | walk1 | (dsimp only; walk1) | (leave1; walk_say "STEP leave1"; try dsimp only) | fail "no step")
  rename Fr h₀ _ _ _ => F1
  rename News h₀ _ _ _ => N1
  rename _ ∧ _ => lz
  generalize hzo : ([Value.int 0 s.toks] : List Value) = zl at N1
  rename Addr => zD
  refine' comp_led (fun i ys nw => nw = (zD, listOf zl.toArray 0) :: (tD, listOf tl.toArray tk) :: ledB w da od la sa so x dx t1 t2 t3 (ledR L M shD shv shk wD wk mD mv mk o4 c3 c2 c1) ∧ IntsAre ys (tvs M i)) F1 ?a ?b ?c ?d ?e ?f ?g ?_
  case a => rfl
  case b => with_unfolding_all rfl
  case c => decide
  case d => rfl
  case e => decide
  case f => rfl
  case g => intro _; with_unfolding_all rfl
  iterate 9 (first | (k_unfold; (try dsimp only)) | (k_end; wrow_close) | walk1 | (dsimp only; walk1) | (leave1; walk_say "STEP leave1"; try dsimp only) | fail "no step")
  rename Fr h₀ _ _ _ => F2
  rename News h₀ _ _ _ => N2
  rename IsRange _ _ _ _ _ _ _ _ => R1
  refine ⟨_, _, _, _, _, _, _, 31, rfl, R1, by decide, by decide, by rw [sizeLine_eq]; decide, F2, N2, ⟨rfl, .nil⟩, ?_, ?_⟩
  · rintro i ys nw t C I D oI oC m₂ s₂ E' hi hyl ⟨rfl, hys⟩ eg eo hoC hm2 F3 N3 off
    have hE := InElt.start s₂.heap
    k_unmd
    k_fold
    iterate 10 (first | (k_unfold; (try dsimp only)) | (k_end; wrow_close) | walk1 | (dsimp only; walk1) | (leave1; walk_say "STEP leave1"; try dsimp only) | fail "no step")
    obtain ⟨t5, ht5⟩ := gm.get (i + 1) _ (modUpTo_at 30 (i + 1) (by omega))
    refine item_at (vs := mv) (v := .str (modS (i + 1)) t5) ⟨_, N3.get (a := mD) (o := listOf mv.toArray mk) (by simp [ledB, ledR]), rfl, _, rfl⟩ (by omega) (by omega) (by rw [show ((1 : Int) + (i : Int)).toNat = i + 1 by omega]; exact ht5) ?_
    iterate 2 (first | (k_unfold; (try dsimp only)) | (k_end; wrow_close) | walk1 | (dsimp only; walk1) | (leave1; walk_say "STEP leave1"; try dsimp only) | fail "no step")
    have N4 : News h₀ L s₂.heap (ledB w da od la sa so x dx t1 t2 t3 (ledR L M shD shv shk wD wk mD mv mk o4 c3 c2 c1 ++ [(zD, listOf zl.toArray 0), (tD, listOf tl.toArray tk), (I, oI), (C, oC), (D, lst ys)])) := fun p hp => N3 p (by
      simp only [ledB, ledR, List.cons_append, List.nil_append, List.mem_cons, List.not_mem_nil, or_false] at hp ⊢
      rcases hp with hp | hp | hp | hp | hp | hp | hp | hp | hp | hp | hp | hp | hp | hp | hp | hp | hp <;> simp [hp])
    refine names_old (s := { s₂ with toks := _ }) B F3 X T N4 rfl rfl hig glo (tab_at M i hi) fun t' h5 tk5 F5 N5 => ?_
    iterate 1 (first | (k_unfold; (try dsimp only)) | (k_end; wrow_close) | walk1 | (dsimp only; walk1) | (leave1; walk_say "STEP leave1"; try dsimp only) | fail "no step")
    refine ⟨eg, eo, _, F5, fun p hp => N5 p ?_, off, rfl, ?_⟩
    · simp only [ledB, ledR, List.cons_append, List.nil_append, List.mem_cons, List.not_mem_nil, or_false] at hp ⊢
      rcases hp with hp | hp | hp | hp | hp | hp | hp | hp | hp | hp | hp | hp | hp | hp | hp | hp | hp <;> simp [hp]
    · rw [tvs_succ]; exact hys.append (.cons _ _ .nil)
  · rintro D ys nw s₂ ⟨rfl, hys⟩ eg eo F3 N3 hne3
    subst hzo
    refine add_lists (vs := [Value.int 0 s.toks]) (ws := ys) F3 N3 ⟨_, N3.get (.tail _ (.head _)), rfl, _, rfl⟩ ⟨_, N3.get (.head _), rfl, _, rfl⟩ (fun h6 F6 N6 => ?_) ?_
    rotate_left
    · have := hys.length; rw [this, tvs, List.length_map, List.length_range, sizeLine_eq]; simp
    have q1 : ∀ p ∈ ((tD, listOf tl.toArray tk) :: ledB w da od la sa so x dx t1 t2 t3 (ledR L M shD shv shk wD wk mD mv mk o4 c3 c2 c1)), p.1 ≠ s₂.heap.objs.size := fun p hp => Nat.ne_of_lt (Heap.lt_size (N3 p (.tail _ (.tail _ hp))).1)
    iterate 2 (first | (k_unfold; (try dsimp only)) | (k_end; wrow_close) | walk1 | (dsimp only; walk1) | (leave1; walk_say "STEP leave1"; try dsimp only) | fail "no step")
    rename Fr h₀ _ _ _ => F7
    rename News h₀ _ _ _ => N7
    refine k' _ ([Value.int 0 s.toks] ++ ys) 0 _ eg eo F7 (fun p hp => N7 p ?_) q1 ?_
    · rcases List.mem_cons.mp hp with rfl | hp
      · exact .head _
      · exact .tail _ (.tail _ (.tail _ hp))
    · exact .cons _ _ hys
end Mine

namespace Mine
open PySem PySem.W PySem.Spec PyProof.Rows
def kBool : ItemKind Bool := ⟨fun a v => v = .bool a, fun v => match v with | .bool a => some a | _ => none, fun _ _ h => by rw [h]⟩
theorem areBool : ∀ l : List Bool, AreOf kBool (l.map Value.bool) l
  | [] => .nil
  | _ :: r => .cons rfl (areBool r)
theorem reads_ints : ∀ {h : Heap} {vs : List Value} {ns : List Int}, IntsAre vs ns → ∃ as, ReadsAll h vs (ns.map PyData.int) as := by
  intro h vs ns hi
  induction hi with
  | nil => exact ⟨_, .nil⟩
  | cons n t _ ih => obtain ⟨as, r⟩ := ih; exact ⟨_, .cons (.int _ _) r⟩
theorem showAll : ∀ {ns : List Int}, (∀ n ∈ ns, 0 ≤ n ∧ n < 2) → PyData.showableAll (ns.map PyData.int) = true
  | [], _ => rfl
  | n :: r, h => by
    have h1 := h n (.head _)
    have h2 := showAll (ns := r) fun x hx => h x (.tail _ hx)
    rcases (show n = 0 ∨ n = 1 by omega) with rfl | rfl <;> simp [PyData.showableAll, PyData.showable, h2] <;> decide
theorem noDictAll : ∀ ns : List Int, PyData.hasDictAll (ns.map PyData.int) = false
  | [] => rfl
  | n :: r => by simp [PyData.hasDictAll, PyData.hasDict, noDictAll r]
theorem bulkAll_ints : ∀ ns : List Int, PyData.bulkAll (ns.map PyData.int) = ns.length
  | [] => rfl
  | n :: r => by simp [PyData.bulkAll, PyData.bulk, bulkAll_ints r]; omega
theorem shortAll : ∀ {ns : List Int}, (∀ n ∈ ns, 0 ≤ n ∧ n < 2) → PyData.leavesShortAll 8 (ns.map PyData.int) = true
  | [], _ => rfl
  | n :: r, h => by
    have h1 := h n (.head _)
    have h2 := shortAll (ns := r) fun x hx => h x (.tail _ hx)
    rcases (show n = 0 ∨ n = 1 by omega) with rfl | rfl <;> simp [PyData.leavesShortAll, PyData.leavesShort, h2] <;> decide +kernel
theorem depthAll_ints : ∀ ns : List Int, PyData.depthAll (ns.map PyData.int) ≤ 1
  | [] => by simp [PyData.depthAll]
  | n :: r => by have := depthAll_ints r; simp [PyData.depthAll, PyData.depth]; omega
section
variable {prog : Program} {w : World} {A : Around} {E : Value → Shared → Prop} {s : Shared} {h₀ : Heap} {L : Addr} {m : Str → Option Value} {news : List (Addr × Obj)} {Q : Value → Shared → Prop}
theorem str_bits {l : Addr} {vs : List Value} {ns : List Int} (F : Fr h₀ L s.heap m) (N : News h₀ L s.heap news) (hl : s.heap.IsList l vs.toArray) (hi : IntsAre vs ns) (hb : ∀ n ∈ ns, 0 ≤ n ∧ n < 2) (hlen : ns.length ≤ 100)
    (hg : A.guards = some []) (hu : A.units + 6 < cLine)
    (hQ : ∀ h' u tk, Fr h₀ L h' m → News h₀ L h' news → Q (.str (PyData.list (ns.map PyData.int)).shown u) { s with heap := h', toks := tk }) :
    wpAny (model prog w) A (call (.type "str") [.ref l]) Q E s := by
  obtain ⟨o, ho, hc, n, hd⟩ := hl
  obtain ⟨as, r⟩ := reads_ints (h := s.heap) hi
  have hdp := depthAll_ints ns
  refine str_of_reads (.list ho hc hd (by rw [List.toList_toArray]; exact r)) (showAll hb) (PyData.noDict_hsm (noDictAll ns)) hg ?_ (fun _ _ e => e) (fun h' u tk hk => hQ h' u tk (F.keptAll hk) (N.grown hk)) ?_
  · simp only [PyData.depth]; omega
  · have := PyData.shown_le_bulk 8 (Nat.le_refl 8) (.list (ns.map PyData.int)) (shortAll hb)
    simp only [PyData.bulk, bulkAll_ints] at this
    rw [sizeLine_eq]; omega
theorem shown_pair_le {a b : PyData} (ha : a.leavesShort 8 = true) (hb : b.leavesShort 8 = true) (h1 : a.bulk = 0) (h2 : b.bulk = 0) : (PyData.tuple [a, b]).shown.length ≤ sizeLine := by
  have := PyData.shown_le_bulk 8 (Nat.le_refl 8) (.tuple [a, b]) (by simp [PyData.leavesShort, PyData.leavesShortAll, ha, hb])
  simp only [PyData.bulk, PyData.bulkAll, h1, h2] at this
  rw [sizeLine_eq]; omega
theorem str_pair {l : Addr} {n : Nat} {va vb : Value} {a b : PyData} (F : Fr h₀ L s.heap m) (N : News h₀ L s.heap news) {o : Obj} (hl : s.heap.get? l = some o) (hc : o.cls = .type "tuple") (hd : o.data = .seq #[va, vb] n)
    (ra : ∀ h, Reads h va a []) (rb : ∀ h, Reads h vb b []) (ha : a.leavesShort 8 = true) (hb : b.leavesShort 8 = true) (h1 : a.bulk = 0) (h2 : b.bulk = 0) (sa : a.showable = true) (sb : b.showable = true) (da : a.hasDict = false) (db : b.hasDict = false) (pa : a.depth ≤ 1) (pb : b.depth ≤ 1)
    (hg : A.guards = some []) (hu : A.units + 6 < cLine)
    (hQ : ∀ h' u tk, Fr h₀ L h' m → News h₀ L h' news → Q (.str (PyData.tuple [a, b]).shown u) { s with heap := h', toks := tk }) :
    wpAny (model prog w) A (call (.type "str") [.ref l]) Q E s := by
  refine str_of_reads (d := .tuple [a, b]) (.tuple hl hc hd (.cons (ra _) (.cons (rb _) .nil))) (by simp [PyData.showable, PyData.showableAll, sa, sb]) (PyData.noDict_hsm (by simp [PyData.hasDict, PyData.hasDictAll, da, db])) hg ?_ (fun _ _ e => e) (fun h' u tk hk => hQ h' u tk (F.keptAll hk) (N.grown hk)) (shown_pair_le ha hb h1 h2)
  simp only [PyData.depth, PyData.depthAll]; omega
end
end Mine

namespace Mine
open PySem PySem.W PySem.Spec PyProof.Rows
theorem eqv_ints : ∀ ns ms : List Int, PyData.eqvAll (ns.map PyData.int) (ms.map PyData.int) = decide (ns = ms)
  | [], [] => rfl
  | [], _ :: _ => rfl
  | _ :: _, [] => rfl
  | a :: r, b :: q => by
    have := eqv_ints r q
    simp only [List.map_cons, PyData.eqvAll, PyData.eqv, this]
    by_cases h : a = b <;> by_cases h' : r = q <;> simp [h, h']
theorem canLay_ints : ∀ ns : List Int, PyData.canLayAll0 (ns.map PyData.int) = true
  | [] => rfl
  | _ :: r => by simp [PyData.canLayAll0, PyData.canLay0, canLay_ints r]
theorem reads_list {h : Heap} {l : Addr} {vs : List Value} {ns : List Int} (hl : h.IsList l vs.toArray) (hi : IntsAre vs ns) : ∃ as, Reads h (.ref l) (.list (ns.map PyData.int)) as := by
  obtain ⟨o, ho, hc, n, hd⟩ := hl
  obtain ⟨as, r⟩ := reads_ints (h := h) hi
  exact ⟨_, .list ho hc hd (by rw [List.toList_toArray]; exact r)⟩
section
variable {prog : Program} {w : World} {A : Around} {E : Value → Shared → Prop} {s : Shared} {Q : Value → Shared → Prop} {l b : Addr} {vs ws : List Value} {ns ms : List Int}
theorem ne_ints (hl : s.heap.IsList l vs.toArray) (hb : s.heap.IsList b ws.toArray) (hi : IntsAre vs ns) (hj : IntsAre ws ms) (hu : A.units + 3 < cLine) (h : Q (.bool (!decide (ns = ms))) s) :
    wpAny (model prog w) A (compareOp .NotEq (.ref l) (.ref b)) Q E s := by
  obtain ⟨_, r1⟩ := reads_list hl hi
  obtain ⟨_, r2⟩ := reads_list hb hj
  refine SeqAt.compareNe_reads r1 r2 (canLay_ints ns) (canLay_ints ms) ?_ ?_
  · have h1 := depthAll_ints ns
    simp only [PyData.depth]; omega
  · simp only [PyData.eqv, eqv_ints]; exact h
theorem eq_ints (hl : s.heap.IsList l vs.toArray) (hb : s.heap.IsList b ws.toArray) (hi : IntsAre vs ns) (hj : IntsAre ws ms) (hu : A.units + 3 < cLine) (h : Q (.bool (decide (ns = ms))) s) :
    wpAny (model prog w) A (compareOp .Eq (.ref l) (.ref b)) Q E s := by
  obtain ⟨_, r1⟩ := reads_list hl hi
  obtain ⟨_, r2⟩ := reads_list hb hj
  refine SeqAt.compareEq_reads r1 r2 (canLay_ints ns) (canLay_ints ms) ?_ ?_
  · have h1 := depthAll_ints ns
    simp only [PyData.depth]; omega
  · simp only [PyData.eqv, eqv_ints]; exact h
end
end Mine

namespace Mine
open PySem PySem.W PyProof.Rows PyProof.Rows.LCg
theorem dueL_b (M : Int) : ∀ n ∈ dueL M, 0 ≤ n ∧ n < 2 := by
  intro n hn
  obtain ⟨b, _, rfl⟩ := List.mem_map.mp hn
  cases b <;> decide
theorem carried_due {M : Int} {ys : List Value} (hc : CarriedAll ys (((whL M).filter (fun _ => true)).map fun b => PyData.int (b01 b))) : IntsAre ys (dueL M) := by
  rw [List.filter_eq_self.mpr (fun _ _ => rfl)] at hc
  exact CarriedAll.intsOf (f := b01) hc
abbrev mC (m : Str → Option Value) (aD tD shD : Addr) (M : Int) (tM : Tok) : Str → Option Value := fun y => if y = Str.ofString "again" then some (.ref aD) else if y = Str.ofString "told" then some (.ref tD) else if y = Str.ofString "shut" then some (.ref shD) else if y = Str.ofString "mask" then some (.int M tM) else m y
theorem stageD {w : World} {s : Shared} {base h₀ : Heap} {L fa : Addr} {cd : Value} {m mg mb : Str → Option Value} {mean : ExcName → Option Value} {E : Value → Shared → Prop} {Q : Flow → Shared → Prop} {o4 c2 : Obj}
    {M : Int} {wD : Addr} {wk : Nat} {shD : Addr} {shv : List Value} {shk : Nat} 
    {tD aD : Addr} {tl al : List Value} {tn ak : Nat} {tM : Tok}
    (B : Below callerA base [] h₀) (F : Fr h₀ L s.heap (mC m aD tD shD M tM)) (X : (hd.heap_39 w.params).In h₀) (T : Top hd.view_39 (looseW hd.view_39 []) mean mg mb h₀)
    (N : News h₀ L s.heap [(aD, listOf al.toArray ak), (tD, listOf tl.toArray tn), (shD, listOf shv.toArray shk), (wD, listOf ((whL M).map Value.bool).toArray wk), (L + 1 + 1 + 1 + 1, o4), (L + 1 + 1, c2)])
    (hc2 : c2.data = .cell (some (.ref wD))) (htl : IntsAre tl (dueL M)) (hal : IntsAre al (dueL M))
    (k : ∀ D u h' tk, Fr h₀ L h' (fun y => if y = Str.ofString "due" then some (.str D u) else mC m aD tD shD M tM y) →
      News h₀ L h' [(aD, listOf al.toArray ak), (tD, listOf tl.toArray tn), (shD, listOf shv.toArray shk), (wD, listOf ((whL M).map Value.bool).toArray wk), (L + 1 + 1 + 1 + 1, o4), (L + 1 + 1, c2)] →
      wpAny (model PySem.Challenge.rw_nb0074_01.row.toRowW.prog w) (callerA.deeper (lawEnv L fa cd)) (execs (lawDef.1.drop 9) (lawEnv L fa cd)) Q E { s with heap := h', toks := tk }) :
    wpAny (model PySem.Challenge.rw_nb0074_01.row.toRowW.prog w) (callerA.deeper (lawEnv L fa cd)) (execs (lawDef.1.drop 7) (lawEnv L fa cd)) Q E s := by
  revert X; k_fill; intro X
  have k' := k
  clear k
  unfold lawEnv
  conv in (occs := *) lawDef.1.drop 7 => all_goals whnf
  conv in (occs := *) lawDef.2 => all_goals whnf
  iterate 6 (first | (k_unfold; (try dsimp only)) | (k_end; wrow_close) | walk1 | (dsimp only; walk1) | (leave1; walk_say "STEP leave1"; try dsimp only) | fail "no step")
  refine' comp_list (K := kBool) (fun _ => true) (fun b => PyData.int (b01 b)) F ?a ?b ?c ?d ?e ?f ?g ?_
  case a => rfl
  case b => with_unfolding_all rfl
  case c => decide
  case d => rfl
  case e => decide
  case f => rfl
  case g => intro _; with_unfolding_all rfl
  iterate 1 (first | (k_unfold; (try dsimp only)) | (k_end; wrow_close) | walk1 | (dsimp only; walk1) | (leave1; walk_say "STEP leave1"; try dsimp only) | fail "no step")
  refine ⟨_, _, (whL M).map Value.bool, whL M, rfl, ⟨_, N.get (a := wD) (o := listOf ((whL M).map Value.bool).toArray wk) (by simp), rfl, _, rfl⟩, areBool _, ?_, F, N, ?_, ?_, ?_⟩
  · rw [whL_length, sizeLine_eq]; decide
  · intro C a v s₂ m₂ E' hC ha hv hn hm2 hk F₂ N₂
    exact wpAny_tests_nil ⟨rfl, keeps_refl _⟩
  · rintro C a v s₂ m₂ E' hC ha rfl _ hn hm2 hk F₂ N₂
    have hE := InElt.start s₂.heap
    k_unmd
    k_fold
    cases a
    · iterate 4 (first | (k_unfold; (try dsimp only)) | (k_end; wrow_close) | walk1 | (dsimp only; walk1) | (leave1; walk_say "STEP leave1"; try dsimp only) | fail "no step")
      rw [if_neg (by decide)]
      iterate 1 (first | (k_unfold; (try dsimp only)) | (k_end; wrow_close) | walk1 | (dsimp only; walk1) | (leave1; walk_say "STEP leave1"; try dsimp only) | fail "no step")
      exact ⟨.int _ _, keeps_refl _⟩
    · iterate 4 (first | (k_unfold; (try dsimp only)) | (k_end; wrow_close) | walk1 | (dsimp only; walk1) | (leave1; walk_say "STEP leave1"; try dsimp only) | fail "no step")
      rw [if_pos rfl]
      iterate 1 (first | (k_unfold; (try dsimp only)) | (k_end; wrow_close) | walk1 | (dsimp only; walk1) | (leave1; walk_say "STEP leave1"; try dsimp only) | fail "no step")
      exact ⟨.int _ _, keeps_refl _⟩
  · intro D ys kk h1 tk1 F1 N1 hne1 hc1
    have hys := carried_due hc1
    iterate 1 (first | (k_unfold; (try dsimp only)) | (k_end; wrow_close) | walk1 | (dsimp only; walk1) | (leave1; walk_say "STEP leave1"; try dsimp only) | fail "no step")
    refine str_bits F1 N1 ⟨_, N1.get (.head _), rfl, _, rfl⟩ hys (dueL_b M) (by rw [dueL_len]; decide) rfl (by k_units) fun h2 u2 tk2 F2 N2 => ?_
    iterate 10 (first | (k_unfold; (try dsimp only)) | (k_end; wrow_close) | walk1 | (dsimp only; walk1) | (leave1; walk_say "STEP leave1"; try dsimp only) | fail "no step")
    iterate 2 (first | (k_unfold; (try dsimp only)) | (k_end; wrow_close) | walk1 | (dsimp only; walk1) | (leave1; walk_say "STEP leave1"; try dsimp only) | fail "no step")
    rename Fr h₀ _ _ _ => F3
    rename News h₀ _ _ _ => N3
    refine str_bits F3 N3 ⟨_, N3.get (a := tD) (o := listOf tl.toArray tn) (by simp), rfl, _, rfl⟩ htl (dueL_b M) (by rw [dueL_len]; decide) rfl (by k_units) fun h4 u4 tk4 F4 N4 => ?_
    iterate 3 (first | (k_unfold; (try dsimp only)) | (k_end; wrow_close) | walk1 | (dsimp only; walk1) | (leave1; walk_say "STEP leave1"; try dsimp only) | fail "no step")
    refine ite_cases (fun hx => absurd hx (by simp)) fun _ => ?_
    iterate 8 (first | (k_unfold; (try dsimp only)) | (k_end; wrow_close) | walk1 | (dsimp only; walk1) | (leave1; walk_say "STEP leave1"; try dsimp only) | fail "no step")
    rename Fr h₀ _ _ _ => F5
    rename News h₀ _ _ _ => N5
    refine str_bits F5 N5 ⟨_, N5.get (a := aD) (o := listOf al.toArray ak) (by simp), rfl, _, rfl⟩ hal (dueL_b M) (by rw [dueL_len]; decide) rfl (by k_units) fun h6 u6 tk6 F6 N6 => ?_
    iterate 3 (first | (k_unfold; (try dsimp only)) | (k_end; wrow_close) | walk1 | (dsimp only; walk1) | (leave1; walk_say "STEP leave1"; try dsimp only) | fail "no step")
    refine ite_cases (fun hx => absurd hx (by simp)) fun _ => ?_
    iterate 1 (first | (k_unfold; (try dsimp only)) | (k_end; wrow_close) | walk1 | (dsimp only; walk1) | (leave1; walk_say "STEP leave1"; try dsimp only) | fail "no step")
    rw [if_neg (by decide)]
    iterate 1 (first | (k_unfold; (try dsimp only)) | (k_end; wrow_close) | walk1 | (dsimp only; walk1) | (leave1; walk_say "STEP leave1"; try dsimp only) | fail "no step")
    exact k' _ _ _ _ F6 fun p hp => N6 p (.tail _ hp)
end Mine

namespace Mine
open PySem PySem.W PySem.Spec PyProof.Rows PyProof.Rows.LCg
abbrev mD (m : Str → Option Value) (D₀ : Str) (u₀ : Tok) (aD tD shD : Addr) (M : Int) (tM : Tok) : Str → Option Value := fun y => if y = Str.ofString "due" then some (.str D₀ u₀) else mC m aD tD shD M tM y
theorem shut_sum (M : Int) : ((shutL M).map szI).sum = ((dueL M).drop 16).sum := shut_sum' M
theorem bits_pos {a : Int} (h : 1 ≤ a) : 1 ≤ Builtin.Int.intBits a := by
  unfold Builtin.Int.intBits
  rw [if_neg (by simp; omega)]; omega
theorem stageD2 {w : World} {s : Shared} {base h₀ : Heap} {L fa : Addr} {cd : Value} {m mg mb : Str → Option Value} {mean : ExcName → Option Value} {E : Value → Shared → Prop} {Q : Flow → Shared → Prop} {o4 c2 : Obj}
    {M : Int} {wD : Addr} {wk : Nat} {shD : Addr} {shv : List Value} {shk : Nat} 
    {tD aD : Addr} {tl al : List Value} {tn ak : Nat} {tM : Tok} {D₀ : Str} {u₀ : Tok}
    (B : Below callerA base [] h₀) (F : Fr h₀ L s.heap (mD m D₀ u₀ aD tD shD M tM)) (X : (hd.heap_39 w.params).In h₀) (T : Top hd.view_39 (looseW hd.view_39 []) mean mg mb h₀)
    (N : News h₀ L s.heap [(aD, listOf al.toArray ak), (tD, listOf tl.toArray tn), (shD, listOf shv.toArray shk), (wD, listOf ((whL M).map Value.bool).toArray wk), (L + 1 + 1 + 1 + 1, o4), (L + 1 + 1, c2)])
    (hc2 : c2.data = .cell (some (.ref wD))) (htl : IntsAre tl (dueL M)) (hal : IntsAre al (dueL M))
    (hsh : IntsAre shv (shutL M))
    (k : ∀ h' tk, Fr h₀ L h' (mD m D₀ u₀ aD tD shD M tM) →
      News h₀ L h' [(aD, listOf al.toArray ak), (tD, listOf tl.toArray tn), (shD, listOf shv.toArray shk), (wD, listOf ((whL M).map Value.bool).toArray wk), (L + 1 + 1 + 1 + 1, o4), (L + 1 + 1, c2)] →
      wpAny (model PySem.Challenge.rw_nb0074_01.row.toRowW.prog w) (callerA.deeper (lawEnv L fa cd)) (execs (lawDef.1.drop 10) (lawEnv L fa cd)) Q E { s with heap := h', toks := tk }) :
    wpAny (model PySem.Challenge.rw_nb0074_01.row.toRowW.prog w) (callerA.deeper (lawEnv L fa cd)) (execs (lawDef.1.drop 9) (lawEnv L fa cd)) Q E s := by
  revert X; k_fill; intro X
  have k' := k
  clear k
  unfold lawEnv
  conv in (occs := *) lawDef.1.drop 9 => all_goals whnf
  conv in (occs := *) lawDef.2 => all_goals whnf
  iterate 7 (first | (k_unfold; (try dsimp only)) | (k_end; wrow_close) | walk1 | (dsimp only; walk1) | (leave1; walk_say "STEP leave1"; try dsimp only) | fail "no step")
  refine' comp_list (K := ItemKind.int) (fun _ => true) (fun n => PyData.int (szI n)) F ?a ?b ?c ?d ?e ?f ?g ?_
  case a => rfl
  case b => with_unfolding_all rfl
  case c => decide
  case d => rfl
  case e => decide
  case f => rfl
  case g => intro _; with_unfolding_all rfl
  iterate 1 (first | (k_unfold; (try dsimp only)) | (k_end; wrow_close) | walk1 | (dsimp only; walk1) | (leave1; walk_say "STEP leave1"; try dsimp only) | fail "no step")
  refine ⟨_, _, shv, shutL M, rfl, ⟨_, N.get (a := shD) (o := listOf shv.toArray shk) (by simp), rfl, _, rfl⟩, hsh.areOf, ?_, F, N, ?_, ?_, ?_⟩
  · have := shutL_length M; rw [sizeLine_eq]; omega
  · intro C a v s₂ m₂ E' hC ha hv hn hm2 hk F₂ N₂
    exact wpAny_tests_nil ⟨rfl, keeps_refl _⟩
  · rintro C a v s₂ m₂ E' hC ha ⟨t, rfl⟩ _ hn hm2 hk F₂ N₂
    have hb := shutL_mem ha
    have hE := InElt.start s₂.heap
    k_unmd
    k_fold
    iterate 8 (first | (k_unfold; (try dsimp only)) | (k_end; wrow_close) | walk1 | (dsimp only; walk1) | (leave1; walk_say "STEP leave1"; try dsimp only) | fail "no step")
    refine ⟨fun a o e => F₂.keep _ _ (X a o e), ?_⟩
    refine highbit_call (s := { s₂ with toks := _ }) B F₂ X T rfl rfl fun h5 tk5 t5 hx5 => ?_
    have hq := bits_pos hb.1
    iterate 2 (first | (k_unfold; (try dsimp only)) | (k_end; wrow_close) | walk1 | (dsimp only; walk1) | (leave1; walk_say "STEP leave1"; try dsimp only) | fail "no step")
    refine ⟨?_, h5, _, rfl, hx5⟩
    rw [fdp, show (((Builtin.Int.intBits a : Nat) : Int) - 1).toNat = Builtin.Int.intBits a - 1 by omega]
    exact .int _ _
  · intro D ys kk h1 tk1 F1 N1 hne1 hc1
    have hys : IntsAre ys ((shutL M).map szI) := by
      have := CarriedAll.intsOf (f := szI) hc1
      rw [List.filter_eq_self.mpr (fun _ _ => rfl)] at this
      exact this
    iterate 1 (first | (k_unfold; (try dsimp only)) | (k_end; wrow_close) | walk1 | (dsimp only; walk1) | (leave1; walk_say "STEP leave1"; try dsimp only) | fail "no step")
    refine LSm.sum_ints F1 N1 rfl ⟨_, N1.get (.head _), rfl, _, rfl⟩ hys fun h2 tk2 t2 F2 N2 => ?_
    iterate 11 (first | (k_unfold; (try dsimp only)) | (k_end; wrow_close) | walk1 | (dsimp only; walk1) | (leave1; walk_say "STEP leave1"; try dsimp only) | fail "no step")
    have hsz : tl.toArray.size ≤ sizeLine := by rw [List.size_toArray, htl.length, dueL_len, sizeLine_eq]; decide
    with_unfolding_all refine slice_list (items := tl.toArray) (lo := some 16) (hi := none) F2 N2 ⟨_, N2.get (a := tD) (o := listOf tl.toArray tn) (by simp), rfl, _, rfl⟩ (.int _ _) .none (fun h3 F3 N3 => ?_) (hsz := hsz)
    have hd := slice_ints_from htl (x := 16) (by decide) (by rw [dueL_len]; decide)
    iterate 1 (first | (k_unfold; (try dsimp only)) | (k_end; wrow_close) | walk1 | (dsimp only; walk1) | (leave1; walk_say "STEP leave1"; try dsimp only) | fail "no step")
    refine LSm.sum_ints F3 N3 rfl ⟨_, N3.get (.head _), rfl, _, rfl⟩ hd fun h4 tk4 t4 F4 N4 => ?_
    iterate 2 (first | (k_unfold; (try dsimp only)) | (k_end; wrow_close) | walk1 | (dsimp only; walk1) | (leave1; walk_say "STEP leave1"; try dsimp only) | fail "no step")
    rw [shut_sum]
    refine ite_cases (fun hx => absurd hx (by simp)) fun _ => ?_
    iterate 1 (first | (k_unfold; (try dsimp only)) | (k_end; wrow_close) | walk1 | (dsimp only; walk1) | (leave1; walk_say "STEP leave1"; try dsimp only) | fail "no step")
    exact k' _ _ F4 fun p hp => N4 p (.tail _ (.tail _ hp))
end Mine

namespace Mine
open PySem PySem.W PySem.Spec PyProof.Rows PyProof.Rows.LCg
abbrev stE : List Str := [Str.ofString "n", Str.ofString "size", Str.ofString "piece", Str.ofString "ones", Str.ofString "places", Str.ofString "singles"]
def loopOf : List Stmt → List Stmt
  | .For _ _ body _ _ :: _ => body
  | _ => []
def loopB : List Stmt := loopOf (lawDef.1.drop 10)
theorem sz_facts : ∀ i : Nat, i < 31 → 1 ≤ szI (1 + (i : Int)) ∧ szI (1 + (i : Int)) ≤ 16 ∧ 16 ≤ (1 + (i : Int)) * szI (1 + (i : Int)) ∧ (1 + (i : Int)) * szI (1 + (i : Int)) + szI (1 + (i : Int)) ≤ 32 := by decide +kernel
theorem range_small16' : ∀ q : Nat, q < 17 → Builtin.Range.small 0 (q : Int) 1 = true := by decide
theorem range_small16 (q : Nat) (h : q ≤ 16) : Builtin.Range.small 0 (q : Int) 1 = true := range_small16' q (by omega)
theorem get_bits {l : List Int} {k : Nat} (h : k < l.length) : l[k]? = some (l.getD k 0) := by
  simp [List.getD, h]
theorem int_short' : ∀ v : Nat, v < 18 → (PyData.int ((v : Int) - 1)).leavesShort 8 = true ∧ (PyData.int ((v : Int) - 1)).showable = true := by decide +kernel
theorem int_short {v : Int} (h0 : -1 ≤ v) (h1 : v ≤ 16) : (PyData.int v).leavesShort 8 = true ∧ (PyData.int v).showable = true := by
  have := int_short' (v + 1).toNat (by omega)
  rwa [show (((v + 1).toNat : Nat) : Int) - 1 = v by omega] at this
theorem bits_le {P : Int} {q : Nat} (h0 : 0 ≤ P) (h1 : P < 2 ^ q) : Builtin.Int.intBits P ≤ q := by
  unfold Builtin.Int.intBits
  split
  · omega
  · rename_i h
    have hn : P.natAbs ≠ 0 := by simpa using h
    have : P.natAbs < 2 ^ q := by
      have : ((P.natAbs : Nat) : Int) < ((2 ^ q : Nat) : Int) := by rw [show ((2 ^ q : Nat) : Int) = 2 ^ q by simp]; omega
      exact_mod_cast this
    exact (Nat.log2_lt hn).mpr this
theorem piece_bits {M P : Int} {a q : Nat} (h0 : 0 ≤ M) (hP : M / 2 ^ a % 2 ^ q = P) : Builtin.Int.intBits P ≤ q := bits_le (piece_range h0 hP).1 (piece_range h0 hP).2
theorem lastI_pos {M : Int} {a q : Nat} (h : onesL M a q ≠ []) : (onesL M a q).getD (-1 + ((onesL M a q).length : Int)).toNat 0 = lastI M a q := by
  rw [lastI, if_neg h]
  have : 0 < (onesL M a q).length := List.length_pos_iff.mpr h
  rw [show (-1 + ((onesL M a q).length : Int)).toNat = (onesL M a q).length - 1 by omega, List.getLastD_eq_getLast?, List.getLast?_eq_getElem?, List.getD]
theorem mid {prog : Program} {w : World} {A : Around} {E : Value → Shared → Prop} {s s₁ : Shared} {h₀ h : Heap} {L : Addr} {m : Str → Option Value} {news : List (Addr × Obj)} {Q : Value → Shared → Prop} {P : Value → Prop} {t : Sem Value} (_F : Fr h₀ L h m) (_N : News h₀ L h news)
    (h1 : wpAny (model prog w) A t (fun v s' => ∃ h' tk, P v ∧ s' = { s with heap := h', toks := tk } ∧ Fr h₀ L h' m ∧ News h₀ L h' news) E s₁)
    (h2 : ∀ v h' tk, P v → Fr h₀ L h' m → News h₀ L h' news → Q v { s with heap := h', toks := tk }) : wpAny (model prog w) A t Q E s₁ :=
  wpAny_mono h1 (fun v s' ⟨h', tk, hp, e, F', N'⟩ => e ▸ h2 v h' tk hp F' N') fun _ _ e => e
theorem onesL_mem {M : Int} {a q : Nat} {k : Int} (h : k ∈ onesL M a q) : 0 ≤ k ∧ k < (q : Int) := by
  have := mem_rangeInts1 (List.mem_filter.mp h).1
  omega
theorem lastI_b (M : Int) {a q : Nat} (_h : a + q ≤ 32) : -1 ≤ lastI M a q ∧ lastI M a q < (q : Int) := by
  unfold lastI
  split
  · omega
  · rename_i h
    rw [List.getLastD_eq_getLast?, List.getLast?_eq_some_getLast h, Option.getD_some]
    have := onesL_mem (List.getLast_mem h)
    omega
abbrev mT (m u : Str → Option Value) (D₀ : Str) (u₀ : Tok) (aD tD shD : Addr) (M : Int) (tM : Tok) (pD oD : Addr) (P : Int) (tp : Tok) (q : Nat) (tz : Tok) (i : Nat) (ti : Tok) : Str → Option Value := fun y => if y = Str.ofString "places" then some (.ref pD) else if y = Str.ofString "ones" then some (.ref oD) else if y = Str.ofString "piece" then some (.int P tp) else if y = Str.ofString "size" then some (.int (q : Int) tz) else if y = Str.ofString "n" then some (.int (1 + (i : Int)) ti) else if stE.contains y = true then u y else mD m D₀ u₀ aD tD shD M tM y
theorem law_last {M P : Int} {i q : Nat} (hM0 : 0 ≤ M) (hM1 : M < 65536) (hi : i < 31) (hz : szI (1 + (i : Int)) = q) (z0 : 1 ≤ q) (z1 : q ≤ 16) (z2 : 16 ≤ (1 + i) * q) (z3 : (1 + i) * q + q ≤ 32) (hP : M / 2 ^ ((1 + i) * q - 16) % 2 ^ q = P) :
    (Builtin.Int.intBits P : Int) - 1 = lastI M ((1 + i) * q) q := law_last' hM0 z2 z3 hP
theorem law_all {M P : Int} {i q : Nat} (hM0 : 0 ≤ M) (hM1 : M < 65536) (hi : i < 31) (hz : szI (1 + (i : Int)) = q) (z0 : 1 ≤ q) (z1 : q ≤ 16) (z2 : 16 ≤ (1 + i) * q) (z3 : (1 + i) * q + q ≤ 32) (hP : M / 2 ^ ((1 + i) * q - 16) % 2 ^ q = P) :
    ((Builtin.Int.intBits (P + 1) : Int) - 1 == (q : Int)) = ((dueL M).getD (i + 1) 0 == 1) := by
  rw [law_all' hM0 z2 z3 hP, ← allW M hi hz, due_at M (i + 1) (by omega), Nat.add_comm]
theorem turnB {w : World} {s : Shared} {base h₀ : Heap} {L fa : Addr} {cd : Value} {m u mg mb : Str → Option Value} {mean : ExcName → Option Value} {E : Value → Shared → Prop} {Q : Flow → Shared → Prop} {o8 : Obj} {own : List (Addr × Obj)}
    {M : Int} {shD : Addr} {tD aD lD : Addr} {tl lv : List Value} {tn : Nat} {tM tp tz ti : Tok} {D₀ : Str} {u₀ : Tok} {i : Nat} {q : Nat} {P : Int}
    (B : Below callerA base [] h₀) (F : Fr h₀ L s.heap (fun y => if y = Str.ofString "piece" then some (.int P tp) else if y = Str.ofString "size" then some (.int (q : Int) tz) else if y = Str.ofString "n" then some (.int (1 + (i : Int)) ti) else if stE.contains y = true then u y else mD m D₀ u₀ aD tD shD M tM y)) (X : (hd.heap_39 w.params).In h₀) (T : Top hd.view_39 (looseW hd.view_39 []) mean mg mb h₀)
    (N : News h₀ L s.heap ((lD, listOf lv.toArray 0) :: (L + 1 + 1 + 1 + 1, o8) :: (tD, listOf tl.toArray tn) :: own))
    (d8 : o8.data = .cell (some (.ref lD))) (htl : IntsAre tl (dueL M)) (hlv : IntsAre lv (bitsL M ((1 + i) * q) q)) (hM0 : 0 ≤ M) (hM1 : M < 65536) (hi : i < 31)
    (hz : szI (1 + (i : Int)) = q) (z0 : 1 ≤ q) (z1 : q ≤ 16) (z2 : 16 ≤ (1 + i) * q) (z3 : (1 + i) * q + q ≤ 32)
    (hP : M / 2 ^ ((1 + i) * q - 16) % 2 ^ q = P)
    (k : ∀ (h' : Heap) (tk : Nat) pD oD ov ok, Fr h₀ L h' (mT m u D₀ u₀ aD tD shD M tM pD oD P tp q tz i ti) → News h₀ L h' ((oD, listOf ov.toArray ok) :: (lD, listOf lv.toArray 0) :: (L + 1 + 1 + 1 + 1, o8) :: (tD, listOf tl.toArray tn) :: own) → IntsAre ov (onesL M ((1 + i) * q) q) →
      wpAny (model PySem.Challenge.rw_nb0074_01.row.toRowW.prog w) (callerA.deeper (lawEnv L fa cd)) (execs (loopB.drop 6) (lawEnv L fa cd)) Q E { s with heap := h', toks := tk }) :
    wpAny (model PySem.Challenge.rw_nb0074_01.row.toRowW.prog w) (callerA.deeper (lawEnv L fa cd)) (execs (loopB.drop 3) (lawEnv L fa cd)) Q E s := by
  revert X; k_fill; intro X
  have k' := k
  clear k
  unfold lawEnv
  conv in (occs := *) loopB.drop 3 => all_goals whnf
  conv in (occs := *) lawDef.2 => all_goals whnf
  iterate 1 (first | (k_unfold; (try dsimp only)) | (k_end; wrow_close) | walk1 | (dsimp only; walk1) | (leave1; walk_say "STEP leave1"; try dsimp only) | fail "no step")
  refine' comp_range_as (fun k => (bitsL M ((1 + i) * q) q).getD k.toNat 0 == 1) (fun k => .int k) F ?p1 ?p2 ?p3 ?p4 ?p5 ?p6 ?p7 ?p8 ?p9 ?p10 ?p11 ?_
  case p1 => with_unfolding_all rfl
  case p2 => rfl
  case p3 => rfl
  case p4 => with_unfolding_all rfl
  case p5 => decide
  case p6 => rfl
  case p7 => decide
  case p8 => rfl
  case p9 => with_unfolding_all rfl
  case p10 => rfl
  case p11 => intro _; with_unfolding_all rfl
  iterate 7 (first | (k_unfold; (try dsimp only)) | (k_end; wrow_close) | walk1 | (dsimp only; walk1) | (leave1; walk_say "STEP leave1"; try dsimp only) | fail "no step")
  rename Fr h₀ _ _ _ => Fg
  rename News h₀ _ _ _ => Ng
  rename IsRange _ _ _ _ _ _ _ _ => R1
  have hlen := bitsL_len M z3
  refine ⟨_, _, _, _, _, _, _, q, rfl, R1, range_small16 q z1, by rw [rangeSize_nat]; omega, by rw [sizeLine_eq]; omega, Fg, Ng, ?_, ?_, ?_⟩
  · intro C a t s₂ m₂ E' hC g0 g1 hn hm2 hk F₂ N₂
    refine wpAny_tests_one ?_
    have hE := InElt.start s₂.heap
    k_unmd
    k_fold
    iterate 4 (first | (k_unfold; (try dsimp only)) | (k_end; wrow_close) | walk1 | (dsimp only; walk1) | (leave1; walk_say "STEP leave1"; try dsimp only) | fail "no step")
    obtain ⟨t5, ht5⟩ := hlv.get a.toNat _ (get_bits (by omega))
    refine item_at (vs := lv) ⟨_, N₂.get (.head _), rfl, _, rfl⟩ (by omega) (by omega) ht5 ?_
    iterate 4 (first | (k_unfold; (try dsimp only)) | (k_end; wrow_close) | walk1 | (dsimp only; walk1) | (leave1; walk_say "STEP leave1"; try dsimp only) | fail "no step")
    exact ⟨rfl, keeps_refl _⟩
  · intro C a t s₂ m₂ E' hC g0 g1 _ hn hm2 hk F₂ N₂
    have hE := InElt.start s₂.heap
    k_unmd
    k_fold
    iterate 2 (first | (k_unfold; (try dsimp only)) | (k_end; wrow_close) | walk1 | (dsimp only; walk1) | (leave1; walk_say "STEP leave1"; try dsimp only) | fail "no step")
    exact ⟨.int _ _, keeps_refl _⟩
  · intro oD ov ok h2 tk2 F2 N2 hne2 hc2
    have hov : IntsAre ov (onesL M ((1 + i) * q) q) := by
      have := CarriedAll.intsOf (f := fun k : Int => k) hc2
      rw [List.map_id'] at this
      exact this
    iterate 10 (first | (k_unfold; (try dsimp only)) | (k_end; wrow_close) | walk1 | (dsimp only; walk1) | (leave1; walk_say "STEP leave1"; try dsimp only) | fail "no step")
    refine ⟨fun a o e => F2.keep _ _ (X a o e), ?_⟩
    refine highbit_call B F2 X T rfl rfl fun h3 tk3 t3 hx3 => ?_
    have F3 := F2.keeps hx3
    have N3 := N2.grown hx3
    clear F2 N2
    iterate 11 (first | (k_unfold; (try dsimp only)) | (k_end; wrow_close) | walk1 | (dsimp only; walk1) | (leave1; walk_say "STEP leave1"; try dsimp only) | fail "no step")
    refine ⟨fun a o e => F3.keep _ _ (X a o e), ?_⟩
    refine highbit_call B F3 X T rfl rfl fun h4 tk4 t4 hx4 => ?_
    have F4 := F3.keeps hx4
    have N4 := N3.grown hx4
    clear F3 N3
    iterate 6 (first | (k_unfold; (try dsimp only)) | (k_end; wrow_close) | walk1 | (dsimp only; walk1) | (leave1; walk_say "STEP leave1"; try dsimp only) | fail "no step")
    iterate 8 (first | (k_unfold; (try dsimp only)) | (k_end; wrow_close) | walk1 | (dsimp only; walk1) | (leave1; walk_say "STEP leave1"; try dsimp only) | fail "no step")
    rename Fr h₀ _ _ _ => F5
    rename News h₀ _ _ _ => N5
    iterate 1 (first | (k_unfold; (try dsimp only)) | (k_end; wrow_close) | walk1 | (dsimp only; walk1) | (leave1; walk_say "STEP leave1"; try dsimp only) | fail "no step")
    have hPb := piece_bits hM0 hP
    refine str_pair (a := .int ((Builtin.Int.intBits P : Int) - 1)) (b := .bool (((Builtin.Int.intBits (P + 1) : Int) - 1) == (q : Int))) F5 N5 (N5.get (.head _)) rfl rfl (fun _ => .int _ _) (fun _ => .bool _) (int_short (by omega) (by omega)).1 rfl rfl rfl (int_short (by omega) (by omega)).2 rfl rfl rfl (by simp [PyData.depth]) (by simp [PyData.depth]) rfl (by k_units) fun h6 u6 tk6 F6 N6 => ?_
    iterate 6 (first | (k_unfold; (try dsimp only)) | (k_end; wrow_close) | walk1 | (dsimp only; walk1) | (leave1; walk_say "STEP leave1"; try dsimp only) | fail "no step")
    refine mid (s := s) (P := fun v => ∃ t, v = .int (lastI M ((1 + i) * q) q) t) F6 N6 ?_ ?_
    · iterate 6 (first | (k_unfold; (try dsimp only)) | (k_end; wrow_close) | walk1 | (dsimp only; walk1) | (leave1; walk_say "STEP leave1"; try dsimp only) | fail "no step")
      rename Fr h₀ _ _ _ => F7
      rename News h₀ _ _ _ => N7
      refine ne_ints (ws := []) ⟨_, N7.get (.tail _ (.tail _ (.head _))), rfl, _, rfl⟩ ⟨_, N7.get (.head _), rfl, _, rfl⟩ hov .nil (by k_units) ?_
      iterate 1 (first | (k_unfold; (try dsimp only)) | (k_end; wrow_close) | walk1 | (dsimp only; walk1) | (leave1; walk_say "STEP leave1"; try dsimp only) | fail "no step")
      refine ite_cases (fun c => ?_) (fun c => ?_)
      · have c' : onesL M ((1 + i) * q) q ≠ [] := by simpa using c
        have cl : 0 < (onesL M ((1 + i) * q) q).length := List.length_pos_iff.mpr c'
        iterate 5 (first | (k_unfold; (try dsimp only)) | (k_end; wrow_close) | walk1 | (dsimp only; walk1) | (leave1; walk_say "STEP leave1"; try dsimp only) | fail "no step")
        refine item_list_ints_negR ⟨_, N7.get (.tail _ (.tail _ (.head _))), rfl, _, rfl⟩ hov (by decide) (by omega) (by decide) fun t8 => ?_
        refine ⟨_, _, ⟨t8, ?_⟩, rfl, F7, fun p hp => N7 p (.tail _ hp)⟩
        rw [lastI_pos c']
      · have c' : onesL M ((1 + i) * q) q = [] := by simpa using c
        iterate 3 (first | (k_unfold; (try dsimp only)) | (k_end; wrow_close) | walk1 | (dsimp only; walk1) | (leave1; walk_say "STEP leave1"; try dsimp only) | fail "no step")
        rw [show lastI M ((1 + i) * q) q = -1 by rw [lastI, if_pos c']]
        exact ⟨_, _, ⟨_, rfl⟩, rfl, F7, fun p hp => N7 p (.tail _ hp)⟩
    · rintro v h7 tk7 ⟨t7, rfl⟩ F7 N7
      clear F6 N6
      iterate 5 (first | (k_unfold; (try dsimp only)) | (k_end; wrow_close) | walk1 | (dsimp only; walk1) | (leave1; walk_say "STEP leave1"; try dsimp only) | fail "no step")
      obtain ⟨t8, ht8⟩ := htl.get (i + 1) _ (get_bits (by rw [dueL_len]; omega))
      refine item_at (vs := tl) ⟨_, N7.get (.tail _ (.tail _ (.tail _ (.tail _ (.head _))))), rfl, _, rfl⟩ (by omega) (by omega) (by rw [show ((1 : Int) + (i : Int)).toNat = i + 1 by omega]; exact ht8) ?_
      iterate 5 (first | (k_unfold; (try dsimp only)) | (k_end; wrow_close) | walk1 | (dsimp only; walk1) | (leave1; walk_say "STEP leave1"; try dsimp only) | fail "no step")
      rename Fr h₀ _ _ _ => F9
      rename News h₀ _ _ _ => N9
      have hlast := lastI_b M z3 
      refine str_pair (a := .int (lastI M ((1 + i) * q) q)) (b := .bool ((dueL M).getD (i + 1) 0 == 1)) F9 N9 (N9.get (.head _)) rfl rfl (fun _ => .int _ _) (fun _ => .bool _) (int_short (by omega) (by omega)).1 rfl rfl rfl (int_short (by omega) (by omega)).2 rfl rfl rfl (by simp [PyData.depth]) (by simp [PyData.depth]) rfl (by k_units) fun h10 u10 tk10 F10 N10 => ?_
      iterate 2 (first | (k_unfold; (try dsimp only)) | (k_end; wrow_close) | walk1 | (dsimp only; walk1) | (leave1; walk_say "STEP leave1"; try dsimp only) | fail "no step")
      rw [law_last hM0 hM1 hi hz z0 z1 z2 z3 hP, law_all hM0 hM1 hi hz z0 z1 z2 z3 hP]
      refine ite_cases (fun hx => absurd hx (by simp)) fun _ => ?_
      iterate 1 (first | (k_unfold; (try dsimp only)) | (k_end; wrow_close) | walk1 | (dsimp only; walk1) | (leave1; walk_say "STEP leave1"; try dsimp only) | fail "no step")
      exact k' _ _ _ _ _ _ F10 (fun p hp => N10 p (.tail _ (.tail _ hp))) hov
end Mine

namespace Mine
open PySem PySem.W PySem.Spec PyProof.Rows PyProof.Rows.LCg
theorem onesL_len (M : Int) (a q : Nat) : (onesL M a q).length ≤ q := by
  refine Nat.le_trans (List.length_filter_le _ _) ?_
  rw [rangeInts_length]; exact Nat.le_refl _
theorem law_one {M P : Int} {i q : Nat} (hM0 : 0 ≤ M) (hM1 : M < 65536) (hi : i < 31) (hz : szI (1 + (i : Int)) = q) (z0 : 1 ≤ q) (z1 : q ≤ 16) (z2 : 16 ≤ (1 + i) * q) (z3 : (1 + i) * q + q ≤ 32) (hP : M / 2 ^ ((1 + i) * q - 16) % 2 ^ q = P) :
    sbit P = (((onesL M ((1 + i) * q) q).length : Int) == 1) := law_one' hM0 z2 z3 hP
theorem law_sorted {M P : Int} {i q : Nat} (hM0 : 0 ≤ M) (hM1 : M < 65536) (hi : i < 31) (hz : szI (1 + (i : Int)) = q) (z0 : 1 ≤ q) (z1 : q ≤ 16) (z2 : 16 ≤ (1 + i) * q) (z3 : (1 + i) * q + q ≤ 32) (hP : M / 2 ^ ((1 + i) * q - 16) % 2 ^ q = P)
    {sn : List Int} (hp : sn.Perm (bitsL M ((1 + i) * q) q)) (hw : sn.Pairwise (· ≤ ·)) :
    sbit (P + 1) = decide (bitsL M ((1 + i) * q) q = sn.reverse) := law_sorted' hM0 z2 z3 hP hp hw
theorem fr_over {h₀ h : Heap} {L : Addr} {m' r : Str → Option Value} (F : Fr h₀ L h m') (he : ∀ y, stE.contains y = false → m' y = r y) : Fr h₀ L h (fun y => if stE.contains y = true then m' y else r y) := by
  rw [← over_self he]; exact F
theorem turnC {w : World} {s : Shared} {base h₀ : Heap} {L fa : Addr} {cd : Value} {m u mg mb : Str → Option Value} {mean : ExcName → Option Value} {E : Value → Shared → Prop} {Q : Flow → Shared → Prop} {o8 : Obj} {own : List (Addr × Obj)}
    {M : Int} {shD : Addr} {tD aD lD pD oD : Addr} {tl lv ov : List Value} {tn ok : Nat} {tM tp tz ti : Tok} {D₀ : Str} {u₀ : Tok} {i : Nat} {q : Nat} {P : Int}
    (B : Below callerA base [] h₀) (F : Fr h₀ L s.heap (mT m u D₀ u₀ aD tD shD M tM pD oD P tp q tz i ti)) (X : (hd.heap_39 w.params).In h₀) (T : Top hd.view_39 (looseW hd.view_39 []) mean mg mb h₀)
    (N : News h₀ L s.heap ((oD, listOf ov.toArray ok) :: (lD, listOf lv.toArray 0) :: (L + 1 + 1 + 1 + 1, o8) :: (tD, listOf tl.toArray tn) :: own))
    (d8 : o8.data = .cell (some (.ref lD))) (hlv : IntsAre lv (bitsL M ((1 + i) * q) q)) (hov : IntsAre ov (onesL M ((1 + i) * q) q)) (hM0 : 0 ≤ M) (hM1 : M < 65536) (hi : i < 31)
    (hz : szI (1 + (i : Int)) = q) (z0 : 1 ≤ q) (z1 : q ≤ 16) (z2 : 16 ≤ (1 + i) * q) (z3 : (1 + i) * q + q ≤ 32)
    (hP : M / 2 ^ ((1 + i) * q - 16) % 2 ^ q = P)
    (k : ∀ (h' : Heap) (tk : Nat) (m' : Str → Option Value), Fr h₀ L h' (fun y => if stE.contains y = true then m' y else mD m D₀ u₀ aD tD shD M tM y) → News h₀ L h' ((L + 1 + 1 + 1 + 1, o8) :: (tD, listOf tl.toArray tn) :: own) → Q .next { s with heap := h', toks := tk }) :
    wpAny (model PySem.Challenge.rw_nb0074_01.row.toRowW.prog w) (callerA.deeper (lawEnv L fa cd)) (execs (loopB.drop 6) (lawEnv L fa cd)) Q E s := by
  revert X; k_fill; intro X
  have k' := k
  clear k
  unfold lawEnv
  conv in (occs := *) loopB.drop 6 => all_goals whnf
  conv in (occs := *) lawDef.2 => all_goals whnf
  iterate 10 (first | (k_unfold; (try dsimp only)) | (k_end; wrow_close) | walk1 | (dsimp only; walk1) | (leave1; walk_say "STEP leave1"; try dsimp only) | fail "no step")
  refine ⟨fun a o e => F.keep _ _ (X a o e), ?_⟩
  refine single_call B F X T rfl rfl fun h3 tk3 hx3 => ?_
  have F3 := F.keeps hx3
  have N3 := N.grown hx3
  clear F N
  iterate 10 (first | (k_unfold; (try dsimp only)) | (k_end; wrow_close) | walk1 | (dsimp only; walk1) | (leave1; walk_say "STEP leave1"; try dsimp only) | fail "no step")
  refine ⟨fun a o e => F3.keep _ _ (X a o e), ?_⟩
  refine single_call B F3 X T rfl rfl fun h4 tk4 hx4 => ?_
  have F4 := F3.keeps hx4
  have N4 := N3.grown hx4
  clear F3 N3
  iterate 13 (first | (k_unfold; (try dsimp only)) | (k_end; wrow_close) | walk1 | (dsimp only; walk1) | (leave1; walk_say "STEP leave1"; try dsimp only) | fail "no step")
  rename Fr h₀ _ _ _ => F5
  rename News h₀ _ _ _ => N5
  refine str_pair (a := .bool (sbit P)) (b := .bool (sbit (P + 1))) F5 N5 (N5.get (.head _)) rfl rfl (fun _ => .bool _) (fun _ => .bool _) rfl rfl rfl rfl rfl rfl rfl rfl (by simp [PyData.depth]) (by simp [PyData.depth]) rfl (by k_units) fun h6 u6 tk6 F6 N6 => ?_
  iterate 13 (first | (k_unfold; (try dsimp only)) | (k_end; wrow_close) | walk1 | (dsimp only; walk1) | (leave1; walk_say "STEP leave1"; try dsimp only) | fail "no step")
  have hol := onesL_len M ((1 + i) * q) q
  refine len_list (items := ov.toArray) ⟨_, N6.get (.tail _ (.head _)), rfl, _, rfl⟩ ?_ ?_
  · rw [List.size_toArray, hov.length]; omega
  rw [List.size_toArray, hov.length]
  iterate 12 (first | (k_unfold; (try dsimp only)) | (k_end; wrow_close) | walk1 | (dsimp only; walk1) | (leave1; walk_say "STEP leave1"; try dsimp only) | fail "no step")
  have hlen := hlv.length
  rw [bitsL_len M z3] at hlen
  refine sorted_N F6 N6 ⟨_, N6.get (.tail _ (.tail _ (.head _))), rfl, _, rfl⟩ hlv (by omega) fun h7 sv sn se F7 N7 hsn hperm hpw => ?_
  iterate 7 (first | (k_unfold; (try dsimp only)) | (k_end; wrow_close) | walk1 | (dsimp only; walk1) | (leave1; walk_say "STEP leave1"; try dsimp only) | fail "no step")
  refine kba_turn (value' := .Name (Str.ofString "leaves") default) (fun _ => rfl) ?_
  with_unfolding_all refine' krv_ints F7 N7 ⟨_, N7.get (.head _), rfl, _, rfl⟩ (.int _ _) hsn ?kk ?ks ?kt ?kz
  case ks => with_unfolding_all rfl
  case kt => intro _; with_unfolding_all rfl
  case kz =>
    rw [List.size_toArray, hsn.length, hperm.length_eq, bitsL_len M z3, sizeLine_eq]; omega
  intro rD rv h8 F8 N8 l8 hrv _
  refine eq_ints ⟨_, N8.get (.tail _ (.tail _ (.tail _ (.tail _ (.head _))))), rfl, _, rfl⟩ ⟨_, N8.get (.head _), rfl, _, rfl⟩ hlv hrv (by k_units) ?_
  iterate 3 (first | (k_unfold; (try dsimp only)) | (k_end; wrow_close) | walk1 | (dsimp only; walk1) | (leave1; walk_say "STEP leave1"; try dsimp only) | fail "no step")
  rename Fr h₀ _ _ _ => F9
  rename News h₀ _ _ _ => N9
  refine str_pair (a := .bool (((onesL M ((1 + i) * q) q).length : Int) == 1)) (b := .bool (decide (bitsL M ((1 + i) * q) q = sn.reverse))) F9 N9 (N9.get (.head _)) rfl rfl (fun _ => .bool _) (fun _ => .bool _) rfl rfl rfl rfl rfl rfl rfl rfl (by simp [PyData.depth]) (by simp [PyData.depth]) rfl (by k_units) fun h10 u10 tk10 F10 N10 => ?_
  iterate 2 (first | (k_unfold; (try dsimp only)) | (k_end; wrow_close) | walk1 | (dsimp only; walk1) | (leave1; walk_say "STEP leave1"; try dsimp only) | fail "no step")
  rw [law_one hM0 hM1 hi hz z0 z1 z2 z3 hP, law_sorted hM0 hM1 hi hz z0 z1 z2 z3 hP hperm hpw]
  refine ite_cases (fun hx => absurd hx (by simp)) fun _ => ?_
  iterate 2 (first | (k_unfold; (try dsimp only)) | (k_end; wrow_close) | walk1 | (dsimp only; walk1) | (leave1; walk_say "STEP leave1"; try dsimp only) | fail "no step")
  refine k' _ _ _ (fr_over F10 ?_) (fun p hp => N10 p (.tail _ (.tail _ (.tail _ (.tail _ (.tail _ (.tail _ hp)))))))
  intro y hy
  have e1 := ne_of_contains (z := Str.ofString "singles") hy (by decide)
  have e2 := ne_of_contains (z := Str.ofString "places") hy (by decide)
  have e3 := ne_of_contains (z := Str.ofString "ones") hy (by decide)
  have e4 := ne_of_contains (z := Str.ofString "piece") hy (by decide)
  have e5 := ne_of_contains (z := Str.ofString "size") hy (by decide)
  have e6 := ne_of_contains (z := Str.ofString "n") hy (by decide)
  simp only [mT, if_neg e1, if_neg e2, if_neg e3, if_neg e4, if_neg e5, if_neg e6, hy, Bool.false_eq_true, if_false]
end Mine

namespace Mine
open PySem PySem.W PySem.Spec PyProof.Rows PyProof.Rows.LCg
theorem stageE {w : World} {s : Shared} {base h₀ : Heap} {L fa : Addr} {cd : Value} {m mg mb : Str → Option Value} {mean : ExcName → Option Value} {E : Value → Shared → Prop} {Q : Flow → Shared → Prop} {o4 : Obj} {q4 : Option Value}
    {M : Int} {shD : Addr} {tD aD : Addr} {tl : List Value} {tn : Nat} {tM : Tok} {D₀ : Str} {u₀ : Tok}
    (B : Below callerA base [] h₀) (F : Fr h₀ L s.heap (mD m D₀ u₀ aD tD shD M tM)) (X : (hd.heap_39 w.params).In h₀) (T : Top hd.view_39 (looseW hd.view_39 []) mean mg mb h₀)
    (N : News h₀ L s.heap [(L + 1 + 1 + 1 + 1, o4), (tD, listOf tl.toArray tn)])
    (h4 : o4.data = .cell q4) (htl : IntsAre tl (dueL M)) (hne : @Ne Nat (L + 1 + 1 + 1 + 1) tD) (hM0 : 0 ≤ M) (hM1 : M < 65536)
    (hE : PassesOwn (model PySem.Challenge.rw_nb0074_01.row.toRowW.prog w) (callerA.deeper (lawEnv L fa cd)) (lawEnv L fa cd) E)
    (k : ∀ h' tk, (∀ b o, h₀.get? b = some o → h'.get? b = some o) → Q (.ret (.bool true)) { s with heap := h', toks := tk }) :
    wpAny (model PySem.Challenge.rw_nb0074_01.row.toRowW.prog w) (callerA.deeper (lawEnv L fa cd)) (execs (lawDef.1.drop 10) (lawEnv L fa cd)) Q E s := by
  revert X; k_fill; intro X
  have k' := k
  clear k
  unfold lawEnv
  conv in (occs := *) lawDef.1.drop 10 => all_goals whnf
  conv in (occs := *) lawDef.2 => all_goals whnf
  iterate 1 (first | (k_unfold; (try dsimp only)) | (k_end; wrow_close) | walk1 | (dsimp only; walk1) | (leave1; walk_say "STEP leave1"; try dsimp only) | fail "no step")
  refine' For_invV h₀ ?a ?b ?_ ?d ?e
  case a => with_unfolding_all rfl
  case b => with_unfolding_all rfl
  case d => intro _; with_unfolding_all rfl
  case e => exact hE
  iterate 9 (first | (k_unfold; (try dsimp only)) | (k_end; wrow_close) | walk1 | (dsimp only; walk1) | (leave1; walk_say "STEP leave1"; try dsimp only) | fail "no step")
  rename News _ _ _ _ => N1
  rename Fr _ _ _ _ => F1
  rename IsRange _ _ _ _ _ _ _ _ => R1
  refine iter_rangeJ (n := 31) (fun m₀ _ i m₁ nx => (∃ u : Str → Option Value, m₁ = fun z => if stE.contains z = true then u z else mD m D₀ u₀ aD tD shD M tM z) ∧ ∃ o q, nx = [(L + 1 + 1 + 1 + 1, o), (tD, listOf tl.toArray tn)] ∧ o.data = .cell q) rfl R1 (by decide) (by decide) F1 N1 ?_ ?_ ?_
  · exact ⟨⟨_, over_self fun _ _ => rfl⟩, _, _, rfl, h4⟩
  · rintro i t m₁ nx hp tk own hi hadr hoff ⟨⟨u, rfl⟩, o, q, rfl, hq⟩ F2 N2
    dsimp only [List.cons_append, List.nil_append] at N2
    iterate 10 (first | (k_unfold; (try dsimp only)) | (k_end; wrow_close) | walk1 | (dsimp only; walk1) | (leave1; walk_say "STEP leave1"; try dsimp only) | fail "no step")
    refine ⟨fun a o e => F2.keep _ _ (X a o e), ?_⟩
    refine highbit_call B F2 X T rfl rfl fun h5 tk5 t5 hx5 => ?_
    have hb := bits_pos (a := 1 + (i : Int)) (by omega)
    have F5 := F2.keeps hx5
    have N5 := N2.grown hx5
    clear F2 N2
    obtain ⟨z0, z1, z2, z3⟩ := sz_facts i hi
    have ez : Int.fdiv 16 (2 ^ (((Builtin.Int.intBits (1 + (i : Int)) : Nat) : Int) - 1).toNat) = szI (1 + (i : Int)) := by
      rw [fdp, show (((Builtin.Int.intBits (1 + (i : Int)) : Nat) : Int) - 1).toNat = Builtin.Int.intBits (1 + (i : Int)) - 1 by omega]; rfl
    iterate 1 (first | (k_unfold; (try dsimp only)) | (k_end; wrow_close) | walk1 | (dsimp only; walk1) | (leave1; walk_say "STEP leave1"; try dsimp only) | fail "no step")
    rw [ez]
    generalize hz : szI (1 + (i : Int)) = z at z0 z1 z2 z3 ⊢
    clear ez
    iterate 21 (first | (k_unfold; (try dsimp only)) | (k_end; wrow_close) | walk1 | (dsimp only; walk1) | (leave1; walk_say "STEP leave1"; try dsimp only) | fail "no step")
    rename Fr h₀ _ _ _ => F6
    rename News h₀ _ _ _ => N6
    rename Heap => h6
    have hsz : tl.toArray.size ≤ sizeLine := by rw [List.size_toArray, htl.length, dueL_len, sizeLine_eq]; decide
    with_unfolding_all refine slice_list (items := tl.toArray) (lo := some ((1 + (i : Int)) * z)) (hi := some ((1 + (i : Int)) * z + z)) F6 N6 ⟨_, N6.get (.tail _ (.head _)), rfl, _, rfl⟩ (.int _ _) (.int _ _) (fun h7 F7 N7 => ?_) (hsz := hsz)
    have hlv := slice_ints htl (x := (1 + (i : Int)) * z) (y := (1 + (i : Int)) * z + z) (by omega) (by omega) (by rw [dueL_len]; omega)
    generalize hpk : slicePick tl.toArray (some ((1 + (i : Int)) * z)) (some ((1 + (i : Int)) * z + z)) none = pk at N7 hlv
    obtain ⟨lv⟩ := pk
    clear hpk hx5 F5 N5
    have hlt : @LT.lt Nat _ (L + 1 + 1 + 1 + 1) h6.objs.size := Heap.lt_size (N6 _ (.head _)).1
    have hlt2 : @LT.lt Nat _ tD h6.objs.size := Heap.lt_size (N6 _ (.tail _ (.head _))).1
    have hown : ∀ p ∈ own, @Ne Nat p.1 (L + 1 + 1 + 1 + 1) := fun p hp => hoff p hp _ (by simp)
    have hown2 : ∀ p ∈ own, @LT.lt Nat _ p.1 h6.objs.size := fun p hp => Heap.lt_size (N6 _ (.tail _ (.tail _ hp))).1
    generalize hlD : h6.objs.size + 1 = lD at N7 ⊢
    clear F6 N6
    refine' storeX_C F7 N7 ?qc (UpdF.tail ?ne (UpdF.head ?al)) hq ?_ ?qa ?qb
    case qa => rfl
    case qb => rfl
    case qc => rfl
    case ne => subst hlD; show @Ne Nat _ _; dsimp only; omega
    case al =>
      intro p hp
      rcases List.mem_cons.mp hp with rfl | hp
      · show @Ne Nat tD _; omega
      · exact hown p hp
    clear F7 N7
    intro h8 o8 F8 N8 d8
    iterate 21 (first | (k_unfold; (try dsimp only)) | (k_end; wrow_close) | walk1 | (dsimp only; walk1) | (leave1; walk_say "STEP leave1"; try dsimp only) | fail "no step")
    rw [fdp, fmp]
    obtain ⟨qn, rfl⟩ : ∃ qn : Nat, z = (qn : Int) := ⟨z.toNat, by omega⟩
    have y0 : 1 ≤ qn := by omega
    have y1 : qn ≤ 16 := by omega
    have y2 : 16 ≤ (1 + i) * qn := by exact_mod_cast z2
    have y3 : (1 + i) * qn + qn ≤ 32 := by exact_mod_cast z3
    have e1 : ((1 + (i : Int)) * (qn : Int) - 16).toNat = (1 + i) * qn - 16 := by
      have : ((1 + (i : Int)) * (qn : Int)) = (((1 + i) * qn : Nat) : Int) := by simp
      rw [this]; omega
    have e2 : ((1 + (i : Int)) * (qn : Int)).toNat = (1 + i) * qn := by
      have : ((1 + (i : Int)) * (qn : Int)) = (((1 + i) * qn : Nat) : Int) := by simp
      rw [this]; omega
    have hlv2 : IntsAre lv (bitsL M ((1 + i) * qn) qn) := by
      have e3 : ((1 + (i : Int)) * (qn : Int) + (qn : Int) - (1 + (i : Int)) * (qn : Int)).toNat = qn := by omega
      rw [e2, e3] at hlv
      exact hlv
    rw [e1, Int.toNat_natCast]
    generalize hP : M / 2 ^ ((1 + i) * qn - 16) % 2 ^ qn = P
    iterate 1 (first | (k_unfold; (try dsimp only)) | (k_end; wrow_close) | walk1 | (dsimp only; walk1) | (leave1; walk_say "STEP leave1"; try dsimp only) | fail "no step")
    rename Fr h₀ _ _ _ => F9
    rename News h₀ _ _ _ => N9
    refine turnB B F9 X T N9 d8 htl hlv2 hM0 hM1 hi hz y0 y1 y2 y3 hP fun h10 tk10 pD oD ov ok F10 N10 hov => ?_
    refine turnC B F10 X T N10 d8 hlv2 hov hM0 hM1 hi hz y0 y1 y2 y3 hP fun h11 tk11 m11 F11 N11 => ?_
    exact ⟨h11, tk11, _, _, [(L + 1 + 1 + 1 + 1, o8), (tD, listOf tl.toArray tn)], rfl, F11, N11, fun p hp => List.mem_append_left own hp, fun p hp => .tail _ (.tail _ hp), rfl, ⟨m11, rfl⟩, o8, _, rfl, d8⟩
  · rintro m₁ nx hp tk _ ⟨⟨u, rfl⟩, o, q, rfl, hq⟩ F2 N2
    iterate 3 (first | (k_unfold; (try dsimp only)) | (k_end; wrow_close) | walk1 | (dsimp only; walk1) | (leave1; walk_say "STEP leave1"; try dsimp only) | fail "no step")
    exact k' _ _ F2.keep
end Mine

namespace Mine
open PySem PySem.W PySem.Spec PyProof.Rows PyProof.Rows.LCg
theorem told_due (M : Int) (h0 : 0 ≤ M) (h1 : M < 65536) : 0 :: tvs M 31 = dueL M := told_due' M
theorem lawWalk {w : World} {s : Shared} {base h₀ : Heap} {L fa : Addr} {cd : Value} {m mg mb : Str → Option Value} {mean : ExcName → Option Value} {E : Value → Shared → Prop} {Q : Flow → Shared → Prop} {o1 o2 o3 o4 : Obj} {sc : Addr} {vs : List Value} {ns : List Int}
    (B : Below callerA base [] h₀) (F : Fr h₀ L s.heap m) (X : (hd.heap_39 w.params).In h₀) (T : Top hd.view_39 (looseW hd.view_39 []) mean mg mb h₀)
    (N : News h₀ L s.heap [(L + 1 + 1 + 1 + 1, o4), (L + 1 + 1 + 1, o3), (L + 1 + 1, o2), (L + 1, o1)]) (hm : m (Str.ofString "script") = some (.ref sc)) (hl : h₀.IsList sc vs.toArray) (hi : IntsAre vs ns) (hns : ns.length ≤ 63)
    (h1 : o1.data = .cell none) (h2 : o2.data = .cell none) (h3 : o3.data = .cell none) (h4 : o4.data = .cell none)
    (hE : PassesOwn (model PySem.Challenge.rw_nb0074_01.row.toRowW.prog w) (callerA.deeper (lawEnv L fa cd)) (lawEnv L fa cd) E)
    (k : ∀ s', s'.gens = s.gens → s'.os = s.os → (∀ b o, h₀.get? b = some o → s'.heap.get? b = some o) → Q (.ret (.bool true)) s') :
    wpAny (model PySem.Challenge.rw_nb0074_01.row.toRowW.prog w) (callerA.deeper (lawEnv L fa cd)) (execs lawDef.1 (lawEnv L fa cd)) Q E s := by
  refine stageA B F X T N hm hl hi hns h1 h2 h3 h4 fun M tM mD mv mk wD wk shD shv shk xv x dx sa la da so od t1 t2 t3 c1 c2 c3 hA tkA FA NA GA igA => ?_
  refine stageB B FA X T NA GA igA fun tD tl tn od' sB gB oB FB NB neB tlB igB => ?_
  refine stageC B FB X T NB GA igB fun aD al ak sC gC oC FC NC neC alC => ?_
  rw [told_due M GA.m0 GA.m1] at tlB alC
  have neT : @Ne Nat (L + 1 + 1 + 1 + 1) tD := neB (L + 1 + 1 + 1 + 1, o4) (by simp [ledB, ledR])
  have NC' : News h₀ L sC.heap [(aD, listOf al.toArray ak), (tD, listOf tl.toArray tn), (shD, listOf shv.toArray shk), (wD, listOf ((whL M).map Value.bool).toArray wk), (L + 1 + 1 + 1 + 1, o4), (L + 1 + 1, c2)] := fun p hp => NC p (by
    simp only [List.mem_cons, List.not_mem_nil, or_false] at hp
    rcases hp with rfl | rfl | rfl | rfl | rfl | rfl <;> simp [ledB, ledR])
  refine stageD B FC X T NC' GA.c2 tlB alC fun D u hD tkD FD ND => ?_
  refine stageD2 B FD X T ND GA.c2 tlB alC GA.shut fun hG tkG FG NG => ?_
  have NG' : News h₀ L hG [(L + 1 + 1 + 1 + 1, o4), (tD, listOf tl.toArray tn)] := fun p hp => NG p (by
    simp only [List.mem_cons, List.not_mem_nil, or_false] at hp
    rcases hp with rfl | rfl <;> simp)
  exact stageE B FG X T NG' h4 tlB neT GA.m0 GA.m1 hE fun hZ tkZ kp => k _ (gC.trans gB) (oC.trans oB) kp
end Mine

namespace Mine
open PySem PySem.W PySem.Spec PyProof.Rows PyProof.Rows.LCg
theorem t : PySem.Challenge.rw_nb0074_01.Holds := hd (by
  w_strict (
    k_go0
    all_goals try k_fold
    rename Below _ _ _ _ => K0
    rename Fr _ _ _ _ => F
    rename News _ _ _ _ => N0
    rename Top _ _ _ _ _ _ => T
    rename Frag.In _ _ => KX
    rename Heap.IsList _ _ _ => hL
    rename IntsAre _ _ => hI
    refine lawWalk K0 F KX T N0 ?zm hL hI ?zn ?zc1 ?zc2 ?zc3 ?zc4 ?zE ?zk
    case zm => rfl
    case zn => omega
    case zc1 => assumption
    case zc2 => assumption
    case zc3 => assumption
    case zc4 => assumption
    case zE => passes_own
    case zk =>
      intro s' g1 g2 g3
      k_unfold
      try dsimp only
      refine ⟨.inl ⟨.bool true, .bool true, [], rfl, ?zr, .bool _, ?zp, ?zu⟩, g3, g2, g1.trans (by assumption)⟩
      case zr => intro _; with_unfolding_all rfl
      case zp => with_unfolding_all rfl
      case zu => intro _; exact ⟨List.nodup_nil, fun a ha => by cases ha⟩))
end Mine

theorem PySem.Challenge.cw_nb0074_01_holds : PySem.Challenge.rw_nb0074_01.Holds :=
  Mine.t
