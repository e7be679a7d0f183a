import PyProof.Rows.All
import Wide.All
import OpenK.AllK
import Wide.FinOn
import PySem.Challenge.RW_et5022_01
open PySem PySem.W PySem.Calls PyProof.Rows
set_option Elab.async false
set_option maxRecDepth 100000
namespace Mine
set_option maxRecDepth 100000 in
set_option maxHeartbeats 8000000 in
open_top hd for PySem.Challenge.rw_et5022_01
end Mine
namespace Mine
example : (fun (_ : OpenLaw) (_ : Params → Frag) => True) PySem.Challenge.rw_et5022_01 Mine.hd.heap_39 := by
  k_fill
  trivial
noncomputable abbrev lz : List Str := looseW Mine.hd.view_39 [Str.ofString "tokenize"]
local macro_rules | `(tactic| k_all) => `(tactic| assumption)
theorem fm0 (x : Int) {m : Int} (h : 0 < m) : 0 ≤ x.fmod m := Int.fmod_nonneg_of_pos x h
theorem fm1 (x : Int) {m : Int} (h : 0 < m) : x.fmod m < m := Int.fmod_lt_of_pos x h
/-- what a call of a def of the text wants of the place where it stands -/
structure At (w : World) (A₀ : Around) (env : Env) (L : Addr) (base h₀ : Heap) (outer : List Env) (m mg mb : Str → Option Value) (mean : ExcName → Option Value) (h : Heap) (news : List (Addr × Obj)) : Prop where
  B : Below A₀ base outer h₀
  F : Fr h₀ L h m
  X : (Mine.hd.heap_39 w.params).In h₀
  N : News h₀ L h news
  T : Top Mine.hd.view_39 lz mean mg mb h₀
  hf : env.frame = some L
  hke : env.scope.kind = .function
  hd : A₀.depth < 900

set_option maxHeartbeats 8000000 in
theorem next_call {prog : Program} {w : World} {A₀ : Around} {E : Value → Shared → Prop} {s : Shared} {base h₀ : Heap} {outer : List Env} {env : Env} {L S X₁ : Addr} {m mg mb : Str → Option Value}
    {mean : ExcName → Option Value} {rest : List (Addr × Obj)} {vs : List Value} {ns : List Int} {i st many : Int} {t1 t2 tm : Tok} {n : Nat} {Q : Value → Shared → Prop}
    (C : At w A₀ env L base h₀ outer m mg mb mean s.heap ((S, listOf #[.ref X₁, .int i t1, .int st t2] n) :: (X₁, listOf vs.toArray 0) :: rest))
    (hi : IntsAre vs ns) (hi0 : 0 ≤ i) (hi1 : i ≤ (ns.length : Int)) (hl : ns.length ≤ 60) (hs0 : 0 ≤ st) (hs1 : st < 2147483647) (hm : 0 < many) (hm' : many < 100)
    (hS : ∀ p ∈ rest, p.1 ≠ S) (hSX : X₁ ≠ S)
    (h : ∀ r i' st' tr t1' t2' n' h' tk, 0 ≤ r → r < many → 0 ≤ i' → i' ≤ (ns.length : Int) → 0 ≤ st' → st' < 2147483647 → Fr h₀ L h' m →
       News h₀ L h' ((S, listOf #[.ref X₁, .int i' t1', .int st' t2'] n') :: (X₁, listOf vs.toArray 0) :: rest) → Q (.int r tr) {s with heap := h', toks := tk}) :
    wpAny (model prog w) (A₀.deeper env) (call (.ref 58) [.ref S, .int many tm]) Q E s := by
  obtain ⟨B, F, X, N, T, hf, hke, hd⟩ := C
  have hr : (A₀.deeper env).depth < recursionLimit := by
    have e : recursionLimit = 1000 := rfl
    have e2 : (A₀.deeper env).depth = A₀.depth + 1 := rfl
    omega
  refine wpAny_call ?_
  k_dflt (refine' code_def B F X N T (Around.frames_deeper B.stack) hf hke ?k6 ?k7 hr ?k9 ?kB ?_ ?c2 ?c3 ?c4 ?c5)
  case k6 => k_dflt k_is
  case k7 => k_dflt k_is
  case k9 => exact BindsTo.of_eq rfl
  case kB => exact locs rfl
  case c2 => rfl
  case c3 => rfl
  case c4 => rfl
  case c5 => decide
  intro g' L' h' FG' F' N' B' X' T'
  dsimp only
  refine wpAny_noRaise ?_
  have hnn := IntsAre.length hi
  (try k_fold)
  k_steps
  · refine' h _ _ _ _ _ _ _ _ _ (fm0 _ hm) (fm1 _ hm) ?c1 ?c2 ?c3 ?c4 ?F' ?N'
    case N' => assumption
    case F' => assumption
    case c1 => omega
    case c2 => omega
    case c3 => exact fm0 _ (by decide)
    case c4 => exact fm1 _ (by decide)
  · refine' h _ _ _ _ _ _ _ _ _ (fm0 _ hm) (fm1 _ hm) ?c1 ?c2 ?c3 ?c4 ?F' ?N'
    case N' => assumption
    case F' => assumption
    case c1 => omega
    case c2 => omega
    case c3 => exact fm0 _ (by decide)
    case c4 => exact fm1 _ (by decide)
end Mine
namespace Mine
example : (fun (_ : OpenLaw) (_ : Params → Frag) => True) PySem.Challenge.rw_et5022_01 Mine.hd.heap_39 := by
  k_fill
  trivial
def symb : List Str := [Str.ofString "(", Str.ofString ")", Str.ofString "[", Str.ofString "]", Str.ofString "{", Str.ofString "}", Str.ofString ",", Str.ofString ":", Str.ofString ".", Str.ofString ";", Str.ofString "@", Str.ofString "=", Str.ofString "%", Str.ofString "~", Str.ofString "..."]
def isB (k : Int) (x : Str) : Bool := (decide (k = 54) || (false || decide (x = Str.ofString "and") || decide (x = Str.ofString "or"))) && !(symb.any (· == x))
theorem isB1 {k : Int} {x : Str} (hk : k = 54) : (!(symb.any (fun y => y == x))) = isB k x := by
  unfold isB; rw [decide_eq_true hk, Bool.true_or, Bool.true_and]
theorem isB3 {k : Int} {x : Str} (hx : (false || decide (x = Str.ofString "and") || decide (x = Str.ofString "or")) = true) : (!(symb.any (fun y => y == x))) = isB k x := by
  unfold isB; rw [hx, Bool.or_true, Bool.true_and]
theorem isB4 {k : Int} {x : Str} (hk : k ≠ 54) (hx : (false || decide (x = Str.ofString "and") || decide (x = Str.ofString "or")) = false) : (false || decide (x = Str.ofString "and") || decide (x = Str.ofString "or")) = isB k x := by
  unfold isB; rw [hx, decide_eq_false hk, Bool.or_false, Bool.false_and]
local macro_rules | `(tactic| walk_at "compareOp NotIn str ref") => `(tactic| (k_here; (with_reducible show wpAny _ _ (compareOp CmpOp.NotIn (Value.str _ _) (Value.ref _)) _ _ _); k_dflt (refine' notin_tuple_strs (tupK ?k0 ?k1) ?k2 ?_; (case k0 => k_in); (case k1 => k_is); (case k2 => kde_strs); k_whole)))
set_option maxHeartbeats 8000000 in
theorem isbin_call {prog : Program} {w : World} {A₀ : Around} {E : Value → Shared → Prop} {s : Shared} {base h₀ : Heap} {outer : List Env} {env : Env} {L : Addr} {m mg mb : Str → Option Value}
    {mean : ExcName → Option Value} {news : List (Addr × Obj)} {k : Int} {x : Str} {t1 t2 : Tok} {Q : Value → Shared → Prop}
    (C : At w A₀ env L base h₀ outer m mg mb mean s.heap news)
    (h : ∀ h' tk, Fr h₀ L h' m → News h₀ L h' news → Q (.bool (isB k x)) {s with heap := h', toks := tk}) :
    wpAny (model prog w) (A₀.deeper env) (call (.ref 44) [.int k t1, .str x t2]) Q E s := by
  obtain ⟨B, F, X, N, T, hf, hke, hd⟩ := C
  have hr : (A₀.deeper env).depth < recursionLimit := by
    have e : recursionLimit = 1000 := rfl
    have e2 : (A₀.deeper env).depth = A₀.depth + 1 := rfl
    omega
  refine wpAny_call ?_
  k_dflt (refine' code_def B F X N T (Around.frames_deeper B.stack) hf hke ?k6 ?k7 hr ?k9 ?kB ?_ ?c2 ?c3 ?c4 ?c5)
  case k6 => k_dflt k_is
  case k7 => k_dflt k_is
  case k9 => exact BindsTo.of_eq rfl
  case kB => exact locs rfl
  case c2 => rfl
  case c3 => rfl
  case c4 => rfl
  case c5 => decide
  intro g' L' h' FG' F' N' B' X' T'
  dsimp only
  refine wpAny_noRaise ?_
  have hfin : ∀ {h' tk} b, b = isB k x → Fr h₀ L h' m → News h₀ L h' news → Q (.bool b) {s with heap := h', toks := tk} := fun b e F N => by
    subst e; exact h _ _ F N
  (try k_fold)
  k_steps
  · exact hfin _ (isB1 (by assumption)) (by assumption) (by assumption)
  · omega
  · exact hfin _ (isB3 (by assumption)) (by assumption) (News.tail' (by assumption))
  · exact hfin _ (isB4 (by assumption) (by assumption)) (by assumption) (News.tail' (by assumption))
end Mine
namespace Mine
example : (fun (_ : OpenLaw) (_ : Params → Frag) => True) PySem.Challenge.rw_et5022_01 Mine.hd.heap_39 := by
  k_fill
  trivial
/-- a row of the law's menu: kind, text, told binary, an end -/
structure Row where
  k : Int
  x : Str
  b : Bool
  e : Bool
def poolRows : List Row := [⟨1, Str.ofString "a", false, false⟩,
  ⟨1, Str.ofString "and", true, false⟩,
  ⟨1, Str.ofString "or", true, false⟩,
  ⟨1, Str.ofString "in", false, false⟩,
  ⟨1, Str.ofString "not", false, false⟩,
  ⟨2, Str.ofString "1", false, false⟩,
  ⟨3, Str.ofString "\"s\"", false, false⟩,
  ⟨3, Str.ofString "\"\"\"p\nq\"\"\"", false, false⟩,
  ⟨3, Str.ofString "and", true, false⟩,
  ⟨2, Str.ofString "or", true, false⟩,
  ⟨54, Str.ofString "+", true, false⟩,
  ⟨54, Str.ofString "-", true, false⟩,
  ⟨54, Str.ofString "*", true, false⟩,
  ⟨54, Str.ofString "**", true, false⟩,
  ⟨54, Str.ofString "/", true, false⟩,
  ⟨54, Str.ofString "//", true, false⟩,
  ⟨54, Str.ofString "==", true, false⟩,
  ⟨54, Str.ofString "<", true, false⟩,
  ⟨54, Str.ofString "->", true, false⟩,
  ⟨54, Str.ofString ":=", true, false⟩,
  ⟨54, Str.ofString "|", true, false⟩,
  ⟨54, Str.ofString ">>", true, false⟩,
  ⟨54, Str.ofString "!=", true, false⟩,
  ⟨54, Str.ofString "+=", true, false⟩,
  ⟨54, Str.ofString "=", false, false⟩,
  ⟨54, Str.ofString "%", false, false⟩,
  ⟨54, Str.ofString "@", false, false⟩,
  ⟨54, Str.ofString "~", false, false⟩,
  ⟨54, Str.ofString "...", false, false⟩,
  ⟨54, Str.ofString ".", false, false⟩,
  ⟨54, Str.ofString ",", false, false⟩,
  ⟨54, Str.ofString ";", false, false⟩,
  ⟨54, Str.ofString ":", false, false⟩,
  ⟨54, Str.ofString "(", false, false⟩,
  ⟨54, Str.ofString ")", false, false⟩,
  ⟨54, Str.ofString "[", false, false⟩,
  ⟨54, Str.ofString "]", false, false⟩,
  ⟨54, Str.ofString "{", false, false⟩,
  ⟨54, Str.ofString "}", false, false⟩,
  ⟨61, Str.ofString "# c", false, false⟩,
  ⟨61, Str.ofString "# c\n", false, false⟩,
  ⟨62, Str.ofString "\n", false, true⟩,
  ⟨4, Str.ofString "\n", false, true⟩,
  ⟨62, Str.ofString "\r\n", false, true⟩,
  ⟨62, Str.ofString "\n", false, true⟩,
  ⟨4, Str.ofString "", false, false⟩,
  ⟨5, Str.ofString "    ", false, false⟩,
  ⟨6, Str.ofString "", false, false⟩,
  ⟨0, Str.ofString "", false, false⟩,
  ⟨1, Str.ofString "p\rq", false, true⟩,
  ⟨2, Str.ofString "1\n", false, true⟩,
  ⟨54, Str.ofString "and", true, false⟩]
def rowD (r : Row) : Dat := .list [.int r.k, .str r.x, .bool r.b, .bool r.e]
inductive RowsE : List PySem.Expr → List Row → Prop
  | nil : RowsE [] []
  | cons {es : List PySem.Expr} {rs : List Row} {k : Int} {x : Str} {b e : Bool} {p1 p2 p3 p4 p : Pos} : RowsE es rs →
      RowsE (.List [.Constant (.int k) 0 p1, .Constant (.str x) 0 p2, .Constant (.bool b) 0 p3, .Constant (.bool e) 0 p4] p :: es) (⟨k, x, b, e⟩ :: rs)
section
variable {M : Model} {A : Around} {E : Value → Shared → Prop} {env : Env} {h₀ : Heap} {L : Addr} {m : Str → Option Value}
theorem rows_eval {pos : Pos} {es : List PySem.Expr} {rs : List Row} (hE : RowsE es rs) : ∀ {s : Shared} {news : List (Addr × Obj)} {Q : List Value → Shared → Prop}, Fr h₀ L s.heap m → News h₀ L s.heap news →
    (∀ vs h' tk objs, Fr h₀ L h' m → News h₀ L h' (objs ++ news) → (∀ p ∈ objs, ∀ q ∈ news, q.1 < p.1) → DatAll objs vs (rs.map rowD) → Q vs { s with heap := h', toks := tk }) →
    wpAny M A (spliced (backTo pos (starEach es env))) Q E s := by
  induction hE with
  | nil =>
    intro s news Q F N h
    exact wpAny_items_nil (h [] s.heap s.toks [] F N (fun _ h => nomatch h) .nil)
  | cons _ ih =>
    intro s news Q F N h
    refine wpAny_items_cons (List_ (wpAny_items_cons (wpAny_Constant_int (wpAny_items_cons (wpAny_Constant_str (wpAny_items_cons (wpAny_Constant_bool (wpAny_items_cons (wpAny_Constant_bool (wpAny_items_nil ?_)))))))))) rfl
    refine newList_K F N (fun l h' F' N' hl => ?_) (by size_fits)
    refine ih F' N' fun vs h'' tk objs F'' N'' hn hd => ?_
    refine h _ h'' tk (objs ++ [(l, _)]) F'' (by rw [List.append_assoc]; exact N'') (fun p hp q hq => ?_) ?_
    · rcases List.mem_append.mp hp with hp | hp
      · exact hn p hp q (.tail _ hq)
      · rw [List.mem_singleton.mp hp]; exact hl q hq
    · refine .cons (.list (List.mem_append.mpr (.inr (.head _))) ?_) (hd.mono fun p hp => List.mem_append.mpr (.inl hp))
      exact .cons (.int _ _) (.cons (.str _ _) (.cons (.bool _) (.cons (.bool _) .nil)))
end
set_option maxHeartbeats 4000000 in
theorem pool_call {prog : Program} {w : World} {A₀ : Around} {E : Value → Shared → Prop} {s : Shared} {base h₀ : Heap} {outer : List Env} {env : Env} {L : Addr} {m mg mb : Str → Option Value}
    {mean : ExcName → Option Value} {news : List (Addr × Obj)} {Q : Value → Shared → Prop}
    (C : At w A₀ env L base h₀ outer m mg mb mean s.heap news)
    (h : ∀ P vs objs h' tk, Fr h₀ L h' m → News h₀ L h' ((P, listOf (List.toArray vs) 0) :: (objs ++ news)) → (∀ p ∈ objs, ∀ q ∈ news, q.1 < p.1) → (∀ p ∈ objs ++ news, p.1 < P) →
      DatAll objs vs (poolRows.map rowD) → Q (.ref P) {s with heap := h', toks := tk}) :
    wpAny (model prog w) (A₀.deeper env) (call (.ref 65) []) Q E s := by
  obtain ⟨B, F, X, N, T, hf, hke, hd⟩ := C
  have hr : (A₀.deeper env).depth < recursionLimit := by
    have e : recursionLimit = 1000 := rfl
    have e2 : (A₀.deeper env).depth = A₀.depth + 1 := rfl
    omega
  refine wpAny_call ?_
  k_dflt (refine' code_def B F X N T (Around.frames_deeper B.stack) hf hke ?k6 ?k7 hr ?k9 ?kB ?_ ?c2 ?c3 ?c4 ?c5)
  case k6 => k_dflt k_is
  case k7 => k_dflt k_is
  case k9 => exact BindsTo.of_eq rfl
  case kB => exact locs rfl
  case c2 => rfl
  case c3 => rfl
  case c4 => rfl
  case c5 => decide
  intro g' L' h' FG' F' N' B' X' T'
  dsimp only
  refine wpAny_noRaise ?_
  with_reducible refine wpAny_execs_cons ?_
  with_reducible refine wpAny_Return_some ?_
  with_reducible refine (List_ ?_)
  with_reducible refine rows_eval (rs := poolRows) ?_ F' N' (fun vs h₂ tk objs F₂ N₂ hn hd => ?_)
  · delta poolRows
    repeat (first | with_reducible exact RowsE.nil | with_reducible refine RowsE.cons ?_)
  have hlen : vs.length = 52 := by rw [hd.length]; rfl
  with_reducible refine newList_K F₂ N₂ (fun P h₃ F₃ N₃ hP => ?_) (by rw [hlen, sizeLine_eq]; omega)
  dsimp only
  with_reducible refine leaveK_ F₃ N₃ (fun kF kN => ?_)
  dsimp only
  exact h P vs objs _ _ kF kN hn hP hd
end Mine
namespace Mine
/-- a turn's end: the iterator stands, the rest is as J says -/
def RTurn (h₀ : Heap) (L IT : Addr) (it : Obj) (J : (Str → Option Value) → List (Addr × Obj) → Prop) (s₁ : Shared) (f : Flow) (s₂ : Shared) : Prop :=
  (f = .next ∨ f = .cont) ∧ ∃ h' tk m' news', s₂ = { s₁ with heap := h', toks := tk } ∧ Fr h₀ L h' m' ∧ News h₀ L h' ((IT, it) :: news') ∧ (∀ p ∈ news', p.1 ≠ IT) ∧ J m' news'
theorem iter_rangeJ {prog : Program} {w : World} {A : Around} {E : Value → Shared → Prop} {s : Shared} {env : Env} {h₀ : Heap} {x : Str} {body : List Stmt} {Q : Flow → Shared → Prop}
    {r : Addr} {a₀ b₀ : Int} {t₀ u₀ v₀ : Tok} {n : Nat} {m₀ : Str → Option Value} {news : List (Addr × Obj)} (J : Nat → (Str → Option Value) → List (Addr × Obj) → Prop)
    (hh : A.handled = none) (hr : IsRange s.heap r a₀ b₀ 1 t₀ u₀ v₀) (hsmall : Builtin.Range.small a₀ b₀ 1 = true) (hn : Builtin.Range.rangeSize a₀ b₀ 1 = (n : Int)) (F : Fr h₀ env.locals s.heap m₀) (N : News h₀ env.locals s.heap news)
    (hj : J 0 m₀ news)
    (turn : ∀ IT it i t m₁ news₁ h tk, (∀ p ∈ news₁, p.1 ≠ IT) → i < n → J i m₁ news₁ → Fr h₀ env.locals h (fun y => if y = x then some (.int (a₀ + (i : Int)) t) else m₁ y) → News h₀ env.locals h ((IT, it) :: news₁) →
      wpAny (model prog w) A (execs body env) (RTurn h₀ env.locals IT it (J (i + 1)) { s with heap := h, toks := tk }) E { s with heap := h, toks := tk })
    (done : ∀ m₁ news₁ h tk, J n m₁ news₁ → Fr h₀ env.locals h m₁ → News h₀ env.locals h news₁ → Q .next { s with heap := h, toks := tk }) :
    wpAny (model prog w) A (pyIter (.ref r)) (fun it s₂ => LoopAtV prog w A h₀ env x body Q E it s₂) E s := by
  refine wpAny_pyIter_range hr hsmall ?_
  have W : Walks prog w A s.heap.objs.size [s.heap.objs.size] [s.heap.objs.size] n (fun i v => i < n ∧ ∃ t, v = .int (a₀ + i * 1) t)
      (fun i h => IsRangeIter h s.heap.objs.size (a₀ + (i : Nat) * 1) ((n : Int) - (i : Nat)) 1) := (Walks.range hh _ a₀ 1 n).bound
  have hnew := next_is_new F
  refine ⟨_, _, _, n, _, _, m₀, news, J, rfl, W, ?_, ?_, ?_, (by show IsRangeIter _ _ _ _ _; rw [hn]; simpa using Heap.get?_push_size _ rfl), F.push _, (fun p hp => ⟨Heap.get?_push_of_some _ (N p hp).1, (N p hp).2⟩), hj, ?_, ?_⟩
  · intro hm
    exact absurd F.ns.lt ((List.mem_singleton.mp hm) ▸ Nat.lt_irrefl _)
  · intro b hb
    rw [List.mem_singleton.mp hb]
    exact hnew
  · intro p hp hI
    exact absurd (Heap.lt_size (N p hp).1) ((List.mem_singleton.mp hI) ▸ Nat.lt_irrefl _)
  · rintro i v m₁ news₁ s₁ own ⟨hh', tk', rfl⟩ hin ⟨_, t, rfl⟩ hJ hoff hown hget hall hst F₁ N₁
    have hst' : ∃ o, hh'.get? s.heap.objs.size = some o := by
      have q : IsRangeIter hh' s.heap.objs.size (a₀ + ((i + 1 : Nat) : Int) * 1) ((n : Int) - ((i + 1 : Nat) : Int)) 1 := hst
      exact ⟨_, q⟩
    obtain ⟨it, hit⟩ := hst'
    have hmem := hall s.heap.objs.size (List.mem_singleton.mpr rfl) hnew _ hit
    have e1 : a₀ + (i : Int) * 1 = a₀ + (i : Int) := by omega
    rw [e1] at F₁
    have N₂ : News h₀ env.locals hh' ((s.heap.objs.size, it) :: news₁) := fun p hp => by
      rcases List.mem_cons.mp hp with rfl | hp
      · exact N₁ _ (List.mem_append_left _ hmem)
      · exact N₁ _ (List.mem_append_right _ hp)
    refine wpAny_mono (turn _ it i t m₁ news₁ hh' tk' (fun p hp e => hoff p hp (List.mem_singleton.mpr e)) hin hJ F₁ N₂) (fun f s₂ p => ?_) fun _ _ e => e
    obtain ⟨hf, h', tk, m', news', e, F', N', ho, hJ'⟩ := p
    have fin : LoopStepU h₀ env.locals [s.heap.objs.size] own (J (i + 1)) { s with heap := hh', toks := tk' } .next s₂ := by
      refine ⟨rfl, h', tk, m', news', e, F', fun p hp => ?_, fun p hp hI => ho p hp (List.mem_singleton.mp hI), hJ'⟩
      rcases List.mem_append.mp hp with hp | hp
      · have h1 : p.1 = s.heap.objs.size := List.mem_singleton.mp (hown p hp)
        have h2 : hh'.get? p.1 = some p.2 := hget p hp
        have h3 : p = (s.heap.objs.size, it) := by
          rw [h1, hit] at h2
          exact Prod.ext h1 (Option.some.inj h2).symm
        rw [h3]; exact N' _ (List.mem_cons_self ..)
      · exact N' _ (List.mem_cons_of_mem _ hp)
    rcases hf with rfl | rfl
    · exact .next fin
    · exact .cont fin
  · rintro h' tk m' news' F' N' _ hJ
    exact done m' news' h' tk hJ F' N'
end Mine
namespace Mine
/-- the menu stands in the ledger -/
structure PoolAt (rest : List (Addr × Obj)) (P : Addr) (vs : List Value) : Prop where
  mem : (P, listOf (List.toArray vs) 0) ∈ rest
  all : DatAll rest vs (poolRows.map rowD)
theorem PoolAt.mono {rest rest' : List (Addr × Obj)} {P : Addr} {vs : List Value} (h : PoolAt rest P vs) (hs : ∀ p ∈ rest, p ∈ rest') : PoolAt rest' P vs := ⟨hs _ h.mem, h.all.mono hs⟩
theorem after_pool {h₀ h : Heap} {L S X₁ P : Addr} {oS oX : Obj} {vs : List Value} {objs : List (Addr × Obj)} (N : News h₀ L h ((P, listOf (List.toArray vs) 0) :: (objs ++ [(S, oS), (X₁, oX)])))
    (l1 : ∀ p ∈ objs, ∀ q ∈ [(S, oS), (X₁, oX)], q.1 < p.1) (l2 : ∀ p ∈ objs ++ [(S, oS), (X₁, oX)], p.1 < P) (hd : DatAll objs vs (poolRows.map rowD)) {goal : Prop}
    (k : ∀ rest, News h₀ L h ((S, oS) :: (X₁, oX) :: rest) → (∀ p ∈ rest, p.1 ≠ S) → (∀ p ∈ rest, p.1 ≠ X₁) → PoolAt rest P vs → goal) : goal := by
  refine k ((P, listOf (List.toArray vs) 0) :: objs) (fun p hp => N p ?_) (fun p hp => ?_) (fun p hp => ?_) ⟨.head _, hd.mono fun p hp => .tail _ hp⟩
  · simp only [List.mem_cons, List.mem_append, List.not_mem_nil, or_false] at hp ⊢
    rcases hp with h | h | h | h
    · exact .inr (.inr (.inl h))
    · exact .inr (.inr (.inr h))
    · exact .inl h
    · exact .inr (.inl h)
  · rcases List.mem_cons.mp hp with rfl | hp
    · exact Ne.symm (Nat.ne_of_lt (l2 (S, oS) (List.mem_append.mpr (.inr (.head _)))))
    · exact Ne.symm (Nat.ne_of_lt (l1 p hp (S, oS) (.head _)))
  · rcases List.mem_cons.mp hp with rfl | hp
    · exact Ne.symm (Nat.ne_of_lt (l2 (X₁, oX) (List.mem_append.mpr (.inr (.tail _ (.head _))))))
    · exact Ne.symm (Nat.ne_of_lt (l1 p hp (X₁, oX) (.tail _ (.head _))))
theorem off_of_allLt {d : Addr} : ∀ {l : List (Addr × Obj)}, AllLt d l → ∀ p ∈ l, p.1 ≠ d
  | [], _, _, h => nomatch h
  | q :: r, h, p, hp => by
    rcases List.mem_cons.mp hp with rfl | hp
    · exact Nat.ne_of_lt h.1
    · exact off_of_allLt h.2 p hp
/-- none of these stands in the rest of the ledger -/
structure Offs (rest : List (Addr × Obj)) (S X₁ T Bk D U : Addr) : Prop where
  s : ∀ p ∈ rest, p.1 ≠ S
  x : ∀ p ∈ rest, p.1 ≠ X₁
  t : ∀ p ∈ rest, p.1 ≠ T
  b : ∀ p ∈ rest, p.1 ≠ Bk
  d : ∀ p ∈ rest, p.1 ≠ D
  u : ∀ p ∈ rest, p.1 ≠ U
theorem Offs.cons {rest : List (Addr × Obj)} {S X₁ T Bk D U a : Addr} {o : Obj} (h : Offs rest S X₁ T Bk D U) (hs : a ≠ S) (hx : a ≠ X₁) (ht : a ≠ T) (hb : a ≠ Bk) (hd : a ≠ D) (hu : a ≠ U) : Offs ((a, o) :: rest) S X₁ T Bk D U := by
  refine ⟨?_, ?_, ?_, ?_, ?_, ?_⟩ <;> intro p hp <;> rcases List.mem_cons.mp hp with rfl | hp
  · exact hs
  · exact h.s p hp
  · exact hx
  · exact h.x p hp
  · exact ht
  · exact h.t p hp
  · exact hb
  · exact h.b p hp
  · exact hd
  · exact h.d p hp
  · exact hu
  · exact h.u p hp
theorem before_loop {h₀ h : Heap} {L S X₁ T Bk D U : Addr} {ws : List Value} {x : Str} {t1 t2 t3 : Tok} {rest : List (Addr × Obj)}
    (N : News h₀ L h ((U, listOf #[.str x t3] 0) :: (D, listOf #[] 0) :: (Bk, listOf #[] 0) :: (T, listOf #[] 0) :: (S, listOf #[.ref X₁, .int 0 t1, .int 17 t2] 0) :: (X₁, listOf ws.toArray 0) :: rest))
    (lS : X₁ < S) (lT : S < T ∧ X₁ < T ∧ AllLt T rest) (lB : T < Bk ∧ S < Bk ∧ X₁ < Bk ∧ AllLt Bk rest) (lD : Bk < D ∧ T < D ∧ S < D ∧ X₁ < D ∧ AllLt D rest) (lU : D < U ∧ Bk < U ∧ T < U ∧ S < U ∧ X₁ < U ∧ AllLt U rest)
    (hS : ∀ p ∈ rest, p.1 ≠ S) (hX : ∀ p ∈ rest, p.1 ≠ X₁) {goal : Prop}
    (k : ∀ t1 t2 t3, News h₀ L h ((S, listOf #[.ref X₁, .int 0 t1, .int 17 t2] 0) :: (X₁, listOf ws.toArray 0) :: (T, listOf (List.toArray []) 0) :: (Bk, listOf (List.toArray []) 0) :: (D, listOf (List.toArray []) 0) :: (U, listOf (List.toArray [.str x t3]) 0) :: rest) →
      Offs rest S X₁ T Bk D U → X₁ < S → S < T → T < Bk → Bk < D → D < U → goal) : goal := by
  refine k t1 t2 t3 (fun p hp => N p ?_) ⟨hS, hX, off_of_allLt lT.2.2, off_of_allLt lB.2.2.2, off_of_allLt lD.2.2.2.2, off_of_allLt lU.2.2.2.2.2⟩ lS lT.1 lB.1 lD.1 lU.1
  simp only [List.mem_cons] at hp ⊢
  rcases hp with h | h | h | h | h | h | h
  · exact .inr (.inr (.inr (.inr (.inl h))))
  · exact .inr (.inr (.inr (.inr (.inr (.inl h)))))
  · exact .inr (.inr (.inr (.inl h)))
  · exact .inr (.inr (.inl h))
  · exact .inr (.inl h)
  · exact .inl h
  · exact .inr (.inr (.inr (.inr (.inr (.inr h)))))
/-- an item of the menu at a drawn place -/
theorem pool_item {prog : Program} {w : World} {A : Around} {E : Value → Shared → Prop} {s : Shared} {h₀ : Heap} {L : Addr} {news rest : List (Addr × Obj)} {value slice : PySem.Expr} {P : Addr} {vs : List Value} {k : Int} {u : Tok} {Q : Value → Shared → Prop}
    (N : News h₀ L s.heap news) (hsub : ∀ p ∈ rest, p ∈ news) (hP : PoolAt rest P vs) (h0 : 0 ≤ k) (h1 : k < 52)
    (h : ∀ a n t1 t2 row, row ∈ poolRows → (a, listOf #[.int row.k t1, .str row.x t2, .bool row.b, .bool row.e] n) ∈ rest → Q (.ref a) s)
    (hs : subscripted slice false (.ref P) (.int k u) = operate [.ref P, .int k u] (getItem (.ref P) (.int k u)) := by with_unfolding_all rfl) :
    wpAny (model prog w) A (subscriptTail value slice (.ref P) (.int k u)) Q E s := by
  have hl : s.heap.IsList P vs.toArray := ⟨_, (N _ (hsub _ hP.mem)).1, rfl, _, rfl⟩
  have hlen : (poolRows.map rowD).length = 52 := rfl
  have hk : k.toNat < (poolRows.map rowD).length := by rw [hlen]; omega
  obtain ⟨v, hv, hd⟩ := hP.all.get hk
  have hrow : k.toNat < poolRows.length := by rw [List.length_map] at hk; exact hk
  rw [List.getElem_map] at hd
  refine tail_any hl.typeIs slot_list_getitem.lookup (wpAny_getItem_list hl h0 (by omega) (by simpa using hv) ?_) hs
  unfold rowD at hd
  cases hd with
  | list hm hall =>
    cases hall with
    | cons a1 r1 =>
      cases r1 with
      | cons a2 r2 =>
        cases r2 with
        | cons a3 r3 =>
          cases r3 with
          | cons a4 r4 =>
            cases r4
            cases a1; cases a2; cases a3; cases a4
            exact h _ _ _ _ _ (List.getElem_mem hrow) hm
/-- the text of a bool -/
def bS (b : Bool) : Str := if b = true then Str.ofString "True" else Str.ofString "False"
def startD (j : Nat) : Dat := .tuple [.int (1 + (j : Int).fdiv 3), .int j]
def tokD (j : Nat) (r : Row) : Dat := .tuple [.int r.k, .str r.x, startD j, .tuple [.int (1 + (j : Int).fdiv 3), .int ((j : Int) + 1)], .str (Str.ofString "x\n")]
/-- the law's names -/
def lawM (S P T Bk D U : Addr) (u : Str → Option Value) : Str → Option Value := fun y =>
  if y = Str.ofString "state" then some (.ref S) else if y = Str.ofString "pool" then some (.ref P) else if y = Str.ofString "tokens" then some (.ref T) else
  if y = Str.ofString "breaks" then some (.ref Bk) else if y = Str.ofString "told" then some (.ref D) else if y = Str.ofString "due" then some (.ref U) else u y
theorem lawM_self {S P T Bk D U : Addr} {m : Str → Option Value} (h1 : m (Str.ofString "state") = some (.ref S)) (h2 : m (Str.ofString "pool") = some (.ref P)) (h3 : m (Str.ofString "tokens") = some (.ref T)) (h4 : m (Str.ofString "breaks") = some (.ref Bk))
    (h5 : m (Str.ofString "told") = some (.ref D)) (h6 : m (Str.ofString "due") = some (.ref U)) : m = lawM S P T Bk D U m := by
  funext y
  unfold lawM
  split
  · rename_i e; rw [e]; exact h1
  split
  · rename_i e; rw [e]; exact h2
  split
  · rename_i e; rw [e]; exact h3
  split
  · rename_i e; rw [e]; exact h4
  split
  · rename_i e; rw [e]; exact h5
  split
  · rename_i e; rw [e]; exact h6
  rfl
/-- what holds between the turns of the law's loop -/
def LawJ (nl : Nat) (S X₁ T Bk D U P : Addr) (ws vsP : List Value) (i : Nat) (m : Str → Option Value) (news : List (Addr × Obj)) : Prop :=
  ∃ (i' st : Int) (t1 t2 : Tok) (nS nT nB nD nU : Nat) (vT vB vD vU : List Value) (rows : List Row) (rest : List (Addr × Obj)) (u : Str → Option Value),
    news = (S, listOf #[.ref X₁, .int i' t1, .int st t2] nS) :: (X₁, listOf ws.toArray 0) :: (T, listOf vT.toArray nT) :: (Bk, listOf vB.toArray nB) :: (D, listOf vD.toArray nD) :: (U, listOf vU.toArray nU) :: rest ∧
    m = lawM S P T Bk D U u ∧ 0 ≤ i' ∧ i' ≤ (nl : Int) ∧ 0 ≤ st ∧ st < 2147483647 ∧ Offs rest S X₁ T Bk D U ∧ PoolAt rest P vsP ∧ rows.length = i ∧ (∀ r ∈ rows, r ∈ poolRows) ∧
    DatAll rest vT (rows.mapIdx tokD) ∧ vB = rows.map (fun r => Value.bool r.e) ∧ StrsAre vD (rows.map fun r => bS (isB r.k r.x)) ∧ StrsAre vU (bS false :: rows.map fun r => bS r.b)
theorem turn_in {h₀ h : Heap} {L IT S X₁ T Bk D U : Addr} {it oS oX oT oB oD oU : Obj} {rest : List (Addr × Obj)} (N : News h₀ L h ((IT, it) :: (S, oS) :: (X₁, oX) :: (T, oT) :: (Bk, oB) :: (D, oD) :: (U, oU) :: rest))
    (hIT : ∀ p ∈ (S, oS) :: (X₁, oX) :: (T, oT) :: (Bk, oB) :: (D, oD) :: (U, oU) :: rest, p.1 ≠ IT) (hO : Offs rest S X₁ T Bk D U) {goal : Prop}
    (k : ∀ rest₂, News h₀ L h ((S, oS) :: (X₁, oX) :: (T, oT) :: (Bk, oB) :: (D, oD) :: (U, oU) :: rest₂) → Offs rest₂ S X₁ T Bk D U → (IT, it) ∈ rest₂ → (∀ p ∈ rest, p ∈ rest₂) → goal) : goal := by
  refine k ((IT, it) :: rest) (fun p hp => N p ?_) (hO.cons (Ne.symm (hIT _ (.head _))) (Ne.symm (hIT _ (.tail _ (.head _)))) (Ne.symm (hIT _ (.tail _ (.tail _ (.head _))))) (Ne.symm (hIT _ (.tail _ (.tail _ (.tail _ (.head _))))))
    (Ne.symm (hIT _ (.tail _ (.tail _ (.tail _ (.tail _ (.head _))))))) (Ne.symm (hIT _ (.tail _ (.tail _ (.tail _ (.tail _ (.tail _ (.head _))))))))) (.head _) fun p hp => .tail _ hp
  simp only [List.mem_cons] at hp ⊢
  rcases hp with h | h | h | h | h | h | h | h
  · exact .inr (.inl h)
  · exact .inr (.inr (.inl h))
  · exact .inr (.inr (.inr (.inl h)))
  · exact .inr (.inr (.inr (.inr (.inl h))))
  · exact .inr (.inr (.inr (.inr (.inr (.inl h)))))
  · exact .inr (.inr (.inr (.inr (.inr (.inr (.inl h))))))
  · exact .inl h
  · exact .inr (.inr (.inr (.inr (.inr (.inr (.inr h))))))
theorem loop_start {h₀ h : Heap} {L S X₁ T Bk D U P : Addr} {m : Str → Option Value} {ws vsP : List Value} {i₀ st₀ : Int} {t1 t2 t3 : Tok} {nS nl : Nat} {rest : List (Addr × Obj)} (_F : Fr h₀ L h m)
    (_N : News h₀ L h ((S, listOf #[.ref X₁, .int i₀ t1, .int st₀ t2] nS) :: (X₁, listOf ws.toArray 0) :: (T, listOf (List.toArray []) 0) :: (Bk, listOf (List.toArray []) 0) :: (D, listOf (List.toArray []) 0) :: (U, listOf (List.toArray [.str (bS false) t3]) 0) :: rest))
    (h1 : m (Str.ofString "state") = some (.ref S)) (h2 : m (Str.ofString "pool") = some (.ref P)) (h3 : m (Str.ofString "tokens") = some (.ref T)) (h4 : m (Str.ofString "breaks") = some (.ref Bk))
    (h5 : m (Str.ofString "told") = some (.ref D)) (h6 : m (Str.ofString "due") = some (.ref U)) (hi0 : 0 ≤ i₀) (hi1 : i₀ ≤ (nl : Int)) (hs0 : 0 ≤ st₀) (hs1 : st₀ < 2147483647) (hO : Offs rest S X₁ T Bk D U) (hP : PoolAt rest P vsP) :
    LawJ nl S X₁ T Bk D U P ws vsP 0 m ((S, listOf #[.ref X₁, .int i₀ t1, .int st₀ t2] nS) :: (X₁, listOf ws.toArray 0) :: (T, listOf (List.toArray []) 0) :: (Bk, listOf (List.toArray []) 0) :: (D, listOf (List.toArray []) 0) :: (U, listOf (List.toArray [.str (bS false) t3]) 0) :: rest) :=
  ⟨i₀, st₀, t1, t2, nS, 0, 0, 0, 0, [], [], [], [.str _ t3], [], rest, m, rfl, lawM_self h1 h2 h3 h4 h5 h6, hi0, hi1, hs0, hs1, hO, hP, rfl, (fun _ h => nomatch h), .nil, rfl, .nil, .cons _ _ .nil⟩
abbrev tupO (vs : Array Value) : Obj := { cls := .type "tuple", data := .seq vs }
theorem strs_snoc : ∀ {vs : List Value} {ys : List Str} (y : Str) (t : Tok), StrsAre vs ys → StrsAre (vs ++ [.str y t]) (ys ++ [y])
  | _, _, _, _, .nil => .cons _ _ .nil
  | _, _, y, t, .cons a b h => .cons _ _ (strs_snoc y t h)
theorem turn_out {h₀ h : Heap} {L IT S X₁ T Bk D U P c1 c2 c3 : Addr} {it : Obj} {m : Str → Option Value} {ws vsP vT vD vU : List Value} {i' st : Int} {a1 a2 a3 b1 b2 d1 d2 e1 e2 t1 t2 : Tok} {nS nT nB nD nU nl i tk : Nat}
    {rest rest₂ : List (Addr × Obj)} {row : Row} {rows : List Row} {s₁ : Shared} (F : Fr h₀ L h m)
    (N : News h₀ L h ((c3, tupO #[.int row.k a1, .str row.x a2, .ref c1, .ref c2, .str (Str.ofString "x\n") a3]) :: (c2, tupO #[.int (1 + (0 + (i : Int)).fdiv 3) b1, .int (0 + (i : Int) + 1) b2]) :: (c1, tupO #[.int (1 + (0 + (i : Int)).fdiv 3) d1, .int (0 + (i : Int)) d2]) ::
      (S, listOf #[.ref X₁, .int i' t1, .int st t2] nS) :: (X₁, listOf ws.toArray 0) :: (T, listOf (vT.toArray.push (.ref c3)) (nT + 1)) :: (Bk, listOf ((rows.map fun r => Value.bool r.e).toArray.push (.bool row.e)) (nB + 1)) ::
      (D, listOf (vD.toArray.push (.str (bS (isB row.k row.x)) e1)) (nD + 1)) :: (U, listOf (vU.toArray.push (.str (bS row.b) e2)) (nU + 1)) :: rest₂))
    (hm1 : m (Str.ofString "state") = some (.ref S)) (hm2 : m (Str.ofString "pool") = some (.ref P)) (hm3 : m (Str.ofString "tokens") = some (.ref T)) (hm4 : m (Str.ofString "breaks") = some (.ref Bk))
    (hm5 : m (Str.ofString "told") = some (.ref D)) (hm6 : m (Str.ofString "due") = some (.ref U))
    (hi0 : 0 ≤ i') (hi1 : i' ≤ (nl : Int)) (hs0 : 0 ≤ st) (hs1 : st < 2147483647) (hit : (IT, it) ∈ rest₂) (hsub : ∀ p ∈ rest, p ∈ rest₂) (hO : Offs rest S X₁ T Bk D U) (hP : PoolAt rest P vsP)
    (hITr : ∀ p ∈ rest, p.1 ≠ IT) (n1 : S ≠ IT) (n2 : X₁ ≠ IT) (n3 : T ≠ IT) (n4 : Bk ≠ IT) (n5 : D ≠ IT) (n6 : U ≠ IT)
    (l1 : S < c1 ∧ X₁ < c1 ∧ T < c1 ∧ Bk < c1 ∧ D < c1 ∧ U < c1 ∧ AllLt c1 rest₂) (l2 : c1 < c2 ∧ S < c2 ∧ X₁ < c2 ∧ T < c2 ∧ Bk < c2 ∧ D < c2 ∧ U < c2 ∧ AllLt c2 rest₂)
    (l3 : c2 < c3 ∧ c1 < c3 ∧ S < c3 ∧ X₁ < c3 ∧ T < c3 ∧ Bk < c3 ∧ D < c3 ∧ U < c3 ∧ AllLt c3 rest₂)
    (hlen : rows.length = i) (hrows : ∀ r ∈ rows, r ∈ poolRows) (hrow : row ∈ poolRows) (hT : DatAll rest vT (rows.mapIdx tokD)) (hD : StrsAre vD (rows.map fun r => bS (isB r.k r.x))) (hU : StrsAre vU (bS false :: rows.map fun r => bS r.b)) :
    RTurn h₀ L IT it (LawJ nl S X₁ T Bk D U P ws vsP (i + 1)) s₁ .next { s₁ with heap := h, toks := tk } := by
  obtain ⟨g1, g2, g3, g4, g5, g6, g7⟩ := l1
  obtain ⟨g8, k1, k2, k3, k4, k5, k6, k7⟩ := l2
  obtain ⟨k8, k9, j1, j2, j3, j4, j5, j6, j7⟩ := l3
  have q1 : c1 ≠ IT := fun e => off_of_allLt g7 _ hit e.symm
  have q2 : c2 ≠ IT := fun e => off_of_allLt k7 _ hit e.symm
  have q3 : c3 ≠ IT := fun e => off_of_allLt j7 _ hit e.symm
  have z : (0 : Int) + (i : Int) = (i : Int) := by omega
  rw [z] at N
  refine ⟨.inl rfl, h, tk, m, (S, listOf #[.ref X₁, .int i' t1, .int st t2] nS) :: (X₁, listOf ws.toArray 0) :: (T, listOf (vT ++ [Value.ref c3]).toArray (nT + 1)) :: (Bk, listOf ((rows ++ [row]).map fun r => Value.bool r.e).toArray (nB + 1)) ::
      (D, listOf (vD ++ [Value.str (bS (isB row.k row.x)) e1]).toArray (nD + 1)) :: (U, listOf (vU ++ [Value.str (bS row.b) e2]).toArray (nU + 1)) ::
      (c3, tupO #[.int row.k a1, .str row.x a2, .ref c1, .ref c2, .str (Str.ofString "x\n") a3]) :: (c2, tupO #[.int (1 + (i : Int).fdiv 3) b1, .int ((i : Int) + 1) b2]) :: (c1, tupO #[.int (1 + (i : Int).fdiv 3) d1, .int (i : Int) d2]) :: rest,
    rfl, F, fun p hp => N p ?_, fun p hp => ?_, i', st, t1, t2, nS, nT + 1, nB + 1, nD + 1, nU + 1, vT ++ [Value.ref c3], _, vD ++ [Value.str (bS (isB row.k row.x)) e1], vU ++ [Value.str (bS row.b) e2], rows ++ [row], _, m, rfl, lawM_self hm1 hm2 hm3 hm4 hm5 hm6, hi0, hi1, hs0, hs1, ?_, ?_, ?_, ?_, ?_, rfl, ?_, ?_⟩
  · simp only [List.push_toArray, List.map_append, List.map_cons, List.map_nil, List.mem_cons] at hp ⊢
    rcases hp with h | h | h | h | h | h | h | h | h | h | h
    · subst h; exact .inr (.inr (.inr (.inr (.inr (.inr (.inr (.inr (.inr hit))))))))
    · exact .inr (.inr (.inr (.inl h)))
    · exact .inr (.inr (.inr (.inr (.inl h))))
    · exact .inr (.inr (.inr (.inr (.inr (.inl h)))))
    · exact .inr (.inr (.inr (.inr (.inr (.inr (.inl h))))))
    · exact .inr (.inr (.inr (.inr (.inr (.inr (.inr (.inl h)))))))
    · exact .inr (.inr (.inr (.inr (.inr (.inr (.inr (.inr (.inl h))))))))
    · exact .inl h
    · exact .inr (.inl h)
    · exact .inr (.inr (.inl h))
    · exact .inr (.inr (.inr (.inr (.inr (.inr (.inr (.inr (.inr (hsub _ h)))))))))
  · simp only [List.mem_cons] at hp
    rcases hp with h | h | h | h | h | h | h | h | h | h
    · subst h; exact n1
    · subst h; exact n2
    · subst h; exact n3
    · subst h; exact n4
    · subst h; exact n5
    · subst h; exact n6
    · subst h; exact q3
    · subst h; exact q2
    · subst h; exact q1
    · exact hITr _ h
  · exact ((hO.cons (Nat.ne_of_gt g1) (Nat.ne_of_gt g2) (Nat.ne_of_gt g3) (Nat.ne_of_gt g4) (Nat.ne_of_gt g5) (Nat.ne_of_gt g6)).cons (Nat.ne_of_gt k1) (Nat.ne_of_gt k2) (Nat.ne_of_gt k3) (Nat.ne_of_gt k4) (Nat.ne_of_gt k5) (Nat.ne_of_gt k6)).cons
      (Nat.ne_of_gt j1) (Nat.ne_of_gt j2) (Nat.ne_of_gt j3) (Nat.ne_of_gt j4) (Nat.ne_of_gt j5) (Nat.ne_of_gt j6)
  · exact hP.mono fun p hp => .tail _ (.tail _ (.tail _ hp))
  · rw [List.length_append, hlen]; rfl
  · intro r hr
    rcases List.mem_append.mp hr with hr | hr
    · exact hrows r hr
    · rw [List.mem_singleton.mp hr]; exact hrow
  · rw [List.mapIdx_concat, hlen]
    refine (hT.mono fun p hp => .tail _ (.tail _ (.tail _ hp))).append (DatAll.one ?_)
    refine .tuple (.head _) (.cons (.int _ _) (.cons (.str _ _) (.cons ?_ (.cons ?_ (.cons (.str _ _) .nil)))))
    · exact .tuple (.tail _ (.tail _ (.head _))) (.cons (.int _ _) (.cons (.int _ _) .nil))
    · exact .tuple (.tail _ (.head _)) (.cons (.int _ _) (.cons (.int _ _) .nil))
  · rw [List.map_append]; exact strs_snoc _ _ hD
  · rw [List.map_append]; exact strs_snoc _ _ hU
end Mine
namespace Mine
section
variable {prog : Program} {w : World} {A : Around} {E : Value → Shared → Prop} {s : Shared}
theorem hash_none {Q : Int → Shared → Prop} (h : Q 0xFCA86420 { s with toks := s.toks + 1 }) : wpAny (model prog w) A (pyHash .none) Q E s := by
  have hT : s.TypeIs .none "NoneType" := rfl
  unfold pyHash
  have hv : [Value.none].any Value.onHeap = false := rfl
  refine wpAny_bind ?_
  rw [cRoomFor, if_neg (by rw [hv]; exact Bool.false_ne_true)]; refine wpAny_pure ?_
  refine wpAny_bind (wpAny_specialOf hT F.slot_NoneType_hash.lookup ?_)
  show wpAny _ _ (if (some (Value.builtin "NoneType.__hash__") == some Value.none) = true then _ else _) Q E s
  rw [if_neg (by rw [beq_builtin_none]; exact Bool.false_ne_true)]
  refine wpAny_bind (wpAny_specialOf hT F.slot_NoneType_hash.lookup ?_)
  show wpAny _ _ (callSpecialIfBoundUnlessNone? .none "__hash__" _ >>= _) Q E s
  refine wpAny_bind (wpAny_callSpecialIfBoundUnlessNone?_slot hT F.slot_NoneType_hash
    (wpAny_call_entry F.slot_NoneType_hash hT F.entry_NoneType_hash
      (show wpAny _ _ (do ret (← mkInt 0xFCA86420)) _ _ s from wpAny_ret_mkInt ?_) (F.args_NoneType_hash_1 _)))
  show wpAny _ _ (if (decide (-(2 : Int) ^ 63 ≤ 0xFCA86420) && decide ((0xFCA86420 : Int) < 2 ^ 63)) = true then _ else _) Q E _
  rw [if_pos (by decide)]
  exact wpAny_pure h
theorem eqB_none_none {Q : Bool → Shared → Prop} (h : Q true s) : wpAny (model prog w) A (eqBool .none .none) Q E s := by
  unfold eqBool
  refine wpAny_holding (wpAny_ite ?_)
  rw [if_pos (by rfl)]
  exact wpAny_bind (wpAny_rule (wpAny_pure h))
theorem eqB_str_none {a : Str} {t : Tok} {Q : Bool → Shared → Prop} (h : Q false s) : wpAny (model prog w) A (eqBool (.str a t) .none) Q E s := by
  unfold eqBool
  refine wpAny_holding (wpAny_ite ?_)
  rw [if_neg (by intro e; cases (eq_of_beq e))]
  show wpAny _ _ (richCompare .Eq (.str a t) .none >>= truthOfDropped) Q E s
  exact wpAny_bind (EqNone.eq_str_none (wpAny_truthy_bool h))
theorem eqB_none_str {a : Str} {t : Tok} {Q : Bool → Shared → Prop} (h : Q false s) : wpAny (model prog w) A (eqBool .none (.str a t)) Q E s := by
  unfold eqBool
  refine wpAny_holding (wpAny_ite ?_)
  rw [if_neg (by intro e; cases (eq_of_beq e))]
  show wpAny _ _ (richCompare .Eq .none (.str a t) >>= truthOfDropped) Q E s
  exact wpAny_bind (EqNone.eq_none_str (wpAny_truthy_bool h))
end
def isOpt : Option Str → Value → Bool
  | none, .none => true
  | some x, v => Value.isStrOf x v
  | _, _ => false
theorem isOpt_shape : ∀ {k : Option Str} {v : Value}, isOpt k v = true → (k = none ∧ v = .none) ∨ ∃ x t, k = some x ∧ v = .str x t
  | none, v, h => by cases v <;> simp_all [isOpt]
  | some x, v, h => by obtain ⟨t, e⟩ := Value.isStrOf_shape h; exact .inr ⟨x, t, rfl, e⟩
/-- keys: None, or a text -/
def optKind (prog : Program) (w : World) : KeyKind prog w (Option Str) where
  is := isOpt
  hash := fun k => match k with | none => 0xFCA86420 | some x => hashStr w x
  inj := fun v a b ha hb => by
    rcases isOpt_shape ha with ⟨rfl, rfl⟩ | ⟨x, t, rfl, rfl⟩
    · rcases isOpt_shape hb with ⟨rfl, _⟩ | ⟨y, u, rfl, e⟩
      · rfl
      · cases e
    · rcases isOpt_shape hb with ⟨rfl, e⟩ | ⟨y, u, rfl, e⟩
      · cases e
      · injection e with e; rw [e]
  byValue := fun k v h => by rcases isOpt_shape h with ⟨rfl, rfl⟩ | ⟨x, t, rfl, rfl⟩ <;> rfl
  pyHash := fun hv h => by
    rcases isOpt_shape hv with ⟨rfl, rfl⟩ | ⟨x, t, rfl, rfl⟩
    · exact hash_none h
    · exact wpAny_pyHash_str h
  eqBool := fun hu hv h => by
    rcases isOpt_shape hu with ⟨rfl, rfl⟩ | ⟨x, t, rfl, rfl⟩
    · rcases isOpt_shape hv with ⟨rfl, rfl⟩ | ⟨y, u, rfl, rfl⟩
      · exact eqB_none_none (by simpa using h)
      · exact eqB_none_str (by simpa using h)
    · rcases isOpt_shape hv with ⟨rfl, rfl⟩ | ⟨y, u, rfl, rfl⟩
      · exact eqB_str_none (by simpa using h)
      · exact wpAny_eqBool_str (by simpa using h)
  «strs» := fun k x t v h => by
    rcases isOpt_shape h with ⟨rfl, e⟩ | ⟨y, u, rfl, e⟩
    · cases e
    · injection e with e; subst e
      show Value.isStrOf x v = _
      cases v <;> rfl
/-- None in a set of texts -/
theorem none_in_strs {prog : Program} {w : World} {A : Around} {E : Value → Shared → Prop} {s : Shared} {a : Addr} {o : Obj} {S : Str → Bool} {n : Nat} {Q : Value → Shared → Prop} (ho : s.heap.get? a = some o) (hS : Obj.SetObjOf (strKind prog w) o S n) (hb : n < scanBound)
    (h : Q (.bool false) { s with toks := s.toks + 1 }) : wpAny (model prog w) A (compareOp .In .none (.ref a)) Q E s := by
  obtain ⟨o', es, ep, t, ho', hex, hd, hel, hmem, hb', hf, hn⟩ := hS.setOf ho hb
  have hS' : s.heap.SetOf (optKind prog w) a (fun k => match k with | none => false | some x => S x) n := by
    refine ⟨o', es, ep, t, ho', hex, hd, fun e he => ?_, fun k => ?_, hb', hf, hn⟩
    · obtain ⟨⟨k, h1, h2⟩, h3⟩ := hel e he
      exact ⟨⟨some k, h1, h2⟩, h3⟩
    · cases k with
      | none =>
        constructor
        · intro e; cases e
        · rintro ⟨e, he, hp⟩
          obtain ⟨⟨k, h1, _⟩, _⟩ := hel e he
          obtain ⟨u, hu⟩ := Value.isStrOf_shape h1
          rw [hu] at hp; cases hp
      | some x => exact hmem x
  exact wpAny_inSet_of (knd := optKind prog w) (k := none) rfl rfl hS' h
end Mine
namespace Mine
/-- data that can be laid, not too deep -/
def dOk : Nat → Dat → Bool
  | _, .none => true
  | _, .bool _ => true
  | _, .int _ => true
  | _, .str x => PyData.strOk x
  | n + 1, .tuple ds => ds.all (dOk n)
  | n + 1, .list ds => ds.all (dOk n)
  | _, _ => false
section
variable {h₀ h : Heap} {L : Addr} {news : List (Addr × Obj)}
mutual
theorem dat_reads (N : News h₀ L h news) : ∀ {v : Value} {d : Dat} (n : Nat), DatIn news v d → dOk n d = true → ∃ as, Reads h v (kqdP d) as
  | _, _, _, .none, _ => ⟨_, Reads.none⟩
  | _, _, _, .bool b, _ => ⟨_, Reads.bool b⟩
  | _, _, _, .int i t, _ => ⟨_, Reads.int i t⟩
  | _, _, _, .str x t, _ => ⟨_, Reads.str x t⟩
  | _, _, n, .bytes _ _, hk => by cases n <;> simp [dOk] at hk
  | _, _, 0, .tuple _ _, hk => by simp [dOk] at hk
  | _, _, 0, .list _ _, hk => by simp [dOk] at hk
  | _, _, n + 1, .tuple hm r, hk => by
    obtain ⟨as, q⟩ := dat_readsAll N n r (by simpa [dOk] using hk)
    rw [kqdP]
    exact ⟨as, reads_tuple_at (N.get hm) rfl rfl (by simpa using q)⟩
  | _, _, n + 1, .list hm r, hk => by
    obtain ⟨as, q⟩ := dat_readsAll N n r (by simpa [dOk] using hk)
    rw [kqdP]
    exact ⟨_, reads_list_at (N.get hm) rfl rfl (by simpa [W.listOf] using q)⟩
theorem dat_readsAll (N : News h₀ L h news) : ∀ {vs : List Value} {ds : List Dat} (n : Nat), DatAll news vs ds → (∀ d ∈ ds, dOk n d = true) → ∃ as, ReadsAll h vs (kqdPs ds) as
  | _, _, _, .nil, _ => ⟨_, ReadsAll.nil⟩
  | _, _, n, .cons hd r, hk => by
    obtain ⟨as, q⟩ := dat_reads N n hd (hk _ (.head _))
    obtain ⟨bs, p⟩ := dat_readsAll N n r fun d hm => hk d (.tail _ hm)
    rw [kqdPs]
    exact ⟨_, ReadsAll.cons q p⟩
end
end
theorem dat_lay : ∀ (n : Nat) (d : Dat), dOk n d = true → (kqdP d).canLay0 = true ∧ (kqdP d).depth ≤ n := by
  have all : ∀ (n : Nat), (∀ d, dOk n d = true → (kqdP d).canLay0 = true ∧ (kqdP d).depth ≤ n) → ∀ ds : List Dat, (∀ d ∈ ds, dOk n d = true) → PyData.canLayAll0 (kqdPs ds) = true ∧ PyData.depthAll (kqdPs ds) ≤ n := by
    intro n ih ds
    induction ds with
    | nil => intro _; simp [kqdPs, PyData.canLayAll0, PyData.depthAll]
    | cons d ds hi =>
      intro h
      have h1 := ih d (h d (.head _))
      have h2 := hi fun e he => h e (.tail _ he)
      simp only [kqdPs, PyData.canLayAll0, PyData.depthAll, h1.1, h2.1, Bool.and_self, true_and]
      have a1 := h1.2
      have a2 := h2.2
      omega
  intro n
  induction n with
  | zero =>
    intro d h
    cases d <;> simp_all [dOk, kqdP, PyData.canLay0, PyData.depth]
  | succ n ih =>
    intro d h
    cases d with
    | none => simp [kqdP, PyData.canLay0, PyData.depth]
    | bool b => simp [kqdP, PyData.canLay0, PyData.depth]
    | int i => simp [kqdP, PyData.canLay0, PyData.depth]
    | str x => simp [dOk] at h; simp [kqdP, PyData.canLay0, PyData.depth, h]
    | bytes b => simp [dOk] at h
    | tuple ds =>
      have q := all n ih ds (by simpa [dOk] using h)
      have q2 := q.2
      simp only [kqdP, PyData.canLay0, PyData.depth, q.1, true_and]
      omega
    | list ds =>
      have q := all n ih ds (by simpa [dOk] using h)
      have q2 := q.2
      simp only [kqdP, PyData.canLay0, PyData.depth, q.1, true_and]
      omega
section
variable {prog : Program} {w : World} {A : Around} {E : Value → Shared → Prop} {s : Shared} {h₀ : Heap} {L a b : Addr} {news : List (Addr × Obj)} {xs ys : List Value} {ka kb : Nat} {ds : List Dat} {Q : Value → Shared → Prop}
theorem dat_eq (N : News h₀ L s.heap news) (ma : (a, listOf xs.toArray ka) ∈ news) (Da : DatAll news xs ds) (mb : (b, listOf ys.toArray kb) ∈ news) (Db : DatAll news ys ds)
    (ha : ∀ d ∈ ds, dOk 8 d = true) (hu : A.units + 64 < cLine) (h : Q (.bool true) s) : wpAny (model prog w) A (compareOp .Eq (.ref a) (.ref b)) Q E s := by
  obtain ⟨as, ra⟩ := dat_readsAll N 8 Da ha
  obtain ⟨bs, rb⟩ := dat_readsAll N 8 Db ha
  have la := dat_lay 9 (.list ds) (by simpa [dOk] using ha)
  rw [kqdP] at la
  have hsh : SeqAt.shaped (.list (kqdPs ds)) = true := by unfold SeqAt.shaped; rw [la.1, Bool.true_and]; exact decide_eq_true (Nat.le_trans la.2 (by decide))
  refine eq_dataH (reads_list_at (N.get ma) rfl rfl (by simpa using ra)) (reads_list_at (N.get mb) rfl rfl (by simpa using rb)) hsh hsh hu ?_
  rw [SeqAt.eqv_refl _ la.1]; exact h
theorem dat_ne (N : News h₀ L s.heap news) (ma : (a, listOf xs.toArray ka) ∈ news) (Da : DatAll news xs ds) (mb : (b, listOf ys.toArray kb) ∈ news) (Db : DatAll news ys ds)
    (ha : ∀ d ∈ ds, dOk 8 d = true) (hu : A.units + 64 < cLine) (h : Q (.bool false) s) : wpAny (model prog w) A (compareOp .NotEq (.ref a) (.ref b)) Q E s := by
  obtain ⟨as, ra⟩ := dat_readsAll N 8 Da ha
  obtain ⟨bs, rb⟩ := dat_readsAll N 8 Db ha
  have la := dat_lay 9 (.list ds) (by simpa [dOk] using ha)
  rw [kqdP] at la
  have hsh : SeqAt.shaped (.list (kqdPs ds)) = true := by unfold SeqAt.shaped; rw [la.1, Bool.true_and]; exact decide_eq_true (Nat.le_trans la.2 (by decide))
  refine ne_dataH (reads_list_at (N.get ma) rfl rfl (by simpa using ra)) (reads_list_at (N.get mb) rfl rfl (by simpa using rb)) hsh hsh hu ?_
  rw [SeqAt.eqv_refl _ la.1]; exact h
end
theorem strs_dat {news : List (Addr × Obj)} : ∀ {vs : List Value} {ys : List Str}, StrsAre vs ys → DatAll news vs (ys.map Dat.str)
  | _, _, .nil => .nil
  | _, _, .cons _ _ h => .cons (.str _ _) (strs_dat h)
theorem bS_ok (b : Bool) : dOk 8 (.str (bS b)) = true := by cases b <;> decide +kernel
/-- what is told of a row of the menu is what the def says -/
theorem pool_told : ∀ r ∈ poolRows, isB r.k r.x = r.b := by decide +kernel
theorem told_eq {rows : List Row} (h : ∀ r ∈ rows, r ∈ poolRows) : (rows.map fun r => bS (isB r.k r.x)) = rows.map fun r => bS r.b :=
  List.map_congr_left fun r hr => by rw [pool_told r (h r hr)]
theorem add_listsK {prog : Program} {w : World} {A : Around} {E : Value → Shared → Prop} {s : Shared} {h₀ : Heap} {L l b : Addr} {m : Str → Option Value} {news : List (Addr × Obj)} {vs ws : List Value} {Q : Value → Shared → Prop} (F : Fr h₀ L s.heap m) (N : News h₀ L s.heap news)
    (hl : s.heap.IsList l vs.toArray) (hb : s.heap.IsList b ws.toArray) (hsz : vs.length + ws.length ≤ sizeLine)
    (h : ∀ D h', Fr h₀ L h' m → News h₀ L h' ((D, listOf (vs ++ ws).toArray 0) :: news) → (∀ p ∈ news, p.1 < D) → Q (.ref D) { s with heap := h' }) :
    wpAny (model prog w) A (binaryOp .Add (.ref l) (.ref b)) Q E s :=
  PyProof.Rows.add_lists F N hl hb (fun h' F' N' => h _ h' F' N' fun p hp => Heap.lt_size (N p hp).1) hsz
end Mine
namespace Mine
section
variable {M : Model} {A : Around} {R : GenEnd} {Y : Protocol} {n : Nat} {s₀ : Shared} {c : Code} {fs : List Frame} {s : Shared} {env : Env}
  {K : Flow → Sem Fin} {H : Value → Sem Fin} {gd : Bool → Bool} {lv : List Value → List Value}
theorem noE {α : Type} {A : Around} {t : Sem α} {Q : α → Shared → Prop} {E : Value → Shared → Prop} (h : wpAny M A t Q (fun _ _ => False) s) : wpAny M A t Q E s :=
  wpAny_mono h (fun _ _ x => x) fun _ _ x => x.elim
theorem seg_stmt {st : Stmt} (h : wpAny M (A.over c fs) (exec st env) (fun f s₁ => Seg M A R Y n s₀ c (K f) fs s₁) (fun _ _ => False) s) : Seg M A R Y n s₀ c ((exec st env).wrap K H gd lv) fs s :=
  seg_wrap (noE h)
theorem seg_stmts {sts : List Stmt} (h : wpAny M (A.over c fs) (execs sts env) (fun f s₁ => Seg M A R Y n s₀ c (K f) fs s₁) (fun _ _ => False) s) : Seg M A R Y n s₀ c ((execs sts env).wrap K H gd lv) fs s :=
  seg_wrap (noE h)
theorem bind_wrap {α β γ : Type} (m : Sem α) (f : α → Sem β) (K : β → Sem γ) (H : Value → Sem γ) (gd lv) : (m >>= f).wrap K H gd lv = m.wrap (fun a => (f a).wrap K H gd lv) H gd lv := by
  rw [Sem.bind_eq_wrap', Sem.wrap_wrap]
  rfl
theorem seg_If {test : Expr} {body orelse : List Stmt} {pos : Pos}
    (h : wpAny M (A.over c fs) (isTrue test env (eval test env)) (fun b s₁ => if b then Seg M A R Y n s₀ c ((execs body env).wrap K H gd lv) fs s₁ else Seg M A R Y n s₀ c ((execs orelse env).wrap K H gd lv) fs s₁) (fun _ _ => False) s) :
    Seg M A R Y n s₀ c ((exec (.If test body orelse pos) env).wrap K H gd lv) fs s := by
  rw [exec_If, bind_wrap]
  refine seg_wrap (wpAny_standAt ?_)
  rw [bind_wrap]
  refine seg_wrap (noE (wpAny_mono h (fun b s₁ h₁ => ?_) fun _ _ x => x))
  cases b <;> exact h₁
/-- what follows a called code, in a frame of the generator's -/
def after (env : Env) (K : Flow → Sem Fin) (H : Value → Sem Fin) (gd : Bool → Bool) (lv : List Value → List Value) : Result → Sem Fin := fun r =>
  ((match r with | .ok f => (.pure f : Sem Flow) | .error e => .raise e).onRaise fun (x : Value) => do
        if (← field x 1) == Value.none then unsupported "frame.own-activation:exception-without-traceback"
        setFlight x env.frame).wrap K H gd lv
theorem seg_For {target iter : Expr} {body orelse : List Stmt} {pos : Pos}
    (h : wpAny M (A.over c fs) (eval iter env) (fun x s₁ => wpAny M (A.over c fs) (pyIter x) (fun it s₂ => ∀ p, Seg M A R Y n s₀ (.forLoop target it body orelse env) (M.den (.forLoop target it body orelse env))
      (.ret (after env K H gd lv) none (gd false) (lv []) c p [] :: fs) s₂) (fun _ _ => False) s₁) (fun _ _ => False) s)
    (hs : ∀ x, foldedSetIterable iter env x = pure x := by intro _; rfl) :
    Seg M A R Y n s₀ c ((exec (.For target iter body orelse pos) env).wrap K H gd lv) fs s := by
  rw [exec_For, bind_wrap]
  refine seg_wrap (wpAny_standAt ?_)
  rw [bind_wrap]
  refine seg_wrap (noE (wpAny_mono h (fun x s₁ h₁ => ?_) fun _ _ x => x))
  rw [bind_wrap, hs x]
  refine seg_wrap (wpAny_pure ?_)
  rw [bind_wrap]
  refine seg_wrap (wpAny_standAt ?_)
  rw [bind_wrap]
  refine seg_wrap (noE (wpAny_holding (wpAny_mono h₁ (fun it s₂ h₂ => ?_) fun _ _ x => x)))
  exact seg_call h₂
end
section
variable {prog : Program} {w : World} {A : Around} {R : GenEnd} {Y : Protocol} {n : Nat} {s₀ : Shared} {fs : List Frame} {s : Shared} {env : Env}
def turnK (target : Expr) (it : Value) (body orelse : List Stmt) (env : Env) : Flow → Sem Fin := fun f => match f with
  | .next | .cont => .pure (.again (.forLoop target it body orelse env))
  | .brk => .pure (.done .next)
  | .ret v => .pure (.done (.ret v))
def noteH (env : Env) : Value → Sem Fin := fun e => (do noteFrame e env; theTreesLotGoes e : Sem Unit).wrap (fun _ => .raise e) .raise id id
theorem seg_forLoop {target : Expr} {it : Value} {body orelse : List Stmt}
    (h : wpAny (model prog w) (A.over (.forLoop target it body orelse env) fs) (pyNext it) (fun r s₁ => match r with
      | none => Seg (model prog w) A R Y n s₀ (.forLoop target it body orelse env) (.pure (.again (.block orelse env))) fs s₁
      | some v => wpAny (model prog w) (A.over (.forLoop target it body orelse env) fs) (letOwnedTupleGo target it v) (fun _ s₂ => wpAny (model prog w) (A.over (.forLoop target it body orelse env) fs) (assign target env v) (fun _ s₃ =>
          Seg (model prog w) A R Y n s₀ (.forLoop target it body orelse env) ((execs body env).wrap (turnK target it body orelse env) (noteH env) id id) fs s₃) (fun _ _ => False) s₂) (fun _ _ => False) s₁) (fun _ _ => False) s) :
    Seg (model prog w) A R Y n s₀ (.forLoop target it body orelse env) ((model prog w).den (.forLoop target it body orelse env)) fs s := by
  show Seg _ A R Y n s₀ _ ((forTurn target it body orelse env).onRaise (fun x => do noteFrame x env; theTreesLotGoes x)) fs s
  unfold forTurn
  rw [Sem.onRaise_eq_wrap, bind_wrap]
  refine seg_wrap (wpAny_standAt ?_)
  rw [bind_wrap]
  refine seg_wrap (wpAny_onRaise (noE (wpAny_mono h (fun r s₁ h₁ => ?_) fun _ _ x => x)))
  cases r with
  | none => exact h₁
  | some v =>
    show Seg _ A R Y n s₀ _ ((letOwnedTupleGo target it v >>= fun _ => _ : Sem Fin).wrap _ _ _ _) fs s₁
    rw [bind_wrap]
    refine seg_wrap (noE (wpAny_mono h₁ (fun _ s₂ h₂ => ?_) fun _ _ x => x))
    rw [bind_wrap]
    refine seg_wrap (noE (wpAny_mono h₂ (fun _ s₃ h₃ => ?_) fun _ _ x => x))
    rw [bind_wrap]
    have e : ∀ e : Value, noteH env e = (do noteFrame e env; theTreesLotGoes e : Sem Unit).bind fun _ => .raise e := fun e => by
      unfold noteH; rw [← Sem.bind_eq_wrap]
    rw [Sem.wrap_congr (execs body env) _ _ (K' := turnK target it body orelse env) (H' := noteH env) (fun f => by cases f <;> rfl) (fun x => (e x).symm)]
    exact h₃
theorem seg_block_nil (h : Seg (model prog w) A R Y n s₀ (.block [] env) (leafOf (.ok .next)) fs s) : Seg (model prog w) A R Y n s₀ (.block [] env) ((model prog w).den (.block [] env)) fs s := h
end
end Mine
namespace Mine
section
variable {prog : Program} {w : World} {A : Around} {R : Result → Shared → Prop}
theorem extend_loopJ (J : Nat → List Value → Shared → Prop) (JF : List Value → Shared → Prop) (S I : Addr) (res : Value) (N : Nat) (hN : N ≤ 1000)
    (item : ∀ k acc s c, J (k + 1) acc s → s.heap.get? S = some (listOf (List.toArray acc) c) → wpAny (model prog w) A.in1 (pyNext (.ref I)) (fun r s' => ∃ v, r = some v ∧ s'.heap.get? S = some (listOf (List.toArray acc) c) ∧
      ∀ h', (∀ b o, b ≠ S → s'.heap.get? b = some o → h'.get? b = some o) → J k (acc ++ [v]) { s' with heap := h' }) (fun _ _ => False) s)
    (done : ∀ acc s c, J 0 acc s → s.heap.get? S = some (listOf (List.toArray acc) c) → wpAny (model prog w) A.in1 (pyNext (.ref I)) (fun r s' => r = none ∧ s'.heap.get? S = some (listOf (List.toArray acc) c) ∧ JF acc s') (fun _ _ => False) s)
    (hR : ∀ s' acc c, JF acc s' → s'.heap.get? S = some (listOf (List.toArray acc) c) → R (.ok (.ret res)) s') :
    ∀ (k : Nat) (s : Shared) (acc : List Value) (c : Nat), J k acc s → s.heap.get? S = some (listOf (List.toArray acc) c) → acc.length + k = N → codeAny (model prog w) A (.builtin "list.extend.loop" ⟨[.ref S, .ref I, res], []⟩) R s := by
  intro k
  induction k with
  | zero =>
    intro s acc c hJ hS hk
    refine codeAny_builtin F.entry_extend_loop ?_
    rw [Around.under_plainId F.plain_extend_loop _]
    show wpAny _ A.in1 (pyNext (.ref I) >>= _) _ _ s
    refine wpAny_bind (noE (wpAny_mono (done acc s c hJ hS) (fun r s' h => ?_) fun _ _ x => x))
    obtain ⟨rfl, hS', hF⟩ := h
    exact wpAny_pure (hR s' acc c hF hS')
  | succ k ih =>
    intro s acc c hJ hS hk
    refine codeAny_builtin F.entry_extend_loop ?_
    rw [Around.under_plainId F.plain_extend_loop _]
    show wpAny _ A.in1 (pyNext (.ref I) >>= _) _ _ s
    refine wpAny_bind (noE (wpAny_mono (item k acc s c hJ hS) (fun r s' h => ?_) fun _ _ x => x))
    obtain ⟨v, rfl, hS', hJ'⟩ := h
    show wpAny _ A.in1 (updateSeq S (·.push v) >>= _) _ _ _
    refine wpAny_bind ?_
    have hsz : (List.toArray acc).size ≤ 1000 := by rw [List.size_toArray]; omega
    refine wpAny_updateSeq hS' rfl (wpAny_pure ⟨plainId_quiet F.plain_extend_loop _, ?_⟩) (by rw [sizeLine_eq]; omega) (by show ((List.toArray acc).push v).size ≤ sizeLine + 1; rw [Array.size_push, sizeLine_eq]; omega)
    have hget := Heap.get?_update_self (Obj.mapSeq (·.push v)) hS' rfl
    refine ih _ (acc ++ [v]) _ (hJ' _ fun b o hb e => (Heap.get?_update_other _ _ (Ne.symm hb)).trans e) (by rw [← List.push_toArray]; exact hget) (by rw [List.length_append, List.length_singleton]; omega)
end
section
variable {prog : Program} {w : World} {A : Around} {E : Value → Shared → Prop} {s : Shared}
theorem call_listJ {Q : Value → Shared → Prop} {I : Addr} {gid : Nat} (J : Addr → Nat → List Value → Shared → Prop) (JF : Addr → List Value → Shared → Prop) (N : Nat) (hN : N ≤ 1000) (hg : s.heap.IsGen I gid)
    (hJ : ∀ h', (∀ b o, s.heap.get? b = some o → h'.get? b = some o) → (∃ o, h'.get? s.heap.objs.size = some o ∧ o.cls = .type "list") → J s.heap.objs.size N [] { s with heap := h' })
    (item : ∀ S k acc s c, J S (k + 1) acc s → s.heap.get? S = some (listOf (List.toArray acc) c) → wpAny (model prog w) A.in1.in1 (pyNext (.ref I)) (fun r s' => ∃ v, r = some v ∧ s'.heap.get? S = some (listOf (List.toArray acc) c) ∧
      ∀ h', (∀ b o, b ≠ S → s'.heap.get? b = some o → h'.get? b = some o) → J S k (acc ++ [v]) { s' with heap := h' }) (fun _ _ => False) s)
    (done : ∀ S acc s c, J S 0 acc s → s.heap.get? S = some (listOf (List.toArray acc) c) → wpAny (model prog w) A.in1.in1 (pyNext (.ref I)) (fun r s' => r = none ∧ s'.heap.get? S = some (listOf (List.toArray acc) c) ∧ JF S acc s') (fun _ _ => False) s)
    (hQ : ∀ s' acc c, JF s.heap.objs.size acc s' → s'.heap.get? s.heap.objs.size = some (listOf (List.toArray acc) c) → Q (.ref s.heap.objs.size) s') :
    wpAny (model prog w) A (call (.type "list") [.ref I]) Q E s := by
  refine callType_codes (Q₁ := fun obj s₁ => obj = .ref s.heap.objs.size ∧ s₁ = { s with heap := s.heap.push { cls := .type "list", data := .seq #[] } }) F.called_list (F.typeCall_list_1 _) F.entry_list_init
    (code_list_new _ ⟨rfl, rfl⟩) fun obj s₁ h₁ => ?_
  obtain ⟨rfl, rfl⟩ := h₁
  have hS : (s.heap.push { cls := .type "list", data := .seq #[] }).get? s.heap.objs.size = some { cls := .type "list", data := .seq #[] } := Heap.get?_push_size _ rfl
  have hSI : s.heap.objs.size ≠ I := fun e => by
    obtain ⟨o, _, _, ho, _⟩ := hg
    exact absurd (Heap.lt_size ho) (e ▸ Nat.lt_irrefl _)
  refine ⟨⟨_, hS, rfl⟩, F.args_list_init_2 _ _, ?_⟩
  show wpAny _ A.in1.in1 (do let old ← Builtin.List.listItems (.ref s.heap.objs.size); Builtin.List.listUpdate (.ref s.heap.objs.size) (fun _ => #[]); letGo old.toList.reverse; Builtin.List.listExtendWith (.ref s.heap.objs.size) (.ref I) .none) _ _ _
  refine wpAny_bind ?_
  unfold Builtin.List.listItems
  refine wpAny_bind (wpAny_seqItems hS rfl (wpAny_pure ?_))
  show wpAny _ A.in1.in1 (updateSeq s.heap.objs.size (fun _ => #[]) >>= fun _ => letGo (#[] : Array Value).toList.reverse >>= fun _ => Builtin.List.listExtendWith (.ref s.heap.objs.size) (.ref I) .none) _ _ _
  refine wpAny_bind (wpAny_updateSeq hS rfl ?_)
  have hS₂ := Heap.get?_update_self (Obj.mapSeq (fun _ => (#[] : Array Value))) hS rfl
  have oth₂ : ∀ b o, s.heap.get? b = some o → ((s.heap.push { cls := .type "list", data := .seq #[] }).update s.heap.objs.size (Obj.mapSeq (fun _ => (#[] : Array Value)))).get? b = some o :=
    fun b o e => (Heap.get?_update_other _ _ (Ne.symm (Nat.ne_of_lt (Heap.lt_size e)))).trans (Heap.get?_push_of_some _ e)
  refine wpAny_bind (wpAny_letGo ?_)
  have hg₂ := hg.keeps oth₂
  unfold Builtin.List.listExtendWith
  refine wpAny_bind (wpAny_typeOf hg₂.typeIs ?_)
  have h1 : Builtin.List.listSameRef (.ref s.heap.objs.size) (.ref I) = false := by simp [Builtin.List.listSameRef, hSI]
  have h2 : (Value.type "generator" == Value.type "list") = false := by decide
  have h3 : (Value.type "generator" == Value.type "tuple") = false := by decide
  simp only [h1, h2, h3, Bool.or_false, Bool.false_eq_true, if_false]
  refine wpAny_bind (wpAny_pyIter_gen hg₂ ?_)
  refine wpAny_bind (wpAny_holding ?_)
  unfold Builtin.List.listLengthHint
  refine wpAny_bind (wpAny_specialOf hg₂.typeIs F.gen_no_len ?_)
  show wpAny _ A.in1.in1 (specialOf (Value.ref I) (Str.ofString "__length_hint__") >>= _) _ _ _
  refine wpAny_bind (wpAny_specialOf hg₂.typeIs F.gen_no_hint ?_)
  refine wpAny_pure ?_
  show wpAny _ A.in1.in1 (rule "list.extend.makes-room" >>= fun _ => Builtin.List.listTouch (.ref s.heap.objs.size) >>= fun _ =>
    again (.builtin "list.extend.loop" ⟨[.ref s.heap.objs.size, .ref I, .none], []⟩)) _ _ _
  refine wpAny_bind (wpAny_rule ?_)
  refine wpAny_bind ?_
  show wpAny _ A.in1.in1 (updateSeq s.heap.objs.size (·.push .none) >>= fun _ => updateSeq s.heap.objs.size (·.pop)) _ _ _
  refine wpAny_bind (wpAny_updateSeq hS₂ rfl ?_)
  have hS₃ := Heap.get?_update_self (Obj.mapSeq (·.push Value.none)) hS₂ rfl
  refine wpAny_updateSeq (hz := by seq_fits) hS₃ rfl ?_
  have hS₄ := Heap.get?_update_self (Obj.mapSeq (·.pop)) hS₃ rfl
  have oth₄ : ∀ b o, s.heap.get? b = some o → ((((s.heap.push { cls := .type "list", data := .seq #[] }).update s.heap.objs.size (Obj.mapSeq (fun _ => (#[] : Array Value)))).update s.heap.objs.size (Obj.mapSeq (·.push Value.none))).update s.heap.objs.size (Obj.mapSeq (·.pop))).get? b = some o :=
    fun b o e => by
      have hne : s.heap.objs.size ≠ b := Ne.symm (Nat.ne_of_lt (Heap.lt_size e))
      exact (Heap.get?_update_other _ _ hne).trans ((Heap.get?_update_other _ _ hne).trans (oth₂ b o e))
  refine wpAny_pure ⟨plainId_quiet F.plain_extend_loop _, ?_⟩
  refine extend_loopJ (A := A.in1) (J s.heap.objs.size) (JF s.heap.objs.size) _ I .none N hN (item _) (done _) (fun s' acc c hF hS' => ?_) N _ [] _ (hJ _ oth₄ ⟨_, hS₄, rfl⟩) hS₄ (by simp)
  exact ⟨rfl, hQ s' acc c hF hS'⟩
end
end Mine
namespace Mine
/-- what the generator's own running leaves as it was -/
def KeptH (g : Heap) (Lg : Addr) (h h' : Heap) : Prop := ∀ b o, h.get? b = some o → (g.get? b = some o ∨ (b ≠ Lg ∧ o.cls ≠ .type "list_iterator")) → h'.get? b = some o
theorem KeptH.refl {g : Heap} {Lg : Addr} {h : Heap} : KeptH g Lg h h := fun _ _ e _ => e
theorem KeptH.trans {g : Heap} {Lg : Addr} {h h' h'' : Heap} (x : KeptH g Lg h h') (y : KeptH g Lg h' h'') : KeptH g Lg h h'' := fun b o e c => y b o (x b o e c) c
def KeptG (g : Heap) (Lg : Addr) (s s' : Shared) : Prop := (∃ h tk, s' = { s with heap := h, toks := tk }) ∧ KeptH g Lg s.heap s'.heap
theorem KeptG.refl {g : Heap} {Lg : Addr} {s : Shared} : KeptG g Lg s s := ⟨⟨_, _, rfl⟩, KeptH.refl⟩
theorem KeptG.trans {g : Heap} {Lg : Addr} {s s' s'' : Shared} (x : KeptG g Lg s s') (y : KeptG g Lg s' s'') : KeptG g Lg s s'' := by
  obtain ⟨⟨h, tk, rfl⟩, hx⟩ := x
  obtain ⟨⟨h', tk', rfl⟩, hy⟩ := y
  exact ⟨⟨h', tk', rfl⟩, hx.trans hy⟩
/-- an object of the generator's making, or of its givens: not its ground's, not its frame, not the list that is filled, no iterator -/
def Outer (g : Heap) (Lg S : Addr) (h : Heap) (objs : List (Addr × Obj)) : Prop := ∀ p ∈ objs, h.get? p.1 = some p.2 ∧ g.get? p.1 = none ∧ p.1 ≠ Lg ∧ p.1 ≠ S ∧ p.2.cls ≠ .type "list_iterator"
theorem Outer.kept {g : Heap} {Lg S : Addr} {h h' : Heap} {objs : List (Addr × Obj)} (x : Outer g Lg S h objs) (k : KeptH g Lg h h') : Outer g Lg S h' objs :=
  fun p hp => ⟨k _ _ (x p hp).1 (.inr ⟨(x p hp).2.2.1, (x p hp).2.2.2.2⟩), (x p hp).2⟩
theorem Outer.but {g : Heap} {Lg S : Addr} {h h' : Heap} {objs : List (Addr × Obj)} (x : Outer g Lg S h objs) (k : ∀ b o, b ≠ S → h.get? b = some o → h'.get? b = some o) : Outer g Lg S h' objs :=
  fun p hp => ⟨k _ _ (x p hp).2.2.2.1 (x p hp).1, (x p hp).2⟩
theorem Outer.append {g : Heap} {Lg S : Addr} {h : Heap} {a b : List (Addr × Obj)} (x : Outer g Lg S h a) (y : Outer g Lg S h b) : Outer g Lg S h (a ++ b) :=
  fun p hp => (List.mem_append.mp hp).elim (x p) (y p)
def YG (g : Heap) (Lg S : Addr) (D : List Dat) : Protocol := fun n s₀ v s' kap => KeptG g Lg s₀ s' ∧
  (∃ d objs, D[D.length - (n + 1)]? = some d ∧ DatIn objs v d ∧ Outer g Lg S s'.heap objs) ∧
  ∀ s'', (∀ b o, b ≠ S → s'.heap.get? b = some o → s''.heap.get? b = some o) → (∃ o, s''.heap.get? S = some o ∧ o.cls = .type "list") → kap (.send .none) s''
def PG (g : Heap) (Lg : Addr) : Nat → Shared → Shared → Prop := fun n s₀ s₁ => n = 0 ∧ KeptG g Lg s₀ s₁
abbrev RG (g : Heap) (Lg : Addr) : GenEnd := fun n s₀ r s₁ => r = .ok (.ret .none) ∧ PG g Lg n s₀ s₁
/-- the generator stands ready: whatever list is filled, it yields D -/
def Ready (prog : Program) (w : World) (A : Around) (g : Heap) (Lg : Addr) (D : List Dat) (h₂ : Heap) (gs : GenState) : Prop :=
  ∀ S s'', h₂.get? S = none → (∃ o, s''.heap.get? S = some o ∧ o.cls = .type "list") → (∀ b o, h₂.get? b = some o → s''.heap.get? b = some o) → gs.Goes (model prog w) A (RG g Lg) (YG g Lg S D) D.length (.send .none) s''
/-- between two items, seen from the list that is filled -/
def GJ (prog : Program) (w : World) (A : Around) (g : Heap) (Lg gid : Nat) (D : List Dat) (s₂ : Shared) (S : Addr) (k : Nat) (acc : List Value) (s : Shared) : Prop :=
  ∃ gs objs h tk, s = { s₂ with heap := h, toks := tk, gens := s₂.gens.setIfInBounds gid gs } ∧ S ≠ Lg ∧ s₂.heap.get? S = none ∧ k + acc.length = D.length ∧ DatAll objs acc (D.take acc.length) ∧ Outer g Lg S h objs ∧ KeptH g Lg s₂.heap h ∧
    ∀ s'', (∀ b o, b ≠ S → h.get? b = some o → s''.heap.get? b = some o) → (∃ o, s''.heap.get? S = some o ∧ o.cls = .type "list") → gs.Goes (model prog w) A (RG g Lg) (YG g Lg S D) k (.send .none) s''
def GF (g : Heap) (Lg gid : Nat) (D : List Dat) (s₂ : Shared) (S : Addr) (acc : List Value) (s : Shared) : Prop :=
  ∃ objs h tk, s = { s₂ with heap := h, toks := tk, gens := s₂.gens.setIfInBounds gid .finished } ∧ DatAll objs acc D ∧ Outer g Lg S h objs ∧ KeptH g Lg s₂.heap h
section
variable {prog : Program} {w : World} {A : Around} {E : Value → Shared → Prop} {s : Shared}
theorem setGen_eq {s₂ : Shared} {h : Heap} {tk gid : Nat} {gs gs' : GenState} : ({ s₂ with heap := h, toks := tk, gens := s₂.gens.setIfInBounds gid gs } : Shared).setGen gid gs' = { s₂ with heap := h, toks := tk, gens := s₂.gens.setIfInBounds gid gs' } := by
  simp [Shared.setGen]
theorem sets_same {a : Array GenState} {i : Nat} {x : GenState} (h : a[i]? = some x) : a.setIfInBounds i x = a := by
  apply Array.ext_getElem?
  intro j
  rw [Array.getElem?_setIfInBounds]
  by_cases q : i = j
  · subst q
    have hlt : i < a.size := by
      rcases Nat.lt_or_ge i a.size with h' | h'
      · exact h'
      · rw [Array.getElem?_eq_none h'] at h; cases h
    rw [Array.getElem?_eq_getElem hlt] at h
    simp [hlt, Option.some.inj h]
  · simp [q]
theorem gen_ne_iter : Value.type "generator" ≠ Value.type "list_iterator" := by decide
theorem list_ne_iter : Value.type "list" ≠ Value.type "list_iterator" := by decide
theorem list_gen {Q : Value → Shared → Prop} {g h₀ : Heap} {L Lg G gid : Addr} {m : Str → Option Value} {news : List (Addr × Obj)} {D : List Dat} {gs : GenState}
    (hh : A.handled = none) (hroom : A.depth < recursionLimit) (hl : h₀.NoLimit) (hg : s.heap.IsGen G gid) (hGL : G ≠ Lg) (hLg : ∃ o, s.heap.get? Lg = some o) (hgs : s.gens[gid]? = some gs) (hD : D.length ≤ 1000)
    (FG : Fr h₀ L g m) (hgk : ∀ b o, g.get? b = some o → s.heap.get? b = some o) (F : Fr h₀ L s.heap m) (N : News h₀ L s.heap news) (hnew : ∀ p ∈ news, p.1 ≠ Lg ∧ p.2.cls ≠ .type "list_iterator")
    (hr : Ready prog w A.in1.in1.in1 g Lg D s.heap gs)
    (hQ : ∀ S acc objs c h' tk, Fr h₀ L h' m → News h₀ L h' ((S, listOf (List.toArray acc) c) :: (objs ++ news)) → DatAll objs acc D → Q (.ref S) { s with heap := h', toks := tk, gens := s.gens.setIfInBounds gid .finished }) :
    wpAny (model prog w) A (call (.type "list") [.ref G]) Q E s := by
  have hlt : gid < s.gens.size := by
    rcases Nat.lt_or_ge gid s.gens.size with h | h
    · exact h
    · rw [Array.getElem?_eq_none h] at hgs; cases hgs
  have hgS : ∀ (h : Heap), KeptH g Lg s.heap h → h.IsGen G gid := fun h k => by
    obtain ⟨o, nm, qn, ho, hc, r⟩ := hg
    exact ⟨o, nm, qn, k _ _ ho (.inr ⟨hGL, by rw [hc]; exact gen_ne_iter⟩), hc, r⟩
  have hgin : ∀ (h : Heap), KeptH g Lg s.heap h → ∀ b o, g.get? b = some o → h.get? b = some o := fun h k b o e => k b o (hgk b o e) (.inl e)
  have hlim : ∀ (h : Heap), KeptH g Lg s.heap h → h.NoLimit := fun h k => hl.keeps fun b o e => hgin h k b o (FG.keep b o e)
  have hfresh : s.heap.get? s.heap.objs.size = none := by
    cases q : s.heap.get? s.heap.objs.size with
    | none => rfl
    | some o => exact absurd (Heap.lt_size q) (Nat.lt_irrefl _)
  have hSL : s.heap.objs.size ≠ Lg := fun e => by
    obtain ⟨o, ho⟩ := hLg
    exact absurd (Heap.lt_size ho) (e ▸ Nat.lt_irrefl _)
  have hget : ∀ {gs' : GenState}, (s.gens.setIfInBounds gid gs')[gid]? = some gs' := fun {gs'} => by rw [Array.getElem?_setIfInBounds]; simp [hlt]
  refine call_listJ (GJ prog w A.in1.in1.in1 g Lg gid D s) (GF g Lg gid D s) D.length hD hg (fun h' hk hS => ?_) (fun S k acc s₁ c hJ hS => ?_) (fun S acc s₁ c hJ hS => ?_) (fun s' acc c hF hS => ?_)
  · refine ⟨gs, [], h', s.toks, ?_, hSL, hfresh, by simp, by simpa using DatAll.nil, (fun _ hp => nomatch hp), fun b o e _ => hk b o e, fun s'' h1 h2 => ?_⟩
    · rw [sets_same hgs]
    · exact hr s.heap.objs.size s'' hfresh h2 (fun b o e => h1 b o (Nat.ne_of_lt (Heap.lt_size e)) (hk b o e))
  · obtain ⟨gs₁, objs, h, tk, rfl, hSne, hSn, hk, hd, ho, hK, hgo⟩ := hJ
    refine wpAny_pyNext_gen (P := PG g Lg) (Y := YG g Lg S D) (n := k + 1) hh (hlim _ hK) hroom (hgS _ hK) hget (hgo _ (fun b o _ e => e) ⟨_, hS, rfl⟩) (fun v s₂ gs' hy => ?_) (fun s₂ hp => absurd hp.1 (Nat.succ_ne_zero k))
    obtain ⟨⟨⟨h₂, tk₂, rfl⟩, hKy⟩, ⟨d, objs', hdn, hdv, ho'⟩, hkap⟩ := hy
    have hKy' : KeptH g Lg h h₂ := hKy
    refine ⟨v, rfl, hKy' S _ hS (.inr ⟨hSne, list_ne_iter⟩), fun h' hk' => ?_⟩
    have hix : D.length - (k + 1) = acc.length := by omega
    have hdn' : D[acc.length]? = some d := by
      have q : D[D.length - (k + 1)]? = some d := hdn
      rwa [hix] at q
    refine ⟨gs', objs ++ objs', h', tk₂, by simp [Shared.setGen], hSne, hSn, by rw [List.length_append, List.length_singleton]; omega, ?_, ((ho.kept hKy').append ho').but hk', fun b o e c => ?_, fun s'' h1 h2 => ?_⟩
    · rw [List.length_append, List.length_singleton, List.take_add_one, hdn']
      exact (hd.mono fun p hp => List.mem_append_left _ hp).append (.cons (hdv.mono fun p hp => List.mem_append_right _ hp) .nil)
    · have hb : b ≠ S := fun e' => by rw [e', hSn] at e; cases e
      exact hk' b o hb (hKy' b o (hK b o e c) c)
    · exact hkap s'' (fun b o hb e => h1 b o hb (hk' b o hb e)) h2
  · obtain ⟨gs₁, objs, h, tk, rfl, hSne, hSn, hk, hd, ho, hK, hgo⟩ := hJ
    refine wpAny_pyNext_gen (P := PG g Lg) (Y := YG g Lg S D) (n := 0) hh (hlim _ hK) hroom (hgS _ hK) hget (hgo _ (fun b o _ e => e) ⟨_, hS, rfl⟩) (fun v s₂ gs' hy => ?_) (fun s₂ hp h' hk' => ?_)
    · exact ((hy.2.2 s₂ (fun b o _ e => e)) ⟨_, hy.1.2 S _ hS (.inr ⟨hSne, list_ne_iter⟩), rfl⟩ : False).elim
    · obtain ⟨-, ⟨h₂, tk₂, rfl⟩, hKy⟩ := hp
      have hKy' : KeptH g Lg h h₂ := hKy
      have hKz : KeptH g Lg h h' := hKy'.trans fun b o e _ => hk' b o e
      refine ⟨rfl, hKz S _ hS (.inr ⟨hSne, list_ne_iter⟩), objs, h', tk₂, ?_, ?_, ho.kept hKz, hK.trans hKz⟩
      · show ({ ({ ({ s with heap := h, toks := tk, gens := s.gens.setIfInBounds gid gs₁ } : Shared).setGen gid .running with heap := h₂, toks := tk₂ } : Shared).setGen gid .finished with heap := h' } : Shared) = _
        simp [Shared.setGen]
      · have : acc.length = D.length := by omega
        rwa [this, List.take_length] at hd
  · obtain ⟨objs, h, tk, rfl, hd, ho, hK⟩ := hF
    have hin := hgin h hK
    obtain ⟨oL, a1, a2, hoL, a3⟩ := FG.ns
    refine hQ _ acc objs c h tk ⟨⟨oL, a1, a2, hin _ _ hoL, a3⟩, fun b o e => hin b o (FG.keep b o e), FG.above⟩ (fun p hp => ?_) hd
    have h0 : ∀ b, g.get? b = none → h₀.get? b = none := fun b e => by
      cases q : h₀.get? b with
      | none => rfl
      | some o => rw [FG.keep b o q] at e; cases e
    have hLn : ∀ b, g.get? b = none → b ≠ L := fun b e => by
      rintro rfl
      rw [hoL] at e; cases e
    have gS : g.get? s.heap.objs.size = none := by
      cases q : g.get? s.heap.objs.size with
      | none => rfl
      | some o => rw [hgk _ _ q] at hfresh; cases hfresh
    rcases List.mem_cons.mp hp with rfl | hp
    · exact ⟨hS, hLn _ gS, h0 _ gS⟩
    · rcases List.mem_append.mp hp with hp | hp
      · exact ⟨(ho p hp).1, hLn _ (ho p hp).2.1, h0 _ (ho p hp).2.1⟩
      · exact ⟨hK _ _ (N p hp).1 (.inr (hnew p hp)), (N p hp).2⟩
end
end Mine
namespace Mine
example : (fun (_ : OpenLaw) (_ : Params → Frag) => True) PySem.Challenge.rw_et5022_01 Mine.hd.heap_39 := by
  k_fill
  trivial
theorem hideNone {h : Heap} {news : List (Addr × Obj)} : ∀ p ∈ news, (hideAll h (news.map (·.1))).get? p.1 = none := fun _ hp => hideAll_none _ (List.mem_map_of_mem hp)
/-- a call of a generator's def: the generator stands, its frame is laid, nothing has run -/
theorem callG {prog : Program} {w : World} {A₀ A : Around} {s : Shared} {base h₀ : Heap} {outer : List Env} {L : Addr} {m : Str → Option Value} {env : Env} {news : List (Addr × Obj)} {K : Frag}
    {p : Program} {loose : List Str} {mean : ExcName → Option Value} {mg mb : Str → Option Value} {R : Result → Shared → Prop} {name qual : Str} {params : Arguments} {body : List Stmt} {scope : Scope} {dV kV doc pm cdv ct oc : Value} {an od : Option Addr} {osl : Array (Option Value)} {f : Addr} {args : Args} {binds : List (Str × Value)}
    (B : Below A₀ base outer h₀) (F : Fr h₀ L s.heap m) (X₀ : K.In h₀) (N : News h₀ L s.heap news) (T : Top p loose mean mg mb h₀) (hA : A.frames = some (env :: outer)) (hf : env.frame = some L) (hke : env.scope.kind = .function)
    (ho : K.lookup f = some ⟨oc, od, .func (fnOf name qual params body scope dV kV doc pm an cdv ct), osl⟩) (hcd : codeIn K cdv qual = true) (hroom : A.depth < recursionLimit)
    (hbind : BindsTo s (fnOf name qual params body scope dV kV doc pm an cdv ct) args binds) (hloc : ∀ y ∈ binds, scope.names.lookup y.1 = some .local)
    (h : ∀ g L' h₁ G tk o, Fr h₀ L g m → Fr g L' h₁ (fun y => binds.reverse.lookup y) → Fr h₀ L h₁ m → News g L' h₁ news → News h₀ L h₁ ((G, o) :: news) → g.get? G = none → G ≠ L' → K.In g → Top p loose mean mg mb g →
      (∀ b o, g.get? b = some o → h₁.get? b = some o) → (∀ p ∈ news, g.get? p.1 = none ∧ p.1 ≠ L') → h₁.IsGen G s.gens.size →
      R (.ok (.ret (.ref G))) { s with heap := h₁, toks := tk, gens := s.gens.push (.fresh (.func body (envOf qual scope L' f cdv))) })
    (hco : scope.isCoroutine = false := by rfl) (hgen : scope.isGenerator = true := by rfl) (hk : scope.kind = .function := by rfl)
    (hcell : ∀ x ∈ scope.names, x.2 ≠ .cell := by decide) : codeAny (model prog w) A (.call (.ref f) args) R s := by
  have X := X₀.keeps F.keep
  obtain ⟨FG, BG, st, _⟩ := groundX (R := fun _ _ => True) B F N hA hf hke
  refine codeAny_call_generator (fd := fnOf name qual params body scope dV kV doc pm an cdv ct) hroom (X _ _ ho) rfl hco hgen rfl (codeRec_of X hcd) (hbind _ _ _ _ ?_)
  refine wpAny_newFunctionEnv hcell hloc (fun h₁ hns hsb => ?_) hk
  have up : ∀ b o, s.heap.get? b = some o → h₁.get? b = some o := fun b o e => hsb.extBut b o (Nat.ne_of_lt (Heap.lt_size e)) (Heap.get?_push_of_some _ e)
  refine ⟨(T.nolimit.keeps F.keep).fresh _ hsb, ?_⟩
  have hgsz : ∀ b, s.heap.objs.size ≤ b → (hideAll s.heap (news.map (·.1))).get? b = none := fun b hb => Heap.get?_none_of_le (by rw [hideAll_size]; exact hb)
  have hL'G : s.heap.objs.size < h₁.objs.size := hns.lt
  suffices main : ∀ (go : Obj) (tk : Nat), go.cls = .type "generator" → (∃ nm qn, go.data = .fields #[.int s.gens.size 0, nm, qn]) → go.slots = #[] →
      R (.ok (.ret (.ref h₁.objs.size))) { s with heap := h₁.push go, toks := tk, gens := s.gens.push (.fresh (.func body (envOf qual scope s.heap.objs.size f cdv))) } from main _ _ rfl ⟨_, _, rfl⟩ rfl
  intro go tk hgc ⟨nm, qn, hgd⟩ hgs
  have up2 : ∀ b o, s.heap.get? b = some o → (h₁.push go).get? b = some o := fun b o e => Heap.get?_push_of_some _ (up b o e)
  have hgo : (h₁.push go).get? h₁.objs.size = some go := Heap.get?_push_size _ (by obtain ⟨c, d, dt, sl⟩ := go; simp only at hgd; subst hgd; rfl)
  refine h (hideAll s.heap (news.map (·.1))) s.heap.objs.size (h₁.push go) h₁.objs.size tk go FG ⟨hns.push _, fun b o e => up2 b o (of_hideAll _ e), Nat.le_of_eq (hideAll_size _ _)⟩ (F.keptAll up2)
    (fun p hp => ⟨up2 _ _ (N p hp).1, Nat.ne_of_lt (Heap.lt_size (N p hp).1), hideNone p hp⟩) (fun p hp => ?_) (hgsz _ (Nat.le_of_lt hL'G)) (Ne.symm (Nat.ne_of_lt hL'G)) (X₀.keeps fun b o e => st b o e) (T.keeps fun b o e => st b o e)
    (fun b o e => up2 b o (of_hideAll _ e)) (fun p hp => ⟨hideNone p hp, Nat.ne_of_lt (Heap.lt_size (N p hp).1)⟩) ⟨_, _, _, hgo, hgc, hgd, hgs⟩
  rcases List.mem_cons.mp hp with rfl | hp
  · exact ⟨hgo, Ne.symm (Nat.ne_of_lt (Nat.lt_trans F.ns.lt hL'G)), Heap.get?_none_of_le (Nat.le_trans F.above (Nat.le_of_lt (Nat.lt_trans F.ns.lt hL'G)))⟩
  · exact ⟨up2 _ _ (N p hp).1, (N p hp).2⟩
end Mine
namespace Mine
/-- what the generator keeps between two tokens -/
structure GSt where
  lb : Bool
  uc : Bool
  pk : Option Int
  px : Option Str
def optI : Option Int → Dat
  | none => .none
  | some k => .int k
def optS : Option Str → Dat
  | none => .none
  | some x => .str x
/-- the generator's names -/
def genM (lb uc : Bool) (vk vx : Value) (u : Str → Option Value) : Str → Option Value := fun y =>
  if y = Str.ofString "line_break" then some (.bool lb) else if y = Str.ofString "unary_context" then some (.bool uc) else if y = Str.ofString "previous_token_type" then some vk else
  if y = Str.ofString "previous_text" then some vx else u y
theorem genM_self {lb uc : Bool} {vk vx : Value} {m : Str → Option Value} (h1 : m (Str.ofString "line_break") = some (.bool lb)) (h2 : m (Str.ofString "unary_context") = some (.bool uc)) (h3 : m (Str.ofString "previous_token_type") = some vk) (h4 : m (Str.ofString "previous_text") = some vx) :
    m = genM lb uc vk vx m := by
  funext y
  unfold genM
  split
  · rename_i e; rw [e]; exact h1
  split
  · rename_i e; rw [e]; exact h2
  split
  · rename_i e; rw [e]; exact h3
  split
  · rename_i e; rw [e]; exact h4
  rfl
/-- the objects that the generator's ledger keeps -/
def PubIs (g : Heap) (Lg : Addr) (h : Heap) (pub : List (Addr × Obj)) : Prop := ∀ b o, (b, o) ∈ pub ↔ h.get? b = some o ∧ g.get? b = none ∧ b ≠ Lg ∧ o.cls ≠ .type "list_iterator"
open Classical in
theorem pub_is (g : Heap) (Lg : Addr) (h : Heap) : ∃ pub, PubIs g Lg h pub := by
  refine ⟨((List.range h.objs.size).filterMap fun b => (h.get? b).map fun o => (b, o)).filter fun p => decide (g.get? p.1 = none ∧ p.1 ≠ Lg ∧ p.2.cls ≠ .type "list_iterator"), fun b o => ?_⟩
  rw [List.mem_filter, List.mem_filterMap]
  constructor
  · rintro ⟨⟨a, ha, e⟩, hc⟩
    cases q : h.get? a with
    | none => rw [q] at e; cases e
    | some x =>
      rw [q] at e
      cases e
      exact ⟨q, of_decide_eq_true hc⟩
  · rintro ⟨q, hc⟩
    exact ⟨⟨b, List.mem_range.mpr (Heap.lt_size q), by rw [q]; rfl⟩, decide_eq_true hc⟩
theorem PubIs.news {g h : Heap} {Lg : Addr} {pub : List (Addr × Obj)} (P : PubIs g Lg h pub) : News g Lg h pub := fun p hp =>
  have q := (P p.1 p.2).mp hp
  ⟨q.1, q.2.2.1, q.2.1⟩
theorem PubIs.kept {g h h' : Heap} {Lg : Addr} {m m' : Str → Option Value} {pub led : List (Addr × Obj)} (P : PubIs g Lg h pub) (F : Fr g Lg h m) (F' : Fr g Lg h' m') (N' : News g Lg h' led) (hs : ∀ p ∈ pub, p ∈ led) : KeptH g Lg h h' := by
  rintro b o e (c | ⟨c, d⟩)
  · exact F'.keep b o c
  · cases q : g.get? b with
    | none => exact (N' _ (hs _ ((P b o).mpr ⟨e, q, c, d⟩))).1
    | some o' =>
      have := F.keep b o' q
      rw [e] at this
      cases this
      exact F'.keep b o q
/-- a text that ends a line -/
def nl (x : Str) : Bool := PySem.Txt.contains x (Str.ofString "\n") || PySem.Txt.contains x (Str.ofString "\r")
def opens (x : Str) : Bool := PySem.Txt.contains (Str.ofString "([{,;") x
def outD (st : GSt) (j : Nat) (r : Row) : Dat := .tuple [.int r.k, .str r.x, optI st.pk, optS st.px, .bool st.lb, .bool st.uc, startD j]
/-- what the generator yields -/
def genSpec : GSt → List (Nat × Row) → List Dat
  | _, [] => []
  | st, (j, r) :: rest =>
    if r.k = 61 then genSpec st rest
    else if nl r.x = true ∧ r.k ≠ 3 then genSpec { st with lb := true } rest
    else outD st j r :: genSpec ⟨false, opens r.x, some r.k, some r.x⟩ rest
theorem spec_skip {st : GSt} {j : Nat} {r : Row} {rest : List (Nat × Row)} (h : r.k = 61) : genSpec st ((j, r) :: rest) = genSpec st rest := by rw [genSpec, if_pos h]
theorem spec_line {st : GSt} {j : Nat} {r : Row} {rest : List (Nat × Row)} (h : r.k ≠ 61) (hn : nl r.x = true) (h3 : r.k ≠ 3) : genSpec st ((j, r) :: rest) = genSpec { st with lb := true } rest := by rw [genSpec, if_neg h, if_pos ⟨hn, h3⟩]
theorem spec_out {st : GSt} {j : Nat} {r : Row} {rest : List (Nat × Row)} (h : r.k ≠ 61) (hn : ¬ (nl r.x = true ∧ r.k ≠ 3)) : genSpec st ((j, r) :: rest) = outD st j r :: genSpec ⟨false, opens r.x, some r.k, some r.x⟩ rest := by rw [genSpec, if_neg h, if_neg hn]
abbrev itemsOf (rows : List Row) : List (Nat × Row) := rows.mapIdx fun j r => (j, r)
theorem items_drop {rows : List Row} {i : Nat} (h : i < rows.length) : (itemsOf rows).drop i = (i, rows[i]) :: (itemsOf rows).drop (i + 1) := by
  rw [List.drop_eq_getElem_cons (by rw [List.length_mapIdx]; exact h), List.getElem_mapIdx]
/-- what stands while the generator runs -/
structure GMid (g : Heap) (Lg S IT Tk : Addr) (news : List (Addr × Obj)) (i : Nat) (s₀ s : Shared) : Prop where
  it : s.heap.IsListIter IT Tk i
  nL : IT ≠ Lg
  nS : IT ≠ S
  ng : g.get? IT = none
  nw : ∀ p ∈ news, s.heap.get? p.1 = some p.2 ∧ g.get? p.1 = none ∧ p.1 ≠ Lg ∧ p.1 ≠ S ∧ p.2.cls ≠ .type "list_iterator"
  hS : ∃ o, s.heap.get? S = some o ∧ o.cls = .type "list"
  SL : S ≠ Lg
  Sg : g.get? S = none
  k : KeptG g Lg s₀ s
theorem GMid.walk {g h' : Heap} {Lg S IT Tk : Addr} {news pub led : List (Addr × Obj)} {i tk : Nat} {s₀ s : Shared} {it' : Obj} {m m' : Str → Option Value} (M : GMid g Lg S IT Tk news i s₀ s) (P : PubIs g Lg s.heap pub) (hi : s.heap.get? IT = some it') (F : Fr g Lg s.heap m)
    (F' : Fr g Lg h' m') (N' : News g Lg h' led) (hl : ∀ p ∈ (IT, it') :: pub, p ∈ led) : GMid g Lg S IT Tk news i s₀ { s with heap := h', toks := tk } := by
  have hk : KeptH g Lg s.heap h' := P.kept F F' N' fun p hp => hl p (.tail _ hp)
  refine ⟨?_, M.nL, M.nS, M.ng, fun p hp => ?_, ?_, M.SL, M.Sg, M.k.trans ⟨⟨_, _, rfl⟩, hk⟩⟩
  · obtain ⟨o, ho, r⟩ := M.it
    rw [hi] at ho
    cases ho
    exact ⟨_, (N' _ (hl _ (.head _))).1, r⟩
  · obtain ⟨q1, q2, q3, q4, q5⟩ := M.nw p hp
    exact ⟨hk _ _ q1 (.inr ⟨q3, q5⟩), q2, q3, q4, q5⟩
  · obtain ⟨o, ho, hc⟩ := M.hS
    exact ⟨o, hk _ _ ho (.inr ⟨M.SL, by rw [hc]; exact list_ne_iter⟩), hc⟩
theorem GMid.resume {g : Heap} {Lg S IT Tk : Addr} {news : List (Addr × Obj)} {i : Nat} {s₀ s s'' : Shared} (M : GMid g Lg S IT Tk news i s₀ s) (hk : ∀ b o, b ≠ S → s.heap.get? b = some o → s''.heap.get? b = some o)
    (hS : ∃ o, s''.heap.get? S = some o ∧ o.cls = .type "list") : GMid g Lg S IT Tk news i s'' s'' := by
  refine ⟨?_, M.nL, M.nS, M.ng, fun p hp => ?_, hS, M.SL, M.Sg, KeptG.refl⟩
  · obtain ⟨o, ho, r⟩ := M.it
    exact ⟨o, hk _ _ M.nS ho, r⟩
  · obtain ⟨q1, q2, q3, q4, q5⟩ := M.nw p hp
    exact ⟨hk _ _ q4 q1, q2, q3, q4, q5⟩
theorem GMid.frame {g : Heap} {Lg S IT Tk : Addr} {news : List (Addr × Obj)} {i : Nat} {s₀ s s'' : Shared} {m : Str → Option Value} (M : GMid g Lg S IT Tk news i s₀ s) (hk : ∀ b o, b ≠ S → s.heap.get? b = some o → s''.heap.get? b = some o)
    (F : Fr g Lg s.heap m) : Fr g Lg s''.heap m := by
  obtain ⟨oL, e1, e2, hL, r⟩ := F.ns
  refine ⟨⟨oL, e1, e2, hk _ _ (Ne.symm M.SL) hL, r⟩, fun b o e => hk b o (fun q => ?_) (F.keep b o e), F.above⟩
  rw [q, M.Sg] at e; cases e
/-- the ledger of a stretch -/
theorem GMid.ledger {g : Heap} {Lg S IT Tk : Addr} {news : List (Addr × Obj)} {i : Nat} {s₀ s : Shared} (M : GMid g Lg S IT Tk news i s₀ s) : ∃ it' pub, s.heap.get? IT = some it' ∧ PubIs g Lg s.heap pub ∧ News g Lg s.heap ((IT, it') :: pub) ∧ ∀ p ∈ news, p ∈ pub := by
  obtain ⟨pub, P⟩ := pub_is g Lg s.heap
  obtain ⟨it', hi, _⟩ := id M.it
  refine ⟨it', pub, hi, P, fun p hp => ?_, fun p hp => ?_⟩
  · rcases List.mem_cons.mp hp with rfl | hp
    · exact ⟨hi, M.nL, M.ng⟩
    · exact P.news p hp
  · obtain ⟨q1, q2, q3, q4, q5⟩ := M.nw p hp
    exact (P p.1 p.2).mpr ⟨q1, q2, q3, q5⟩
/-- between two turns of the generator's loop -/
structure GInv (g : Heap) (Lg S IT Tk : Addr) (news : List (Addr × Obj)) (rows : List Row) (D : List Dat) (N i : Nat) (st : GSt) (s₀ s : Shared) : Prop where
  F : ∃ vk vx u, Fr g Lg s.heap (genM st.lb st.uc vk vx u) ∧ DatIn [] vk (optI st.pk) ∧ DatIn [] vx (optS st.px)
  mid : GMid g Lg S IT Tk news i s₀ s
  hN : (genSpec st ((itemsOf rows).drop i)).length = N
  hD : ∃ pre, D = pre ++ genSpec st ((itemsOf rows).drop i)
theorem loop_ind {prog : Program} {w : World} {A' : Around} {target : Expr} {body : List Stmt} {env : Env} {fs : List Frame} {g : Heap} {Lg S IT Tk : Addr} {news : List (Addr × Obj)} {rows : List Row} {D : List Dat}
    (turn : ∀ IT i, i < rows.length → (∀ N st s₀ s, GInv g Lg S IT Tk news rows D N (i + 1) st s₀ s → Seg (model prog w) A' (RG g Lg) (YG g Lg S D) N s₀ (.forLoop target (.ref IT) body [] env) ((model prog w).den (.forLoop target (.ref IT) body [] env)) fs s) →
      ∀ N st s₀ s, GInv g Lg S IT Tk news rows D N i st s₀ s → Seg (model prog w) A' (RG g Lg) (YG g Lg S D) N s₀ (.forLoop target (.ref IT) body [] env) ((model prog w).den (.forLoop target (.ref IT) body [] env)) fs s)
    (fin : ∀ IT N st s₀ s, GInv g Lg S IT Tk news rows D N rows.length st s₀ s → Seg (model prog w) A' (RG g Lg) (YG g Lg S D) N s₀ (.forLoop target (.ref IT) body [] env) ((model prog w).den (.forLoop target (.ref IT) body [] env)) fs s)
    {N : Nat} {st : GSt} {s₀ s : Shared} (h : GInv g Lg S IT Tk news rows D N 0 st s₀ s) : Seg (model prog w) A' (RG g Lg) (YG g Lg S D) N s₀ (.forLoop target (.ref IT) body [] env) ((model prog w).den (.forLoop target (.ref IT) body [] env)) fs s := by
  have all : ∀ k i, i + k = rows.length → ∀ N st s₀ s, GInv g Lg S IT Tk news rows D N i st s₀ s → Seg (model prog w) A' (RG g Lg) (YG g Lg S D) N s₀ (.forLoop target (.ref IT) body [] env) ((model prog w).den (.forLoop target (.ref IT) body [] env)) fs s := by
    intro k
    induction k with
    | zero =>
      intro i hi N st s₀ s hg
      have e : i = rows.length := by omega
      rw [e] at hg
      exact fin IT N st s₀ s hg
    | succ k ih => exact fun i hi N st s₀ s hg => turn IT i (by omega) (ih (i + 1) (by omega)) N st s₀ s hg
  exact all rows.length 0 (by omega) N st s₀ s h
/-- a token that stands in the ledger -/
structure TokAt (pub : List (Addr × Obj)) (a c1 : Addr) (j : Nat) (r : Row) : Prop where
  tok : ∃ n c2 t1 t2 t3, (a, ({ cls := .type "tuple", data := .seq #[.int r.k t1, .str r.x t2, .ref c1, .ref c2, .str (Str.ofString "x\n") t3] n } : Obj)) ∈ pub
  start : ∃ n t1 t2, (c1, ({ cls := .type "tuple", data := .seq #[.int (1 + (j : Int).fdiv 3) t1, .int j t2] n } : Obj)) ∈ pub
theorem tok_at {news : List (Addr × Obj)} {v : Value} {j : Nat} {r : Row} (h : DatIn news v (tokD j r)) : ∃ a c1, v = .ref a ∧ TokAt news a c1 j r := by
  unfold tokD startD at h
  cases h with
  | tuple hm r1 =>
    cases r1 with
    | cons a1 r1 =>
    cases r1 with
    | cons a2 r2 =>
    cases r2 with
    | cons a3 r3 =>
    cases r3 with
    | cons a4 r4 =>
    cases r4 with
    | cons a5 r5 =>
    cases r5
    cases a1; cases a2; cases a5
    cases a4 with
    | tuple hm4 _ =>
    cases a3 with
    | tuple hm3 q =>
    cases q with
    | cons b1 q =>
    cases q with
    | cons b2 q =>
    cases q
    cases b1; cases b2
    exact ⟨_, _, rfl, ⟨_, _, _, _, _, hm⟩, ⟨_, _, _, hm3⟩⟩
theorem ginv_next {prog : Program} {w : World} {A : Around} {g : Heap} {Lg S IT Tk : Addr} {news : List (Addr × Obj)} {rows : List Row} {D : List Dat} {N i n : Nat} {st : GSt} {s₀ s : Shared} {vs : List Value} {Q : Option Value → Shared → Prop} {E : Value → Shared → Prop}
    (I : GInv g Lg S IT Tk news rows D N i st s₀ s) (hT : (Tk, listOf vs.toArray n) ∈ news) (hd : DatAll news vs (rows.mapIdx tokD)) (hin : i < rows.length)
    (k : ∀ h₁ it' pub vk vx u a c1, GMid g Lg S IT Tk news (i + 1) s₀ { s with heap := h₁ } → Fr g Lg h₁ (genM st.lb st.uc vk vx u) → DatIn [] vk (optI st.pk) → DatIn [] vx (optS st.px) → News g Lg h₁ ((IT, it') :: pub) → PubIs g Lg h₁ pub → h₁.get? IT = some it' → TokAt news a c1 i rows[i] →
      (∀ p ∈ news, p ∈ pub) → Q (some (.ref a)) { s with heap := h₁ }) :
    wpAny (model prog w) A (pyNext (.ref IT)) Q E s := by
  have hix : i < (rows.mapIdx tokD).length := by rw [List.length_mapIdx]; exact hin
  obtain ⟨v, hv, hdv⟩ := hd.get hix
  rw [List.getElem_mapIdx] at hdv
  obtain ⟨a, c1, rfl, hta⟩ := tok_at hdv
  have M := I.mid
  refine wpAny_pyNext_list_item M.it ⟨_, (M.nw _ hT).1, rfl, _, rfl⟩ (by simpa using hv) fun h₁ hit hs => ?_
  obtain ⟨vk, vx, u, F, d1, d2⟩ := I.F
  have hK : KeptH g Lg s.heap h₁ := fun b o e c => (hs.2 b fun q => by
    subst q
    rcases c with c | ⟨_, c⟩
    · rw [M.ng] at c; cases c
    · obtain ⟨o', ho', hc', _⟩ := M.it
      rw [ho'] at e
      cases e
      exact c hc').trans e
  have F₁ : Fr g Lg h₁ (genM st.lb st.uc vk vx u) := ⟨F.ns.sameBut hs (Ne.symm M.nL), fun b o e => hK b o (F.keep b o e) (.inl e), F.above⟩
  have M₁ : GMid g Lg S IT Tk news (i + 1) s₀ { s with heap := h₁ } := by
    refine ⟨hit, M.nL, M.nS, M.ng, fun p hp => ?_, ?_, M.SL, M.Sg, M.k.trans ⟨⟨_, _, rfl⟩, hK⟩⟩
    · obtain ⟨q1, q2, q3, q4, q5⟩ := M.nw p hp
      exact ⟨hK _ _ q1 (.inr ⟨q3, q5⟩), q2, q3, q4, q5⟩
    · obtain ⟨o, ho, hc⟩ := M.hS
      exact ⟨o, hK _ _ ho (.inr ⟨M.SL, by rw [hc]; exact list_ne_iter⟩), hc⟩
  obtain ⟨it', pub, hi, P, N₁, hsub⟩ := M₁.ledger
  exact k h₁ it' pub vk vx u a c1 M₁ F₁ d1 d2 N₁ P hi hta hsub
theorem ginv_end {prog : Program} {w : World} {A : Around} {g : Heap} {Lg S IT Tk : Addr} {news : List (Addr × Obj)} {rows : List Row} {D : List Dat} {N n : Nat} {st : GSt} {s₀ s : Shared} {vs : List Value} {Q : Option Value → Shared → Prop} {E : Value → Shared → Prop} (hh : A.handled = none)
    (I : GInv g Lg S IT Tk news rows D N rows.length st s₀ s) (hT : (Tk, listOf vs.toArray n) ∈ news) (hd : DatAll news vs (rows.mapIdx tokD))
    (k : ∀ h₁, N = 0 → KeptG g Lg s₀ { s with heap := h₁ } → Q none { s with heap := h₁ }) :
    wpAny (model prog w) A (pyNext (.ref IT)) Q E s := by
  have M := I.mid
  have hl : vs.length = rows.length := by rw [hd.length, List.length_mapIdx]
  refine wpAny_pyNext_list_end hh M.it ⟨_, (M.nw _ hT).1, rfl, _, rfl⟩ (by simp [hl]) fun h₁ hs => ?_
  have hN := I.hN
  rw [List.drop_eq_nil_of_le (by rw [List.length_mapIdx]; exact Nat.le_refl _)] at hN
  have hK : KeptH g Lg s.heap h₁ := fun b o e c => hs b o (fun q => by
    subst q
    rcases c with c | ⟨_, c⟩
    · rw [M.ng] at c; cases c
    · obtain ⟨o', ho', hc', _⟩ := M.it
      rw [ho'] at e
      cases e
      exact c hc') e
  exact k h₁ hN.symm (M.k.trans ⟨⟨_, _, rfl⟩, hK⟩)
theorem nlA {x : Str} {k : Int} (h1 : PySem.Txt.contains x (Str.ofString "\n") = true) (h : k ≠ 3) : true = (nl x && decide (k ≠ 3)) := by unfold nl; rw [h1, decide_eq_true h]; rfl
theorem nlB {x : Str} {k : Int} (h : k = 3) : false = (nl x && decide (k ≠ 3)) := by rw [decide_eq_false (fun q => q h), Bool.and_false]
theorem nlC {x : Str} {k : Int} (h1 : PySem.Txt.contains x (Str.ofString "\r") = true) (h : k ≠ 3) : true = (nl x && decide (k ≠ 3)) := by unfold nl; rw [h1, decide_eq_true h, Bool.or_true]; rfl
theorem nlE {x : Str} {k : Int} (h1 : PySem.Txt.contains x (Str.ofString "\n") = false) (h2 : PySem.Txt.contains x (Str.ofString "\r") = false) : false = (nl x && decide (k ≠ 3)) := by unfold nl; rw [h1, h2]; rfl
theorem tup_ne_iter : Value.type "tuple" ≠ Value.type "list_iterator" := by decide
theorem toGen {g h : Heap} {Lg : Addr} {lb uc : Bool} {vk vx : Value} {m : Str → Option Value} (F : Fr g Lg h m) (h1 : m (Str.ofString "line_break") = some (.bool lb)) (h2 : m (Str.ofString "unary_context") = some (.bool uc)) (h3 : m (Str.ofString "previous_token_type") = some vk)
    (h4 : m (Str.ofString "previous_text") = some vx) : Fr g Lg h (genM lb uc vk vx m) := by
  have e := genM_self h1 h2 h3 h4
  rw [← e]; exact F
theorem seg_If_mid {M : Model} {A : Around} {R : GenEnd} {Y : Protocol} {n : Nat} {s₀ : Shared} {c : Code} {fs : List Frame} {s : Shared} {env : Env}
    {K : Flow → Sem Fin} {H : Value → Sem Fin} {gd : Bool → Bool} {lv : List Value → List Value} {test : Expr} {body orelse : List Stmt} {pos : Pos} {g : Heap} {Lg : Addr} {m : Str → Option Value} {led : List (Addr × Obj)} (bb : Bool)
    (_F : Fr g Lg s.heap m) (_N : News g Lg s.heap led)
    (h : wpAny M (A.over c fs) (isTrue test env (eval test env)) (fun b s₁ => b = bb ∧ ∃ h' tk, s₁ = { s with heap := h', toks := tk } ∧ Fr g Lg h' m ∧ News g Lg h' led) (fun _ _ => False) s)
    (ht : bb = true → ∀ h' tk, Fr g Lg h' m → News g Lg h' led → Seg M A R Y n s₀ c ((execs body env).wrap K H gd lv) fs { s with heap := h', toks := tk })
    (hf : bb = false → ∀ h' tk, Fr g Lg h' m → News g Lg h' led → Seg M A R Y n s₀ c ((execs orelse env).wrap K H gd lv) fs { s with heap := h', toks := tk }) :
    Seg M A R Y n s₀ c ((exec (.If test body orelse pos) env).wrap K H gd lv) fs s := by
  refine seg_If (wpAny_mono h (fun b s₁ hb => ?_) fun _ _ x => x)
  obtain ⟨rfl, h', tk, rfl, F, N⟩ := hb
  cases b with
  | true => exact ht rfl h' tk F N
  | false => exact hf rfl h' tk F N
theorem at_pre {α : Type} {D pre rest : List α} {d : α} (h : D = pre ++ d :: rest) : D[D.length - (rest.length + 1)]? = some d := by
  subst h
  have e : (pre ++ d :: rest).length - (rest.length + 1) = pre.length := by rw [List.length_append, List.length_cons]; omega
  rw [e]; simp
/-- what a yielded tuple shows -/
theorem out_yields {g h : Heap} {Lg S a c1 : Addr} {j : Nat} {r : Row} {st : GSt} {vk vx : Value} {t1 t2 : Tok} {news : List (Addr × Obj)}
    (d1 : DatIn [] vk (optI st.pk)) (d2 : DatIn [] vx (optS st.px)) {a₀ : Addr} (hta : TokAt news a₀ c1 j r)
    (hnew : ∀ p ∈ news, h.get? p.1 = some p.2 ∧ g.get? p.1 = none ∧ p.1 ≠ Lg ∧ p.1 ≠ S ∧ p.2.cls ≠ .type "list_iterator")
    (ha : h.get? a = some (tupO #[.int r.k t1, .str r.x t2, vk, vx, .bool st.lb, .bool st.uc, .ref c1])) (ha1 : g.get? a = none) (ha2 : a ≠ Lg) (ha3 : a ≠ S) :
    ∃ objs, DatIn objs (.ref a) (outD st j r) ∧ Outer g Lg S h objs := by
  obtain ⟨n, u1, u2, hm⟩ := hta.start
  refine ⟨[(a, tupO #[.int r.k t1, .str r.x t2, vk, vx, .bool st.lb, .bool st.uc, .ref c1]), (c1, ({ cls := .type "tuple", data := .seq #[.int (1 + (j : Int).fdiv 3) u1, .int j u2] n } : Obj))], .tuple (.head _) (.cons (.int _ _) (.cons (.str _ _) (.cons (d1.mono fun _ hp => absurd hp List.not_mem_nil) (.cons (d2.mono fun _ hp => absurd hp List.not_mem_nil) (.cons (.bool _) (.cons (.bool _) (.cons ?_ .nil))))))), fun p hp => ?_⟩
  · exact .tuple (vs := [.int (1 + (j : Int).fdiv 3) u1, .int j u2]) (n := n) (.tail _ (.head _)) (.cons (.int _ _) (.cons (.int _ _) .nil))
  · rcases List.mem_cons.mp hp with rfl | hp
    · exact ⟨ha, ha1, ha2, ha3, tup_ne_iter⟩
    · rcases List.mem_cons.mp hp with rfl | hp
      · exact hnew _ hm
      · exact absurd hp List.not_mem_nil
abbrev st0 : GSt := ⟨false, true, none, none⟩
theorem ginv_start {g h₃ : Heap} {Lg S Tk : Addr} {news : List (Addr × Obj)} {rows : List Row} {m : Str → Option Value} {s'' : Shared} {tk : Nat} (F₃ : Fr g Lg h₃ m) (h1 : m (Str.ofString "line_break") = some (.bool false)) (h2 : m (Str.ofString "unary_context") = some (.bool true))
    (h3 : m (Str.ofString "previous_token_type") = some .none) (h4 : m (Str.ofString "previous_text") = some .none) (hK : KeptH g Lg s''.heap h₃)
    (hnews : ∀ p ∈ news, s''.heap.get? p.1 = some p.2 ∧ g.get? p.1 = none ∧ p.1 ≠ Lg ∧ p.1 ≠ S ∧ p.2.cls ≠ .type "list_iterator") (hS : ∃ o, s''.heap.get? S = some o ∧ o.cls = .type "list") (SL : S ≠ Lg) (Sg : g.get? S = none) :
    GInv g Lg S h₃.objs.size Tk news rows (genSpec st0 (itemsOf rows)) (genSpec st0 (itemsOf rows)).length 0 st0 s'' { s'' with heap := h₃.push { cls := .type "list_iterator", data := .fields #[.ref Tk, .int 0 0] }, toks := tk } := by
  obtain ⟨oS, hoS, hcS⟩ := hS
  have hoS' := hK _ _ hoS (.inr ⟨SL, by rw [hcS]; exact list_ne_iter⟩)
  have hK' : KeptH g Lg s''.heap (h₃.push { cls := .type "list_iterator", data := .fields #[.ref Tk, .int 0 0] }) := fun b o e c => Heap.get?_push_of_some _ (hK b o e c)
  refine ⟨⟨.none, .none, m, toGen (F₃.push _) h1 h2 h3 h4, .none, .none⟩, ⟨⟨_, Heap.get?_push_size _ rfl, rfl, rfl⟩, Ne.symm (Nat.ne_of_lt F₃.ns.lt), Ne.symm (Nat.ne_of_lt (Heap.lt_size hoS')), ?_, fun p hp => ?_, ⟨oS, Heap.get?_push_of_some _ hoS', hcS⟩, SL, Sg, ⟨⟨_, _, rfl⟩, hK'⟩⟩, rfl, [], rfl⟩
  · cases q : g.get? h₃.objs.size with
    | none => rfl
    | some o => exact absurd (Heap.lt_size (F₃.keep _ _ q)) (Nat.lt_irrefl _)
  · obtain ⟨q1, q2, q3, q4, q5⟩ := hnews p hp
    exact ⟨hK' _ _ q1 (.inr ⟨q3, q5⟩), q2, q3, q4, q5⟩
end Mine
namespace Mine
example : (fun (_ : OpenLaw) (_ : Params → Frag) => True) PySem.Challenge.rw_et5022_01 Mine.hd.heap_39 := by
  k_fill
  trivial
local macro_rules | `(tactic| k_all) => `(tactic| assumption)
local macro_rules | `(tactic| k_mem) => `(tactic| assumption)
local macro_rules | `(tactic| walk_at "compareOp In str str") => `(tactic| with_reducible refine PySem.SB.contains ?_)
set_option maxHeartbeats 8000000 in
theorem gen_call {prog : Program} {w : World} {A₀ A' : Around} {E : Value → Shared → Prop} {s : Shared} {base h₀ : Heap} {outer : List Env} {env : Env} {L Tk : Addr} {m mg mb : Str → Option Value}
    {mean : ExcName → Option Value} {news : List (Addr × Obj)} {vs : List Value} {n : Nat} {rows : List Row} {Q : Value → Shared → Prop} (hA' : A'.handled = none)
    (C : At w A₀ env L base h₀ outer m mg mb mean s.heap news) (hT : (Tk, listOf vs.toArray n) ∈ news) (hD : DatAll news vs (rows.mapIdx tokD)) (hnit : ∀ p ∈ news, p.2.cls ≠ .type "list_iterator")
    (h : ∀ g Lg G o h' tk gs, Fr h₀ L g m → Fr h₀ L h' m → News h₀ L h' ((G, o) :: news) → (∀ b o, g.get? b = some o → h'.get? b = some o) → h'.IsGen G s.gens.size → G ≠ Lg → (∃ o, h'.get? Lg = some o) →
      (∀ p ∈ news, p.1 ≠ Lg) → Ready prog w A' g Lg (genSpec ⟨false, true, none, none⟩ (itemsOf rows)) h' gs → Q (.ref G) { s with heap := h', toks := tk, gens := s.gens.push gs }) :
    wpAny (model prog w) (A₀.deeper env) (call (.ref 51) [.ref Tk]) Q E s := by
  obtain ⟨z1, z2, z3, z4, z5⟩ := A'
  cases hA'
  obtain ⟨B, F, X, N, T, hf, hke, hd⟩ := C
  have hr : (A₀.deeper env).depth < recursionLimit := by
    have e : recursionLimit = 1000 := rfl
    have e2 : (A₀.deeper env).depth = A₀.depth + 1 := rfl
    omega
  refine wpAny_call ?_
  k_dflt (refine' callG B F X N T (Around.frames_deeper B.stack) hf hke ?k6 ?k7 hr ?k9 ?kB ?_ ?c2 ?c3 ?c4 ?c5)
  case k6 => k_dflt k_is
  case k7 => k_dflt k_is
  case k9 => exact BindsTo.of_eq rfl
  case kB => exact locs rfl
  case c2 => rfl
  case c3 => rfl
  case c4 => rfl
  case c5 => decide
  intro g Lg h' G tk o FG F' FL N' NL hgG hGL X' T' hgk hnew hG
  dsimp only
  obtain ⟨oL, _, _, hLg, _⟩ := F'.ns
  refine h g Lg G o h' tk _ FG FL NL hgk hG hGL ⟨oL, hLg⟩ (fun p hp => (hnew p hp).2) ?_
  intro S s'' hSn hSs hk
  refine ⟨rfl, seg_func ?_⟩
  have F₂ : Fr g Lg s''.heap _ := F'.keptAll hk
  obtain ⟨pub, P⟩ := pub_is g Lg s''.heap
  have N₂ := P.news
  have hsub : ∀ p ∈ news, p ∈ pub := fun p hp => (P p.1 p.2).mpr ⟨hk _ _ (N' p hp).1, (hnew p hp).1, (hnew p hp).2, hnit p hp⟩
  have hkp : ∀ {h' : Heap} {m' : Str → Option Value} {led : List (Addr × Obj)}, Fr g Lg h' m' → News g Lg h' led → (∀ p ∈ pub, p ∈ led) → KeptH g Lg s''.heap h' := fun F' N' hl => P.kept F₂ F' N' hl
  have hSLg : S ≠ Lg := fun e => by rw [e, hLg] at hSn; cases hSn
  have hSg : g.get? S = none := by
    cases q : g.get? S with
    | none => rfl
    | some o => rw [hgk _ _ q] at hSn; cases hSn
  have hnw : ∀ p ∈ news, s''.heap.get? p.1 = some p.2 ∧ g.get? p.1 = none ∧ p.1 ≠ Lg ∧ p.1 ≠ S ∧ p.2.cls ≠ .type "list_iterator" := fun p hp =>
    ⟨hk _ _ (N' p hp).1, (hnew p hp).1, (hnew p hp).2, (fun e => by have q := (N' p hp).1; rw [e, hSn] at q; cases q), hnit p hp⟩
  clear h F' N' FL NL FG F N
  with_reducible refine seg_execs_cons (seg_stmt ?_)
  k_steps
  with_reducible refine seg_execs_cons (seg_stmt ?_)
  k_steps
  with_reducible refine seg_execs_cons (seg_stmt ?_)
  k_steps
  with_reducible refine seg_execs_cons (seg_stmt ?_)
  k_steps
  with_reducible refine seg_execs_cons (seg_For ?_ ?hs)
  case hs => exact fun _ => rfl
  k_steps
  (rename Fr _ _ _ _ => F₃)
  (rename News _ _ _ _ => N₃)
  refine wpAny_pyIter_list ⟨_, N₃.get (hsub _ hT), rfl, _, rfl⟩ ?_
  intro p
  with_reducible refine' loop_ind (Tk := Tk) (news := news) (rows := rows) (st := ⟨false, true, none, none⟩) ?turn ?fin ?start
  case start => exact ginv_start F₃ rfl rfl rfl rfl (hkp F₃ N₃ fun p hp => hp) hnw hSs hSLg hSg
  case fin =>
    intro IT N st s₁ s₂ I
    with_reducible refine seg_forLoop ?_
    refine ginv_end rfl I hT hD (fun h₁ hN hK => ?_)
    dsimp only
    refine seg_again rfl (seg_block_nil (seg_leaf _ ?_))
    exact seg_end (.ok (.ret .none)) ⟨rfl, hN, hK⟩
  clear F₃ N₃ P hsub hnew hSn hSs hk hkp hnw hSLg hSg
  intro IT i hin ih N st s₁ s₂ I
  have hI := I
  with_reducible refine seg_forLoop ?_
  have hN := I.hN
  obtain ⟨pre, hpre⟩ := I.hD
  rw [items_drop hin] at hN hpre
  refine ginv_next I hT hD hin (fun h₁ it' pub vk vx u a c1 M₁ F₁ d1 d2 N₁ P₁ hi' hta hsub => ?_)
  generalize rows[i] = r at hN hpre hta
  dsimp only
  refine wpAny_letOwnedTupleGo_listiter M₁.it ?_
  obtain ⟨n1, c2, t1, t2, t3, htok⟩ := hta.tok
  replace htok := List.mem_cons_of_mem (IT, it') (hsub _ htok)
  have hw : ∀ {h' : Heap} {tk : Nat} {m' : Str → Option Value} {led : List (Addr × Obj)}, Fr g Lg h' m' → News g Lg h' led → (∀ p ∈ (IT, it') :: pub, p ∈ led) → GMid g Lg S IT Tk news (i + 1) s₁ { s₂ with heap := h', toks := tk } :=
    fun F' N' hl => M₁.walk P₁ hi' F₁ F' N' hl
  have hSp : ∃ oS, (S, oS) ∈ pub := by
    obtain ⟨oS, h1, h2⟩ := M₁.hS
    exact ⟨oS, (P₁ _ _).mpr ⟨h1, M₁.Sg, M₁.SL, by rw [h2]; exact list_ne_iter⟩⟩
  clear hI I P₁ hi' M₁ hsub
  k_steps
  with_reducible refine seg_execs_cons (seg_If ?_)
  k_steps
  · with_reducible refine seg_stmts ?_
    k_steps
    (rename Fr _ _ _ _ => F₅)
    (rename News _ _ _ _ => N₅)
    (rename _ = (61 : Int) => hk)
    rw [spec_skip hk] at hN hpre
    exact seg_again rfl (ih _ _ _ _ ⟨⟨vk, vx, _, toGen F₅ rfl rfl rfl rfl, d1, d2⟩, hw F₅ N₅ fun p hp => hp, hN, pre, hpre⟩)
  with_reducible refine seg_execs_nil ?_
  dsimp only
  (rename _ ≠ (61 : Int) => hk)
  (rename Fr _ _ _ _ => F₅)
  (rename News _ _ _ _ => N₅)
  with_reducible refine seg_execs_cons (seg_If_mid (nl r.x && decide (r.k ≠ 3)) F₅ N₅ ?_ (fun hb h₆ tk₆ F₆ N₆ => ?_) (fun hb h₆ tk₆ F₆ N₆ => ?_))
  · k_steps
    all_goals first | assumption | exact nlA (by assumption) (by assumption) | exact nlB (by assumption) | exact nlC (by assumption) (by assumption) | exact nlE (by assumption) (by assumption)
  · clear F₅ N₅
    with_reducible refine seg_stmts ?_
    k_steps
    (rename Fr _ _ _ _ => F₇)
    (rename News _ _ _ _ => N₇)
    rw [Bool.and_eq_true] at hb
    rw [spec_line hk hb.1 (of_decide_eq_true hb.2)] at hN hpre
    exact seg_again rfl (ih _ { st with lb := true } _ _ ⟨⟨vk, vx, _, toGen F₇ rfl rfl rfl rfl, d1, d2⟩, hw F₇ N₇ fun p hp => hp, hN, pre, hpre⟩)
  · clear F₅ N₅
    have hb' : ¬ (nl r.x = true ∧ r.k ≠ 3) := fun q => by rw [q.1, decide_eq_true q.2] at hb; cases hb
    rw [spec_out hk hb'] at hN hpre
    rw [List.length_cons] at hN
    subst hN
    with_reducible refine seg_execs_cons (seg_Expr_Yield ?y1 ?y2 ?y3 (noE ?_) ?y4 ?y5)
    case y1 => rfl
    case y2 => rfl
    case y3 => rfl
    case y4 => rfl
    case y5 => rfl
    k_steps
    rename_i F₇ N₇ l1 kap hkap
    have M₇ := fun tk => hw (tk := tk) F₇ N₇ (fun p hp => .tail _ hp)
    obtain ⟨oS, hoS⟩ := hSp
    have hDS := off_of_allLt l1.2 _ hoS
    obtain ⟨objs, hdat, hout⟩ := out_yields d1 d2 hta (M₇ 0).nw (N₇ _ (.head _)).1 (N₇ _ (.head _)).2.2 (N₇ _ (.head _)).2.1 (Ne.symm hDS)
    refine ⟨(M₇ _).k, ⟨_, objs, at_pre hpre, hdat, hout⟩, fun s₉ h1 h2 => hkap .none s₉ ?_⟩
    have M₉ := (M₇ 0).resume h1 h2
    have F₉ := (M₇ 0).frame h1 F₇
    obtain ⟨it₉, pub₉, hi₉, P₉, N₉, hsub₉⟩ := M₉.ledger
    have hw₉ : ∀ {h' : Heap} {tk : Nat} {m' : Str → Option Value} {led : List (Addr × Obj)}, Fr g Lg h' m' → News g Lg h' led → (∀ p ∈ (IT, it₉) :: pub₉, p ∈ led) → GMid g Lg S IT Tk news (i + 1) s₉ { s₉ with heap := h', toks := tk } :=
      fun F' N' hl => M₉.walk P₉ hi₉ F₉ F' N' hl
    clear M₇ M₉ hw hkap hdat hout l1 N₇ F₇ hi₉ P₉ hsub₉ h1 h2 hoS hDS htok
    dsimp only
    with_reducible refine seg_stmts ?_
    k_steps
    (rename Fr _ _ _ _ => F₈)
    (rename News _ _ _ _ => N₈)
    exact seg_again rfl (ih _ ⟨false, opens r.x, some r.k, some r.x⟩ _ _ ⟨⟨.int r.k t1, .str r.x t2, _, toGen F₈ rfl rfl rfl rfl, .int _ _, .str _ _⟩, hw₉ F₈ N₈ fun p hp => hp, rfl, pre ++ [outD st i r], hpre.trans (by simp)⟩)
end Mine
namespace Mine
open Classical in
noncomputable def noIt (rest : List (Addr × Obj)) : List (Addr × Obj) := rest.filter fun p => decide (p.2.cls ≠ .type "list_iterator")
theorem noIt_mem {rest : List (Addr × Obj)} {p : Addr × Obj} : p ∈ noIt rest ↔ p ∈ rest ∧ p.2.cls ≠ .type "list_iterator" := by
  unfold noIt
  rw [List.mem_filter, decide_eq_true_eq]
mutual
theorem dat_noIt {rest : List (Addr × Obj)} : ∀ {v : Value} {d : Dat}, DatIn rest v d → DatIn (noIt rest) v d
  | _, _, .none => .none
  | _, _, .bool b => .bool b
  | _, _, .int i t => .int i t
  | _, _, .str x t => .str x t
  | _, _, .bytes b t => .bytes b t
  | _, _, .tuple h r => .tuple (noIt_mem.mpr ⟨h, tup_ne_iter⟩) (dat_noItAll r)
  | _, _, .list h r => .list (noIt_mem.mpr ⟨h, list_ne_iter⟩) (dat_noItAll r)
theorem dat_noItAll {rest : List (Addr × Obj)} : ∀ {vs : List Value} {ds : List Dat}, DatAll rest vs ds → DatAll (noIt rest) vs ds
  | _, _, .nil => .nil
  | _, _, .cons h r => .cons (dat_noIt h) (dat_noItAll r)
end
theorem tidy {h₀ h : Heap} {L : Addr} {led rest : List (Addr × Obj)} {p q : Addr × Obj} (N : News h₀ L h led) (hp : p ∈ led) (hq : q ∈ led) (hs : ∀ p ∈ rest, p ∈ led) : News h₀ L h (p :: q :: noIt rest) := fun r hr => by
  rcases List.mem_cons.mp hr with rfl | hr
  · exact N _ hp
  rcases List.mem_cons.mp hr with rfl | hr
  · exact N _ hq
  exact N _ (hs _ (noIt_mem.mp hr).1)
theorem tidy_nit {rest : List (Addr × Obj)} {a b c : Addr} {va vb vc : Array Value} {na nb nc : Nat} : ∀ p ∈ (a, listOf va na) :: (b, listOf vb nb) :: (c, listOf vc nc) :: noIt rest, p.2.cls ≠ .type "list_iterator" := fun r hr => by
  rcases List.mem_cons.mp hr with rfl | hr
  · exact list_ne_iter
  rcases List.mem_cons.mp hr with rfl | hr
  · exact list_ne_iter
  rcases List.mem_cons.mp hr with rfl | hr
  · exact list_ne_iter
  exact (noIt_mem.mp hr).2
theorem spec_len : ∀ (items : List (Nat × Row)) (st : GSt), (genSpec st items).length ≤ items.length
  | [], _ => by simp [genSpec]
  | (j, r) :: rest, st => by
    rw [genSpec]
    split
    · have := spec_len rest st; rw [List.length_cons]; omega
    split
    · have := spec_len rest { st with lb := true }; rw [List.length_cons]; omega
    · have := spec_len rest ⟨false, opens r.x, some r.k, some r.x⟩; rw [List.length_cons, List.length_cons]; omega
theorem push_last {a : Array GenState} {x : GenState} : (a.push x)[a.size]? = some x := Array.getElem?_push_size
theorem push_set {a : Array GenState} {x y : GenState} : (a.push x).setIfInBounds a.size y = a.push y := by
  apply Array.ext_getElem?
  intro i
  rw [Array.getElem?_setIfInBounds]
  by_cases q : a.size = i
  · subst q
    simp
  · simp [q, Array.getElem?_push, Ne.symm q]
theorem gen_callD {prog : Program} {w : World} {A₀ : Around} {E : Value → Shared → Prop} {s : Shared} {base h₀ : Heap} {outer : List Env} {env : Env} {L Tk : Addr} {m mg mb : Str → Option Value}
    {mean : ExcName → Option Value} {news : List (Addr × Obj)} {vs : List Value} {n : Nat} {rows : List Row} {Q : Value → Shared → Prop} (hA : (A₀.deeper env).in1.in1.in1.handled = none)
    (C : At w A₀ env L base h₀ outer m mg mb mean s.heap news) (hT : (Tk, listOf vs.toArray n) ∈ news) (hD : DatAll news vs (rows.mapIdx tokD)) (hnit : ∀ p ∈ news, p.2.cls ≠ .type "list_iterator")
    (h : ∀ g Lg G o h' tk gs, Fr h₀ L g m → Fr h₀ L h' m → News h₀ L h' ((G, o) :: news) → (∀ b o, g.get? b = some o → h'.get? b = some o) → h'.IsGen G s.gens.size → G ≠ Lg → (∃ o, h'.get? Lg = some o) →
      (∀ p ∈ news, p.1 ≠ Lg) → Ready prog w (A₀.deeper env).in1.in1.in1 g Lg (genSpec st0 (itemsOf rows)) h' gs → Q (.ref G) { s with heap := h', toks := tk, gens := s.gens.push gs }) :
    wpAny (model prog w) (A₀.deeper env) (call (.ref 51) [.ref Tk]) Q E s := gen_call (A' := (A₀.deeper env).in1.in1.in1) hA C hT hD hnit h
end Mine
namespace Mine
example : (fun (_ : OpenLaw) (_ : Params → Frag) => True) PySem.Challenge.rw_et5022_01 Mine.hd.heap_39 := by
  k_fill
  trivial
def Stop2 (p : Prop) : Prop := p
theorem Stop2.out {p : Prop} (h : Stop2 p) : p := h
theorem Stop2.in {p : Prop} (h : p) : Stop2 p := h
theorem mpI {p q : Prop} (h : p → q) (hp : p) : q := h hp
section
variable {prog : Program} {w : World} {A : Around} {E : Value → Shared → Prop} {s : Shared} {h₀ : Heap} {L Tk Bk : Addr} {news led : List (Addr × Obj)} {value slice : PySem.Expr} {vs : List Value} {n : Nat} {rows : List Row} {r : Row} {k : Int} {u : Tok} {Q : Value → Shared → Prop}
theorem tok_item (N : News h₀ L s.heap led) {mid : List (Addr × Obj)} (hmid : ∀ p ∈ news, p ∈ mid) (hsub : ∀ p ∈ mid, p ∈ led) (hT : (Tk, listOf vs.toArray n) ∈ news) (hd : DatAll news vs (rows.mapIdx tokD)) (hl24 : rows.length ≤ 24) (h0 : 0 ≤ k) (h1 : k < (rows.length : Int)) (hr : rows[k.toNat]? = some r)
    (h : ∀ a c1 c2 n t1 t2 t3, (a, ({ cls := .type "tuple", data := .seq #[.int r.k t1, .str r.x t2, .ref c1, .ref c2, .str (Str.ofString "x\n") t3] n } : Obj)) ∈ mid → TokAt news a c1 k.toNat r → Q (.ref a) s)
    (hs : subscripted slice false (.ref Tk) (.int k u) = operate [.ref Tk, .int k u] (getItem (.ref Tk) (.int k u)) := by with_unfolding_all rfl) :
    wpAny (model prog w) A (subscriptTail value slice (.ref Tk) (.int k u)) Q E s := by
  have hl : s.heap.IsList Tk vs.toArray := ⟨_, (N _ (hsub _ (hmid _ hT))).1, rfl, _, rfl⟩
  have hk : k.toNat < rows.length := by omega
  have hk' : k.toNat < (rows.mapIdx tokD).length := by rw [List.length_mapIdx]; exact hk
  obtain ⟨v, hv, hdv⟩ := hd.get hk'
  rw [List.getElem_mapIdx] at hdv
  rw [List.getElem?_eq_getElem hk] at hr
  rw [Option.some.inj hr] at hdv
  obtain ⟨a, c1, rfl, hta⟩ := tok_at hdv
  obtain ⟨n', c2, t1, t2, t3, hm⟩ := id hta.tok
  have hlen : vs.length = rows.length := by rw [hd.length, List.length_mapIdx]
  exact tail_any hl.typeIs slot_list_getitem.lookup (wpAny_getItem_list hl h0 (by omega) (by simpa using hv) (h a c1 c2 n' t1 t2 t3 (hmid _ hm) hta)) hs
theorem tok_itemA (N : News h₀ L s.heap led) {mid : List (Addr × Obj)} (hmid : ∀ p ∈ news, p ∈ mid) (hsub : ∀ p ∈ mid, p ∈ led) (hT : (Tk, listOf vs.toArray n) ∈ news) (hd : DatAll news vs (rows.mapIdx tokD)) (hl24 : rows.length ≤ 24) (h0 : 0 ≤ k) (h1 : k < (rows.length : Int))
    (h : ∀ r a c1 c2 n t1 t2 t3, rows[k.toNat]? = some r → (a, ({ cls := .type "tuple", data := .seq #[.int r.k t1, .str r.x t2, .ref c1, .ref c2, .str (Str.ofString "x\n") t3] n } : Obj)) ∈ mid → TokAt news a c1 k.toNat r → Q (.ref a) s)
    (hs : subscripted slice false (.ref Tk) (.int k u) = operate [.ref Tk, .int k u] (getItem (.ref Tk) (.int k u)) := by with_unfolding_all rfl) :
    wpAny (model prog w) A (subscriptTail value slice (.ref Tk) (.int k u)) Q E s := by
  have hk : k.toNat < rows.length := by omega
  have hr := List.getElem?_eq_getElem hk
  exact tok_item N hmid hsub hT hd hl24 h0 h1 hr (fun a c1 c2 n t1 t2 t3 => h _ a c1 c2 n t1 t2 t3 hr) hs
theorem tok_len (N : News h₀ L s.heap led) (hsub : ∀ p ∈ news, p ∈ led) (hT : (Tk, listOf vs.toArray n) ∈ news) (hlen : vs.length = rows.length) (hl24 : rows.length ≤ 24) (h : Q (.int (rows.length : Int) (s.toks + 1)) { s with toks := s.toks + 1 + 1 }) :
    wpAny (model prog w) A (call (.builtin "len") [.ref Tk]) Q E s := by
  have hl : s.heap.IsList Tk vs.toArray := ⟨_, (N _ (hsub _ hT)).1, rfl, _, rfl⟩
  refine len_list hl (by rw [List.size_toArray, hlen]; omega) ?_
  rw [List.size_toArray, hlen]; exact h
theorem brk_item (N : News h₀ L s.heap led) (hsub : ∀ p ∈ news, p ∈ led) (hB : (Bk, listOf (rows.map fun r => Value.bool r.e).toArray n) ∈ news) (hl24 : rows.length ≤ 24) (h0 : 0 ≤ k) (h1 : k < (rows.length : Int)) (hr : rows[k.toNat]? = some r) (h : Q (.bool r.e) s)
    (hs : subscripted slice false (.ref Bk) (.int k u) = operate [.ref Bk, .int k u] (getItem (.ref Bk) (.int k u)) := by with_unfolding_all rfl) :
    wpAny (model prog w) A (subscriptTail value slice (.ref Bk) (.int k u)) Q E s := by
  have hl : s.heap.IsList Bk (rows.map fun r => Value.bool r.e).toArray := ⟨_, (N _ (hsub _ hB)).1, rfl, _, rfl⟩
  have hk : k.toNat < rows.length := by omega
  exact tail_any hl.typeIs slot_list_getitem.lookup (wpAny_getItem_list hl h0 (by omega) (by simp [hr]) h) hs
end
def keep (r : Row) : Bool := decide (r.k ≠ 61) && !r.e
/-- the last token that was told of, or -1 -/
def lastOf (rows : List Row) : Nat → Int
  | 0 => -1
  | i + 1 => match rows[i]? with
    | some r => if keep r = true then (i : Int) else lastOf rows i
    | none => lastOf rows i
def dueM (Bk U : Addr) (a : Int) (ta : Tok) (u : Str → Option Value) : Str → Option Value := fun y =>
  if y = Str.ofString "breaks" then some (.ref Bk) else if y = Str.ofString "due" then some (.ref U) else if y = Str.ofString "ahead" then some (.int a ta) else u y
theorem dueM_self {Bk U : Addr} {a : Int} {ta : Tok} {m : Str → Option Value} (h1 : m (Str.ofString "breaks") = some (.ref Bk)) (h2 : m (Str.ofString "due") = some (.ref U)) (h3 : m (Str.ofString "ahead") = some (.int a ta)) : m = dueM Bk U a ta m := by
  funext y
  unfold dueM
  split
  · rename_i e; rw [e]; exact h1
  split
  · rename_i e; rw [e]; exact h2
  split
  · rename_i e; rw [e]; exact h3
  rfl
theorem last_lt (rows : List Row) : ∀ i, -1 ≤ lastOf rows i ∧ lastOf rows i < (i : Int)
  | 0 => by unfold lastOf; omega
  | i + 1 => by
    have h := last_lt rows i
    unfold lastOf
    split
    · split <;> omega
    · omega
def kNot (rows : List Row) (k : Int) : Bool := match rows[k.toNat]? with
  | some r => decide (r.k ≠ 61)
  | none => false
/-- whether any of the i tokens from a₀ on is no comment -/
def passes (rows : List Row) (a₀ : Int) : Nat → Bool
  | 0 => false
  | i + 1 => passes rows a₀ i || kNot rows (a₀ + (i : Int))
def kindD (rows : List Row) (a : Int) : Dat := if a < 0 then .none else match rows[a.toNat]? with
  | some r => .int r.k
  | none => .none
def textD (rows : List Row) (a : Int) : Dat := if a < 0 then .none else match rows[a.toNat]? with
  | some r => .str r.x
  | none => .none
def openL : List Str := [Str.ofString "(", Str.ofString "[", Str.ofString "{", Str.ofString ",", Str.ofString ";", Str.ofString ""]
def openD (rows : List Row) (a : Int) : Bool := if a < 0 then true else match rows[a.toNat]? with
  | some r => openL.any (· == r.x)
  | none => true
def dueAt (rows : List Row) (i : Nat) (r : Row) (a : Int) : Dat := .tuple [.int r.k, .str r.x, kindD rows a, textD rows a, .bool (passes rows (a + 1) (0 + (i : Int) - (a + 1)).toNat), .bool (openD rows a), startD i]
/-- what is due of the first i tokens -/
def dueAcc (rows : List Row) : Nat → List Dat
  | 0 => []
  | i + 1 => match rows[i]? with
    | some r => if keep r = true then dueAcc rows i ++ [dueAt rows i r (lastOf rows i)] else dueAcc rows i
    | none => dueAcc rows i
theorem due_len (rows : List Row) : ∀ i, (dueAcc rows i).length ≤ i
  | 0 => Nat.le_refl _
  | i + 1 => by
    have h := due_len rows i
    unfold dueAcc
    split
    · split
      · rw [List.length_append, List.length_singleton]; omega
      · omega
    · omega
def DueJ (Bk U c : Addr) (oc : Obj) (news : List (Addr × Obj)) (rows : List Row) (i : Nat) (m : Str → Option Value) (led : List (Addr × Obj)) : Prop :=
  ∃ (nU : Nat) (a : Int) (ta : Tok) (acc : List Value) (rest : List (Addr × Obj)) (u : Str → Option Value), led = (U, listOf acc.toArray nU) :: (c, oc) :: rest ∧ m = dueM Bk U a ta u ∧ (∀ p ∈ rest, p.1 ≠ U) ∧ c ≠ U ∧ (∀ p ∈ news, p ∈ rest) ∧ a = lastOf rows i ∧ DatAll rest acc (dueAcc rows i)
theorem due_skip {h₀ h : Heap} {L IT Bk U c : Addr} {it oc : Obj} {news led rest : List (Addr × Obj)} {rows : List Row} {i nU : Nat} {m : Str → Option Value} {a : Int} {ta : Tok} {acc : List Value} {r : Row} {s₁ : Shared} {tk : Nat} {f : Flow} (F : Fr h₀ L h m) (N : News h₀ L h led)
    (hit : (IT, it) ∈ led) (hU : (U, listOf acc.toArray nU) ∈ led) (hc : (c, oc) ∈ led) (hs : ∀ p ∈ rest, p ∈ led) (hIT : ∀ p ∈ (U, listOf acc.toArray nU) :: (c, oc) :: rest, p.1 ≠ IT)
    (h1 : m (Str.ofString "breaks") = some (.ref Bk)) (h2 : m (Str.ofString "due") = some (.ref U)) (h3 : m (Str.ofString "ahead") = some (.int a ta)) (ha : a = lastOf rows i) (hoff : ∀ p ∈ rest, p.1 ≠ U) (hcU : c ≠ U) (hn : ∀ p ∈ news, p ∈ rest)
    (hD : DatAll rest acc (dueAcc rows i)) (hr : rows[((0 : Int) + (i : Int)).toNat]? = some r) (hk : keep r = false) (hf : f = .next) : RTurn h₀ L IT it (DueJ Bk U c oc news rows (i + 1)) s₁ f { s₁ with heap := h, toks := tk } := by
  rw [show ((0 : Int) + (i : Int)).toNat = i by omega] at hr
  refine ⟨.inl hf, h, tk, m, (U, listOf acc.toArray nU) :: (c, oc) :: rest, rfl, F, fun p hp => N p ?_, hIT, nU, a, ta, acc, rest, m, rfl, dueM_self h1 h2 h3, hoff, hcU, hn, ?_, ?_⟩
  · simp only [List.mem_cons] at hp
    rcases hp with rfl | rfl | rfl | hp
    · exact hit
    · exact hU
    · exact hc
    · exact hs _ hp
  · rw [ha]; simp [lastOf, hr, hk]
  · simpa [dueAcc, hr, hk] using hD
theorem due_push {h₀ h : Heap} {L IT Bk U c T₁ c1 : Addr} {it oc : Obj} {news led rest rest₂ : List (Addr × Obj)} {rows : List Row} {i nU : Nat} {m : Str → Option Value} {a : Int} {ta t1 t2 : Tok} {acc : List Value} {r : Row} {s₁ : Shared} {tk : Nat} {vk vx : Value} {a' : Addr} {f : Flow} (F : Fr h₀ L h m) (N : News h₀ L h led)
    (hU : (U, listOf (acc.toArray.push (.ref T₁)) (nU + 1)) ∈ led) (hc : (c, oc) ∈ led) (hT : (T₁, tupO #[.int r.k t1, .str r.x t2, vk, vx, .bool (passes rows (a + 1) (0 + (i : Int) - (a + 1)).toNat), .bool (openD rows a), .ref c1]) ∈ led) (hs : ∀ p ∈ rest₂, p ∈ led)
    (hit : (IT, it) ∈ rest₂) (hs₂ : ∀ p ∈ rest, p ∈ rest₂) (hIT : ∀ p ∈ (U, listOf acc.toArray nU) :: (c, oc) :: rest, p.1 ≠ IT) (hTU : U < T₁) (hTr : AllLt T₁ rest₂)
    (h1 : m (Str.ofString "breaks") = some (.ref Bk)) (h2 : m (Str.ofString "due") = some (.ref U)) (h3 : m (Str.ofString "ahead") = some (.int (0 + (i : Int)) ta)) (ha : a = lastOf rows i) (hoff : ∀ p ∈ rest, p.1 ≠ U) (hcU : c ≠ U) (hn : ∀ p ∈ news, p ∈ rest)
    (hD : DatAll rest acc (dueAcc rows i)) (hr : rows[((0 : Int) + (i : Int)).toNat]? = some r) (hk : keep r = true) (hta : TokAt rest a' c1 ((0 : Int) + (i : Int)).toNat r)
    (dk : DatIn [] vk (kindD rows a)) (dx : DatIn [] vx (textD rows a)) (hf : f = .next) : RTurn h₀ L IT it (DueJ Bk U c oc news rows (i + 1)) s₁ f { s₁ with heap := h, toks := tk } := by
  rw [show ((0 : Int) + (i : Int)).toNat = i by omega] at hr hta
  obtain ⟨n, u1, u2, hm⟩ := hta.start
  refine ⟨.inl hf, h, tk, m, (U, listOf (acc ++ [Value.ref T₁]).toArray (nU + 1)) :: (c, oc) :: (T₁, tupO #[.int r.k t1, .str r.x t2, vk, vx, .bool (passes rows (a + 1) (0 + (i : Int) - (a + 1)).toNat), .bool (openD rows a), .ref c1]) :: rest, rfl, F, fun p hp => N p ?_, fun p hp => ?_,
    nU + 1, 0 + (i : Int), ta, acc ++ [Value.ref T₁], _ :: rest, m, rfl, dueM_self h1 h2 h3, fun p hp => ?_, hcU, fun p hp => .tail _ (hn p hp), ?_, ?_⟩
  · simp only [List.mem_cons] at hp
    rcases hp with rfl | rfl | rfl | rfl | hp
    · exact hs _ hit
    · rw [List.push_toArray] at hU; exact hU
    · exact hc
    · exact hT
    · exact hs _ (hs₂ _ hp)
  · simp only [List.mem_cons] at hp
    rcases hp with rfl | rfl | rfl | hp
    · exact hIT (U, listOf acc.toArray nU) (.head _)
    · exact hIT _ (.tail _ (.head _))
    · exact Ne.symm (off_of_allLt hTr _ hit)
    · exact hIT _ (.tail _ (.tail _ hp))
  · rcases List.mem_cons.mp hp with rfl | hp
    · exact Ne.symm (Nat.ne_of_lt hTU)
    · exact hoff p hp
  · simp [lastOf, hr, hk]
  · have e : dueAcc rows (i + 1) = dueAcc rows i ++ [dueAt rows i r a] := by simp [dueAcc, hr, hk, ha]
    rw [e]
    refine (hD.mono fun p hp => .tail _ hp).append (.cons ?_ .nil)
    refine .tuple (n := 0) (vs := [_, _, _, _, _, _, _]) (.head _) (.cons (.int _ _) (.cons (.str _ _) (.cons (dk.mono fun _ hp => absurd hp List.not_mem_nil) (.cons (dx.mono fun _ hp => absurd hp List.not_mem_nil) (.cons (.bool _) (.cons (.bool _) (.cons ?_ .nil)))))))
    exact .tuple (vs := [.int (1 + (i : Int).fdiv 3) u1, .int i u2]) (n := n) (.tail _ hm) (.cons (.int _ _) (.cons (.int _ _) .nil))
theorem due_start {h₀ h : Heap} {L U c Bk : Addr} {oc : Obj} {news : List (Addr × Obj)} {m : Str → Option Value} {a : Int} {ta : Tok} (rows : List Row) (_F : Fr h₀ L h m) (_N : News h₀ L h ((U, listOf #[] 0) :: (c, oc) :: news)) (h1 : m (Str.ofString "breaks") = some (.ref Bk)) (h2 : m (Str.ofString "due") = some (.ref U))
    (h3 : m (Str.ofString "ahead") = some (.int a ta)) (ha : a = -1) (hal : c < U ∧ AllLt U news) : DueJ Bk U c oc news rows 0 m ((U, listOf #[] 0) :: (c, oc) :: news) :=
  ⟨0, a, ta, [], news, m, rfl, dueM_self h1 h2 h3, off_of_allLt hal.2, Nat.ne_of_lt hal.1, fun _ hp => hp, by rw [ha]; rfl, .nil⟩
theorem due_in {h₀ h : Heap} {L IT U c : Addr} {it oU oc : Obj} {rest : List (Addr × Obj)} (N : News h₀ L h ((IT, it) :: (U, oU) :: (c, oc) :: rest)) (hIT : ∀ p ∈ (U, oU) :: (c, oc) :: rest, p.1 ≠ IT) (hoff : ∀ p ∈ rest, p.1 ≠ U) :
    ∃ rest₂, News h₀ L h ((U, oU) :: (c, oc) :: rest₂) ∧ (∀ p ∈ rest₂, p.1 ≠ U) ∧ (IT, it) ∈ rest₂ ∧ ∀ p ∈ rest, p ∈ rest₂ := by
  refine ⟨(IT, it) :: rest, fun p hp => N p ?_, fun p hp => ?_, .head _, fun p hp => .tail _ hp⟩
  · simp only [List.mem_cons] at hp ⊢
    rcases hp with h | h | h | h
    · exact .inr (.inl h)
    · exact .inr (.inr (.inl h))
    · exact .inl h
    · exact .inr (.inr (.inr h))
  · rcases List.mem_cons.mp hp with rfl | hp
    · exact Ne.symm (hIT (U, oU) (.head _))
    · exact hoff p hp
theorem keep_e {r : Row} (h : r.e = true) : keep r = false := by simp [keep, h]
theorem keep_61 {r : Row} (h : r.k = 61) : keep r = false := by simp [keep, h]
theorem keep_ok {r : Row} (h1 : r.k ≠ 61) (h2 : r.e = false) : keep r = true := by simp [keep, h1, h2]
theorem open_ge {rows : List Row} {a : Int} {r : Row} (h : 0 ≤ a) (hr : rows[a.toNat]? = some r) : openD rows a = openL.any (· == r.x) := by
  have : ¬ a < 0 := by omega
  simp [openD, this, hr]
theorem open_neg {rows : List Row} {a : Int} (h : a < 0) : openD rows a = decide (a < 0) := by simp [openD, h]
theorem kind_ge {rows : List Row} {a : Int} {r : Row} {t : Tok} (h : 0 ≤ a) (hr : rows[a.toNat]? = some r) : DatIn [] (.int r.k t) (kindD rows a) := by
  have : ¬ a < 0 := by omega
  simp only [kindD, this, hr, if_false]
  exact .int _ _
theorem kind_neg {rows : List Row} {a : Int} (h : a < 0) : DatIn [] .none (kindD rows a) := by simp only [kindD, h, if_true]; exact .none
theorem text_ge {rows : List Row} {a : Int} {r : Row} {t : Tok} (h : 0 ≤ a) (hr : rows[a.toNat]? = some r) : DatIn [] (.str r.x t) (textD rows a) := by
  have : ¬ a < 0 := by omega
  simp only [textD, this, hr, if_false]
  exact .str _ _
theorem text_neg {rows : List Row} {a : Int} (h : a < 0) : DatIn [] .none (textD rows a) := by simp only [textD, h, if_true]; exact .none
theorem restT_ind {prog : Program} {w : World} {A : Around} {h₀ : Heap} {L : Addr} {m : Str → Option Value} {env : Env} {ct elt : Expr} {x : Str} {scope : Scope} {cl : List (Str × Addr)} {s : Shared} {P : Nat → Value → Prop} {Fin : List Value → List (Addr × Obj) → Prop} {news : List (Addr × Obj)} {n : Nat}
    (J : Nat → List Value → Prop) (h0 : J 0 []) (fin : ∀ ys, J n ys → Fin ys news)
    (step : ∀ i ys, i < n → J i ys → ∀ v I oI C oC D m₂ h tk (E' : Value → Shared → Prop), P i v → LCg.NsObj oC m₂ → m₂ x = some v → Fr h₀ L h m → News h₀ L h ((I, oI) :: (C, oC) :: (D, LCg.lst ys) :: news) →
      wpAny (model prog w) A (isTrue ct (compEnvC scope cl C env) (eval ct (compEnvC scope cl C env))) (fun ok s' => if ok = true then
        wpAny (model prog w) A (eval elt (compEnvC scope cl C env)) (fun y s₂ => J (i + 1) (ys ++ [y]) ∧ ∃ h' tk', s₂ = { s with heap := h', toks := tk' } ∧ Fr h₀ L h' m ∧ News h₀ L h' ((I, oI) :: (C, oC) :: (D, LCg.lst ys) :: news)) E' s'
        else J (i + 1) ys ∧ ∃ h' tk', s' = { s with heap := h', toks := tk' } ∧ Fr h₀ L h' m ∧ News h₀ L h' ((I, oI) :: (C, oC) :: (D, LCg.lst ys) :: news)) E' { s with heap := h, toks := tk }) :
    LCt.CompRestT prog w A h₀ L m env ct elt x scope cl s (fun _ => True) P Fin n 0 [] news := by
  have all : ∀ k i ys, i + k = n → J i ys → LCt.CompRestT prog w A h₀ L m env ct elt x scope cl s (fun _ => True) P Fin k i ys news := by
    intro k
    induction k with
    | zero =>
      intro i ys hi hj
      have e : i = n := by omega
      rw [e] at hj
      exact fin ys hj
    | succ k ih =>
      intro i ys hi hj
      refine LCt.CompRestT.succ fun v I oI C oC D m₂ h tk E' hP hC hx F N off ne => ?_
      refine wpAny_mono (step i ys (by omega) hj v I oI C oC D m₂ h tk E' hP hC hx F N) (fun ok s' q => ?_) fun _ _ e => e
      cases ok with
      | true =>
        rw [if_pos rfl] at q ⊢
        refine wpAny_mono q (fun y s₂ q => ?_) fun _ _ e => e
        obtain ⟨hj', h', tk', rfl, F', N'⟩ := q
        exact ⟨h', tk', news, rfl, F', N', off, trivial, ih (i + 1) _ (by omega) hj'⟩
      | false =>
        rw [if_neg Bool.false_ne_true] at q ⊢
        obtain ⟨hj', h', tk', rfl, F', N'⟩ := q
        exact ⟨h', tk', news, rfl, F', N', off, trivial, ih (i + 1) _ (by omega) hj'⟩
  exact all n 0 [] (by omega) h0
/-- the ints of the tokens that were passed -/
def PassJ (rows : List Row) (a₀ : Int) (i : Nat) (ys : List Value) : Prop := ∃ ns : List Int, DatAll [] ys (ns.map Dat.int) ∧ ns.isEmpty = !(passes rows a₀ i) ∧ ns.length ≤ i
theorem PassJ.none {rows : List Row} {a₀ : Int} : PassJ rows a₀ 0 [] := ⟨[], .nil, rfl, Nat.le_refl _⟩
theorem PassJ.snoc {rows : List Row} {a₀ : Int} {i : Nat} {ys : List Value} {r : Row} {k : Int} {t : Tok} (J : PassJ rows a₀ i ys) (hr : rows[(a₀ + (i : Int)).toNat]? = some r) (hk : r.k ≠ 61) : PassJ rows a₀ (i + 1) (ys ++ [.int k t]) := by
  obtain ⟨ns, hd, he, hl⟩ := J
  refine ⟨ns ++ [k], ?_, ?_, by rw [List.length_append, List.length_singleton]; omega⟩
  · rw [List.map_append]; exact hd.append (.cons (.int _ _) .nil)
  · simp [passes, kNot, hr, hk]
theorem PassJ.skip {rows : List Row} {a₀ : Int} {i : Nat} {ys : List Value} {r : Row} (J : PassJ rows a₀ i ys) (hr : rows[(a₀ + (i : Int)).toNat]? = some r) (hk : r.k = 61) : PassJ rows a₀ (i + 1) ys := by
  obtain ⟨ns, hd, he, hl⟩ := J
  exact ⟨ns, hd, by rw [he]; simp [passes, kNot, hr, hk], by omega⟩
theorem ne_nil {prog : Program} {w : World} {A : Around} {E : Value → Shared → Prop} {s : Shared} {h₀ : Heap} {L a b : Addr} {news : List (Addr × Obj)} {rows : List Row} {a₀ : Int} {i : Nat} {ys : List Value} {ka kb : Nat} {Q : Value → Shared → Prop}
    (N : News h₀ L s.heap news) (ma : (a, listOf ys.toArray ka) ∈ news) (J : PassJ rows a₀ i ys) (mb : (b, listOf #[] kb) ∈ news) (hu : A.units + 64 < cLine) (h : Q (.bool (passes rows a₀ i)) s) : wpAny (model prog w) A (compareOp .NotEq (.ref a) (.ref b)) Q E s := by
  obtain ⟨ns, hd, he, hl⟩ := J
  have hds : ∀ d ∈ ns.map Dat.int, dOk 8 d = true := fun d hd => by obtain ⟨k, _, rfl⟩ := List.mem_map.mp hd; rfl
  obtain ⟨as, ra⟩ := dat_readsAll N 8 (hd.mono fun _ hp => absurd hp List.not_mem_nil) hds
  have la := dat_lay 9 (.list (ns.map Dat.int)) (by simpa [dOk] using hds)
  rw [kqdP] at la
  have hsh : SeqAt.shaped (.list (kqdPs (ns.map Dat.int))) = true := by unfold SeqAt.shaped; rw [la.1, Bool.true_and]; exact decide_eq_true (Nat.le_trans la.2 (by decide))
  refine ne_dataH (reads_list_at (N.get ma) rfl rfl (by simpa using ra)) (reads_list_at (N.get mb) rfl rfl ReadsAll.nil) hsh (by decide) hu ?_
  have e : (!(PyData.eqv (.list (kqdPs (ns.map Dat.int))) (.list []))) = passes rows a₀ i := by
    cases ns with
    | nil => simp at he; rw [he]; decide
    | cons k r => simp at he; rw [he]; simp [kqdPs, PyData.eqv, PyData.eqvAll]
  rw [e]; exact h
theorem memOf {α : Type} {a b : List α} {p : α} (h : ∀ p ∈ a, p ∈ b) (hp : p ∈ a) : p ∈ b := h p hp
local macro_rules | `(tactic| walk_at "call builtin:len") => `(tactic| (k_here; (with_reducible show wpAny _ _ (call (Value.builtin "len") [Value.ref _]) _ _ _); k_dflt (refine' tok_len ?N ?sub ?hT ?hl ?h2 ?_; (case hT => assumption); (case N => k_asm); (case sub => (intro p hp; repeat (first | exact hp | refine List.Mem.tail _ ?_))); (case hl => assumption); (case h2 => assumption); k_whole)))
local macro_rules | `(tactic| walk_at "subscriptTail") => `(tactic| (k_here; (with_reducible show wpAny _ _ (subscriptTail _ _ (Value.ref _) (Value.int _ _)) _ _ _); first
  | (k_dflt (refine' tok_item ?N ?mid ?sub ?hT ?hd ?hl ?h0 ?h1 ?hr ?_; (case hT => assumption); (case hd => assumption); (case mid => assumption); (case hr => first | assumption | (refine mpI (p := 0 ≤ _) ?_ ?_; assumption; omega)); (case N => k_asm); (case sub => (intro p hp; repeat (first | exact hp | refine List.Mem.tail _ ?_))); (case hl => assumption); (case h0 => (first | assumption | omega)); (case h1 => (first | assumption | omega)); k_whole); intro a' c1' c2' n' t1' t2' t3' hm' hta')
  | (k_dflt (refine' brk_item ?N ?sub ?hT ?hl ?h0 ?h1 ?hr ?_; (case hT => assumption); (case hr => first | assumption | (refine mpI (p := 0 ≤ _) ?_ ?_; assumption; omega)); (case N => k_asm); (case sub => (intro p hp; repeat (first | exact hp | refine List.Mem.tail _ ?_))); (case hl => assumption); (case h0 => (first | assumption | omega)); (case h1 => (first | assumption | omega)); k_whole))
  | (k_dflt (refine' tok_itemA ?N ?mid ?sub ?hT ?hd ?hl ?h0 ?h1 ?_; (case hT => assumption); (case hd => assumption); (case mid => assumption); (case N => k_asm); (case sub => (intro p hp; repeat (first | exact hp | refine List.Mem.tail _ ?_))); (case hl => assumption); (case h0 => (first | assumption | omega)); (case h1 => (first | assumption | omega)); k_whole); intro r' a' c1' c2' n' t1' t2' t3' hr' hm' hta')))
local macro_rules | `(tactic| walk_at "exec For Name Call cons nil") => `(tactic| refine Stop2.out ?_)
local macro_rules | `(tactic| walk_at "pyIter ref") => `(tactic| ((with_reducible show wpAny _ _ (pyIter (Value.ref _)) (fun it s₂ => LoopAtV _ _ _ _ _ _ _ _ _ it s₂) _ _); refine Stop2.out ?_))
local macro_rules | `(tactic| walk_at "exec Assign cons ListComp") => `(tactic| (k_here; lct_look; k_dflt (refine LCt.Assign_ListComp_T (F₀ := by k_asm) (by rfl) (by with_unfolding_all rfl) (by with_unfolding_all rfl) (by decide) (by rfl) (by decide) (by rfl) (by rfl) (by rfl) ?_); k_dflt lct_toSrc))
local macro_rules | `(tactic| walk_at "CompSrcT") => `(tactic| refine Stop2.out ?_)
local macro_rules | `(tactic| walk_at "compareOp NotEq ref ref") => `(tactic| (k_here; (with_reducible show wpAny _ _ (compareOp CmpOp.NotEq (Value.ref _) (Value.ref _)) _ _ _); k_dflt (refine' ne_nil ?zN ?za ?zJ ?zb ?zf ?_; (case zJ => assumption); (case zN => k_asm); (case za => k_mem); (case zb => k_mem); (case zf => k_units); k_whole)))
local macro_rules | `(tactic| walk_at "call builtin:list.append") => `(tactic| (k_here; (show wpAny _ _ (call (Value.builtin _) [Value.ref _, _]) _ _ _); k_dflt (refine' append_K ?k1 ?k2 ?k3 ?_ ?z; (case k1 => k_asm); (case k2 => k_asm); (case k3 => k_upd); (case z => assumption); k_whole); intro h' F' N'; (try k_sweep)))
local macro_rules | `(tactic| k_all) => `(tactic| assumption)
local macro_rules | `(tactic| k_mem) => `(tactic| assumption)
set_option maxHeartbeats 8000000 in
theorem due_call {prog : Program} {w : World} {E : Value → Shared → Prop} {s : Shared} {base h₀ : Heap} {outer : List Env} {env : Env} {L Tk Bk : Addr} {m mg mb : Str → Option Value}
    {mean : ExcName → Option Value} {news : List (Addr × Obj)} {vs : List Value} {n nB : Nat} {rows : List Row} {Q : Value → Shared → Prop}
    (C : At w callerA env L base h₀ outer m mg mb mean s.heap news) (hT : (Tk, listOf vs.toArray n) ∈ news) (hD : DatAll news vs (rows.mapIdx tokD)) (hB : (Bk, listOf (rows.map fun r => Value.bool r.e).toArray nB) ∈ news) (hl : rows.length ≤ 24)
    (h : ∀ U led acc c h' tk, Fr h₀ L h' m → News h₀ L h' ((U, listOf (List.toArray acc) c) :: led) → (∀ p ∈ news, p ∈ led) → DatAll led acc (dueAcc rows rows.length) → Q (.ref U) { s with heap := h', toks := tk }) :
    wpAny (model prog w) (callerA.deeper env) (call (.ref 70) [.ref Tk, .ref Bk]) Q E s := by
  obtain ⟨B, F, X, N, T, hf, hke, hd⟩ := C
  have hr : (callerA.deeper env).depth < recursionLimit := by simp only [depth_deeper, depth_caller]; decide
  refine wpAny_call ?_
  k_dflt (refine' code_defC B F X N T (Around.frames_deeper B.stack) hf hke ?k6 ?k7 hr ?k9 ?kB ?kD ?_ ?c2 ?c3 ?c4)
  case k6 => k_dflt k_is
  case k7 => k_dflt k_is
  case k9 => exact BindsTo.of_eq rfl
  case kB => exact rfl
  case kD => decide +kernel
  case c2 => rfl
  case c3 => rfl
  case c4 => rfl
  intro g' L' h' tk' cells' FG' F' N' Y' B' X' T' l1
  k_cells Y'
  (try simp only [List.cons_append, List.nil_append] at N')
  dsimp only
  refine wpAny_noRaise ?_
  have hlen : vs.length = rows.length := by rw [hD.length, List.length_mapIdx]
  (try k_fold)
  k_steps
  refine Stop2.in ?_
  (rename Fr _ _ _ _ => F₄)
  (rename News _ _ _ _ => N₄)
  (with_unfolding_all refine' For_invVF F₄ ?k1 ?k2 ?_; (case k1 => exact rfl); (case k2 => exact rfl); k_whole)
  k_steps
  refine Stop2.in ?_
  (rename IsRange _ _ _ _ _ _ _ _ => hR₅)
  (rename Fr _ _ _ _ => F₆)
  (rename News _ _ _ _ => N₆)
  (rename _ = Data.cell _ => hcell)
  change _ = Data.cell (some (.ref Tk)) at hcell
  (rename _ ∧ AllLt _ _ => hal)
  have hJ₀ := due_start rows F₆ N₆ rfl rfl rfl rfl hal
  with_unfolding_all refine' iter_rangeJ (n := ((rows.length : Int) - 0).toNat) (DueJ _ _ _ _ _ _) rfl hR₅ (small_one (by omega) (by omega) (by omega) (by omega)) (rangeSize_nat _ _) F₆ N₆ hJ₀ ?turn ?done
  case done =>
    intro m₁ led h₉ tk₉ hJ F₁ N₁
    obtain ⟨nU, a, ta, acc, rest, u, rfl, rfl, hoff, hcU, hsubR, ha, hacc⟩ := hJ
    rw [show ((rows.length : Int) - 0).toNat = rows.length by omega] at hacc
    clear F₆ N₆ hR₅ hJ₀
    k_steps
    (rename Fr _ _ _ _ => Fz)
    (rename News _ _ _ _ => Nz)
    exact h _ _ _ _ _ _ Fz Nz (fun p hp => .tail _ (hsubR _ hp)) (hacc.mono fun p hp => .tail _ hp)
  case turn =>
    intro IT it i t m₁ led h₉ tk₉ hIT hin hJ F₁ N₁
    obtain ⟨nU, a, ta, acc, rest, u, rfl, rfl, hoff, hcU, hsubR, ha, hacc⟩ := hJ
    obtain ⟨rest₂, N₂, hoff₂, hit₂, hsub₂⟩ := due_in N₁ hIT hoff
    have hTr := hsubR _ hT
    have hB₂ := hsub₂ _ (hsubR _ hB)
    have hDr := hD.mono fun p hp => hsubR _ hp
    have hi₂ : i < rows.length := by omega
    obtain ⟨r, hr⟩ : ∃ r, rows[((0 : Int) + (i : Int)).toNat]? = some r := ⟨rows[i], by rw [show ((0 : Int) + (i : Int)).toNat = i by omega]; exact List.getElem?_eq_getElem hi₂⟩
    have hlast := last_lt rows i
    rw [← ha] at hlast
    obtain ⟨hl1, hl2⟩ := hlast
    obtain ⟨ra, hra⟩ : ∃ ra, 0 ≤ a → rows[a.toNat]? = some ra := by
      by_cases h0 : 0 ≤ a
      · exact ⟨rows[a.toNat]'(by omega), fun _ => List.getElem?_eq_getElem _⟩
      · exact ⟨r, fun q => absurd q h0⟩
    have hzU : acc.toArray.size ≤ sizeLine := by
      have := due_len rows i
      rw [List.size_toArray, hacc.length, sizeLine_eq]; omega
    clear N₁ hT hB hD F₆ N₆ hR₅ hJ₀
    k_steps
    · skip
      (rename Fr _ _ _ _ => Fz)
      (rename News _ _ _ _ => Nz)
      with_unfolding_all exact due_skip Fz Nz (.tail _ (.tail _ hit₂)) (.head _) (.tail _ (.head _)) (fun p hp => .tail _ (.tail _ (hsub₂ _ hp))) hIT rfl rfl rfl ha hoff hcU hsubR hacc hr (keep_e (by assumption)) rfl
    · refine Stop2.in ?_
      (rename IsRange _ _ _ _ _ _ _ _ => hR₇)
      (rename Fr _ _ _ _ => F₇)
      (rename News _ _ _ _ => N₇)
      k_dflt (refine LCt.CompSrcT.range (n := (0 + (i : Int) - (a + 1)).toNat) rfl F₇ N₇ hR₇ (small_one (by omega) (by omega) (by omega) (by omega)) (rangeSize_nat _ _) (by rw [sizeLine_eq]; omega) ?_)
      intro g₇
      refine restT_ind (PassJ rows (a + 1)) PassJ.none ?_ ?_
      · intro ys hJp
        intro D₉ h₉' tk₉' F₉ N₉ o₉
        simp only [LCg.Off1] at o₉
        clear F₇ N₇ hR₇
        k_steps
        · (rename Fr _ _ _ _ => Fz)
          (rename News _ _ _ _ => Nz)
          (rename _ ∧ _ ∧ _ ∧ _ ∧ AllLt _ rest₂ => lz')
          have hneg : a < 0 := by omega
          have ho : openD rows a = decide (a < 0) := open_neg hneg
          with_unfolding_all refine' due_push Fz Nz ?uU ?uc ?uT ?us hit₂ hsub₂ hIT lz'.2.2.1 lz'.2.2.2.2 rfl rfl rfl ha hoff hcU hsubR hacc hr (keep_ok (by assumption) (by assumption)) ?ut (kind_neg hneg) (text_neg hneg) rfl
          case uU => repeat (first | exact .head _ | refine .tail _ ?_)
          case uc => repeat (first | exact .head _ | refine .tail _ ?_)
          case uT => rw [ho]; exact .head _
          case us => (intro p hp; repeat (first | exact hp | refine List.Mem.tail _ ?_))
          case ut => assumption
        · (rename Fr _ _ _ _ => Fz)
          (rename News _ _ _ _ => Nz)
          (rename _ ∧ _ ∧ _ ∧ _ ∧ _ ∧ AllLt _ rest₂ => lz')
          (rename rows[Int.toNat a]? = some _ => hra')
          have hge : 0 ≤ a := by omega
          have ho := open_ge hge hra'
          with_unfolding_all refine' due_push Fz Nz ?uU ?uc ?uT ?us hit₂ hsub₂ hIT lz'.2.2.2.1 lz'.2.2.2.2.2 rfl rfl rfl ha hoff hcU hsubR hacc hr (keep_ok (by assumption) (by assumption)) ?ut (kind_ge hge hra') (text_ge hge hra') rfl
          case uU => repeat (first | exact .head _ | refine .tail _ ?_)
          case uc => repeat (first | exact .head _ | refine .tail _ ?_)
          case uT => rw [ho]; exact .head _
          case us => (intro p hp; repeat (first | exact hp | refine List.Mem.tail _ ?_))
          case ut => assumption
      · intro j ys hj hJp v I oI C oC D m₂ h₈ tk₈ E₈ hv hoC hm₂ F₈ N₈
        obtain ⟨tv, rfl⟩ := hv
        clear F₇ N₇ hR₇
        have hj1 : (0 : Int) ≤ a + 1 + (j : Int) := by omega
        have hj2 : a + 1 + (j : Int) < (rows.length : Int) := by omega
        k_steps
        all_goals first | assumption | exact PassJ.snoc hJp (by assumption) (by assumption) | exact PassJ.skip hJp (by assumption) (by assumption)
    · skip
      (rename Fr _ _ _ _ => Fz)
      (rename News _ _ _ _ => Nz)
      with_unfolding_all exact due_skip Fz Nz (.tail _ (.tail _ hit₂)) (.head _) (.tail _ (.head _)) (fun p hp => .tail _ (.tail _ (hsub₂ _ hp))) hIT rfl rfl rfl ha hoff hcU hsubR hacc hr (keep_61 (by assumption)) rfl
end Mine
namespace Mine
theorem pool_ends : ∀ r ∈ poolRows, r.e = (nl r.x && decide (r.k ≠ 3) && decide (r.k ≠ 61)) := by decide +kernel
theorem pool_opens : ∀ r ∈ poolRows, opens r.x = openL.any (· == r.x) := by decide +kernel
theorem pool_strs : ∀ r ∈ poolRows, PyData.strOk r.x = true := by decide +kernel
def pkAt (rows : List Row) (a : Int) : Option Int := if a < 0 then none else (rows[a.toNat]?).map (·.k)
def pxAt (rows : List Row) (a : Int) : Option Str := if a < 0 then none else (rows[a.toNat]?).map (·.x)
theorem pk_kind (rows : List Row) (a : Int) : optI (pkAt rows a) = kindD rows a := by
  unfold pkAt kindD
  split
  · rfl
  · cases rows[a.toNat]? <;> rfl
theorem px_text (rows : List Row) (a : Int) : optS (pxAt rows a) = textD rows a := by
  unfold pxAt textD
  split
  · rfl
  · cases rows[a.toNat]? <;> rfl
def stAt (rows : List Row) (i : Nat) : GSt :=
  ⟨passes rows (lastOf rows i + 1) (0 + (i : Int) - (lastOf rows i + 1)).toNat, openD rows (lastOf rows i), pkAt rows (lastOf rows i), pxAt rows (lastOf rows i)⟩
theorem stAt_zero (rows : List Row) : stAt rows 0 = st0 := by
  unfold stAt
  simp [lastOf, passes, openD, pkAt, pxAt, st0]
theorem out_due (rows : List Row) (i : Nat) (r : Row) : outD (stAt rows i) i r = dueAt rows i r (lastOf rows i) := by
  unfold outD dueAt stAt
  simp only [pk_kind, px_text]
theorem stAt_pass {rows : List Row} {i : Nat} {r : Row} (hr : rows[i]? = some r) (hk : keep r = false) : stAt rows (i + 1) = { stAt rows i with lb := (stAt rows i).lb || decide (r.k ≠ 61) } := by
  have hl : lastOf rows (i + 1) = lastOf rows i := by simp [lastOf, hr, hk]
  obtain ⟨h1, h2⟩ := last_lt rows i
  unfold stAt
  rw [hl]
  have e1 : (0 + ((i + 1 : Nat) : Int) - (lastOf rows i + 1)).toNat = (0 + (i : Int) - (lastOf rows i + 1)).toNat + 1 := by omega
  have e2 : lastOf rows i + 1 + (((0 + (i : Int) - (lastOf rows i + 1)).toNat : Nat) : Int) = (i : Int) := by omega
  rw [e1]
  simp only [passes, e2, kNot, Int.toNat_natCast, hr]
theorem stAt_keep {rows : List Row} {i : Nat} {r : Row} (hr : rows[i]? = some r) (hk : keep r = true) (ho : opens r.x = openL.any (· == r.x)) : stAt rows (i + 1) = ⟨false, opens r.x, some r.k, some r.x⟩ := by
  have hl : lastOf rows (i + 1) = (i : Int) := by simp [lastOf, hr, hk]
  have h0 : ¬ ((i : Int) < 0) := by omega
  unfold stAt
  rw [hl]
  have e1 : (0 + ((i + 1 : Nat) : Int) - ((i : Int) + 1)).toNat = 0 := by omega
  rw [e1]
  simp only [passes, openD, pkAt, pxAt, h0, if_false, Int.toNat_natCast, hr, Option.map_some, ho]
theorem step_const {rows : List Row} {i : Nat} (h : ∀ r ∈ rows, r ∈ poolRows) (hi : i < rows.length) :
    dueAcc rows i ++ genSpec (stAt rows i) ((itemsOf rows).drop i) = dueAcc rows (i + 1) ++ genSpec (stAt rows (i + 1)) ((itemsOf rows).drop (i + 1)) := by
  have hr : rows[i]? = some rows[i] := List.getElem?_eq_getElem hi
  have hp : rows[i] ∈ poolRows := h _ (List.getElem_mem hi)
  rw [items_drop hi]
  generalize rows[i] = r at hr hp
  have he := pool_ends r hp
  by_cases hk : r.k = 61
  · have hkp : keep r = false := keep_61 hk
    rw [spec_skip hk, stAt_pass hr hkp]
    have : dueAcc rows (i + 1) = dueAcc rows i := by simp [dueAcc, hr, hkp]
    rw [this, decide_eq_false (fun q => q hk), Bool.or_false]
  · by_cases hn : nl r.x = true ∧ r.k ≠ 3
    · have hee : r.e = true := by rw [he, hn.1, decide_eq_true hn.2, decide_eq_true hk]; rfl
      have hkp : keep r = false := keep_e hee
      rw [spec_line hk hn.1 hn.2, stAt_pass hr hkp]
      have : dueAcc rows (i + 1) = dueAcc rows i := by simp [dueAcc, hr, hkp]
      rw [this, decide_eq_true hk, Bool.or_true]
    · have hee : r.e = false := by
        rw [he]
        cases q : nl r.x with
        | false => rfl
        | true =>
          have : ¬ r.k ≠ 3 := fun w => hn ⟨q, w⟩
          rw [decide_eq_false this]; rfl
      have hkp : keep r = true := keep_ok hk hee
      rw [spec_out hk hn, stAt_keep hr hkp (pool_opens r hp), out_due]
      have : dueAcc rows (i + 1) = dueAcc rows i ++ [dueAt rows i r (lastOf rows i)] := by simp [dueAcc, hr, hkp]
      rw [this, List.append_assoc]; rfl
theorem plain (rows : List Row) (h : ∀ r ∈ rows, r ∈ poolRows) : genSpec st0 (itemsOf rows) = dueAcc rows rows.length := by
  have all : ∀ i, i ≤ rows.length → genSpec st0 (itemsOf rows) = dueAcc rows i ++ genSpec (stAt rows i) ((itemsOf rows).drop i) := by
    intro i
    induction i with
    | zero => intro _; rw [stAt_zero]; simp [dueAcc]
    | succ i ih => intro hi; rw [ih (by omega), step_const h (by omega)]
  rw [all rows.length (Nat.le_refl _), List.drop_eq_nil_of_le (by rw [List.length_mapIdx]; exact Nat.le_refl _), genSpec, List.append_nil]
theorem spec_oks : ∀ (items : List (Nat × Row)) (st : GSt), (∀ p ∈ items, PyData.strOk p.2.x = true) → (∀ x, st.px = some x → PyData.strOk x = true) → ∀ d ∈ genSpec st items, dOk 8 d = true
  | [], _, _, _, d, hd => by simp [genSpec] at hd
  | (j, r) :: rest, st, h1, h2, d, hd => by
    have hr : PyData.strOk r.x = true := h1 (j, r) (.head _)
    have ht : ∀ p ∈ rest, PyData.strOk p.2.x = true := fun p hp => h1 p (.tail _ hp)
    by_cases hk : r.k = 61
    · rw [spec_skip hk] at hd
      exact spec_oks rest st ht h2 d hd
    · by_cases hn : nl r.x = true ∧ r.k ≠ 3
      · rw [spec_line hk hn.1 hn.2] at hd
        exact spec_oks rest { st with lb := true } ht h2 d hd
      · rw [spec_out hk hn] at hd
        rcases List.mem_cons.mp hd with rfl | hd
        · have hI : ∀ n, dOk n (optI st.pk) = true := fun n => by cases st.pk <;> cases n <;> rfl
          have hS : ∀ n, dOk n (optS st.px) = true := fun n => by
            cases q : st.px with
            | none => cases n <;> rfl
            | some x => cases n <;> exact h2 x q
          simp [outD, startD, dOk, hI, hS, hr]
        · exact spec_oks rest ⟨false, opens r.x, some r.k, some r.x⟩ ht (fun x e => by cases e; exact hr) d hd
theorem spec_ok {rows : List Row} (h : ∀ r ∈ rows, r ∈ poolRows) : ∀ d ∈ genSpec st0 (itemsOf rows), dOk 8 d = true := by
  refine spec_oks _ _ (fun p hp => ?_) (fun x e => by cases e)
  obtain ⟨j, hj, rfl⟩ := List.mem_mapIdx.mp hp
  exact pool_strs _ (h _ (List.getElem_mem hj))
end Mine
namespace Mine
example : (fun (_ : OpenLaw) (_ : Params → Frag) => True) PySem.Challenge.rw_et5022_01 Mine.hd.heap_39 := by
  k_fill
  trivial
def Stop (p : Prop) : Prop := p
theorem Stop.out {p : Prop} (h : Stop p) : p := h
theorem Stop.in {p : Prop} (h : p) : Stop p := h
local macro_rules | `(tactic| walk_at "exec For Name Call cons nil") => `(tactic| refine Stop.out ?_)
local macro_rules | `(tactic| walk_at "call ref") => `(tactic| (k_here; (with_reducible show wpAny _ _ (call (Value.ref 65) _) _ _ _); refine Stop.out ?_))
local macro_rules | `(tactic| walk_at "call ref") => `(tactic| (k_here; (with_reducible show wpAny _ _ (call (Value.ref 58) _) _ _ _); refine Stop.out ?_))
local macro_rules | `(tactic| walk_at "call ref") => `(tactic| (k_here; (with_reducible show wpAny _ _ (call (Value.ref 51) _) _ _ _); refine Stop.out ?_))
local macro_rules | `(tactic| walk_at "call ref") => `(tactic| (k_here; (with_reducible show wpAny _ _ (call (Value.ref 70) _) _ _ _); refine Stop.out ?_))
local macro_rules | `(tactic| walk_at "pyIter ref") => `(tactic| ((with_reducible show wpAny _ _ (pyIter (Value.ref _)) (fun it s₂ => LoopAtV _ _ _ _ _ _ _ _ _ it s₂) _ _); refine Stop.out ?_))
local macro_rules | `(tactic| walk_at "compareOp Eq ref ref") => `(tactic| refine Stop.out ?_)
local macro_rules | `(tactic| k_all) => `(tactic| assumption)
local macro_rules | `(tactic| k_mem) => `(tactic| assumption)
local macro_rules | `(tactic| walk_at "subscriptTail") => `(tactic| (k_here; (with_reducible show wpAny _ _ (subscriptTail _ _ (Value.ref _) (Value.int _ _)) _ _ _); k_dflt (refine' pool_item ?N ?sub ?hP ?h0 ?h1 ?_; (case hP => assumption); (case N => k_asm); (case sub => (intro p hp; repeat (first | exact hp | refine List.Mem.tail _ ?_))); (case h0 => assumption); (case h1 => assumption); k_whole); intro a' n' t1' t2' row' hrow' hmem'))
local macro_rules | `(tactic| walk_at "call ref") => `(tactic| (k_here; (show wpAny _ _ (call (Value.ref 44) [Value.int _ _, Value.str _ _]) _ _ _); k_dflt (refine' isbin_call ?C ?_; (case C => (refine At.mk (by k_asm) (by k_asm) (by k_asm) (by k_asm) (by k_asm) rfl rfl (by simp only [depth_deeper, depth_caller]; decide))); k_whole); intro h' tk' F' N'; (try k_sweep)))
local macro_rules | `(tactic| walk_at "call builtin:list.append") => `(tactic| (k_here; (show wpAny _ _ (call (Value.builtin _) [Value.ref _, _]) _ _ _); k_dflt (refine' append_K ?k1 ?k2 ?k3 ?_ ?z; (case k1 => k_asm); (case k2 => k_asm); (case k3 => k_upd); (case z => assumption); k_whole); intro h' F' N'; (try k_sweep)))
local macro_rules | `(tactic| walk_at "compareOp In") => `(tactic| (k_here; (with_reducible show wpAny _ _ (compareOp CmpOp.In Value.none (Value.ref _)) _ _ _); k_dflt (refine' none_in_strs ?ho ?hS ?hb ?_; (case ho => exact News.get (by k_asm) (by k_mem)); (case hS => k_asm); (case hb => decide); k_whole)))
local macro_rules | `(tactic| walk_at "binaryOp Add ref ref") => `(tactic| (k_here; refine Stop.out ?_))
local macro_rules | `(tactic| walk_at "compareOp NotEq ref") => `(tactic| (k_here; refine Stop.out ?_))
local macro_rules | `(tactic| walk_at "compareOp Eq ref") => `(tactic| (k_here; refine Stop.out ?_))
set_option maxHeartbeats 8000000 in
theorem t1 : PySem.Challenge.rw_et5022_01.Holds := Mine.hd (by
  k_fill
  intro w s₀ s₁ mg mb G Y fa o pm cd doc dV kV ho hd hcd hD hmg hg args vals as hpre hlay hrd hwl hlo
  have KX := kIn_of Y
  have X := (Ground.X G).1
  have V := (Ground.X G).2
  refine Ground.open G ?_
  intro T B D TE TW
  try (refine guard_noD D (by decide +kernel) ?_; clear D)
  obtain ⟨_, _, M⟩ := bmod_of_top T
  have TA := at_of_top T
  try (obtain ⟨_, _, he, B0⟩ := based_of_top T rfl hmg ho hd; have he' : cd = _ := he; subst he'; clear he)
  clear hmg
  wrow_args hpre hlay hrd hwl hlo
  first | refine callC_kw (enter_call ?_) | refine enter_call ?_ | refine callC_kw (enter_callW ?_) | refine enter_callW ?_ | w_how
  w_top on
  have K0 := below_caller (Top.heap T)
  w_call any ho hd hcd hD T F
  clear hd TA
  k_drop
  refine wpAny_noRaise ?_
  (try k_fold)
  k_steps
  refine Stop.in ?_
  k_dflt (refine' pool_call ?C ?_; (case C => (refine At.mk (by k_asm) (by k_asm) (by k_asm) (by k_asm) (by k_asm) rfl rfl (by simp only [depth_deeper, depth_caller]; decide))); k_whole; intro P vsP objs h₂ tk₂ F₂ N₂ l1 l2 hPd; (try k_sweep))
  refine after_pool N₂ l1 l2 hPd (fun rest N₃ hS hX hP => ?_)
  clear l1 l2 hPd N₂ objs
  k_steps
  refine Stop.in ?_
  refine' before_loop (by assumption) (by assumption) (by assumption) (by assumption) (by assumption) (by assumption) hS hX (fun t1 t2 t3 N₄ hO c1 c2 c3 c4 c5 => ?_)
  clear hS hX
  (rename Fr _ _ _ _ => F₄)
  (with_unfolding_all refine' For_invVF F₄ ?k1 ?k2 ?_; (case k1 => exact rfl); (case k2 => exact rfl); k_whole)
  k_steps
  refine Stop.in ?_
  (rename IntsAre _ (List.take 60 _) => hI60)
  have hl60 : ∀ l : List Int, (List.take 60 l).length ≤ 60 := fun l => by rw [List.length_take]; omega
  k_dflt (refine' next_call ?C hI60 ?h1 ?h2 ?h3 ?h4 ?h5 ?h6 ?h7 ?h8 ?h9 ?_; (case C => (refine At.mk (by k_asm) (by k_asm) (by k_asm) (by k_asm) (by k_asm) rfl rfl (by simp only [depth_deeper, depth_caller]; decide))); (case h1 => omega); (case h2 => omega); (case h3 => exact hl60 _); (case h4 => omega); (case h5 => omega); (case h6 => decide); (case h7 => decide); (case h8 => (have hOs := hO.s; k_all)); (case h9 => k_ne))
  intro r i₀ st₀ tr u1 u2 nS₀ h₅ tk₅ hr0 hr1 hi0 hi1 hs0 hs1 F₅ N₅
  clear F₄ N₄
  k_steps
  refine Stop.in ?_
  (rename IsRange _ _ _ _ _ _ _ _ => hR₅)
  (rename Fr _ _ _ _ => F₆)
  (rename News _ _ _ _ => N₆)
  have hJ₀ := loop_start F₆ N₆ rfl rfl rfl rfl rfl rfl hi0 hi1 hs0 hs1 hO hP
  with_unfolding_all refine' iter_rangeJ (n := (1 + r - 0).toNat) (LawJ _ _ _ _ _ _ _ _ _ _) rfl hR₅ (small_one (by omega) (by omega) (by omega) (by omega)) (rangeSize_nat _ _) F₆ N₆ hJ₀ ?turn ?done
  case turn =>
    clear hJ₀ F₆ N₆ hR₅ hi0 hi1 hs0 hs1 hO hP
    intro IT it i t m₁ news₁ hh tk hIT hin hJ F₁ N₁
    obtain ⟨i', st, t1, t2, nS, nT, nB, nD, nU, vT, vB, vD, vU, rows, rest, u, rfl, rfl, hi0, hi1, hs0, hs1, hO, hP, hlen, hrows, hT, rfl, hD, hU⟩ := hJ
    refine turn_in N₁ hIT hO (fun rest₂ N₂ hO₂ hit hsub => ?_)
    have hP₂ := hP.mono hsub
    have hOs := hO₂.s
    have hOx := hO₂.x
    have hOt := hO₂.t
    have hOb := hO₂.b
    have hOd := hO₂.d
    have hOu := hO₂.u
    have hzl : rows.length ≤ 24 := by omega
    have hzT : vT.toArray.size ≤ sizeLine := by rw [List.size_toArray, hT.length, List.length_mapIdx, sizeLine_eq]; omega
    have hzB : (rows.map (fun r => Value.bool r.e)).toArray.size ≤ sizeLine := by rw [List.size_toArray, List.length_map, sizeLine_eq]; omega
    have hzD : vD.toArray.size ≤ sizeLine := by rw [List.size_toArray, hD.length, List.length_map, sizeLine_eq]; omega
    have hzU : vU.toArray.size ≤ sizeLine := by rw [List.size_toArray, hU.length, List.length_cons, List.length_map, sizeLine_eq]; omega
    clear N₁
    k_steps
    refine Stop.in ?_
    (rename IntsAre _ (List.take 60 _) => hI60)
    k_dflt (refine' next_call ?C hI60 ?h1 ?h2 ?h3 ?h4 ?h5 ?h6 ?h7 ?h8 ?h9 ?_; (case C => (refine At.mk (by k_asm) (by k_asm) (by k_asm) (by k_asm) (by k_asm) rfl rfl (by simp only [depth_deeper, depth_caller]; decide))); (case h1 => assumption); (case h2 => assumption); (case h3 => exact hl60 _); (case h4 => assumption); (case h5 => assumption); (case h6 => decide); (case h7 => decide); (case h8 => k_all); (case h9 => k_ne))
    intro r₂ i₃ st₃ tr₃ u1 u2 nS₃ h₃ tk₃ hr0 hr1 hi0 hi1 hs0 hs1 F₃ N₃
    clear F₁ N₂
    k_steps
    (rename Fr _ _ _ _ => Fe)
    (rename News _ _ _ _ => Ne)
    with_unfolding_all refine' turn_out Fe Ne rfl rfl rfl rfl rfl rfl hi0 hi1 hs0 hs1 hit hsub hO hP (fun p hp => hIT p (.tail _ (.tail _ (.tail _ (.tail _ (.tail _ (.tail _ hp))))))) (hIT _ (.head _)) (hIT _ (.tail _ (.head _))) (hIT _ (.tail _ (.tail _ (.head _)))) (hIT _ (.tail _ (.tail _ (.tail _ (.head _))))) (hIT _ (.tail _ (.tail _ (.tail _ (.tail _ (.head _)))))) (hIT _ (.tail _ (.tail _ (.tail _ (.tail _ (.tail _ (.head _))))))) ?l1 ?l2 ?l3 hlen hrows ?hrow hT hD hU
    case l1 => assumption
    case l2 => assumption
    case l3 => assumption
    case hrow => assumption
  case done =>
    intro m₁ news₁ hh tk hJ F₁ N₁
    obtain ⟨i', st, t1, t2, nS, nT, nB, nD, nU, vT, vB, vD, vU, rows, rest, u, rfl, rfl, hi0, hi1, hs0, hs1, hO, hP, hlen, hrows, hT, rfl, hD, hU⟩ := hJ
    dsimp only
    k_steps
    refine Stop.in ?_
    k_dflt (refine' add_listsK ?zF ?zN ?za ?zb ?zz ?_; (case zF => k_asm); (case zN => k_asm); (case za => exact News.isList (by k_asm) (by k_mem)); (case zb => exact News.isList (by k_asm) (by k_mem)); (case zz => (rw [hD.length, List.length_map, sizeLine_eq]; simp only [List.length_cons, List.length_nil]; omega)); k_whole)
    intro C h₇ F₇ N₇ lC
    walk1
    k_dflt (refine' dat_ne (ds := (bS false :: rows.map fun r => bS r.b).map Dat.str) N₇ ?za ?zb ?zc ?zd ?ze ?zf ?_; (case za => exact .head _); (case zc => k_mem); (case zb => exact .cons (.str _ _) (strs_dat (told_eq hrows ▸ hD))); (case zd => exact strs_dat hU); (case zf => k_units); (case ze => (intro d hd; obtain ⟨y, hy, rfl⟩ := List.mem_map.mp hd; rcases List.mem_cons.mp hy with rfl | hy; exact bS_ok _; obtain ⟨r, _, rfl⟩ := List.mem_map.mp hy; exact bS_ok _)); k_whole)
    have N₈ := tidy (rest := rest) N₇ (p := (_, listOf vT.toArray nT)) (q := (_, listOf (rows.map fun r => Value.bool r.e).toArray nB)) (by repeat (first | exact .head _ | refine .tail _ ?_)) (by repeat (first | exact .head _ | refine .tail _ ?_)) (fun p hp => by repeat (first | exact hp | refine List.Mem.tail _ ?_))
    have hT' := dat_noItAll hT
    clear N₇ lC hD hU hT hi0 hi1 hs0 hs1 hO hP
    k_steps
    k_dflt (refine' list_copyK ?zF N₈ ?za ?_ ?zz; (case zF => k_asm); (case za => exact News.isList N₈ (.head _)); (case zz => (rw [List.size_toArray, hT'.length, List.length_mapIdx, sizeLine_eq]; omega)); k_whole)
    intro T₂ c₂ h₈ F₈ N₉ l₉
    clear N₈ F₇
    k_steps
    refine Stop.in ?_
    k_dflt (refine' gen_callD (rows := rows) (vs := vT) ?hA ?C ?g1 ?g2 ?g3 ?_; (case hA => rfl); (case C => (refine At.mk (by k_asm) (by k_asm) (by k_asm) (by k_asm) (by k_asm) rfl rfl (by simp only [depth_deeper, depth_caller]; decide))); (case g1 => exact .head _); (case g2 => exact hT'.mono fun p hp => .tail _ (.tail _ (.tail _ hp))); (case g3 => exact tidy_nit); k_whole)
    intro g₁ Lg₁ G₁ oG h₁ tk₁ gs₁ FG FL NL hgk hG hGL hLg hnL hR
    have NL' := NL.tail'
    clear N₉ F₈ NL
    k_steps
    k_dflt (refine' list_gen (D := genSpec st0 (itemsOf rows)) ?q1 ?q2 ?q3 hG hGL hLg push_last ?q4 FG hgk ?q5 NL' ?q6 hR ?_; (case q1 => rfl); (case q2 => (simp only [depth_deeper, depth_caller]; decide)); (case q3 => exact T.nolimit); (case q4 => (refine Nat.le_trans (spec_len _ _) ?_; rw [List.length_mapIdx]; omega)); (case q5 => k_asm); (case q6 => exact fun p hp => ⟨hnL p hp, tidy_nit p hp⟩); k_whole)
    intro S₂ acc objs c₃ h₂ tk₂ F₁₀ N₁₀ hacc
    clear FG FL NL' hgk hG hGL hLg hnL hR
    k_steps
    refine Stop.in ?_
    k_dflt (refine' due_call (rows := rows) (vs := vT) ?C ?g1 ?g2 ?g3 ?g4 ?_; (case C => (refine At.mk (by k_asm) (by k_asm) (by k_asm) (by k_asm) (by k_asm) rfl rfl (by simp only [depth_deeper, depth_caller]; decide))); (case g1 => exact .tail _ (List.mem_append_right _ (.tail _ (.head _)))); (case g2 => exact hT'.mono fun p hp => .tail _ (List.mem_append_right _ (.tail _ (.tail _ (.tail _ hp))))); (case g3 => exact .tail _ (List.mem_append_right _ (.tail _ (.tail _ (.head _))))); (case g4 => omega); k_whole)
    intro U₃ led₃ acc₃ c₄ h₃ tk₃ F₁₁ N₁₁ hsub₁₁ hacc₃
    clear F₁₀ N₁₀
    k_steps
    refine Stop.in ?_
    have hpl := plain rows hrows
    k_dflt (refine' dat_eq (ds := genSpec st0 (itemsOf rows)) N₁₁ (.tail _ (hsub₁₁ _ (.head _))) (hacc.mono fun p hp => .tail _ (hsub₁₁ _ (.tail _ (List.mem_append_left _ hp)))) (.head _) (hpl ▸ (hacc₃.mono fun p hp => .tail _ hp)) (spec_ok hrows) ?zf ?_; (case zf => k_units); k_whole)
    k_steps
    (rename Fr _ _ _ _ => Fz)
    refine ⟨.inl ⟨_, _, [], rfl, fun _ => rfl, ReadsW.bool true, ?_, fun _ => ⟨List.nodup_nil, fun _ hm => (nomatch hm)⟩⟩, .of_keep fun b o e => Fz.keep b o e, rfl, ?_⟩
    · first | rfl | wrow_post
    · show AllBare ((s₁.gens.push gs₁).setIfInBounds s₁.gens.size GenState.finished)
      rw [push_set, hg]
      exact AllBare.push .empty rfl)
end Mine
theorem PySem.Challenge.cw_et5022_01_holds : PySem.Challenge.rw_et5022_01.Holds := by
  exact Mine.t1
