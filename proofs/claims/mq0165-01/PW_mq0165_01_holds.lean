import PyProof.Rows.All
import Wide.All
import OpenK.AllK
import Wide.FinOn
import PySem.Challenge.RW_mq0165_01
set_option Elab.async false
section
open PySem PySem.W PyProof.Rows PySem.Calls
set_option Elab.async false
set_option maxRecDepth 100000
namespace Mine
/-- the i-th statement of the text's top, if a def: its name, parameters, body, scope -/
def defAt (i : Nat) : Option (Str × Arguments × List Stmt × Scope) :=
  match PySem.Challenge.pw_mq0165_01.main.body[i]? with
  | some (.FunctionDef n a b _ _ _ s _ _ _) => some (n, a, b, s)
  | _ => none
/-- the def of that number stands in the heap under its name -/
def FnIn (mg : Str → Option Value) (h : Heap) (i : Nat) (f : Addr) : Prop :=
  match defAt i with
  | some (n, a, b, sc) => mg n = some (.ref f) ∧ ∃ o pm code doc, h.get? f = some o ∧ o.data = .func (docDef n a b sc pm code doc) ∧ h.CodeRec code n
  | none => False
theorem FnIn.keeps {mg : Str → Option Value} {h h' : Heap} {i : Nat} {f : Addr} (x : FnIn mg h i f) (k : ∀ b o, h.get? b = some o → h'.get? b = some o) : FnIn mg h' i f := by
  unfold FnIn at x ⊢
  split
  · rename_i e
    rw [e] at x
    obtain ⟨h1, o, pm, code, doc, h2, h3, h4⟩ := x
    exact ⟨h1, o, pm, code, doc, k _ _ h2, h3, h4.keeps k⟩
  · rename_i e
    rw [e] at x
    exact x
/-- what the text's top left, as the walk needs it -/
structure Md (mg mb : Str → Option Value) (h : Heap) : Prop where
  g : h.Ns mainGlobals mg
  b : h.Ns builtinsNs mb
  nolimit : h.NoLimit
  em : ∃ f, FnIn mg h 2 f
  parse : ∃ f, FnIn mg h 4 f
  rows : ∃ f, FnIn mg h 6 f
  fits : ∃ f, FnIn mg h 7 f
  cut : ∃ f, FnIn mg h 8 f
  marker : ∃ t, mg "ELLIPSIS_MARKER" = some (.str (Str.ofString "...") t)
  gl : ∀ x ∈ [Str.ofString "len", Str.ofString "range"], mg x = none
  bl : ∀ x : Str, x ≠ "__name__" → mb x = bootBuiltins x
theorem Md.keeps {mg mb : Str → Option Value} {h h' : Heap} (x : Md mg mb h) (k : ∀ b o, h.get? b = some o → h'.get? b = some o) : Md mg mb h' where
  g := x.g.keeps k
  b := x.b.keeps k
  nolimit := x.nolimit.keeps k
  em := let ⟨f, e⟩ := x.em; ⟨f, e.keeps k⟩
  parse := let ⟨f, e⟩ := x.parse; ⟨f, e.keeps k⟩
  rows := let ⟨f, e⟩ := x.rows; ⟨f, e.keeps k⟩
  fits := let ⟨f, e⟩ := x.fits; ⟨f, e.keeps k⟩
  cut := let ⟨f, e⟩ := x.cut; ⟨f, e.keeps k⟩
  marker := x.marker
  gl := x.gl
  bl := x.bl
end Mine
end
section
open PySem PySem.W PyProof.Rows PySem.Calls
set_option Elab.async false
set_option maxRecDepth 100000
namespace Mine
abbrev Ar (dp un : Nat) (fr : Option (List Env)) (gd : Option (List Code)) : Around := { handled := none, depth := dp, frames := fr, guards := gd, units := un }
def bodyAt (i : Nat) : List Stmt := match defAt i with | some (_, _, b, _) => b | none => []
def scopeAt (i : Nat) : Scope := match defAt i with | some (_, _, _, s) => s | none => default
def nameAt (i : Nat) : Str := match defAt i with | some (n, _, _, _) => n | none => Str.ofString ""
section
variable {prog : Program} {w : World} {A : Around} {s : Shared} {mg mb : Str → Option Value}
theorem enter {i : Nat} {f : Addr} {n : Str} {a : Arguments} {b : List Stmt} {sc : Scope} {args : List Value} {binds : List (Str × Value)} {Q E : Value → Shared → Prop}
    (hd : defAt i = some (n, a, b, sc)) (M : Md mg mb s.heap) (hf : FnIn mg s.heap i f) (hroom : A.depth < recursionLimit)
    (hbind : ∀ pm code doc, bindArgs (docDef n a b sc pm code doc) ⟨args, []⟩ = pure binds) (hloc : ∀ x ∈ binds, sc.names.lookup x.1 = some .local)
    (h : ∀ L h₁ cd, Fr s.heap L h₁ (fun x => binds.reverse.lookup x) →
      wpAny (model prog w) (A.deeper (envOf n sc L f cd)) (execs b (envOf n sc L f cd))
        (fun fl s' => Q (match fl with | .ret v => v | _ => .none) s') (fun _ _ => False) { s with heap := h₁, toks := s.toks + binds.length })
    (hco : sc.isCoroutine = false := by rfl) (hgen : sc.isGenerator = false := by rfl) (hk : sc.kind = .function := by rfl)
    (hcell : ∀ x ∈ sc.names, x.2 ≠ .cell := by decide) :
    wpAny (model prog w) A (call (.ref f) args) Q E s := by
  unfold FnIn at hf
  rw [hd] at hf
  obtain ⟨_, o, pm, code, doc, h2, h3, h4⟩ := hf
  exact wpAny_call (call_plain_ret hroom h2 h3 M.nolimit h4 (hbind pm code doc) hloc (fun h₁ F => h _ h₁ _ F) hco hgen hk hcell)
end
section
variable {MM : Model} {A : Around} {E : Value → Shared → Prop} {s : Shared} {name : Str} {scope : Scope} {L a : Addr} {cd : Value} {h₀ : Heap} {m mg mb : Str → Option Value} {pos : Pos} {Q : Value → Shared → Prop}
theorem nm_len (F : Fr h₀ L s.heap m) (M : Md mg mb h₀) (h : Q (.builtin "len") s)
    (hk : scope.kind = .function := by rfl) (hx : (envOf name scope L a cd).kindOf (Str.ofString "len") = some .globalImplicit := by rfl) :
    wpAny MM A (eval (.Name (Str.ofString "len") pos) (envOf name scope L a cd)) Q E s :=
  ld_builtin_at F M.g (M.gl _ (by simp)) M.b ((M.bl _ (by decide)).trans (by decide +kernel)) h hk hx
theorem nm_range (F : Fr h₀ L s.heap m) (M : Md mg mb h₀) (h : Q (.type "range") s)
    (hk : scope.kind = .function := by rfl) (hx : (envOf name scope L a cd).kindOf (Str.ofString "range") = some .globalImplicit := by rfl) :
    wpAny MM A (eval (.Name (Str.ofString "range") pos) (envOf name scope L a cd)) Q E s :=
  ld_builtin_at F M.g (M.gl _ (by simp)) M.b ((M.bl _ (by decide)).trans (by decide +kernel)) h hk hx
theorem nm_mark (F : Fr h₀ L s.heap m) (M : Md mg mb h₀) (h : ∀ t, Q (.str (Str.ofString "...") t) s)
    (hk : scope.kind = .function := by rfl) (hx : (envOf name scope L a cd).kindOf (Str.ofString "ELLIPSIS_MARKER") = some .globalImplicit := by rfl) :
    wpAny MM A (eval (.Name (Str.ofString "ELLIPSIS_MARKER") pos) (envOf name scope L a cd)) Q E s :=
  let ⟨t, e⟩ := M.marker
  ld_global_at F M.g e (h t) hk hx
/-- a statement, then the rest, with a word between -/
theorem seqMid {env : Env} {st : Stmt} {rest : List Stmt} {Q : Flow → Shared → Prop} (P : Shared → Prop)
    (h1 : wpAny MM A (exec st env) (fun f s' => match f with | .next => P s' | f => Q f s') E s)
    (h2 : ∀ s', P s' → wpAny MM A (execs rest env) Q E s') : wpAny MM A (execs (st :: rest) env) Q E s :=
  wpAny_execs_cons (wpAny_mono h1 (fun f s' h => by cases f <;> first | exact h2 _ h | exact h) fun _ _ e => e)
end
/-- find with both bounds -/
def find4 (x y : Str) (i j : Int) : Int := match Builtin.Str.occurrences x y (fromIndex x.length i) (min (fromIndex x.length j) x.length) 1 with | k :: _ => (k : Int) | [] => -1
theorem gives_find4 (x y : Str) (i j : Int) (t u v z : Tok) : Gives (Builtin.«str.find» ⟨[.str x t, .str y u, .int i v, .int j z], []⟩) (.int (find4 x y i j)) := by
  show Gives (match Builtin.Str.occurrences x y (fromIndex x.length i) (min (fromIndex x.length j) x.length) 1 with | k :: _ => retInt k | [] => (do rule "str.find.not-found"; retInt (-1))) _
  unfold find4
  cases Builtin.Str.occurrences x y (fromIndex x.length i) (min (fromIndex x.length j) x.length) 1 with
  | nil => exact .rule (.of_eq rfl)
  | cons k _ => exact .of_eq rfl
theorem call_find4 {prog : Program} {w : World} {A : Around} {E : Value → Shared → Prop} {s : Shared} {x y : Str} {t u v z : Tok} {i j : Int} {Q : Value → Shared → Prop}
    (hq : Q (.int (find4 x y i j) s.toks) { s with toks := s.toks + 1 }) : wpAny (model prog w) A (call (.builtin "str.find") [.str x t, .str y u, .int i v, .int j z]) Q E s :=
  call_gives F.slot_str_find (typeIs_str _ _ _) F.entry_str_find (F.args_str_find_4 _ _ _ _) (gives_find4 x y i j t u v z) hq
section
variable {prog : Program} {w : World} {A : Around} {E : Value → Shared → Prop} {s : Shared} {env : Env} {h₀ : Heap} {x : Str} {body : List Stmt} {Q : Flow → Shared → Prop}
/-- a turn's end: what the next turn starts from -/
def LpEnd (h₀ : Heap) (L I : Addr) (J : (Str → Option Value) → List (Addr × Obj) → Prop) (own : List (Addr × Obj)) (s₁ s₂ : Shared) : Prop :=
  ∃ h' tk m' news', s₂ = { s₁ with heap := h', toks := tk } ∧ Fr h₀ L h' m' ∧ News h₀ L h' (news' ++ own) ∧ (∀ p ∈ news', p.1 ≠ I) ∧ J m' news'
def LpPost (h₀ : Heap) (L I : Addr) (J : (Str → Option Value) → List (Addr × Obj) → Prop) (own : List (Addr × Obj)) (s₁ : Shared) (Q : Flow → Shared → Prop) (f : Flow) (s₂ : Shared) : Prop :=
  match f with
  | .ret v => Q (.ret v) s₂
  | .brk => Q .next s₂
  | _ => LpEnd h₀ L I J own s₁ s₂
theorem LpEnd.intro {h₀ h' : Heap} {L I : Addr} {J : (Str → Option Value) → List (Addr × Obj) → Prop} {own news' : List (Addr × Obj)} {s₁ : Shared} {tk : Nat} {m' : Str → Option Value}
    (F : Fr h₀ L h' m') (N : News h₀ L h' (news' ++ own)) (hn : ∀ p ∈ news', p.1 ≠ I) (hJ : J m' news') : LpEnd h₀ L I J own s₁ { s₁ with heap := h', toks := tk } := ⟨h', tk, m', news', rfl, F, N, hn, hJ⟩
/-- a loop over anything that walks, by an invariant over the turn's number, the frame's map and the ledger -/
theorem loop_walk {I l : Addr} {fp : List Addr} {n : Nat} {P : Nat → Value → Prop} {St : Nat → Heap → Prop} {m₀ : Str → Option Value} {news : List (Addr × Obj)} (J : Nat → (Str → Option Value) → List (Addr × Obj) → Prop)
    (W : Walks prog w A I fp [I] n P St) (hfp : ∀ b ∈ fp, b = I ∨ b = l) (hLf : env.locals ∉ fp) (hI : h₀.get? I = none) (hlive : ∀ i h, St i h → ∃ o, h.get? I = some o) (hIn : ∀ p ∈ news, p.1 ≠ I)
    (hst : St 0 s.heap) (F : Fr h₀ env.locals s.heap m₀) (N : News h₀ env.locals s.heap news) (hj : J 0 m₀ news)
    (turn : ∀ i v m₁ news₁ h tk own, i < n → P i v → (∀ p ∈ own, p.1 = I ∨ p.1 = l) → (∃ o, (I, o) ∈ own) → (∀ p ∈ news₁, p.1 ≠ I) → J i m₁ news₁ → Fr h₀ env.locals h (fun y => if y = x then some v else m₁ y) → News h₀ env.locals h (news₁ ++ own) →
      wpAny (model prog w) A (execs body env) (LpPost h₀ env.locals I (J (i + 1)) own { s with heap := h, toks := tk } Q) E { s with heap := h, toks := tk })
    (done : ∀ m₁ news₁ h tk, J n m₁ news₁ → Fr h₀ env.locals h m₁ → News h₀ env.locals h news₁ → Q .next { s with heap := h, toks := tk }) :
    LoopAtV prog w A h₀ env x body Q E (.ref I) s := by
  refine ⟨I, fp, [I], n, P, St, m₀, news, J, rfl, W, hLf, ?_, ?_, hst, F, N, hj, ?_, ?_⟩
  · intro b hb; rw [List.mem_singleton.mp hb]; exact hI
  · intro p hp hb; exact hIn p hp (List.mem_singleton.mp hb)
  · rintro i v m₁ news₁ s₁ own ⟨h, tk, rfl⟩ hi hP hJ hoff hsub _ hall hst₁ F₁ N₁
    have N₂ : News h₀ env.locals h (news₁ ++ own) := fun p hp => N₁ p ((List.mem_append.mp hp).elim (fun h => List.mem_append.mpr (.inr h)) fun h => List.mem_append.mpr (.inl h))
    have hIown : ∃ o, (I, o) ∈ own := by
      obtain ⟨o, ho⟩ := hlive _ _ hst₁
      exact ⟨o, hall I (W.sub I (List.mem_singleton.mpr rfl)) hI o ho⟩
    refine wpAny_mono (turn i v m₁ news₁ h tk own hi hP (fun p hp => hfp _ (hsub p hp)) hIown (fun p hp e => hoff p hp (List.mem_singleton.mpr e)) hJ F₁ N₂) (fun f s₂ p => ?_) fun _ _ e => e
    have fin : LpEnd h₀ env.locals I (J (i + 1)) own { s with heap := h, toks := tk } s₂ → LoopStepU h₀ env.locals [I] own (J (i + 1)) { s with heap := h, toks := tk } .next s₂ := by
      rintro ⟨h', tk', m', news', e, F', N', hn, hJ'⟩
      exact ⟨rfl, h', tk', m', news', e, F', fun p hp => N' p ((List.mem_append.mp hp).elim (fun h => List.mem_append.mpr (.inr h)) fun h => List.mem_append.mpr (.inl h)), fun p hp hq => hn p hp (List.mem_singleton.mp hq), hJ'⟩
    cases f with
    | ret v => exact .ret p
    | brk => exact .brk p
    | next => exact .next (fin p)
    | cont => exact .cont (fin p)
  · rintro h' tk m' news' F' N' _ hJ
    exact done m' news' h' tk hJ F' N'
theorem iter_list {l : Addr} {vs : List Value} {m₀ : Str → Option Value} {news : List (Addr × Obj)} (J : Nat → (Str → Option Value) → List (Addr × Obj) → Prop)
    (hh : A.handled = none) (hl : s.heap.IsList l vs.toArray) (hlL : env.locals ≠ l) (F : Fr h₀ env.locals s.heap m₀) (N : News h₀ env.locals s.heap news) (hj : J 0 m₀ news)
    (turn : ∀ i v m₁ news₁ h tk own I, vs[i]? = some v → (∀ p ∈ own, p.1 = I ∨ p.1 = l) → (∃ o, (I, o) ∈ own) → (∀ p ∈ news₁, p.1 ≠ I) → J i m₁ news₁ → Fr h₀ env.locals h (fun y => if y = x then some v else m₁ y) → News h₀ env.locals h (news₁ ++ own) →
      wpAny (model prog w) A (execs body env) (LpPost h₀ env.locals I (J (i + 1)) own { s with heap := h, toks := tk } Q) E { s with heap := h, toks := tk })
    (done : ∀ m₁ news₁ h tk, J vs.length m₁ news₁ → Fr h₀ env.locals h m₁ → News h₀ env.locals h news₁ → Q .next { s with heap := h, toks := tk }) :
    wpAny (model prog w) A (pyIter (.ref l)) (fun it s₂ => LoopAtV prog w A h₀ env x body Q E it s₂) E s := by
  obtain ⟨ol, hol, _⟩ := id hl
  have hne : l ≠ s.heap.objs.size := Nat.ne_of_lt (Heap.lt_size hol)
  refine wpAny_pyIter_list hl ?_
  have W := Walks.list (prog := prog) (w := w) hh s.heap.objs.size l hne vs.toArray
  rw [List.size_toArray] at W
  refine loop_walk (l := l) J W (by intro b hb; simpa using hb) ?_ (next_is_new F) (fun i h st => ?_) ?_ ⟨⟨_, Heap.get?_push_size _ rfl, rfl, rfl⟩, hl.at fun o e => Heap.get?_push_of_some _ e⟩ (F.push _)
    (fun p hp => ⟨Heap.get?_push_of_some _ (N p hp).1, (N p hp).2⟩) hj ?_ ?_
  · intro hm
    rcases List.mem_cons.mp hm with e | hm
    · exact absurd F.ns.lt (e ▸ Nat.lt_irrefl _)
    · exact hlL (List.mem_singleton.mp hm)
  · obtain ⟨⟨o, ho, _⟩, _⟩ := st; exact ⟨o, ho⟩
  · intro p hp e; exact absurd (Heap.lt_size (N p hp).1) (e ▸ Nat.lt_irrefl _)
  · intro i v m₁ news₁ h tk own hi hP h1 h2 h3 hJ F₁ N₁
    exact turn i v m₁ news₁ h tk own _ (by simpa using hP) h1 h2 h3 hJ F₁ N₁
  · intro m₁ news₁ h tk hJ F₁ N₁
    exact done m₁ news₁ h tk hJ F₁ N₁
theorem iter_str {xt : Str} {tx : Tok} {m₀ : Str → Option Value} {news : List (Addr × Obj)} (J : Nat → (Str → Option Value) → List (Addr × Obj) → Prop)
    (hh : A.handled = none) (F : Fr h₀ env.locals s.heap m₀) (N : News h₀ env.locals s.heap news) (hj : J 0 m₀ news)
    (turn : ∀ i c u m₁ news₁ h tk own I, xt.cps[i]? = some c → (∀ p ∈ own, p.1 = I) → (∃ o, (I, o) ∈ own) → (∀ p ∈ news₁, p.1 ≠ I) → J i m₁ news₁ → Fr h₀ env.locals h (fun y => if y = x then some (.str ⟨#[c]⟩ u) else m₁ y) → News h₀ env.locals h (news₁ ++ own) →
      wpAny (model prog w) A (execs body env) (LpPost h₀ env.locals I (J (i + 1)) own { s with heap := h, toks := tk } Q) E { s with heap := h, toks := tk })
    (done : ∀ m₁ news₁ h tk, J xt.cps.size m₁ news₁ → Fr h₀ env.locals h m₁ → News h₀ env.locals h news₁ → Q .next { s with heap := h, toks := tk }) :
    wpAny (model prog w) A (pyIter (.str xt tx)) (fun it s₂ => LoopAtV prog w A h₀ env x body Q E it s₂) E s := by
  cases ha : xt.cps.all (· < 128)
  · refine wpAny_pyIter_wide ha ?_
    refine loop_walk (l := s.heap.objs.size) J (Walks.strWide hh _ xt tx) (by intro b hb; exact .inl (List.mem_singleton.mp hb)) (fun hm => absurd F.ns.lt ((List.mem_singleton.mp hm) ▸ Nat.lt_irrefl _)) (next_is_new F)
      (fun i h st => let ⟨o, ho, _⟩ := st; ⟨o, ho⟩) (fun p hp e => absurd (Heap.lt_size (N p hp).1) (e ▸ Nat.lt_irrefl _)) ⟨_, Heap.get?_push_size _ rfl, rfl, rfl⟩ (F.push _) (fun p hp => ⟨Heap.get?_push_of_some _ (N p hp).1, (N p hp).2⟩) hj ?_ ?_
    · rintro i v m₁ news₁ h tk own hi ⟨c, u, hc, rfl⟩ h1 h2 h3 hJ F₁ N₁
      exact turn i c u m₁ news₁ h tk own _ hc (fun p hp => (h1 p hp).elim id id) h2 h3 hJ F₁ N₁
    · exact done
  · refine wpAny_pyIter_ascii ha ?_
    refine loop_walk (l := s.heap.objs.size) J (Walks.strAscii hh _ xt tx) (by intro b hb; exact .inl (List.mem_singleton.mp hb)) (fun hm => absurd F.ns.lt ((List.mem_singleton.mp hm) ▸ Nat.lt_irrefl _)) (next_is_new F)
      (fun i h st => let ⟨o, ho, _⟩ := st; ⟨o, ho⟩) (fun p hp e => absurd (Heap.lt_size (N p hp).1) (e ▸ Nat.lt_irrefl _)) ⟨_, Heap.get?_push_size _ rfl, rfl, rfl⟩ (F.push _) (fun p hp => ⟨Heap.get?_push_of_some _ (N p hp).1, (N p hp).2⟩) hj ?_ ?_
    · rintro i v m₁ news₁ h tk own hi ⟨c, u, hc, rfl⟩ h1 h2 h3 hJ F₁ N₁
      exact turn i c u m₁ news₁ h tk own _ hc (fun p hp => (h1 p hp).elim id id) h2 h3 hJ F₁ N₁
    · exact done
end
end Mine
end
section
open PySem PySem.W PyProof.Rows PySem.Calls
set_option Elab.async false
set_option maxRecDepth 100000
namespace Mine
local macro_rules | `(tactic| walk_at "no such key") => `(tactic| skip)
local macro_rules | `(tactic| walk_at "eval Name") => `(tactic| ((with_reducible show wpAny _ _ (eval (Expr.Name (Str.ofString "len") _) _) _ _ _); k_dflt (refine nm_len (by assumption) (by assumption) ?_)))
local macro_rules | `(tactic| walk_at "eval Name") => `(tactic| ((with_reducible show wpAny _ _ (eval (Expr.Name (Str.ofString "ELLIPSIS_MARKER") _) _) _ _ _); k_dflt (refine nm_mark (by assumption) (by assumption) ?_); intro tmk))
local macro_rules | `(tactic| walk_at "eval Name") => `(tactic| (k_dflt (refine' ld ?k1 ?k2 ?_; (case k1 => k_asm); (case k2 => first | exact rfl | assumption); k_whole)))
local macro_rules | `(tactic| walk_at "call builtin:str.find") => `(tactic| (with_reducible refine call_find4 ?_))

def scanR (g : Str) (e : Nat) : Nat → List Str → Option Nat
  | p, [] => some p
  | p, v :: ws => match Builtin.Str.occurrences g v p e 1 with
    | k :: _ => scanR g e (k + v.length) ws
    | [] => none

theorem scanR_cons (g : Str) (e p : Nat) (v : Str) (ws : List Str) : scanR g e p (v :: ws) = match Builtin.Str.occurrences g v p e 1 with
    | k :: _ => scanR g e (k + v.length) ws
    | [] => none := rfl
theorem find4_nat (x y : Str) (p e : Nat) (he : e ≤ x.length) : find4 x y (p : Int) (e : Int) = match Builtin.Str.occurrences x y p e 1 with | k :: _ => (k : Int) | [] => -1 := by
  have h1 : fromIndex x.length (p : Int) = p := by unfold fromIndex; rw [if_neg (by omega)]; omega
  have h2 : min (fromIndex x.length (e : Int)) x.length = e := by
    have : fromIndex x.length (e : Int) = e := by unfold fromIndex; rw [if_neg (by omega)]; omega
    rw [this]; omega
  unfold find4
  rw [h1, h2]
  first | done | rfl
theorem occ1_le {x y : Str} {p e k : Nat} {r : List Nat} (h : Builtin.Str.occurrences x y p e 1 = k :: r) : k + y.length ≤ e :=
  (StrLaws.occ_spec x y p e 1 k (by rw [h]; exact .head _)).1
theorem occ1_ge {x y : Str} {p e k : Nat} {r : List Nat} (h : Builtin.Str.occurrences x y p e 1 = k :: r) : p ≤ k := by
  rw [StrLaws.occ_eq] at h
  rcases StrLaws.occ_first x y e 1 (Nat.le_refl _) (List.range' p (e + 1 - p)) p (fun i hi => by have := List.mem_range'_1.mp hi; omega) with ⟨h0, hn⟩ | ⟨pre, a, post, e', h0, ha, hn⟩
  · rw [h0] at h; cases h
  · have hs := StrLaws.range'_split_from e'
    rw [← Array.getElem?_toList, h] at h0
    cases h0
    exact hs.1
abbrev emEnv (L f : Addr) (cd : Value) : Env := envOf (Str.ofString "_ellipsis_match") (scopeAt 2) L f cd
set_option maxHeartbeats 4000000 in
theorem em_tail {prog : Program} {w : World} {dp un : Nat} {fr : Option (List Env)} {gd : Option (List Code)} {s : Shared} {mg mb m : Str → Option Value} {f L a : Addr} {cd : Value} {got : Str} {tg ts te : Tok} {st en : Nat}
    {h₀ : Heap} {l : List (Str × Tok)} {n : Nat} {Q : Flow → Shared → Prop}
    (M : Md mg mb h₀) (F : Fr h₀ L s.heap m) (N : News h₀ L s.heap [(a, listOf (strValues l).toArray n)])
    (hgot : m (Str.ofString "got") = some (.str got tg)) (hws : m (Str.ofString "ws") = some (.ref a)) (hst : m (Str.ofString "startpos") = some (.int st ts)) (hen : m (Str.ofString "endpos") = some (.int en te))
    (hg : got.length ≤ 1048576) (he : en ≤ got.length) (hl : ∀ p ∈ l, p.1.length ≤ 1048576)
    (h : ∀ h' tk, h₀.StaysIn h' → Q (.ret (.bool (decide (st ≤ en) && (scanR got en st (l.map (·.1))).isSome))) { s with heap := h', toks := tk }) :
    wpAny (model prog w) (Ar dp un fr gd) (execs ((bodyAt 2).drop 8) (emEnv L f cd)) Q (fun _ _ => False) s := by
  have KX : Frag.In [] h₀ := fun _ _ e => nomatch e
  show wpAny _ _ (execs (_ :: _) (envOf _ ⟨_, _, _, _, _⟩ _ _ _)) _ _ _
  have hL : a ≠ L := (N _ (.head _)).2.1
  have hal : s.heap.IsList a (strValues l).toArray := ⟨_, (N _ (.head _)).1, rfl, _, rfl⟩
  w_on
  iterate 8 walk1
  · iterate 3 walk1
    rename_i hc
    have := h s.heap s.toks F.keep
    rw [show decide (st ≤ en) = false by simp at hc ⊢; omega] at this
    exact this
  walk1
  walk1
  rename_i hc
  refine For_invV h₀ (by rfl) (by rfl) ?_
  walk1
  refine iter_list (fun i m₁ news₁ => news₁ = [(a, listOf (strValues l).toArray n)] ∧ m₁ (Str.ofString "got") = some (.str got tg) ∧ (∃ p t, m₁ (Str.ofString "startpos") = some (.int (p : Nat) t) ∧ st ≤ p ∧ p ≤ en ∧ scanR got en p ((l.map (·.1)).drop i) = scanR got en st (l.map (·.1))) ∧ m₁ (Str.ofString "endpos") = some (.int en te))
    rfl hal (fun e => hL e.symm) F N ⟨rfl, hgot, ⟨st, ts, hst, Nat.le_refl _, by simp at hc; omega, by simp⟩, hen⟩ ?_ ?_
  · rintro i v m₁ news₁ h' tk own I hv hown hI hnI ⟨rfl, hgot1, ⟨p, tp, hsp, hp1, hp2, hscan⟩, hen1⟩ F1 N1
    have hvi : ∃ q, l[i]? = some q ∧ v = .str q.1 q.2 := by
      unfold strValues at hv
      rw [List.getElem?_map] at hv
      cases hq : l[i]? with
      | none => rw [hq] at hv; cases hv
      | some q => rw [hq] at hv; exact ⟨q, rfl, (Option.some.inj hv).symm⟩
    obtain ⟨q, hq, rfl⟩ := hvi
    have hdrop : (l.map (·.1)).drop i = q.1 :: (l.map (·.1)).drop (i + 1) := by
      rw [List.drop_eq_getElem?_toList_append, List.getElem?_map, hq]; rfl
    rw [hdrop] at hscan
    have hfd := find4_nat got q.1 p en he
    have hql := hl q (List.mem_of_getElem? hq)
    rcases hoc : Builtin.Str.occurrences got q.1 p en 1 with _ | ⟨k, r⟩
    · rw [hoc] at hfd
      dsimp only at hfd
      rw [scanR_cons, hoc] at hscan
      dsimp only at hscan
      have hF : ∀ h' tk, h₀.StaysIn h' → Q (.ret (.bool false)) { s with heap := h', toks := tk } := by
        intro h' tk hk
        have := h h' tk hk
        rw [← hscan, Option.isSome_none, Bool.and_false] at this
        exact this
      iterate 14 walk1
      rw [hfd]
      iterate 14 walk1
      exact hF _ _ (Fr.keep (by assumption))
    · rw [hoc] at hfd
      dsimp only at hfd
      rw [scanR_cons, hoc] at hscan
      dsimp only at hscan
      have hke := occ1_le hoc
      have hkp : p ≤ k := by
        exact occ1_ge hoc
      iterate 14 walk1
      rw [hfd]
      iterate 10 walk1
      · iterate 16 walk1
        refine' LpEnd.intro ?F9 ?N9 hnI ?J9
        case F9 => assumption
        case N9 => assumption
        exact ⟨rfl, hgot1, ⟨k + q.1.length, _, by rw [Int.natCast_add]; rfl, by omega, hke, hscan⟩, hen1⟩
  · rintro m₁ news₁ h' tk ⟨rfl, hgot1, ⟨p, tp, hsp, hp1, hp2, hscan⟩, hen1⟩ F1 N1
    dsimp only
    iterate 3 walk1
    have hd : decide (st ≤ en) = true := by simp; omega
    have := h h' tk F1.keep
    rw [hd, ← hscan, show (strValues l).length = l.length by simp [strValues], List.drop_of_length_le (by simp)] at this
    exact this
end Mine
end
section
open PySem PySem.W PyProof.Rows PySem.Calls
set_option Elab.async false
set_option maxRecDepth 100000
namespace Mine
local macro_rules | `(tactic| walk_at "eval Name") => `(tactic| ((with_reducible show wpAny _ _ (eval (Expr.Name (Str.ofString "len") _) _) _ _ _); k_dflt (refine nm_len (by assumption) (by assumption) ?_)))
local macro_rules | `(tactic| walk_at "eval Name") => `(tactic| ((with_reducible show wpAny _ _ (eval (Expr.Name (Str.ofString "ELLIPSIS_MARKER") _) _) _ _ _); k_dflt (refine nm_mark (by assumption) (by assumption) ?_); intro tmk))
local macro_rules | `(tactic| walk_at "eval Name") => `(tactic| (k_dflt (refine' ld ?k1 ?k2 ?_; (case k1 => k_asm); (case k2 => first | exact rfl | assumption); k_whole)))
local macro_rules | `(tactic| walk_at "loadName") => `(tactic| (k_dflt (refine' ldn ?k1 ?k2 ?_; (case k1 => k_asm); (case k2 => first | exact rfl | assumption); k_whole)))
section
variable {prog : Program} {w : World} {A : Around} {E : Value → Shared → Prop} {s : Shared} {Q : Value → Shared → Prop}
/-- an item of a list at a place counted from the front or from the back -/
theorem item_at {value slice : PySem.Expr} {l : Addr} {vs : List Value} {k : Int} {u : Tok} {v : Value}
    (hl : s.heap.IsList l vs.toArray) (hx : if 0 ≤ k then k < 2 ^ 63 ∧ vs[k.toNat]? = some v else -(2 ^ 63) ≤ k ∧ -(vs.length : Int) ≤ k ∧ vs[(k + vs.length).toNat]? = some v) (h : Q v s)
    (hs : subscripted slice false (.ref l) (.int k u) = operate [.ref l, .int k u] (getItem (.ref l) (.int k u)) := by with_unfolding_all rfl) :
    wpAny (model prog w) A (subscriptTail value slice (.ref l) (.int k u)) Q E s := by
  by_cases h0 : 0 ≤ k
  · rw [if_pos h0] at hx
    exact tail_any hl.typeIs slot_list_getitem.lookup (wpAny_getItem_list hl h0 hx.1 (by simpa using hx.2) h) hs
  · rw [if_neg h0] at hx
    exact tail_any hl.typeIs slot_list_getitem.lookup (wpAny_getItem_list_neg hl (by omega) (by simpa using hx.2.1) hx.1 (by simpa using hx.2.2) h) hs
end
theorem del_one {prog : Program} {w : World} {A : Around} {E : Value → Shared → Prop} {s : Shared} {h₀ : Heap} {L a : Addr} {m : Str → Option Value} {vs : List Value} {n k : Nat} {i : Int} {u : Tok} {Q : Unit → Shared → Prop}
    (F : Fr h₀ L s.heap m) (N : News h₀ L s.heap [(a, listOf vs.toArray n)]) (hfit : Builtin.List.listFitsIndex i = true) (hk : seqIndex? i vs.length = some k) (hsz : vs.length ≤ sizeLine)
    (h : ∀ h', Fr h₀ L h' m → News h₀ L h' [(a, listOf (vs.eraseIdx k).toArray (n + 1))] → Q () { s with heap := h' }) : wpAny (model prog w) A (delItem (.ref a) (.int i u)) Q E s :=
  delItem_head F N (fun _ hp => nomatch hp) hfit (by rw [List.size_toArray]; exact hk) (fun h' F' N' => h h' F' N') (by rw [List.size_toArray]; exact hsz)
theorem erase_last (l : List (Str × Tok)) (x : Str × Tok) : (strValues (l ++ [x])).eraseIdx l.length = strValues l := by
  simp [strValues, List.eraseIdx_append_of_length_le]
theorem last_item (l : List (Str × Tok)) (sl : Str) (tl : Tok) : if 0 ≤ (-1 : Int) then (-1 : Int) < 2 ^ 63 ∧ (strValues (l ++ [(sl, tl)]))[(-1 : Int).toNat]? = some (.str sl tl)
    else -(2 ^ 63) ≤ (-1 : Int) ∧ -((strValues (l ++ [(sl, tl)])).length : Int) ≤ -1 ∧ (strValues (l ++ [(sl, tl)]))[((-1 : Int) + (strValues (l ++ [(sl, tl)])).length).toNat]? = some (.str sl tl) := by
  rw [if_neg (by decide)]
  have e0 : (strValues (l ++ [(sl, tl)])).length = l.length + 1 := by simp [strValues]
  refine ⟨by decide, by rw [e0]; omega, ?_⟩
  rw [e0, show ((-1 : Int) + ((l.length + 1 : Nat) : Int)).toNat = l.length by omega]
  simp [strValues]
set_option maxHeartbeats 4000000 in
theorem em_last {prog : Program} {w : World} {dp un : Nat} {fr : Option (List Env)} {gd : Option (List Code)} {s : Shared} {mg mb m : Str → Option Value} {f L a : Addr} {cd : Value} {got : Str} {tg ts te : Tok} {st : Nat}
    {h₀ : Heap} {l : List (Str × Tok)} {sl : Str} {tl : Tok} {n : Nat} {Q : Flow → Shared → Prop}
    (M : Md mg mb h₀) (F : Fr h₀ L s.heap m) (N : News h₀ L s.heap [(a, listOf (strValues (l ++ [(sl, tl)])).toArray n)])
    (hgot : m (Str.ofString "got") = some (.str got tg)) (hws : m (Str.ofString "ws") = some (.ref a)) (hst : m (Str.ofString "startpos") = some (.int st ts)) (hen : m (Str.ofString "endpos") = some (.int got.length te))
    (hg : got.length ≤ 1048576) (hl : ∀ p ∈ l ++ [(sl, tl)], p.1.length ≤ 1048576) (hll : l.length ≤ 1048576)
    (h : ∀ b h' tk, h₀.StaysIn h' → (b = if sl.length = 0 then decide (st ≤ got.length) && (scanR got got.length st (l.map (·.1) ++ [sl])).isSome
      else Txt.endswith got sl && (decide (st ≤ got.length - sl.length) && (scanR got (got.length - sl.length) st (l.map (·.1))).isSome)) → Q (.ret (.bool b)) { s with heap := h', toks := tk }) :
    wpAny (model prog w) (Ar dp un fr gd) (execs ((bodyAt 2).drop 6) (emEnv L f cd)) Q (fun _ _ => False) s := by
  have KX : Frag.In [] h₀ := fun _ _ e => nomatch e
  show wpAny _ _ (execs (_ :: _) (envOf _ ⟨_, _, _, _, _⟩ _ _ _)) _ _ _
  have hL : a ≠ L := (N _ (.head _)).2.1
  have hal : s.heap.IsList a (strValues (l ++ [(sl, tl)])).toArray := ⟨_, (N _ (.head _)).1, rfl, _, rfl⟩
  have hsl := hl (sl, tl) (by simp)
  dsimp only at hsl
  w_on
  iterate 7 walk1
  refine item_at (v := .str sl tl) hal (last_item l sl tl) ?_
  iterate 6 walk1
  walk1
  · iterate 14 walk1
    · iterate 21 walk1
      rename Txt.endswith _ _ = true => hew
      rename (_ : Int) ≠ 0 => hne
      have hle : sl.length ≤ got.length := by
        unfold Txt.endswith at hew
        simp only [Bool.and_eq_true, decide_eq_true_eq] at hew
        omega
      have hlen : (strValues (l ++ [(sl, tl)])).length = l.length + 1 := by simp [strValues]
      refine' del_one (k := l.length) ?F9 ?N9 (by decide) ?K9 ?S9 ?_
      case F9 => assumption
      case N9 => assumption
      case K9 => rw [hlen]; simp [seqIndex?]; omega
      case S9 => rw [hlen]; simp [sizeLine]; omega
      intro h' F' N'
      rw [erase_last] at N'
      iterate 3 walk1
      refine' em_tail (l := l) (en := got.length - sl.length) M F' N' ?a9 ?b9 ?c9 ?d9 hg (by omega) (fun p hp => hl p (by simp [hp])) ?e9
      case a9 => exact hgot
      case b9 => exact hws
      case c9 => exact hst
      case d9 => rw [Int.natCast_sub hle]; rfl
      intro h' tk hk
      refine h _ _ _ hk ?_
      rw [if_neg (by omega), hew, Bool.true_and]
    · iterate 3 walk1
      rename Txt.endswith _ _ = false => hew
      rename (_ : Int) ≠ 0 => hne
      refine h _ _ _ (Fr.keep (by assumption)) ?_
      rw [if_neg (by omega), hew]
      rfl
  · rename (_ : Int) = 0 => hne
    dsimp only
    walk1
    walk1
    refine' em_tail M ?F8 ?N8 ?a8 ?b8 ?c8 ?d8 hg (Nat.le_refl _) hl ?e8
    case F8 => assumption
    case N8 => assumption
    case a8 => exact hgot
    case b8 => exact hws
    case c8 => exact hst
    case d8 => exact hen
    intro h' tk hk
    refine h _ _ _ hk ?_
    rw [if_pos (by omega)]
    simp
end Mine
end
section
open PySem PySem.W PyProof.Rows PySem.Calls
set_option Elab.async false
set_option maxRecDepth 100000
namespace Mine
local macro_rules | `(tactic| walk_at "eval Name") => `(tactic| ((with_reducible show wpAny _ _ (eval (Expr.Name (Str.ofString "len") _) _) _ _ _); k_dflt (refine nm_len (by assumption) (by assumption) ?_)))
local macro_rules | `(tactic| walk_at "eval Name") => `(tactic| ((with_reducible show wpAny _ _ (eval (Expr.Name (Str.ofString "ELLIPSIS_MARKER") _) _) _ _ _); k_dflt (refine nm_mark (by assumption) (by assumption) ?_); intro tmk))
local macro_rules | `(tactic| walk_at "eval Name") => `(tactic| (k_dflt (refine' ld ?k1 ?k2 ?_; (case k1 => k_asm); (case k2 => first | exact rfl | assumption); k_whole)))
local macro_rules | `(tactic| walk_at "loadName") => `(tactic| (k_dflt (refine' ldn ?k1 ?k2 ?_; (case k1 => k_asm); (case k2 => first | exact rfl | assumption); k_whole)))

def lastR (got sl : Str) (st : Nat) (ws : List Str) : Bool :=
  if sl.length = 0 then decide (st ≤ got.length) && (scanR got got.length st (ws ++ [sl])).isSome
  else Txt.endswith got sl && (decide (st ≤ got.length - sl.length) && (scanR got (got.length - sl.length) st ws).isSome)
def firstR (got s0 : Str) (mid : List Str) (sl : Str) : Bool :=
  if s0.length = 0 then lastR got sl 0 (s0 :: mid) else Txt.startswith got s0 && lastR got sl s0.length mid
set_option maxHeartbeats 4000000 in
theorem em_first {prog : Program} {w : World} {dp un : Nat} {fr : Option (List Env)} {gd : Option (List Code)} {s : Shared} {mg mb m : Str → Option Value} {f L a : Addr} {cd : Value} {got : Str} {tg ts te : Tok}
    {h₀ : Heap} {l : List (Str × Tok)} {s0 sl : Str} {t0 tl : Tok} {n : Nat} {Q : Flow → Shared → Prop}
    (M : Md mg mb h₀) (F : Fr h₀ L s.heap m) (N : News h₀ L s.heap [(a, listOf (strValues (((s0, t0) :: l) ++ [(sl, tl)])).toArray n)])
    (hgot : m (Str.ofString "got") = some (.str got tg)) (hws : m (Str.ofString "ws") = some (.ref a)) (hst : m (Str.ofString "startpos") = some (.int (0 : Nat) ts)) (hen : m (Str.ofString "endpos") = some (.int got.length te))
    (hg : got.length ≤ 1048576) (hl : ∀ p ∈ ((s0, t0) :: l) ++ [(sl, tl)], p.1.length ≤ 1048576) (hll : l.length ≤ 1048575)
    (h : ∀ h' tk, h₀.StaysIn h' → Q (.ret (.bool (firstR got s0 (l.map (·.1)) sl))) { s with heap := h', toks := tk }) :
    wpAny (model prog w) (Ar dp un fr gd) (execs ((bodyAt 2).drop 4) (emEnv L f cd)) Q (fun _ _ => False) s := by
  have KX : Frag.In [] h₀ := fun _ _ e => nomatch e
  show wpAny _ _ (execs (_ :: _) (envOf _ ⟨_, _, _, _, _⟩ _ _ _)) _ _ _
  have hL : a ≠ L := (N _ (.head _)).2.1
  have hal : s.heap.IsList a (strValues (((s0, t0) :: l) ++ [(sl, tl)])).toArray := ⟨_, (N _ (.head _)).1, rfl, _, rfl⟩
  have hsl := hl (s0, t0) (by simp)
  dsimp only at hsl
  w_on
  iterate 5 walk1
  refine item_at (v := .str s0 t0) hal (by rw [if_pos (by decide)]; exact ⟨by decide, rfl⟩) ?_
  iterate 7 walk1
  · iterate 14 walk1
    · iterate 17 walk1
      rename Txt.startswith _ _ = true => hew
      rename (_ : Int) ≠ 0 => hne
      have hle : s0.length ≤ got.length := by
        unfold Txt.startswith at hew
        simp only [Bool.and_eq_true, decide_eq_true_eq] at hew
        omega
      have hlen : (strValues ((s0, t0) :: l ++ [(sl, tl)])).length = l.length + 2 := by simp [strValues]
      refine' del_one (k := 0) ?F9 ?N9 (by decide) ?K9 ?S9 ?_
      case F9 => assumption
      case N9 => assumption
      case K9 => rw [hlen]; simp [seqIndex?]; omega
      case S9 => rw [hlen]; simp [sizeLine]; omega
      intro h' F' N'
      rw [show (strValues ((s0, t0) :: l ++ [(sl, tl)])).eraseIdx 0 = strValues (l ++ [(sl, tl)]) from rfl] at N'
      iterate 3 walk1
      refine' em_last (l := l) (sl := sl) (tl := tl) (st := s0.length) M F' N' ?a9 ?b9 ?c9 ?d9 hg (fun p hp => hl p (.tail _ hp)) (by omega) ?e9
      case a9 => exact hgot
      case b9 => exact hws
      case c9 => exact rfl
      case d9 => exact hen
      intro b h' tk hk hb
      have := h h' tk hk
      unfold firstR at this
      rw [if_neg (by omega), hew, Bool.true_and] at this
      rw [hb]
      exact this
    · iterate 3 walk1
      rename Txt.startswith _ _ = false => hew
      rename (_ : Int) ≠ 0 => hne
      have hF : ∀ h' tk, h₀.StaysIn h' → Q (.ret (.bool false)) { s with heap := h', toks := tk } := by
        intro h' tk hk
        have := h h' tk hk
        unfold firstR at this
        rw [if_neg (by omega), hew, Bool.false_and] at this
        exact this
      exact hF _ _ (Fr.keep (by assumption))
  · rename (_ : Int) = 0 => hne
    dsimp only
    walk1
    walk1
    refine' em_last (l := (s0, t0) :: l) (sl := sl) (tl := tl) (st := 0) M ?F8 ?N8 ?a8 ?b8 ?c8 ?d8 hg hl (by simp; omega) ?e8
    case F8 => assumption
    case N8 => assumption
    case a8 => exact hgot
    case b8 => exact hws
    case c8 => exact hst
    case d8 => exact hen
    intro b h' tk hk hb
    have := h h' tk hk
    unfold firstR at this
    rw [if_pos (by omega)] at this
    rw [hb]
    exact this

theorem split_none {x : Str} (h : (Builtin.Str.occurrences x (Str.ofString "...") 0 x.length 1).isEmpty = true) : Txt.split x (Str.ofString "...") = [x] := by
  have h2 : (Builtin.Str.occurrences x (Str.ofString "...") 0 x.length (x.length + 1)).isEmpty = true := by
    rcases StrLaws.occ_head_from x (Str.ofString "...") 0 1 (Nat.le_refl _) with ⟨e, hn⟩ | ⟨i, r, e, _⟩
    · rcases StrLaws.occ_head_from x (Str.ofString "...") 0 (x.length + 1) (by omega) with ⟨e', _⟩ | ⟨i, r, _, hi, ha, _⟩
      · rw [e']; rfl
      · exact absurd ha (hn i hi)
    · rw [e] at h; cases h
  unfold Txt.split
  rw [if_pos h2]
  split <;> rfl
theorem split_some {x : Str} (h : (Builtin.Str.occurrences x (Str.ofString "...") 0 x.length 1).isEmpty = false) : 2 ≤ (Txt.split x (Str.ofString "...")).length := by
  rcases StrLaws.occ_head_from x (Str.ofString "...") 0 1 (Nat.le_refl _) with ⟨e, hn⟩ | ⟨i, r, e, hi, ha, _⟩
  · rw [e] at h; cases h
  · have h2 : (Builtin.Str.occurrences x (Str.ofString "...") 0 x.length (x.length + 1)) ≠ [] := by
      rcases StrLaws.occ_head_from x (Str.ofString "...") 0 (x.length + 1) (by omega) with ⟨e', hn⟩ | ⟨i, r, e', _⟩
      · exact absurd ha (hn i hi)
      · rw [e']; exact List.cons_ne_nil _ _
    have h3 : ¬ ((decide (x.length < (Str.ofString "...").length) || decide (Builtin.Str.strKind x < Builtin.Str.strKind (Str.ofString "..."))) = true) := by
      have k1 : Builtin.Str.strKind (Str.ofString "...") = 1 := by decide +kernel
      have k2 : 1 ≤ Builtin.Str.strKind x := by unfold Builtin.Str.strKind; split <;> (try split) <;> omega
      have k3 := ha.1
      simp only [Bool.or_eq_true, decide_eq_true_eq]
      omega
    unfold Txt.split
    rw [if_neg h3, if_neg (by simpa using h2)]
    cases hc : Builtin.Str.occurrences x (Str.ofString "...") 0 x.length (x.length + 1) with
    | nil => exact absurd hc h2
    | cons i r => simp [Builtin.Str.partsBetween]
theorem split_len_le (x y : Str) : (Txt.split x y).length ≤ x.length + 2 := by
  unfold Txt.split
  split
  · simp
  · split
    · simp
    · have := StrLaws.occ_length_le_len x y 0 x.length (x.length + 1)
      simp only [Builtin.Str.partsBetween, List.length_map, List.length_zip, List.length_cons, List.length_append, List.length_nil]
      omega
/-- what _ellipsis_match gives -/
def EmSays (want got : Str) (b : Bool) : Prop :=
  (Txt.split want (Str.ofString "...") = [want] ∧ b = (want == got)) ∨
  ∃ s0 mid sl, Txt.split want (Str.ofString "...") = s0 :: (mid ++ [sl]) ∧ b = firstR got s0 mid sl
set_option maxHeartbeats 4000000 in
theorem em_call {prog : Program} {w : World} {dp un : Nat} {fr : Option (List Env)} {gd : Option (List Code)} {s : Shared} {mg mb : Str → Option Value} {f : Addr} {want got : Str} {t1 t2 : Tok} {Q E : Value → Shared → Prop}
   (M : Md mg mb s.heap) (hf : FnIn mg s.heap 2 f) (hroom : dp < recursionLimit) (hw : want.length ≤ 1000000) (hg : got.length ≤ 1000000)
   (h : ∀ b h' tk, EmSays want got b → s.heap.StaysIn h' → Q (.bool b) { s with heap := h', toks := tk }) :
   wpAny (model prog w) (Ar dp un fr gd) (call (.ref f) [.str want t1, .str got t2]) Q E s := by
  refine enter (i := 2) (binds := [(Str.ofString "want", .str want t1), (Str.ofString "got", .str got t2)]) rfl M hf hroom (fun _ _ _ => rfl) (locs rfl) (fun L h₁ cd F => ?_)
  have N : News s.heap L h₁ [] := News.nil
  have KX : Frag.In [] s.heap := fun _ _ e => nomatch e
  have hFk := F.keep
  w_on
  iterate 10 walk1
  · rename List.isEmpty _ = true => hno
    iterate 7 walk1
    exact h _ _ _ (.inl ⟨split_none hno, rfl⟩) F.keep
  · rename List.isEmpty _ = false => hyes
    have h2 := split_some hyes
    iterate 11 walk1
    rename List (Str × Tok) => l
    rename List.map _ _ = Txt.split _ _ => hl
    rename ∀ a, a ∈ List.map _ _ → _ => hlb
    rw [← hl] at h2
    obtain ⟨s0, t0, mid, sl, tl, rfl⟩ : ∃ s0 t0 mid sl tl, l = ((s0, t0) :: mid) ++ [(sl, tl)] := by
      rw [List.length_map] at h2
      rcases l with _ | ⟨⟨s0, t0⟩, r⟩
      · simp at h2
      · rcases List.eq_nil_or_concat r with rfl | ⟨mid, ⟨sl, tl⟩, rfl⟩
        · simp at h2
        · exact ⟨s0, t0, mid, sl, tl, by simp⟩
    have hlen : mid.length + 2 ≤ want.length + 2 := by
      have := split_len_le want (Str.ofString "...")
      rw [← hl] at this
      simpa using this
    have hsp : EmSays want got (firstR got s0 (mid.map (·.1)) sl) := .inr ⟨s0, mid.map (·.1), sl, by rw [← hl]; simp, rfl⟩
    iterate 16 walk1
    · iterate 25 walk1
      refine' em_first (got := got) (l := mid) (s0 := s0) (t0 := t0) (sl := sl) (tl := tl) M ?F9 ?N9 ?a9 ?b9 ?c9 ?d9 (by omega) ?g9 (by omega) ?e9
      case F9 => assumption
      case N9 => exact fun p hp => (by assumption : News _ _ _ (_ :: _)) p (.tail _ hp)
      case a9 => exact rfl
      case b9 => exact rfl
      case c9 => exact rfl
      case d9 => exact rfl
      case g9 => exact fun p hp => Nat.le_trans (hlb p.1 (List.mem_map.mpr ⟨p, hp, rfl⟩)) (by omega)
      case e9 =>
        intro h' tk hk
        exact h _ _ _ hsp hk
    · rename ¬ _ => hx
      simp at hx
      exfalso
      omega
end Mine
end
section
open PySem PySem.W PyProof.Rows PySem.Calls
set_option Elab.async false
set_option maxRecDepth 100000
namespace Mine
local macro_rules | `(tactic| walk_at "eval Name") => `(tactic| ((with_reducible show wpAny _ _ (eval (Expr.Name (Str.ofString "len") _) _) _ _ _); k_dflt (refine nm_len (by assumption) (by assumption) ?_)))
local macro_rules | `(tactic| walk_at "eval Name") => `(tactic| ((with_reducible show wpAny _ _ (eval (Expr.Name (Str.ofString "ELLIPSIS_MARKER") _) _) _ _ _); k_dflt (refine nm_mark (by assumption) (by assumption) ?_); intro tmk))
local macro_rules | `(tactic| walk_at "eval Name") => `(tactic| (k_dflt (refine' ld ?k1 ?k2 ?_; (case k1 => k_asm); (case k2 => first | exact rfl | assumption); k_whole)))
local macro_rules | `(tactic| walk_at "loadName") => `(tactic| (k_dflt (refine' ldn ?k1 ?k2 ?_; (case k1 => k_asm); (case k2 => first | exact rfl | assumption); k_whole)))

abbrev paEnv (L f : Addr) (cd : Value) : Env := envOf (Str.ofString "parse_http_list") (scopeAt 4) L f cd
structure PSt where
  res : List Str
  part : Str
  esc : Bool
  quo : Bool
def pstep (st : PSt) (c : Nat) : PSt :=
  if st.esc = true then { st with part := st.part ++ ⟨#[c]⟩, esc := false }
  else if st.quo = true then
    if ((⟨#[c]⟩ : Str) == Str.ofString "\\") = true then { st with esc := true }
    else if ((⟨#[c]⟩ : Str) == Str.ofString "\"") = true then { st with part := st.part ++ ⟨#[c]⟩, quo := false }
    else { st with part := st.part ++ ⟨#[c]⟩ }
  else if ((⟨#[c]⟩ : Str) == Str.ofString ",") = true then { st with res := st.res ++ [st.part], part := Str.ofString "" }
  else if ((⟨#[c]⟩ : Str) == Str.ofString "\"") = true then { st with part := st.part ++ ⟨#[c]⟩, quo := true }
  else { st with part := st.part ++ ⟨#[c]⟩ }
def pinit : PSt := ⟨[], Str.ofString "", false, false⟩
theorem nm_comp {MM : Model} {A : Around} {E : Value → Shared → Prop} {s : Shared} {scope : Scope} {C : Addr} {env : Env} {m : Str → Option Value} {x : Str} {v : Value} {pos : Pos} {Q : Value → Shared → Prop}
    (hn : s.heap.Ns C m) (hv : m x = some v) (h : Q v s) (hk : scope.kind = .function := by rfl) (hl : scope.names.lookup x = some .local := by rfl) (hd : (x == ("__debug__" : Str)) = false := by decide) :
    wpAny MM A (eval (.Name x pos) (compEnv scope C env)) Q E s := wpAny_Name (wpAny_loadName_local hk hl hn hv h) hd
/-- a text of a value -/
def strOf : Value → Str
  | .str x _ => x
  | _ => Str.ofString ""
theorem paired_strs {f : Str → Str} : ∀ {l : List (Str × Tok)} {ys : List Value}, Paired (fun v y => ∃ t, y = .str (f (strOf v)) t) (strValues l) ys → ∃ l', ys = strValues l' ∧ l'.map (·.1) = (l.map (·.1)).map f
  | [], _, .nil => ⟨[], rfl, rfl⟩
  | (x, t) :: l, _, .cons ⟨t', e⟩ r => by
    obtain ⟨l', e1, e2⟩ := paired_strs r
    subst e e1
    exact ⟨(f x, t') :: l', rfl, by rw [List.map_cons, e2]; rfl⟩
theorem vs_eq {vs xs : List Value} (hlen : vs.length = xs.toArray.size) (hP : ∀ (j : Nat) (v : Value), vs[j]? = some v → xs.toArray[j]? = some v) : vs = xs := by
  refine List.ext_getElem? fun j => ?_
  cases hj : vs[j]? with
  | some v => have := hP j v hj; simpa using this.symm
  | none =>
    have h1 : vs.length ≤ j := List.getElem?_eq_none_iff.mp hj
    rw [List.size_toArray] at hlen
    exact (List.getElem?_eq_none_iff.mpr (by omega)).symm
set_option maxHeartbeats 4000000 in
theorem pa_ret {prog : Program} {w : World} {dp un : Nat} {fr : Option (List Env)} {gd : Option (List Code)} {s : Shared} {mg mb m : Str → Option Value} {f L a : Addr} {cd : Value}
    {h₀ : Heap} {l : List (Str × Tok)} {n : Nat} {Q : Flow → Shared → Prop}
    (M : Md mg mb h₀) (F : Fr h₀ L s.heap m) (N : News h₀ L s.heap [(a, listOf (strValues l).toArray n)])
    (hres : m (Str.ofString "res") = some (.ref a)) (hl : ∀ p ∈ l, p.1.length ≤ 1048576) (hll : l.length ≤ 1048576)
    (h : ∀ D l' h' tk, h₀.StaysIn h' → h'.IsList D (strValues l').toArray → h₀.get? D = none → l'.map (·.1) = (l.map (·.1)).map Txt.strip → Q (.ret (.ref D)) { s with heap := h', toks := tk }) :
    wpAny (model prog w) (Ar dp un fr gd) (execs ((bodyAt 4).drop 5) (paEnv L f cd)) Q (fun _ _ => False) s := by
  have KX : Frag.In [] h₀ := fun _ _ e => nomatch e
  show wpAny _ _ (execs (_ :: _) (envOf _ ⟨_, _, _, _, _⟩ _ _ _)) _ _ _
  have hL : a ≠ L := (N _ (.head _)).2.1
  have hal : s.heap.IsList a (strValues l).toArray := ⟨_, (N _ (.head _)).1, rfl, _, rfl⟩
  have hvl : (strValues l).length = l.length := by simp [strValues]
  w_on
  iterate 2 walk1
  refine wpAny_ListComp_walk (fun _ => true) (fun v y => ∃ t, y = .str (Txt.strip (strOf v)) t) (by decide) (by decide) rfl (by decide) rfl ?_
  walk1
  obtain ⟨ol, hol, _⟩ := id hal
  have hne : a ≠ s.heap.objs.size := Nat.ne_of_lt (Heap.lt_size hol)
  refine wpAny_pyIter_list hal ?_
  have W := Walks.list (prog := prog) (w := w) (A := Ar dp un fr gd) rfl s.heap.objs.size a hne (strValues l).toArray
  refine ⟨_, _, _, _, _, _, rfl, W, by simp [sizeLine, hvl]; omega, ⟨⟨_, Heap.get?_push_size _ rfl, rfl, rfl⟩, hal.at fun o e => Heap.get?_push_of_some _ e⟩, ?_, ⟨?_, ?_⟩, ?_⟩
  · intro b hb
    show b < (s.heap.push _).objs.size
    rw [Heap.size_push]
    rcases List.mem_cons.mp hb with rfl | hb
    · exact Nat.lt_succ_self _
    · rw [List.mem_singleton.mp hb]; exact Nat.lt_succ_of_lt (Heap.lt_size hol)
  · intro C i v s₃ m₃ E' hv hn hm hk htk
    exact wpAny_pure ⟨rfl, s₃.heap, s₃.toks, rfl, fun _ _ e => e⟩
  · intro C i v s₃ m₃ E' hv _ hn hm hk htk
    obtain ⟨q, hq, rfl⟩ : ∃ q, l[i]? = some q ∧ v = .str q.1 q.2 := by
      have hv' : (strValues l)[i]? = some v := by simpa using hv
      unfold strValues at hv'
      rw [List.getElem?_map] at hv'
      cases hq : l[i]? with
      | none => rw [hq] at hv'; cases hv'
      | some q => rw [hq] at hv'; exact ⟨q, rfl, (Option.some.inj hv').symm⟩
    have hql := hl q (List.mem_of_getElem? hq)
    walk1
    refine nm_comp hn hm ?_
    iterate 5 walk1
    exact ⟨_, _, rfl, fun _ _ e => e⟩
  · intro D h' tk ys vs hD hlD hpD hlen hP hF hk
    have hvs : vs = strValues l := vs_eq hlen hP
    subst hvs
    rw [List.filter_eq_self.mpr (fun _ _ => rfl)] at hF
    obtain ⟨l', e1, e2⟩ := paired_strs hF
    have e3 : ys = (strValues l').toArray := by rw [← e1]
    have hold : ∀ b o, s.heap.get? b = some o → h'.get? b = some o := fun b o e => hk b o (by intro hb; rw [List.mem_singleton.mp hb] at e; exact absurd (Heap.lt_size e) (Nat.lt_irrefl _)) (Heap.get?_push_of_some _ e)
    refine h D l' h' tk (fun b o e => hold b o (F.keep b o e)) (e3 ▸ hlD) ?_ e2
    cases hq : h₀.get? D with
    | none => rfl
    | some o => rw [Heap.get?_push_of_some _ (F.keep D o hq)] at hD; cases hD
theorem app_head {prog : Program} {w : World} {A : Around} {E : Value → Shared → Prop} {s : Shared} {h₀ : Heap} {L a : Addr} {m : Str → Option Value} {vs : List Value} {n : Nat} {x : Value} {rest : List (Addr × Obj)} {Q : Value → Shared → Prop}
    (F : Fr h₀ L s.heap m) (N : News h₀ L s.heap ((a, listOf vs.toArray n) :: rest)) (hr : ∀ p ∈ rest, p.1 ≠ a) (hsz : vs.length ≤ sizeLine)
    (h : ∀ h', Fr h₀ L h' m → News h₀ L h' ((a, listOf (vs ++ [x]).toArray (n + 1)) :: rest) → Q .none { s with heap := h' }) : wpAny (model prog w) A (call (.builtin "list.append") [.ref a, x]) Q E s :=
  append_K F N (Upd.head hr) (fun h' F' N' => h h' F' (by rw [List.push_toArray] at N'; exact N')) (by rw [List.size_toArray]; exact hsz)
theorem strValues_snoc (l : List (Str × Tok)) (x : Str) (t : Tok) : strValues l ++ [.str x t] = strValues (l ++ [(x, t)]) := by simp [strValues]
def pend (st : PSt) : List Str := if st.part.length = 0 then st.res else st.res ++ [st.part]
set_option maxHeartbeats 4000000 in
theorem pa_end {prog : Program} {w : World} {dp un : Nat} {fr : Option (List Env)} {gd : Option (List Code)} {s : Shared} {mg mb m : Str → Option Value} {f L a : Addr} {cd : Value} {part : Str} {tp : Tok}
    {h₀ : Heap} {l : List (Str × Tok)} {n : Nat} {Q : Flow → Shared → Prop}
    (M : Md mg mb h₀) (F : Fr h₀ L s.heap m) (N : News h₀ L s.heap [(a, listOf (strValues l).toArray n)])
    (hres : m (Str.ofString "res") = some (.ref a)) (hpart : m (Str.ofString "part") = some (.str part tp)) 
    (hp : part.length ≤ 1048576) (hl : ∀ p ∈ l, p.1.length ≤ 1048576) (hll : l.length ≤ 1048575)
    (h : ∀ D l' h' tk, h₀.StaysIn h' → h'.IsList D (strValues l').toArray → h₀.get? D = none → l'.map (·.1) = (if part.length = 0 then l.map (·.1) else l.map (·.1) ++ [part]).map Txt.strip → Q (.ret (.ref D)) { s with heap := h', toks := tk }) :
    wpAny (model prog w) (Ar dp un fr gd) (execs ((bodyAt 4).drop 4) (paEnv L f cd)) Q (fun _ _ => False) s := by
  have KX : Frag.In [] h₀ := fun _ _ e => nomatch e
  show wpAny _ _ (execs (_ :: _) (envOf _ ⟨_, _, _, _, _⟩ _ _ _)) _ _ _
  have hvl : (strValues l).length = l.length := by simp [strValues]
  w_on
  iterate 6 walk1
  · rename (_ : Int) ≠ 0 => hne
    iterate 10 walk1
    refine' app_head F N (fun _ hp => nomatch hp) (by simp [sizeLine, hvl]; omega) ?_
    intro h' F' N'
    rw [strValues_snoc] at N'
    iterate 2 walk1
    refine' pa_ret (l := l ++ [(part, tp)]) M ?F9 ?N9 ?a9 ?b9 ?c9 ?d9
    case F9 => exact F'
    case N9 => exact N'
    case a9 => exact hres
    case b9 =>
      intro p hp'
      rcases List.mem_append.mp hp' with h1 | h1
      · exact hl p h1
      · rw [List.mem_singleton.mp h1]; exact hp
    case c9 => simp; omega
    case d9 =>
      intro D l' h' tk hk h1 h2 h3
      refine h D l' h' tk hk h1 h2 ?_
      rw [h3, if_neg (by omega)]
      simp
  · rename (_ : Int) = 0 => hne
    iterate 2 walk1
    refine' pa_ret (l := l) M F N hres hl (by omega) ?_
    intro D l' h' tk hk h1 h2 h3
    refine h D l' h' tk hk h1 h2 ?_
    rw [h3, if_pos (by omega)]
def PInv (a : Addr) (cs : List Nat) (i : Nat) (m : Str → Option Value) (news : List (Addr × Obj)) : Prop :=
  ∃ (st : PSt) (l : List (Str × Tok)) (n : Nat) (tp : Tok), (cs.take i).foldl pstep pinit = st ∧ news = [(a, listOf (strValues l).toArray n)] ∧ l.map (·.1) = st.res ∧ m (Str.ofString "res") = some (.ref a) ∧ m (Str.ofString "part") = some (.str st.part tp) ∧
    m (Str.ofString "escape") = some (.bool st.esc) ∧ m (Str.ofString "quote") = some (.bool st.quo) ∧ st.part.length ≤ i ∧ l.length ≤ i ∧ ∀ p ∈ l, p.1.length ≤ i
theorem pinv_mk {a : Addr} {cs : List Nat} {i c n : Nat} {st st' : PSt} {m' : Str → Option Value} {l : List (Str × Tok)} (hnext : (cs.take (i + 1)).foldl pstep pinit = pstep st c) (e : pstep st c = st') (hlr : l.map (·.1) = st'.res)
    (h1 : m' (Str.ofString "res") = some (.ref a)) (h2 : ∃ tp, m' (Str.ofString "part") = some (.str st'.part tp)) (h3 : m' (Str.ofString "escape") = some (.bool st'.esc)) (h4 : m' (Str.ofString "quote") = some (.bool st'.quo))
    (hb : st'.part.length ≤ i + 1) (hl : l.length ≤ i + 1) (hp : ∀ p ∈ l, p.1.length ≤ i + 1) : PInv a cs (i + 1) m' [(a, listOf (strValues l).toArray n)] :=
  let ⟨tp, h2⟩ := h2
  ⟨st', l, n, tp, hnext.trans e, rfl, hlr, h1, h2, h3, h4, hb, hl, hp⟩
set_option maxHeartbeats 4000000 in
theorem pa_loop {prog : Program} {w : World} {dp un : Nat} {fr : Option (List Env)} {gd : Option (List Code)} {s : Shared} {mg mb m : Str → Option Value} {f L a : Addr} {cd : Value} {x : Str} {tx : Tok}
    {h₀ : Heap} {Q : Flow → Shared → Prop}
    (M : Md mg mb h₀) (F : Fr h₀ L s.heap m) (N : News h₀ L s.heap [(a, listOf (strValues []).toArray 0)])
    (hs : m (Str.ofString "s") = some (.str x tx)) (hJ : PInv a x.cps.toList 0 m [(a, listOf (strValues []).toArray 0)]) (hx : x.length ≤ 1000000)
    (h : ∀ D l' h' tk, h₀.StaysIn h' → h'.IsList D (strValues l').toArray → h₀.get? D = none → l'.map (·.1) = (pend (x.cps.toList.foldl pstep pinit)).map Txt.strip → Q (.ret (.ref D)) { s with heap := h', toks := tk }) :
    wpAny (model prog w) (Ar dp un fr gd) (execs ((bodyAt 4).drop 3) (paEnv L f cd)) Q (fun _ _ => False) s := by
  have KX : Frag.In [] h₀ := fun _ _ e => nomatch e
  show wpAny _ _ (execs (_ :: _) (envOf _ ⟨_, _, _, _, _⟩ _ _ _)) _ _ _
  w_on
  walk1
  refine For_invV h₀ (by rfl) (by rfl) ?_
  walk1
  refine iter_str (PInv a x.cps.toList) rfl F N hJ ?_ ?_
  · rintro i c u m₁ news₁ h' tk own I hc hown hI hnI ⟨⟨res, part, esc, quo⟩, l, n, tp, hst, rfl, hlr, hm1, hm2, hm3, hm4, hp1, hp2, hp3⟩ F1 N1
    have hil : i < x.length := by
      have := (Array.getElem?_eq_some_iff.mp hc).1
      exact this
    have haI : ∀ p ∈ own, p.1 ≠ a := fun p hp e => hnI _ (.head _) (by rw [← e]; exact hown p hp)
    have hnext : (x.cps.toList.take (i + 1)).foldl pstep pinit = pstep ⟨res, part, esc, quo⟩ c := by
      rw [List.take_add_one, List.foldl_append, hst, Array.getElem?_toList, hc]
      rfl
    dsimp only at hlr hm2 hm3 hm4 hp1
    have hone : (⟨#[c]⟩ : Str).length = 1 := rfl
    have hpl : (part ++ ⟨#[c]⟩ : Str).length = part.length + 1 := by rw [Str.length_append, hone]
    have hl1 : l.length ≤ i + 1 := by omega
    have hl2 : ∀ p ∈ l, p.1.length ≤ i + 1 := fun p hp => Nat.le_succ_of_le (hp3 p hp)
    cases esc with
    | true =>
      iterate 18 walk1
      show LpEnd _ _ _ _ _ _ _
      refine' LpEnd.intro ?F9 ?N9 hnI ?J9
      case F9 => assumption
      case N9 => assumption
      case J9 => exact pinv_mk (l := l) (st' := ⟨res, part ++ ⟨#[c]⟩, false, quo⟩) hnext rfl hlr hm1 ⟨_, rfl⟩ rfl hm4 (by dsimp only; omega) hl1 hl2
    | false =>
      cases quo with
      | true =>
        iterate 21 walk1
        · rename (_ == Str.ofString "\\") = true => hc1
          iterate 7 walk1
          show LpEnd _ _ _ _ _ _ _
          refine' LpEnd.intro ?F9 ?N9 hnI ?J9
          case F9 => assumption
          case N9 => assumption
          case J9 => exact pinv_mk (l := l) (st' := ⟨res, part, true, true⟩) hnext (by simp only [pstep, hc1, if_true, Bool.false_eq_true, if_false]) hlr hm1 ⟨_, hm2⟩ rfl hm4 (by dsimp only; omega) hl1 hl2
        · rename (_ == Str.ofString "\\") = false => hc1
          iterate 9 walk1
          · rename (_ == Str.ofString "\"") = true => hc2
            iterate 15 walk1
            show LpEnd _ _ _ _ _ _ _
            refine' LpEnd.intro ?F9 ?N9 hnI ?J9
            case F9 => assumption
            case N9 => assumption
            case J9 => exact pinv_mk (l := l) (st' := ⟨res, part ++ ⟨#[c]⟩, false, false⟩) hnext (by simp only [pstep, hc1, hc2, if_true, Bool.false_eq_true, if_false]) hlr hm1 ⟨_, rfl⟩ hm3 rfl (by dsimp only; omega) hl1 hl2
          · rename (_ == Str.ofString "\"") = false => hc2
            iterate 11 walk1
            show LpEnd _ _ _ _ _ _ _
            refine' LpEnd.intro ?F9 ?N9 hnI ?J9
            case F9 => assumption
            case N9 => assumption
            case J9 => exact pinv_mk (l := l) (st' := ⟨res, part ++ ⟨#[c]⟩, false, true⟩) hnext (by simp only [pstep, hc1, hc2, if_true, Bool.false_eq_true, if_false]) hlr hm1 ⟨_, rfl⟩ hm3 hm4 (by dsimp only; omega) hl1 hl2
      | false =>
        iterate 22 walk1
        · rename (_ == Str.ofString ",") = true => hc1
          iterate 10 walk1
          refine' app_head F1 N1 haI (by simp [sizeLine, strValues]; omega) ?_
          intro h' F' N'
          rw [strValues_snoc] at N'
          iterate 7 walk1
          show LpEnd _ _ _ _ _ _ _
          refine' LpEnd.intro (news' := [(a, listOf (strValues (l ++ [(part, tp)])).toArray (n + 1))]) ?F9 ?N9 ?n9 ?J9
          case F9 => assumption
          case N9 => assumption
          case n9 =>
            intro p hp
            rw [List.mem_singleton.mp hp]
            exact hnI (a, listOf (strValues l).toArray n) (.head _)
          case J9 =>
            refine pinv_mk (l := l ++ [(part, tp)]) (st' := ⟨res ++ [part], Str.ofString "", false, false⟩) hnext (by simp only [pstep, hc1, if_true, Bool.false_eq_true, if_false]) (by rw [List.map_append, hlr]; rfl) hm1 ⟨_, rfl⟩ hm3 hm4 (Nat.zero_le _) (by simp; omega) ?_
            intro p hp
            rcases List.mem_append.mp hp with h1 | h1
            · exact hl2 p h1
            · rw [List.mem_singleton.mp h1]; dsimp only; omega
        · rename (_ == Str.ofString ",") = false => hc1
          iterate 10 walk1
          · rename (_ == Str.ofString "\"") = true => hc2
            iterate 13 walk1
            show LpEnd _ _ _ _ _ _ _
            refine' LpEnd.intro ?F9 ?N9 hnI ?J9
            case F9 => assumption
            case N9 => assumption
            case J9 => exact pinv_mk (l := l) (st' := ⟨res, part ++ ⟨#[c]⟩, false, true⟩) hnext (by simp only [pstep, hc1, hc2, if_true, Bool.false_eq_true, if_false]) hlr hm1 ⟨_, rfl⟩ hm3 rfl (by dsimp only; omega) hl1 hl2
          · rename (_ == Str.ofString "\"") = false => hc2
            iterate 9 walk1
            show LpEnd _ _ _ _ _ _ _
            refine' LpEnd.intro ?F9 ?N9 hnI ?J9
            case F9 => assumption
            case N9 => assumption
            case J9 => exact pinv_mk (l := l) (st' := ⟨res, part ++ ⟨#[c]⟩, false, false⟩) hnext (by simp only [pstep, hc1, hc2, Bool.false_eq_true, if_false]) hlr hm1 ⟨_, rfl⟩ hm3 hm4 (by dsimp only; omega) hl1 hl2
  · rintro m₁ news₁ h' tk ⟨⟨res, part, esc, quo⟩, l, n, tp, hst, rfl, hlr, hm1, hm2, hm3, hm4, hp1, hp2, hp3⟩ F1 N1
    have hsz : x.cps.size = x.length := rfl
    dsimp only at hlr hm2 hm3 hm4 hp1
    rw [hsz] at hp1 hp2 hp3
    refine pa_end (l := l) M F1 N1 hm1 hm2 (by omega) (fun p hp => Nat.le_trans (hp3 p hp) (by omega)) (by omega) ?_
    intro D l' h' tk hk h1 h2 h3
    refine h D l' h' tk hk h1 h2 ?_
    rw [h3, hlr]
    rw [List.take_of_length_le (by simp)] at hst
    rw [hst]
    rfl
set_option maxHeartbeats 4000000 in
theorem pa_call {prog : Program} {w : World} {dp un : Nat} {fr : Option (List Env)} {gd : Option (List Code)} {s : Shared} {mg mb : Str → Option Value} {f : Addr} {x : Str} {tx : Tok} {Q E : Value → Shared → Prop}
   (M : Md mg mb s.heap) (hf : FnIn mg s.heap 4 f) (hroom : dp < recursionLimit) (hx : x.length ≤ 1000000)
   (h : ∀ D l' h' tk, s.heap.StaysIn h' → h'.IsList D (strValues l').toArray → s.heap.get? D = none → l'.map (·.1) = (pend (x.cps.toList.foldl pstep pinit)).map Txt.strip → Q (.ref D) { s with heap := h', toks := tk }) :
   wpAny (model prog w) (Ar dp un fr gd) (call (.ref f) [.str x tx]) Q E s := by
  refine enter (i := 4) (binds := [(Str.ofString "s", .str x tx)]) rfl M hf hroom (fun _ _ _ => rfl) (locs rfl) (fun L h₁ cd F => ?_)
  have N : News s.heap L h₁ [] := News.nil
  have KX : Frag.In [] s.heap := fun _ _ e => nomatch e
  have hFk := F.keep
  w_on
  iterate 18 walk1
  refine' pa_loop (x := x) (tx := tx) M ?F9 ?N9 ?a9 ?b9 hx ?d9
  case F9 => assumption
  case N9 => assumption
  case a9 => exact rfl
  case b9 => exact ⟨pinit, [], 0, _, rfl, rfl, rfl, rfl, rfl, rfl, rfl, Nat.zero_le _, Nat.zero_le _, fun _ hp => nomatch hp⟩
  case d9 =>
    intro D l' h' tk hk h1 h2 h3
    exact h D l' h' tk hk h1 h2 h3
end Mine
end
section
open PySem PySem.W PyProof.Rows PySem.Calls PySem.Spec
set_option Elab.async false
set_option maxRecDepth 100000
namespace Mine
theorem lay_strs : ∀ ns : List Str, (∀ x ∈ ns, PyData.strOk x = true) → PyData.canLayAll0 (ns.map PyData.str) = true
  | [], _ => rfl
  | x :: r, h => by simp [PyData.canLayAll0, PyData.canLay0, h x (.head _), lay_strs r fun y hy => h y (.tail _ hy)]
theorem depth_strs : ∀ ns : List Str, PyData.depthAll (ns.map PyData.str) = 0
  | [] => rfl
  | _ :: r => by simp [PyData.depthAll, PyData.depth, depth_strs r]
theorem shaped_strs (ns : List Str) (h : ∀ x ∈ ns, PyData.strOk x = true) : SeqAt.shaped (.list (ns.map PyData.str)) = true := by
  simp [SeqAt.shaped, PyData.canLay0, PyData.depth, lay_strs ns h, depth_strs]
theorem sameAll_strs : ∀ ns ms : List Str, PySem.Spec.sameAll (ns.map PyData.str) (ms.map PyData.str) = decide (ns = ms)
  | [], [] => by simp [PySem.Spec.sameAll]
  | [], _ :: _ => by simp [PySem.Spec.sameAll]
  | _ :: _, [] => by simp [PySem.Spec.sameAll]
  | a :: r, b :: t => by
    simp only [List.map_cons, PySem.Spec.sameAll, PySem.Spec.same, sameAll_strs r t]
    by_cases h : a = b <;> by_cases h' : r = t <;> simp [h, h']
theorem same_strs (ns ms : List Str) : PySem.Spec.same (.list (ns.map PyData.str)) (.list (ms.map PyData.str)) = decide (ns = ms) := by
  simp only [PySem.Spec.same]; exact sameAll_strs ns ms
theorem carried_strs : ∀ l : List (Str × Tok), CarriedAll (strValues l) ((l.map (·.1)).map PyData.str)
  | [] => .nil
  | (x, t) :: r => .cons (.str x t) (carried_strs r)
section
variable {prog : Program} {w : World} {A : Around} {E : Value → Shared → Prop} {s : Shared} {a b : Addr} {xs ys : List (Str × Tok)} {Q : Value → Shared → Prop}
theorem eq_strs (ha : s.heap.IsList a (strValues xs).toArray) (hb : s.heap.IsList b (strValues ys).toArray) (hx : ∀ x ∈ xs.map (·.1), PyData.strOk x = true) (hy : ∀ x ∈ ys.map (·.1), PyData.strOk x = true)
    (hu : A.units + 64 < cLine) (h : Q (.bool (decide (xs.map (·.1) = ys.map (·.1)))) s) :
    wpAny (model prog w) A (compareOp .Eq (.ref a) (.ref b)) Q E s :=
  eq_dataH_same (reads_newData ha (carried_strs xs)) (reads_newData hb (carried_strs ys)) (shaped_strs _ hx) (shaped_strs _ hy) hu (SeqAt.noMix_of_shape (.list .str) rfl _ _ (list_map_has fun _ => rfl) (list_map_has fun _ => rfl)) (by rw [same_strs]; exact h)
theorem join_strs {D : Addr} {x : Str} {t : Tok} (hl : s.heap.IsList D (strValues xs).toArray) (hb : ∀ p ∈ xs, p.1.length ≤ 100) (hn : xs.length ≤ 1000) (hx : x.length ≤ 1)
    (h : ∀ t' k, (Txt.join x (xs.map (·.1))).length ≤ 101000 → Q (.str (Txt.join x (xs.map (·.1))) t') { s with toks := k }) : wpAny (model prog w) A (call (.builtin "str.join") [.str x t, .ref D]) Q E s := by
  have h1 : ((xs.map (·.1)).map (·.length)).sum ≤ (xs.map (·.1)).length * 100 := StrLaws.sumLen_le _ (fun y hy => by obtain ⟨p, hp, rfl⟩ := List.mem_map.mp hy; exact hb p hp)
  have h2 : (xs.map (·.1)).length = xs.length := List.length_map ..
  have h3 : (xs.map (·.1)).length * x.length ≤ (xs.map (·.1)).length * 1 := Nat.mul_le_mul_left _ hx
  refine SC.join hl rfl (joinOk_of (by omega)) fun t' k => h t' k ?_
  have h4 : Txt.join x (xs.map (·.1)) = Str.join x (xs.map (·.1)) := StrLaws.glued_eq_join _ _
  rw [h4]
  have := StrLaws.join_length_le x (xs.map (·.1))
  omega
end
end Mine
end
section
open PySem PySem.W PyProof.Rows PySem.Calls
set_option Elab.async false
set_option maxRecDepth 100000
namespace Mine
local macro_rules | `(tactic| walk_at "eval Name") => `(tactic| ((with_reducible show wpAny _ _ (eval (Expr.Name (Str.ofString "len") _) _) _ _ _); k_dflt (refine nm_len (by assumption) (by assumption) ?_)))
local macro_rules | `(tactic| walk_at "eval Name") => `(tactic| ((with_reducible show wpAny _ _ (eval (Expr.Name (Str.ofString "ELLIPSIS_MARKER") _) _) _ _ _); k_dflt (refine nm_mark (by assumption) (by assumption) ?_); intro tmk))
local macro_rules | `(tactic| walk_at "eval Name") => `(tactic| (k_dflt (refine' ld ?k1 ?k2 ?_; (case k1 => k_asm); (case k2 => first | exact rfl | assumption); k_whole)))
local macro_rules | `(tactic| walk_at "loadName") => `(tactic| (k_dflt (refine' ldn ?k1 ?k2 ?_; (case k1 => k_asm); (case k2 => first | exact rfl | assumption); k_whole)))

abbrev fiEnv (L f : Addr) (cd : Value) : Env := envOf (Str.ofString "_law_fits") (scopeAt 7) L f cd
theorem split_ne (x y : Str) : 1 ≤ (Txt.split x y).length := by
  unfold Txt.split
  split
  · simp
  · split
    · simp
    · simp [Builtin.Str.partsBetween]
theorem split_one {x y p : Str} (h : Txt.split x y = [p]) : p = x := by
  have := StrLaws.join_split x y
  rw [h] at this
  exact this
/-- what _law_fits gives -/
def FitSays (one : Str) (run : List Str) (b : Bool) : Prop :=
  (Txt.split one (Str.ofString "...") = [one] ∧ b = decide (run = [one])) ∨
  ∃ e0 e1 rl, Txt.split one (Str.ofString "...") = e0 :: e1 :: rl ∧
    b = (Txt.join (Str.ofString ",") run == e0 ++ Txt.slice (Txt.join (Str.ofString ",") run) (some (e0.length : Int)) (some (((Txt.join (Str.ofString ",") run).length : Int) - e1.length)) ++ e1)
set_option maxHeartbeats 4000000 in
theorem fi_call {prog : Program} {w : World} {dp un : Nat} {fr : Option (List Env)} {gd : Option (List Code)} {s : Shared} {mg mb : Str → Option Value} {f r : Addr} {x : Str} {tx : Tok} {lr : List (Str × Tok)} {Q E : Value → Shared → Prop}
   (M : Md mg mb s.heap) (hf : FnIn mg s.heap 7 f) (hroom : dp < recursionLimit) (hun : un + 100 < cLine) (hx : x.length ≤ 1000000)
   (hr : s.heap.IsList r (strValues lr).toArray) (hrl : ∀ p ∈ lr, p.1.length ≤ 100) (hrn : lr.length ≤ 1000)
   (hxo : PyData.strOk x = true) (hro : ∀ y ∈ lr.map (·.1), PyData.strOk y = true)
   (h : ∀ b h' tk, FitSays x (lr.map (·.1)) b → s.heap.StaysIn h' → Q (.bool b) { s with heap := h', toks := tk }) :
   wpAny (model prog w) (Ar dp un fr gd) (call (.ref f) [.str x tx, .ref r]) Q E s := by
  refine enter (i := 7) (binds := [(Str.ofString "one", .str x tx), (Str.ofString "run", .ref r)]) rfl M hf hroom (fun _ _ _ => rfl) (locs rfl) (fun L h₁ cd F => ?_)
  have N : News s.heap L h₁ [] := News.nil
  have KX : Frag.In [] s.heap := fun _ _ e => nomatch e
  have hFk := F.keep
  w_on
  iterate 11 walk1
  rename List (Str × Tok) => l
  rename List.map _ _ = Txt.split _ _ => hl
  rename ∀ a, a ∈ List.map _ _ → _ => hlb
  have hS1 : ∀ p, l = [p] → Txt.split x (Str.ofString "...") = [x] ∧ p.1 = x := by
    intro p e
    rw [e] at hl
    have h2 := split_one hl.symm
    exact ⟨by rw [← hl]; simp [h2], h2⟩
  have hS2 : ∀ e0 t0 e1 t1 rl, l = (e0, t0) :: (e1, t1) :: rl → Txt.split x (Str.ofString "...") = e0 :: e1 :: rl.map (·.1) := by
    intro e0 t0 e1 t1 rl e
    rw [e] at hl
    exact hl.symm
  have hl1 := split_ne x (Str.ofString "...")
  rw [← hl, List.length_map] at hl1
  iterate 9 walk1
  refine join_strs (xs := lr) (hr.at fun o e => Fr.keep (by assumption) r o e) hrl hrn (by decide) ?_
  intro tj kj hj
  generalize hW : Txt.join (Str.ofString ",") (List.map (fun x => x.fst) lr) = W at hj ⊢
  iterate 16 walk1
  · iterate 6 walk1
    refine' eq_strs (xs := lr) (ys := l) ?a9 ?b9 ?c9 ?d9 ?e9 ?f9
    case a9 => exact hr.at fun o e => Fr.keep (by assumption) r o e
    case b9 => exact ⟨_, News.get (by assumption) (.head _), rfl, _, rfl⟩
    case c9 => exact hro
    case d9 =>
      rename (_ : Int) = 1 => hone
      obtain ⟨p, hp⟩ : ∃ p, l = [p] := List.length_eq_one_iff.mp (by omega)
      intro y hy
      rw [hp] at hy
      rw [List.mem_singleton.mp hy]
      show PyData.strOk p.1 = true
      rw [(hS1 p hp).2]
      exact hxo
    case e9 => show un + 3 + 64 < cLine; omega
    case f9 =>
      rename (_ : Int) = 1 => hone
      obtain ⟨p, hp⟩ : ∃ p, l = [p] := List.length_eq_one_iff.mp (by omega)
      obtain ⟨h1, h2⟩ := hS1 p hp
      refine h _ _ _ (.inl ⟨h1, ?_⟩) (Fr.keep (by assumption))
      rw [hp]
      simp [h2]
  · rename (_ : Int) ≠ 1 => hne1
    obtain ⟨e0, t0, e1, t1, rl, rfl⟩ : ∃ e0 t0 e1 t1 rl, l = (e0, t0) :: (e1, t1) :: rl := by
      rcases l with _ | ⟨⟨e0, t0⟩, _ | ⟨⟨e1, t1⟩, rl⟩⟩
      · simp at hl1
      · simp at hne1
      · exact ⟨e0, t0, e1, t1, rl, rfl⟩
    have hb0 := hlb e0 (by simp)
    have hb1 := hlb e1 (by simp)
    iterate 10 walk1
    refine' item_at (v := .str e0 t0) (vs := strValues ((e0, t0) :: (e1, t1) :: rl)) ?l9 ?x9 ?_ ?s9
    case s9 => with_unfolding_all rfl
    case l9 => exact ⟨_, News.get (by assumption) (.head _), rfl, _, rfl⟩
    case x9 => rw [if_pos (by decide)]; exact ⟨by decide, rfl⟩
    iterate 11 walk1
    refine' item_at (v := .str e0 t0) (vs := strValues ((e0, t0) :: (e1, t1) :: rl)) ?l9 ?x9 ?_ ?s9
    case s9 => with_unfolding_all rfl
    case l9 => exact ⟨_, News.get (by assumption) (.head _), rfl, _, rfl⟩
    case x9 => rw [if_pos (by decide)]; exact ⟨by decide, rfl⟩
    iterate 18 walk1
    refine' item_at (v := .str e1 t1) (vs := strValues ((e0, t0) :: (e1, t1) :: rl)) ?l9 ?x9 ?_ ?s9
    case s9 => with_unfolding_all rfl
    case l9 => exact ⟨_, News.get (by assumption) (.head _), rfl, _, rfl⟩
    case x9 => rw [if_pos (by decide)]; exact ⟨by decide, rfl⟩
    iterate 9 walk1
    refine' item_at (v := .str e1 t1) (vs := strValues ((e0, t0) :: (e1, t1) :: rl)) ?l9 ?x9 ?_ ?s9
    case s9 => with_unfolding_all rfl
    case l9 => exact ⟨_, News.get (by assumption) (.head _), rfl, _, rfl⟩
    case x9 => rw [if_pos (by decide)]; exact ⟨by decide, rfl⟩
    iterate 2 walk1
    refine h _ _ _ (.inr ⟨e0, e1, rl.map (·.1), ?_, ?_⟩) (Fr.keep (by assumption))
    · exact hS2 _ _ _ _ _ rfl
    · rw [hW]
end Mine
end
section
open PySem PySem.W PyProof.Rows PySem.Calls PySem.Spec
set_option Elab.async false
set_option maxRecDepth 100000
namespace Mine
section
variable {prog : Program} {w : World} {A : Around} {s : Shared} {mg mb : Str → Option Value}
theorem enterC {i : Nat} {f : Addr} {n : Str} {a : Arguments} {b : List Stmt} {sc : Scope} {args : List Value} {binds : List (Str × Value)} {Q E : Value → Shared → Prop}
    (hd : defAt i = some (n, a, b, sc)) (M : Md mg mb s.heap) (hf : FnIn mg s.heap i f) (hroom : A.depth < recursionLimit)
    (hbind : ∀ pm code doc, bindArgs (docDef n a b sc pm code doc) ⟨args, []⟩ = pure binds)
    (hkind : (binds.all fun y => sc.names.lookup y.1 == some .local || sc.names.lookup y.1 == some .cell) = true) (hnd : ((cellsFrom 0 sc.names []).map (·.1)).Nodup)
    (h : ∀ L h₁ cd tk cells, Fr s.heap L h₁ (bindL (envOfC n sc L f cd).kindOf binds fun _ => none) → News s.heap L h₁ cells → CellsAre (bindC (envOfC n sc L f cd).kindOf binds fun _ => none) (cellsFrom (L + 1) sc.names []) cells →
      wpAny (model prog w) (A.deeper (envOfC n sc L f cd)) (execs b (envOfC n sc L f cd))
        (fun fl s' => Q (match fl with | .ret v => v | _ => .none) s') (fun _ _ => False) { s with heap := h₁, toks := tk })
    (hco : sc.isCoroutine = false := by rfl) (hgen : sc.isGenerator = false := by rfl) (hk : sc.kind = .function := by rfl) :
    wpAny (model prog w) A (call (.ref f) args) Q E s := by
  unfold FnIn at hf
  rw [hd] at hf
  obtain ⟨_, o, pm, code, doc, h2, h3, h4⟩ := hf
  refine wpAny_call (codeAny_call_function hroom h2 h3 hco hgen rfl h4 ?_)
  rw [hbind]
  refine wpAny_pure (wpAny_newFunctionEnv_cells hk (kindsX hkind _) fun env' he s' x => ?_)
  subst he
  refine ⟨M.nolimit.keeps x.toInCall.keep, codeAny_func ?_⟩
  obtain ⟨h₁, tk, rfl, _⟩ := x.done
  obtain ⟨cells, NC, Y⟩ := Cl.news (h₀ := s.heap) (Nat.le_refl _) fun n c hm => ⟨x.cell n c (lookup_of_mem_nodup (cellsFrom_names sc.names 0 (s.heap.objs.size + 1) [] [] rfl ▸ hnd) hm), x.above n c hm⟩
  exact wpAny_mono (h s.heap.objs.size h₁ code tk cells ⟨x.toInCall.ns, x.toInCall.keep, Nat.le_refl _⟩ NC Y) (fun fl s' hl => hl) fun _ _ y => y.elim
end
section
variable {prog : Program} {w : World} {A : Around} {E : Value → Shared → Prop} {s : Shared} {env : Env} {h₀ : Heap} {x : Str} {px : Pos} {body : List Stmt} {Q : Flow → Shared → Prop}
def LpEndC (h₀ : Heap) (L I c : Addr) (J : (Str → Option Value) → List (Addr × Obj) → Prop) (own : List (Addr × Obj)) (s₁ s₂ : Shared) : Prop :=
  ∃ h' tk m' rest' o' v', s₂ = { s₁ with heap := h', toks := tk } ∧ Fr h₀ L h' m' ∧ News h₀ L h' ((c, o') :: (rest' ++ own)) ∧ o'.data = .cell v' ∧ (∀ p ∈ rest', p.1 ≠ I ∧ p.1 ≠ c) ∧ J m' rest'
def LpPostC (h₀ : Heap) (L I c : Addr) (J : (Str → Option Value) → List (Addr × Obj) → Prop) (own : List (Addr × Obj)) (s₁ : Shared) (Q : Flow → Shared → Prop) (f : Flow) (s₂ : Shared) : Prop :=
  match f with
  | .ret v => Q (.ret v) s₂
  | .brk => Q .next s₂
  | _ => LpEndC h₀ L I c J own s₁ s₂
theorem LpEndC.intro {h₀ h' : Heap} {L I c : Addr} {J : (Str → Option Value) → List (Addr × Obj) → Prop} {own rest' : List (Addr × Obj)} {s₁ : Shared} {tk : Nat} {m' : Str → Option Value} {o' : Obj} {v' : Option Value}
    (F : Fr h₀ L h' m') (N : News h₀ L h' ((c, o') :: (rest' ++ own))) (hd : o'.data = .cell v') (hn : ∀ p ∈ rest', p.1 ≠ I ∧ p.1 ≠ c) (hJ : J m' rest') : LpEndC h₀ L I c J own s₁ { s₁ with heap := h', toks := tk } :=
  ⟨h', tk, m', rest', o', v', rfl, F, N, hd, hn, hJ⟩
/-- a for whose own name is a cell -/
theorem forC {I l c : Addr} {fp : List Addr} {n : Nat} {P : Nat → Value → Prop} {St : Nat → Heap → Prop} {m₀ : Str → Option Value} {rest₀ : List (Addr × Obj)} {o₀ : Obj} {v₀ : Option Value} (J : Nat → (Str → Option Value) → List (Addr × Obj) → Prop)
    (W : Walks prog w A I fp [I] n P St) (hfp : ∀ b ∈ fp, b = I ∨ b = l) (hLf : env.locals ∉ fp) (hcf : c ∉ fp) (hI : h₀.get? I = none) (hlive : ∀ i h, St i h → ∃ o, h.get? I = some o)
    (hx : env.kindOf x = some .cell) (hk : env.scope.kind = .function) (hc : env.cells.lookup x = some c) (hr : ∀ p ∈ rest₀, p.1 ≠ I ∧ p.1 ≠ c)
    (hst : St 0 s.heap) (F : Fr h₀ env.locals s.heap m₀) (N : News h₀ env.locals s.heap ((c, o₀) :: rest₀)) (hd : o₀.data = .cell v₀) (hj : J 0 m₀ rest₀)
    (turn : ∀ i v m₁ rest h tk own o, i < n → P i v → (∀ p ∈ own, p.1 = I ∨ p.1 = l) → (∃ o, (I, o) ∈ own) → (∀ p ∈ rest, p.1 ≠ I ∧ p.1 ≠ c) → J i m₁ rest → o.data = .cell (some v) → Fr h₀ env.locals h m₁ → News h₀ env.locals h ((c, o) :: (rest ++ own)) →
      wpAny (model prog w) A (execs body env) (LpPostC h₀ env.locals I c (J (i + 1)) own { s with heap := h, toks := tk } Q) E { s with heap := h, toks := tk })
    (done : ∀ m₁ rest h tk o v, J n m₁ rest → (∀ p ∈ rest, p.1 ≠ I ∧ p.1 ≠ c) → o.data = .cell v → Fr h₀ env.locals h m₁ → News h₀ env.locals h ((c, o) :: rest) → Q .next { s with heap := h, toks := tk })
    (hE : PassesOwn (model prog w) A env E := by passes_own) :
    codeAny (model prog w) A (.forLoop (.Name x px) (.ref I) body [] env) (fun r s' => match r with | .ok f => Q f s' | .error e => cameBackBy (model prog w) A env E e s') s := by
  have hIf : I ∈ fp := W.sub I (List.mem_singleton.mpr rfl)
  have hLI : env.locals ≠ I := fun e => hLf (e ▸ hIf)
  have hcI : c ≠ I := fun e => hcf (e ▸ hIf)
  have old : ∀ b o, h₀.get? b = some o → b ≠ I := fun b o e hb => by rw [hb, hI] at e; cases e
  refine codeAny_forLoop
    (fun k s' => ∃ h' tk m' rest o v i, s' = { s with heap := h', toks := tk } ∧ St i h' ∧ Fr h₀ env.locals h' m' ∧ News h₀ env.locals h' ((c, o) :: rest) ∧ o.data = .cell v ∧ (∀ p ∈ rest, p.1 ≠ I ∧ p.1 ≠ c) ∧ J i m' rest ∧ i ≤ n ∧ k = n + 1 - i) ?_ (n + 1)
    ⟨s.heap, s.toks, m₀, rest₀, o₀, v₀, 0, rfl, hst, F, N, hd, hr, hj, Nat.zero_le _, rfl⟩
  rintro k s' ⟨h', tk, m', rest, o, v₁, i, rfl, hst', F', N', hd', hr', hJ, hi, rfl⟩
  have next : ∀ h₁ : Heap, (∀ b o, b ∉ [I] → h'.get? b = some o → h₁.get? b = some o) → Fr h₀ env.locals h₁ m' ∧ News h₀ env.locals h₁ ((c, o) :: rest) := fun h₁ hk₁ =>
    ⟨⟨F'.ns.at' fun o e => hk₁ _ o (fun q => hLI (List.mem_singleton.mp q)) e, fun b o e => hk₁ b o (fun q => old b o e (List.mem_singleton.mp q)) (F'.keep b o e), F'.above⟩,
      fun p hp => ⟨hk₁ _ _ (fun q => by
        rcases List.mem_cons.mp hp with rfl | hp
        · exact hcI (List.mem_singleton.mp q)
        · exact (hr' p hp).1 (List.mem_singleton.mp q)) (N' p hp).1, (N' p hp).2⟩⟩
  by_cases hlt : i < n
  · refine W.item i _ _ _ hlt hst' fun v h₁ tk₁ hP hst₁ hk₁ => ?_
    obtain ⟨F₁, N₁⟩ := next h₁ hk₁
    have hmem := N₁ (c, o) (.head _)
    refine wpAny_assign_Name (wpAny_storeName_cell hk hx hc ⟨o, hmem.1, hd'⟩ fun h₂ hcell hs₂ => ?_)
    obtain ⟨o₂, ho₂, hd₂⟩ := hcell
    have F₂ : Fr h₀ env.locals h₂ m' := F₁.change hs₂ hmem.2.1 hmem.2.2
    have N₂ : News h₀ env.locals h₂ ((c, o₂) :: rest) := N₁.setHead (fun p hp => (hr' p hp).2) hs₂ ho₂
    have Nown : News h₀ env.locals h₂ (ownOf h₀ fp h₂) := news_ownOf hLf
    have hst₂ : St (i + 1) h₂ := W.frame _ _ _ hst₁ fun b hb o e => (hs₂.2 b fun q => hcf (q ▸ hb)).trans e
    have hIown : ∃ o, (I, o) ∈ ownOf h₀ fp h₂ := by
      obtain ⟨o, ho⟩ := hlive _ _ hst₂
      exact ⟨o, mem_ownOf hIf hI ho⟩
    have N₃ : News h₀ env.locals h₂ ((c, o₂) :: (rest ++ ownOf h₀ fp h₂)) := fun p hp => by
      rcases List.mem_cons.mp hp with rfl | hp
      · exact N₂ _ (.head _)
      · rcases List.mem_append.mp hp with hp | hp
        · exact N₂ p (.tail _ hp)
        · exact Nown p hp
    refine wpAny_mono (wpAny_passesOwn hE (turn i v m' rest h₂ _ (ownOf h₀ fp h₂) o₂ hlt hP (fun p hp => hfp _ (ownOf_sub p hp)) hIown hr' hJ hd₂ F₂ N₃)) (fun f s₃ h₃ => ?_) fun _ _ e => e
    have fin : LpEndC h₀ env.locals I c (J (i + 1)) (ownOf h₀ fp h₂) { s with heap := h₂, toks := tk₁ } s₃ → ∃ m, m < n + 1 - i ∧ ∃ h' tk m' rest o v j, s₃ = { s with heap := h', toks := tk } ∧ St j h' ∧ Fr h₀ env.locals h' m' ∧ News h₀ env.locals h' ((c, o) :: rest) ∧ o.data = .cell v ∧ (∀ p ∈ rest, p.1 ≠ I ∧ p.1 ≠ c) ∧ J j m' rest ∧ j ≤ n ∧ m = n + 1 - j := by
      rintro ⟨h₄, tk₄, m₄, rest₄, o₄, v₄, rfl, F₄, N₄, hd₄, hr₄, hJ₄⟩
      refine ⟨n + 1 - (i + 1), by omega, h₄, tk₄, m₄, rest₄, o₄, v₄, i + 1, rfl, ?_, F₄, ?_, hd₄, hr₄, hJ₄, hlt, rfl⟩
      · refine W.frame _ _ _ hst₁ fun b hb o e => ?_
        have e₂ : h₂.get? b = some o := (hs₂.2 b fun q => hcf (q ▸ hb)).trans e
        cases hn : h₀.get? b with
        | some o₅ =>
          have : o₅ = o := by have := F₂.keep b o₅ hn; rw [e₂] at this; exact (Option.some.inj this).symm
          exact this ▸ F₄.keep b o₅ hn
        | none => exact (N₄ _ (.tail _ (List.mem_append_right _ (mem_ownOf hb hn e₂)))).1
      · intro p hp
        rcases List.mem_cons.mp hp with rfl | hp
        · exact N₄ _ (.head _)
        · exact N₄ p (.tail _ (List.mem_append_left _ hp))
    cases f with
    | ret v => exact h₃
    | brk => exact h₃
    | cont => exact fin h₃
    | next => exact fin h₃
  · have hin : i = n := by omega
    subst hin
    refine W.done _ _ _ hst' fun h₁ tk₁ hk₁ => wpAny_execs_nil ?_
    obtain ⟨F₁, N₁⟩ := next h₁ hk₁
    exact done m' rest h₁ tk₁ o v₁ hJ hr' hd' F₁ N₁
end
end Mine
end
section
open PySem PySem.W PyProof.Rows PySem.Calls PySem.Spec
set_option Elab.async false
set_option maxRecDepth 100000
namespace Mine
section
variable {MM : Model} {A : Around} {E : Value → Shared → Prop} {s : Shared} {env : Env} {m mg mb : Str → Option Value} {x : Str} {v : Value} {c : Addr} {pos : Pos} {Q : Value → Shared → Prop}
theorem nmE_local (hn : s.heap.Ns env.locals m) (hv : m x = some v) (h : Q v s) (hk : env.scope.kind = .function := by rfl) (hl : env.kindOf x = some .local := by rfl) (hd : (x == ("__debug__" : Str)) = false := by decide) :
    wpAny MM A (eval (.Name x pos) env) Q E s := wpAny_Name (wpAny_loadName_local hk hl hn hv h) hd
theorem nmE_cell (hc : s.heap.IsCell c (some v)) (h : Q v s) (hk : env.scope.kind = .function := by rfl) (hl : env.kindOf x = some .cell := by rfl) (hlk : env.cells.lookup x = some c := by rfl) (hd : (x == ("__debug__" : Str)) = false := by decide) :
    wpAny MM A (eval (.Name x pos) env) Q E s := wpAny_Name (wpAny_loadName_cell hk hl hlk hc h) hd
theorem nmE_fn {i : Nat} {n : Str} {a : Arguments} {b : List Stmt} {sc : Scope} (M : Md mg mb s.heap) (hf : ∃ f, FnIn mg s.heap i f) (hd : defAt i = some (n, a, b, sc)) (h : ∀ f, FnIn mg s.heap i f → Q (.ref f) s)
    (hg : env.globals = mainGlobals := by rfl) (hk : env.scope.kind = .function := by rfl) (hx : env.kindOf n = some .globalImplicit := by rfl) (hb : (n == ("__debug__" : Str)) = false := by decide) :
    wpAny MM A (eval (.Name n pos) env) Q E s := by
  obtain ⟨f, hf⟩ := hf
  have hf' := hf
  unfold FnIn at hf'
  rw [hd] at hf'
  exact Name_function_global hk hx (loadGlobal_global (hg ▸ M.g) hf'.1 (h f hf)) hb
theorem nmE_len (M : Md mg mb s.heap) (h : Q (.builtin "len") s) (hg : env.globals = mainGlobals := by rfl) (hbn : env.builtins = builtinsNs := by rfl) (hk : env.scope.kind = .function := by rfl) (hx : env.kindOf (Str.ofString "len") = some .globalImplicit := by rfl) :
    wpAny MM A (eval (.Name (Str.ofString "len") pos) env) Q E s :=
  Name_function_global hk hx (loadGlobal_builtin (hg ▸ M.g) (M.gl _ (by simp)) (hbn ▸ M.b) ((M.bl _ (by decide)).trans (by decide +kernel)) h)
theorem nmE_range (M : Md mg mb s.heap) (h : Q (.type "range") s) (hg : env.globals = mainGlobals := by rfl) (hbn : env.builtins = builtinsNs := by rfl) (hk : env.scope.kind = .function := by rfl) (hx : env.kindOf (Str.ofString "range") = some .globalImplicit := by rfl) :
    wpAny MM A (eval (.Name (Str.ofString "range") pos) env) Q E s :=
  Name_function_global hk hx (loadGlobal_builtin (hg ▸ M.g) (M.gl _ (by simp)) (hbn ▸ M.b) ((M.bl _ (by decide)).trans (by decide +kernel)) h)
theorem callWith_fn {i : Nat} {f : Addr} {n : Str} {a : Arguments} {b : List Stmt} {sc : Scope} {e : Expr} {rest : List Expr} (hd : defAt i = some (n, a, b, sc))
    (h : wpAny MM A (spliced (backTo pos (starEach (e :: rest) env))) (fun vs s₁ => FnIn mg s₁.heap i f ∧ wpAny MM A (call (.ref f) vs) Q E s₁) E s)
    (he : starEach (e :: rest) env = (false, eval e env) :: starEach rest env := by rfl) (hplain : (backTo pos (starEach rest env)).any (·.1) = false := by rfl) :
    wpAny MM A (callWith pos (.ref f) [] (backTo pos (starEach (e :: rest) env)) []) Q E s := by
  rw [he] at h ⊢
  refine callWith_of (P := fun h => FnIn mg h i f) (by show ((false || (backTo pos (starEach rest env)).any (·.1)) || false) = false; rw [hplain]; rfl) (fun h hf => ?_) (evalArgs_plain h)
  unfold FnIn at hf
  rw [hd] at hf
  obtain ⟨_, o, pm, code, doc, h2, h3, h4⟩ := hf
  refine ⟨.frame, .inl rfl, (Looks.ld (part := none) h2).andThen ?_⟩
  rw [h3]
  exact .now
end
end Mine
end
section
open PySem PySem.W PyProof.Rows PySem.Calls PySem.Spec
set_option Elab.async false
set_option maxRecDepth 100000
namespace Mine
local macro_rules | `(tactic| walk_at "eval Name") => `(tactic| ((with_reducible show wpAny _ _ (eval (Expr.Name (Str.ofString "len") _) _) _ _ _); k_dflt (refine nmE_len (by assumption) ?_)))
local macro_rules | `(tactic| walk_at "eval Name") => `(tactic| ((with_reducible show wpAny _ _ (eval (Expr.Name (Str.ofString "range") _) _) _ _ _); k_dflt (refine nmE_range (by assumption) ?_)))
local macro_rules | `(tactic| walk_at "eval Name") => `(tactic| (k_dflt (refine' nmE_local ?k1 ?k2 ?_; (case k1 => first | assumption | exact Fr.ns (by assumption)); (case k2 => first | exact rfl | assumption); k_whole)))
def fitB (one : Str) (run : List Str) : Bool :=
  match Txt.split one (Str.ofString "...") with
  | e0 :: e1 :: _ => Txt.join (Str.ofString ",") run == e0 ++ Txt.slice (Txt.join (Str.ofString ",") run) (some (e0.length : Int)) (some (((Txt.join (Str.ofString ",") run).length : Int) - e1.length)) ++ e1
  | _ => decide (run = [one])
theorem FitSays.eq {one : Str} {run : List Str} {b : Bool} (h : FitSays one run b) : b = fitB one run := by
  rcases h with ⟨h1, h2⟩ | ⟨e0, e1, rl, h1, h2⟩
  · unfold fitB; rw [h1]; exact h2
  · unfold fitB; rw [h1]; exact h2
def natVals (l : List (Nat × Tok)) : List Value := l.map fun p => .int (p.1 : Int) p.2
theorem natVals_are : ∀ l : List (Nat × Tok), IntsAre (natVals l) (l.map fun p => (p.1 : Int))
  | [] => .nil
  | (n, t) :: r => .cons (n : Int) t (natVals_are r)
def forBody : Stmt → List Stmt
  | .For _ _ b _ _ => b
  | _ => []
def nthFor (n : Nat) (b : List Stmt) : List Stmt := match b[n]? with | some st => forBody st | none => []
/-- the test of _law_cut's comprehension -/
def runAt (ws : List (Str × Tok)) (i j : Nat) : List (Str × Tok) := (ws.take j).drop i
def hits (one : Str) (ws : List (Str × Tok)) (prev : List (Nat × Tok)) (j : Nat) : List (Nat × Tok) := prev.filter fun p => decide (p.1 < j) && fitB one ((runAt ws p.1 j).map (·.1))
abbrev cuEnv (L f : Addr) (cd : Value) : Env := envOfC (Str.ofString "_law_cut") (scopeAt 8) L f cd
theorem paired_eq : ∀ {l ys : List Value}, Paired (fun v y => y = v) l ys → ys = l
  | _, _, .nil => rfl
  | _, _, .cons e r => by rw [e, paired_eq r]
theorem last_val (l : List Value) (x : Value) : if 0 ≤ (-1 : Int) then (-1 : Int) < 2 ^ 63 ∧ (l ++ [x])[(-1 : Int).toNat]? = some x
    else -(2 ^ 63) ≤ (-1 : Int) ∧ -((l ++ [x]).length : Int) ≤ -1 ∧ (l ++ [x])[((-1 : Int) + (l ++ [x]).length).toNat]? = some x := by
  rw [if_neg (by decide)]
  have e0 : (l ++ [x]).length = l.length + 1 := by simp
  refine ⟨by decide, by rw [e0]; omega, ?_⟩
  rw [e0, show ((-1 : Int) + ((l.length + 1 : Nat) : Int)).toNat = l.length by omega]
  simp
theorem strValues_run (ws : List (Str × Tok)) (i j : Nat) : ((strValues ws).drop i).take (j - i) = strValues (runAt ws i j) := by
  unfold strValues runAt
  rw [List.map_drop, List.map_take, List.drop_take]
theorem natVals_get {l : List (Nat × Tok)} {i : Nat} {v : Value} (h : (natVals l)[i]? = some v) : ∃ q, l[i]? = some q ∧ v = .int (q.1 : Int) q.2 := by
  unfold natVals at h
  rw [List.getElem?_map] at h
  cases hq : l[i]? with
  | none => rw [hq] at h; cases h
  | some q => rw [hq] at h; exact ⟨q, rfl, (Option.some.inj h).symm⟩
theorem isList_pushed (h : Heap) (o : Obj) (items : Array Value) : ((h.push o).push { cls := .type "list", data := .seq items }).IsList (h.objs.size + 1) items := by
  have := Heap.get?_push_size (h := h.push o) (o := { cls := .type "list", data := .seq items }) rfl
  rw [Heap.size_push] at this
  exact ⟨_, this, rfl, _, rfl⟩
theorem runAt_sub {ws : List (Str × Tok)} {i j : Nat} {p : Str × Tok} (h : p ∈ runAt ws i j) : p ∈ ws := List.mem_of_mem_take (List.mem_of_mem_drop h)
theorem runAt_len {ws : List (Str × Tok)} {i j : Nat} : (runAt ws i j).length ≤ ws.length := by unfold runAt; simp; omega
set_option maxHeartbeats 4000000 in
theorem cut_turn {prog : Program} {w : World} {dp un : Nat} {fr : Option (List Env)} {gd : Option (List Code)} {s : Shared} {mg mb m : Str → Option Value} {f L rowA R pa wl : Addr} {cd : Value} {one : Str} {t1 tj : Tok} {j n : Nat}
    {h₀ : Heap} {rest : List (Addr × Obj)} {rvs rvals : List Value} {ws : List (Str × Tok)} {prev : List (Nat × Tok)} {Q : Flow → Shared → Prop}
    (M : Md mg mb h₀) (F : Fr h₀ L s.heap m) (N : News h₀ L s.heap ((rowA, listOf rvs.toArray n) :: rest)) (hra : ∀ p ∈ rest, p.1 ≠ rowA)
    (hrow : m (Str.ofString "row") = some (.ref rowA)) (hrows : m (Str.ofString "rows") = some (.ref R))
    (hR : s.heap.IsList R (rvals ++ [Value.ref pa]).toArray) (hpa : s.heap.IsList pa (natVals prev).toArray)
    (hcj : s.heap.IsCell (L + 3) (some (.int (j : Int) tj))) (hc1 : s.heap.IsCell (L + 2) (some (.str one t1))) (hcw : s.heap.IsCell (L + 1) (some (.ref wl))) (hwl : s.heap.IsList wl (strValues ws).toArray)
    (hroom : dp + 1 < recursionLimit) (hun : un + 200 < cLine) (hj : j ≤ ws.length) (hone : one.length ≤ 1000000) (hwb : ∀ p ∈ ws, p.1.length ≤ 100) (hwn : ws.length ≤ 1000) (hpn : prev.length ≤ 1000) (hrn : rvs.length ≤ 1000) (hRn : rvals.length ≤ 1000)
    (hxo : PyData.strOk one = true) (hwo : ∀ y ∈ ws.map (·.1), PyData.strOk y = true)
    (h : ∀ h' tk rvs' n', Fr h₀ L h' m → News h₀ L h' ((rowA, listOf rvs'.toArray n') :: rest) → rvs' = (if hits one ws prev j = [] then rvs else rvs ++ [.int (j : Int) tj]) → Q .next { s with heap := h', toks := tk }) :
    wpAny (model prog w) (Ar dp un fr gd) (execs (nthFor 1 (nthFor 1 (bodyAt 8))) (cuEnv L f cd)) Q (fun _ _ => False) s := by
  have KX : Frag.In [] h₀ := fun _ _ e => nomatch e
  show wpAny _ _ (execs (_ :: _) (envOfC _ ⟨_, _, _, _, _⟩ _ _ _)) _ _ _
  w_on
  iterate 3 walk1
  refine wpAny_ListComp_free (cl := [(Str.ofString "words", L + 1), (Str.ofString "one", L + 2), (Str.ofString "j", L + 3)])
    (fun v => match v with | .int i _ => decide (i < (j : Int)) && fitB one ((runAt ws i.toNat j).map (·.1)) | _ => false) (fun v y => y = v) rfl (by decide) rfl (by decide) rfl ?_
  iterate 5 walk1
  refine' item_at (v := .ref pa) (vs := rvals ++ [Value.ref pa]) hR (last_val _ _) ?_ ?s9
  case s9 => with_unfolding_all rfl
  obtain ⟨ol, hol, _⟩ := id hpa
  have hne : pa ≠ s.heap.objs.size := Nat.ne_of_lt (Heap.lt_size hol)
  have hpl : (natVals prev).length = prev.length := by simp [natVals]
  refine wpAny_pyIter_list (s := { s with toks := _ }) hpa ?_
  have W := Walks.list (prog := prog) (w := w) (A := Ar dp un fr gd) rfl s.heap.objs.size pa hne (natVals prev).toArray
  refine ⟨_, _, _, _, _, _, rfl, W, by simp [sizeLine, hpl]; omega, ⟨⟨_, Heap.get?_push_size _ rfl, rfl, rfl⟩, hpa.at fun o e => Heap.get?_push_of_some _ e⟩, ?_, ⟨?_, ?_⟩, ?_⟩
  · intro b hb
    show b < (s.heap.push _).objs.size
    rw [Heap.size_push]
    rcases List.mem_cons.mp hb with rfl | hb
    · exact Nat.lt_succ_self _
    · rw [List.mem_singleton.mp hb]; exact Nat.lt_succ_of_lt (Heap.lt_size hol)
  · intro C i v s₃ m₃ E' hC hv hn hm hk htk
    obtain ⟨q, hq, rfl⟩ := natVals_get (l := prev) (by simpa using hv)
    have hold : ∀ b o, s.heap.get? b = some o → s₃.heap.get? b = some o := fun b o e => hk b o (by intro hb; rw [List.mem_singleton.mp hb] at e; exact absurd (Heap.lt_size e) (Nat.lt_irrefl _)) (Heap.get?_push_of_some _ e)
    have M3 : Md mg mb s₃.heap := M.keeps fun b o e => hold b o (F.keep b o e)
    have hcj3 : s₃.heap.IsCell (L + 3) (some (.int (j : Int) tj)) := let ⟨o, ho, hd⟩ := hcj; ⟨o, hold _ _ ho, hd⟩
    have hc13 : s₃.heap.IsCell (L + 2) (some (.str one t1)) := let ⟨o, ho, hd⟩ := hc1; ⟨o, hold _ _ ho, hd⟩
    have hcw3 : s₃.heap.IsCell (L + 1) (some (.ref wl)) := let ⟨o, ho, hd⟩ := hcw; ⟨o, hold _ _ ho, hd⟩
    have hwl3 : s₃.heap.IsList wl (strValues ws).toArray := hwl.at fun o e => hold _ o e
    refine wpAny_tests_one ?_
    walk1
    walk1
    refine nmE_local hn hm ?_
    refine nmE_cell hcj3 ?_
    iterate 3 walk1
    · rename ((q.1 : Int) < (j : Int)) => hlt
      have hrl : runAt ws (q.1 : Int).toNat j = runAt ws q.1 j := rfl
      iterate 4 walk1
      refine nmE_fn M3 M3.fits rfl fun ff hff => ?_
      refine callWith_fn (i := 7) (mg := mg) rfl ?_
      walk1
      refine nmE_cell hc13 ?_
      iterate 2 walk1
      refine nmE_cell hcw3 ?_
      iterate 2 walk1
      refine nmE_local hn hm ?_
      walk1
      refine nmE_cell hcj3 ?_
      walk1
      refine slice_listK hwl3 (.int _ _) (.int _ _) ?_ (by with_unfolding_all rfl) (by intro _; with_unfolding_all rfl) (by simp [sizeLine, strValues]; omega)
      rw [slicePick_run _ q.1 j (by simp [strValues]; omega) (by omega), List.toList_toArray, strValues_run]
      walk1
      refine ⟨hff.keeps fun b o e => Heap.get?_push_of_some _ (Heap.get?_push_of_some _ e), ?_⟩
      refine fi_call (lr := runAt ws q.1 j) (M3.keeps fun b o e => Heap.get?_push_of_some _ (Heap.get?_push_of_some _ e)) (hff.keeps fun b o e => Heap.get?_push_of_some _ (Heap.get?_push_of_some _ e))
        (by omega) (by omega) hone (isList_pushed _ _ _) (fun p hp => hwb p (runAt_sub hp)) (Nat.le_trans runAt_len hwn) hxo (fun y hy => by obtain ⟨p, hp, rfl⟩ := List.mem_map.mp hy; exact hwo _ (List.mem_map.mpr ⟨p, runAt_sub hp, rfl⟩)) ?_
      intro b h' tk hb hk'
      have hb' := hb.eq
      iterate 3 walk1
      all_goals
        rename (b = _) => hbt
        refine ⟨?_, h', _, rfl, fun b' o e => hk' b' o (Heap.get?_push_of_some _ (Heap.get?_push_of_some _ e))⟩
        dsimp only
        rw [decide_eq_true hlt, Bool.true_and, ← hbt, hb']
        rfl
    · rename (¬ (q.1 : Int) < (j : Int)) => hlt
      exact ⟨by dsimp only; rw [decide_eq_false hlt]; rfl, s₃.heap, s₃.toks, rfl, fun _ _ e => e⟩
  · intro C i v s₃ m₃ E' hC hv _ hn hm hk htk
    refine nmE_local hn hm ?_
    exact ⟨rfl, s₃.heap, s₃.toks, rfl, fun _ _ e => e⟩
  · intro D h' tk ys vs hD hlD hpD hlen hP hF hk
    have hvs : vs = natVals prev := vs_eq hlen hP
    subst hvs
    have hys : ys = (natVals (hits one ws prev j)).toArray := by
      have e1 := paired_eq hF
      have e2 : (natVals prev).filter (fun v => match v with | .int i _ => decide (i < (j : Int)) && fitB one ((runAt ws i.toNat j).map (·.1)) | _ => false) = natVals (hits one ws prev j) := by
        unfold natVals hits
        rw [List.filter_map]
        congr 1
        apply List.filter_congr
        intro p _
        simp
      rw [← e2, ← e1]
    subst hys
    have hold : ∀ b o, s.heap.get? b = some o → h'.get? b = some o := fun b o e => hk b o (by intro hb; rw [List.mem_singleton.mp hb] at e; exact absurd (Heap.lt_size e) (Nat.lt_irrefl _)) (Heap.get?_push_of_some _ e)
    have F2 := F.keeps hold
    have N2 := N.grown hold
    have hcj2 : h'.IsCell (L + 3) (some (.int (j : Int) tj)) := let ⟨o, ho, hd⟩ := hcj; ⟨o, hold _ _ ho, hd⟩
    clear F N hk hF hP
    iterate 2 walk1
    refine wpAny_newObj_type (T := "list") ?_
    have hpush : ∀ (o' : Obj) b o, h'.get? b = some o → (h'.push o').get? b = some o := fun o' b o e => Heap.get?_push_of_some _ e
    have F3 := F2.keeps (hpush { cls := .type "list", data := .seq #[] })
    have N3 := N2.grown (hpush { cls := .type "list", data := .seq #[] })
    have hcj3 : (h'.push { cls := .type "list", data := .seq #[] }).IsCell (L + 3) (some (.int (j : Int) tj)) := let ⟨o, ho, hd⟩ := hcj2; ⟨o, hpush _ _ _ ho, hd⟩
    refine ke_ne_ints (xs := natVals (hits one ws prev j)) (ys := []) (ns := (hits one ws prev j).map fun p => (p.1 : Int)) (ms := []) (hlD.at fun o e => hpush _ _ o e) ⟨_, Heap.get?_push_size _ rfl, rfl, _, rfl⟩ (natVals_are _) .nil (by show un + 64 < cLine; omega) ?_
    dsimp only
    generalize (h'.push { cls := .type "list", data := .seq #[] }) = h3 at F3 N3 hcj3 ⊢
    iterate 2 walk1
    by_cases hh : hits one ws prev j = []
    · rw [if_pos (by simp [hh])]
      iterate 2 walk1
      exact h _ _ rvs n F3 N3 (by rw [if_pos hh])
    · rw [if_neg (by simpa using hh)]
      iterate 7 walk1
      refine nmE_cell hcj3 ?_
      walk1
      refine app_head F3 N3 hra (by simp [sizeLine]; omega) ?_
      intro h4 F4 N4
      iterate 3 walk1
      exact h _ _ _ _ F4 N4 (by rw [if_neg hh])
end Mine
end
section
open PySem PySem.W PyProof.Rows PySem.Calls PySem.Spec
set_option Elab.async false
set_option maxRecDepth 100000
namespace Mine
local macro_rules | `(tactic| walk_at "eval Name") => `(tactic| ((with_reducible show wpAny _ _ (eval (Expr.Name (Str.ofString "len") _) _) _ _ _); k_dflt (refine nmE_len (by assumption) ?_)))
local macro_rules | `(tactic| walk_at "eval Name") => `(tactic| ((with_reducible show wpAny _ _ (eval (Expr.Name (Str.ofString "range") _) _) _ _ _); k_dflt (refine nmE_range (by assumption) ?_)))
local macro_rules | `(tactic| walk_at "eval Name") => `(tactic| (k_dflt (refine' nmE_local ?k1 ?k2 ?_; (case k1 => first | assumption | exact Fr.ns (by assumption)); (case k2 => first | exact rfl | assumption); k_whole)))

def hitsB (one : Str) (ws : List Str) (prev : List Nat) (j : Nat) : Bool := prev.any fun i => decide (i < j) && fitB one ((ws.take j).drop i)
theorem hits_iff (one : Str) (ws : List (Str × Tok)) (prev : List (Nat × Tok)) (j : Nat) : (hits one ws prev j = []) ↔ hitsB one (ws.map (·.1)) (prev.map (·.1)) j = false := by
  unfold hits hitsB runAt
  rw [List.filter_eq_nil_iff, List.any_eq_false]
  simp only [List.mem_map, List.map_drop, List.map_take]
  constructor
  · rintro h x ⟨p, hp, rfl⟩; exact h p hp
  · intro h p hp; exact h p.1 ⟨p, hp, rfl⟩
def cutRow (one : Str) (ws : List Str) (prev : List Nat) : List Nat := (List.range' 1 ws.length).filter (hitsB one ws prev)
theorem isCell_of {h : Heap} {c : Addr} {o : Obj} {v : Option Value} (ho : h.get? c = some o) (hd : o.data = .cell v) : h.IsCell c v := ⟨o, ho, hd⟩
def nth (n : Nat) (b : List Stmt) : Stmt := match b[n]? with | some st => st | none => .Pass ⟨0, 0, 0, 0⟩
theorem rangeIter0 (h : Heap) (a : Int) (n : Nat) : IsRangeIter (h.push { cls := .type "range_iterator", data := .fields #[rawInt a, rawInt (n : Int), rawInt 1] }) h.objs.size (a + ((0 : Nat) : Int) * 1) ((n : Int) - ((0 : Nat) : Int)) 1 := by
  have := Heap.get?_push_size (h := h) (o := { cls := .type "range_iterator", data := .fields #[rawInt a, rawInt (n : Int), rawInt 1] }) rfl
  simpa using this
theorem addr_off {a b : Nat} (h1 : a = b + 1) (h2 : a < b) : False := by omega
theorem addr_off2 {a b L : Nat} (h1 : b + 1 < a) (h2 : L < b) (h3 : a ≤ L) : False := by omega
set_option maxHeartbeats 4000000 in
theorem cut_inner {prog : Program} {w : World} {dp un : Nat} {fr : Option (List Env)} {gd : Option (List Code)} {s : Shared} {mg mb m : Str → Option Value} {f L rowA R pa wl : Addr} {cd : Value} {one : Str} {t1 : Tok}
    {h₀ : Heap} {rest : List (Addr × Obj)} {oj o1 ow : Obj} {vj : Option Value} {rvals : List Value} {nR np : Nat} {ws : List (Str × Tok)} {prev : List (Nat × Tok)} {Q : Flow → Shared → Prop}
    (M : Md mg mb h₀) (F : Fr h₀ L s.heap m) (N : News h₀ L s.heap ((L + 3, oj) :: (rowA, listOf #[] 0) :: (L + 2, o1) :: (L + 1, ow) :: (R, listOf (rvals ++ [Value.ref pa]).toArray nR) :: (pa, listOf (natVals prev).toArray np) :: rest))
    (hdj : oj.data = .cell vj) (hd1 : o1.data = .cell (some (.str one t1))) (hdw : ow.data = .cell (some (.ref wl)))
    (hrA : L + 3 < rowA) (hRA : L + 3 < R ∧ R < rowA) (hpaA : L + 3 < pa ∧ pa < rowA) (hrestA : ∀ p ∈ rest, p.1 ≠ rowA ∧ p.1 ≠ L + 3)
    (hrow : m (Str.ofString "row") = some (.ref rowA)) (hrows : m (Str.ofString "rows") = some (.ref R)) (hwl : h₀.IsList wl (strValues ws).toArray)
    (hroom : dp + 1 < recursionLimit) (hun : un + 200 < cLine) (hone : one.length ≤ 1000000) (hwb : ∀ p ∈ ws, p.1.length ≤ 100) (hwn : ws.length ≤ 1000) (hpn : prev.length ≤ 1000) (hRn : rvals.length ≤ 1000)
    (hxo : PyData.strOk one = true) (hwo : ∀ y ∈ ws.map (·.1), PyData.strOk y = true)
    (h : ∀ h' tk row n' oj' vj', Fr h₀ L h' m → News h₀ L h' ((L + 3, oj') :: (rowA, listOf (natVals row).toArray n') :: (L + 2, o1) :: (L + 1, ow) :: (R, listOf (rvals ++ [Value.ref pa]).toArray nR) :: (pa, listOf (natVals prev).toArray np) :: rest) → oj'.data = .cell vj' →
      row.map (·.1) = cutRow one (ws.map (·.1)) (prev.map (·.1)) → Q .next { s with heap := h', toks := tk }) :
    wpAny (model prog w) (Ar dp un fr gd) (exec (nth 1 (nthFor 1 (bodyAt 8))) (cuEnv L f cd)) Q (fun _ _ => False) s := by
  have KX : Frag.In [] h₀ := fun _ _ e => nomatch e
  have Ms : Md mg mb s.heap := M.keeps F.keep
  have hcw : s.heap.IsCell (L + 1) (some (.ref wl)) := isCell_of (N (L + 1, ow) (by simp)).1 hdw
  have hwls : s.heap.IsList wl (strValues ws).toArray := hwl.at fun o e => F.keep _ o e
  show wpAny _ _ (exec (Stmt.For _ _ _ _ _) (envOfC _ ⟨_, _, _, _, _⟩ _ _ _)) _ _ _
  w_on
  refine wpAny_For ?_ (by intro _; rfl)
  iterate 11 walk1
  refine nmE_cell hcw ?_
  walk1
  have hvl : (strValues ws).toArray.size = ws.length := by simp [strValues]
  refine len_list hwls (by rw [hvl]; omega) ?_
  rw [hvl]
  iterate 3 walk1
  refine call_range_2 ?_
  refine wpAny_pyIter_range (IsRange.new _ _ _ _ _ _ _) (small_one (by decide) (by decide) (by omega) (by omega)) ?_
  have hsz : Builtin.Range.rangeSize 1 ((ws.length : Int) + 1) 1 = (ws.length : Int) := by rw [rangeSize_one]; split <;> omega
  rw [hsz]
  have hk2 : ∀ (o₁ o₂ : Obj) b o, s.heap.get? b = some o → ((s.heap.push o₁).push o₂).get? b = some o := fun o₁ o₂ b o e => Heap.get?_push_of_some _ (Heap.get?_push_of_some _ e)
  have hIs : ∀ (o₁ : Obj), (s.heap.push o₁).objs.size = s.heap.objs.size + 1 := fun o₁ => Heap.size_push ..
  have hlt : ∀ p ∈ ((L + 3, oj) :: (rowA, listOf #[] 0) :: (L + 2, o1) :: (L + 1, ow) :: (R, listOf (rvals ++ [Value.ref pa]).toArray nR) :: (pa, listOf (natVals prev).toArray np) :: rest), p.1 < s.heap.objs.size + 1 := fun p hp => Nat.lt_succ_of_lt (Heap.lt_size (N p hp).1)
  refine forC (n := ws.length) (l := s.heap.objs.size + 1) (c := L + 3) (I := (s.heap.push _).objs.size) (o₀ := oj) (v₀ := vj) (m₀ := m)
    (rest₀ := (rowA, listOf #[] 0) :: (L + 2, o1) :: (L + 1, ow) :: (R, listOf (rvals ++ [Value.ref pa]).toArray nR) :: (pa, listOf (natVals prev).toArray np) :: rest)
    (fun i m₁ rst => m₁ = m ∧ ∃ row n', rst = (rowA, listOf (natVals row).toArray n') :: (L + 2, o1) :: (L + 1, ow) :: (R, listOf (rvals ++ [Value.ref pa]).toArray nR) :: (pa, listOf (natVals prev).toArray np) :: rest ∧
      row.map (·.1) = (List.range' 1 i).filter (hitsB one (ws.map (·.1)) (prev.map (·.1))) ∧ row.length ≤ i)
    (Walks.range rfl _ 1 1 ws.length) (fun b hb => .inl (List.mem_singleton.mp hb)) ?hLf ?hcf ?hI ?hlive rfl rfl rfl ?hr ?hst (F.keeps (hk2 _ _)) (N.grown (hk2 _ _)) hdj ⟨rfl, [], 0, rfl, rfl, Nat.le_refl _⟩ ?turn ?done
  case hLf =>
    intro hm
    have e1 : L = (s.heap.push _).objs.size := List.mem_singleton.mp hm
    have e2 : L < s.heap.objs.size := F.ns.lt
    rw [hIs] at e1
    exact addr_off e1 e2
  case hcf =>
    intro hm
    have e1 : L + 3 = (s.heap.push _).objs.size := List.mem_singleton.mp hm
    have e2 : L + 3 < s.heap.objs.size := Heap.lt_size (N _ (.head _)).1
    rw [hIs] at e1
    exact addr_off e1 e2
  case hI =>
    rw [hIs]
    cases q : h₀.get? (s.heap.objs.size + 1) with
    | none => rfl
    | some o =>
      have e1 := Heap.lt_size q
      have e2 : L < s.heap.objs.size := F.ns.lt
      exact (addr_off2 e1 e2 F.above).elim
  case hlive => exact fun i h st => ⟨_, st⟩
  case hr =>
    intro p hp
    have e1 := hlt p (.tail _ hp)
    refine ⟨by rw [hIs]; exact Nat.ne_of_lt e1, ?_⟩
    simp only [List.mem_cons] at hp
    rcases hp with rfl | rfl | rfl | rfl | rfl | hp
    · exact Nat.ne_of_gt hrA
    · exact Nat.ne_of_lt (Nat.lt_succ_self _)
    · exact Nat.ne_of_lt (Nat.lt_succ_of_lt (Nat.lt_succ_self _))
    · exact Nat.ne_of_gt hRA.1
    · exact Nat.ne_of_gt hpaA.1
    · exact (hrestA p hp).2
  case hst => exact rangeIter0 _ _ _
  case turn =>
    rintro i v m₁ rst h' tk own o hi ⟨tv, rfl⟩ hown hIo hrst ⟨rfl, row, n', rfl, hrow', hrl⟩ hod F1 N1
    rw [show (1 + (i : Int) * 1) = ((i + 1 : Nat) : Int) by omega] at hod
    have g1 : ∀ p ∈ (L + 3, o) :: ((rowA, listOf (natVals row).toArray n') :: (L + 2, o1) :: (L + 1, ow) :: (R, listOf (rvals ++ [Value.ref pa]).toArray nR) :: (pa, listOf (natVals prev).toArray np) :: rest) ++ own, h'.get? p.1 = some p.2 := fun p hp => (N1 p hp).1
    have hpl : ∀ p ∈ own, p.1 ≠ rowA := by
      intro p hp e
      have h1 := hrst (rowA, listOf (natVals row).toArray n') (.head _)
      have h2 := hlt (rowA, listOf #[] 0) (by simp)
      rcases hown p hp with h3 | h3
      · exact h1.1 (e.symm.trans h3)
      · dsimp only at h2; rw [← e, h3] at h2; exact Nat.lt_irrefl _ h2
    refine cut_turn (rest := (L + 3, o) :: (L + 2, o1) :: (L + 1, ow) :: (R, listOf (rvals ++ [Value.ref pa]).toArray nR) :: (pa, listOf (natVals prev).toArray np) :: (rest ++ own)) (rvs := natVals row) (n := n') (j := i + 1) (tj := tv) (ws := ws) (prev := prev) (one := one) (t1 := t1) M F1 ?n ?ra hrow hrows
      ⟨_, g1 (R, listOf (rvals ++ [Value.ref pa]).toArray nR) (by simp), rfl, _, rfl⟩ ⟨_, g1 (pa, listOf (natVals prev).toArray np) (by simp), rfl, _, rfl⟩ (isCell_of (g1 (L + 3, o) (by simp)) hod) (isCell_of (g1 (L + 2, o1) (by simp)) hd1) (isCell_of (g1 (L + 1, ow) (by simp)) hdw) (hwl.at fun o e => F1.keep _ o e)
      hroom hun (by omega) hone hwb hwn hpn (by simp [natVals]; omega) hRn hxo hwo ?Q
    case n =>
      intro p hp
      refine N1 p ?_
      simp only [List.mem_cons, List.mem_append, List.cons_append] at hp ⊢
      rcases hp with h | h | h | h | h | h | h | h <;> simp [h]
    case ra =>
      intro p hp
      simp only [List.mem_cons, List.mem_append] at hp
      rcases hp with rfl | rfl | rfl | rfl | rfl | hp | hp
      · exact Nat.ne_of_lt hrA
      · exact Nat.ne_of_lt (Nat.lt_trans (Nat.lt_succ_self _) hrA)
      · exact Nat.ne_of_lt (Nat.lt_trans (Nat.lt_succ_of_lt (Nat.lt_succ_self _)) hrA)
      · exact Nat.ne_of_lt hRA.2
      · exact Nat.ne_of_lt hpaA.2
      · exact (hrestA p hp).1
      · exact hpl p hp
    case Q =>
      intro h2 tk2 rvs' n2 F2 N2 hrv
      obtain ⟨row2, hrow2, hr2, hr3⟩ : ∃ row2, rvs' = natVals row2 ∧ row2.map (·.1) = (List.range' 1 (i + 1)).filter (hitsB one (ws.map (·.1)) (prev.map (·.1))) ∧ row2.length ≤ i + 1 := by
        rw [show List.range' 1 (i + 1) = List.range' 1 i ++ [i + 1] by rw [List.range'_concat]; simp [Nat.add_comm], List.filter_append, ← hrow']
        by_cases hh : hits one ws prev (i + 1) = []
        · refine ⟨row, by rw [hrv, if_pos hh], ?_, by omega⟩
          simp [List.filter, (hits_iff _ _ _ _).mp hh]
        · refine ⟨row ++ [(i + 1, tv)], by rw [hrv, if_neg hh]; simp [natVals], ?_, by simp; omega⟩
          have : hitsB one (ws.map (·.1)) (prev.map (·.1)) (i + 1) = true := by
            cases hb : hitsB one (ws.map (·.1)) (prev.map (·.1)) (i + 1) with
            | true => rfl
            | false => exact absurd ((hits_iff _ _ _ _).mpr hb) hh
          simp [List.filter, this]
      subst hrow2
      refine LpEndC.intro (rest' := (rowA, listOf (natVals row2).toArray n2) :: (L + 2, o1) :: (L + 1, ow) :: (R, listOf (rvals ++ [Value.ref pa]).toArray nR) :: (pa, listOf (natVals prev).toArray np) :: rest) F2 ?_ hod ?_ ⟨rfl, row2, n2, rfl, hr2, hr3⟩
      · intro p hp
        refine N2 p ?_
        simp only [List.mem_cons, List.mem_append, List.cons_append] at hp ⊢
        rcases hp with h | h | h | h | h | h | h | h <;> simp [h]
      · intro p hp
        rcases List.mem_cons.mp hp with rfl | hp
        · exact hrst (rowA, listOf (natVals row).toArray n') (.head _)
        · exact hrst p (.tail _ hp)
  case done =>
    rintro m₁ rst h' tk o v ⟨rfl, row, n', rfl, hrow', hrl⟩ hrst hod F1 N1
    exact h _ _ row n' o v F1 N1 hod (by rw [hrow']; unfold cutRow; rw [List.length_map])
end Mine
end
section
open PySem PySem.W PyProof.Rows PySem.Calls PySem.Spec
set_option Elab.async false
set_option maxRecDepth 100000
namespace Mine
local macro_rules | `(tactic| walk_at "eval Name") => `(tactic| ((with_reducible show wpAny _ _ (eval (Expr.Name (Str.ofString "len") _) _) _ _ _); k_dflt (refine nmE_len (by assumption) ?_)))
local macro_rules | `(tactic| walk_at "eval Name") => `(tactic| ((with_reducible show wpAny _ _ (eval (Expr.Name (Str.ofString "range") _) _) _ _ _); k_dflt (refine nmE_range (by assumption) ?_)))
local macro_rules | `(tactic| walk_at "eval Name") => `(tactic| (k_dflt (refine' nmE_local ?k1 ?k2 ?_; (case k1 => first | assumption | exact Fr.ns (by assumption)); (case k2 => first | exact rfl | assumption); k_whole)))


def rowAt (ps ws : List Str) : Nat → List Nat
  | 0 => [0]
  | k + 1 => cutRow (ps.getD k (Str.ofString "")) ws (rowAt ps ws k)
abbrev Rw := Addr × List (Nat × Tok) × Nat
def rwEntry (q : Rw) : Addr × Obj := (q.1, listOf (natVals q.2.1).toArray q.2.2)
def rwRef (q : Rw) : Value := .ref q.1
def CutJ (L R : Addr) (ow : Obj) (ps ws : List Str) (i : Nat) (m : Str → Option Value) (rest : List (Addr × Obj)) : Prop :=
  m (Str.ofString "rows") = some (.ref R) ∧ ∃ (oj : Obj) (vj : Option Value) (rws : List Rw) (nR : Nat), rest = (L + 3, oj) :: (L + 1, ow) :: (R, listOf (rws.map rwRef).toArray nR) :: rws.map rwEntry ∧ oj.data = .cell vj ∧
    rws.map (fun q => q.2.1.map (·.1)) = (List.range (i + 1)).map (rowAt ps ws) ∧ ∀ q ∈ rws, L + 3 < q.1 ∧ q.1 ≠ R
theorem getD_map (ps : List (Str × Tok)) (i : Nat) (q : Str × Tok) (h : ps[i]? = some q) : (ps.map (·.1)).getD i (Str.ofString "") = q.1 := by
  rw [List.getD_eq_getElem?_getD, List.getElem?_map, h]; rfl
theorem strValues_get {l : List (Str × Tok)} {i : Nat} {v : Value} (h : (strValues l)[i]? = some v) : ∃ q, l[i]? = some q ∧ v = .str q.1 q.2 := by
  unfold strValues at h
  rw [List.getElem?_map] at h
  cases hq : l[i]? with
  | none => rw [hq] at h; cases h
  | some q => rw [hq] at h; exact ⟨q, rfl, (Option.some.inj h).symm⟩
theorem cutRow_len (one : Str) (ws : List Str) (prev : List Nat) : (cutRow one ws prev).length ≤ ws.length := by
  unfold cutRow
  exact Nat.le_trans (List.length_filter_le _ _) (by simp)
theorem rowAt_len (ps ws : List Str) (k : Nat) : (rowAt ps ws k).length ≤ ws.length + 1 := by
  cases k with
  | zero => simp [rowAt]
  | succ k => exact Nat.le_trans (cutRow_len _ _ _) (Nat.le_succ _)
set_option maxHeartbeats 4000000 in
theorem cut_loop {prog : Program} {w : World} {dp un : Nat} {fr : Option (List Env)} {gd : Option (List Code)} {s : Shared} {mg mb m : Str → Option Value} {f L R a0 pl wl : Addr} {cd : Value} {t0 : Tok} {oj o1 ow : Obj} {vj v1 : Option Value}
    {h₀ : Heap} {ps ws : List (Str × Tok)} {Q : Flow → Shared → Prop}
    (M : Md mg mb h₀) (F : Fr h₀ L s.heap m) (N : News h₀ L s.heap [(R, listOf #[Value.ref a0] 0), (a0, listOf #[Value.int 0 t0] 0), (L + 3, oj), (L + 2, o1), (L + 1, ow)])
    (hdj : oj.data = .cell vj) (hd1 : o1.data = .cell v1) (hdw : ow.data = .cell (some (.ref wl))) (ha0 : L + 3 < a0) (hR : a0 < R)
    (hpat : m (Str.ofString "patterns") = some (.ref pl)) (hrows : m (Str.ofString "rows") = some (.ref R))
    (hpl : h₀.IsList pl (strValues ps).toArray) (hwl : h₀.IsList wl (strValues ws).toArray)
    (hroom : dp + 1 < recursionLimit) (hun : un + 200 < cLine)
    (hpb : ∀ p ∈ ps, p.1.length ≤ 100) (hpn : ps.length ≤ 100) (hwb : ∀ p ∈ ws, p.1.length ≤ 100) (hwn : ws.length ≤ 900)
    (hpo : ∀ y ∈ ps.map (·.1), PyData.strOk y = true) (hwo : ∀ y ∈ ws.map (·.1), PyData.strOk y = true)
    (h : ∀ (rws : List Rw) h' tk, h₀.StaysIn h' → h'.IsList R (rws.map rwRef).toArray → (∀ q ∈ rws, h'.IsList q.1 (natVals q.2.1).toArray) →
      rws.map (fun q => q.2.1.map (·.1)) = (List.range (ps.length + 1)).map (rowAt (ps.map (·.1)) (ws.map (·.1))) → h₀.get? R = none → (∀ q ∈ rws, h₀.get? q.1 = none) → Q (.ret (.ref R)) { s with heap := h', toks := tk }) :
    wpAny (model prog w) (Ar dp un fr gd) (execs ((bodyAt 8).drop 1) (cuEnv L f cd)) Q (fun _ _ => False) s := by
  have KX : Frag.In [] h₀ := fun _ _ e => nomatch e
  show wpAny _ _ (execs (_ :: _) (envOfC _ ⟨_, _, _, _, _⟩ _ _ _)) _ _ _
  w_on
  walk1
  refine wpAny_For ?_ (by intro _; rfl)
  walk1
  have hpls : s.heap.IsList pl (strValues ps).toArray := hpl.at fun o e => F.keep _ o e
  obtain ⟨ol, hol, _⟩ := id hpls
  obtain ⟨ol0, hol0, _⟩ := id hpl
  have hne : pl ≠ s.heap.objs.size := Nat.ne_of_lt (Heap.lt_size hol)
  have hvl : (strValues ps).toArray.size = ps.length := by simp [strValues]
  refine wpAny_pyIter_list hpls ?_
  have hlt : ∀ p ∈ [(R, listOf #[Value.ref a0] 0), (a0, listOf #[Value.int 0 t0] 0), (L + 3, oj), (L + 2, o1), (L + 1, ow)], p.1 < s.heap.objs.size := fun p hp => Heap.lt_size (N p hp).1
  have W := Walks.list (prog := prog) (w := w) (A := Ar dp un fr gd) rfl s.heap.objs.size pl hne (strValues ps).toArray
  rw [hvl] at W
  refine forC (n := ps.length) (l := pl) (c := L + 2) (o₀ := o1) (v₀ := v1) (m₀ := m) (rest₀ := (L + 3, oj) :: (L + 1, ow) :: (R, listOf #[Value.ref a0] 0) :: [(a0, listOf #[Value.int 0 t0] 0)])
    (CutJ L R ow (ps.map (·.1)) (ws.map (·.1))) W (by intro b hb; simpa using hb) ?hLf ?hcf ?hI ?hlive rfl rfl rfl ?hr ?hst (F.keeps fun b o e => Heap.get?_push_of_some _ e) ?N1 hd1 ?hj ?turn ?done
  case hLf =>
    intro hm
    rcases List.mem_cons.mp hm with e | hm
    · exact absurd F.ns.lt (e ▸ Nat.lt_irrefl _)
    · have e : L = pl := List.mem_singleton.mp hm
      exact absurd (Nat.lt_of_lt_of_le (Heap.lt_size hol0) F.above) (e ▸ Nat.lt_irrefl _)
  case hcf =>
    intro hm
    rcases List.mem_cons.mp hm with e | hm
    · exact absurd (hlt (L + 2, o1) (by simp)) (e ▸ Nat.lt_irrefl _)
    · have e : L + 2 = pl := List.mem_singleton.mp hm
      have h1 := Nat.lt_of_lt_of_le (Heap.lt_size hol0) F.above
      rw [← e] at h1
      exact absurd h1 (Nat.not_lt.mpr (Nat.le_add_right _ _))
  case hI => exact next_is_new F
  case hlive => exact fun i h st => let ⟨⟨o, ho, _⟩, _⟩ := st; ⟨o, ho⟩
  case hr =>
    intro p hp
    have hp' : p ∈ [(R, listOf #[Value.ref a0] 0), (a0, listOf #[Value.int 0 t0] 0), (L + 3, oj), (L + 2, o1), (L + 1, ow)] := by
      simp only [List.mem_cons] at hp ⊢
      rcases hp with h | h | h | h | h <;> simp [h]
    refine ⟨Nat.ne_of_lt (hlt p hp'), ?_⟩
    simp only [List.mem_cons, List.not_mem_nil, or_false] at hp
    rcases hp with rfl | rfl | rfl | rfl
    · exact Nat.ne_of_gt (Nat.lt_succ_self _)
    · exact Nat.ne_of_lt (Nat.lt_succ_self _)
    · exact Nat.ne_of_gt (Nat.lt_trans (Nat.lt_trans (Nat.lt_succ_self _) ha0) hR)
    · exact Nat.ne_of_gt (Nat.lt_trans (Nat.lt_succ_self _) ha0)
  case hst => exact ⟨⟨_, Heap.get?_push_size _ rfl, rfl, rfl⟩, hpls.at fun o e => Heap.get?_push_of_some _ e⟩
  case N1 =>
    intro p hp
    have hp' : p ∈ [(R, listOf #[Value.ref a0] 0), (a0, listOf #[Value.int 0 t0] 0), (L + 3, oj), (L + 2, o1), (L + 1, ow)] := by
      simp only [List.mem_cons] at hp ⊢
      rcases hp with h | h | h | h | h | h <;> simp [h]
    exact ⟨Heap.get?_push_of_some _ (N p hp').1, (N p hp').2⟩
  case hj => exact ⟨hrows, oj, vj, [(a0, [(0, t0)], 0)], 0, rfl, hdj, rfl, fun q hq => by rw [List.mem_singleton.mp hq]; exact ⟨ha0, Nat.ne_of_lt hR⟩⟩
  case turn =>
    rintro i v m₁ rest h' tk own o hi hv hown hIo hrst ⟨hrows', oj', vj', rws, nR, rfl, hdj', hrw, hrq⟩ hod F1 N1
    obtain ⟨q, hq, rfl⟩ := strValues_get (l := ps) (by simpa using hv)
    have hqm : q ∈ ps := List.mem_of_getElem? hq
    have hrl : rws.length = i + 1 := by have := congrArg List.length hrw; simpa using this
    obtain ⟨rws', ⟨pa, prev, np⟩, rfl⟩ : ∃ rws' qq, rws = rws' ++ [qq] := by
      rcases List.eq_nil_or_concat rws with rfl | ⟨a, b, rfl⟩
      · simp at hrl
      · exact ⟨a, b, by simp⟩
    have hrw2 : rws'.map (fun q => q.2.1.map (·.1)) = (List.range i).map (rowAt (ps.map (·.1)) (ws.map (·.1))) ∧ prev.map (·.1) = rowAt (ps.map (·.1)) (ws.map (·.1)) i := by
      rw [List.range_succ, List.map_append, List.map_append] at hrw
      have := List.append_inj' hrw rfl
      exact ⟨this.1, by simpa using this.2⟩
    have hpvl : prev.length ≤ 1000 := by
      have h1 := rowAt_len (ps.map (·.1)) (ws.map (·.1)) i
      rw [← hrw2.2, List.length_map, List.length_map] at h1
      omega
    have hLR : L + 3 < R := Nat.lt_trans ha0 hR
    have hpaq := hrq (pa, prev, np) (by simp)
    dsimp only at hpaq
    iterate 4 walk1
    refine newList_K F1 N1 ?_
    intro rowA h2 F2 N2 hl2
    refine storeX_L F2 N2 ?_
    intro h3 F3 N3
    refine wpAny_execs_cons ?_
    have hrest : ∀ p ∈ rws'.map rwEntry ++ own, p.1 ≠ rowA ∧ p.1 ≠ L + 3 := by
      intro p hp
      rcases List.mem_append.mp hp with hp | hp
      · obtain ⟨q', hq', rfl⟩ := List.mem_map.mp hp
        refine ⟨Nat.ne_of_lt (hl2 (rwEntry q') ?_), Nat.ne_of_gt (hrq q' (by simp [hq'])).1⟩
        simp only [List.mem_cons, List.mem_append, List.mem_map, List.cons_append]
        exact .inr (.inr (.inr (.inr (.inl ⟨q', .inl hq', rfl⟩))))
      · refine ⟨Nat.ne_of_lt (hl2 p ?_), ?_⟩
        · simp [hp]
        · intro e
          have h4 := hrst (L + 3, oj') (.head _)
          rcases hown p hp with h5 | h5
          · exact h4.1 (e.symm.trans h5)
          · have h6 := Nat.lt_of_lt_of_le (Heap.lt_size hol0) F.above
            rw [← h5, e] at h6
            exact absurd h6 (Nat.not_lt.mpr (Nat.le_add_right _ _))
    refine cut_inner (one := q.1) (t1 := q.2) (oj := oj') (o1 := o) (ow := ow) (vj := vj') (rowA := rowA) (R := R) (pa := pa) (prev := prev) (np := np) (nR := nR) (rvals := rws'.map rwRef) (rest := rws'.map rwEntry ++ own) (ws := ws) (wl := wl) M F3 ?N4 hdj' hod hdw
      (hl2 (L + 3, oj') (by simp)) ⟨hLR, hl2 (R, listOf ((rws' ++ [(pa, prev, np)]).map rwRef).toArray nR) (by simp)⟩ ⟨hpaq.1, hl2 (rwEntry (pa, prev, np)) (by simp)⟩ hrest rfl hrows' hwl
      hroom hun (Nat.le_trans (hpb q hqm) (by omega)) hwb (by omega) hpvl (by simp at hrl ⊢; omega) (hpo _ (List.mem_map.mpr ⟨q, hqm, rfl⟩)) hwo ?Q4
    case N4 =>
      intro p hp
      refine N3 p ?_
      simp only [List.mem_cons, List.mem_append, List.cons_append, List.map_append, List.map_cons, List.map_nil] at hp ⊢
      rcases hp with h | h | h | h | h | h | h | h
      · simp [h]
      · simp [h]
      · simp [h]
      · simp [h]
      · right; right; right; right; left; rw [h]; rfl
      · right; right; right; right; right; left; right; left; exact h
      · simp [h]
      · simp [h]
    case Q4 =>
      intro h4 tk4 row n4 oj4 vj4 F4 N4 hdj4 hrow4
      dsimp only
      have N5 : News h₀ L h4 ((R, listOf (rws'.map rwRef ++ [Value.ref pa]).toArray nR) :: (L + 3, oj4) :: (rowA, listOf (natVals row).toArray n4) :: (L + 2, o) :: (L + 1, ow) :: (pa, listOf (natVals prev).toArray np) :: (rws'.map rwEntry ++ own)) := by
        intro p hp
        refine N4 p ?_
        simp only [List.mem_cons] at hp ⊢
        rcases hp with h | h | h | h | h | h | h <;> simp [h]
      clear N4 N3 N2 N1 F2
      have hRrow : R < rowA := hl2 (R, listOf ((rws' ++ [(pa, prev, np)]).map rwRef).toArray nR) (by simp)
      iterate 9 walk1
      refine app_head (vs := rws'.map rwRef ++ [Value.ref pa]) F4 N5 ?hr5 (by simp [sizeLine] at hrl ⊢; omega) ?_
      case hr5 =>
        intro p hp
        simp only [List.mem_cons, List.mem_append] at hp
        rcases hp with rfl | rfl | rfl | rfl | rfl | hp | hp
        · exact Nat.ne_of_lt hLR
        · exact Nat.ne_of_gt hRrow
        · exact Nat.ne_of_lt (Nat.lt_trans (Nat.lt_succ_self _) hLR)
        · exact Nat.ne_of_lt (Nat.lt_trans (Nat.lt_succ_of_lt (Nat.lt_succ_self _)) hLR)
        · exact hpaq.2
        · obtain ⟨q', hq', rfl⟩ := List.mem_map.mp hp
          exact (hrq q' (by simp [hq'])).2
        · intro e
          have h5 := hrst (R, listOf ((rws' ++ [(pa, prev, np)]).map rwRef).toArray nR) (by simp)
          rcases hown p hp with h6 | h6
          · exact h5.1 (e.symm.trans h6)
          · have h7 := Nat.lt_of_lt_of_le (Heap.lt_size hol0) F.above
            rw [← h6, e] at h7
            exact absurd (Nat.lt_trans h7 (Nat.lt_of_le_of_lt (Nat.le_add_right _ _) hLR)) (Nat.lt_irrefl _)
      intro h6 F6 N6
      iterate 2 walk1
      refine LpEndC.intro (o' := o) (v' := some (.str q.1 q.2)) (rest' := (L + 3, oj4) :: (L + 1, ow) :: (R, listOf ((rws' ++ [(pa, prev, np)] ++ [(rowA, row, n4)]).map rwRef).toArray (nR + 1)) :: (rws' ++ [(pa, prev, np)] ++ [(rowA, row, n4)]).map rwEntry) F6 ?_ hod ?_ ?_
      · intro p hp
        refine N6 p ?_
        simp only [List.mem_cons, List.mem_append, List.cons_append, List.map_append, List.map_cons, List.map_nil, List.not_mem_nil, or_false] at hp ⊢
        rcases hp with h | h | h | h | ((h | h) | h) | h
        · simp [h]
        · simp [h]
        · simp [h]
        · left; rw [h]; rfl
        · right; right; right; right; right; right; left; exact h
        · right; right; right; right; right; left; exact h
        · right; right; left; exact h
        · simp [h]
      · intro p hp
        simp only [List.mem_cons, List.mem_append, List.map_append, List.map_cons, List.map_nil, List.not_mem_nil, or_false] at hp
        rcases hp with rfl | rfl | rfl | ((h | h) | h)
        · exact hrst (L + 3, oj') (.head _)
        · exact hrst (L + 1, ow) (by simp)
        · exact hrst (R, listOf ((rws' ++ [(pa, prev, np)]).map rwRef).toArray nR) (by simp)
        · exact hrst p (by simp only [List.mem_cons, List.map_append, List.mem_append]; exact .inr (.inr (.inr (.inl h))))
        · exact hrst p (by simp [h])
        · rw [h]
          obtain ⟨oI, hoI⟩ := hIo
          exact ⟨Nat.ne_of_gt (hl2 (_, oI) (by simp [hoI])), Nat.ne_of_gt (hl2 (L + 2, o) (.head _))⟩
      · refine ⟨hrows', oj4, vj4, rws' ++ [(pa, prev, np)] ++ [(rowA, row, n4)], nR + 1, rfl, hdj4, ?_, ?_⟩
        · have e1 : List.map (fun q : Rw => q.2.1.map (·.1)) (rws' ++ [(pa, prev, np)] ++ [(rowA, row, n4)]) = List.map (fun q : Rw => q.2.1.map (·.1)) (rws' ++ [(pa, prev, np)]) ++ [row.map (·.1)] := by simp
          rw [e1, hrw, List.range_succ (n := i + 1), List.map_append]
          congr 1
          simp only [List.map_cons, List.map_nil, rowAt]
          rw [getD_map ps i q hq, hrow4, hrw2.2]
        · intro q' hq'
          rcases List.mem_append.mp hq' with hq' | hq'
          · exact hrq q' hq'
          · rw [List.mem_singleton.mp hq']
            exact ⟨hl2 (L + 3, oj') (by simp), Nat.ne_of_gt hRrow⟩
  case done =>
    rintro m₁ rest h' tk o v ⟨hrows', oj', vj', rws, nR, rfl, hdj', hrw, hrq⟩ hrst hod F1 N1
    dsimp only
    walk1
    walk1
    walk1
    have g1 := N1 (R, listOf (rws.map rwRef).toArray nR) (by simp)
    refine h rws h' _ F1.keep ⟨_, g1.1, rfl, _, rfl⟩ (fun q hq => ⟨_, (N1 (rwEntry q) (by simp only [List.mem_cons, List.mem_map]; exact .inr (.inr (.inr (.inr ⟨q, hq, rfl⟩))))).1, rfl, _, rfl⟩) hrw g1.2.2
      (fun q hq => (N1 (rwEntry q) (by simp only [List.mem_cons, List.mem_map]; exact .inr (.inr (.inr (.inr ⟨q, hq, rfl⟩))))).2.2)
set_option maxHeartbeats 4000000 in
theorem cut_call {prog : Program} {w : World} {dp un : Nat} {fr : Option (List Env)} {gd : Option (List Code)} {s : Shared} {mg mb : Str → Option Value} {f pl wl : Addr} {ps ws : List (Str × Tok)} {Q E : Value → Shared → Prop}
   (M : Md mg mb s.heap) (hf : FnIn mg s.heap 8 f) (hroom : dp + 3 < recursionLimit) (hun : un + 400 < cLine)
   (hpl : s.heap.IsList pl (strValues ps).toArray) (hwl : s.heap.IsList wl (strValues ws).toArray)
   (hpb : ∀ p ∈ ps, p.1.length ≤ 100) (hpn : ps.length ≤ 100) (hwb : ∀ p ∈ ws, p.1.length ≤ 100) (hwn : ws.length ≤ 900)
   (hpo : ∀ y ∈ ps.map (·.1), PyData.strOk y = true) (hwo : ∀ y ∈ ws.map (·.1), PyData.strOk y = true)
   (h : ∀ (R : Addr) (rws : List Rw) h' tk, s.heap.StaysIn h' → h'.IsList R (rws.map rwRef).toArray → (∀ q ∈ rws, h'.IsList q.1 (natVals q.2.1).toArray) →
      rws.map (fun q => q.2.1.map (·.1)) = (List.range (ps.length + 1)).map (rowAt (ps.map (·.1)) (ws.map (·.1))) → s.heap.get? R = none → (∀ q ∈ rws, s.heap.get? q.1 = none) → Q (.ref R) { s with heap := h', toks := tk }) :
   wpAny (model prog w) (Ar dp un fr gd) (call (.ref f) [.ref pl, .ref wl]) Q E s := by
  refine enterC (i := 8) (binds := [(Str.ofString "patterns", .ref pl), (Str.ofString "words", .ref wl)]) rfl M hf (by dsimp only [Ar]; omega) (fun _ _ _ => rfl) rfl (by decide) (fun L h₁ cd tk cells F N Y => ?_)
  have KX : Frag.In [] s.heap := fun _ _ e => nomatch e
  obtain ⟨oj, o1, ow, rfl, hdj, hd1, hdw⟩ := CellsAre.three Y
  clear Y
  w_on
  iterate 12 walk1
  refine' cut_loop (oj := oj) (o1 := o1) (ow := ow) (pl := pl) (wl := wl) (ps := ps) (ws := ws) M ?F9 ?N9 ?a9 ?b9 ?c9 ?d9 ?e9 ?f9 ?g9 hpl hwl ?h9 ?i9 hpb hpn hwb hwn hpo hwo ?j9
  case F9 => assumption
  case N9 => assumption
  case a9 => exact hdj
  case b9 => exact hd1
  case c9 => exact hdw
  case d9 => rename L + 1 + 1 + 1 < _ ∧ L + 1 + 1 < _ ∧ L + 1 < _ => hh; exact hh.1
  case e9 => rename _ ∧ L + 1 + 1 + 1 < _ ∧ L + 1 + 1 < _ ∧ L + 1 < _ => hh; exact hh.1
  case f9 => exact rfl
  case g9 => exact rfl
  case h9 => show dp + 1 + 1 < recursionLimit; omega
  case i9 => show un + 3 + 200 < cLine; omega
  case j9 =>
    intro rws h' tk hk h1 h2 h3 h4 h5
    exact h _ rws h' tk hk h1 h2 h3 h4 h5
end Mine
end
section
open PySem PySem.W PyProof.Rows PySem.Calls
set_option Elab.async false
set_option maxRecDepth 100000
namespace Mine
local macro_rules | `(tactic| walk_at "eval Name") => `(tactic| ((with_reducible show wpAny _ _ (eval (Expr.Name (Str.ofString "len") _) _) _ _ _); k_dflt (refine nm_len (by assumption) (by assumption) ?_)))
local macro_rules | `(tactic| walk_at "eval Name") => `(tactic| ((with_reducible show wpAny _ _ (eval (Expr.Name (Str.ofString "ELLIPSIS_MARKER") _) _) _ _ _); k_dflt (refine nm_mark (by assumption) (by assumption) ?_); intro tmk))
local macro_rules | `(tactic| walk_at "eval Name") => `(tactic| (k_dflt (refine' ld ?k1 ?k2 ?_; (case k1 => k_asm); (case k2 => first | exact rfl | assumption); k_whole)))
local macro_rules | `(tactic| walk_at "loadName") => `(tactic| (k_dflt (refine' ldn ?k1 ?k2 ?_; (case k1 => k_asm); (case k2 => first | exact rfl | assumption); k_whole)))

abbrev roEnv (L f : Addr) (cd : Value) : Env := envOf (Str.ofString "_law_rows") (scopeAt 6) L f cd
def IsPt (u : Str) : Prop := u = Str.ofString "" ∨ u = Str.ofString "a\\" ∨ u = Str.ofString "\"b c\""
theorem pt_item (p0 p1 p2 : Tok) (k : Int) (h0 : 0 ≤ k) (h3 : k < 3) : ∃ u t, (strValues [(Str.ofString "", p0), (Str.ofString "a\\", p1), (Str.ofString "\"b c\"", p2)])[k.toNat]? = some (.str u t) ∧ IsPt u := by
  have : k = 0 ∨ k = 1 ∨ k = 2 := by omega
  rcases this with rfl | rfl | rfl
  · exact ⟨_, p0, rfl, .inl rfl⟩
  · exact ⟨_, p1, rfl, .inr (.inl rfl)⟩
  · exact ⟨_, p2, rfl, .inr (.inr rfl)⟩
theorem fmod_pos (n k : Int) (h : 0 < k) : 0 ≤ Int.fmod n k ∧ Int.fmod n k < k := ⟨Int.fmod_nonneg_of_pos n h, Int.fmod_lt_of_pos n h⟩
theorem IsPt.len {u : Str} (h : IsPt u) : u.length ≤ 5 := by
  rcases h with rfl | rfl | rfl <;> decide
def okSign (c : Nat) : Bool := (Builtin.Str.occurrences (Str.ofString "\\\"") ⟨#[c]⟩ 0 (Str.ofString "\\\"").length 1).isEmpty
def bareOf (x : Str) : Str := Txt.join (Str.ofString "") ((x.cps.toList.filter okSign).map fun c => ⟨#[c]⟩)
def strTok : Value → Str × Tok
  | .str x t => (x, t)
  | _ => (Str.ofString "", 0)
theorem signs_vals {x : Str} {vs : List Value} (hlen : vs.length = x.cps.size) (hP : ∀ (j : Nat) (v : Value), vs[j]? = some v → SignAt x j v) :
    vs = strValues (vs.map strTok) ∧ (vs.map strTok).map (·.1) = x.cps.toList.map fun c => (⟨#[c]⟩ : Str) := by
  constructor
  · unfold strValues
    rw [List.map_map]
    refine (List.map_id' vs).symm.trans (List.map_congr_left fun v hv => ?_)
    obtain ⟨j, hj⟩ := List.mem_iff_getElem?.mp hv
    obtain ⟨c, t, hc, rfl⟩ := hP j v hj
    rfl
  · apply List.ext_getElem?
    intro j
    rw [List.map_map, List.getElem?_map, List.getElem?_map, Array.getElem?_toList (xs := x.cps)]
    cases hj : vs[j]? with
    | none =>
      have := List.getElem?_eq_none_iff.mp hj
      rw [Array.getElem?_eq_none_iff.mpr (by omega)]
      rfl
    | some v =>
      obtain ⟨c, t, hc, rfl⟩ := hP j v hj
      rw [hc]
      rfl
theorem filter_strs (l : List (Str × Tok)) (x : Str) (h : l.map (·.1) = x.cps.toList.map fun c => (⟨#[c]⟩ : Str)) :
    ∃ l', (strValues l).filter (fun v => okSign ((strOf v).cps.getD 0 0)) = strValues l' ∧ l'.map (·.1) = (x.cps.toList.filter okSign).map fun c => (⟨#[c]⟩ : Str) := by
  refine ⟨l.filter fun p => okSign (p.1.cps.getD 0 0), ?_, ?_⟩
  · unfold strValues
    rw [List.filter_map]
    rfl
  · have h1 : (l.filter fun p => okSign (p.1.cps.getD 0 0)).map (·.1) = (l.map (·.1)).filter fun y => okSign (y.cps.getD 0 0) := by
      rw [List.filter_map]; rfl
    rw [h1, h, List.filter_map]
    rfl
theorem ext_head {prog : Program} {w : World} {A : Around} {E : Value → Shared → Prop} {s : Shared} {h₀ : Heap} {L a b : Addr} {m : Str → Option Value} {vs xs : List Value} {n n2 : Nat} {rest : List (Addr × Obj)} {Q : Value → Shared → Prop}
    (F : Fr h₀ L s.heap m) (N : News h₀ L s.heap ((a, listOf vs.toArray n) :: rest)) (hr : ∀ p ∈ rest, p.1 ≠ a) (hb : (b, listOf xs.toArray n2) ∈ rest) (hz : vs.length + xs.length ≤ 1000000)
    (h : ∀ h' n', Fr h₀ L h' m → News h₀ L h' ((a, listOf (vs ++ xs).toArray n') :: rest) → Q .none { s with heap := h' }) : wpAny (model prog w) A (call (.builtin "list.extend") [.ref a, .ref b]) Q E s := by
  have hd : ¬(!vs.toArray.isEmpty && Builtin.List.listTooLong (vs.toArray.size + xs.toArray.size)) = true := by
    simp [Builtin.List.listTooLong, sizeLine]
    intros
    omega
  by_cases e : xs = []
  · subst e
    exact kxn_extend F N (.tail _ hb) rfl (Upd.head hr) hd (by simp [sizeLine] at hz ⊢; omega) (by simp [sizeLine] at hz ⊢; omega) (fun h' F' N' => h h' n F' (by rw [List.append_nil]; exact N'))
  · exact kl_extend F N (.tail _ hb) rfl (by simpa using e) (Upd.head hr) hd (by simp [sizeLine] at hz ⊢; omega) (by simp [sizeLine] at hz ⊢; omega) (fun h' F' N' => h h' (n + 1) F' (by simpa using N'))
def IsDots (d : Str) : Prop := d = Str.ofString "" ∨ d = Str.ofString "..."
theorem IsDots.len {u : Str} (h : IsDots u) : u.length ≤ 3 := by
  rcases h with rfl | rfl <;> decide
theorem dots_item (p0 p1 p2 : Tok) (k : Int) (h0 : 0 ≤ k) (h3 : k < 3) : ∃ u t, [Value.str (Str.ofString "") p0, Value.str (Str.ofString "...") p1, Value.str (Str.ofString "...") p2][k.toNat]? = some (.str u t) ∧ IsDots u := by
  have : k = 0 ∨ k = 1 ∨ k = 2 := by omega
  rcases this with rfl | rfl | rfl
  · exact ⟨_, p0, rfl, .inl rfl⟩
  · exact ⟨_, p1, rfl, .inr rfl⟩
  · exact ⟨_, p2, rfl, .inr rfl⟩
theorem swap13 {h₀ h : Heap} {L : Addr} {a b c : Addr × Obj} {rest : List (Addr × Obj)} (N : News h₀ L h (a :: b :: c :: rest)) : News h₀ L h (c :: b :: a :: rest) := by
  intro p hp
  refine N p ?_
  simp only [List.mem_cons] at hp ⊢
  rcases hp with h | h | h | h <;> simp [h]
theorem drop3 {h₀ h : Heap} {L : Addr} {a b c : Addr × Obj} {rest : List (Addr × Obj)} (N : News h₀ L h (c :: b :: a :: rest)) : News h₀ L h (b :: c :: rest) := by
  intro p hp
  refine N p ?_
  simp only [List.mem_cons] at hp ⊢
  rcases hp with h | h | h <;> simp [h]
def NewWs (u v bare : Str) (xs : List Str) : Prop :=
  xs = [u ++ v] ∨ xs = [u ++ Str.ofString "d" ++ v] ∨ xs = [u ++ Str.ofString "d", v] ∨ xs = [bare] ∨ xs = [u, v] ∨ xs = [u] ∨ xs = []
theorem pick7 {h₀ h : Heap} {L a1 a2 a3 a4 a5 a6 a7 a8 Wd : Addr} {u v bare : Str} {t1 t2 t3 tu tv tb : Tok} {tail : List (Addr × Obj)} {k : Int} (h0 : 0 ≤ k) (h7 : k < 7)
    (N : News h₀ L h ((a8, listOf #[Value.ref a1, Value.ref a2, Value.ref a3, Value.ref a4, Value.ref a5, Value.ref a6, Value.ref a7] 0) :: (a7, listOf #[] 0) :: (a6, listOf #[Value.str u tu] 0) :: (a5, listOf #[Value.str u tu, Value.str v tv] 0) ::
      (a4, listOf #[Value.str bare tb] 0) :: (a3, listOf #[Value.str (u ++ Str.ofString "d") t3, Value.str v tv] 0) :: (a2, listOf #[Value.str (u ++ Str.ofString "d" ++ v) t2] 0) :: (a1, listOf #[Value.str (u ++ v) t1] 0) :: tail))
    (n1 : a1 ≠ Wd) (n2 : a2 ≠ Wd) (n3 : a3 ≠ Wd) (n4 : a4 ≠ Wd) (n5 : a5 ≠ Wd) (n6 : a6 ≠ Wd) (n7 : a7 ≠ Wd) :
    ∃ (a : Addr) (x : List (Str × Tok)), [Value.ref a1, Value.ref a2, Value.ref a3, Value.ref a4, Value.ref a5, Value.ref a6, Value.ref a7][k.toNat]? = some (.ref a) ∧ a ≠ Wd ∧ News h₀ L h ((a, listOf (strValues x).toArray 0) :: tail) ∧ NewWs u v bare (x.map (·.1)) := by
  have key : ∀ (a : Addr) (o : Obj), (a, o) ∈ ((a8, listOf #[Value.ref a1, Value.ref a2, Value.ref a3, Value.ref a4, Value.ref a5, Value.ref a6, Value.ref a7] 0) :: (a7, listOf #[] 0) :: (a6, listOf #[Value.str u tu] 0) :: (a5, listOf #[Value.str u tu, Value.str v tv] 0) ::
      (a4, listOf #[Value.str bare tb] 0) :: (a3, listOf #[Value.str (u ++ Str.ofString "d") t3, Value.str v tv] 0) :: (a2, listOf #[Value.str (u ++ Str.ofString "d" ++ v) t2] 0) :: (a1, listOf #[Value.str (u ++ v) t1] 0) :: tail) → News h₀ L h ((a, o) :: tail) := by
    intro a o hm p hp
    rcases List.mem_cons.mp hp with rfl | hp
    · exact N _ hm
    · exact N p (.tail _ (.tail _ (.tail _ (.tail _ (.tail _ (.tail _ (.tail _ (.tail _ hp))))))))
  have : k = 0 ∨ k = 1 ∨ k = 2 ∨ k = 3 ∨ k = 4 ∨ k = 5 ∨ k = 6 := by omega
  rcases this with rfl | rfl | rfl | rfl | rfl | rfl | rfl
  · exact ⟨a1, [(u ++ v, t1)], rfl, n1, key _ _ (.tail _ (.tail _ (.tail _ (.tail _ (.tail _ (.tail _ (.tail _ (.head _)))))))), .inl rfl⟩
  · exact ⟨a2, [(u ++ Str.ofString "d" ++ v, t2)], rfl, n2, key _ _ (.tail _ (.tail _ (.tail _ (.tail _ (.tail _ (.tail _ (.head _))))))), .inr (.inl rfl)⟩
  · exact ⟨a3, [(u ++ Str.ofString "d", t3), (v, tv)], rfl, n3, key _ _ (.tail _ (.tail _ (.tail _ (.tail _ (.tail _ (.head _)))))), .inr (.inr (.inl rfl))⟩
  · exact ⟨a4, [(bare, tb)], rfl, n4, key _ _ (.tail _ (.tail _ (.tail _ (.tail _ (.head _))))), .inr (.inr (.inr (.inl rfl)))⟩
  · exact ⟨a5, [(u, tu), (v, tv)], rfl, n5, key _ _ (.tail _ (.tail _ (.tail _ (.head _)))), .inr (.inr (.inr (.inr (.inl rfl))))⟩
  · exact ⟨a6, [(u, tu)], rfl, n6, key _ _ (.tail _ (.tail _ (.head _))), .inr (.inr (.inr (.inr (.inr (.inl rfl)))))⟩
  · exact ⟨a7, [], rfl, n7, key _ _ (.tail _ (.head _)), .inr (.inr (.inr (.inr (.inr (.inr rfl)))))⟩
set_option maxHeartbeats 4000000 in
theorem ro_tail {prog : Program} {w : World} {dp un : Nat} {fr : Option (List Env)} {gd : Option (List Code)} {s : Shared} {m : Str → Option Value} {f L P Wd : Addr} {cd : Value} {tn tu tv tb : Tok} {n : Int} {np nw : Nat}
    {h₀ : Heap} {lp lw : List (Str × Tok)} {u v bare : Str} {rest : List (Addr × Obj)} {Q : Flow → Shared → Prop}
    (F : Fr h₀ L s.heap m) (N : News h₀ L s.heap ((P, listOf (strValues lp).toArray np) :: (Wd, listOf (strValues lw).toArray nw) :: rest))
    (hPW : P ≠ Wd) (hrP : ∀ p ∈ rest, p.1 ≠ P ∧ p.1 ≠ Wd)
    (hn : m (Str.ofString "n") = some (.int n tn)) (hmu : m (Str.ofString "u") = some (.str u tu)) (hmv : m (Str.ofString "v") = some (.str v tv)) (hmb : m (Str.ofString "bare") = some (.str bare tb))
    (hp : m (Str.ofString "patterns") = some (.ref P)) (hw : m (Str.ofString "words") = some (.ref Wd)) (hu : u.length ≤ 5) (hv : v.length ≤ 5) (hlp : lp.length ≤ 1000) (hlw : lw.length ≤ 1000)
    (h : ∀ h' tk d td x np' nw', IsDots d → NewWs u v bare (x.map (·.1)) → Fr h₀ L h' m → News h₀ L h' ((P, listOf (strValues (lp ++ [(u ++ d ++ v, td)])).toArray np') :: (Wd, listOf (strValues (lw ++ x)).toArray nw') :: rest) → Q .next { s with heap := h', toks := tk }) :
    wpAny (model prog w) (Ar dp un fr gd) (execs ((nthFor 3 (bodyAt 6)).drop 3) (roEnv L f cd)) Q (fun _ _ => False) s := by
  have KX : Frag.In [] h₀ := fun _ _ e => nomatch e
  show wpAny _ _ (execs (_ :: _) (envOf _ ⟨_, _, _, _, _⟩ _ _ _)) _ _ _
  w_on
  iterate 27 walk1
  have b3 := fmod_pos (Int.fdiv n 9) 3 (by decide)
  rename News _ _ _ _ => N1
  rename Fr _ _ _ _ => F1
  obtain ⟨d, td, hd1, hd⟩ := dots_item s.toks (s.toks + 1) (s.toks + 1 + 1) (Int.fmod (Int.fdiv n 9) 3) b3.1 b3.2
  have hdl := hd.len
  refine' item_at (v := .str d td) (vs := [Value.str (Str.ofString "") s.toks, Value.str (Str.ofString "...") (s.toks + 1), Value.str (Str.ofString "...") (s.toks + 1 + 1)]) ?l9 ?x9 ?_ ?s9
  case s9 => with_unfolding_all rfl
  case l9 => exact ⟨_, News.get N1 (.head _), rfl, _, rfl⟩
  case x9 => rw [if_pos b3.1]; exact ⟨by omega, hd1⟩
  iterate 4 walk1
  have hdv : ((u ++ d) ++ v).length ≤ 13 := by rw [Str.length_append, Str.length_append]; omega
  have N2 : News _ _ _ _ := fun p hp => N1 p (.tail _ hp)
  have hrP2 : ∀ p ∈ (Wd, listOf (strValues lw).toArray nw) :: rest, p.1 ≠ P := by
    intro p hp
    rcases List.mem_cons.mp hp with rfl | hp
    · exact hPW.symm
    · exact (hrP p hp).1
  refine app_head F1 N2 hrP2 (by simp [sizeLine, strValues]; omega) ?_
  intro h2 F2 N3
  rw [strValues_snoc] at N3
  clear N1 N2 F1
  iterate 9 walk1
  iterate 66 walk1
  have b4 := fmod_pos (Int.fdiv n 27) 7 (by decide)
  rename News _ _ _ _ => N7
  rename Fr _ _ _ _ => F7
  obtain ⟨a, x, ha1, haW, N8, hnew⟩ := pick7 (Wd := Wd) b4.1 b4.2 N7 (by k_ne) (by k_ne) (by k_ne) (by k_ne) (by k_ne) (by k_ne) (by k_ne)
  refine' item_at (v := .ref a) ?l8 ?x8 ?_ ?s8
  case s8 => with_unfolding_all rfl
  case l8 => exact ⟨_, News.get N7 (.head _), rfl, _, rfl⟩
  case x8 => rw [if_pos b4.1]; exact ⟨by omega, ha1⟩
  walk1
  have hxl : x.length ≤ 2 := by
    have : x.length = (x.map (·.1)).length := (List.length_map ..).symm
    rw [this]
    rcases hnew with e | e | e | e | e | e | e <;> rw [e] <;> simp
  have N9 := swap13 N8
  refine ext_head (xs := strValues x) (n2 := 0) F7 N9 ?hr9 (by simp) (by simp [strValues]; omega) ?_
  case hr9 =>
    intro p hp
    rcases List.mem_cons.mp hp with rfl | hp
    · exact hPW
    · rcases List.mem_cons.mp hp with rfl | hp
      · exact haW
      · exact (hrP p hp).2
  intro h9 n9 F9 N10
  rw [show strValues lw ++ strValues x = strValues (lw ++ x) by simp [strValues]] at N10
  iterate 2 walk1
  exact h _ _ d _ x _ _ hd hnew F9 (drop3 N10)
set_option maxHeartbeats 4000000 in
theorem ro_turn {prog : Program} {w : World} {dp un : Nat} {fr : Option (List Env)} {gd : Option (List Code)} {s : Shared} {mg mb m : Str → Option Value} {f L P Wd Pa : Addr} {cd : Value} {tn p0 p1 p2 : Tok} {n : Int} {np nw nq : Nat}
    {h₀ : Heap} {lp lw : List (Str × Tok)} {rest : List (Addr × Obj)} {Q : Flow → Shared → Prop}
    (M : Md mg mb h₀) (F : Fr h₀ L s.heap m) (N : News h₀ L s.heap ((P, listOf (strValues lp).toArray np) :: (Wd, listOf (strValues lw).toArray nw) :: (Pa, listOf (strValues [(Str.ofString "", p0), (Str.ofString "a\\", p1), (Str.ofString "\"b c\"", p2)]).toArray nq) :: rest))
    (hn : m (Str.ofString "n") = some (.int n tn)) (hpa : m (Str.ofString "parts") = some (.ref Pa)) (hp : m (Str.ofString "patterns") = some (.ref P)) (hw : m (Str.ofString "words") = some (.ref Wd))
    (hPW : P ≠ Wd) (hPaP : Pa ≠ P) (hPaW : Pa ≠ Wd) (hrest : ∀ p ∈ rest, p.1 ≠ P ∧ p.1 ≠ Wd) (hlp : lp.length ≤ 1000) (hlw : lw.length ≤ 1000)
    (h : ∀ h' tk m' u v d td x np' nw', IsPt u → IsPt v → IsDots d → NewWs u v (bareOf (u ++ v)) (x.map (·.1)) → Fr h₀ L h' m' →
      News h₀ L h' ((P, listOf (strValues (lp ++ [(u ++ d ++ v, td)])).toArray np') :: (Wd, listOf (strValues (lw ++ x)).toArray nw') :: (Pa, listOf (strValues [(Str.ofString "", p0), (Str.ofString "a\\", p1), (Str.ofString "\"b c\"", p2)]).toArray nq) :: rest) →
      (m' (Str.ofString "parts") = m (Str.ofString "parts") ∧ m' (Str.ofString "patterns") = m (Str.ofString "patterns") ∧ m' (Str.ofString "words") = m (Str.ofString "words")) → Q .next { s with heap := h', toks := tk }) :
    wpAny (model prog w) (Ar dp un fr gd) (execs (nthFor 3 (bodyAt 6)) (roEnv L f cd)) Q (fun _ _ => False) s := by
  have KX : Frag.In [] h₀ := fun _ _ e => nomatch e
  show wpAny _ _ (execs (_ :: _) (envOf _ ⟨_, _, _, _, _⟩ _ _ _)) _ _ _
  have g3 : s.heap.IsList Pa (strValues [(Str.ofString "", p0), (Str.ofString "a\\", p1), (Str.ofString "\"b c\"", p2)]).toArray := ⟨_, (N (Pa, _) (.tail _ (.tail _ (.head _)))).1, rfl, _, rfl⟩
  w_on
  iterate 8 walk1
  have b1 := fmod_pos n 3 (by decide)
  obtain ⟨u, tu, hu1, hu⟩ := pt_item p0 p1 p2 (Int.fmod n 3) b1.1 b1.2
  refine' item_at (v := .str u tu) g3 ?x9 ?_ ?s9
  case s9 => with_unfolding_all rfl
  case x9 => rw [if_pos b1.1]; exact ⟨by omega, hu1⟩
  iterate 12 walk1
  have b2 := fmod_pos (Int.fdiv n 3) 3 (by decide)
  obtain ⟨v, tv, hv1, hv⟩ := pt_item p0 p1 p2 (Int.fmod (Int.fdiv n 3) 3) b2.1 b2.2
  refine' item_at (v := .str v tv) (vs := strValues [(Str.ofString "", p0), (Str.ofString "a\\", p1), (Str.ofString "\"b c\"", p2)]) ?l9 ?x9 ?_ ?s9
  case s9 => with_unfolding_all rfl
  case l9 => exact ⟨_, News.get (by assumption) (.tail _ (.tail _ (.head _))), rfl, _, rfl⟩
  case x9 => rw [if_pos b2.1]; exact ⟨by omega, hv1⟩
  have hul := hu.len
  have hvl := hv.len
  iterate 8 walk1
  refine wpAny_ListComp_walk (fun v => okSign ((strOf v).cps.getD 0 0)) (fun v y => y = v) (by decide) (by decide) rfl (by decide) rfl ?_
  iterate 4 walk1
  rename Fr _ _ _ _ => F2
  rename News _ _ _ _ => N2
  have huv : (u ++ v).length ≤ 10 := by rw [Str.length_append]; omega
  refine wpAny_pyIter_str fun o St hW hst => ?_
  refine ⟨_, _, _, _, _, _, rfl, hW (Ar dp un fr gd) rfl, by show (u ++ v).length ≤ sizeLine; simp [sizeLine]; omega, hst, ?_, ⟨?_, ?_⟩, ?_⟩
  · intro b hb
    rw [List.mem_singleton.mp hb, Heap.size_push]
    exact Nat.lt_succ_self _
  · rintro C i w' s₃ m₃ E' ⟨c, tc, hc, rfl⟩ hn3 hm3 hk htk
    refine wpAny_tests_one ?_
    walk1
    refine nm_comp hn3 hm3 ?_
    iterate 3 walk1
    exact ⟨by rw [Bool.not_not]; rfl, _, _, rfl, fun _ _ e => e⟩
  · intro C i w' s₃ m₃ E' hw' _ hn3 hm3 hk htk
    refine nm_comp hn3 hm3 ?_
    exact ⟨rfl, s₃.heap, s₃.toks, rfl, fun _ _ e => e⟩
  · intro D h' tk ys vs hD hlD hpD hlen hP hF hk
    obtain ⟨e1, e2⟩ := signs_vals hlen hP
    rw [e1] at hF
    obtain ⟨l', e3, e4⟩ := filter_strs (vs.map strTok) (u ++ v) e2
    have e5 := paired_eq hF
    rw [e3] at e5
    have hys : ys = (strValues l').toArray := by rw [← e5]
    subst hys
    have hold : ∀ b o, _ → h'.get? b = some o := fun b o (e : (_ : Heap).get? b = some o) => hk b o (by intro hb; rw [List.mem_singleton.mp hb] at e; exact absurd (Heap.lt_size e) (Nat.lt_irrefl _)) (Heap.get?_push_of_some _ e)
    have F3 := F2.keeps hold
    have N3 := N2.grown hold
    have hl'n : l'.length ≤ 10 := by
      have h1 : l'.length = (l'.map (·.1)).length := (List.length_map ..).symm
      rw [h1, e4, List.length_map]
      refine Nat.le_trans (List.length_filter_le _ _) ?_
      rw [Array.length_toList]
      exact huv
    have hl'b : ∀ p ∈ l', p.1.length ≤ 100 := by
      intro p hp
      have h1 : p.1 ∈ l'.map (·.1) := List.mem_map.mpr ⟨p, hp, rfl⟩
      rw [e4] at h1
      obtain ⟨c, _, hc⟩ := List.mem_map.mp h1
      rw [← hc]
      show 1 ≤ 100
      omega
    clear hk hold hP hF F2 N2
    walk1
    refine join_strs (xs := l') hlD hl'b (by omega) (by decide) ?_
    intro tb kb hbl
    rw [show Txt.join (Str.ofString "") (l'.map (·.1)) = bareOf (u ++ v) by rw [e4]; rfl]
    refine stN F3 N3 ?_
    intro h4 F4 N4
    refine' ro_tail (rest := (Pa, listOf (strValues [(Str.ofString "", p0), (Str.ofString "a\\", p1), (Str.ofString "\"b c\"", p2)]).toArray nq) :: rest) (u := u) (v := v) (bare := bareOf (u ++ v)) (lp := lp) (lw := lw) F4 N4 hPW ?hr ?a9 ?b9 ?c9 ?d9 ?e9 ?f9 hul hvl hlp hlw ?h9
    case hr =>
      intro p hp'
      rcases List.mem_cons.mp hp' with rfl | hp'
      · exact ⟨hPaP, hPaW⟩
      · exact hrest p hp'
    case a9 => exact hn
    case b9 => exact rfl
    case c9 => exact rfl
    case d9 => exact rfl
    case e9 => exact hp
    case f9 => exact hw
    case h9 =>
      intro h5 tk5 d td x np' nw' hd hx F5 N5
      exact h _ _ _ u v d td x _ _ hu hv hd hx F5 N5 ⟨rfl, rfl, rfl⟩
end Mine
end
section
open PySem PySem.W PyProof.Rows PySem.Calls
set_option Elab.async false
set_option maxRecDepth 100000
namespace Mine
local macro_rules | `(tactic| walk_at "eval Name") => `(tactic| ((with_reducible show wpAny _ _ (eval (Expr.Name (Str.ofString "len") _) _) _ _ _); k_dflt (refine nm_len (by assumption) (by assumption) ?_)))
local macro_rules | `(tactic| walk_at "eval Name") => `(tactic| ((with_reducible show wpAny _ _ (eval (Expr.Name (Str.ofString "ELLIPSIS_MARKER") _) _) _ _ _); k_dflt (refine nm_mark (by assumption) (by assumption) ?_); intro tmk))
local macro_rules | `(tactic| walk_at "eval Name") => `(tactic| (k_dflt (refine' ld ?k1 ?k2 ?_; (case k1 => k_asm); (case k2 => first | exact rfl | assumption); k_whole)))
local macro_rules | `(tactic| walk_at "loadName") => `(tactic| (k_dflt (refine' ldn ?k1 ?k2 ?_; (case k1 => k_asm); (case k2 => first | exact rfl | assumption); k_whole)))


/-- a text that parse_http_list hands on as it is -/
def wordOk (x : Str) : Bool :=
  !x.cps.contains 44 && decide ((x.cps.toList.foldl pstep pinit).res = []) && decide ((x.cps.toList.foldl pstep pinit).part = x) && !(x.cps.toList.foldl pstep pinit).esc && !(x.cps.toList.foldl pstep pinit).quo &&
    decide (Txt.strip x = x) && PyData.strOk x && decide (x.length ≤ 100)
def patOk (x : Str) : Bool := wordOk x && decide ((Txt.split x (Str.ofString "...")).length ≤ 2) && (Txt.split x (Str.ofString "...")).all fun y => !y.cps.contains 46
theorem pat_ok {u v d : Str} (hu : IsPt u) (hv : IsPt v) (hd : IsDots d) : patOk (u ++ d ++ v) = true := by
  rcases hu with rfl | rfl | rfl <;> rcases hv with rfl | rfl | rfl <;> rcases hd with rfl | rfl <;> decide +kernel
theorem word_ok {u v : Str} {xs : List Str} (hu : IsPt u) (hv : IsPt v) (h : NewWs u v (bareOf (u ++ v)) xs) : ∀ x ∈ xs, wordOk x = true := by
  rcases hu with rfl | rfl | rfl <;> rcases hv with rfl | rfl | rfl <;> rcases h with rfl | rfl | rfl | rfl | rfl | rfl | rfl <;> decide +kernel
theorem pats_end : ∀ x ∈ [Str.ofString "a\\...a\\", Str.ofString "..."], patOk x = true := by decide +kernel
theorem words_end : ∀ x ∈ [Str.ofString "a\\", Str.ofString "a\\", Str.ofString "d"], wordOk x = true := by decide +kernel
end Mine
end
section
open PySem PySem.W PyProof.Rows PySem.Calls
set_option Elab.async false
set_option maxRecDepth 100000
namespace Mine
local macro_rules | `(tactic| walk_at "eval Name") => `(tactic| ((with_reducible show wpAny _ _ (eval (Expr.Name (Str.ofString "len") _) _) _ _ _); k_dflt (refine nm_len (by assumption) (by assumption) ?_)))
local macro_rules | `(tactic| walk_at "eval Name") => `(tactic| ((with_reducible show wpAny _ _ (eval (Expr.Name (Str.ofString "ELLIPSIS_MARKER") _) _) _ _ _); k_dflt (refine nm_mark (by assumption) (by assumption) ?_); intro tmk))
local macro_rules | `(tactic| walk_at "eval Name") => `(tactic| (k_dflt (refine' ld ?k1 ?k2 ?_; (case k1 => k_asm); (case k2 => first | exact rfl | assumption); k_whole)))
local macro_rules | `(tactic| walk_at "loadName") => `(tactic| (k_dflt (refine' ldn ?k1 ?k2 ?_; (case k1 => k_asm); (case k2 => first | exact rfl | assumption); k_whole)))



theorem strList_append {h : Heap} {A : Addr} {lp l2 : List (Str × Tok)} {vs : List Value} (hg : h.get? A = some { cls := .type "list", data := .seq (strValues lp ++ vs).toArray }) (e : vs = strValues l2) : h.IsList A (strValues (lp ++ l2)).toArray := by
  subst e
  rw [show strValues lp ++ strValues l2 = strValues (lp ++ l2) by simp [strValues]] at hg
  exact ⟨_, hg, rfl, _, rfl⟩
set_option maxHeartbeats 4000000 in
theorem ro_ret {prog : Program} {w : World} {dp un : Nat} {fr : Option (List Env)} {gd : Option (List Code)} {s : Shared} {m : Str → Option Value} {f L P Wd : Addr} {cd : Value} {np nw : Nat}
    {h₀ : Heap} {lp lw : List (Str × Tok)} {rest : List (Addr × Obj)} {Q : Flow → Shared → Prop}
    (F : Fr h₀ L s.heap m) (N : News h₀ L s.heap ((P, listOf (strValues lp).toArray np) :: (Wd, listOf (strValues lw).toArray nw) :: rest))
    (hp : m (Str.ofString "patterns") = some (.ref P)) (hw : m (Str.ofString "words") = some (.ref Wd)) (hlp : lp.length ≤ 1000) (hlw : lw.length ≤ 1000)
    (h : ∀ T A B t1 t2 t3 t4 t5 h' tk, h₀.StaysIn h' → IsTup h' T #[.ref A, .ref B] → h'.IsList A (strValues (lp ++ [(Str.ofString "a\\...a\\", t1), (Str.ofString "...", t2)])).toArray → h'.IsList B (strValues (lw ++ [(Str.ofString "a\\", t3), (Str.ofString "a\\", t4), (Str.ofString "d", t5)])).toArray → h₀.get? A = none → h₀.get? B = none →
      Q (.ret (.ref T)) { s with heap := h', toks := tk }) :
    wpAny (model prog w) (Ar dp un fr gd) (execs ((bodyAt 6).drop 4) (roEnv L f cd)) Q (fun _ _ => False) s := by
  have KX : Frag.In [] h₀ := fun _ _ e => nomatch e
  show wpAny _ _ (execs (_ :: _) (envOf _ ⟨_, _, _, _, _⟩ _ _ _)) _ _ _
  w_on
  iterate 12 walk1
  refine newList_K F N ?_ (by simp [sizeLine])
  intro D h1 F1 N1 _
  refine add_lists (vs := strValues lp) (ws := [Value.str (Str.ofString "a\\...a\\") s.toks, Value.str (Str.ofString "...") (s.toks + 1)]) F1 N1 ⟨_, (N1 (P, listOf (strValues lp).toArray np) (.tail _ (.head _))).1, rfl, _, rfl⟩ ⟨_, (N1 _ (.head _)).1, rfl, _, rfl⟩ ?_ (by simp [sizeLine, strValues]; omega)
  intro h2 F2 N2
  iterate 11 walk1
  refine newList_K F2 N2 ?_ (by simp [sizeLine])
  intro D3 h3 F3 N3 _
  refine add_lists (vs := strValues lw) F3 N3 ⟨_, (N3 (Wd, listOf (strValues lw).toArray nw) (.tail _ (.tail _ (.tail _ (.tail _ (.head _)))))).1, rfl, _, rfl⟩ ⟨_, (N3 _ (.head _)).1, rfl, _, rfl⟩ ?_ (by simp [sizeLine, strValues]; omega)
  intro h4 F4 N4
  walk1
  refine newTuple_N F4 N4 ?_ (by simp [sizeLine])
  intro h5 F5 N5
  exact h _ _ _ _ _ _ _ _ _ _ F5.keep ⟨_, (N5 _ (.head _)).1, rfl, _, rfl⟩ (strList_append (N5 _ (.tail _ (.tail _ (.tail _ (.head _))))).1 rfl) (strList_append (N5 _ (.tail _ (.head _))).1 rfl) (N5 _ (.tail _ (.tail _ (.tail _ (.head _))))).2.2 (N5 _ (.tail _ (.head _))).2.2

theorem swap12 {h₀ h : Heap} {L : Addr} {a b : Addr × Obj} {rest : List (Addr × Obj)} (N : News h₀ L h (a :: b :: rest)) : News h₀ L h (b :: a :: rest) := by
  intro p hp
  refine N p ?_
  simp only [List.mem_cons] at hp ⊢
  rcases hp with h | h | h <;> simp [h]
def PtsIn (p0 p1 p2 : Tok) : List (Str × Tok) := [(Str.ofString "", p0), (Str.ofString "a\\", p1), (Str.ofString "\"b c\"", p2)]
def RoJ (P Wd Pa : Addr) (p0 p1 p2 : Tok) (nq i : Nat) (m : Str → Option Value) (news : List (Addr × Obj)) : Prop :=
  m (Str.ofString "parts") = some (.ref Pa) ∧ m (Str.ofString "patterns") = some (.ref P) ∧ m (Str.ofString "words") = some (.ref Wd) ∧
  ∃ (lp lw : List (Str × Tok)) (np nw : Nat), news = [(P, listOf (strValues lp).toArray np), (Wd, listOf (strValues lw).toArray nw), (Pa, listOf (strValues (PtsIn p0 p1 p2)).toArray nq)] ∧
    (∀ p ∈ lp, patOk p.1 = true) ∧ (∀ p ∈ lw, wordOk p.1 = true) ∧ lp.length = i ∧ lw.length ≤ 2 * i
theorem newWs_len {u v b : Str} {x : List (Str × Tok)} (h : NewWs u v b (x.map (·.1))) : x.length ≤ 2 := by
  have : x.length = (x.map (·.1)).length := (List.length_map ..).symm
  rw [this]
  rcases h with e | e | e | e | e | e | e <;> rw [e] <;> simp
set_option maxHeartbeats 4000000 in
theorem ro_loop {prog : Program} {w : World} {dp un : Nat} {fr : Option (List Env)} {gd : Option (List Code)} {s : Shared} {mg mb m : Str → Option Value} {f L P Wd Pa sl : Addr} {cd : Value} {p0 p1 p2 : Tok} {nq : Nat} {vs : List Value} {ns : List Int}
    {h₀ : Heap} {Q : Flow → Shared → Prop}
    (M : Md mg mb h₀) (F : Fr h₀ L s.heap m) (N : News h₀ L s.heap [(P, listOf (strValues []).toArray 0), (Wd, listOf (strValues []).toArray 0), (Pa, listOf (strValues (PtsIn p0 p1 p2)).toArray nq)])
    (hsl : h₀.IsList sl vs.toArray) (hi : IntsAre vs ns) (hn : ns.length ≤ 100) (hms : m (Str.ofString "script") = some (.ref sl))
    (hpa : m (Str.ofString "parts") = some (.ref Pa)) (hp : m (Str.ofString "patterns") = some (.ref P)) (hw : m (Str.ofString "words") = some (.ref Wd))
    (hPW : P ≠ Wd) (hPaP : Pa ≠ P) (hPaW : Pa ≠ Wd)
    (h : ∀ T A B lp lw h' tk, h₀.StaysIn h' → IsTup h' T #[.ref A, .ref B] → h'.IsList A (strValues lp).toArray → h'.IsList B (strValues lw).toArray → (∀ p ∈ lp, patOk p.1 = true) → (∀ p ∈ lw, wordOk p.1 = true) → lp.length ≤ ns.length + 2 → lw.length ≤ 2 * ns.length + 3 → h₀.get? A = none → h₀.get? B = none →
      Q (.ret (.ref T)) { s with heap := h', toks := tk }) :
    wpAny (model prog w) (Ar dp un fr gd) (execs ((bodyAt 6).drop 3) (roEnv L f cd)) Q (fun _ _ => False) s := by
  have KX : Frag.In [] h₀ := fun _ _ e => nomatch e
  show wpAny _ _ (execs (_ :: _) (envOf _ ⟨_, _, _, _, _⟩ _ _ _)) _ _ _
  w_on
  walk1
  refine For_invV h₀ (by rfl) (by rfl) ?_
  walk1
  obtain ⟨ol0, hol0, _⟩ := id hsl
  have hsll : sl < L := Nat.lt_of_lt_of_le (Heap.lt_size hol0) F.above
  refine iter_list (RoJ P Wd Pa p0 p1 p2 nq) rfl (hsl.at fun o e => F.keep _ o e) (Nat.ne_of_gt hsll) F N ⟨hpa, hp, hw, [], [], 0, 0, rfl, (fun _ hp => nomatch hp), (fun _ hp => nomatch hp), rfl, Nat.zero_le _⟩ ?_ ?_
  · rintro i v m₁ news₁ h' tk own I hv hown hI hnI ⟨hpa1, hp1, hw1, lp, lw, np, nw, rfl, hg1, hg2, hl1, hl2⟩ F1 N1
    have hil : i < ns.length := by
      have := (List.getElem?_eq_some_iff.mp hv).1
      rw [hi.length] at this
      exact this
    obtain ⟨t, hx⟩ := hi.get i ns[i] (by simp [hil])
    rw [hv] at hx
    obtain rfl := Option.some.inj hx
    refine ro_turn (rest := own) (lp := lp) (lw := lw) (n := ns[i]) (tn := t) M F1 N1 rfl hpa1 hp1 hw1 hPW hPaP hPaW ?_ (by omega) (by omega) ?_
    · intro p hp'
      have h1 := hnI (P, listOf (strValues lp).toArray np) (by simp)
      have h2 := hnI (Wd, listOf (strValues lw).toArray nw) (by simp)
      rcases hown p hp' with e | e
      · exact ⟨fun q => h1 (q.symm.trans e), fun q => h2 (q.symm.trans e)⟩
      · have k1 := (N1 (P, listOf (strValues lp).toArray np) (by simp)).2.2
        have k2 := (N1 (Wd, listOf (strValues lw).toArray nw) (by simp)).2.2
        constructor
        · intro q; rw [show sl = P from e.symm.trans q] at hol0; rw [hol0] at k1; cases k1
        · intro q; rw [show sl = Wd from e.symm.trans q] at hol0; rw [hol0] at k2; cases k2
    · intro h2 tk2 m2 u v d td x np' nw' hu hv' hd hx' F2 N2 hm2
      show LpEnd _ _ _ _ _ _ _
      have hxl := newWs_len hx'
      refine LpEnd.intro (news' := [(P, listOf (strValues (lp ++ [(u ++ d ++ v, td)])).toArray np'), (Wd, listOf (strValues (lw ++ x)).toArray nw'), (Pa, listOf (strValues (PtsIn p0 p1 p2)).toArray nq)]) F2 N2 ?_ ⟨hm2.1.trans hpa1, hm2.2.1.trans hp1, hm2.2.2.trans hw1, _, _, _, _, rfl, ?_, ?_, ?_, ?_⟩
      · intro p hp'
        simp only [List.mem_cons, List.not_mem_nil, or_false] at hp'
        rcases hp' with rfl | rfl | rfl
        · exact hnI (P, listOf (strValues lp).toArray np) (by simp)
        · exact hnI (Wd, listOf (strValues lw).toArray nw) (by simp)
        · exact hnI (Pa, listOf (strValues (PtsIn p0 p1 p2)).toArray nq) (by simp)
      · intro p hp'
        rcases List.mem_append.mp hp' with hp' | hp'
        · exact hg1 p hp'
        · rw [List.mem_singleton.mp hp']; exact pat_ok hu hv' hd
      · intro p hp'
        rcases List.mem_append.mp hp' with hp' | hp'
        · exact hg2 p hp'
        · exact word_ok hu hv' hx' p.1 (List.mem_map.mpr ⟨p, hp', rfl⟩)
      · simp [hl1]
      · simp; omega
  · rintro m₁ news₁ h' tk ⟨hpa1, hp1, hw1, lp, lw, np, nw, rfl, hg1, hg2, hl1, hl2⟩ F1 N1
    have hvn := hi.length
    refine ro_ret (lp := lp) (lw := lw) F1 N1 hp1 hw1 (by omega) (by omega) ?_
    intro T A B t1 t2 t3 t4 t5 h2 tk2 hk hT hA hB hfA hfB
    refine h T A B _ _ h2 tk2 hk hT hA hB ?_ ?_ (by simp; omega) (by simp; omega) hfA hfB
    · intro p hp'
      rcases List.mem_append.mp hp' with hp' | hp'
      · exact hg1 p hp'
      · simp only [List.mem_cons, List.not_mem_nil, or_false] at hp'
        rcases hp' with rfl | rfl <;> exact pats_end _ (by simp)
    · intro p hp'
      rcases List.mem_append.mp hp' with hp' | hp'
      · exact hg2 p hp'
      · simp only [List.mem_cons, List.not_mem_nil, or_false] at hp'
        rcases hp' with rfl | rfl | rfl <;> exact words_end _ (by simp)
set_option maxHeartbeats 4000000 in
theorem ro_call {prog : Program} {w : World} {dp un : Nat} {fr : Option (List Env)} {gd : Option (List Code)} {s : Shared} {mg mb : Str → Option Value} {f sl : Addr} {vs : List Value} {ns : List Int} {Q E : Value → Shared → Prop}
   (M : Md mg mb s.heap) (hf : FnIn mg s.heap 6 f) (hroom : dp < recursionLimit) (hsl : s.heap.IsList sl vs.toArray) (hi : IntsAre vs ns) (hn : ns.length ≤ 100)
   (h : ∀ T A B lp lw h' tk, s.heap.StaysIn h' → IsTup h' T #[.ref A, .ref B] → h'.IsList A (strValues lp).toArray → h'.IsList B (strValues lw).toArray → (∀ p ∈ lp, patOk p.1 = true) → (∀ p ∈ lw, wordOk p.1 = true) → lp.length ≤ ns.length + 2 → lw.length ≤ 2 * ns.length + 3 → s.heap.get? A = none → s.heap.get? B = none →
      Q (.ref T) { s with heap := h', toks := tk }) :
   wpAny (model prog w) (Ar dp un fr gd) (call (.ref f) [.ref sl]) Q E s := by
  refine enter (i := 6) (binds := [(Str.ofString "script", .ref sl)]) rfl M hf hroom (fun _ _ _ => rfl) (locs rfl) (fun L h₁ cd F => ?_)
  have N : News s.heap L h₁ [] := News.nil
  have KX : Frag.In [] s.heap := fun _ _ e => nomatch e
  w_on
  iterate 26 walk1
  refine' ro_loop (ns := ns) (vs := vs) (p0 := _) (p1 := _) (p2 := _) (nq := 0) M ?F9 ?N9 hsl hi hn ?a9 ?b9 ?c9 ?d9 ?e9 ?f9 ?g9 ?h9
  case F9 => assumption
  case N9 => exact swap12 (by assumption)
  case a9 => exact rfl
  case b9 => exact rfl
  case c9 => exact rfl
  case d9 => exact rfl
  case e9 => k_ne
  case f9 => k_ne
  case g9 => k_ne
  case h9 =>
    intro T A B lp lw h' tk hk hT hA hB h1 h2 h3 h4 h5 h6
    exact h T A B lp lw h' tk hk hT hA hB h1 h2 h3 h4 h5 h6
end Mine
end
section
open PySem PySem.W PyProof.Rows PySem.Calls
set_option Elab.async false
set_option maxRecDepth 100000
namespace Mine
theorem pstep_res (st : PSt) (r : List Str) (c : Nat) : pstep { st with res := r ++ st.res } c = { pstep st c with res := r ++ (pstep st c).res } := by
  obtain ⟨res, part, esc, quo⟩ := st
  unfold pstep
  dsimp only
  cases esc <;> cases quo <;> simp only [Bool.false_eq_true, if_false, if_true]
  · split
    · simp
    · split <;> rfl
  · split
    · rfl
    · split <;> rfl
theorem fold_res : ∀ (cs : List Nat) (st : PSt) (r : List Str), cs.foldl pstep { st with res := r ++ st.res } = { cs.foldl pstep st with res := r ++ (cs.foldl pstep st).res }
  | [], _, _ => rfl
  | c :: cs, st, r => by
    rw [List.foldl_cons, List.foldl_cons, pstep_res, fold_res cs (pstep st c) r]
theorem word_fold {x : Str} (h : wordOk x = true) (r : List Str) : x.cps.toList.foldl pstep ⟨r, Str.ofString "", false, false⟩ = ⟨r, x, false, false⟩ := by
  unfold wordOk at h
  simp only [Bool.and_eq_true, decide_eq_true_eq, Bool.not_eq_true'] at h
  obtain ⟨⟨⟨⟨⟨⟨⟨_, h1⟩, h2⟩, h3⟩, h4⟩, _⟩, _⟩, _⟩ := h
  have := fold_res x.cps.toList pinit r
  rw [show ({ pinit with res := r ++ pinit.res } : PSt) = ⟨r, Str.ofString "", false, false⟩ by simp [pinit]] at this
  rw [this, h1, List.append_nil]
  revert h2 h3 h4
  generalize x.cps.toList.foldl pstep pinit = st
  obtain ⟨a, b, c, d⟩ := st
  rintro rfl rfl rfl
  rfl
theorem comma_step (r : List Str) (p : Str) : pstep ⟨r, p, false, false⟩ 44 = ⟨r ++ [p], Str.ofString "", false, false⟩ := by
  unfold pstep
  simp only [Bool.false_eq_true, if_false]
  rw [if_pos (by decide)]
theorem join_cons (x : Str) (xs : List Str) (y : Str) : (Str.join (Str.ofString ",") (x :: (xs ++ [y]))).cps.toList = x.cps.toList ++ 44 :: (Str.join (Str.ofString ",") (xs ++ [y])).cps.toList := by
  cases xs with
  | nil =>
    show (x ++ Str.ofString "," ++ y).cps.toList = _
    rw [Str.cps_append, Str.cps_append, Array.toList_append, Array.toList_append, List.append_assoc]
    rfl
  | cons z zs =>
    show (x ++ Str.ofString "," ++ Str.join (Str.ofString ",") (z :: (zs ++ [y]))).cps.toList = _
    rw [Str.cps_append, Str.cps_append, Array.toList_append, Array.toList_append, List.append_assoc]
    rfl
theorem slash_ok : wordOk (Str.ofString "/") = true := by decide +kernel
theorem join_fold : ∀ (xs : List Str) (r : List Str), (∀ x ∈ xs, wordOk x = true) → (Str.join (Str.ofString ",") (xs ++ [Str.ofString "/"])).cps.toList.foldl pstep ⟨r, Str.ofString "", false, false⟩ = ⟨r ++ xs, Str.ofString "/", false, false⟩
  | [], r, _ => by
    rw [List.append_nil]
    exact word_fold slash_ok r
  | x :: xs, r, h => by
    rw [List.cons_append, join_cons, List.foldl_append, List.foldl_cons, word_fold (h x (.head _)), comma_step, join_fold xs (r ++ [x]) fun y hy => h y (.tail _ hy)]
    simp
theorem wordOk_strip {x : Str} (h : wordOk x = true) : Txt.strip x = x := by
  unfold wordOk at h
  simp only [Bool.and_eq_true, decide_eq_true_eq, Bool.not_eq_true'] at h
  exact h.1.1.2
theorem parse_join (xs : List Str) (h : ∀ x ∈ xs, wordOk x = true) : (pend ((Txt.join (Str.ofString ",") (xs ++ [Str.ofString "/"])).cps.toList.foldl pstep pinit)).map Txt.strip = xs ++ [Str.ofString "/"] := by
  rw [show Txt.join (Str.ofString ",") (xs ++ [Str.ofString "/"]) = Str.join (Str.ofString ",") (xs ++ [Str.ofString "/"]) from StrLaws.glued_eq_join _ _]
  rw [show pinit = ⟨[], Str.ofString "", false, false⟩ from rfl, join_fold xs [] h]
  unfold pend
  dsimp only
  rw [if_neg (by decide), List.nil_append]
  refine (List.map_congr_left (g := id) fun x hx => ?_).trans (List.map_id _)
  rcases List.mem_append.mp hx with hx | hx
  · exact wordOk_strip (h x hx)
  · rw [List.mem_singleton.mp hx]; exact wordOk_strip slash_ok
end Mine
end
section
open PySem PySem.W PyProof.Rows PySem.Calls
set_option Elab.async false
set_option maxRecDepth 100000
namespace Mine
/-- a pattern of signs (some) and gaps (none) matches a text -/
def Mt : List (Option Nat) → List Nat → Prop
  | [], g => g = []
  | some c :: t, g => ∃ g', g = c :: g' ∧ Mt t g'
  | none :: t, g => ∃ a g', g = a ++ g' ∧ Mt t g'
theorem Mt_append : ∀ (a b : List (Option Nat)) (g : List Nat), Mt (a ++ b) g ↔ ∃ g1 g2, g = g1 ++ g2 ∧ Mt a g1 ∧ Mt b g2
  | [], b, g => ⟨fun h => ⟨[], g, rfl, rfl, h⟩, fun ⟨g1, g2, e, h1, h2⟩ => by cases h1; rw [e]; exact h2⟩
  | some c :: a, b, g => by
    constructor
    · rintro ⟨g', rfl, h⟩
      obtain ⟨g1, g2, rfl, h1, h2⟩ := (Mt_append a b g').mp h
      exact ⟨c :: g1, g2, rfl, ⟨g1, rfl, h1⟩, h2⟩
    · rintro ⟨g1, g2, rfl, ⟨g', rfl, h1⟩, h2⟩
      exact ⟨g' ++ g2, rfl, (Mt_append a b _).mpr ⟨g', g2, rfl, h1, h2⟩⟩
  | none :: a, b, g => by
    constructor
    · rintro ⟨x, g', rfl, h⟩
      obtain ⟨g1, g2, rfl, h1, h2⟩ := (Mt_append a b g').mp h
      exact ⟨x ++ g1, g2, by simp, ⟨x, g1, rfl, h1⟩, h2⟩
    · rintro ⟨g1, g2, rfl, ⟨x, g', rfl, h1⟩, h2⟩
      exact ⟨x, g' ++ g2, by simp, (Mt_append a b _).mpr ⟨g', g2, rfl, h1, h2⟩⟩
theorem Mt_chars : ∀ (cs g : List Nat), Mt (cs.map some) g ↔ g = cs
  | [], _ => Iff.rfl
  | c :: cs, g => by
    constructor
    · rintro ⟨g', rfl, h⟩; rw [(Mt_chars cs g').mp h]
    · rintro rfl; exact ⟨cs, rfl, (Mt_chars cs cs).mpr rfl⟩
/-- gaps around texts -/
def Wt (ws : List (List Nat)) : List (Option Nat) := (ws.flatMap fun s => none :: s.map some) ++ [none]
theorem Wt_nil : Wt [] = [none] := rfl
theorem Wt_cons (v : List Nat) (ws : List (List Nat)) : Wt (v :: ws) = none :: (v.map some ++ Wt ws) := by simp [Wt]
theorem Mt_gap_more {t : List (Option Nat)} {g : List Nat} (x : List Nat) (h : Mt (none :: t) g) : Mt (none :: t) (x ++ g) := by
  obtain ⟨a, g', rfl, h⟩ := h
  exact ⟨x ++ a, g', by simp, h⟩
theorem Wt_head (ws : List (List Nat)) : ∃ t, Wt ws = none :: t := by
  cases ws with
  | nil => exact ⟨[], rfl⟩
  | cons v ws => exact ⟨_, Wt_cons v ws⟩
theorem Wt_front {ws : List (List Nat)} {g : List Nat} (x : List Nat) (h : Mt (Wt ws) g) : Mt (Wt ws) (x ++ g) := by
  obtain ⟨t, e⟩ := Wt_head ws
  rw [e] at h ⊢
  exact Mt_gap_more x h
theorem Mt_none (g : List Nat) : Mt [none] g := ⟨g, [], by simp, rfl⟩
theorem Wt_back {ws : List (List Nat)} {g : List Nat} (x : List Nat) (h : Mt (Wt ws) g) : Mt (Wt ws) (g ++ x) := by
  unfold Wt at h ⊢
  obtain ⟨g1, g2, rfl, h1, _⟩ := (Mt_append _ _ _).mp h
  exact (Mt_append _ _ _).mpr ⟨g1, g2 ++ x, by simp, h1, Mt_none _⟩
abbrev tl (x : Str) : List Nat := x.cps.toList
theorem occ1_cases (x y : Str) (lo hi : Nat) :
    (Builtin.Str.occurrences x y lo hi 1 = [] ∧ ∀ i, lo ≤ i → ¬ StrLaws.At x y hi i) ∨
    ∃ i r, Builtin.Str.occurrences x y lo hi 1 = i :: r ∧ lo ≤ i ∧ StrLaws.At x y hi i ∧ ∀ k, lo ≤ k → k < i → ¬ StrLaws.At x y hi k := by
  rw [StrLaws.occ_eq]
  rcases StrLaws.occ_first x y hi 1 (Nat.le_refl _) (List.range' lo (hi + 1 - lo)) lo (fun i hi => by have := List.mem_range'_1.mp hi; omega) with ⟨h0, hn⟩ | ⟨pre, a, post, e, h0, ha, hn⟩
  · refine .inl ⟨by rw [h0], fun i hlo hi' => ?_⟩
    exact hn i (by have := hi'.1; rw [List.mem_range'_1]; omega) hi'
  · have hs := StrLaws.range'_split_from e
    generalize (forIn (List.range' lo (hi + 1 - lo)) ((#[] : Array Nat), lo) (StrLaws.occBody x y hi 1)).run.fst = arr at h0 ⊢
    have h1 : arr.toList[0]? = some a := by simpa using h0
    cases hL : arr.toList with
    | nil => rw [hL] at h1; cases h1
    | cons b t =>
      rw [hL] at h1
      simp at h1
      subst h1
      exact .inr ⟨b, t, rfl, hs.1, ha, fun k hk0 hk => hn k (hs.2 k hk0 hk)⟩
theorem At_iff (x y : Str) (hi i : Nat) : StrLaws.At x y hi i ↔ i + (tl y).length ≤ hi ∧ ((tl x).drop i).take (tl y).length = tl y := by
  unfold StrLaws.At
  rw [StrLaws.subAt_eq, beq_iff_eq]
  have : y.length = (tl y).length := by simp [tl, Str.length]
  rw [this]
theorem len_tl (x : Str) : (tl x).length = x.length := by simp [tl, Str.length]
/-- the piece of a text between two places -/
def pc (g : List Nat) (p e : Nat) : List Nat := (g.drop p).take (e - p)
theorem pc_split {g : List Nat} {p k e : Nat} (h1 : p ≤ k) (h2 : k ≤ e) : pc g p e = pc g p k ++ pc g k e := by
  unfold pc
  have : e - p = (k - p) + (e - k) := by omega
  rw [this, List.take_add, List.drop_drop]
  congr 3
  omega
theorem pc_len {g : List Nat} {p e : Nat} (h2 : e ≤ g.length) : (pc g p e).length = e - p := by
  unfold pc
  rw [List.length_take, List.length_drop]
  omega
theorem At_pc {x y : Str} {hi i : Nat} (h : StrLaws.At x y hi i) : pc (tl x) i (i + (tl y).length) = tl y := by
  have := (At_iff x y hi i).mp h
  unfold pc
  rw [Nat.add_sub_cancel_left]
  exact this.2
theorem scan_iff (g : Str) (e : Nat) (he : e ≤ g.length) : ∀ (ws : List Str) (p : Nat), p ≤ e → ((scanR g e p ws).isSome = true ↔ Mt (Wt (ws.map tl)) (pc (tl g) p e))
  | [], p, _ => by
    simp only [scanR, Option.isSome_some, List.map_nil, Wt_nil, true_iff]
    exact Mt_none _
  | v :: ws, p, hp => by
    have hgl : e ≤ (tl g).length := by rw [len_tl]; exact he
    rw [scanR_cons, List.map_cons, Wt_cons]
    rcases occ1_cases g v p e with ⟨h0, hn⟩ | ⟨k, r, h0, hk, hat, hmin⟩
    · rw [h0]
      simp only [Option.isSome_none, Bool.false_eq_true, false_iff]
      rintro ⟨a, g', e1, h⟩
      obtain ⟨g1, g2, rfl, h1, h2⟩ := (Mt_append _ _ _).mp h
      rw [Mt_chars] at h1
      subst h1
      refine hn (p + a.length) (by omega) ((At_iff _ _ _ _).mpr ?_)
      have hl := congrArg List.length e1
      rw [pc_len hgl] at hl
      simp only [List.length_append] at hl
      refine ⟨by omega, ?_⟩
      have e2 : pc (tl g) (p + a.length) e = tl v ++ g2 := by
        have := pc_split (g := tl g) (p := p) (k := p + a.length) (e := e) (by omega) (by omega)
        rw [e1] at this
        exact (List.append_inj_right this (by rw [pc_len (by omega)]; omega)).symm
      have : ((tl g).drop (p + a.length)).take (tl v).length = (pc (tl g) (p + a.length) e).take (tl v).length := by
        unfold pc
        rw [List.take_take]
        congr 1
        omega
      rw [this, e2, List.take_left']
      rfl
    · rw [h0]
      dsimp only
      have hat' := (At_iff _ _ _ _).mp hat
      have hvl : v.length = (tl v).length := (len_tl v).symm
      rw [hvl, scan_iff g e he ws (k + (tl v).length) hat'.1]
      constructor
      · intro h
        refine ⟨pc (tl g) p k, pc (tl g) k e, pc_split hk (by omega), ?_⟩
        rw [pc_split (g := tl g) (p := k) (k := k + (tl v).length) (e := e) (by omega) hat'.1, At_pc hat]
        exact (Mt_append _ _ _).mpr ⟨tl v, _, rfl, (Mt_chars _ _).mpr rfl, h⟩
      · rintro ⟨a, g', e1, h⟩
        obtain ⟨g1, g2, rfl, h1, h2⟩ := (Mt_append _ _ _).mp h
        rw [Mt_chars] at h1
        subst h1
        have hl := congrArg List.length e1
        rw [pc_len hgl] at hl
        simp only [List.length_append] at hl
        have e2 : pc (tl g) (p + a.length) e = tl v ++ g2 := by
          have := pc_split (g := tl g) (p := p) (k := p + a.length) (e := e) (by omega) (by omega)
          rw [e1] at this
          exact (List.append_inj_right this (by rw [pc_len (by omega)]; omega)).symm
        have hat2 : StrLaws.At g v e (p + a.length) := by
          refine (At_iff _ _ _ _).mpr ⟨by omega, ?_⟩
          have : ((tl g).drop (p + a.length)).take (tl v).length = (pc (tl g) (p + a.length) e).take (tl v).length := by
            unfold pc
            rw [List.take_take]
            congr 1
            omega
          rw [this, e2, List.take_left']
          rfl
        have hka : k ≤ p + a.length := by
          refine Nat.not_lt.mp fun hlt => hmin _ (by omega) hlt hat2
        have e3 : pc (tl g) (p + a.length + (tl v).length) e = g2 := by
          have := pc_split (g := tl g) (p := p + a.length) (k := p + a.length + (tl v).length) (e := e) (by omega) (by omega)
          rw [e2, At_pc hat2] at this
          exact (List.append_cancel_left this).symm
        rw [pc_split (g := tl g) (p := k + (tl v).length) (k := p + a.length + (tl v).length) (e := e) (by omega) (by omega), e3]
        exact Wt_front _ h2
end Mine
end
section
open PySem PySem.W PyProof.Rows PySem.Calls
set_option Elab.async false
set_option maxRecDepth 100000
namespace Mine
theorem tl_nil {x : Str} (h : x.length = 0) : tl x = [] := List.eq_nil_of_length_eq_zero (by rw [len_tl]; exact h)
theorem pc_end (g : List Nat) (p : Nat) : pc g p g.length = g.drop p := by
  unfold pc
  exact List.take_of_length_le (by rw [List.length_drop]; omega)
theorem Wt_snoc_nil (ws : List (List Nat)) : Wt (ws ++ [[]]) = Wt ws ++ [none] := by simp [Wt]
theorem Wt_cons_nil (ws : List (List Nat)) (g : List Nat) : Mt (Wt ([] :: ws)) g ↔ Mt (Wt ws) g := by
  rw [Wt_cons]
  constructor
  · rintro ⟨a, g', rfl, h⟩
    exact Wt_front a h
  · intro h
    exact ⟨[], g, rfl, h⟩
theorem endswith_iff (g sl : Str) : Txt.endswith g sl = true ↔ ∃ y, tl g = y ++ tl sl := by
  unfold Txt.endswith
  rw [Bool.and_eq_true, decide_eq_true_eq, StrLaws.subAt_eq, beq_iff_eq]
  have h1 : g.length = (tl g).length := (len_tl g).symm
  have h2 : sl.length = (tl sl).length := (len_tl sl).symm
  rw [h1, h2]
  constructor
  · rintro ⟨hl, he⟩
    refine ⟨(tl g).take ((tl g).length - (tl sl).length), ?_⟩
    have he' : ((tl g).drop ((tl g).length - (tl sl).length)).take (tl sl).length = tl sl := he
    have : (tl g).drop ((tl g).length - (tl sl).length) = tl sl :=
      (List.take_of_length_le (by rw [List.length_drop]; omega)).symm.trans he'
    exact (List.take_append_drop ((tl g).length - (tl sl).length) (tl g)).symm.trans (congrArg (fun z => (tl g).take ((tl g).length - (tl sl).length) ++ z) this)
  · rintro ⟨y, e⟩
    have hl := congrArg List.length e
    rw [List.length_append] at hl
    refine ⟨by omega, ?_⟩
    show ((tl g).drop _).take _ = tl sl
    rw [e, List.drop_left' (by rw [List.length_append]; omega)]
    exact List.take_of_length_le (Nat.le_refl _)
theorem startswith_iff (g s0 : Str) : Txt.startswith g s0 = true ↔ ∃ y, tl g = tl s0 ++ y := by
  unfold Txt.startswith
  rw [Bool.and_eq_true, decide_eq_true_eq, StrLaws.subAt_eq, beq_iff_eq]
  have h1 : g.length = (tl g).length := (len_tl g).symm
  have h2 : s0.length = (tl s0).length := (len_tl s0).symm
  rw [h1, h2, List.drop_zero]
  constructor
  · rintro ⟨hl, he⟩
    refine ⟨(tl g).drop (tl s0).length, ?_⟩
    have he' : (tl g).take (tl s0).length = tl s0 := he
    rw [← he', List.length_take, Nat.min_eq_left (by omega), List.take_append_drop]
  · rintro ⟨y, e⟩
    have hl := congrArg List.length e
    rw [List.length_append] at hl
    refine ⟨by omega, ?_⟩
    show (tl g).take _ = tl s0
    rw [e, List.take_left' rfl]
theorem last_iff (g sl : Str) (st : Nat) (ws : List Str) (hst : st ≤ g.length) : lastR g sl st ws = true ↔ ∃ x, (tl g).drop st = x ++ tl sl ∧ Mt (Wt (ws.map tl)) x := by
  unfold lastR
  have hgl : g.length = (tl g).length := (len_tl g).symm
  by_cases h0 : sl.length = 0
  · rw [if_pos h0, Bool.and_eq_true, decide_eq_true_eq, scan_iff g g.length (Nat.le_refl _) _ st hst, List.map_append, List.map_cons, List.map_nil, tl_nil h0, Wt_snoc_nil, hgl, pc_end]
    constructor
    · rintro ⟨_, h⟩
      obtain ⟨g1, g2, e, h1, _⟩ := (Mt_append _ _ _).mp h
      exact ⟨_, (List.append_nil _).symm, by rw [e]; exact Wt_back g2 h1⟩
    · rintro ⟨x, e, h⟩
      rw [List.append_nil] at e
      exact ⟨by omega, by rw [e]; exact (Mt_append _ _ _).mpr ⟨x, [], by simp, h, Mt_none _⟩⟩
  · rw [if_neg h0, Bool.and_eq_true, Bool.and_eq_true, decide_eq_true_eq, endswith_iff]
    have hsl : sl.length = (tl sl).length := (len_tl sl).symm
    constructor
    · rintro ⟨⟨y, e⟩, hle, hsc⟩
      rw [scan_iff g _ (by omega) _ st hle] at hsc
      refine ⟨_, ?_, hsc⟩
      have hl := congrArg List.length e
      rw [List.length_append] at hl
      have e1 : (tl g).drop st = pc (tl g) st (g.length - sl.length) ++ pc (tl g) (g.length - sl.length) (tl g).length := by
        rw [← pc_split hle (by omega), pc_end]
      rw [e1, pc_end]
      congr 1
      rw [e]
      exact List.drop_left' (by omega)
    · rintro ⟨x, e, h⟩
      have hl := congrArg List.length e
      rw [List.length_append, List.length_drop] at hl
      have hge : tl g = (tl g).take st ++ x ++ tl sl := by
        rw [List.append_assoc, ← e, List.take_append_drop]
      refine ⟨⟨_, hge⟩, by omega, ?_⟩
      rw [scan_iff g _ (by omega) _ st (by omega)]
      have : pc (tl g) st (g.length - sl.length) = x := by
        unfold pc
        rw [e]
        exact List.take_left' (by omega)
      rw [this]
      exact h
theorem first_iff (g s0 : Str) (mid : List Str) (sl : Str) : firstR g s0 mid sl = true ↔ ∃ x, tl g = tl s0 ++ x ++ tl sl ∧ Mt (Wt (mid.map tl)) x := by
  unfold firstR
  by_cases h0 : s0.length = 0
  · rw [if_pos h0, last_iff g sl 0 _ (Nat.zero_le _), List.map_cons, tl_nil h0]
    simp only [Wt_cons_nil, List.drop_zero, List.nil_append]
  · rw [if_neg h0, Bool.and_eq_true, startswith_iff]
    have hs : s0.length = (tl s0).length := (len_tl s0).symm
    constructor
    · rintro ⟨⟨y, e⟩, h⟩
      have hl := congrArg List.length e
      rw [List.length_append] at hl
      rw [last_iff g sl _ _ (by rw [← len_tl g]; omega)] at h
      obtain ⟨x, e1, h1⟩ := h
      refine ⟨x, ?_, h1⟩
      rw [e, hs, List.drop_left' rfl] at e1
      rw [e, e1, List.append_assoc]
    · rintro ⟨x, e, h⟩
      have hl := congrArg List.length e
      simp only [List.length_append] at hl
      refine ⟨⟨x ++ tl sl, by rw [e, List.append_assoc]⟩, ?_⟩
      rw [last_iff g sl _ _ (by rw [← len_tl g]; omega)]
      refine ⟨x, ?_, h⟩
      rw [e, hs, List.append_assoc, List.drop_left' rfl]
/-- segments with gaps between -/
def segT : List (List Nat) → List (Option Nat)
  | [] => []
  | s :: r => s.map some ++ r.flatMap fun s => none :: s.map some
theorem em_iff {want got : Str} {b : Bool} (h : EmSays want got b) : b = true ↔ Mt (segT ((Txt.split want (Str.ofString "...")).map tl)) (tl got) := by
  rcases h with ⟨h1, rfl⟩ | ⟨s0, mid, sl, h1, rfl⟩
  · rw [h1]
    simp only [List.map_cons, List.map_nil, segT, List.flatMap_nil, List.append_nil, Mt_chars, beq_iff_eq]
    constructor
    · rintro rfl; rfl
    · intro e; exact Str.ext' (Array.toList_inj.mp e.symm)
  · rw [h1, first_iff]
    have e : segT ((s0 :: (mid ++ [sl])).map tl) = (tl s0).map some ++ (Wt (mid.map tl) ++ (tl sl).map some) := by
      simp [segT, Wt]
    rw [e, Mt_append]
    constructor
    · rintro ⟨x, e1, h2⟩
      exact ⟨tl s0, x ++ tl sl, by rw [e1, List.append_assoc], (Mt_chars _ _).mpr rfl, (Mt_append _ _ _).mpr ⟨x, tl sl, rfl, h2, (Mt_chars _ _).mpr rfl⟩⟩
    · rintro ⟨g1, g2, e1, h2, h3⟩
      rw [Mt_chars] at h2
      obtain ⟨g3, g4, e2, h4, h5⟩ := (Mt_append _ _ _).mp h3
      rw [Mt_chars] at h5
      subst h2 h5 e2
      exact ⟨g3, by rw [e1, List.append_assoc], h4⟩
end Mine
end
section
open PySem PySem.W PyProof.Rows PySem.Calls
set_option Elab.async false
set_option maxRecDepth 100000
namespace Mine
abbrev dots : Str := Str.ofString "..."
theorem tl_dots : tl dots = [46, 46, 46] := by decide
def joinD : List (List Nat) → List Nat
  | [] => []
  | [s] => s
  | s :: t :: r => s ++ [46, 46, 46] ++ joinD (t :: r)
theorem At_dots (x : Str) (k : Nat) : StrLaws.At x dots x.length k ↔ k + 3 ≤ x.length ∧ ((tl x).drop k).take 3 = [46, 46, 46] := by
  rw [At_iff, tl_dots]
  rfl
theorem At_head {x : Str} {k : Nat} (h : StrLaws.At x dots x.length k) : ∃ y, (tl x).drop k = 46 :: y := by
  have h2 := ((At_dots x k).mp h).2
  cases hd : (tl x).drop k with
  | nil => rw [hd] at h2; cases h2
  | cons c r => rw [hd] at h2; simp at h2; exact ⟨r, by rw [h2.1]⟩
theorem At_join {x : Str} {s t : List Nat} {r : List (List Nat)} {a : Nat} (ha : a ≤ x.length) (h : (tl x).drop a = joinD (s :: t :: r)) : StrLaws.At x dots x.length (a + s.length) := by
  have hl := congrArg List.length h
  rw [List.length_drop, len_tl] at hl
  simp only [joinD, List.length_append, List.length_cons, List.length_nil] at hl
  refine (At_dots _ _).mpr ⟨by omega, ?_⟩
  rw [← List.drop_drop, h]
  simp only [joinD, List.append_assoc]
  rw [List.drop_left' rfl]
  rfl
theorem tl_sub (x : Str) (i j : Nat) : tl (Builtin.Str.strSub x i j) = ((tl x).drop i).take (j - i) := StrLaws.strSub_toList x i j
theorem parts_uniq (x : Str) : ∀ (segs : List (List Nat)) (s : List Nat) (a : Nat) (cuts : List Nat) (f : Nat), (∀ y ∈ s :: segs, 46 ∉ y) → a ≤ x.length → (tl x).drop a = joinD (s :: segs) →
    StrLaws.ChainG x dots x.length a cuts f → (∀ k, f ≤ k → ¬ StrLaws.At x dots x.length k) → (StrLaws.partsFrom x 3 a cuts).map tl = s :: segs
  | [], s, a, cuts, f, hno, ha, hx, hch, hf => by
    have hx' : (tl x).drop a = s := hx
    have none : ∀ k, a ≤ k → ¬ StrLaws.At x dots x.length k := by
      intro k hk hat
      obtain ⟨y, hy⟩ := At_head hat
      have e : (tl x).drop k = s.drop (k - a) := by rw [← hx', List.drop_drop]; congr 1; omega
      rw [hy] at e
      exact hno s (.head _) (List.mem_of_mem_drop (by rw [← e]; exact .head _))
    cases cuts with
    | nil =>
      simp only [StrLaws.partsFrom, List.map_cons, List.map_nil]
      rw [tl_sub, hx', List.take_of_length_le]
      have := congrArg List.length hx'
      rw [List.length_drop, len_tl] at this
      omega
    | cons c r => exact absurd hch.2.1 (none c hch.1)
  | t :: segs, s, a, cuts, f, hno, ha, hx, hch, hf => by
    have hat := At_join ha hx
    cases cuts with
    | nil =>
      have hfa : f = a := hch
      exact absurd hat (hf _ (by omega))
    | cons c r =>
      obtain ⟨h1, h2, h3, h4⟩ := hch
      have hc1 : ¬ (a + s.length < c) := fun hlt => h3 _ (by omega) hlt hat
      have hc2 : ¬ (c < a + s.length) := by
        intro hlt
        obtain ⟨y, hy⟩ := At_head h2
        have e : (tl x).drop c = (s ++ ([46, 46, 46] ++ joinD (t :: segs))).drop (c - a) := by
          rw [← List.append_assoc]
          show _ = (joinD (s :: t :: segs)).drop (c - a)
          rw [← hx, List.drop_drop]
          congr 1
          omega
        rw [hy, List.drop_append_of_le_length (by omega)] at e
        cases hd : s.drop (c - a) with
        | nil =>
          have := congrArg List.length hd
          rw [List.length_drop] at this
          simp at this
          omega
        | cons d q =>
          rw [hd, List.cons_append] at e
          have : d = 46 := (List.cons.inj e).1.symm
          exact hno s (.head _) (List.mem_of_mem_drop (by rw [hd, this]; exact .head _))
      have hc : c = a + s.length := by omega
      subst hc
      have hd3 : dots.length = 3 := by decide
      rw [hd3] at h4
      have hle := ((At_dots _ _).mp h2).1
      have hx2 : (tl x).drop (a + s.length + 3) = joinD (t :: segs) := by
        have e : (tl x).drop (a + s.length + 3) = ((tl x).drop a).drop (s.length + 3) := by rw [List.drop_drop, Nat.add_assoc]
        rw [e, hx]
        simp only [joinD]
        exact List.drop_left' (by simp)
      simp only [StrLaws.partsFrom, List.map_cons]
      rw [parts_uniq x segs t (a + s.length + 3) r f (fun y hy => hno y (.tail _ hy)) hle hx2 h4 hf, tl_sub, hx]
      simp only [joinD, List.append_assoc]
      rw [Nat.add_sub_cancel_left, List.take_left' rfl]
theorem split_uniq (x : Str) (s : List Nat) (segs : List (List Nat)) (hno : ∀ y ∈ s :: segs, 46 ∉ y) (hx : tl x = joinD (s :: segs)) : (Txt.split x dots).map tl = s :: segs := by
  have hsingle : segs = [] → [x].map tl = s :: segs := by
    rintro rfl
    rw [List.map_cons, List.map_nil, hx]
    rfl
  have hat : ∀ t r, segs = t :: r → StrLaws.At x dots x.length s.length := by
    rintro t r rfl
    have := At_join (a := 0) (Nat.zero_le _) (by rw [List.drop_zero]; exact hx)
    rwa [Nat.zero_add] at this
  have hd3 : dots.length = 3 := by decide
  unfold Txt.split
  split
  · rename_i h1
    refine hsingle ?_
    cases segs with
    | nil => rfl
    | cons t r =>
      exfalso
      have h2 := ((At_dots _ _).mp (hat t r rfl)).1
      have k1 : Builtin.Str.strKind dots = 1 := by decide +kernel
      have k2 : 1 ≤ Builtin.Str.strKind x := by unfold Builtin.Str.strKind; split <;> (try split) <;> omega
      simp only [Bool.or_eq_true, decide_eq_true_eq] at h1
      omega
  · split
    · rename_i h2
      refine hsingle ?_
      cases segs with
      | nil => rfl
      | cons t r =>
        exfalso
        rcases StrLaws.occ_head_from x dots 0 (x.length + 1) (by omega) with ⟨_, hn⟩ | ⟨i, r', e, _⟩
        · exact hn _ (Nat.zero_le _) (hat t r rfl)
        · rw [e] at h2; cases h2
    · obtain ⟨f, h3, h4⟩ := StrLaws.occ_tight x dots (by omega)
      rw [StrLaws.partsBetween_eq, hd3]
      exact parts_uniq x segs s 0 _ f hno (Nat.zero_le _) (by rw [List.drop_zero]; exact hx) h3 h4
/-- tokens and segments -/
def segsOf : List (Option Nat) → List (List Nat)
  | [] => [[]]
  | none :: t => [] :: segsOf t
  | some c :: t => match segsOf t with
    | s :: r => (c :: s) :: r
    | [] => [[c]]
def detok (t : List (Option Nat)) : List Nat := t.flatMap fun o => match o with | some c => [c] | none => [46, 46, 46]
theorem segsOf_ne : ∀ t, ∃ s r, segsOf t = s :: r
  | [] => ⟨_, _, rfl⟩
  | none :: t => ⟨_, _, rfl⟩
  | some c :: t => by
    obtain ⟨s, r, e⟩ := segsOf_ne t
    exact ⟨c :: s, r, by simp [segsOf, e]⟩
theorem segT_segsOf : ∀ t, segT (segsOf t) = t
  | [] => rfl
  | none :: t => by
    obtain ⟨s, r, e⟩ := segsOf_ne t
    have ih := segT_segsOf t
    rw [e] at ih
    simp only [segsOf, e, segT, List.map_nil, List.nil_append, List.flatMap_cons, List.cons_append] at ih ⊢
    rw [ih]
  | some c :: t => by
    obtain ⟨s, r, e⟩ := segsOf_ne t
    have ih := segT_segsOf t
    rw [e] at ih
    simp only [segsOf, e, segT, List.map_cons, List.cons_append] at ih ⊢
    rw [ih]
theorem joinD_cons (c : Nat) (s : List Nat) (r : List (List Nat)) : joinD ((c :: s) :: r) = c :: joinD (s :: r) := by
  cases r <;> simp [joinD]
theorem joinD_segsOf : ∀ t, joinD (segsOf t) = detok t
  | [] => rfl
  | none :: t => by
    obtain ⟨s, r, e⟩ := segsOf_ne t
    have ih := joinD_segsOf t
    rw [e] at ih
    simp only [segsOf, e, joinD, detok, List.nil_append, List.flatMap_cons] at ih ⊢
    rw [ih]
  | some c :: t => by
    obtain ⟨s, r, e⟩ := segsOf_ne t
    have ih := joinD_segsOf t
    rw [e] at ih
    simp only [segsOf, e, joinD_cons, detok, List.flatMap_cons] at ih ⊢
    rw [ih]
    rfl
theorem segsOf_no : ∀ t, (some 46 : Option Nat) ∉ t → ∀ y ∈ segsOf t, 46 ∉ y
  | [], _, y, hy => by rw [List.mem_singleton.mp hy]; exact List.not_mem_nil
  | none :: t, h, y, hy => by
    rcases List.mem_cons.mp hy with rfl | hy
    · exact List.not_mem_nil
    · exact segsOf_no t (fun hm => h (.tail _ hm)) y hy
  | some c :: t, h, y, hy => by
    obtain ⟨s, r, e⟩ := segsOf_ne t
    have ih := segsOf_no t (fun hm => h (.tail _ hm))
    simp only [segsOf, e] at hy
    rw [e] at ih
    rcases List.mem_cons.mp hy with rfl | hy
    · intro hm
      rcases List.mem_cons.mp hm with rfl | hm
      · exact h (.head _)
      · exact ih s (.head _) hm
    · exact ih y (.tail _ hy)
theorem split_tok {x : Str} {T : List (Option Nat)} (hx : tl x = detok T) (hno : (some 46 : Option Nat) ∉ T) : segT ((Txt.split x dots).map tl) = T := by
  obtain ⟨s, r, e⟩ := segsOf_ne T
  have h1 := segsOf_no T hno
  have h2 := joinD_segsOf T
  have h3 := segT_segsOf T
  rw [e] at h1 h2 h3
  rw [split_uniq x s r h1 (hx.trans h2.symm), h3]
end Mine
end
section
open PySem PySem.W PyProof.Rows PySem.Calls
set_option Elab.async false
set_option maxRecDepth 100000
namespace Mine
abbrev comma : Str := Str.ofString ","
def wj (ws : List Str) : List Nat := ws.flatMap fun w => tl w ++ [44]
def Tp (p : Str) : List (Option Nat) := segT ((Txt.split p dots).map tl)
def tk (ps : List Str) : List (Option Nat) := ps.flatMap fun p => Tp p ++ [some 44]
theorem wj_append (a b : List Str) : wj (a ++ b) = wj a ++ wj b := by simp [wj]
theorem tk_append (a b : List Str) : tk (a ++ b) = tk a ++ tk b := by simp [tk]
theorem wj_one (a : Str) : wj [a] = tl a ++ [44] := by simp [wj]
theorem tk_one (a : Str) : tk [a] = Tp a ++ [some 44] := by simp [tk]
theorem wj_cons (a : Str) (b : List Str) : wj (a :: b) = tl a ++ 44 :: wj b := by simp [wj]
theorem join_wj : ∀ (xs : List Str) (y : Str), tl (Txt.join comma (xs ++ [y])) = wj xs ++ tl y := by
  intro xs y
  rw [show Txt.join comma (xs ++ [y]) = Str.join comma (xs ++ [y]) from StrLaws.glued_eq_join _ _]
  induction xs with
  | nil => rfl
  | cons x xs ih =>
    have := join_cons x xs y
    rw [wj_cons, List.cons_append, show tl (Str.join comma (x :: (xs ++ [y]))) = _ from this]
    show tl x ++ 44 :: tl (Str.join comma (xs ++ [y])) = _
    rw [ih]
    simp
theorem join_run {run : List Str} (h : run ≠ []) : tl (Txt.join comma run) ++ [44] = wj run := by
  rcases List.eq_nil_or_concat run with rfl | ⟨xs, y, rfl⟩
  · exact absurd rfl h
  · rw [List.concat_eq_append, join_wj, wj_append, wj_one, List.append_assoc]
theorem detok_append (a b : List (Option Nat)) : detok (a ++ b) = detok a ++ detok b := by simp [detok]
theorem detok_chars : ∀ cs : List Nat, detok (cs.map some) = cs
  | [] => rfl
  | c :: cs => by
    have := detok_chars cs
    simp only [detok, List.map_cons, List.flatMap_cons] at this ⊢
    rw [this]
    rfl
theorem detok_none (t : List (Option Nat)) : detok (none :: t) = [46, 46, 46] ++ detok t := by simp [detok]
theorem detok_segT : ∀ (r : List (List Nat)) (s : List Nat), detok (segT (s :: r)) = joinD (s :: r)
  | [], s => by simp only [segT, List.flatMap_nil, List.append_nil, joinD, detok_chars]
  | t :: r, s => by
    have ih := detok_segT r t
    have e : segT (s :: t :: r) = s.map some ++ none :: segT (t :: r) := by simp [segT]
    rw [e, detok_append, detok_chars, detok_none, ih]
    simp [joinD]
theorem detok_segT' (l : List (List Nat)) : detok (segT l) = joinD l := by
  cases l with
  | nil => rfl
  | cons s r => exact detok_segT r s
theorem tl_append (a b : Str) : tl (a ++ b) = tl a ++ tl b := by
  unfold tl
  rw [Str.cps_append, Array.toList_append]
theorem joinD_tl : ∀ xs : List Str, joinD (xs.map tl) = tl (Str.join dots xs)
  | [] => rfl
  | [_] => rfl
  | x :: y :: r => by
    have ih := joinD_tl (y :: r)
    show tl x ++ [46, 46, 46] ++ joinD ((y :: r).map tl) = tl (x ++ dots ++ Str.join dots (y :: r))
    rw [ih, tl_append, tl_append, tl_dots]
theorem detok_Tp (p : Str) : detok (Tp p) = tl p := by
  unfold Tp
  rw [detok_segT', joinD_tl, StrLaws.join_split]
theorem mem_segT {c : Nat} : ∀ {l : List (List Nat)}, some c ∈ segT l → ∃ s ∈ l, c ∈ s := by
  intro l h
  cases l with
  | nil => cases h
  | cons s r =>
    rcases List.mem_append.mp h with h | h
    · obtain ⟨d, hd, e⟩ := List.mem_map.mp h
      cases e
      exact ⟨s, .head _, hd⟩
    · obtain ⟨s', hs, hc⟩ := List.mem_flatMap.mp h
      rcases List.mem_cons.mp hc with hc | hc
      · cases hc
      · obtain ⟨d, hd, e⟩ := List.mem_map.mp hc
        cases e
        exact ⟨s', .tail _ hs, hd⟩
theorem word_no {x : Str} (h : wordOk x = true) : 44 ∉ tl x := by
  unfold wordOk at h
  simp only [Bool.and_eq_true, decide_eq_true_eq, Bool.not_eq_true'] at h
  obtain ⟨⟨⟨⟨⟨⟨⟨h0, _⟩, _⟩, _⟩, _⟩, _⟩, _⟩, _⟩ := h
  intro hm
  have : x.cps.contains 44 = true := Array.contains_iff_mem.mpr (Array.mem_toList_iff.mp hm)
  rw [h0] at this
  cases this
theorem pat_word {x : Str} (h : patOk x = true) : wordOk x = true := by
  unfold patOk at h
  rw [Bool.and_eq_true, Bool.and_eq_true] at h
  exact h.1.1
theorem pat_len {x : Str} (h : patOk x = true) : (Txt.split x dots).length ≤ 2 := by
  unfold patOk at h
  rw [Bool.and_eq_true, Bool.and_eq_true] at h
  exact of_decide_eq_true h.1.2
theorem pat_no {x : Str} (h : patOk x = true) : (some 46 : Option Nat) ∉ Tp x := by
  unfold patOk at h
  rw [Bool.and_eq_true] at h
  have h := List.all_eq_true.mp h.2
  intro hm
  obtain ⟨s, hs, hc⟩ := mem_segT hm
  obtain ⟨y, hy, rfl⟩ := List.mem_map.mp hs
  have h1 := h y hy
  have : y.cps.contains 46 = true := Array.contains_iff_mem.mpr (Array.mem_toList_iff.mp hc)
  rw [this] at h1
  cases h1
theorem tk_no {ps : List Str} (h : ∀ x ∈ ps, patOk x = true) : (some 46 : Option Nat) ∉ tk ps := by
  intro hm
  obtain ⟨p, hp, hc⟩ := List.mem_flatMap.mp hm
  rcases List.mem_append.mp hc with hc | hc
  · exact pat_no (h p hp) hc
  · cases List.mem_singleton.mp hc
theorem detok_tk : ∀ ps : List Str, detok (tk ps) = wj ps
  | [] => rfl
  | p :: ps => by
    have ih := detok_tk ps
    rw [show p :: ps = [p] ++ ps from rfl, tk_append, tk_one, detok_append, detok_append, ih, detok_Tp, wj_append, wj_one]
    rfl
theorem want_tok {ps : List Str} (h : ∀ x ∈ ps, patOk x = true) : segT ((Txt.split (Txt.join comma (ps ++ [Str.ofString "/"])) dots).map tl) = tk ps ++ [some 47] := by
  refine split_tok ?_ ?_
  · rw [join_wj, detok_append, detok_tk]
    rfl
  · intro hm
    rcases List.mem_append.mp hm with hc | hc
    · exact tk_no h hc
    · cases List.mem_singleton.mp hc
theorem Mt_snoc (T : List (Option Nat)) (c : Nat) (g : List Nat) : Mt (T ++ [some c]) (g ++ [c]) ↔ Mt T g := by
  rw [Mt_append]
  constructor
  · rintro ⟨g1, g2, e, h1, ⟨g', rfl, h2⟩⟩
    cases h2
    rw [List.append_cancel_right e]
    exact h1
  · intro h
    exact ⟨g, [c], rfl, h, ⟨[], rfl, rfl⟩⟩
theorem tk_last {xs : List Str} {g : List Nat} (h : Mt (tk xs) g) : ∀ q z, g = q ++ [z] → z = 44 := by
  rcases List.eq_nil_or_concat xs with rfl | ⟨ys, y, rfl⟩
  · cases h
    intro q z e
    cases q <;> cases e
  · rw [List.concat_eq_append, tk_append, tk_one, ← List.append_assoc] at h
    obtain ⟨g1, g2, rfl, _, ⟨g', rfl, h2⟩⟩ := (Mt_append _ _ _).mp h
    cases h2
    intro q z e
    have := List.append_inj_right' e rfl
    cases this
    rfl
theorem cut_at : ∀ (ws : List Str) (g1 g2 : List Nat), (∀ w ∈ ws, 44 ∉ tl w) → (∀ q z, g1 = q ++ [z] → z = 44) → wj ws = g1 ++ g2 → ∃ i, i ≤ ws.length ∧ g1 = wj (ws.take i) ∧ g2 = wj (ws.drop i)
  | [], g1, g2, _, _, e => by
    have e' : [] = g1 ++ g2 := e
    obtain ⟨rfl, rfl⟩ := List.append_eq_nil_iff.mp e'.symm
    exact ⟨0, Nat.le_refl _, rfl, rfl⟩
  | w :: ws, g1, g2, hw, hl, e => by
    have zero : g1 = [] → ∃ i, i ≤ (w :: ws).length ∧ g1 = wj ((w :: ws).take i) ∧ g2 = wj ((w :: ws).drop i) := by
      rintro rfl
      exact ⟨0, Nat.zero_le _, rfl, e.symm⟩
    have out : ∀ r, tl w = g1 ++ r → ∃ i, i ≤ (w :: ws).length ∧ g1 = wj ((w :: ws).take i) ∧ g2 = wj ((w :: ws).drop i) := by
      intro r er
      rcases List.eq_nil_or_concat g1 with h0 | ⟨q, z, h0⟩
      · exact zero h0
      · rw [List.concat_eq_append] at h0
        have := hl q z h0
        subst this
        exact absurd (by rw [er, h0]; simp) (hw w (.head _))
    rw [wj_cons] at e
    rcases List.append_eq_append_iff.mp e with ⟨r, e1, e2⟩ | ⟨r, e1, e2⟩
    · cases r with
      | nil => exact out [] (by rw [e1]; simp)
      | cons c r =>
        rw [List.cons_append] at e2
        obtain ⟨rfl, e3⟩ := List.cons.inj e2
        obtain ⟨i, h1, h2, h3⟩ := cut_at ws r g2 (fun x hx => hw x (.tail _ hx)) (fun q z h => hl (tl w ++ 44 :: q) z (by rw [e1, h]; simp)) e3
        exact ⟨i + 1, Nat.succ_le_succ h1, by rw [e1, List.take_succ_cons, wj_cons, ← h2], h3⟩
    · exact out r e1
theorem slice_mid {W a x b : List Nat} {s : Str} {n m : Nat} (hs : tl s = W) (h : W = a ++ x ++ b) (hn : n = a.length) (hm : m = b.length) : tl (Txt.slice s (some (n : Int)) (some ((s.length : Int) - (m : Int)))) = x := by
  have hl := congrArg List.length h
  simp only [List.length_append] at hl
  have hsl : s.length = W.length := by rw [← hs, len_tl]
  have e : ((s.length : Int) - (m : Int)) = ((s.length - m : Nat) : Int) := by omega
  have e2 : Txt.slice s (some (n : Int)) (some ((s.length - m : Nat) : Int)) = StrLaws.sliceText s (some (n : Int)) (some ((s.length - m : Nat) : Int)) := rfl
  rw [e, e2, StrLaws.sliceText_nat s (by omega) (by omega)]
  show ((tl s).drop n).take _ = x
  rw [hs, h, hn, List.append_assoc, List.drop_left' rfl]
  exact List.take_left' (by omega)
theorem fitB_iff {p : Str} {run : List Str} (hp : patOk p = true) (hw : ∀ x ∈ run, 44 ∉ tl x) (hr : run ≠ []) : fitB p run = true ↔ Mt (Tp p) (tl (Txt.join comma run)) := by
  have hpc := word_no (pat_word hp)
  have hlen := pat_len hp
  have hj := StrLaws.join_split p dots
  have one : run = [p] ↔ tl (Txt.join comma run) = tl p := by
    constructor
    · rintro rfl
      exact join_wj [] p
    · intro e
      rcases List.eq_nil_or_concat run with rfl | ⟨xs, y, rfl⟩
      · exact absurd rfl hr
      · rw [List.concat_eq_append] at e ⊢
        rw [join_wj] at e
        cases xs with
        | nil =>
          have : y = p := Str.ext' (Array.toList_inj.mp e)
          rw [this]
          rfl
        | cons a r =>
          exfalso
          rw [wj_cons] at e
          exact hpc (by rw [← e]; simp)
  unfold fitB Tp
  cases hs : Txt.split p dots with
  | nil =>
    rw [hs] at hj
    dsimp only
    rw [decide_eq_true_iff, one, ← hj]
    rfl
  | cons e0 r =>
    cases r with
    | nil =>
      dsimp only
      have : e0 = p := by rw [hs] at hj; exact hj
      subst this
      rw [decide_eq_true_iff, one]
      simp only [List.map_cons, List.map_nil, segT, List.flatMap_nil, List.append_nil, Mt_chars]
    | cons e1 r =>
      have hr0 : r = [] := by
        rw [hs] at hlen
        cases r with
        | nil => rfl
        | cons _ _ => simp at hlen
      subst hr0
      dsimp only
      have eT : segT ([e0, e1].map tl) = (tl e0).map some ++ none :: (tl e1).map some := by simp [segT]
      rw [eT, beq_iff_eq]
      constructor
      · intro e
        have e' := congrArg tl e
        rw [tl_append, tl_append] at e'
        rw [e', List.append_assoc]
        exact (Mt_append _ _ _).mpr ⟨tl e0, _, rfl, (Mt_chars _ _).mpr rfl, ⟨_, tl e1, rfl, (Mt_chars _ _).mpr rfl⟩⟩
      · intro h
        obtain ⟨g1, g2, e, h1, ⟨x, g3, rfl, h3⟩⟩ := (Mt_append _ _ _).mp h
        rw [Mt_chars] at h1 h3
        subst h1 h3
        rw [← List.append_assoc] at e
        have := slice_mid (s := Txt.join comma run) (n := e0.length) (m := e1.length) rfl e (len_tl e0).symm (len_tl e1).symm
        refine Str.ext' (Array.toList_inj.mp ?_)
        show tl _ = tl _
        rw [tl_append, tl_append, this]
        exact e
theorem wj_nil {ws : List Str} (h : wj ws = []) : ws = [] := by
  cases ws with
  | nil => rfl
  | cons a r => rw [wj_cons] at h; simp at h
theorem mem_rowAt (ps ws : List Str) (hp : ∀ x ∈ ps, patOk x = true) (hw : ∀ x ∈ ws, 44 ∉ tl x) : ∀ (k : Nat), k ≤ ps.length → ∀ m, m ≤ ws.length → (m ∈ rowAt ps ws k ↔ Mt (tk (ps.take k)) (wj (ws.take m)))
  | 0, _, m, hm => by
    show m ∈ [0] ↔ wj (ws.take m) = []
    rw [List.mem_singleton]
    constructor
    · rintro rfl; rfl
    · intro h
      have h := congrArg List.length (wj_nil h)
      rw [List.length_take] at h
      simp at h
      rcases h with h | h
      · exact h
      · rw [h] at hm; simpa using hm
  | k + 1, hk, m, hm => by
    have ih := mem_rowAt ps ws hp hw k (by omega)
    have hget : ps[k]? = some (ps[k]'(by omega)) := List.getElem?_eq_getElem _
    have ep : ps.getD k (Str.ofString "") = ps[k]'(by omega) := by simp [List.getD, hget]
    have hpk : patOk (ps[k]'(by omega)) = true := hp _ (List.getElem_mem _)
    have et : tk (ps.take (k + 1)) = tk (ps.take k) ++ (Tp (ps[k]'(by omega)) ++ [some 44]) := by
      rw [List.take_add_one, hget, tk_append]
      rw [← tk_one]
      rfl
    show m ∈ cutRow (ps.getD k (Str.ofString "")) ws (rowAt ps ws k) ↔ _
    unfold cutRow hitsB
    rw [List.mem_filter, List.mem_range'_1, List.any_eq_true, ep, et]
    have hwm : ∀ x ∈ ws.take m, 44 ∉ tl x := fun x hx => hw x (List.mem_of_mem_take hx)
    have hwi : ∀ i, ∀ x ∈ (ws.take m).drop i, 44 ∉ tl x := fun i x hx => hwm x (List.mem_of_mem_drop hx)
    have hne : ∀ i, i < m → (ws.take m).drop i ≠ [] := by
      intro i hi e
      have := congrArg List.length e
      rw [List.length_drop, List.length_take] at this
      simp at this
      omega
    have htt : ∀ i, i < m → (ws.take m).take i = ws.take i := by
      intro i hi
      rw [List.take_take, Nat.min_eq_left (by omega)]
    constructor
    · rintro ⟨_, i, hi, hf⟩
      rw [Bool.and_eq_true, decide_eq_true_eq] at hf
      obtain ⟨him, hf⟩ := hf
      rw [fitB_iff hpk (hwi i) (hne i him)] at hf
      refine (Mt_append _ _ _).mpr ⟨wj (ws.take i), tl (Txt.join comma ((ws.take m).drop i)) ++ [44], ?_, (ih i (by omega)).mp hi, (Mt_snoc _ _ _).mpr hf⟩
      rw [join_run (hne i him), ← htt i him, ← wj_append, List.take_append_drop]
    · intro h
      obtain ⟨g1, g2, e, h1, h2⟩ := (Mt_append _ _ _).mp h
      obtain ⟨g3, g4, rfl, h3, ⟨g', rfl, h4⟩⟩ := (Mt_append _ _ _).mp h2
      cases h4
      obtain ⟨i, hi, e1, e2⟩ := cut_at (ws.take m) g1 (g3 ++ [44]) hwm (tk_last h1) e
      have him : i < m := by
        rw [List.length_take] at hi
        rcases Nat.lt_or_ge i m with h | h
        · exact h
        · exfalso
          rw [List.drop_of_length_le (by rw [List.length_take]; omega)] at e2
          simp [wj] at e2
      rw [← join_run (hne i him)] at e2
      have e3 := List.append_cancel_right e2
      subst e3
      rw [htt i him] at e1
      subst e1
      refine ⟨⟨by omega, by omega⟩, i, (ih i (by omega)).mpr h1, ?_⟩
      rw [Bool.and_eq_true, decide_eq_true_eq]
      exact ⟨him, (fitB_iff hpk (hwi i) (hne i him)).mpr h3⟩
theorem em_cut (ps ws : List Str) (hp : ∀ x ∈ ps, patOk x = true) (hw : ∀ x ∈ ws, wordOk x = true) {k m : Nat} (hk : k ≤ ps.length) (hm : m ≤ ws.length) {b : Bool}
    (h : EmSays (Txt.join (Str.ofString ",") (ps.take k ++ [Str.ofString "/"])) (Txt.join (Str.ofString ",") (ws.take m ++ [Str.ofString "/"])) b) : b = decide (m ∈ rowAt ps ws k) := by
  have h1 := em_iff h
  rw [show segT ((Txt.split (Txt.join (Str.ofString ",") (ps.take k ++ [Str.ofString "/"])) (Str.ofString "...")).map tl) = tk (ps.take k) ++ [some 47] from want_tok fun x hx => hp x (List.mem_of_mem_take hx)] at h1
  rw [show tl (Txt.join (Str.ofString ",") (ws.take m ++ [Str.ofString "/"])) = wj (ws.take m) ++ [47] from join_wj _ _, Mt_snoc, ← mem_rowAt ps ws hp (fun x hx => word_no (hw x hx)) k hk m hm] at h1
  rw [Bool.eq_iff_iff, decide_eq_true_iff]
  exact h1
end Mine
end
section
open PySem PySem.W PyProof.Rows PySem.Calls PySem.Spec
set_option Elab.async false
set_option maxRecDepth 100000
namespace Mine
local macro_rules | `(tactic| walk_at "eval Name") => `(tactic| ((with_reducible show wpAny _ _ (eval (Expr.Name (Str.ofString "len") _) _) _ _ _); k_dflt (refine nmE_len (by assumption) ?_)))
local macro_rules | `(tactic| walk_at "eval Name") => `(tactic| ((with_reducible show wpAny _ _ (eval (Expr.Name (Str.ofString "range") _) _) _ _ _); k_dflt (refine nmE_range (by assumption) ?_)))
local macro_rules | `(tactic| walk_at "eval Name") => `(tactic| (k_dflt (refine' nmE_local ?k1 ?k2 ?_; (case k1 => first | assumption | exact Fr.ns (by assumption)); (case k2 => first | exact rfl | assumption); k_whole)))

abbrev laEnv (L f : Addr) (cd : Value) : Env := envOf (Str.ofString "law") (scopeAt 9) L f cd
section
variable {prog : Program} {w : World} {A : Around} {E : Value → Shared → Prop} {s : Shared}
theorem slice_listT {value slice : Expr} {l : Addr} {items : Array Value} {vl vu : Value} {lo hi : Option Int} {Q : Value → Shared → Prop}
    (hl : s.heap.IsList l items) (pl : IsPart vl lo) (pu : IsPart vu hi)
    (h : Q (.ref (s.heap.objs.size + 1)) { s with heap := (s.heap.push { cls := .type "slice", data := .fields #[vl, vu, .none] }).push { cls := .type "list", data := .seq (slicePick items lo hi none) } })
    (hs : subscripted slice false (.ref l) (.ref s.heap.objs.size) = operate [.ref s.heap.objs.size, .ref l] (getItem (.ref l) (.ref s.heap.objs.size)))
    (hsz : items.size ≤ sizeLine) :
    wpAny (model prog w) A (subscriptTail value slice (.ref l) (.ref s.heap.objs.size)) Q E { s with heap := s.heap.push { cls := .type "slice", data := .fields #[vl, vu, .none] } } := by
  refine tail_any (Heap.IsList.typeIs (s := { s with heap := s.heap.push { cls := .type "slice", data := .fields #[vl, vu, .none] } }) (hl.push _)) list_getitem_lookup
    (wpAny_getItem_list_slice (hl.push _) (Heap.IsSliceOf.new ..) pl pu .none (by simp) ?_ hsz) hs
  show Q (.ref (s.heap.push _).objs.size) _
  rw [Heap.size_push]
  exact h
end
/-- an object that a call has made, for the ledger -/
theorem made {h₀ g h : Heap} {L a : Addr} {o : Obj} {m : Str → Option Value} (F : Fr h₀ L g m) (ho : h.get? a = some o) (hf : g.get? a = none) : h.get? a = some o ∧ a ≠ L ∧ h₀.get? a = none := by
  obtain ⟨oL, _, _, hL, _⟩ := F.ns
  refine ⟨ho, ?_, ?_⟩
  · rintro rfl; rw [hL] at hf; cases hf
  · cases q : h₀.get? a with
    | none => rfl
    | some o' => rw [F.keep _ _ q] at hf; cases hf
theorem fresh2 {h : Heap} {o₁ o₂ : Obj} {a : Addr} (hf : ((h.push o₁).push o₂).get? a = none) : h.get? a = none := by
  cases q : h.get? a with
  | none => rfl
  | some o => rw [Heap.get?_push_of_some _ (Heap.get?_push_of_some _ q)] at hf; cases hf
def LstO (o : Obj) (vs : List Value) : Prop := o.cls = .type "list" ∧ ∃ n, o.data = .seq vs.toArray n
theorem LstO.at {o : Obj} {vs : List Value} {h : Heap} {a : Addr} (x : LstO o vs) (ho : h.get? a = some o) : h.IsList a vs.toArray := ⟨o, ho, x.1, x.2⟩
theorem ints_take : ∀ {vs : List Value} {ns : List Int} (k : Nat), IntsAre vs ns → IntsAre (vs.take k) (ns.take k)
  | _, _, 0, _ => .nil
  | _, _, _ + 1, .nil => .nil
  | _, _, k + 1, .cons n t r => .cons n t (ints_take k r)
set_option maxHeartbeats 4000000 in
theorem la_a {prog : Program} {w : World} {dp un : Nat} {fr : Option (List Env)} {gd : Option (List Code)} {s : Shared} {mg mb m : Str → Option Value} {f L sc : Addr} {cd : Value} {vs : List Value} {ns : List Int}
    {h₀ : Heap} {Q : Flow → Shared → Prop}
    (M : Md mg mb h₀) (F : Fr h₀ L s.heap m) (hsc : h₀.IsList sc vs.toArray) (hi : IntsAre vs ns) (hn : ns.length ≤ 1000) (hms : m (Str.ofString "script") = some (.ref sc)) (hroom : dp < recursionLimit)
    (h : ∀ A B oA oB lp lw h' tk m', Fr h₀ L h' m' → News h₀ L h' [(A, oA), (B, oB)] → LstO oA (strValues lp) → LstO oB (strValues lw) → m' (Str.ofString "firsts") = some (.ref A) → m' (Str.ofString "seconds") = some (.ref B) →
      (∀ p ∈ lp, patOk p.1 = true) → (∀ p ∈ lw, wordOk p.1 = true) → lp.length ≤ 6 → lw.length ≤ 11 →
      wpAny (model prog w) (Ar dp un fr gd) (execs ((bodyAt 9).drop 1) (laEnv L f cd)) Q (fun _ _ => False) { s with heap := h', toks := tk }) :
    wpAny (model prog w) (Ar dp un fr gd) (execs (bodyAt 9) (laEnv L f cd)) Q (fun _ _ => False) s := by
  have KX : Frag.In [] h₀ := fun _ _ e => nomatch e
  have Ms : Md mg mb s.heap := M.keeps F.keep
  have hscs : s.heap.IsList sc vs.toArray := hsc.at fun o e => F.keep _ o e
  have hvl := hi.length
  show wpAny _ _ (execs (_ :: _) (envOf _ ⟨_, _, _, _, _⟩ _ _ _)) _ _ _
  w_on
  iterate 3 walk1
  refine nmE_fn Ms Ms.rows rfl fun fr' hfr => ?_
  refine callWith_fn (i := 6) (mg := mg) rfl ?_
  iterate 8 walk1
  refine slice_listT (lo := none) (hi := some ((4 : Nat) : Int)) hscs .none (.int _ _) ?_ (by with_unfolding_all rfl) (by simp [sizeLine]; omega)
  rw [slicePick_upto', List.toList_toArray]
  walk1
  refine ⟨hfr.keeps fun b o e => Heap.get?_push_of_some _ (Heap.get?_push_of_some _ e), ?_⟩
  refine ro_call (ns := ns.take 4) (vs := vs.take 4) (Ms.keeps fun b o e => Heap.get?_push_of_some _ (Heap.get?_push_of_some _ e)) (hfr.keeps fun b o e => Heap.get?_push_of_some _ (Heap.get?_push_of_some _ e)) hroom (isList_pushed _ _ _) (ints_take 4 hi) (by simp; omega) ?_
  intro T A B lp lw h2 tk2 hk2 hT hA hB hg1 hg2 hl1 hl2 hf1 hf2
  have hold : ∀ b o, s.heap.get? b = some o → h2.get? b = some o := fun b o e => hk2 b o (Heap.get?_push_of_some _ (Heap.get?_push_of_some _ e))
  have hfA := fresh2 hf1
  have hfB := fresh2 hf2
  obtain ⟨oA, hoA, hoA1, hoA2⟩ := id hA
  obtain ⟨oB, hoB, hoB1, hoB2⟩ := id hB
  have F2 := F.keeps hold
  have N2 : News h₀ L h2 [(A, oA), (B, oB)] := by
    intro p hp
    simp only [List.mem_cons, List.not_mem_nil, or_false] at hp
    rcases hp with rfl | rfl
    · exact made F hoA hfA
    · exact made F hoB hfB
  clear hA hB hk2 hold hf1 hf2
  iterate 8 walk1
  refine' h A B oA oB lp lw _ _ _ ?F9 ?N9 ⟨hoA1, hoA2⟩ ⟨hoB1, hoB2⟩ ?a9 ?b9 hg1 hg2 (by simp at hl1; omega) (by simp at hl2; omega)
  case F9 => assumption
  case N9 => assumption
  case a9 => exact rfl
  case b9 => exact rfl
end Mine
end
section
open PySem PySem.W PyProof.Rows PySem.Calls PySem.Spec
set_option Elab.async false
set_option maxRecDepth 100000
namespace Mine
local macro_rules | `(tactic| walk_at "eval Name") => `(tactic| ((with_reducible show wpAny _ _ (eval (Expr.Name (Str.ofString "len") _) _) _ _ _); k_dflt (refine nmE_len (by assumption) ?_)))
local macro_rules | `(tactic| walk_at "eval Name") => `(tactic| ((with_reducible show wpAny _ _ (eval (Expr.Name (Str.ofString "range") _) _) _ _ _); k_dflt (refine nmE_range (by assumption) ?_)))
local macro_rules | `(tactic| walk_at "eval Name") => `(tactic| (k_dflt (refine' nmE_local ?k1 ?k2 ?_; (case k1 => first | assumption | exact Fr.ns (by assumption)); (case k2 => first | exact rfl | assumption); k_whole)))


theorem wordOk_len {x : Str} (h : wordOk x = true) : x.length ≤ 100 := by
  unfold wordOk at h
  simp only [Bool.and_eq_true, decide_eq_true_eq] at h
  exact h.2
theorem wordOk_str {x : Str} (h : wordOk x = true) : PyData.strOk x = true := by
  unfold wordOk at h
  simp only [Bool.and_eq_true, decide_eq_true_eq] at h
  exact h.1.2
theorem patOk_word {x : Str} (h : patOk x = true) : wordOk x = true := by
  unfold patOk at h
  simp only [Bool.and_eq_true] at h
  exact h.1.1
theorem nmE_fn2 {MM : Model} {A : Around} {E : Value → Shared → Prop} {s : Shared} {env : Env} {mg mb : Str → Option Value} {pos : Pos} {Q : Value → Shared → Prop} {i : Nat} {f : Addr} {n : Str} {a : Arguments} {b : List Stmt} {sc : Scope}
    (M : Md mg mb s.heap) (hf : FnIn mg s.heap i f) (hd : defAt i = some (n, a, b, sc)) (h : Q (.ref f) s)
    (hg : env.globals = mainGlobals := by rfl) (hk : env.scope.kind = .function := by rfl) (hx : env.kindOf n = some .globalImplicit := by rfl) (hb : (n == ("__debug__" : Str)) = false := by decide) :
    wpAny MM A (eval (.Name n pos) env) Q E s := by
  unfold FnIn at hf
  rw [hd] at hf
  exact Name_function_global hk hx (loadGlobal_global (hg ▸ M.g) hf.1 h) hb
/-- what stands behind «parse_http_list(','.join(xs + ['/']))[:-1]» -/
theorem cut_texts {l l' : List (Str × Tok)} {t : Tok} (h : l'.map (·.1) = (pend ((Txt.join (Str.ofString ",") ((l ++ [(Str.ofString "/", t)]).map (·.1))).cps.toList.foldl pstep pinit)).map Txt.strip) (hg : ∀ p ∈ l, wordOk p.1 = true) :
    l'.length = l.length + 1 ∧ (l'.take l.length).map (·.1) = l.map (·.1) := by
  rw [List.map_append, show ([(Str.ofString "/", t)].map (·.1) : List Str) = [Str.ofString "/"] from rfl, parse_join _ (fun x hx => by obtain ⟨p, hp, rfl⟩ := List.mem_map.mp hx; exact hg p hp)] at h
  have h1 := congrArg List.length h
  simp only [List.length_map, List.length_append, List.length_cons, List.length_nil] at h1
  refine ⟨by omega, ?_⟩
  rw [List.map_take, h, List.take_append_of_le_length (by simp), List.take_of_length_le (by simp)]
theorem take_vals {l' : List (Str × Tok)} {k : Nat} (h : l'.length = k + 1) : (strValues l').take ((strValues l').length - 1) = strValues (l'.take k) := by
  have : (strValues l').length = l'.length := by simp [strValues]
  rw [this, h, Nat.add_sub_cancel]
  unfold strValues
  rw [List.map_take]
theorem words_bound {l : List (Str × Tok)} {t : Tok} (hg : ∀ p ∈ l, wordOk p.1 = true) : ∀ p ∈ l ++ [(Str.ofString "/", t)], p.1.length ≤ 100 := by
  intro p hp
  rcases List.mem_append.mp hp with hp | hp
  · exact wordOk_len (hg p hp)
  · rw [List.mem_singleton.mp hp]; show (Str.ofString "/").length ≤ 100; decide
theorem slice_last {l' : List (Str × Tok)} {k : Nat} (h : l'.length = k + 1) : slicePick (strValues l').toArray none (some (-((1 : Nat) : Int))) none = (strValues (l'.take k)).toArray := by
  rw [slicePick_butLast _ 1 (Nat.le_refl _), List.toList_toArray, List.size_toArray, take_vals h]
theorem push2 {h₀ h : Heap} {L : Addr} {m : Str → Option Value} {news : List (Addr × Obj)} (F : Fr h₀ L h m) (N : News h₀ L h news) (o₁ o₂ : Obj) (hf : o₁.isFreed = false := by rfl) (hf2 : o₂.isFreed = false := by rfl) :
    News h₀ L ((h.push o₁).push o₂) ((h.objs.size + 1, o₂) :: news) := by
  have N1 := News.push (F.push o₁) (News.push F N o₁ hf) o₂ hf2
  rw [Heap.size_push] at N1
  intro p hp
  rcases List.mem_cons.mp hp with rfl | hp
  · exact N1 _ (.head _)
  · exact N1 p (.tail _ (.tail _ hp))
/-- the rows' lists, for the ledger -/
theorem ents_of {h₀ g h : Heap} {L : Addr} {m : Str → Option Value} (F : Fr h₀ L g m) : ∀ {rws : List Rw}, (∀ q ∈ rws, h.IsList q.1 (natVals q.2.1).toArray) → (∀ q ∈ rws, g.get? q.1 = none) →
    ∃ ents, News h₀ L h ents ∧ ∀ q ∈ rws, ∃ o, (q.1, o) ∈ ents ∧ LstO o (natVals q.2.1)
  | [], _, _ => ⟨[], News.nil, fun _ hq => nomatch hq⟩
  | q :: rws, h1, h2 => by
    obtain ⟨ents, N, he⟩ := ents_of F (rws := rws) (fun q' hq => h1 q' (.tail _ hq)) (fun q' hq => h2 q' (.tail _ hq))
    obtain ⟨o, ho, hc, hd⟩ := h1 q (.head _)
    refine ⟨(q.1, o) :: ents, ?_, ?_⟩
    · intro p hp
      rcases List.mem_cons.mp hp with rfl | hp
      · exact made F ho (h2 q (.head _))
      · exact N p hp
    · intro q' hq'
      rcases List.mem_cons.mp hq' with rfl | hq'
      · exact ⟨o, .head _, hc, hd⟩
      · obtain ⟨o', h3, h4⟩ := he q' hq'
        exact ⟨o', .tail _ h3, h4⟩
theorem take_sub {l l' : List (Str × Tok)} {k : Nat} (h : (l'.take k).map (·.1) = l.map (·.1)) {G : Str → Prop} (hg : ∀ p ∈ l, G p.1) : ∀ p ∈ l'.take k, G p.1 := by
  intro p hp
  have : p.1 ∈ l.map (·.1) := by rw [← h]; exact List.mem_map.mpr ⟨p, hp, rfl⟩
  obtain ⟨q, hq, e⟩ := List.mem_map.mp this
  rw [← e]; exact hg q hq
set_option maxHeartbeats 4000000 in
theorem la_b {prog : Program} {w : World} {dp un : Nat} {fr : Option (List Env)} {gd : Option (List Code)} {s : Shared} {mg mb m : Str → Option Value} {f L A B : Addr} {cd : Value} {oA oB : Obj} {lp lw : List (Str × Tok)}
    {h₀ : Heap} {Q : Flow → Shared → Prop}
    (M : Md mg mb h₀) (F : Fr h₀ L s.heap m) (N : News h₀ L s.heap [(A, oA), (B, oB)]) (hA : LstO oA (strValues lp)) (hB : LstO oB (strValues lw)) (hmA : m (Str.ofString "firsts") = some (.ref A)) (hmB : m (Str.ofString "seconds") = some (.ref B))
    (hg1 : ∀ p ∈ lp, wordOk p.1 = true) (hg2 : ∀ p ∈ lw, wordOk p.1 = true) (hl1 : lp.length ≤ 6) (hl2 : lw.length ≤ 11) (hroom : dp + 3 < recursionLimit) (hun : un + 400 < cLine)
    (h : ∀ R oR (rws : List Rw) ents h' tk m', Fr h₀ L h' m' → News h₀ L h' ((R, oR) :: (A, oA) :: (B, oB) :: ents) → LstO oR (rws.map rwRef) → (∀ q ∈ rws, ∃ o, (q.1, o) ∈ ents ∧ LstO o (natVals q.2.1)) →
      rws.map (fun q => q.2.1.map (·.1)) = (List.range (lp.length + 1)).map (rowAt (lp.map (·.1)) (lw.map (·.1))) →
      m' (Str.ofString "due") = some (.ref R) → m' (Str.ofString "firsts") = some (.ref A) → m' (Str.ofString "seconds") = some (.ref B) →
      wpAny (model prog w) (Ar dp un fr gd) (execs ((bodyAt 9).drop 2) (laEnv L f cd)) Q (fun _ _ => False) { s with heap := h', toks := tk }) :
    wpAny (model prog w) (Ar dp un fr gd) (execs ((bodyAt 9).drop 1) (laEnv L f cd)) Q (fun _ _ => False) s := by
  have KX : Frag.In [] h₀ := fun _ _ e => nomatch e
  have Ms : Md mg mb s.heap := M.keeps F.keep
  show wpAny _ _ (execs (_ :: _) (envOf _ ⟨_, _, _, _, _⟩ _ _ _)) _ _ _
  w_on
  iterate 3 walk1
  obtain ⟨fc, hfc⟩ := M.cut
  obtain ⟨fp, hfp⟩ := M.parse
  refine nmE_fn2 (i := 8) Ms (hfc.keeps F.keep) rfl ?_
  refine callWith_fn (i := 8) (mg := mg) rfl ?_
  iterate 3 walk1
  refine nmE_fn2 (i := 4) Ms (hfp.keeps F.keep) rfl ?_
  refine callWith_fn (i := 4) (mg := mg) rfl ?_
  iterate 12 walk1
  refine newList_K F N ?_ (by simp [sizeLine])
  intro D1 h1 F1 N1 _
  refine add_lists (vs := strValues lp) (ws := [Value.str (Str.ofString "/") (s.toks + 1)]) F1 N1 (hA.at (N1 (A, oA) (by simp)).1) ⟨_, (N1 _ (.head _)).1, rfl, _, rfl⟩ ?_ (by simp [sizeLine, strValues]; omega)
  intro h2 F2 N2
  walk1
  refine join_strs (xs := lp ++ [(Str.ofString "/", s.toks + 1)]) (strList_append (N2 _ (.head _)).1 rfl) (words_bound hg1) (by simp; omega) (by decide) ?_
  intro tj kj hjl
  walk1
  refine ⟨hfp.keeps F2.keep, pa_call (M.keeps F2.keep) (hfp.keeps F2.keep) (by omega) (by omega) ?_⟩
  intro E1 l1 h3 tk3 hk3 hE1 hfE1 hl1e
  obtain ⟨hle1, hle2⟩ := cut_texts hl1e hg1
  obtain ⟨oE, hoE, hoE1, hoE2⟩ := id hE1
  have N3 : News h₀ L h3 [(A, oA), (B, oB)] := fun p hp => ⟨hk3 _ _ (N2 p (.tail _ (.tail _ hp))).1, (N2 p (.tail _ (.tail _ hp))).2⟩
  have F3 := F2.keeps hk3
  clear N2 N1 F1 F2 hk3
  iterate 7 walk1
  refine slice_listT (lo := none) (hi := some (-((1 : Nat) : Int))) hE1 .none (.int _ _) ?_ (by with_unfolding_all rfl) (by simp [sizeLine, strValues]; omega)
  rw [slice_last hle1]
  have F4 := F3.keeps (fun b o e => Heap.get?_push_of_some { cls := .type "list", data := .seq (strValues (l1.take lp.length)).toArray } (Heap.get?_push_of_some { cls := .type "slice", data := .fields #[Value.none, Value.int (-1) (tk3 + 1), Value.none] } e))
  have N4 := push2 F3 N3 { cls := .type "slice", data := .fields #[Value.none, Value.int (-1) (tk3 + 1), Value.none] } { cls := .type "list", data := .seq (strValues (l1.take lp.length)).toArray }
  dsimp only at F4 N4 ⊢
  generalize ((h3.push { cls := .type "slice", data := .fields #[Value.none, Value.int (-1) (tk3 + 1), Value.none] }).push { cls := .type "list", data := .seq (strValues (l1.take lp.length)).toArray }) = h4 at F4 N4 ⊢
  generalize h3.objs.size + 1 = P1 at N4 ⊢
  clear F3 N3 hE1 hoE
  have Ms4 : Md mg mb h4 := M.keeps F4.keep
  iterate 3 walk1
  refine nmE_fn2 (i := 4) Ms4 (hfp.keeps F4.keep) rfl ?_
  refine callWith_fn (i := 4) (mg := mg) rfl ?_
  iterate 12 walk1
  refine newList_K F4 N4 ?_ (by simp [sizeLine])
  intro D5 h5 F5 N5 _
  refine add_lists (vs := strValues lw) F5 N5 (hB.at (N5 (B, oB) (by simp)).1) ⟨_, (N5 _ (.head _)).1, rfl, _, rfl⟩ ?_ (by simp [sizeLine, strValues]; omega)
  intro h6 F6 N6
  walk1
  refine join_strs (xs := lw ++ [(Str.ofString "/", _)]) (strList_append (N6 _ (.head _)).1 rfl) (words_bound hg2) (by simp; omega) (by decide) ?_
  intro tj2 kj2 hjl2
  walk1
  refine ⟨hfp.keeps F6.keep, pa_call (M.keeps F6.keep) (hfp.keeps F6.keep) (by omega) (by omega) ?_⟩
  intro E2 l2 h7 tk7 hk7 hE2 hfE2 hl2e
  obtain ⟨hle3, hle4⟩ := cut_texts hl2e hg2
  have N7 : News h₀ L h7 [(P1, { cls := .type "list", data := .seq (strValues (l1.take lp.length)).toArray }), (A, oA), (B, oB)] := fun p hp => ⟨hk7 _ _ (N6 p (.tail _ (.tail _ hp))).1, (N6 p (.tail _ (.tail _ hp))).2⟩
  have F7 := F6.keeps hk7
  clear N6 N5 F5 F6 hk7
  iterate 7 walk1
  refine slice_listT (lo := none) (hi := some (-((1 : Nat) : Int))) hE2 .none (.int _ _) ?_ (by with_unfolding_all rfl) (by simp [sizeLine, strValues]; omega)
  rw [slice_last hle3]
  have F8 := F7.keeps (fun b o e => Heap.get?_push_of_some { cls := .type "list", data := .seq (strValues (l2.take lw.length)).toArray } (Heap.get?_push_of_some { cls := .type "slice", data := .fields #[Value.none, Value.int (-1) (tk7 + 1), Value.none] } e))
  have N8 := push2 F7 N7 { cls := .type "slice", data := .fields #[Value.none, Value.int (-1) (tk7 + 1), Value.none] } { cls := .type "list", data := .seq (strValues (l2.take lw.length)).toArray }
  dsimp only at F8 N8 ⊢
  generalize ((h7.push { cls := .type "slice", data := .fields #[Value.none, Value.int (-1) (tk7 + 1), Value.none] }).push { cls := .type "list", data := .seq (strValues (l2.take lw.length)).toArray }) = h8 at F8 N8 ⊢
  generalize h7.objs.size + 1 = P2 at N8 ⊢
  clear F7 N7 hE2
  walk1
  have hlt1 : (l1.take lp.length).length = lp.length := by simp [hle1]
  have hlt2 : (l2.take lw.length).length = lw.length := by simp [hle3]
  refine ⟨hfc.keeps F8.keep, cut_call (ps := l1.take lp.length) (ws := l2.take lw.length) (M.keeps F8.keep) (hfc.keeps F8.keep) hroom hun ⟨_, (N8 (P1, _) (.tail _ (.head _))).1, rfl, _, rfl⟩ ⟨_, (N8 (P2, _) (.head _)).1, rfl, _, rfl⟩
    (take_sub hle2 (G := fun x => x.length ≤ 100) fun p hp => wordOk_len (hg1 p hp)) (by omega) (take_sub hle4 (G := fun x => x.length ≤ 100) fun p hp => wordOk_len (hg2 p hp)) (by omega)
    (fun y hy => by obtain ⟨p, hp, rfl⟩ := List.mem_map.mp hy; exact take_sub hle2 (G := fun x => PyData.strOk x = true) (fun p hp => wordOk_str (hg1 p hp)) p hp)
    (fun y hy => by obtain ⟨p, hp, rfl⟩ := List.mem_map.mp hy; exact take_sub hle4 (G := fun x => PyData.strOk x = true) (fun p hp => wordOk_str (hg2 p hp)) p hp) ?_⟩
  intro R rws h9 tk9 hk9 hR hrw hrows hfR hfr
  rw [hle2, hle4, hlt1] at hrows
  obtain ⟨oR, hoR, hoR1, hoR2⟩ := id hR
  obtain ⟨ents, Ne, hents⟩ := ents_of F8 hrw hfr
  have F9 := F8.keeps hk9
  have N9 : News h₀ L h9 ((R, oR) :: (A, oA) :: (B, oB) :: ents) := by
    intro p hp
    simp only [List.mem_cons] at hp
    rcases hp with rfl | rfl | rfl | hp
    · exact made F8 hoR hfR
    · exact ⟨hk9 _ _ (N8 (A, oA) (by simp)).1, (N8 (A, oA) (by simp)).2⟩
    · exact ⟨hk9 _ _ (N8 (B, oB) (by simp)).1, (N8 (B, oB) (by simp)).2⟩
    · exact Ne p hp
  clear N8 F8 hk9
  refine stN F9 N9 ?_
  intro h10 F10 N10
  exact h R oR rws ents _ _ _ F10 N10 ⟨hoR1, hoR2⟩ hents hrows rfl hmA hmB
end Mine
end
section
open PySem PySem.W PyProof.Rows PySem.Calls PySem.Spec
set_option Elab.async false
set_option maxRecDepth 100000
namespace Mine
local macro_rules | `(tactic| walk_at "eval Name") => `(tactic| ((with_reducible show wpAny _ _ (eval (Expr.Name (Str.ofString "len") _) _) _ _ _); k_dflt (refine nmE_len (by assumption) ?_)))
local macro_rules | `(tactic| walk_at "eval Name") => `(tactic| ((with_reducible show wpAny _ _ (eval (Expr.Name (Str.ofString "range") _) _) _ _ _); k_dflt (refine nmE_range (by assumption) ?_)))
local macro_rules | `(tactic| walk_at "eval Name") => `(tactic| (k_dflt (refine' nmE_local ?k1 ?k2 ?_; (case k1 => first | assumption | exact Fr.ns (by assumption)); (case k2 => first | exact rfl | assumption); k_whole)))



section
variable {prog : Program} {w : World} {A : Around} {E : Value → Shared → Prop} {s : Shared} {env : Env} {h₀ : Heap} {x : Str} {body : List Stmt} {Q : Flow → Shared → Prop}
theorem in_nats {l : Addr} {r : List (Nat × Tok)} {k : Nat} {t : Tok} {Q : Value → Shared → Prop} (hl : s.heap.IsList l (natVals r).toArray) (hu : A.units + 10 < cLine) (h : Q (.bool (decide (k ∈ r.map (·.1)))) s) :
    wpAny (model prog w) A (compareOp .In (.int (k : Int) t) (.ref l)) Q E s := by
  refine SeqAt.in_list_reads (reads_newData hl (ke_carried (natVals_are r))) (Reads.int _ _) (ke_canLayAll0 _) rfl (by rw [ke_depthAll]; simp; omega) ?_
  have : ((r.map fun p => (p.1 : Int)).map PyData.int).any (fun y => PyData.eqv y (.int (k : Int))) = decide (k ∈ r.map (·.1)) := by
    induction r with
    | nil => simp
    | cons p r ih =>
      have ih' := ih
      simp only [List.map_cons, List.any_cons, List.mem_cons]
      rw [Bool.eq_iff_iff]
      simp only [PyData.eqv, Bool.or_eq_true, beq_iff_eq, decide_eq_true_eq, List.any_map, List.any_eq_true, List.mem_map, Function.comp]
      constructor
      · rintro (h | ⟨q, hq, e⟩)
        · left; omega
        · right; exact ⟨q, hq, by omega⟩
      · rintro (h | ⟨q, hq, e⟩)
        · left; omega
        · right; exact ⟨q, hq, by omega⟩
  rw [this]
  exact h
theorem iter_range {r : Addr} {n : Nat} {t u v : Tok} {m₀ : Str → Option Value} {news : List (Addr × Obj)} (J : Nat → (Str → Option Value) → List (Addr × Obj) → Prop)
    (hh : A.handled = none) (hr : IsRange s.heap r 0 (n : Int) 1 t u v) (hn : n ≤ 100000) (F : Fr h₀ env.locals s.heap m₀) (N : News h₀ env.locals s.heap news) (hj : J 0 m₀ news)
    (turn : ∀ i tv m₁ news₁ h tk own I, i < n → (∀ p ∈ own, p.1 = I) → (∃ o, (I, o) ∈ own) → (∀ p ∈ news₁, p.1 ≠ I) → J i m₁ news₁ → Fr h₀ env.locals h (fun y => if y = x then some (.int (i : Int) tv) else m₁ y) → News h₀ env.locals h (news₁ ++ own) →
      wpAny (model prog w) A (execs body env) (LpPost h₀ env.locals I (J (i + 1)) own { s with heap := h, toks := tk } Q) E { s with heap := h, toks := tk })
    (done : ∀ m₁ news₁ h tk, J n m₁ news₁ → Fr h₀ env.locals h m₁ → News h₀ env.locals h news₁ → Q .next { s with heap := h, toks := tk }) :
    wpAny (model prog w) A (pyIter (.ref r)) (fun it s₂ => LoopAtV prog w A h₀ env x body Q E it s₂) E s := by
  refine wpAny_pyIter_range hr (small_one (by decide) (by decide) (by omega) (by omega)) ?_
  have hsz : Builtin.Range.rangeSize 0 (n : Int) 1 = (n : Int) := by rw [rangeSize_one]; split <;> omega
  rw [hsz]
  refine loop_walk (l := s.heap.objs.size) J (Walks.range hh _ 0 1 n) (by intro b hb; exact .inl (List.mem_singleton.mp hb)) (fun hm => absurd F.ns.lt ((List.mem_singleton.mp hm) ▸ Nat.lt_irrefl _)) (next_is_new F)
    (fun i h st => ⟨_, st⟩) (fun p hp e => absurd (Heap.lt_size (N p hp).1) (e ▸ Nat.lt_irrefl _)) (rangeIter0 _ _ _) (F.push _) (fun p hp => ⟨Heap.get?_push_of_some _ (N p hp).1, (N p hp).2⟩) hj ?_ done
  rintro i v m₁ news₁ h tk own hi ⟨tv, rfl⟩ h1 h2 h3 hJ F₁ N₁
  rw [show (0 + (i : Int) * 1) = (i : Int) by omega] at F₁
  exact turn i tv m₁ news₁ h tk own _ hi (fun p hp => (h1 p hp).elim id id) h2 h3 hJ F₁ N₁
end
theorem slice_first {l : List (Str × Tok)} {k : Nat} : slicePick (strValues l).toArray none (some (k : Int)) none = (strValues (l.take k)).toArray := by
  rw [slicePick_upto', List.toList_toArray]
  unfold strValues
  rw [List.map_take]
set_option maxHeartbeats 4000000 in
theorem la_turn {prog : Program} {w : World} {dp un : Nat} {fr : Option (List Env)} {gd : Option (List Code)} {s : Shared} {mg mb m : Str → Option Value} {f L A B R : Addr} {cd : Value} {oA oB oR : Obj} {lp lw : List (Str × Tok)} {rws : List Rw} {ents : List (Addr × Obj)} {k j : Nat} {tk tj : Tok}
    {h₀ : Heap} {Q : Flow → Shared → Prop}
    (M : Md mg mb h₀) (F : Fr h₀ L s.heap m) (N : News h₀ L s.heap ((R, oR) :: (A, oA) :: (B, oB) :: ents)) (hA : LstO oA (strValues lp)) (hB : LstO oB (strValues lw)) (hR : LstO oR (rws.map rwRef)) (hents : ∀ q ∈ rws, ∃ o, (q.1, o) ∈ ents ∧ LstO o (natVals q.2.1))
    (hrows : rws.map (fun q => q.2.1.map (·.1)) = (List.range (lp.length + 1)).map (rowAt (lp.map (·.1)) (lw.map (·.1))))
    (hmA : m (Str.ofString "firsts") = some (.ref A)) (hmB : m (Str.ofString "seconds") = some (.ref B)) (hmR : m (Str.ofString "due") = some (.ref R)) (hmk : m (Str.ofString "k") = some (.int (k : Int) tk)) (hmm : m (Str.ofString "m") = some (.int (j : Int) tj))
    (hg1 : ∀ p ∈ lp, patOk p.1 = true) (hg2 : ∀ p ∈ lw, wordOk p.1 = true) (hl1 : lp.length ≤ 6) (hl2 : lw.length ≤ 11) (hk : k ≤ lp.length) (hj : j ≤ lw.length) (hroom : dp + 3 < recursionLimit) (hun : un + 400 < cLine)
    (h : ∀ h' tk m', Fr h₀ L h' m' → News h₀ L h' ((R, oR) :: (A, oA) :: (B, oB) :: ents) → m' (Str.ofString "firsts") = some (.ref A) → m' (Str.ofString "seconds") = some (.ref B) → m' (Str.ofString "due") = some (.ref R) → m' (Str.ofString "k") = m (Str.ofString "k") → Q .next { s with heap := h', toks := tk }) :
    wpAny (model prog w) (Ar dp un fr gd) (execs (nthFor 0 (nthFor 3 (bodyAt 9))) (laEnv L f cd)) Q (fun _ _ => False) s := by
  have KX : Frag.In [] h₀ := fun _ _ e => nomatch e
  have Ms : Md mg mb s.heap := M.keeps F.keep
  obtain ⟨fe, hfe⟩ := M.em
  show wpAny _ _ (execs (_ :: _) (envOf _ ⟨_, _, _, _, _⟩ _ _ _)) _ _ _
  w_on
  iterate 3 walk1
  refine nmE_fn2 (i := 2) Ms (hfe.keeps F.keep) rfl ?_
  refine callWith_fn (i := 2) (mg := mg) rfl ?_
  iterate 14 walk1
  have hAs : s.heap.IsList A (strValues lp).toArray := hA.at (N (A, oA) (by simp)).1
  refine slice_listT (lo := none) (hi := some (k : Int)) hAs .none (.int _ _) ?_ (by with_unfolding_all rfl) (by simp [sizeLine, strValues]; omega)
  rw [slice_first]
  have F1 := F.keeps (fun b o e => Heap.get?_push_of_some { cls := .type "list", data := .seq (strValues (lp.take k)).toArray } (Heap.get?_push_of_some { cls := .type "slice", data := .fields #[Value.none, Value.int (k : Int) tk, Value.none] } e))
  have N1 := push2 F N { cls := .type "slice", data := .fields #[Value.none, Value.int (k : Int) tk, Value.none] } { cls := .type "list", data := .seq (strValues (lp.take k)).toArray }
  dsimp only at F1 N1 ⊢
  generalize ((s.heap.push { cls := .type "slice", data := .fields #[Value.none, Value.int (k : Int) tk, Value.none] }).push { cls := .type "list", data := .seq (strValues (lp.take k)).toArray }) = h1 at F1 N1 ⊢
  generalize s.heap.objs.size + 1 = P1 at N1 ⊢
  iterate 4 walk1
  refine newList_K F1 N1 ?_ (by simp [sizeLine])
  intro D2 h2 F2 N2 _
  refine add_lists (vs := strValues (lp.take k)) F2 N2 ⟨_, (N2 (P1, _) (.tail _ (.head _))).1, rfl, _, rfl⟩ ⟨_, (N2 _ (.head _)).1, rfl, _, rfl⟩ ?_ (by simp [sizeLine, strValues]; omega)
  intro h3 F3 N3
  walk1
  refine join_strs (xs := lp.take k ++ [(Str.ofString "/", _)]) (strList_append (N3 _ (.head _)).1 rfl) (words_bound fun p hp => patOk_word (hg1 p (List.mem_of_mem_take hp))) (by simp; omega) (by decide) ?_
  intro t4 k4 hj4
  have N4 : News h₀ L h3 ((R, oR) :: (A, oA) :: (B, oB) :: ents) := fun p hp => N3 p (.tail _ (.tail _ (.tail _ hp)))
  clear N1 N2 N3 F1 F2
  iterate 14 walk1
  have hBs : h3.IsList B (strValues lw).toArray := hB.at (N4 (B, oB) (by simp)).1
  refine slice_listT (lo := none) (hi := some (j : Int)) hBs .none (.int _ _) ?_ (by with_unfolding_all rfl) (by simp [sizeLine, strValues]; omega)
  rw [slice_first]
  have F5 := F3.keeps (fun b o e => Heap.get?_push_of_some { cls := .type "list", data := .seq (strValues (lw.take j)).toArray } (Heap.get?_push_of_some { cls := .type "slice", data := .fields #[Value.none, Value.int (j : Int) tj, Value.none] } e))
  have N5 := push2 F3 N4 { cls := .type "slice", data := .fields #[Value.none, Value.int (j : Int) tj, Value.none] } { cls := .type "list", data := .seq (strValues (lw.take j)).toArray }
  dsimp only at F5 N5 ⊢
  generalize ((h3.push { cls := .type "slice", data := .fields #[Value.none, Value.int (j : Int) tj, Value.none] }).push { cls := .type "list", data := .seq (strValues (lw.take j)).toArray }) = h5 at F5 N5 ⊢
  generalize h3.objs.size + 1 = P5 at N5 ⊢
  iterate 4 walk1
  refine newList_K F5 N5 ?_ (by simp [sizeLine])
  intro D6 h6 F6 N6 _
  refine add_lists (vs := strValues (lw.take j)) F6 N6 ⟨_, (N6 (P5, _) (.tail _ (.head _))).1, rfl, _, rfl⟩ ⟨_, (N6 _ (.head _)).1, rfl, _, rfl⟩ ?_ (by simp [sizeLine, strValues]; omega)
  intro h7 F7 N7
  walk1
  refine join_strs (xs := lw.take j ++ [(Str.ofString "/", _)]) (strList_append (N7 _ (.head _)).1 rfl) (words_bound fun p hp => hg2 p (List.mem_of_mem_take hp)) (by simp; omega) (by decide) ?_
  intro t8 k8 hj8
  have N8 : News h₀ L h7 ((R, oR) :: (A, oA) :: (B, oB) :: ents) := fun p hp => N7 p (.tail _ (.tail _ (.tail _ hp)))
  clear N4 N5 N6 N7 F3 F5 F6
  walk1
  refine ⟨hfe.keeps F7.keep, em_call (M.keeps F7.keep) (hfe.keeps F7.keep) (by omega) (by omega) (by omega) ?_⟩
  intro b h9 tk9 hem hk9
  have hb : b = decide (j ∈ rowAt (lp.map (·.1)) (lw.map (·.1)) k) := by
    refine em_cut (lp.map (·.1)) (lw.map (·.1)) (fun x hx => by obtain ⟨p, hp, rfl⟩ := List.mem_map.mp hx; exact hg1 p hp) (fun x hx => by obtain ⟨p, hp, rfl⟩ := List.mem_map.mp hx; exact hg2 p hp) (by simpa using hk) (by simpa using hj) ?_
    have e := hem
    rw [List.map_append, List.map_append, List.map_take, List.map_take] at e
    exact e
  have F9 := F7.keeps hk9
  have N9 := N8.grown hk9
  clear N8 F7 hk9
  obtain ⟨q, hq⟩ : ∃ q, rws[k]? = some q := by
    have : rws.length = lp.length + 1 := by have := congrArg List.length hrows; simpa using this
    exact ⟨rws[k], List.getElem?_eq_getElem (by omega)⟩
  have hqr : q.2.1.map (·.1) = rowAt (lp.map (·.1)) (lw.map (·.1)) k := by
    have h1 := congrArg (fun l => l[k]?) hrows
    simp only [List.getElem?_map, hq, List.getElem?_range (show k < lp.length + 1 by omega)] at h1
    exact Option.some.inj h1
  obtain ⟨oq, hoq, hoq1⟩ := hents q (List.mem_of_getElem? hq)
  refine stN F9 N9 ?_
  intro h10 F10 N10
  iterate 10 walk1
  refine' item_at (v := rwRef q) (vs := rws.map rwRef) ?l9 ?x9 ?_ ?s9
  case s9 => with_unfolding_all rfl
  case l9 => exact hR.at (N10 (R, oR) (by simp)).1
  case x9 => rw [if_pos (by omega)]; exact ⟨by omega, by rw [Int.toNat_natCast, List.getElem?_map, hq]; rfl⟩
  refine in_nats (r := q.2.1) (hoq1.at (N10 (q.1, oq) (by simp [hoq])).1) (by show un + 10 < cLine; omega) ?_
  rw [hqr, ← hb]
  refine isnot_bool ?_
  rw [bne_self_eq_false]
  iterate 3 walk1
  dsimp only
  walk1
  exact h _ _ _ F10 N10 hmA hmB hmR rfl
end Mine
end
section
open PySem PySem.W PyProof.Rows PySem.Calls PySem.Spec
set_option Elab.async false
set_option maxRecDepth 100000
namespace Mine
local macro_rules | `(tactic| walk_at "eval Name") => `(tactic| ((with_reducible show wpAny _ _ (eval (Expr.Name (Str.ofString "len") _) _) _ _ _); k_dflt (refine nmE_len (by assumption) ?_)))
local macro_rules | `(tactic| walk_at "eval Name") => `(tactic| ((with_reducible show wpAny _ _ (eval (Expr.Name (Str.ofString "range") _) _) _ _ _); k_dflt (refine nmE_range (by assumption) ?_)))
local macro_rules | `(tactic| walk_at "eval Name") => `(tactic| (k_dflt (refine' nmE_local ?k1 ?k2 ?_; (case k1 => first | assumption | exact Fr.ns (by assumption)); (case k2 => first | exact rfl | assumption); k_whole)))




def LaJ (A B R : Addr) (news : List (Addr × Obj)) (m : Str → Option Value) (n : List (Addr × Obj)) : Prop :=
  n = news ∧ m (Str.ofString "firsts") = some (.ref A) ∧ m (Str.ofString "seconds") = some (.ref B) ∧ m (Str.ofString "due") = some (.ref R)
set_option maxHeartbeats 4000000 in
theorem la_inner {prog : Program} {w : World} {dp un : Nat} {fr : Option (List Env)} {gd : Option (List Code)} {s : Shared} {mg mb m : Str → Option Value} {f L A B R : Addr} {cd : Value} {oA oB oR : Obj} {lp lw : List (Str × Tok)} {rws : List Rw} {ents : List (Addr × Obj)} {k : Nat} {tk : Tok}
    {h₀ : Heap} {Q : Flow → Shared → Prop}
    (M : Md mg mb h₀) (F : Fr h₀ L s.heap m) (N : News h₀ L s.heap ((R, oR) :: (A, oA) :: (B, oB) :: ents)) (hA : LstO oA (strValues lp)) (hB : LstO oB (strValues lw)) (hR : LstO oR (rws.map rwRef)) (hents : ∀ q ∈ rws, ∃ o, (q.1, o) ∈ ents ∧ LstO o (natVals q.2.1))
    (hrows : rws.map (fun q => q.2.1.map (·.1)) = (List.range (lp.length + 1)).map (rowAt (lp.map (·.1)) (lw.map (·.1))))
    (hmA : m (Str.ofString "firsts") = some (.ref A)) (hmB : m (Str.ofString "seconds") = some (.ref B)) (hmR : m (Str.ofString "due") = some (.ref R)) (hmk : m (Str.ofString "k") = some (.int (k : Int) tk))
    (hg1 : ∀ p ∈ lp, patOk p.1 = true) (hg2 : ∀ p ∈ lw, wordOk p.1 = true) (hl1 : lp.length ≤ 6) (hl2 : lw.length ≤ 11) (hk : k ≤ lp.length) (hroom : dp + 3 < recursionLimit) (hun : un + 400 < cLine)
    (h : ∀ h' tk m', Fr h₀ L h' m' → News h₀ L h' ((R, oR) :: (A, oA) :: (B, oB) :: ents) → m' (Str.ofString "firsts") = some (.ref A) → m' (Str.ofString "seconds") = some (.ref B) → m' (Str.ofString "due") = some (.ref R) → Q .next { s with heap := h', toks := tk }) :
    wpAny (model prog w) (Ar dp un fr gd) (execs (nthFor 3 (bodyAt 9)) (laEnv L f cd)) Q (fun _ _ => False) s := by
  have KX : Frag.In [] h₀ := fun _ _ e => nomatch e
  have Ms : Md mg mb s.heap := M.keeps F.keep
  show wpAny _ _ (execs (_ :: _) (envOf _ ⟨_, _, _, _, _⟩ _ _ _)) _ _ _
  w_on
  walk1
  refine For_invV h₀ (by rfl) (by rfl) ?_
  iterate 11 walk1
  have hBs : s.heap.IsList B (strValues lw).toArray := hB.at (N (B, oB) (by simp)).1
  have hvl : (strValues lw).toArray.size = lw.length := by simp [strValues]
  refine len_list hBs (by rw [hvl]; omega) ?_
  rw [hvl]
  iterate 3 walk1
  rw [show ((lw.length : Int) + 1) = ((lw.length + 1 : Nat) : Int) by omega]
  refine call_range_1 ?_
  refine iter_range (n := lw.length + 1) (fun i m₁ n₁ => LaJ A B R ((R, oR) :: (A, oA) :: (B, oB) :: ents) m₁ n₁ ∧ m₁ (Str.ofString "k") = some (.int (k : Int) tk)) rfl (IsRange.new _ _ _ _ _ _ _) (by omega) (F.keeps fun b o e => Heap.get?_push_of_some _ e) (N.grown fun b o e => Heap.get?_push_of_some _ e) ⟨⟨rfl, hmA, hmB, hmR⟩, hmk⟩ ?_ ?_
  · rintro i tv m₁ news₁ h1 tk1 own I hi hown hI hnI ⟨⟨rfl, a1, a2, a3⟩, a4⟩ F1 N1
    have N2 : News h₀ L h1 ((R, oR) :: (A, oA) :: (B, oB) :: (ents ++ own)) := N1
    refine la_turn (j := i) (tj := tv) (k := k) (tk := tk) (rws := rws) (ents := ents ++ own) M F1 N2 hA hB hR (fun q hq => by obtain ⟨o, h1, h2⟩ := hents q hq; exact ⟨o, List.mem_append_left _ h1, h2⟩) hrows a1 a2 a3 a4 rfl hg1 hg2 hl1 hl2 hk (by omega) hroom hun ?_
    intro h2 tk2 m2 F2 N3 b1 b2 b3 b4
    show LpEnd _ _ _ _ _ _ _
    exact LpEnd.intro (news' := (R, oR) :: (A, oA) :: (B, oB) :: ents) F2 N3 hnI ⟨⟨rfl, b1, b2, b3⟩, b4.trans a4⟩
  · rintro m₁ news₁ h1 tk1 ⟨⟨rfl, a1, a2, a3⟩, a4⟩ F1 N1
    dsimp only
    walk1
    exact h _ _ _ F1 N1 a1 a2 a3
set_option maxHeartbeats 4000000 in
theorem la_c {prog : Program} {w : World} {dp un : Nat} {fr : Option (List Env)} {gd : Option (List Code)} {s : Shared} {mg mb m : Str → Option Value} {f L A B R : Addr} {cd : Value} {oA oB oR : Obj} {lp lw : List (Str × Tok)} {rws : List Rw} {ents : List (Addr × Obj)}
    {h₀ : Heap} {Q : Flow → Shared → Prop}
    (M : Md mg mb h₀) (F : Fr h₀ L s.heap m) (N : News h₀ L s.heap ((R, oR) :: (A, oA) :: (B, oB) :: ents)) (hA : LstO oA (strValues lp)) (hB : LstO oB (strValues lw)) (hR : LstO oR (rws.map rwRef)) (hents : ∀ q ∈ rws, ∃ o, (q.1, o) ∈ ents ∧ LstO o (natVals q.2.1))
    (hrows : rws.map (fun q => q.2.1.map (·.1)) = (List.range (lp.length + 1)).map (rowAt (lp.map (·.1)) (lw.map (·.1))))
    (hmA : m (Str.ofString "firsts") = some (.ref A)) (hmB : m (Str.ofString "seconds") = some (.ref B)) (hmR : m (Str.ofString "due") = some (.ref R))
    (hg1 : ∀ p ∈ lp, patOk p.1 = true) (hg2 : ∀ p ∈ lw, wordOk p.1 = true) (hl1 : lp.length ≤ 6) (hl2 : lw.length ≤ 11) (hroom : dp + 3 < recursionLimit) (hun : un + 400 < cLine)
    (h : ∀ h' tk, h₀.StaysIn h' → Q (.ret (.bool true)) { s with heap := h', toks := tk }) :
    wpAny (model prog w) (Ar dp un fr gd) (execs ((bodyAt 9).drop 2) (laEnv L f cd)) Q (fun _ _ => False) s := by
  have KX : Frag.In [] h₀ := fun _ _ e => nomatch e
  have Ms : Md mg mb s.heap := M.keeps F.keep
  show wpAny _ _ (execs (_ :: _) (envOf _ ⟨_, _, _, _, _⟩ _ _ _)) _ _ _
  have hAs : s.heap.IsList A (strValues lp).toArray := hA.at (N (A, oA) (by simp)).1
  have hRs : s.heap.IsList R (rws.map rwRef).toArray := hR.at (N (R, oR) (by simp)).1
  have hvl : (strValues lp).toArray.size = lp.length := by simp [strValues]
  have hrl : (rws.map rwRef).toArray.size = lp.length + 1 := by have := congrArg List.length hrows; simpa using this
  w_on
  iterate 9 walk1
  refine len_list hRs (by rw [hrl]; omega) ?_
  rw [hrl]
  iterate 7 walk1
  refine len_list hAs (by rw [hvl]; omega) ?_
  rw [hvl]
  iterate 5 walk1
  · rename (_ : Int) ≠ _ => hx
    exfalso
    omega
  iterate 3 walk1
  refine For_invV h₀ (by rfl) (by rfl) ?_
  iterate 11 walk1
  refine len_list hAs (by rw [hvl]; omega) ?_
  rw [hvl]
  iterate 3 walk1
  rw [show ((lp.length : Int) + 1) = ((lp.length + 1 : Nat) : Int) by omega]
  refine call_range_1 ?_
  refine iter_range (n := lp.length + 1) (fun i m₁ n₁ => LaJ A B R ((R, oR) :: (A, oA) :: (B, oB) :: ents) m₁ n₁) rfl (IsRange.new _ _ _ _ _ _ _) (by omega) (F.keeps fun b o e => Heap.get?_push_of_some _ e) (N.grown fun b o e => Heap.get?_push_of_some _ e) ⟨rfl, hmA, hmB, hmR⟩ ?_ ?_
  · rintro i tv m₁ news₁ h1 tk1 own I hi hown hI hnI ⟨rfl, a1, a2, a3⟩ F1 N1
    have N2 : News h₀ L h1 ((R, oR) :: (A, oA) :: (B, oB) :: (ents ++ own)) := N1
    refine la_inner (k := i) (tk := tv) (rws := rws) (ents := ents ++ own) M F1 N2 hA hB hR (fun q hq => by obtain ⟨o, h1, h2⟩ := hents q hq; exact ⟨o, List.mem_append_left _ h1, h2⟩) hrows a1 a2 a3 rfl hg1 hg2 hl1 hl2 (by omega) hroom hun ?_
    intro h2 tk2 m2 F2 N3 b1 b2 b3
    show LpEnd _ _ _ _ _ _ _
    exact LpEnd.intro (news' := (R, oR) :: (A, oA) :: (B, oB) :: ents) F2 N3 hnI ⟨rfl, b1, b2, b3⟩
  · rintro m₁ news₁ h1 tk1 ⟨rfl, a1, a2, a3⟩ F1 N1
    dsimp only
    iterate 3 walk1
    exact h _ _ F1.keep
/-- the law's body gives True -/
theorem la_body {prog : Program} {w : World} {dp un : Nat} {fr : Option (List Env)} {gd : Option (List Code)} {s : Shared} {mg mb m : Str → Option Value} {f L sc : Addr} {cd : Value} {vs : List Value} {ns : List Int}
    {h₀ : Heap} {Q : Flow → Shared → Prop}
    (M : Md mg mb h₀) (F : Fr h₀ L s.heap m) (hsc : h₀.IsList sc vs.toArray) (hi : IntsAre vs ns) (hn : ns.length ≤ 1000) (hms : m (Str.ofString "script") = some (.ref sc)) (hroom : dp + 3 < recursionLimit) (hun : un + 400 < cLine)
    (h : ∀ h' tk, h₀.StaysIn h' → Q (.ret (.bool true)) { s with heap := h', toks := tk }) :
    wpAny (model prog w) (Ar dp un fr gd) (execs (bodyAt 9) (laEnv L f cd)) Q (fun _ _ => False) s := by
  refine la_a M F hsc hi hn hms (by omega) ?_
  intro A B oA oB lp lw h1 tk1 m1 F1 N1 hA hB hmA hmB hg1 hg2 hl1 hl2
  refine la_b M F1 N1 hA hB hmA hmB (fun p hp => patOk_word (hg1 p hp)) hg2 hl1 hl2 hroom hun ?_
  intro R oR rws ents h2 tk2 m2 F2 N2 hR hents hrows b1 b2 b3
  exact la_c M F2 N2 hA hB hR hents hrows b2 b3 b1 hg1 hg2 hl1 hl2 hroom hun (fun h' tk hk => h h' tk hk)
end Mine
end
open PySem PySem.W PyProof.Rows PySem.Calls PySem.Spec
set_option Elab.async false
set_option maxRecDepth 100000
namespace Mine
theorem fn_of {p : Program} {loose : List Str} {mean : ExcName → Option Value} {mg mb : Str → Option Value} {h : Heap} (T : Top p loose mean mg mb h) {i j : Nat} {n : Str} {a : Arguments} {b : List Stmt} {sc : Scope} {pos : Pos}
    (hd : defAt i = some (n, a, b, sc)) (hj : (recsOf p)[j]? = some ⟨n, a, b, sc, pos⟩) : ∃ f, FnIn mg h i f := by
  obtain ⟨f, o, pm, code, doc, h1, h2, h3, h4⟩ := T.fn _ (List.mem_of_getElem? hj)
  refine ⟨f, ?_⟩
  unfold FnIn
  rw [hd]
  exact ⟨h1, o, pm, code, doc, h2, h3, h4⟩
theorem mark_of {p : Program} {loose : List Str} {mean : ExcName → Option Value} {mg mb : Str → Option Value} {h : Heap} (T : Top p loose mean mg mb h) {x y : Str} (hv : valOf p x = some (.str y)) : ∃ t, mg x = some (.str y t) := by
  obtain ⟨v, h1, h2⟩ := T.const x _ hv
  have := h2 h
  cases this with
  | str _ t => exact ⟨t, h1⟩
theorem good_true {c : ClaimW} {cl : Str → Option Addr} {mean : ExcName → Option Value} {args : List WData} {s₁ : Shared} {s' : Shared} (hk : s₁.heap.StaysIn s'.heap) (hg : s'.gens = #[]) (hn : ∀ cls, c.raises args cls = false)
    (hp : c.post args (.bool true) args = true) (hos : s'.os = s₁.os := by rfl) : GoodW c cl mean args s₁ (.ok (.ret (.bool true))) s' :=
  ⟨.inl ⟨.bool true, .bool true, [], rfl, hn, .bool true, hp, unshared_nil⟩, hk, hos, hg⟩
end Mine
open Mine
set_option maxRecDepth 100000 in
set_option maxHeartbeats 1000000 in
theorem PySem.Challenge.cw_mq0165_01_holds : PySem.Challenge.rw_mq0165_01.Holds := by
  (w_on; o_law; k_head; (case hw => w_witness2); k_go0)
  rename Top _ _ _ _ _ _ => T
  rename Fr _ _ _ _ => F
  rename Heap.IsList _ _ _ => hL
  rename IntsAre _ _ => hI
  rename Shared.gens _ = #[] => hg
  rename ¬ _ < _ => hlen
  have M : Md _ _ _ := {
    g := T.g
    b := T.b
    nolimit := T.nolimit
    em := fn_of (i := 2) (j := 0) T rfl rfl
    parse := fn_of (i := 4) (j := 1) T rfl rfl
    rows := fn_of (i := 6) (j := 2) T rfl rfl
    fits := fn_of (i := 7) (j := 3) T rfl rfl
    cut := fn_of (i := 8) (j := 4) T rfl rfl
    marker := mark_of T (by rfl)
    gl := by
      intro x hx
      simp only [List.mem_cons, List.not_mem_nil, or_false] at hx
      rcases hx with rfl | rfl
      · exact T.free _ (by decide +kernel) (by decide +kernel) (by decide +kernel) (by decide +kernel) (by decide +kernel)
      · exact T.free _ (by decide +kernel) (by decide +kernel) (by decide +kernel) (by decide +kernel) (by decide +kernel)
    bl := T.builtins }
  have hroom : ∀ e, (callerA.deeper e).depth + 3 < recursionLimit := by
    intro e
    simp only [depth_deeper, depth_caller]
    decide
  have hun : ∀ e, (callerA.deeper e).units + 400 < cLine := by
    intro e
    have hcL9 := cLine_is
    simp only [units_deeper, units_caller]
    omega
  refine' wpAny_mono (Q := ?Qa) (E := fun _ _ => False) ?Wa (fun _ _ hq => hq) (fun _ _ hf => hf.elim)
  refine' la_body M F hL hI (by omega) ?ms ?room ?un ?fin
  case ms => exact rfl
  case room => exact hroom (laEnv 0 0 .none)
  case un => exact hun (laEnv 0 0 .none)
  case fin =>
    intro h' tk hk
    refine good_true hk hg (raisesW_false ?_) ?_
    · wrow_none_raised
    · wrow_post
