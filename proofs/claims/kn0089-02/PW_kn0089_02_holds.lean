import PyProof.Rows.All
import Wide.All
import OpenK.AllK
import Wide.FinOn
import Lean
import PySem.Challenge.RW_kn0089_02
open PySem PySem.W PyProof.Rows PySem.Calls PySem.Spec
set_option Elab.async false
set_option maxRecDepth 100000
set_option maxHeartbeats 8000000
open_top Mine.hd for PySem.Challenge.rw_kn0089_02
namespace Mine
theorem mem_of {a : Addr × Obj} {l : List (Addr × Obj)} (h : a ∈ l) : List.Mem a l := h
/-- the end of a turn: the frame, the ledger (it may have grown), the word -/
def LoopEnd (h₀ : Heap) (L : Addr) (J : (Str → Option Value) → List (Addr × Obj) → Prop) (I : Addr) (oI : Obj) (s s₂ : Shared) : Prop :=
  ∃ h' tk m' nx, s₂ = { s with heap := h', toks := tk } ∧ Fr h₀ L h' m' ∧ News h₀ L h' ((I, oI) :: nx) ∧ (∀ p ∈ nx, p.1 ≠ I) ∧ J m' nx
def LoopPost (h₀ : Heap) (L : Addr) (J : (Str → Option Value) → List (Addr × Obj) → Prop) (I : Addr) (oI : Obj) (s : Shared) (Q : Flow → Shared → Prop) (f : Flow) (s₂ : Shared) : Prop :=
  match f with
  | .ret v => Q (.ret v) s₂
  | .brk => Q .next s₂
  | _ => LoopEnd h₀ L J I oI s s₂
section
variable {prog : Program} {w : World} {A : Around} {E : Value → Shared → Prop} {s : Shared} {h₀ : Heap} {L : Addr} {m : Str → Option Value} {env : Env} {news : List (Addr × Obj)} {Q : Flow → Shared → Prop} {target : Expr} {body : List Stmt}
theorem loopW {I : Addr} {fp : List Addr} {n : Nat} {P : Nat → Value → Prop} {St : Nat → Heap → Prop} {S : List (Addr × Obj) → Prop} (J : Nat → (Str → Option Value) → List (Addr × Obj) → Prop)
    (W : Walks prog w A I fp [I] n P St) (hIo : ∀ i h, St i h → ∃ o, h.get? I = some o)
    (hSt : ∀ i h h' o nw, St i h → h.get? I = some o → h'.get? I = some o → (∀ b o, h₀.get? b = some o → h'.get? b = some o) → News h₀ L h' nw → S nw → St i h')
    (hst : St 0 s.heap) (F : Fr h₀ L s.heap m) (N : News h₀ L s.heap news) (hIL : L ≠ I) (hI₀ : h₀.get? I = none) (off : ∀ p ∈ news, p.1 ≠ I) (hS : ∀ i m nx, J i m nx → S nx) (hj : J 0 m news)
    (hE : PassesOwn (model prog w) A env E) (hlet : ∀ v, letOwnedTupleGo target (.ref I) v = pure ())
    (turn : ∀ i v m₁ nx oI h tk, i < n → P i v → J i m₁ nx → Fr h₀ L h m₁ → News h₀ L h ((I, oI) :: nx) → (∀ p ∈ nx, p.1 ≠ I) →
      wpAny (model prog w) A (assign target env v) (fun _ s₂ => wpAny (model prog w) A (execs body env) (LoopPost h₀ L (J (i + 1)) I oI s Q) E s₂) E { s with heap := h, toks := tk })
    (done : ∀ m₁ nx h tk, J n m₁ nx → Fr h₀ L h m₁ → News h₀ L h nx → Q .next { s with heap := h, toks := tk }) :
    codeAny (model prog w) A (.forLoop target (.ref I) body [] env) (fun r s' => match r with | .ok f => Q f s' | .error e => cameBackBy (model prog w) A env E e s') s := by
  refine codeAny_forLoop
    (fun k s' => ∃ h' tk m' nx i, s' = { s with heap := h', toks := tk } ∧ i ≤ n ∧ k = n + 1 - i ∧ St i h' ∧ Fr h₀ L h' m' ∧ News h₀ L h' nx ∧ (∀ p ∈ nx, p.1 ≠ I) ∧ J i m' nx) ?_ (n + 1)
    ⟨s.heap, s.toks, m, news, 0, rfl, Nat.zero_le _, rfl, hst, F, N, off, hj⟩ hlet
  rintro k s' ⟨h', tk, m', nx, i, rfl, hi, rfl, hst', F', N', off', hJ⟩
  by_cases hlt : i < n
  · refine W.item i _ _ _ hlt hst' fun v h₂ tk₂ hPv hst₂ hk₂ => ?_
    have F₂ : Fr h₀ L h₂ m' := LCg.fr_but F' hk₂ hIL hI₀
    have N₂ : News h₀ L h₂ nx := LCg.news_but N' hk₂ off'
    obtain ⟨oI, heI⟩ := hIo _ _ hst₂
    have N₃ : News h₀ L h₂ ((I, oI) :: nx) := fun p hp => by
      rcases List.mem_cons.mp hp with rfl | hp
      · exact ⟨heI, Ne.symm hIL, hI₀⟩
      · exact N₂ p hp
    refine wpAny_passesOwn hE (wpAny_mono (turn i v m' nx oI h₂ tk₂ hlt hPv hJ F₂ N₃ off') (fun _ s₂ h => ?_) fun _ _ e => e)
    refine wpAny_passesOwn hE (wpAny_mono h (fun f s₃ h₃ => ?_) fun _ _ e => e)
    have fin : LoopEnd h₀ L (J (i + 1)) I oI s s₃ → ∃ m, m < n + 1 - i ∧ ∃ h' tk m' nx j, s₃ = { s with heap := h', toks := tk } ∧ j ≤ n ∧ m = n + 1 - j ∧ St j h' ∧ Fr h₀ L h' m' ∧ News h₀ L h' nx ∧ (∀ p ∈ nx, p.1 ≠ I) ∧ J j m' nx := by
      rintro ⟨h₄, tk₄, m₄, nx₄, rfl, F₄, N₄, off₄, hJ₄⟩
      have N₄' : News h₀ L h₄ nx₄ := fun p hp => N₄ p (List.mem_cons_of_mem _ hp)
      have zI := (N₄ (I, oI) List.mem_cons_self).1
      exact ⟨n + 1 - (i + 1), by omega, h₄, tk₄, m₄, nx₄, i + 1, rfl, hlt, rfl, hSt _ _ _ _ _ hst₂ heI zI F₄.keep N₄' (hS _ _ _ hJ₄), F₄, N₄', off₄, hJ₄⟩
    cases f with
    | ret v => exact h₃
    | brk => exact h₃
    | next => exact fin h₃
    | cont => exact fin h₃
  · obtain rfl : i = n := Nat.le_antisymm hi (Nat.not_lt.mp hlt)
    refine W.done _ _ _ hst' fun h₂ tk₂ hk₂ => wpAny_execs_nil ?_
    exact done m' nx h₂ tk₂ hJ (LCg.fr_but F' hk₂ hIL hI₀) (LCg.news_but N' hk₂ off')

/-- a for over a list: of the base, or of the ledger -/
theorem for_list {ax : Addr} {its : Array Value} (J : Nat → (Str → Option Value) → List (Addr × Obj) → Prop)
    (hh : A.handled = none) (F : Fr h₀ L s.heap m) (N : News h₀ L s.heap news) (hS : ∀ i m nx, J i m nx → LCg.SrcAt h₀ ax its nx) (hj : J 0 m news)
    (hlet : ∀ i v, letOwnedTupleGo target (.ref i) v = pure ())
    (turn : ∀ I i v m₁ nx oI h tk, its[i]? = some v → J i m₁ nx → Fr h₀ L h m₁ → News h₀ L h ((I, oI) :: nx) → (∀ p ∈ nx, p.1 ≠ I) →
      wpAny (model prog w) A (assign target env v) (fun _ s₂ => wpAny (model prog w) A (execs body env) (LoopPost h₀ L (J (i + 1)) I oI s Q) E s₂) E { s with heap := h, toks := tk })
    (done : ∀ m₁ nx h tk, J its.size m₁ nx → Fr h₀ L h m₁ → News h₀ L h nx → Q .next { s with heap := h, toks := tk })
    (hE : PassesOwn (model prog w) A env E := by passes_own) :
    wpAny (model prog w) A (pyIter (.ref ax)) (fun it s₂ => codeAny (model prog w) A (.forLoop target it body [] env) (fun r s' => match r with | .ok f => Q f s' | .error e => cameBackBy (model prog w) A env E e s') s₂) E s := by
  have S := hS _ _ _ hj
  have hl := S.list F.keep N
  have hlt : ax < s.heap.objs.size := by obtain ⟨_, e, _⟩ := hl; exact Heap.lt_size e
  refine wpAny_pyIter_list hl ?_
  have up : ∀ b o, s.heap.get? b = some o → (s.heap.push { cls := .type "list_iterator", data := .fields #[.ref ax, .int 0 0] }).get? b = some o := fun b o e => Heap.get?_push_of_some _ e
  refine loopW (m := m) (news := news) J (Walks.list hh s.heap.objs.size ax (Nat.ne_of_lt hlt) its) (fun i h st => by obtain ⟨o, e, _⟩ := st.1; exact ⟨o, e⟩) LCg.list_st ⟨⟨_, Heap.get?_push_size _ rfl, rfl, rfl⟩, hl.push _⟩
    (F.keeps up) (N.grown up) (Nat.ne_of_lt F.ns.lt) (next_is_new F) (fun p hp => Nat.ne_of_lt (Heap.lt_size (N p hp).1)) hS hj hE (hlet _) ?_ ?_
  · intro i v m₁ nx oI h tk hi hP hJ F₁ N₁ off
    exact turn _ i v m₁ nx oI h tk hP hJ F₁ N₁ off
  · intro m₁ nx h tk hJ F₁ N₁
    exact done m₁ nx h tk hJ F₁ N₁

theorem range_st {I : Addr} {a c : Int} {n : Nat} : ∀ i (h h' : Heap) (o : Obj) (nw : List (Addr × Obj)), IsRangeIter h I (a + (i : Nat) * c) ((n : Int) - (i : Nat)) c → h.get? I = some o → h'.get? I = some o → (∀ b o, h₀.get? b = some o → h'.get? b = some o) → News h₀ L h' nw → True → IsRangeIter h' I (a + (i : Nat) * c) ((n : Int) - (i : Nat)) c :=
  fun i h h' o nw st e e' _ _ _ => by
    have st' : h.get? I = some _ := st
    show h'.get? I = some _
    rw [e', ← e]; exact st'

/-- a for over a range, by any step -/
theorem for_range {r : Addr} {a b c : Int} {t u v : Tok} {n : Nat} (J : Nat → (Str → Option Value) → List (Addr × Obj) → Prop)
    (hh : A.handled = none) (hr : IsRange s.heap r a b c t u v) (hsm : Builtin.Range.small a b c = true) (hn : Builtin.Range.rangeSize a b c = ((n : Nat) : Int)) (F : Fr h₀ L s.heap m) (N : News h₀ L s.heap news) (hj : J 0 m news)
    (hlet : ∀ i v, letOwnedTupleGo target (.ref i) v = pure ())
    (turn : ∀ I i t m₁ nx oI h tk, i < n → J i m₁ nx → Fr h₀ L h m₁ → News h₀ L h ((I, oI) :: nx) → (∀ p ∈ nx, p.1 ≠ I) →
      wpAny (model prog w) A (assign target env (.int (a + (i : Int) * c) t)) (fun _ s₂ => wpAny (model prog w) A (execs body env) (LoopPost h₀ L (J (i + 1)) I oI s Q) E s₂) E { s with heap := h, toks := tk })
    (done : ∀ m₁ nx h tk, J n m₁ nx → Fr h₀ L h m₁ → News h₀ L h nx → Q .next { s with heap := h, toks := tk })
    (hE : PassesOwn (model prog w) A env E := by passes_own) :
    wpAny (model prog w) A (pyIter (.ref r)) (fun it s₂ => codeAny (model prog w) A (.forLoop target it body [] env) (fun r s' => match r with | .ok f => Q f s' | .error e => cameBackBy (model prog w) A env E e s') s₂) E s := by
  refine wpAny_pyIter_range hr hsm ?_
  refine loopW (m := m) (news := news) (S := fun _ => True) J (Walks.range hh s.heap.objs.size a c n) (fun i h st => ⟨_, st⟩) range_st (by show IsRangeIter _ _ _ _ _; rw [hn]; simpa using Heap.get?_push_size _ rfl)
    (F.keeps fun _ _ e => Heap.get?_push_of_some _ e) (N.grown fun _ _ e => Heap.get?_push_of_some _ e) (Nat.ne_of_lt F.ns.lt) (next_is_new F) (fun p hp => Nat.ne_of_lt (Heap.lt_size (N p hp).1)) (fun _ _ _ _ => trivial) hj hE (hlet _) ?_ ?_
  · rintro i v m₁ nx oI h tk hi ⟨t, rfl⟩ hJ F₁ N₁ off
    exact turn _ i t m₁ nx oI h tk hi hJ F₁ N₁ off
  · intro m₁ nx h tk hJ F₁ N₁
    exact done m₁ nx h tk hJ F₁ N₁
end

section
variable {prog : Program} {w : World} {A : Around} {h₀ : Heap} {L : Addr} {m : Str → Option Value} {env : Env} {ct elt : Expr} {x : Str} {scope : Scope} {cl : List (Str × Addr)} {s : Shared} {S : List (Addr × Obj) → Prop} {P : Nat → Value → Prop} {Fin : List Value → List (Addr × Obj) → Prop} {news : List (Addr × Obj)}
/-- a list comprehension by a word over its turns -/
theorem comp_rest {n : Nat} (J : Nat → List Value → List (Addr × Obj) → Prop) (hj : J 0 [] news)
    (turn : ∀ i v ys nx I oI C oC D m₂ h tk (E' : Value → Shared → Prop), i < n → P i v → J i ys nx → LCg.NsObj oC m₂ → m₂ x = some v → Fr h₀ L h m → News h₀ L h ((I, oI) :: (C, oC) :: (D, LCg.lst ys) :: nx) → LCg.Off3 I C D nx → ((@Ne Nat I C) ∧ (@Ne Nat I D) ∧ (@Ne Nat C D)) →
      wpAny (model prog w) A (eval elt (compEnvC scope cl C env)) (LCg.CompEnd h₀ L m { s with heap := h, toks := tk } I oI C oC D (LCg.lst ys) S (fun y nx' => J (i + 1) (ys ++ [y]) nx')) E' { s with heap := h, toks := tk })
    (fin : ∀ ys nx, J n ys nx → Fin ys nx) : LCg.CompRest prog w A h₀ L m env elt x scope cl s S P Fin n 0 [] news := by
  have key : ∀ (j i : Nat) (ys : List Value) (nx : List (Addr × Obj)), i + j = n → J i ys nx → LCg.CompRest prog w A h₀ L m env elt x scope cl s S P Fin j i ys nx := by
    intro j
    induction j with
    | zero =>
      intro i ys nx hi hy
      have e : i = n := by omega
      subst e
      exact LCg.CompRest.zero (fin ys nx hy)
    | succ j ih =>
      intro i ys nx hi hy
      refine LCg.CompRest.succ ?_
      intro v I oI C oC D m₂ h tk E' hv hC hx F N off ne
      refine wpAny_mono (turn i v ys nx I oI C oC D m₂ h tk E' (by omega) hv hy hC hx F N off ne) (fun y s₂ hq => ?_) fun _ _ e => e
      obtain ⟨h', tk', nw, e, F', N', off', hS, hr⟩ := hq
      exact ⟨h', tk', nw, e, F', N', off', hS, ih (i + 1) _ _ (by omega) hr⟩
  exact key n 0 [] news (by omega) hj

theorem comp_restT {n : Nat} (J : Nat → List Value → List (Addr × Obj) → Prop) (hj : J 0 [] news)
    (turn : ∀ i v ys nx I oI C oC D m₂ h tk (E' : Value → Shared → Prop), i < n → P i v → J i ys nx → LCg.NsObj oC m₂ → m₂ x = some v → Fr h₀ L h m → News h₀ L h ((I, oI) :: (C, oC) :: (D, LCg.lst ys) :: nx) → LCg.Off3 I C D nx → ((@Ne Nat I C) ∧ (@Ne Nat I D) ∧ (@Ne Nat C D)) →
      wpAny (model prog w) A (isTrue ct (compEnvC scope cl C env) (eval ct (compEnvC scope cl C env))) (fun ok s' => if ok = true then
        wpAny (model prog w) A (eval elt (compEnvC scope cl C env)) (LCg.CompEnd h₀ L m { s with heap := h, toks := tk } I oI C oC D (LCg.lst ys) S (fun y nx' => J (i + 1) (ys ++ [y]) nx')) E' s'
        else LCg.CompEnd h₀ L m { s with heap := h, toks := tk } I oI C oC D (LCg.lst ys) S (fun _ nx' => J (i + 1) ys nx') Value.none s') E' { s with heap := h, toks := tk })
    (fin : ∀ ys nx, J n ys nx → Fin ys nx) : LCt.CompRestT prog w A h₀ L m env ct elt x scope cl s S P Fin n 0 [] news := by
  have key : ∀ (j i : Nat) (ys : List Value) (nx : List (Addr × Obj)), i + j = n → J i ys nx → LCt.CompRestT prog w A h₀ L m env ct elt x scope cl s S P Fin j i ys nx := by
    intro j
    induction j with
    | zero =>
      intro i ys nx hi hy
      have e : i = n := by omega
      subst e
      exact LCt.CompRestT.zero (fin ys nx hy)
    | succ j ih =>
      intro i ys nx hi hy
      refine LCt.CompRestT.succ ?_
      intro v I oI C oC D m₂ h tk E' hv hC hx F N off ne
      have up : ∀ {y : Value} {ys' : List Value} {nx' : List (Addr × Obj)}, J (i + 1) ys' nx' → LCt.CompRestT prog w A h₀ L m env ct elt x scope cl s S P Fin j (i + 1) ys' nx' := fun hr => ih (i + 1) _ _ (by omega) hr
      refine wpAny_mono (turn i v ys nx I oI C oC D m₂ h tk E' (by omega) hv hy hC hx F N off ne) (fun ok s₂ hq => ?_) fun _ _ e => e
      cases ok with
      | true =>
        simp only [if_true] at hq ⊢
        refine wpAny_mono hq (fun y s₃ hq => ?_) fun _ _ e => e
        obtain ⟨h', tk', nw, e, F', N', off', hS, hr⟩ := hq
        exact ⟨h', tk', nw, e, F', N', off', hS, up (y := y) hr⟩
      | false =>
        simp only [Bool.false_eq_true, if_false] at hq ⊢
        obtain ⟨h', tk', nw, e, F', N', off', hS, hr⟩ := hq
        exact ⟨h', tk', nw, e, F', N', off', hS, up (y := v) hr⟩
  exact key n 0 [] news (by omega) hj
end

/-- what stands between the turns: names that are told, names that may be anything, the rest as it was -/
def Between (x : Str) (stored : List Str) (m₀ : Str → Option Value) (J : List (Str × Value) → List (Addr × Obj) → Prop) (m : Str → Option Value) (nx : List (Addr × Obj)) : Prop :=
  ∃ ps, (∀ p ∈ ps, m p.1 = some p.2) ∧ (∀ z, z ≠ x → (∀ p ∈ ps, z ≠ p.1) → stored.contains z = false → m z = m₀ z) ∧ J ps nx

section
variable {prog : Program} {w : World} {A : Around} {E : Value → Shared → Prop} {s : Shared} {h₀ : Heap} {m : Str → Option Value} {env : Env} {news : List (Addr × Obj)} {Q : Flow → Shared → Prop} {x : Str} {px : Pos} {body : List Stmt}
theorem letName (it v : Value) : letOwnedTupleGo (.Name x px) it v = pure () := rfl
/-- for x in LIST, x a local -/
theorem for_listK {ax : Addr} {its : Array Value} (stored : List Str) (J : Nat → List (Str × Value) → List (Addr × Obj) → Prop) (ps₀ : List (Str × Value))
    (hh : A.handled = none) (F : Fr h₀ env.locals s.heap m) (N : News h₀ env.locals s.heap news) (hS : ∀ i ps nx, J i ps nx → LCg.SrcAt h₀ ax its nx) (hp₀ : ∀ p ∈ ps₀, m p.1 = some p.2) (hj : J 0 ps₀ news)
    (hx : env.kindOf x = some .local) (hp : (env.scope.kind == .class || (env.scope.kind == .module && env.locals != env.globals)) = false)
    (turn : ∀ I i v ps nx oI h tk (u : Str → Option Value), its[i]? = some v → J i ps nx → Fr h₀ env.locals h (fun y => if y = x then some v else kstB (fun z => if stored.contains z then u z else m z) ps y) → News h₀ env.locals h ((I, oI) :: nx) → (∀ p ∈ nx, p.1 ≠ I) →
      wpAny (model prog w) A (execs body env) (LoopPost h₀ env.locals (Between x stored m (J (i + 1))) I oI s Q) E { s with heap := h, toks := tk })
    (done : ∀ ps nx h tk (u : Str → Option Value), J its.size ps nx → Fr h₀ env.locals h (fun y => if y = x then u y else kstB (fun z => if stored.contains z then u z else m z) ps y) → News h₀ env.locals h nx → Q .next { s with heap := h, toks := tk })
    (hE : PassesOwn (model prog w) A env E := by passes_own) :
    wpAny (model prog w) A (pyIter (.ref ax)) (fun it s₂ => codeAny (model prog w) A (.forLoop (.Name x px) it body [] env) (fun r s' => match r with | .ok f => Q f s' | .error e => cameBackBy (model prog w) A env E e s') s₂) E s := by
  refine for_list (fun i m' nx => Between x stored m (J i) m' nx) hh F N (fun i m' nx ⟨ps, _, _, h⟩ => hS i ps nx h) ⟨ps₀, hp₀, fun _ _ _ _ => rfl, hj⟩ (fun _ v => letName _ v) ?_ ?_ hE
  · rintro I i v m₁ nx oI h tk hi ⟨ps, h1, h2, hJ⟩ F₁ N₁ off
    refine wpAny_assign_Name (wpAny_storeName_local hx F₁.ns (fun h₂ hn₂ hs₂ => ?_) hp)
    have F₂ := F₁.set hn₂ hs₂
    have N₂ := N₁.set hs₂
    exact turn I i v ps nx oI h₂ _ m₁ hi hJ (kst_fr h1 h2 F₂) N₂ off
  · rintro m₁ nx h tk ⟨ps, h1, h2, hJ⟩ F₁ N₁
    exact done ps nx h tk m₁ hJ (kst_frOut h1 h2 F₁) N₁

/-- for x in RANGE, x a local -/
theorem for_rangeK {r : Addr} {a b c : Int} {t₀ u₀ v₀ : Tok} {n : Nat} (stored : List Str) (J : Nat → List (Str × Value) → List (Addr × Obj) → Prop) (ps₀ : List (Str × Value))
    (hh : A.handled = none) (hr : IsRange s.heap r a b c t₀ u₀ v₀) (hsm : Builtin.Range.small a b c = true) (hn : Builtin.Range.rangeSize a b c = ((n : Nat) : Int)) (F : Fr h₀ env.locals s.heap m) (N : News h₀ env.locals s.heap news) (hp₀ : ∀ p ∈ ps₀, m p.1 = some p.2) (hj : J 0 ps₀ news)
    (hx : env.kindOf x = some .local) (hp : (env.scope.kind == .class || (env.scope.kind == .module && env.locals != env.globals)) = false)
    (turn : ∀ I i t ps nx oI h tk (u : Str → Option Value), i < n → J i ps nx → Fr h₀ env.locals h (fun y => if y = x then some (.int (a + (i : Int) * c) t) else kstB (fun z => if stored.contains z then u z else m z) ps y) → News h₀ env.locals h ((I, oI) :: nx) → (∀ p ∈ nx, p.1 ≠ I) →
      wpAny (model prog w) A (execs body env) (LoopPost h₀ env.locals (Between x stored m (J (i + 1))) I oI s Q) E { s with heap := h, toks := tk })
    (done : ∀ ps nx h tk (u : Str → Option Value), J n ps nx → Fr h₀ env.locals h (fun y => if y = x then u y else kstB (fun z => if stored.contains z then u z else m z) ps y) → News h₀ env.locals h nx → Q .next { s with heap := h, toks := tk })
    (hE : PassesOwn (model prog w) A env E := by passes_own) :
    wpAny (model prog w) A (pyIter (.ref r)) (fun it s₂ => codeAny (model prog w) A (.forLoop (.Name x px) it body [] env) (fun r s' => match r with | .ok f => Q f s' | .error e => cameBackBy (model prog w) A env E e s') s₂) E s := by
  refine for_range (fun i m' nx => Between x stored m (J i) m' nx) hh hr hsm hn F N ⟨ps₀, hp₀, fun _ _ _ _ => rfl, hj⟩ (fun _ v => letName _ v) ?_ ?_ hE
  · rintro I i t m₁ nx oI h tk hi ⟨ps, h1, h2, hJ⟩ F₁ N₁ off
    refine wpAny_assign_Name (wpAny_storeName_local hx F₁.ns (fun h₂ hn₂ hs₂ => ?_) hp)
    have F₂ := F₁.set hn₂ hs₂
    have N₂ := N₁.set hs₂
    exact turn I i t ps nx oI h₂ _ m₁ hi hJ (kst_fr h1 h2 F₂) N₂ off
  · rintro m₁ nx h tk ⟨ps, h1, h2, hJ⟩ F₁ N₁
    exact done ps nx h tk m₁ hJ (kst_frOut h1 h2 F₁) N₁
/-- a turn's end -/
theorem LoopEnd.intro {L I : Addr} {oI : Obj} {J : (Str → Option Value) → List (Addr × Obj) → Prop} {h' : Heap} {tk : Nat} {m' : Str → Option Value} {all nx : List (Addr × Obj)} (F : Fr h₀ L h' m') (N : News h₀ L h' all) (sub : ∀ p ∈ (I, oI) :: nx, p ∈ all) (off : ∀ p ∈ nx, p.1 ≠ I) (hJ : J m' nx) :
    LoopEnd h₀ L J I oI s { s with heap := h', toks := tk } := ⟨h', tk, m', nx, rfl, F, fun p hp => N p (sub p hp), off, hJ⟩

/-- the same where the turns make nothing that stays -/
theorem for_listP {ax : Addr} {its : Array Value} (stored : List Str) (J : Nat → List (Str × Value) → Prop) (ps₀ : List (Str × Value))
    (hh : A.handled = none) (F : Fr h₀ env.locals s.heap m) (N : News h₀ env.locals s.heap news) (hS : LCg.SrcAt h₀ ax its news) (hp₀ : ∀ p ∈ ps₀, m p.1 = some p.2) (hj : J 0 ps₀)
    (hx : env.kindOf x = some .local) (hp : (env.scope.kind == .class || (env.scope.kind == .module && env.locals != env.globals)) = false)
    (turn : ∀ I i v ps oI h tk (u : Str → Option Value), its[i]? = some v → J i ps → Fr h₀ env.locals h (fun y => if y = x then some v else kstB (fun z => if stored.contains z then u z else m z) ps y) → News h₀ env.locals h ((I, oI) :: news) → (∀ p ∈ news, p.1 ≠ I) →
      wpAny (model prog w) A (execs body env) (LoopPost h₀ env.locals (Between x stored m (fun ps nx => nx = news ∧ J (i + 1) ps)) I oI s Q) E { s with heap := h, toks := tk })
    (done : ∀ ps h tk (u : Str → Option Value), J its.size ps → Fr h₀ env.locals h (fun y => if y = x then u y else kstB (fun z => if stored.contains z then u z else m z) ps y) → News h₀ env.locals h news → Q .next { s with heap := h, toks := tk })
    (hE : PassesOwn (model prog w) A env E := by passes_own) :
    wpAny (model prog w) A (pyIter (.ref ax)) (fun it s₂ => codeAny (model prog w) A (.forLoop (.Name x px) it body [] env) (fun r s' => match r with | .ok f => Q f s' | .error e => cameBackBy (model prog w) A env E e s') s₂) E s := by
  refine for_listK stored (fun i ps nx => nx = news ∧ J i ps) ps₀ hh F N (fun _ _ _ h => h.1 ▸ hS) hp₀ ⟨rfl, hj⟩ hx hp ?_ ?_ hE
  · rintro I i v ps nx oI h tk u hi ⟨rfl, hJ⟩ F₁ N₁ off
    exact turn I i v ps oI h tk u hi hJ F₁ N₁ off
  · rintro ps nx h tk u ⟨rfl, hJ⟩ F₁ N₁
    exact done ps h tk u hJ F₁ N₁
theorem LoopEnd.same {L I : Addr} {oI : Obj} {stored : List Str} {m₀ : Str → Option Value} {J : List (Str × Value) → Prop} {h' : Heap} {tk : Nat} {m' : Str → Option Value} {all : List (Addr × Obj)} (ps : List (Str × Value)) (F : Fr h₀ L h' m') (N : News h₀ L h' all) (sub : ∀ p ∈ (I, oI) :: news, p ∈ all) (off : ∀ p ∈ news, p.1 ≠ I)
    (h1 : ∀ p ∈ ps, m' p.1 = some p.2) (h2 : ∀ z, z ≠ x → (∀ p ∈ ps, z ≠ p.1) → stored.contains z = false → m' z = m₀ z) (hJ : J ps) :
    LoopEnd h₀ L (Between x stored m₀ (fun ps nx => nx = news ∧ J ps)) I oI s { s with heap := h', toks := tk } := .intro F N sub off ⟨ps, h1, h2, rfl, hJ⟩
end
end Mine
namespace Mine
/-- the end of a comprehension's turn that makes nothing that stays -/
def CompK (h₀ : Heap) (L : Addr) (m : Str → Option Value) (s : Shared) (all : List (Addr × Obj)) (J : Value → Prop) (y : Value) (s₂ : Shared) : Prop :=
  ∃ h' tk, s₂ = { s with heap := h', toks := tk } ∧ Fr h₀ L h' m ∧ News h₀ L h' all ∧ J y
theorem CompK.intro {h₀ : Heap} {L : Addr} {m : Str → Option Value} {s : Shared} {all all' : List (Addr × Obj)} {J : Value → Prop} {y : Value} {h' : Heap} {tk : Nat} (F : Fr h₀ L h' m) (N : News h₀ L h' all') (sub : ∀ p ∈ all, p ∈ all') (j : J y) :
    CompK h₀ L m s all J y { s with heap := h', toks := tk } := ⟨h', tk, rfl, F, fun p hp => N p (sub p hp), j⟩
section
variable {prog : Program} {w : World} {A : Around} {h₀ : Heap} {L : Addr} {m : Str → Option Value} {env : Env} {ct elt : Expr} {x : Str} {scope : Scope} {cl : List (Str × Addr)} {s : Shared} {S : List (Addr × Obj) → Prop} {P : Nat → Value → Prop} {Fin : List Value → List (Addr × Obj) → Prop} {news : List (Addr × Obj)}
theorem comp_keep {n : Nat} (J : Nat → List Value → Prop) (hj : J 0 []) (hS : S news)
    (turn : ∀ i v ys I oI C oC D m₂ h tk (E' : Value → Shared → Prop), i < n → P i v → J i ys → LCg.NsObj oC m₂ → m₂ x = some v → Fr h₀ L h m → News h₀ L h ((I, oI) :: (C, oC) :: (D, LCg.lst ys) :: news) → LCg.Off3 I C D news → ((@Ne Nat I C) ∧ (@Ne Nat I D) ∧ (@Ne Nat C D)) →
      wpAny (model prog w) A (eval elt (compEnvC scope cl C env)) (CompK h₀ L m { s with heap := h, toks := tk } ((I, oI) :: (C, oC) :: (D, LCg.lst ys) :: news) (fun y => J (i + 1) (ys ++ [y]))) E' { s with heap := h, toks := tk })
    (fin : ∀ ys, J n ys → Fin ys news) : LCg.CompRest prog w A h₀ L m env elt x scope cl s S P Fin n 0 [] news := by
  refine comp_rest (fun i ys nx => J i ys ∧ nx = news) ⟨hj, rfl⟩ ?_ fun ys nx ⟨h, e⟩ => e ▸ fin ys h
  rintro i v ys nx I oI C oC D m₂ h tk E' hi hv ⟨hJ, rfl⟩ hC hx F N off ne
  refine wpAny_mono (turn i v ys I oI C oC D m₂ h tk E' hi hv hJ hC hx F N off ne) (fun y s₂ hq => ?_) fun _ _ e => e
  obtain ⟨h', tk', e, F', N', j⟩ := hq
  exact ⟨h', tk', nx, e, F', N', off, hS, j, rfl⟩
theorem comp_keepT {n : Nat} (J : Nat → List Value → Prop) (hj : J 0 []) (hS : S news)
    (turn : ∀ i v ys I oI C oC D m₂ h tk (E' : Value → Shared → Prop), i < n → P i v → J i ys → LCg.NsObj oC m₂ → m₂ x = some v → Fr h₀ L h m → News h₀ L h ((I, oI) :: (C, oC) :: (D, LCg.lst ys) :: news) → LCg.Off3 I C D news → ((@Ne Nat I C) ∧ (@Ne Nat I D) ∧ (@Ne Nat C D)) →
      wpAny (model prog w) A (isTrue ct (compEnvC scope cl C env) (eval ct (compEnvC scope cl C env))) (fun ok s' => if ok = true then
        wpAny (model prog w) A (eval elt (compEnvC scope cl C env)) (CompK h₀ L m { s with heap := h, toks := tk } ((I, oI) :: (C, oC) :: (D, LCg.lst ys) :: news) (fun y => J (i + 1) (ys ++ [y]))) E' s'
        else CompK h₀ L m { s with heap := h, toks := tk } ((I, oI) :: (C, oC) :: (D, LCg.lst ys) :: news) (fun _ => J (i + 1) ys) Value.none s') E' { s with heap := h, toks := tk })
    (fin : ∀ ys, J n ys → Fin ys news) : LCt.CompRestT prog w A h₀ L m env ct elt x scope cl s S P Fin n 0 [] news := by
  refine comp_restT (fun i ys nx => J i ys ∧ nx = news) ⟨hj, rfl⟩ ?_ fun ys nx ⟨h, e⟩ => e ▸ fin ys h
  rintro i v ys nx I oI C oC D m₂ h tk E' hi hv ⟨hJ, rfl⟩ hC hx F N off ne
  refine wpAny_mono (turn i v ys I oI C oC D m₂ h tk E' hi hv hJ hC hx F N off ne) (fun ok s₂ hq => ?_) fun _ _ e => e
  cases ok with
  | true =>
    simp only [if_true] at hq ⊢
    refine wpAny_mono hq (fun y s₃ hq => ?_) fun _ _ e => e
    obtain ⟨h', tk', e, F', N', j⟩ := hq
    exact ⟨h', tk', nx, e, F', N', off, hS, j, rfl⟩
  | false =>
    simp only [Bool.false_eq_true, if_false] at hq ⊢
    obtain ⟨h', tk', e, F', N', j⟩ := hq
    exact ⟨h', tk', nx, e, F', N', off, hS, j, rfl⟩
end
theorem ints_turn {ys : List Value} {ns : List Int} (hI : IntsAre ys ns) : ∀ {i : Nat} {v : Value}, ys[i]? = some v → ∃ k t, ns[i]? = some k ∧ v = .int k t := by
  induction hI with
  | nil => intro i v h; simp at h
  | cons n t _ ih =>
    intro i v h
    cases i with
    | zero => simp at h; subst h; exact ⟨n, t, rfl, rfl⟩
    | succ i =>
      obtain ⟨k, t', h1, h2⟩ := ih (i := i) (v := v) (by simpa using h)
      exact ⟨k, t', by simpa using h1, h2⟩
theorem ints_len {ys : List Value} {ns : List Int} (hI : IntsAre ys ns) : ys.length = ns.length := by
  induction hI with
  | nil => rfl
  | cons n t _ ih => simp [ih]
end Mine
namespace Mine
section
variable {prog : Program} {w : World} {A : Around} {E : Value → Shared → Prop} {s : Shared} {h₀ : Heap} {L : Addr} {m : Str → Option Value} {env : Env} {news : List (Addr × Obj)} {Q : Flow → Shared → Prop} {target : Expr} {body : List Stmt}
theorem loopP {I : Addr} {fp : List Addr} {n : Nat} {P : Nat → Value → Prop} {St : Nat → Heap → Prop} {S : List (Addr × Obj) → Prop} (J : Nat → (Str → Option Value) → List (Addr × Obj) → Prop)
    (W : Walks prog w A I fp [I] n P St) (hIo : ∀ i h, St i h → ∃ o, h.get? I = some o)
    (hSt : ∀ i h h' o nw, St i h → h.get? I = some o → h'.get? I = some o → (∀ b o, h₀.get? b = some o → h'.get? b = some o) → News h₀ L h' nw → S nw → St i h')
    (hst : St 0 s.heap) (F : Fr h₀ L s.heap m) (N : News h₀ L s.heap news) (hIL : L ≠ I) (hI₀ : h₀.get? I = none) (off : ∀ p ∈ news, p.1 ≠ I) (hS : ∀ i m nx, J i m nx → S nx) (hj : J 0 m news)
    (hE : PassesOwn (model prog w) A env E) (hgo : ∀ i v (s : Shared) (Q : Unit → Shared → Prop) (E : Value → Shared → Prop), P i v → St (i + 1) s.heap → Q () s → wpAny (model prog w) A (letOwnedTupleGo target (.ref I) v) Q E s)
    (turn : ∀ i v m₁ nx oI h tk, i < n → P i v → J i m₁ nx → Fr h₀ L h m₁ → News h₀ L h ((I, oI) :: nx) → (∀ p ∈ nx, p.1 ≠ I) →
      wpAny (model prog w) A (assign target env v) (fun _ s₂ => wpAny (model prog w) A (execs body env) (LoopPost h₀ L (J (i + 1)) I oI s Q) E s₂) E { s with heap := h, toks := tk })
    (done : ∀ m₁ nx h tk, J n m₁ nx → Fr h₀ L h m₁ → News h₀ L h nx → Q .next { s with heap := h, toks := tk }) :
    codeAny (model prog w) A (.forLoop target (.ref I) body [] env) (fun r s' => match r with | .ok f => Q f s' | .error e => cameBackBy (model prog w) A env E e s') s := by
  refine codeAny_forLoop_any
    (fun k s' => ∃ h' tk m' nx i, s' = { s with heap := h', toks := tk } ∧ i ≤ n ∧ k = n + 1 - i ∧ St i h' ∧ Fr h₀ L h' m' ∧ News h₀ L h' nx ∧ (∀ p ∈ nx, p.1 ≠ I) ∧ J i m' nx) ?_ (n + 1)
    ⟨s.heap, s.toks, m, news, 0, rfl, Nat.zero_le _, rfl, hst, F, N, off, hj⟩
  rintro k s' ⟨h', tk, m', nx, i, rfl, hi, rfl, hst', F', N', off', hJ⟩
  by_cases hlt : i < n
  · refine W.item i _ _ _ hlt hst' fun v h₂ tk₂ hPv hst₂ hk₂ => ?_
    have F₂ : Fr h₀ L h₂ m' := LCg.fr_but F' hk₂ hIL hI₀
    have N₂ : News h₀ L h₂ nx := LCg.news_but N' hk₂ off'
    obtain ⟨oI, heI⟩ := hIo _ _ hst₂
    have N₃ : News h₀ L h₂ ((I, oI) :: nx) := fun p hp => by
      rcases List.mem_cons.mp hp with rfl | hp
      · exact ⟨heI, Ne.symm hIL, hI₀⟩
      · exact N₂ p hp
    refine hgo i v _ _ _ hPv hst₂ ?_
    refine wpAny_passesOwn hE (wpAny_mono (turn i v m' nx oI h₂ tk₂ hlt hPv hJ F₂ N₃ off') (fun _ s₂ h => ?_) fun _ _ e => e)
    refine wpAny_passesOwn hE (wpAny_mono h (fun f s₃ h₃ => ?_) fun _ _ e => e)
    have fin : LoopEnd h₀ L (J (i + 1)) I oI s s₃ → ∃ m, m < n + 1 - i ∧ ∃ h' tk m' nx j, s₃ = { s with heap := h', toks := tk } ∧ j ≤ n ∧ m = n + 1 - j ∧ St j h' ∧ Fr h₀ L h' m' ∧ News h₀ L h' nx ∧ (∀ p ∈ nx, p.1 ≠ I) ∧ J j m' nx := by
      rintro ⟨h₄, tk₄, m₄, nx₄, rfl, F₄, N₄, off₄, hJ₄⟩
      have N₄' : News h₀ L h₄ nx₄ := fun p hp => N₄ p (List.mem_cons_of_mem _ hp)
      have zI := (N₄ (I, oI) List.mem_cons_self).1
      exact ⟨n + 1 - (i + 1), by omega, h₄, tk₄, m₄, nx₄, i + 1, rfl, hlt, rfl, hSt _ _ _ _ _ hst₂ heI zI F₄.keep N₄' (hS _ _ _ hJ₄), F₄, N₄', off₄, hJ₄⟩
    cases f with
    | ret v => exact h₃
    | brk => exact h₃
    | next => exact fin h₃
    | cont => exact fin h₃
  · obtain rfl : i = n := Nat.le_antisymm hi (Nat.not_lt.mp hlt)
    refine W.done _ _ _ hst' fun h₂ tk₂ hk₂ => wpAny_execs_nil ?_
    exact done m' nx h₂ tk₂ hJ (LCg.fr_but F' hk₂ hIL hI₀) (LCg.news_but N' hk₂ off')

/-- a for over a list: of the base, or of the ledger -/
theorem for_listT {ax : Addr} {its : Array Value} (J : Nat → (Str → Option Value) → List (Addr × Obj) → Prop)
    (hh : A.handled = none) (F : Fr h₀ L s.heap m) (N : News h₀ L s.heap news) (hS : ∀ i m nx, J i m nx → LCg.SrcAt h₀ ax its nx) (hj : J 0 m news)
    (hgo : ∀ I i v (s : Shared) (Q : Unit → Shared → Prop) (E : Value → Shared → Prop), its[i]? = some v → s.heap.IsListIter I ax (i + 1) → Q () s → wpAny (model prog w) A (letOwnedTupleGo target (.ref I) v) Q E s)
    (turn : ∀ I i v m₁ nx oI h tk, its[i]? = some v → J i m₁ nx → Fr h₀ L h m₁ → News h₀ L h ((I, oI) :: nx) → (∀ p ∈ nx, p.1 ≠ I) →
      wpAny (model prog w) A (assign target env v) (fun _ s₂ => wpAny (model prog w) A (execs body env) (LoopPost h₀ L (J (i + 1)) I oI s Q) E s₂) E { s with heap := h, toks := tk })
    (done : ∀ m₁ nx h tk, J its.size m₁ nx → Fr h₀ L h m₁ → News h₀ L h nx → Q .next { s with heap := h, toks := tk })
    (hE : PassesOwn (model prog w) A env E := by passes_own) :
    wpAny (model prog w) A (pyIter (.ref ax)) (fun it s₂ => codeAny (model prog w) A (.forLoop target it body [] env) (fun r s' => match r with | .ok f => Q f s' | .error e => cameBackBy (model prog w) A env E e s') s₂) E s := by
  have S := hS _ _ _ hj
  have hl := S.list F.keep N
  have hlt : ax < s.heap.objs.size := by obtain ⟨_, e, _⟩ := hl; exact Heap.lt_size e
  refine wpAny_pyIter_list hl ?_
  have up : ∀ b o, s.heap.get? b = some o → (s.heap.push { cls := .type "list_iterator", data := .fields #[.ref ax, .int 0 0] }).get? b = some o := fun b o e => Heap.get?_push_of_some _ e
  refine loopP (m := m) (news := news) J (Walks.list hh s.heap.objs.size ax (Nat.ne_of_lt hlt) its) (fun i h st => by obtain ⟨o, e, _⟩ := st.1; exact ⟨o, e⟩) LCg.list_st ⟨⟨_, Heap.get?_push_size _ rfl, rfl, rfl⟩, hl.push _⟩
    (F.keeps up) (N.grown up) (Nat.ne_of_lt F.ns.lt) (next_is_new F) (fun p hp => Nat.ne_of_lt (Heap.lt_size (N p hp).1)) hS hj hE (fun i v s Q E hp st hq => hgo _ i v s Q E hp st.1 hq) ?_ ?_
  · intro i v m₁ nx oI h tk hi hP hJ F₁ N₁ off
    exact turn _ i v m₁ nx oI h tk hP hJ F₁ N₁ off
  · intro m₁ nx h tk hJ F₁ N₁
    exact done m₁ nx h tk hJ F₁ N₁

end
/-- a ledger with another object at C -/
def put (C : Addr) (o : Obj) (nx : List (Addr × Obj)) : List (Addr × Obj) := (C, o) :: nx.filter (fun p => decide (p.1 ≠ C))
theorem put_self {C : Addr} {o : Obj} {nx : List (Addr × Obj)} : (C, o) ∈ put C o nx := List.mem_cons_self
theorem put_mem {C : Addr} {o : Obj} {nx : List (Addr × Obj)} {p : Addr × Obj} (hp : p ∈ nx) (hn : p.1 ≠ C) : p ∈ put C o nx := List.mem_cons_of_mem _ (List.mem_filter.mpr ⟨hp, by simpa using hn⟩)
theorem put_of {C : Addr} {o : Obj} {nx : List (Addr × Obj)} {p : Addr × Obj} (hp : p ∈ put C o nx) : p = (C, o) ∨ (p ∈ nx ∧ p.1 ≠ C) := by
  rcases List.mem_cons.mp hp with rfl | hp
  · exact .inl rfl
  · obtain ⟨h1, h2⟩ := List.mem_filter.mp hp
    exact .inr ⟨h1, by simpa using h2⟩
section
variable {h₀ h h' : Heap} {L C : Addr} {m : Str → Option Value} {nx : List (Addr × Obj)} {o oC oF : Obj}
theorem put_news (N : News h₀ L h nx) (hC : (C, oC) ∈ nx) (hs : Heap.SameBut C h h') (ho : h'.get? C = some oF) : News h₀ L h' (put C oF nx) := fun p hp => by
  rcases put_of hp with rfl | ⟨hp, hn⟩
  · exact ⟨ho, (N _ hC).2⟩
  · exact ⟨(hs.2 _ hn).trans (N p hp).1, (N p hp).2⟩
theorem ne_cell {a : Addr} {v : Option Value} (N : News h₀ L h nx) (hm : (a, o) ∈ nx) (hC : (C, oC) ∈ nx) (hd : oC.data = .cell v) (hn : ∀ v, o.data ≠ .cell v) : a ≠ C := by
  rintro rfl
  have e := (N _ hm).1.symm.trans (N _ hC).1
  cases e
  exact hn _ hd
end
section
variable {prog : Program} {w : World} {A : Around} {E : Value → Shared → Prop} {s : Shared} {h₀ : Heap} {m : Str → Option Value} {env : Env} {nx : List (Addr × Obj)} {C : Addr} {oC : Obj} {v₀ : Option Value}
theorem store_cell {y : Str} {b : Value} {Q : Unit → Shared → Prop} (F : Fr h₀ env.locals s.heap m) (N : News h₀ env.locals s.heap nx) (hC : (C, oC) ∈ nx) (hd : oC.data = .cell v₀) (hk : env.scope.kind = .function) (hy : env.kindOf y = some .cell) (hc : env.cells.lookup y = some C)
    (h : ∀ h' oF, oF.data = .cell (some b) → Fr h₀ env.locals h' m → News h₀ env.locals h' (put C oF nx) → Q () { s with heap := h' }) : wpAny (model prog w) A (storeName env y b) Q E s := by
  refine wpAny_storeName_cell hk hy hc ⟨_, (N _ hC).1, hd⟩ fun h' hq hs => ?_
  obtain ⟨oF, ho, hoF⟩ := hq
  exact h h' oF hoF (F.change hs (N _ hC).2.1 (N _ hC).2.2) (put_news N hC hs ho)
theorem assign_pair {x y : Str} {px py pos : Pos} {c1 : Nat} {T : Addr} {a b : Value} {k : Nat} {Q : Unit → Shared → Prop} (hh : A.handled = none) (F : Fr h₀ env.locals s.heap m) (N : News h₀ env.locals s.heap nx)
    (hT : (T, ({ cls := .type "tuple", data := .seq #[a, b] k } : Obj)) ∈ nx) (hC : (C, oC) ∈ nx) (hd : oC.data = .cell v₀) (hk : env.scope.kind = .function)
    (hx : env.kindOf x = some .local) (hp : (env.scope.kind == .class || (env.scope.kind == .module && env.locals != env.globals)) = false) (hy : env.kindOf y = some .cell) (hc : env.cells.lookup y = some C)
    (h : ∀ h' tk oF, oF.data = .cell (some b) → Fr h₀ env.locals h' (fun z => if z = x then some a else m z) → News h₀ env.locals h' (put C oF nx) → Q () { s with heap := h', toks := tk }) :
    wpAny (model prog w) A (assign (.Tuple [.Name x px, .Name y py] c1 pos) env (.ref T)) Q E s := by
  refine assign_Tuple_tuple hh ⟨_, (N _ hT).1, rfl, _, rfl⟩ rfl rfl fun h₁ hs₁ => ?_
  have F₁ : Fr h₀ env.locals h₁ m := F.keeps fun b o e => hs₁ b o (Nat.ne_of_lt (Heap.lt_size e)) e
  have N₁ : News h₀ env.locals h₁ nx := N.grown fun b o e => hs₁ b o (Nat.ne_of_lt (Heap.lt_size e)) e
  show wpAny _ _ (assignInOrder [assign (.Name x px) env, assign (.Name y py) env] [a, b]) _ _ _
  refine assignInOrder_cons (wpAny_assign_Name (wpAny_storeName_local hx F₁.ns (fun h₂ hn₂ hs₂ => ?_) hp))
  have F₂ := F₁.set hn₂ hs₂
  have N₂ := N₁.set hs₂
  refine assignInOrder_cons (wpAny_assign_Name (store_cell F₂ N₂ hC hd hk hy hc fun h₃ oF ho F₃ N₃ => ?_))
  exact assignInOrder_nil (h h₃ _ oF ho F₃ N₃)
/-- for x, y in LIST OF PAIRS, x a local, y a cell -/
theorem for_pairs {ax : Addr} {its : Array Value} {kx : Nat} {x y : Str} {px py pos : Pos} {c1 : Nat} {body : List Stmt} {Q : Flow → Shared → Prop} (stored : List Str) (ps : List (Str × Value)) (Item : Value → Value → Prop)
    (hh : A.handled = none) (F : Fr h₀ env.locals s.heap m) (N : News h₀ env.locals s.heap nx) (hsrc : (ax, ({ cls := .type "list", data := .seq its kx } : Obj)) ∈ nx) (hC : (C, oC) ∈ nx) (hd : oC.data = .cell v₀)
    (hps : ∀ p ∈ ps, m p.1 = some p.2) (hk : env.scope.kind = .function) (hx : env.kindOf x = some .local) (hp : (env.scope.kind == .class || (env.scope.kind == .module && env.locals != env.globals)) = false) (hy : env.kindOf y = some .cell) (hc : env.cells.lookup y = some C)
    (hits : ∀ (i : Nat) (v : Value), its[i]? = some v → ∃ T a b k, v = .ref T ∧ (T, ({ cls := .type "tuple", data := .seq #[a, b] k } : Obj)) ∈ nx ∧ Item a b)
    (turn : ∀ I oI nx' oF h tk (u : Str → Option Value) a b, Item a b → (∀ p ∈ nx, p.1 ≠ C → p ∈ nx') → (C, oF) ∈ nx' → oF.data = .cell (some b) →
      Fr h₀ env.locals h (fun z => if z = x then some a else kstB (fun z => if stored.contains z then u z else m z) ps z) → News h₀ env.locals h ((I, oI) :: nx') → (∀ p ∈ nx', p.1 ≠ I) →
      wpAny (model prog w) A (execs body env) (LoopPost h₀ env.locals (Between x stored m (fun ps' nx'' => nx'' = nx' ∧ ps' = ps)) I oI s Q) E { s with heap := h, toks := tk })
    (done : ∀ nx' oF v h tk (u : Str → Option Value), (∀ p ∈ nx, p.1 ≠ C → p ∈ nx') → (C, oF) ∈ nx' → oF.data = .cell v →
      Fr h₀ env.locals h (fun z => if z = x then u z else kstB (fun z => if stored.contains z then u z else m z) ps z) → News h₀ env.locals h nx' → Q .next { s with heap := h, toks := tk })
    (hE : PassesOwn (model prog w) A env E := by passes_own) :
    wpAny (model prog w) A (pyIter (.ref ax)) (fun it s₂ => codeAny (model prog w) A (.forLoop (.Tuple [.Name x px, .Name y py] c1 pos) it body [] env) (fun r s' => match r with | .ok f => Q f s' | .error e => cameBackBy (model prog w) A env E e s') s₂) E s := by
  have hax : ax ≠ C := ne_cell N hsrc hC hd (fun _ => nofun)
  refine for_listT (fun _ m' nx' => (∃ oF v, (C, oF) ∈ nx' ∧ oF.data = .cell v) ∧ (∀ p ∈ nx, p.1 ≠ C → p ∈ nx') ∧ Between x stored m (fun ps' _ => ps' = ps) m' nx') hh F N
    (fun _ m' nx' h => .inr ⟨_, h.2.1 _ hsrc hax, rfl, _, rfl⟩) ⟨⟨oC, v₀, hC, hd⟩, fun p hp _ => hp, ps, hps, fun _ _ _ _ => rfl, rfl⟩ (fun I i v s Q E hv hit hq => ?_) ?_ ?_ hE
  · obtain ⟨T, _, _, _, rfl, _⟩ := hits i v hv
    exact wpAny_letOwnedTupleGo_listiter hit hq
  · rintro I i v m₁ nx' oI h tk hi ⟨⟨oF, v₁, hF, hdF⟩, hsub, ps', h1, h2, rfl⟩ F₁ N₁ off
    obtain ⟨T, a, b, k, rfl, hT, hab⟩ := hits i v hi
    have hTC : T ≠ C := ne_cell N hT hC hd (fun _ => nofun)
    refine assign_pair hh F₁ N₁ (List.mem_cons_of_mem _ (hsub _ hT hTC)) (List.mem_cons_of_mem _ hF) hdF hk hx hp hy hc fun h' tk' oF' ho F₂ N₂ => ?_
    have hIC : I ≠ C := fun e => off _ hF e.symm
    refine wpAny_mono (turn I oI (put C oF' nx') oF' h' tk' m₁ a b hab (fun p hp hn => put_mem (hsub p hp hn) hn) put_self ho (kst_fr h1 h2 F₂) (fun p hp => N₂ p ?_) (fun p hp => ?_)) (fun f s₂ hl => ?_) fun _ _ e => e
    · rcases List.mem_cons.mp hp with rfl | hp
      · exact put_mem List.mem_cons_self hIC
      · rcases put_of hp with rfl | ⟨hp, hn⟩
        · exact put_self
        · exact put_mem (List.mem_cons_of_mem _ hp) hn
    · rcases put_of hp with rfl | ⟨hp, hn⟩
      · exact Ne.symm hIC
      · exact off p hp
    · have fin : LoopEnd h₀ env.locals (Between x stored m (fun ps'' nx'' => nx'' = put C oF' nx' ∧ ps'' = ps')) I oI s s₂ → LoopEnd h₀ env.locals (fun m' nx' => (∃ oF v, (C, oF) ∈ nx' ∧ oF.data = .cell v) ∧ (∀ p ∈ nx, p.1 ≠ C → p ∈ nx') ∧ Between x stored m (fun ps'' _ => ps'' = ps') m' nx') I oI s s₂ := by
        rintro ⟨h₄, tk₄, m₄, nx₄, e, F₄, N₄, off₄, ps₄, g1, g2, rfl, rfl⟩
        exact ⟨h₄, tk₄, m₄, _, e, F₄, N₄, off₄, ⟨oF', _, put_self, ho⟩, fun p hp hn => put_mem (hsub p hp hn) hn, _, g1, g2, rfl⟩
      cases f with
      | ret v => exact hl
      | brk => exact hl
      | next => exact fin hl
      | cont => exact fin hl
  · rintro m₁ nx' h tk ⟨⟨oF, v₁, hF, hdF⟩, hsub, ps', h1, h2, rfl⟩ F₁ N₁
    exact done nx' oF v₁ h tk m₁ hsub hF hdF (kst_frOut h1 h2 F₁) N₁
end
section
variable {prog : Program} {w : World} {A : Around} {E : Value → Shared → Prop} {s : Shared} {h₀ : Heap} {m : Str → Option Value} {env : Env} {news : List (Addr × Obj)} {Q : Flow → Shared → Prop} {x : Str} {px : Pos} {body : List Stmt}
theorem for_rangeP {r : Addr} {a b c : Int} {t₀ u₀ v₀ : Tok} {n : Nat} (stored : List Str) (J : Nat → List (Str × Value) → Prop) (ps₀ : List (Str × Value))
    (hh : A.handled = none) (hr : IsRange s.heap r a b c t₀ u₀ v₀) (hsm : Builtin.Range.small a b c = true) (hn : Builtin.Range.rangeSize a b c = ((n : Nat) : Int)) (F : Fr h₀ env.locals s.heap m) (N : News h₀ env.locals s.heap news) (hp₀ : ∀ p ∈ ps₀, m p.1 = some p.2) (hj : J 0 ps₀)
    (hx : env.kindOf x = some .local) (hp : (env.scope.kind == .class || (env.scope.kind == .module && env.locals != env.globals)) = false)
    (turn : ∀ I i t ps oI h tk (u : Str → Option Value), i < n → J i ps → Fr h₀ env.locals h (fun y => if y = x then some (.int (a + (i : Int) * c) t) else kstB (fun z => if stored.contains z then u z else m z) ps y) → News h₀ env.locals h ((I, oI) :: news) → (∀ p ∈ news, p.1 ≠ I) →
      wpAny (model prog w) A (execs body env) (LoopPost h₀ env.locals (Between x stored m (fun ps nx => nx = news ∧ J (i + 1) ps)) I oI s Q) E { s with heap := h, toks := tk })
    (done : ∀ ps h tk (u : Str → Option Value), J n ps → Fr h₀ env.locals h (fun y => if y = x then u y else kstB (fun z => if stored.contains z then u z else m z) ps y) → News h₀ env.locals h news → Q .next { s with heap := h, toks := tk })
    (hE : PassesOwn (model prog w) A env E := by passes_own) :
    wpAny (model prog w) A (pyIter (.ref r)) (fun it s₂ => codeAny (model prog w) A (.forLoop (.Name x px) it body [] env) (fun r s' => match r with | .ok f => Q f s' | .error e => cameBackBy (model prog w) A env E e s') s₂) E s := by
  refine for_rangeK stored (fun i ps nx => nx = news ∧ J i ps) ps₀ hh hr hsm hn F N hp₀ ⟨rfl, hj⟩ hx hp ?_ ?_ hE
  · rintro I i t ps nx oI h tk u hi ⟨rfl, hJ⟩ F₁ N₁ off
    exact turn I i t ps oI h tk u hi hJ F₁ N₁ off
  · rintro ps nx h tk u ⟨rfl, hJ⟩ F₁ N₁
    exact done ps h tk u hJ F₁ N₁
end
end Mine
namespace Mine
theorem News.get {h₀ h : Heap} {L : Addr} {news : List (Addr × Obj)} {a : Addr} {o : Obj} (N : News h₀ L h news) (hm : (a, o) ∈ news) : h.get? a = some o := (N _ hm).1
theorem frSome {h₀ h : Heap} {L : Addr} {m : Str → Option Value} (F : Fr h₀ L h m) : ∃ m', m' = m ∧ Fr h₀ L h m' := ⟨_, rfl, F⟩
theorem newsSome {h₀ h : Heap} {L : Addr} {nx : List (Addr × Obj)} (N : News h₀ L h nx) : ∃ nx', nx' = nx ∧ News h₀ L h nx' := ⟨_, rfl, N⟩
theorem frKst {h₀ h : Heap} {L : Addr} {m : Str → Option Value} (F : Fr h₀ L h m) (ps : List (Str × Value)) (hp : ∀ p ∈ ps, m p.1 = some p.2) : Fr h₀ L h (fun y => kstB m ps y) := by
  have e : (fun y => kstB m ps y) = m := funext fun y => kstB_eq hp fun _ => rfl
  rw [e]; exact F
theorem notin {z y : Str} {st : List Str} (h : st.contains z = false) (hy : st.contains y = true) : z ≠ y := by
  rintro rfl; rw [hy] at h; cases h
theorem kst_rest {z : Str} {m : Str → Option Value} : ∀ {ps : List (Str × Value)}, (∀ p ∈ ps, z ≠ p.1) → kstB m ps z = m z
  | [], _ => rfl
  | p :: ps, h => by
    show (if z = p.1 then some p.2 else kstB m ps z) = m z
    rw [if_neg (h p List.mem_cons_self)]
    exact kst_rest fun q hq => h q (List.mem_cons_of_mem _ hq)
theorem ne_of_allLt {d : Addr} : ∀ {l : List (Addr × Obj)}, AllLt d l → ∀ p ∈ l, p.1 ≠ d
  | [], _, _, h => nomatch h
  | q :: l, h, p, hp => by
    rcases List.mem_cons.mp hp with rfl | hp
    · exact Nat.ne_of_lt h.1
    · exact ne_of_allLt h.2 p hp
theorem lt_of_allLt {d : Addr} : ∀ {l : List (Addr × Obj)}, AllLt d l → ∀ p ∈ l, p.1 < d
  | [], _, _, h => nomatch h
  | q :: l, h, p, hp => by
    rcases List.mem_cons.mp hp with rfl | hp
    · exact h.1
    · exact lt_of_allLt h.2 p hp
theorem updF_pre {P : Addr} {o : Obj} {nx : List (Addr × Obj)} (off : ∀ p ∈ nx, p.1 ≠ P) : ∀ {pre : List (Addr × Obj)}, (∀ p ∈ pre, p.1 ≠ P) → UpdF P o (pre ++ (P, o) :: nx) (fun o' => pre ++ (P, o') :: nx)
  | [], _ => .head off
  | p :: pre, h => .tail (h p List.mem_cons_self) (updF_pre off fun q hq => h q (List.mem_cons_of_mem _ hq))
/-- the table of a def's own code: nothing in it yet, or the one def that it makes -/
def TabSt (l c : Nat) (qual : Str) (nx : List (Addr × Obj)) (ps : Array Value) : Prop :=
  ps = #[] ∨ ∃ c' oc vs t, ps = #[rawInt l, rawInt c, .ref c'] ∧ (c', oc) ∈ nx ∧ oc.data = .fields vs ∧ vs[1]? = some (.str qual t)
theorem TabSt.up {l c : Nat} {qual : Str} {nx nx' : List (Addr × Obj)} {ps : Array Value} (h : TabSt l c qual nx ps) (k : ∀ p ∈ nx, p ∈ nx') : TabSt l c qual nx' ps := by
  rcases h with h | ⟨c', oc, vs, t, h1, h2, h3⟩
  · exact .inl h
  · exact .inr ⟨c', oc, vs, t, h1, k _ h2, h3⟩
section
variable {M : Model} {A : Around} {E : Value → Shared → Prop} {s : Shared} {h₀ : Heap} {L a c P : Addr} {m mg mb : Str → Option Value} {cn : Str} {cs : Scope} {ccd : Value} {cl : List (Str × Addr)} {pre nx : List (Addr × Obj)}
  {p : Program} {loose : List Str} {mean : ExcName → Option Value} {name qual : Str} {params : Arguments} {body : List Stmt} {scope : Scope} {ps : Array Value} {pos : Pos} {firstLine : Nat} {clos : List (Str × Addr)}
theorem nest_join {st : List (Addr × Obj)} {Q : Value → Shared → Prop} (F : Fr h₀ L s.heap m) (N : News h₀ L s.heap (pre ++ (P, tabObj ps) :: nx)) (T : Top p loose mean mg mb h₀) (C : CodeHd h₀ c P) (hcd : ccd = .ref c) (hpre : ∀ p ∈ pre, p.1 ≠ P) (hoff : ∀ p ∈ nx, p.1 ≠ P) (hst : ∀ p ∈ st, p ∈ nx) (hps : TabSt pos.line pos.col qual st ps)
    (hcl : closureFor scope (envX cn cs L a ccd cl) = pure clos)
    (h : ∀ f c' oc vs t ctv doc h' tk cx, Fr h₀ L h' m →
      News h₀ L h' ((f, fnMade name qual params body scope clos doc ((mg "__name__").getD .none) c' ctv) :: (pre ++ (P, tabObj #[rawInt pos.line, rawInt pos.col, .ref c']) :: (cx ++ nx))) →
      (∀ p ∈ cx, ∀ q ∈ pre ++ (P, tabObj ps) :: nx, q.1 < p.1) → (c', oc) ∈ cx ++ st → oc.data = .fields vs → vs[1]? = some (.str qual t) → (∀ q ∈ pre ++ (P, tabObj ps) :: nx, q.1 < f) → (∀ q ∈ cx, q.1 < f) → Q (.ref f) { s with heap := h', toks := tk }) :
    wpAny M A (makeFunction name qual params (.stmts body) scope (envX cn cs L a ccd cl) [] [] [] pos firstLine) Q E s := by
  rcases hps with rfl | ⟨c', oc, vs, t, rfl, h1, h2, h3⟩
  · refine nest_K F N T C hcd (updF_pre hoff hpre) trivial rfl hcl fun f c' oc vs t ctv doc h' tk F' N' d1 d2 l1 l2 => ?_
    refine h f c' oc vs t ctv doc h' tk [(c', oc)] F' (fun p hp => N' p ?_) (fun p hp => ?_) List.mem_cons_self d1 d2 (fun q hq => Nat.lt_trans (l1 q hq) l2) (fun q hq => ?_)
    · rcases List.mem_cons.mp hp with rfl | hp
      · exact List.mem_cons_self
      · rcases List.mem_append.mp hp with hp | hp
        · exact List.mem_cons_of_mem _ (List.mem_cons_of_mem _ (List.mem_append_left _ hp))
        · rcases List.mem_cons.mp hp with rfl | hp
          · exact List.mem_cons_of_mem _ (List.mem_cons_of_mem _ (List.mem_append_right _ List.mem_cons_self))
          · rcases List.mem_cons.mp hp with rfl | hp
            · exact List.mem_cons_of_mem _ List.mem_cons_self
            · exact List.mem_cons_of_mem _ (List.mem_cons_of_mem _ (List.mem_append_right _ (List.mem_cons_of_mem _ hp)))
    · rw [List.mem_singleton.mp hp]; exact l1
    · rw [List.mem_singleton.mp hq]; exact l2
  · refine nestHit_K (c' := c') F N T C hcd (List.mem_append_right _ List.mem_cons_self) (by simp [TriplesOk, rawInt]) (by simp [codeAmong, rawInt]) hcl fun f ctv doc h' tk F' N' l => ?_
    exact h f c' oc vs t ctv doc h' tk [] F' N' (fun _ hp => nomatch hp) h1 h2 h3 l (fun _ hq => nomatch hq)
/-- the ledger in the caller's order: the table, what may change, what stays -/
theorem regroup {h : Heap} {P : Addr} {tab : Obj} {cx mu st : List (Addr × Obj)} (N : News h₀ L h (pre ++ (P, tab) :: (cx ++ (mu ++ st)))) (hpre : ∀ p ∈ pre, p.1 ≠ P) (fpre : ∀ p ∈ pre, ∀ q ∈ mu ++ st, q.1 ≠ p.1)
    (hcx : ∀ p ∈ cx, p.1 ≠ P) (fcx : ∀ p ∈ cx, ∀ q ∈ mu ++ st, q.1 ≠ p.1) (off : ∀ p ∈ mu ++ st, p.1 ≠ P) :
    ∃ stx, News h₀ L h ((P, tab) :: (mu ++ stx)) ∧ (∀ p ∈ mu ++ stx, p.1 ≠ P) ∧ (∀ p ∈ st, p ∈ stx) ∧ (∀ p ∈ stx, p ∈ st ∨ ∀ q ∈ mu ++ st, q.1 ≠ p.1) ∧ (∀ p ∈ pre, p ∈ stx) ∧ ∀ p ∈ cx ++ st, p ∈ stx := by
  have a : ∀ p, p ∈ mu ++ ((pre ++ cx) ++ st) → p ∈ pre ∨ p ∈ cx ∨ p ∈ mu ++ st := fun p hp => by
    simp only [List.mem_append] at hp ⊢
    rcases hp with h | (h | h) | h
    · exact .inr (.inr (.inl h))
    · exact .inl h
    · exact .inr (.inl h)
    · exact .inr (.inr (.inr h))
  refine ⟨(pre ++ cx) ++ st, fun p hp => N p ?_, fun p hp => ?_, fun p hp => List.mem_append_right _ hp, fun p hp => ?_, fun p hp => List.mem_append_left _ (List.mem_append_left _ hp), fun p hp => ?_⟩
  · rcases List.mem_cons.mp hp with rfl | hp
    · exact List.mem_append_right _ List.mem_cons_self
    · rcases a p hp with h | h | h
      · exact List.mem_append_left _ h
      · exact List.mem_append_right _ (List.mem_cons_of_mem _ (List.mem_append_left _ h))
      · exact List.mem_append_right _ (List.mem_cons_of_mem _ (List.mem_append_right _ h))
  · rcases a p hp with h | h | h
    · exact hpre p h
    · exact hcx p h
    · exact off p h
  · rcases List.mem_append.mp hp with hp | hp
    · rcases List.mem_append.mp hp with hp | hp
      · exact .inr (fpre p hp)
      · exact .inr (fcx p hp)
    · exact .inl hp
  · rcases List.mem_append.mp hp with hp | hp
    · exact List.mem_append_left _ (List.mem_append_right _ hp)
    · exact List.mem_append_right _ hp
end
theorem offRE {D : Addr} : ∀ {l : List (Addr × Obj)}, LCg.Off1 D l → ∀ p ∈ l, p.1 ≠ D
  | [], _, _, h => nomatch h
  | q :: l, h, p, hp => by
    rcases List.mem_cons.mp hp with rfl | hp
    · exact h.1
    · exact offRE h.2 p hp
theorem ints_get {vs : List Value} {ns : List Int} (hI : IntsAre vs ns) : ∀ {i : Nat} {n : Int}, ns[i]? = some n → ∃ t, vs[i]? = some (.int n t) := by
  induction hI with
  | nil => intro i n h; simp at h
  | cons n t _ ih =>
    intro i k h
    cases i with
    | zero => simp at h; subst h; exact ⟨t, rfl⟩
    | succ i => obtain ⟨t', h'⟩ := ih (i := i) (n := k) (by simpa using h); exact ⟨t', by simpa using h'⟩
theorem ints_item {prog : Program} {w : World} {A : Around} {E : Value → Shared → Prop} {s : Shared} {value slice : Expr} {l : Addr} {vs : List Value} {ns : List Int} {c i : Nat} {n : Int} {u : Tok} {Q : Value → Shared → Prop}
    (hl : s.heap.get? l = some ({ cls := .type "list", data := .seq vs.toArray c } : Obj)) (hI : IntsAre vs ns) (hn : ns[i]? = some n) (hi : i < 2 ^ 60) (h : ∀ t, Q (.int n t) s)
    (hs : subscripted slice false (.ref l) (.int (i : Nat) u) = operate [.ref l, .int (i : Nat) u] (getItem (.ref l) (.int (i : Nat) u)) := by with_unfolding_all rfl) :
    wpAny (model prog w) A (subscriptTail value slice (.ref l) (.int (i : Nat) u)) Q E s := by
  obtain ⟨t, ht⟩ := ints_get hI hn
  exact tail_any (Heap.IsList.typeIs ⟨_, hl, rfl, _, rfl⟩) F.slot_list_getitem.lookup (wpAny_getItem_list ⟨_, hl, rfl, _, rfl⟩ (by omega) (by omega) (by simpa using ht) (h t)) hs
theorem ints_itemL {prog : Program} {w : World} {A : Around} {E : Value → Shared → Prop} {s : Shared} {value slice : Expr} {l : Addr} {vs : List Value} {ns : List Int} {i : Nat} {n : Int} {u : Tok} {Q : Value → Shared → Prop}
    (hl : s.heap.IsList l vs.toArray) (hI : IntsAre vs ns) (hn : ns[i]? = some n) (hi : i < 2 ^ 60) (h : ∀ t, Q (.int n t) s)
    (hs : subscripted slice false (.ref l) (.int (i : Nat) u) = operate [.ref l, .int (i : Nat) u] (getItem (.ref l) (.int (i : Nat) u)) := by with_unfolding_all rfl) :
    wpAny (model prog w) A (subscriptTail value slice (.ref l) (.int (i : Nat) u)) Q E s := by
  obtain ⟨t, ht⟩ := ints_get hI hn
  exact tail_any hl.typeIs F.slot_list_getitem.lookup (wpAny_getItem_list hl (by omega) (by omega) (by simpa using ht) (h t)) hs
theorem list_keep {h₀ h : Heap} {L l : Addr} {m : Str → Option Value} {its : Array Value} (F : Fr h₀ L h m) (x : h₀.IsList l its) : h.IsList l its := by obtain ⟨o, e, r⟩ := x; exact ⟨o, F.keep _ _ e, r⟩
/-- the ledger without some addresses -/
theorem split_news {h₀ h : Heap} {L : Addr} {all : List (Addr × Obj)} (as : List Addr) (N : News h₀ L h all) : ∃ st, News h₀ L h st ∧ (∀ p ∈ st, ∀ a ∈ as, p.1 ≠ a) ∧ ∀ p ∈ all, (∀ a ∈ as, p.1 ≠ a) → p ∈ st := by
  refine ⟨all.filter fun p => decide (∀ a ∈ as, p.1 ≠ a), fun p hp => N p (List.mem_filter.mp hp).1, fun p hp => of_decide_eq_true (List.mem_filter.mp hp).2, fun p hp h => List.mem_filter.mpr ⟨hp, decide_eq_true h⟩⟩
theorem news_cons {h₀ h : Heap} {L : Addr} {all l : List (Addr × Obj)} (a : Addr × Obj) (N : News h₀ L h all) (ha : a ∈ all) (M : News h₀ L h l) : News h₀ L h (a :: l) := fun p hp => by
  rcases List.mem_cons.mp hp with rfl | hp
  · exact N _ ha
  · exact M p hp
end Mine
namespace Mine
section
variable {prog : Program} {w : World} {A : Around} {E : Value → Shared → Prop} {s : Shared} {K : Frag} {x C L : Addr} {h₀ : Heap} {m : Str → Option Value} {ox o : Obj} {es : List DictEntry} {n : Nat} {name : Str} {v : Value}
/-- x.m(..) where x's own dict holds m, and its class a plain def so called -/
theorem method_own {pl : Sem Bool} {Q : Value × List Value → Shared → Prop} {f : Addr} (F : Fr h₀ L s.heap m) (X₀ : K.In h₀) (I : InstAt s.heap x ox C (some (dictOf es n))) (hg : plainGet K C name = true)
    (hf : findIn K (.ref C) name = some (some (.ref f))) (ht : isFn K (.ref f) = true) (hl : getL name es = some (some v)) (h : wpAny (model prog w) A (getAttr (.ref x) name) (fun v' => Q (v', [])) E s) : wpAny (model prog w) A (getMethod (.ref x) name pl) Q E s := by
  have hcan := PySem.F.canon_object_ga
  have X := X₀.keeps F.keep
  unfold getMethod specialOf
  refine wpAny_bind (wpAny_bind (I.type.here ((looks_findIn X (plainGet_of hg).1).here ?_)))
  dsimp only
  rw [hcan, if_neg (by decide)]
  refine wpAny_bind (wpAny_bind (I.type.here ((looks_findIn X (plainGet_of hg).2).here ?_)))
  refine wpAny_bind (wpAny_bind (I.type.here ((looks_findIn X hf).here (wpAny_bind ((looks_typeIn X (beq_iff_eq.mp ht)).here ?_)))))
  rw [if_neg (by decide +kernel)]
  refine wpAny_bind (wpAny_loadPart I.at_ ?_)
  have hd := I.dict
  cases e : ox.dict with
  | none => rw [e] at hd; exact hd.elim
  | some dx =>
    rw [e] at hd
    refine wpAny_bind (wpAny_bind (wpAny_loadPart hd ?_))
    have a : lookIn name (dictOf es n) = some (some v) := by rw [lookIn_dict]; exact hl
    rw [nsLook_of a]
    refine wpAny_pure ?_
    rw [if_pos (show (some v).isSome = true from rfl)]
    exact wpAny_bind (wpAny_mono h (fun _ _ hq => wpAny_pure hq) fun _ _ z => z)
theorem findObj_own2 {a g : Value} (hh : hasDictIn K C = true) (ha : findIn K (.ref C) name = some (some a)) (hn : specialIn K a "__get__" = some (some g)) (ht : takesIn K a = some false) (hl : lookIn name o = some (some v)) :
    findObj K C (some o) name = some (.value v) := by
  obtain ⟨cd, hc, hd⟩ := any_some hh
  unfold findObj
  rw [hc, Option.bind_some, ha, Option.bind_some]
  have ho : W.ownOf cd (some o) name = some (some v) := by unfold W.ownOf; rw [if_pos hd]; exact hl
  simp [hn, ht, ho]
/-- x.m where x's own dict holds m, and its class a plain def so called -/
theorem get_own2 {expr : Bool} {Q : Value → Shared → Prop} {a g : Value} (F : Fr h₀ L s.heap m) (X₀ : K.In h₀) (I : InstAt s.heap x ox C (some (dictOf es n))) (hg : plainGet K C name = true) (hh : hasDictIn K C = true)
    (ha : findIn K (.ref C) name = some (some a)) (hn : specialIn K a "__get__" = some (some g)) (ht : takesIn K a = some false) (hl : getL name es = some (some v)) (hv : handedIn v = true) (h : Q v { s with toks := s.toks + 1 }) :
    wpAny (model prog w) A (getAttr (.ref x) name expr) Q E s :=
  get_value (X₀.keeps F.keep) I (plainGet_of hg).1 (findObj_own2 hh ha hn ht (by rw [lookIn_dict]; exact hl)) hv h
end
end Mine
namespace Mine
theorem none_left {f : Value × Nat → Option Value} {l : List (Value × Nat)} (h : ∀ p ∈ l, f p = none) : l.filterMap f = [] := by
  induction l with
  | nil => rfl
  | cons a l ih =>
    rw [List.filterMap_cons, h a List.mem_cons_self]
    exact ih fun p hp => h p (List.mem_cons_of_mem _ hp)
section
variable {prog : Program} {w : World} {A : Around} {E : Value → Shared → Prop} {s : Shared}
theorem upd_nil {α : Type} {l : Addr} {items : Array Value} {n : Nat} {f : Array Value → Array Value} {rest : Sem α} {Q : α → Shared → Prop} (hl : s.heap.get? l = some ({ cls := .type "list", data := .seq items n } : Obj)) (hsz : items.size ≤ sizeLine)
    (hf : f items = #[]) (h : ∀ h' k, Heap.SameBut l s.heap h' → h'.get? l = some ({ cls := .type "list", data := .seq #[] k } : Obj) → wpAny (model prog w) A rest Q E { s with heap := h' }) :
    wpAny (model prog w) A (do Builtin.List.listUpdate (.ref l) f; rest) Q E s := by
  have e : ∃ k, Obj.mapSeq f ({ cls := .type "list", data := .seq items n } : Obj) = { cls := .type "list", data := .seq #[] k } := ⟨_, by simp only [Obj.mapSeq, hf]; rfl⟩
  obtain ⟨k, e⟩ := e
  refine wpAny_bind (wpAny_updateSeq hl rfl (hz := hsz) (_hz' := by rw [hf]; exact Nat.zero_le _) ?_)
  exact h _ k (Heap.SameBut.update ..) (by rw [Heap.get?_update_self _ hl (by rw [e]; rfl), e])
/-- del xs[:] -/
theorem delItem_all {l sl : Addr} {items : Array Value} {n : Nat} {Q : Unit → Shared → Prop} (hl : s.heap.get? l = some ({ cls := .type "list", data := .seq items n } : Obj))
    (hs : s.heap.IsSliceOf sl .none .none .none) (hsz : items.size ≤ sizeLine)
    (h : ∀ h' k, Heap.SameBut l s.heap h' → h'.get? l = some ({ cls := .type "list", data := .seq #[] k } : Obj) → Q () { s with heap := h' }) : wpAny (model prog w) A (delItem (.ref l) (.ref sl)) Q E s := by
  have hl' : s.heap.IsList l items := ⟨_, hl, rfl, _, rfl⟩
  obtain ⟨os, hos, hcs, hds⟩ := id hs
  have hTs : s.TypeIs (.ref sl) "slice" := ⟨os, hos, hcs⟩
  refine wpAny_delItem_slot hl'.typeIs (by decide) PySem.F.slot_list_delitem ?_
  refine wpAny_call_entry PySem.F.slot_list_delitem hl'.typeIs PySem.F.entry_list_delitem ?_ (PySem.F.args_list_delitem_2 _ _)
  unfold Builtin.«list.__delitem__»
  show wpAny _ _ (Builtin.List.listSubscript? (.ref sl) >>= _) _ _ s
  refine wpAny_bind ?_
  unfold Builtin.List.listSubscript?
  refine wpAny_bind (wpAny_specialOf hTs slice_no_index ?_)
  simp only [Option.isNone_none, if_true]
  refine wpAny_pure ?_
  show wpAny _ _ (typeOf (.ref sl) >>= _) _ _ s
  refine wpAny_bind (wpAny_typeOf hTs ?_)
  rw [if_neg (by decide)]
  rw [listSliceParts_eq]
  refine wpAny_bind (wpAny_bind (wpAny_field hos hds (x := .none) rfl (wpAny_bind (wpAny_listPart .none ?_))))
  rw [if_neg (show ¬ ((rawPart none == rawInt 0) = true) from Bool.false_ne_true)]
  refine wpAny_bind (wpAny_field hos hds (x := .none) rfl (wpAny_bind (wpAny_listPart .none ?_)))
  refine wpAny_bind (wpAny_field hos hds (x := .none) rfl (wpAny_bind (wpAny_listPart .none (wpAny_pure ?_))))
  refine wpAny_bind (m := Builtin.List.listItems (.ref l)) ?_
  unfold Builtin.List.listItems
  refine wpAny_bind (wpAny_seqItems hl rfl (wpAny_pure ?_))
  refine wpAny_bind (wpAny_of_eq (sliceIndices_raw none none none items.size (by simp)) ?_)
  refine wpAny_bind (wpAny_rule ?_)
  refine upd_nil hl hsz ?_ fun h' k hs' hg => wpAny_bind (wpAny_letGo (wpAny_pure ⟨_, rfl, h h' k hs' hg⟩))
  show (List.filterMap _ items.toList.zipIdx).toArray = #[]
  rw [none_left]
  intro p hp
  have hp2 : p.2 < items.size := by
    have := (List.mem_zipIdx hp).2.1
    simpa using this
  refine if_pos ?_
  change (if ((1 : Int) > 0) then (decide ((0 : Int) ≤ (p.2 : Nat)) && decide (((p.2 : Nat) : Int) < (items.size : Nat)) && ((((p.2 : Nat) : Int) - 0) % 1 == 0)) else _) = true
  rw [if_pos (by decide)]
  simp only [Bool.and_eq_true, decide_eq_true_eq, beq_iff_eq]
  omega
theorem del_all {h₀ hp : Heap} {L D : Addr} {m : Str → Option Value} {pre post : List (Addr × Obj)} {its : Array Value} {n : Nat} {Q : Unit → Shared → Prop} (hs : s.heap = hp.push { cls := .type "slice", data := .fields #[.none, .none, .none] })
    (F : Fr h₀ L hp m) (N : News h₀ L hp (pre ++ (D, listOf its n) :: post)) (h1 : ∀ p ∈ pre, p.1 ≠ D) (h2 : ∀ p ∈ post, p.1 ≠ D) (hsz : its.size ≤ sizeLine)
    (h : ∀ h' k, Fr h₀ L h' m → News h₀ L h' (pre ++ (D, listOf #[] k) :: post) → Q () { s with heap := h' }) : wpAny (model prog w) A (delItem (.ref D) (.ref hp.objs.size)) Q E s := by
  have up : ∀ b o, hp.get? b = some o → s.heap.get? b = some o := fun b o e => by rw [hs]; exact Heap.get?_push_of_some _ e
  have N' := N.grown up
  have F' := F.keeps up
  have hm : (D, listOf its n) ∈ pre ++ (D, listOf its n) :: post := List.mem_append_right _ List.mem_cons_self
  refine delItem_all (N' _ hm).1 (by rw [hs]; exact Heap.IsSliceOf.new ..) hsz fun h' k hb hg => h h' k (F'.change hb (N' _ hm).2.1 (N' _ hm).2.2) fun p hp => ?_
  rcases List.mem_append.mp hp with hp | hp
  · have z := N' p (List.mem_append_left _ hp)
    exact ⟨(hb.2 _ (h1 p hp)).trans z.1, z.2⟩
  · rcases List.mem_cons.mp hp with rfl | hp
    · exact ⟨hg, (N' _ hm).2⟩
    · have z := N' p (List.mem_append_right _ (List.mem_cons_of_mem _ hp))
      exact ⟨(hb.2 _ (h2 p hp)).trans z.1, z.2⟩
end
theorem swap_open {h₀ h : Heap} {L : Addr} {a b : Addr × Obj} {l : List (Addr × Obj)} (N : News h₀ L h (a :: b :: l)) : ∃ nw, nw = a :: l ∧ News h₀ L h (b :: nw) := by
  refine ⟨_, rfl, fun p hp => N p ?_⟩
  simp only [List.mem_cons] at hp ⊢
  rcases hp with h | h | h
  · exact .inr (.inl h)
  · exact .inl h
  · exact .inr (.inr h)
theorem pick_far {h₀ h : Heap} {L LG I CJ CF : Addr} {l oI oj of : Obj} {ts nz nw sy : List (Addr × Obj)} (N : News h₀ L h ((LG, l) :: nz)) (hnz : nz = ts ++ nw) (hnw : nw = (I, oI) :: (CJ, oj) :: (CF, of) :: sy) (n1 : @Ne Nat LG CF) (n2 : @Ne Nat I CF) (n3 : @Ne Nat CJ CF) (n4 : ∀ p ∈ sy, p.1 ≠ CF) :
    ∃ ny, News h₀ L h ((CF, of) :: ny) ∧ (∀ p ∈ ny, p.1 ≠ CF) ∧ (∀ p ∈ sy, p ∈ ny) ∧ (CJ, oj) ∈ ny ∧ (LG, l) ∈ ny ∧ (I, oI) ∈ ny ∧ ∀ p ∈ ny, p ∈ (LG, l) :: (I, oI) :: (CJ, oj) :: sy := by
  refine ⟨(LG, l) :: (I, oI) :: (CJ, oj) :: sy, fun p hp => N p ?_, List.forall_mem_cons.mpr ⟨n1, List.forall_mem_cons.mpr ⟨n2, List.forall_mem_cons.mpr ⟨n3, n4⟩⟩⟩, fun p hp => .tail _ (.tail _ (.tail _ hp)), .tail _ (.tail _ (.head _)), .head _, .tail _ (.head _), fun _ h => h⟩
  rw [hnz, hnw]
  simp only [List.mem_cons, List.mem_append] at hp ⊢
  rcases hp with h | h | h | h | h
  · exact .inr (.inr (.inr (.inr (.inl h))))
  · exact .inl h
  · exact .inr (.inr (.inl h))
  · exact .inr (.inr (.inr (.inl h)))
  · exact .inr (.inr (.inr (.inr (.inr h))))
theorem list_item {prog : Program} {w : World} {A : Around} {E : Value → Shared → Prop} {s : Shared} {value slice : Expr} {l : Addr} {vs : List Value} {c i : Nat} {v : Value} {u : Tok} {Q : Value → Shared → Prop}
    (hl : s.heap.get? l = some ({ cls := .type "list", data := .seq vs.toArray c } : Obj)) (hn : vs[i]? = some v) (hi : i < 2 ^ 60) (h : Q v s)
    (hs : subscripted slice false (.ref l) (.int (i : Nat) u) = operate [.ref l, .int (i : Nat) u] (getItem (.ref l) (.int (i : Nat) u)) := by with_unfolding_all rfl) :
    wpAny (model prog w) A (subscriptTail value slice (.ref l) (.int (i : Nat) u)) Q E s :=
  tail_any (Heap.IsList.typeIs ⟨_, hl, rfl, _, rfl⟩) F.slot_list_getitem.lookup (wpAny_getItem_list ⟨_, hl, rfl, _, rfl⟩ (by omega) (by omega) (by simpa using hn) h) hs
theorem put_second {h₀ h : Heap} {L I C : Addr} {o oI oC : Obj} {l : List (Addr × Obj)} (N : News h₀ L h (put C o ((I, oI) :: (C, oC) :: l))) (hI : I ≠ C) (hl : ∀ p ∈ l, p.1 ≠ C) : News h₀ L h ((I, oI) :: (C, o) :: l) := fun p hp => N p (by
  rcases List.mem_cons.mp hp with rfl | hp
  · exact put_mem (.head _) hI
  · rcases List.mem_cons.mp hp with rfl | hp
    · exact put_self
    · exact put_mem (.tail _ (.tail _ hp)) (hl p hp))
theorem rangeF_yes {f : Nat → Bool} {q : Nat} {zs : List Value} {t : Tok} (h : IntsAre zs (((List.range q).filter f).map fun p : Nat => (p : Int))) (hf : f q = true) : IntsAre (zs ++ [.int (q : Nat) t]) (((List.range (q + 1)).filter f).map fun p : Nat => (p : Int)) := by
  rw [List.range_succ, List.filter_append, List.map_append]
  show IntsAre _ (_ ++ List.map _ (List.filter f [q]))
  rw [List.filter_cons_of_pos hf, List.filter_nil]
  exact IntsAre.append h (.cons _ _ .nil)
theorem rangeF_no {f : Nat → Bool} {q : Nat} {zs : List Value} (h : IntsAre zs (((List.range q).filter f).map fun p : Nat => (p : Int))) (hf : f q = false) : IntsAre zs (((List.range (q + 1)).filter f).map fun p : Nat => (p : Int)) := by
  rw [List.range_succ, List.filter_append, List.map_append]
  show IntsAre _ (_ ++ List.map _ (List.filter f [q]))
  rw [List.filter_cons_of_neg (by rw [hf]; decide), List.filter_nil, List.map_nil, List.append_nil]
  exact h
theorem takeF_yes {f : Nat → Bool} {gl : List Nat} {q p : Nat} {zs : List Value} {t : Tok} (h : IntsAre zs (((gl.take q).filter f).map fun p : Nat => (p : Int))) (hp : gl[q]? = some p) (hf : f p = true) : IntsAre (zs ++ [.int (p : Nat) t]) (((gl.take (q + 1)).filter f).map fun p : Nat => (p : Int)) := by
  rw [List.take_add_one, hp, List.filter_append, List.map_append]
  show IntsAre _ (_ ++ List.map _ (List.filter f [p]))
  rw [List.filter_cons_of_pos hf, List.filter_nil]
  exact IntsAre.append h (.cons _ _ .nil)
theorem takeF_no {f : Nat → Bool} {gl : List Nat} {q p : Nat} {zs : List Value} (h : IntsAre zs (((gl.take q).filter f).map fun p : Nat => (p : Int))) (hp : gl[q]? = some p) (hf : f p = false) : IntsAre zs (((gl.take (q + 1)).filter f).map fun p : Nat => (p : Int)) := by
  rw [List.take_add_one, hp, List.filter_append, List.map_append]
  show IntsAre _ (_ ++ List.map _ (List.filter f [p]))
  rw [List.filter_cons_of_neg (by rw [hf]; decide), List.filter_nil, List.map_nil, List.append_nil]
  exact h
theorem ne_empty {prog : Program} {w : World} {A : Around} {E : Value → Shared → Prop} {s : Shared} {l b : Addr} {zs : List Value} {c c2 : Nat} {Q : Value → Shared → Prop}
    (hl : s.heap.get? l = some ({ cls := .type "list", data := .seq zs.toArray c } : Obj)) (hb : s.heap.get? b = some ({ cls := .type "list", data := .seq #[] c2 } : Obj)) (hu : A.units < cLine)
    (h : Q (.bool (!zs.isEmpty)) s) : wpAny (model prog w) A (compareOp .NotEq (.ref l) (.ref b)) Q E s := by
  cases zs with
  | nil => exact SeqAt.RcNeAt.lists (e := fun _ => true) ⟨_, hl, rfl, _, rfl⟩ ⟨_, hb, rfl, _, rfl⟩ rfl hu (fun j h1 _ => absurd h1 (Nat.not_lt_zero j)) prog w E Q h
  | cons z zs => exact SeqAt.RcNeAt.lists_lengths ⟨_, hl, rfl, _, rfl⟩ ⟨_, hb, rfl, _, rfl⟩ (by simp) hu prog w E Q h
theorem item0 {prog : Program} {w : World} {A : Around} {E : Value → Shared → Prop} {s : Shared} {value slice : Expr} {l : Addr} {v : Value} {vs : List Value} {c : Nat} {u : Tok} {Q : Value → Shared → Prop}
    (hl : s.heap.get? l = some ({ cls := .type "list", data := .seq (v :: vs).toArray c } : Obj)) (h : Q v s)
    (hs : subscripted slice false (.ref l) (.int 0 u) = operate [.ref l, .int 0 u] (getItem (.ref l) (.int 0 u)) := by with_unfolding_all rfl) :
    wpAny (model prog w) A (subscriptTail value slice (.ref l) (.int 0 u)) Q E s :=
  tail_any (Heap.IsList.typeIs ⟨_, hl, rfl, _, rfl⟩) F.slot_list_getitem.lookup (wpAny_getItem_list ⟨_, hl, rfl, _, rfl⟩ (by decide) (by decide) (by simp) h) hs
theorem cast_at {gl : List Nat} {zs : List Value} {q : Nat} {v : Value} (h : IntsAre zs (gl.map fun p : Nat => (p : Int))) (hv : zs[q]? = some v) : ∃ p t, gl[q]? = some p ∧ v = .int (p : Nat) t := by
  obtain ⟨k, t, h1, rfl⟩ := ints_turn h hv
  rw [List.getElem?_map] at h1
  cases hg : gl[q]? with
  | none => rw [hg] at h1; cases h1
  | some p => rw [hg] at h1; exact ⟨p, t, rfl, by rw [← Option.some.inj h1]⟩
theorem off_swap {C I : Addr} {o : Obj} (o2 : Obj) {l : List (Addr × Obj)} (h : ∀ p ∈ (C, o) :: l, p.1 ≠ I) : ∀ p ∈ (C, o2) :: l, p.1 ≠ I :=
  List.forall_mem_cons.mpr ⟨h (C, o) (.head _), fun p hp => h p (.tail _ hp)⟩
theorem lists_same {prog : Program} {w : World} {A : Around} {E : Value → Shared → Prop} {s : Shared} {l b : Addr} {its : Array Value} {c c2 : Nat} {Q : Value → Shared → Prop}
    (hl : s.heap.get? l = some ({ cls := .type "list", data := .seq its c } : Obj)) (hb : s.heap.get? b = some ({ cls := .type "list", data := .seq its c2 } : Obj)) (hu : A.units < cLine)
    (h : Q (.bool true) s) : wpAny (model prog w) A (compareOp .Eq (.ref l) (.ref b)) Q E s := by
  refine SeqAt.eq_listAt (e := fun _ => true) ⟨_, hl, rfl, _, rfl⟩ ⟨_, hb, rfl, _, rfl⟩ rfl hu (fun j g1 g2 => SeqAt.EqAt.same _) ?_
  rw [List.all_eq_true.mpr fun _ _ => rfl]; exact h
end Mine
namespace Mine
local macro_rules | `(tactic| k_all) => `(tactic| first | assumption | exact Mine.ne_of_allLt (‹AllLt _ _›) | exact Mine.ne_of_allLt (‹_ ∧ AllLt _ _›).2 | exact Mine.ne_of_allLt (‹_ ∧ _ ∧ AllLt _ _›).2.2 | exact Mine.ne_of_allLt (‹_ ∧ _ ∧ _ ∧ AllLt _ _›).2.2.2 | exact Mine.ne_of_allLt (‹_ ∧ _ ∧ _ ∧ _ ∧ AllLt _ _›).2.2.2.2 | exact Mine.ne_of_allLt (‹_ ∧ _ ∧ _ ∧ _ ∧ _ ∧ AllLt _ _›).2.2.2.2.2 | exact Mine.ne_of_allLt (‹_ ∧ _ ∧ _ ∧ _ ∧ _ ∧ _ ∧ AllLt _ _›).2.2.2.2.2.2 | exact Mine.ne_of_allLt (‹_ ∧ _ ∧ _ ∧ _ ∧ _ ∧ _ ∧ _ ∧ AllLt _ _›).2.2.2.2.2.2.2 | exact Mine.ne_of_allLt (‹_ ∧ _ ∧ _ ∧ _ ∧ _ ∧ _ ∧ _ ∧ _ ∧ AllLt _ _›).2.2.2.2.2.2.2.2 | exact Mine.ne_of_allLt (‹_ ∧ _ ∧ _ ∧ _ ∧ _ ∧ _ ∧ _ ∧ _ ∧ _ ∧ AllLt _ _›).2.2.2.2.2.2.2.2.2 | exact Mine.ne_of_allLt (‹_ ∧ _ ∧ _ ∧ _ ∧ _ ∧ _ ∧ _ ∧ _ ∧ _ ∧ _ ∧ AllLt _ _›).2.2.2.2.2.2.2.2.2.2 | exact Mine.ne_of_allLt (‹_ ∧ _ ∧ _ ∧ _ ∧ _ ∧ _ ∧ _ ∧ _ ∧ _ ∧ _ ∧ _ ∧ AllLt _ _›).2.2.2.2.2.2.2.2.2.2.2 | exact Mine.ne_of_allLt (‹_ ∧ _ ∧ _ ∧ _ ∧ _ ∧ _ ∧ _ ∧ _ ∧ _ ∧ _ ∧ _ ∧ _ ∧ AllLt _ _›).2.2.2.2.2.2.2.2.2.2.2.2 | exact Mine.ne_of_allLt (‹_ ∧ _ ∧ _ ∧ _ ∧ _ ∧ _ ∧ _ ∧ _ ∧ _ ∧ _ ∧ _ ∧ _ ∧ _ ∧ AllLt _ _›).2.2.2.2.2.2.2.2.2.2.2.2.2)
local macro_rules | `(tactic| walk_at "MINE step") => `(tactic| first | (k_unfold; (try dsimp only)) | walk1 | (dsimp only; walk1) | (leave1; walk_say "STEP leave1"; (try dsimp only)))
local macro_rules | `(tactic| k_mem) => `(tactic| (refine mem_of ?_; ktr_member))
/-- Entry() -/
theorem new_entry {w : World} {p : Program} {loose : List Str} {mean : ExcName → Option Value} {mg mb : Str → Option Value} {A₀ : Around} {base h₀ : Heap} {Ev Ev2 : Env} {L : Addr} {m : Str → Option Value} {nx : List (Addr × Obj)} {s : Shared} {Q E : Value → Shared → Prop} :
    (Mine.hd.heap_39 w.params).In h₀ → Below A₀ base [Ev] h₀ → Top p loose mean mg mb h₀ → Ev2.frame = some L → Ev2.scope.kind = .function →
    Fr h₀ L s.heap m → News h₀ L s.heap nx →
    (∀ h' tk' x d U R e1 e2 e3 e4 t1 t2 t3 t4, Fr h₀ L h' m → News h₀ L h' ((R, listOf #[] 0) :: (U, listOf #[] 0) :: (x, instObj 52 d) :: (d, dictOf [⟨e1, .str "useragents" t1, .ref U⟩, ⟨e2, .str "rulelines" t2, .ref R⟩, ⟨e3, .str "delay" t3, .none⟩, ⟨e4, .str "req_rate" t4, .none⟩] 4) :: nx) →
      AllLt d nx → @LT.lt Nat _ d x → @LT.lt Nat _ x U → @LT.lt Nat _ U R → Q (.ref x) { s with heap := h', toks := tk' }) →
    wpAny (model Challenge.rw_kn0089_02.row.prog w) ((callerA.deeper Ev).deeper Ev2) (call (.ref 52) []) Q E s := by
  w_top off
  k_fill
  intro X B T hEf hEk F N hQ
  k_dflt (refine' call_cls ?k1 ?k2 ?k3 ?k4 ?k5 ?k6 ?_; (case k1 => k_asm); (case k2 => k_asm); (case k3 => k_asm); (case k4 => k_is); (case k5 => k_is); (case k6 => k_is); k_whole; intro x d h1 F1 N1 l1 l2; (try k_lt l1); (try k_lt2 l2))
  k_dflt (refine' code_def (binds := [("self", .ref x)]) ?k1 ?k2 ?k3 ?k4 ?k5 ?kA ?kF ?kK ?k6 ?k7 ?k8 ?k9 ?kB ?_ ?c2 ?c3 ?c4 ?c5; (case kA => exact rfl); (case kF => assumption); (case kK => assumption); (case k1 => k_asm); (case k2 => k_asm); (case k3 => k_asm); (case k4 => k_asm); (case k5 => k_asm); (case k6 => k_is); (case k7 => k_is); (case k8 => k_room); (case k9 => exact BindsTo.of_eq rfl); (case c5 => decide); (case kB => exact locs rfl); (case c2 => exact rfl); (case c3 => exact rfl); (case c4 => exact rfl); k_whole; intro g' L' h' FG' F' N' B' X' T'; (try dsimp only); (try k_fold))
  repeat' (walk_at "MINE step")
  rename Fr _ _ _ _ => Fz
  rename News _ _ _ _ => Nz
  exact hQ _ _ _ _ _ _ _ _ _ _ _ _ _ _ Fz Nz (allLt_of l1) l2 (‹@LT.lt Nat _ x _ ∧ @LT.lt Nat _ d _ ∧ AllLt _ nx›).1 (‹@LT.lt Nat _ _ _ ∧ @LT.lt Nat _ x _ ∧ @LT.lt Nat _ d _ ∧ AllLt _ nx›).1

/-- what the j-th name is -/
def nm (j : Nat) : Str := (["/a", "", "/a/b", "/c"] : List Str).getD j ""
/-- how far a rule reaches -/
def reach (n : Int) (j : Nat) : Int := ((n.fdiv 2).fdiv ((5 : Int) ^ j)).fmod 5
def allow (place n : Int) : Str := if n.fmod 2 = 1 then Txt.mul "x" (place + 1) else ""
def IsNames (v : List Value) : Prop := ∃ t0 t1 t2 t3, v = [.str "/a" t0, .str "" t1, .str "/a/b" t2, .str "/c" t3]
def Al (place n : Int) (v : Value) : Prop := ∃ t, v = .str (allow place n) t

def JoinP (P : Value → Prop) (s : Shared) (v : Value) (s' : Shared) : Prop := P v ∧ ∃ tk, s' = { s with toks := tk }
theorem join_eval {M : Model} {A : Around} {E : Value → Shared → Prop} {s : Shared} {t : Sem Value} {Q : Value → Shared → Prop} (P : Value → Prop) (h1 : wpAny M A t (JoinP P s) E s) (h2 : ∀ v tk, P v → Q v { s with toks := tk }) : wpAny M A t Q E s :=
  wpAny_mono h1 (fun _ _ ⟨hp, tk, e⟩ => e ▸ h2 _ tk hp) fun _ _ e => e
def sameStr (x : Str) : Value → Bool
  | .str y _ => y.cps.toList == x.cps.toList
  | _ => false
theorem names_index {prog : Program} {w : World} {A : Around} {E : Value → Shared → Prop} {s : Shared} {NA : Addr} {nv : List Value} {nk j : Nat} {t : Tok} {Q : Value → Shared → Prop} (hl : s.heap.get? NA = some ({ cls := .type "list", data := .seq nv.toArray nk } : Obj)) (hn : IsNames nv) (hj : j < 4)
    (h : ∀ tr tk, Q (.int (j : Nat) tr) { s with toks := tk }) : wpAny (model prog w) A (call (.builtin "list.index") [.ref NA, .str (nm j) t]) Q E s := by
  obtain ⟨t0, t1, t2, t3, rfl⟩ := hn
  refine call_meets PySem.F.slot_list_index ⟨_, hl, rfl⟩ PySem.F.entry_list_index (PySem.F.args_list_index_2 _ _)
    (MeetsSeq.list_index NA _ nk (.str (nm j) t) (sameStr (nm j)) (fun y hy => ?_) j (by simpa using hj) (by omega) ?_ (fun i hi hlt => ?_)) ⟨hl, h _ _⟩
  · simp only [List.mem_toArray, List.mem_cons, List.not_mem_nil, or_false] at hy
    rcases hy with rfl | rfl | rfl | rfl <;> exact SeqRoads2.EqGives.str _ _ _ _
  · have : j = 0 ∨ j = 1 ∨ j = 2 ∨ j = 3 := by omega
    rcases this with rfl | rfl | rfl | rfl <;> first | (show ((("/a" : Str)).cps.toList == _) = _; decide +kernel) | (show ((("" : Str)).cps.toList == _) = _; decide +kernel) | (show ((("/a/b" : Str)).cps.toList == _) = _; decide +kernel) | (show ((("/c" : Str)).cps.toList == _) = _; decide +kernel)
  · have : j = 0 ∨ j = 1 ∨ j = 2 ∨ j = 3 := by omega
    rcases this with rfl | rfl | rfl | rfl
    · omega
    · have : i = 0 := by omega
      subst this; first | (show ((("/a" : Str)).cps.toList == _) = _; decide +kernel) | (show ((("" : Str)).cps.toList == _) = _; decide +kernel) | (show ((("/a/b" : Str)).cps.toList == _) = _; decide +kernel) | (show ((("/c" : Str)).cps.toList == _) = _; decide +kernel)
    · have : i = 0 ∨ i = 1 := by omega
      rcases this with rfl | rfl <;> first | (show ((("/a" : Str)).cps.toList == _) = _; decide +kernel) | (show ((("" : Str)).cps.toList == _) = _; decide +kernel) | (show ((("/a/b" : Str)).cps.toList == _) = _; decide +kernel) | (show ((("/c" : Str)).cps.toList == _) = _; decide +kernel)
    · have : i = 0 ∨ i = 1 ∨ i = 2 := by omega
      rcases this with rfl | rfl | rfl <;> first | (show ((("/a" : Str)).cps.toList == _) = _; decide +kernel) | (show ((("" : Str)).cps.toList == _) = _; decide +kernel) | (show ((("/a/b" : Str)).cps.toList == _) = _; decide +kernel) | (show ((("/c" : Str)).cps.toList == _) = _; decide +kernel)
/-- calling the closure F with the j-th name: it writes down (place, name) and tells how far the rule reaches -/
def ReachOk (w : World) (nx : List (Addr × Obj)) (LG F : Addr) (place number : Int) : Prop :=
  ∀ ⦃p : Program⦄ ⦃loose : List Str⦄ ⦃mean : ExcName → Option Value⦄ ⦃mg mb : Str → Option Value⦄ ⦃A₀ : Around⦄ ⦃base h₀ : Heap⦄ ⦃Ev Ev2 : Env⦄ ⦃L : Addr⦄ ⦃m : Str → Option Value⦄ ⦃nw : List (Addr × Obj)⦄ ⦃vs : List Value⦄ ⦃k : Nat⦄ ⦃s : Shared⦄ ⦃j : Nat⦄ ⦃t : Tok⦄ ⦃Q E : Value → Shared → Prop⦄,
    (Mine.hd.heap_39 w.params).In h₀ → Below A₀ base [Ev] h₀ → Top p loose mean mg mb h₀ → Ev2.frame = some L → Ev2.scope.kind = .function →
    Fr h₀ L s.heap m → News h₀ L s.heap ((LG, listOf vs.toArray k) :: nw) → (∀ p ∈ nw, p.1 ≠ LG) → (∀ p ∈ nx, p ∈ nw) → vs.length ≤ 100 → j < 4 →
    (∀ h' tk' T k' tp tn tr, Fr h₀ L h' m → News h₀ L h' ((T, ({ cls := .type "tuple", data := .seq #[.int place tp, .str (nm j) tn] } : Obj)) :: (LG, listOf (vs ++ [Value.ref T]).toArray k') :: nw) → (∀ p ∈ nw, p.1 < T) → @LT.lt Nat _ LG T → Q (.int (reach number j) tr) { s with heap := h', toks := tk' }) →
    wpAny (model Challenge.rw_kn0089_02.row.prog w) ((callerA.deeper Ev).deeper Ev2) (call (.ref F) [.str (nm j) t]) Q E s
theorem ReachOk.up {w : World} {nx nx' : List (Addr × Obj)} {LG F : Addr} {place number : Int} (h : ReachOk w nx LG F place number) (k : ∀ p ∈ nx, p ∈ nx') : ReachOk w nx' LG F place number :=
  by
  intro _ _ _ _ _ _ _ _ _ _ _ _ _ _ _ _ _ _ _ _ X B T a b F N off sub c d hQ
  exact h X B T a b F N off (fun p hp => sub p (k p hp)) c d hQ
def RuleAt (w : World) (nx : List (Addr × Obj)) (LG x : Addr) (place number : Int) : Prop :=
  ∃ d U R F e1 e2 e3 e4 e5 e6 t1 t2 t3 t4 t5 t6 ta oc od fd sl, (x, instObj 52 d) ∈ nx ∧
    (d, dictOf [⟨e1, .str "useragents" t1, .ref U⟩, ⟨e2, .str "rulelines" t2, .ref R⟩, ⟨e3, .str "delay" t3, .none⟩, ⟨e4, .str "req_rate" t4, .none⟩, ⟨e5, .str "allowance" t5, .str (allow place number) ta⟩, ⟨e6, .str "applies_to" t6, .ref F⟩] 6) ∈ nx ∧
    (F, (⟨oc, od, .func fd, sl⟩ : Obj)) ∈ nx ∧ ReachOk w nx LG F place number
theorem RuleAt.up {w : World} {nx nx' : List (Addr × Obj)} {LG x : Addr} {place number : Int} (h : RuleAt w nx LG x place number) (k : ∀ p ∈ nx, p ∈ nx') : RuleAt w nx' LG x place number := by
  obtain ⟨d, U, R, F, e1, e2, e3, e4, e5, e6, t1, t2, t3, t4, t5, t6, ta, oc, od, fd, sl, h1, h2, h3, h4⟩ := h
  exact ⟨d, U, R, F, e1, e2, e3, e4, e5, e6, t1, t2, t3, t4, t5, t6, ta, oc, od, fd, sl, k _ h1, k _ h2, k _ h3, h4.up k⟩
end Mine
namespace Mine
local macro_rules | `(tactic| k_all) => `(tactic| first | assumption | exact Mine.ne_of_allLt (‹AllLt _ _›) | exact Mine.ne_of_allLt (‹_ ∧ AllLt _ _›).2 | exact Mine.ne_of_allLt (‹_ ∧ _ ∧ AllLt _ _›).2.2 | exact Mine.ne_of_allLt (‹_ ∧ _ ∧ _ ∧ AllLt _ _›).2.2.2 | exact Mine.ne_of_allLt (‹_ ∧ _ ∧ _ ∧ _ ∧ AllLt _ _›).2.2.2.2 | exact Mine.ne_of_allLt (‹_ ∧ _ ∧ _ ∧ _ ∧ _ ∧ AllLt _ _›).2.2.2.2.2 | exact Mine.ne_of_allLt (‹_ ∧ _ ∧ _ ∧ _ ∧ _ ∧ _ ∧ AllLt _ _›).2.2.2.2.2.2 | exact Mine.ne_of_allLt (‹_ ∧ _ ∧ _ ∧ _ ∧ _ ∧ _ ∧ _ ∧ AllLt _ _›).2.2.2.2.2.2.2 | exact Mine.ne_of_allLt (‹_ ∧ _ ∧ _ ∧ _ ∧ _ ∧ _ ∧ _ ∧ _ ∧ AllLt _ _›).2.2.2.2.2.2.2.2 | exact Mine.ne_of_allLt (‹_ ∧ _ ∧ _ ∧ _ ∧ _ ∧ _ ∧ _ ∧ _ ∧ _ ∧ AllLt _ _›).2.2.2.2.2.2.2.2.2 | exact Mine.ne_of_allLt (‹_ ∧ _ ∧ _ ∧ _ ∧ _ ∧ _ ∧ _ ∧ _ ∧ _ ∧ _ ∧ AllLt _ _›).2.2.2.2.2.2.2.2.2.2 | exact Mine.ne_of_allLt (‹_ ∧ _ ∧ _ ∧ _ ∧ _ ∧ _ ∧ _ ∧ _ ∧ _ ∧ _ ∧ _ ∧ AllLt _ _›).2.2.2.2.2.2.2.2.2.2.2 | exact Mine.ne_of_allLt (‹_ ∧ _ ∧ _ ∧ _ ∧ _ ∧ _ ∧ _ ∧ _ ∧ _ ∧ _ ∧ _ ∧ _ ∧ AllLt _ _›).2.2.2.2.2.2.2.2.2.2.2.2 | exact Mine.ne_of_allLt (‹_ ∧ _ ∧ _ ∧ _ ∧ _ ∧ _ ∧ _ ∧ _ ∧ _ ∧ _ ∧ _ ∧ _ ∧ _ ∧ AllLt _ _›).2.2.2.2.2.2.2.2.2.2.2.2.2)
local macro_rules | `(tactic| walk_at "MINE step") => `(tactic| first | (k_unfold; (try dsimp only)) | walk1 | (dsimp only; walk1) | (leave1; walk_say "STEP leave1"; (try dsimp only)))
local macro_rules | `(tactic| k_mem) => `(tactic| (refine mem_of ?_; ktr_member))
theorem rule {w : World} {p : Program} {loose : List Str} {mean : ExcName → Option Value} {mg mb : Str → Option Value} {h₀ : Heap} {Ev : Env} {L : Addr} {m : Str → Option Value} {mu st : List (Addr × Obj)} {ps : Array Value} {s : Shared} {Q E : Value → Shared → Prop}
    {place number : Int} {t1 t2 : Tok} {NA LG : Addr} {nv : List Value} {nk : Nat} :
    (Mine.hd.heap_39 w.params).In h₀ → Below callerA h₀ [] h₀ → Top p loose mean mg mb h₀ → CodeHd h₀ 60 58 → Ev.frame = some L → Ev.scope.kind = .function →
    Fr h₀ L s.heap m → News h₀ L s.heap ((58, tabObj ps) :: (mu ++ st)) → (∀ p ∈ mu ++ st, p.1 ≠ 58) → TabSt 56 4 "_law_rule.<locals>._law_reach" st ps → (NA, ({ cls := .type "list", data := .seq nv.toArray nk } : Obj)) ∈ st → IsNames nv → 0 ≤ place → place < 63 →
    (∀ h' tk' T x RE rs st' ps' kr, Fr h₀ L h' m → News h₀ L h' ((58, tabObj ps') :: (mu ++ st')) → (∀ p ∈ mu ++ st', p.1 ≠ 58) → (∀ p ∈ st, p ∈ st') → (∀ p ∈ st', p ∈ st ∨ ∀ q ∈ mu ++ st, q.1 ≠ p.1) →
      TabSt 56 4 "_law_rule.<locals>._law_reach" st' ps' → (T, ({ cls := .type "tuple", data := .seq #[.ref x, .ref RE] } : Obj)) ∈ st' → RuleAt w st' LG x place number → (RE, ({ cls := .type "list", data := .seq rs kr } : Obj)) ∈ st' → IntsAre rs.toList ((List.range 4).map (reach number)) → Q (.ref T) { s with heap := h', toks := tk' }) →
    wpAny (model Challenge.rw_kn0089_02.row.prog w) (callerA.deeper Ev) (call (.ref 61) [.int place t1, .int number t2, .ref NA, .ref LG]) Q E s := by
  w_top off
  k_fill
  intro X B T C hEf hEk F N h58 hps hNA hnv hp0 hp1 hQ
  obtain ⟨nx, hnx⟩ : ∃ nx, nx = mu ++ st := ⟨_, rfl⟩
  rw [← hnx] at N h58
  refine wpAny_call ?_
  k_dflt (refine' code_defC (binds := [("place", .int place t1), ("number", .int number t2), ("names", .ref NA), ("log", .ref LG)]) ?k1 ?k2 ?k3 ?k4 ?k5 ?kA ?kF ?kK ?k6 ?k7 ?k8 ?k9 ?kB ?kD ?_ ?c2 ?c3 ?c4; (case kA => exact rfl); (case kF => assumption); (case kK => assumption); (case k1 => k_asm); (case k2 => k_asm); (case k3 => k_asm); (case k4 => k_asm); (case k5 => k_asm); (case k6 => k_is); (case k7 => k_is); (case k8 => k_room); (case k9 => exact BindsTo.of_eq rfl); (case kB => exact rfl); (case kD => decide +kernel); (case c2 => exact rfl); (case c3 => exact rfl); (case c4 => exact rfl); k_whole; intro g' L' h' tk' cells' FG' F' N' Y' B' X' T' l1; (try k_lt l1))
  obtain ⟨oR, oG, oN, oM, oP, hE', d1', d2', d3', d4', d5'⟩ := kc_five Y'
  have d1 : oR.data = .cell none := d1'
  have d2 : oG.data = .cell (some (.ref LG)) := d2'
  have d3 : oN.data = .cell (some (.ref NA)) := d3'
  have d4 : oM.data = .cell (some (.int number t2)) := d4'
  have d5 : oP.data = .cell (some (.int place t1)) := d5'
  subst hE'
  clear Y' d1' d2' d3' d4' d5'
  (try simp only [List.cons_append, List.nil_append] at N')
  (try dsimp only)
  repeat ((fail_if_success (with_reducible show wpAny _ _ (call _ _ _) _ _ _)); walk_at "MINE step")
  refine new_entry (by k_asm) B' (by k_asm) (by rfl) (by rfl) (by k_asm) (by k_asm) ?_
  intro h2 tk2 x d U R e1 e2 e3 e4 u1 u2 u3 u4 F2 N2 l2 l3 l4 l5
  dsimp only [AllLt] at l2
  repeat ((fail_if_success (with_reducible show wpAny _ _ (eval (Expr.IfExp _ _ _ _) _) _ _ _)); walk_at "MINE step")
  refine join_eval (Al place number) ?_ ?_
  · repeat' (walk_at "MINE step")
    · exact ⟨⟨_, by rw [allow, if_pos (by assumption)]⟩, _, rfl⟩
    · exact ⟨⟨_, by rw [allow, if_neg (by assumption)]⟩, _, rfl⟩
  rintro v tk3 ⟨ta, rfl⟩
  (try dsimp only)
  repeat ((fail_if_success (with_reducible show wpAny _ _ (eval (Expr.ListComp _ _ _ _) _) _ _ _)); walk_at "MINE step")
  k_dflt (refine LCg.ListComp_U (F₀ := by k_asm) (by with_unfolding_all rfl) (by decide) (by rfl) (by decide) (by rfl) ?_)
  repeat ((with_reducible show wpAny _ _ _ _ _ _); walk_at "MINE step")
  refine LCg.CompSrc.range (n := 4) (by rfl) (by k_asm) (by k_asm) (by assumption) (by rfl) (by rfl) (by rw [PySem.sizeLine_eq]; omega) ?_
  intro g3
  refine comp_keep (fun i ys => IntsAre ys ((List.range i).map (reach number))) .nil trivial ?_ ?_
  · rintro i v ys I oI C oC D m₂ h tk E' hi ⟨t, rfl⟩ hys hC hx F N off ne
    have : i = 0 ∨ i = 1 ∨ i = 2 ∨ i = 3 := by omega
    rcases this with rfl | rfl | rfl | rfl
    · rw [show (0:Int) + ((0:Nat):Int) = 0 from rfl] at hx
      repeat' (walk_at "MINE step")
      rename Fr _ _ _ _ => Fz
      rename News _ _ _ _ => Nz
      refine CompK.intro Fz Nz (fun _ h => h) ?_
      rw [List.range_succ, List.map_append]; exact IntsAre.append hys (.cons _ _ .nil)
    · rw [show (0:Int) + ((1:Nat):Int) = 1 from rfl] at hx
      repeat' (walk_at "MINE step")
      rename Fr _ _ _ _ => Fz
      rename News _ _ _ _ => Nz
      refine CompK.intro Fz Nz (fun _ h => h) ?_
      rw [List.range_succ, List.map_append]; exact IntsAre.append hys (.cons _ _ .nil)
    · rw [show (0:Int) + ((2:Nat):Int) = 2 from rfl] at hx
      repeat' (walk_at "MINE step")
      rename Fr _ _ _ _ => Fz
      rename News _ _ _ _ => Nz
      refine CompK.intro Fz Nz (fun _ h => h) ?_
      rw [List.range_succ, List.map_append]; exact IntsAre.append hys (.cons _ _ .nil)
    · rw [show (0:Int) + ((3:Nat):Int) = 3 from rfl] at hx
      repeat' (walk_at "MINE step")
      rename Fr _ _ _ _ => Fz
      rename News _ _ _ _ => Nz
      refine CompK.intro Fz Nz (fun _ h => h) ?_
      rw [List.range_succ, List.map_append]; exact IntsAre.append hys (.cons _ _ .nil)
  intro ys hys RE h4 tk4 F4 N4 o4
  dsimp only [LCg.Off1] at o4
  have hnL : ∀ p ∈ nx, p.1 ≠ L' + 1 + 1 + 1 + 1 + 1 := fun p hp => by have := lt_of_allLt l1.2 p hp; exact Nat.ne_of_lt (Nat.lt_of_lt_of_le this (Nat.le_add_right _ 5))
  repeat ((fail_if_success (with_reducible show wpAny _ _ (exec (Stmt.FunctionDef _ _ _ _ _ _ _ _ _ _) _) _ _ _)); walk_at "MINE step")
  rename Fr _ _ _ _ => F5
  rename News _ _ _ _ => N5
  rename (Obj.data _ = Data.cell (some (Value.ref RE))) => dR
  have hsub : ∀ p ∈ st, p ∈ nx := fun p hp => by rw [hnx]; exact List.mem_append_right _ hp
  k_dflt (refine nestDef_K rfl rfl rfl ?_)
  k_dflt (refine nest_join (c := 60) (P := 58) (pre := [_, _, _, _, _, _, _, _, _, _]) (nx := nx) F5 N5 T' (C.keeps (Below.stays B')) rfl ?hpre h58 hsub hps rfl ?_)
  case hpre => k_all
  intro f c' oc vs t ctv doc h6 tk6 cx F6 N6 s2 hc' dc1 dc2 lf1 lf2
  simp only [List.cons_append, List.nil_append] at N6 s2 lf1
  have ld : @LT.lt Nat _ d f := lf1 (d, _) (by k_mem)
  obtain ⟨nx', hnx'⟩ : ∃ nx', nx' = cx ++ nx := ⟨_, rfl⟩
  rw [← hnx'] at N6
  have lnd : ∀ p ∈ nx', p.1 ≠ d := fun p hp => by
    rw [hnx'] at hp
    rcases List.mem_append.mp hp with hp | hp
    · exact Nat.ne_of_gt (s2 p hp (d, _) (by k_mem))
    · exact ne_of_allLt l2.2.2.2.2.2.2 p hp
  repeat' (walk_at "MINE step")
  rename Fr _ _ _ _ => Fz
  rename News _ _ _ _ => Nz
  have lin : ∀ q ∈ nx, q ∈ nx' := fun q hq => by rw [hnx']; exact List.mem_append_right _ hq
  have hdN : ∀ q ∈ nx, @LT.lt Nat _ q.1 d := lt_of_allLt l2.2.2.2.2.2.2
  have hLN : ∀ q ∈ nx, @LT.lt Nat _ q.1 L' := lt_of_allLt l1.2
  have hcP : ∀ p ∈ cx, p.1 ≠ 58 := fun p hp => Nat.ne_of_gt (s2 p hp (58, _) (by k_mem))
  have hcN : ∀ p ∈ cx, ∀ q ∈ mu ++ st, q.1 ≠ p.1 := fun p hp q hq => Nat.ne_of_lt (s2 p hp q (by rw [hnx]; repeat (first | exact hq | refine List.mem_cons_of_mem _ ?_)))
  have hNT : ∀ T, AllLt T nx' → ∀ q ∈ nx, q.1 ≠ T := fun T h q hq => ne_of_allLt h q (lin q hq)
  rw [hnx', hnx] at Nz
  have hR58 : @Ne Nat R 58 := by omega
  obtain ⟨stx, Nq, offq, upq, freq, preq, cxq⟩ := regroup (pre := [_, _, _, _, _, _, _, _, _, _, _, _]) (cx := cx) (mu := mu) (st := st) Nz (by k_all) (by
      rw [← hnx]
      repeat' (first | exact List.forall_mem_nil _ | refine List.forall_mem_cons.mpr ⟨fun q hq => ?_, ?_⟩)
      all_goals (have h1 := hdN q hq; have h2 := hLN q hq)
      all_goals first | k_ne | exact offRE o4.2.2.2.2.2.2.2.2.2.2 q hq | exact Nat.ne_of_lt (lf1 q (by repeat (first | exact hq | refine List.mem_cons_of_mem _ ?_))) | exact hNT _ (by assumption) q hq | exact hNT _ (‹_ ∧ _ ∧ _ ∧ _ ∧ _ ∧ _ ∧ _ ∧ _ ∧ _ ∧ _ ∧ _ ∧ _ ∧ AllLt _ nx'›).2.2.2.2.2.2.2.2.2.2.2.2 q hq) hcP hcN (by rw [← hnx]; exact h58)
  obtain ⟨oS, hoS, dS⟩ : ∃ oS, (L' + 1 + 1 + 1 + 1 + 1, oS) ∈ stx ∧ oS.data = .cell (some (.ref RE)) := ⟨_, preq _ (by k_mem), dR⟩
  have hoG : (L' + 1 + 1 + 1 + 1, oG) ∈ stx := preq _ (by k_mem)
  have hoN : (L' + 1 + 1 + 1, oN) ∈ stx := preq _ (by k_mem)
  have hoP : (L' + 1, oP) ∈ stx := preq _ (by k_mem)
  have hRE : (RE, LCg.lst ys) ∈ stx := preq _ (by k_mem)
  have hx' : (x, instObj 52 d) ∈ stx := preq _ (by k_mem)
  have hf := preq (f, _) (by k_mem)
  have hcc := cxq _ hc'
  have hna := upq _ hNA
  have hRO : ReachOk w stx LG f place number := by
    clear hQ Fz Nz Nq lnd lin hNT
    intro p loose mean mg mb A₀ base h₀ Ev Ev2 L m nw vs k s j t Q E X B T hEf hEk F N off sub hvl hj hQ
    have hoS' := sub _ hoS
    have hoG' := sub _ hoG
    have hoN' := sub _ hoN
    have hoP' := sub _ hoP
    have hRE' := sub _ hRE
    have hf' := sub _ hf
    have hcc' := sub _ hcc
    have hna' := sub _ hna
    clear sub hoS hoG hoN hoP hRE hf hcc hna
    refine wpAny_call ?_
    k_dflt (refine' code_nest (binds := [("name", .str (nm j) t)]) ?k1 ?k2 ?k3 ?k4 ?k5 ?kA ?kF ?kK ?k6 ?k7 ?k8 ?k9 ?kB ?_ ?c2 ?c3 ?c4 ?c5; (case kA => exact rfl); (case kF => assumption); (case kK => assumption); (case k1 => k_asm); (case k2 => k_asm); (case k3 => k_asm); (case k4 => k_asm); (case k5 => k_asm); (case k6 => exact List.mem_cons_of_mem _ hf'); (case k7 => exact codeRec_news (by k_asm) (List.mem_cons_of_mem _ hcc') (by assumption) (by assumption)); (case k8 => k_room); (case k9 => exact BindsTo.of_eq rfl); (case c5 => decide); (case kB => exact locs rfl); (case c2 => exact rfl); (case c3 => exact rfl); (case c4 => exact rfl); k_whole; intro g' L' h' FG' F' N' B' X' T'; (try dsimp only); (try k_fold))
    repeat ((fail_if_success (with_reducible show wpAny _ _ (call (Value.builtin "list.index") _ _) _ _ _)); walk_at "MINE step")
    rename News _ _ _ _ => Nq5
    refine names_index (News.get Nq5 (by k_mem)) hnv hj ?_
    intro tr tk
    refine ints_item (n := reach number j) (News.get Nq5 (by k_mem)) hys (by simp [hj]) (by omega) ?_
    intro ti
    repeat' (walk_at "MINE step")
    rename Fr _ _ _ _ => Fz
    rename News _ _ _ _ => Nz
    rw [List.push_toArray] at Nz
    exact hQ _ _ _ _ _ _ _ Fz Nz (lt_of_allLt (‹@LT.lt Nat _ LG _ ∧ AllLt _ nw›).2) (‹@LT.lt Nat _ LG _ ∧ AllLt _ nw›).1
  refine hQ _ _ _ x RE ys.toArray stx _ _ Fz Nq offq upq freq (.inr ⟨c', oc, vs, t, rfl, hcc, dc1, dc2⟩) (preq _ (by k_mem)) ?_ hRE hys
  exact ⟨d, U, R, f, _, _, _, _, _, _, _, _, _, _, _, _, _, _, _, _, _, hx', preq _ (by k_mem), hf, hRO⟩
end Mine
namespace Mine
local macro_rules | `(tactic| k_all) => `(tactic| first | assumption | exact Mine.ne_of_allLt (‹AllLt _ _›) | exact Mine.ne_of_allLt (‹_ ∧ AllLt _ _›).2 | exact Mine.ne_of_allLt (‹_ ∧ _ ∧ AllLt _ _›).2.2 | exact Mine.ne_of_allLt (‹_ ∧ _ ∧ _ ∧ AllLt _ _›).2.2.2 | exact Mine.ne_of_allLt (‹_ ∧ _ ∧ _ ∧ _ ∧ AllLt _ _›).2.2.2.2 | exact Mine.ne_of_allLt (‹_ ∧ _ ∧ _ ∧ _ ∧ _ ∧ AllLt _ _›).2.2.2.2.2 | exact Mine.ne_of_allLt (‹_ ∧ _ ∧ _ ∧ _ ∧ _ ∧ _ ∧ AllLt _ _›).2.2.2.2.2.2 | exact Mine.ne_of_allLt (‹_ ∧ _ ∧ _ ∧ _ ∧ _ ∧ _ ∧ _ ∧ AllLt _ _›).2.2.2.2.2.2.2 | exact Mine.ne_of_allLt (‹_ ∧ _ ∧ _ ∧ _ ∧ _ ∧ _ ∧ _ ∧ _ ∧ AllLt _ _›).2.2.2.2.2.2.2.2 | exact Mine.ne_of_allLt (‹_ ∧ _ ∧ _ ∧ _ ∧ _ ∧ _ ∧ _ ∧ _ ∧ _ ∧ AllLt _ _›).2.2.2.2.2.2.2.2.2 | exact Mine.ne_of_allLt (‹_ ∧ _ ∧ _ ∧ _ ∧ _ ∧ _ ∧ _ ∧ _ ∧ _ ∧ _ ∧ AllLt _ _›).2.2.2.2.2.2.2.2.2.2 | exact Mine.ne_of_allLt (‹_ ∧ _ ∧ _ ∧ _ ∧ _ ∧ _ ∧ _ ∧ _ ∧ _ ∧ _ ∧ _ ∧ AllLt _ _›).2.2.2.2.2.2.2.2.2.2.2 | exact Mine.ne_of_allLt (‹_ ∧ _ ∧ _ ∧ _ ∧ _ ∧ _ ∧ _ ∧ _ ∧ _ ∧ _ ∧ _ ∧ _ ∧ AllLt _ _›).2.2.2.2.2.2.2.2.2.2.2.2 | exact Mine.ne_of_allLt (‹_ ∧ _ ∧ _ ∧ _ ∧ _ ∧ _ ∧ _ ∧ _ ∧ _ ∧ _ ∧ _ ∧ _ ∧ _ ∧ AllLt _ _›).2.2.2.2.2.2.2.2.2.2.2.2.2)
local macro_rules | `(tactic| walk_at "MINE step") => `(tactic| first | (k_unfold; (try dsimp only)) | walk1 | (dsimp only; walk1) | (leave1; walk_say "STEP leave1"; (try dsimp only)))
local macro_rules | `(tactic| k_mem) => `(tactic| (refine mem_of ?_; ktr_member))
local macro_rules | `(tactic| walk_at "MINE to for") => `(tactic| repeat ((fail_if_success (with_reducible show wpAny _ _ (exec (Stmt.For _ _ _ _ _) _) _ _ _)); walk_at "MINE step"))
local macro_rules | `(tactic| walk_at "MINE to iter") => `(tactic| repeat ((fail_if_success (with_reducible show wpAny _ _ (pyIter _) _ _ _)); walk_at "MINE step"))
local macro_rules | `(tactic| walk_at "LoopPost") => `(tactic| (dsimp only [LoopPost]))
local macro_rules | `(tactic| walk_at "getMethod ref") => `(tactic| (k_here; k_dflt (refine' method_own ?k1 ?k2 ?k3 ?k4 ?k5 ?k6 ?k7 ?_; (case k1 => k_asm); (case k2 => k_asm); (case k3 => k_inst); (case k4 => k_is); (case k5 => k_is); (case k6 => k_is); (case k7 => k_get); k_whole)))
local macro_rules | `(tactic| walk_at "getAttr ref") => `(tactic| (k_here; k_dflt (refine' get_own2 ?k1 ?k2 ?k3 ?k4 ?k5 ?k6 ?k7 ?k7b ?k8 ?k9 ?_; (case k1 => k_asm); (case k2 => k_asm); (case k3 => k_inst); (case k4 => k_is); (case k5 => k_is); (case k6 => k_is); (case k7 => k_is); (case k7b => k_is); (case k8 => k_get); (case k9 => k_handed); k_whole)))
local macro_rules | `(tactic| walk_at "truthy str") => `(tactic| (k_here; (with_reducible show wpAny _ _ (PySem.truthy (Value.str _ _)) _ _ _); (refine KXt.truthy (by assumption) (by omega) ?_); intro _))
/-- what allowance holds in hand: the farthest so far, its verdict (none: True) -/
def falsy : Option Str → Bool
  | none => false
  | some t => t.length == 0
def step (j i : Nat) (n : Int) (st : Int × Option Str) : Int × Option Str :=
  if reach n j = 0 then st else if reach n j > st.1 then (reach n j, some (allow i n)) else if reach n j = st.1 ∧ falsy st.2 = true then (st.1, some (allow i n)) else st
def runFrom (j : Nat) : Nat → List Int → Int × Option Str → Int × Option Str
  | _, [], st => st
  | i, n :: ns, st => runFrom j (i + 1) ns (step j i n st)
def IsA (a : Option Str) (v : Value) : Prop := (a = none ∧ v = .bool true) ∨ ∃ s t, a = some s ∧ v = .str s t ∧ s.length ≤ 100
def Rules (w : World) (nx : List (Addr × Obj)) (LG : Addr) (rl : List Value) (ns : List Int) : Prop := rl.length = ns.length ∧ ∀ i n, ns[i]? = some n → ∃ x, rl[i]? = some (.ref x) ∧ RuleAt w nx LG x (i : Nat) n
def Logged (ts : List (Addr × Obj)) (vs : List Value) (j c : Nat) : Prop := vs.length = c ∧ ∀ i, i < c → ∃ T tp tn kk, vs[i]? = some (.ref T) ∧ (T, ({ cls := .type "tuple", data := .seq #[.int (i : Nat) tp, .str (nm j) tn] kk } : Obj)) ∈ ts
theorem Logged.snoc {ts : List (Addr × Obj)} {vs : List Value} {j c : Nat} {T : Addr} {tp tn : Tok} {kk : Nat} (h : Logged ts vs j c) : Logged ((T, ({ cls := .type "tuple", data := .seq #[.int (c : Nat) tp, .str (nm j) tn] kk } : Obj)) :: ts) (vs ++ [.ref T]) j (c + 1) := by
  refine ⟨by rw [List.length_append, h.1]; rfl, fun i hi => ?_⟩
  by_cases hc : i < c
  · obtain ⟨T', tp', tn', kk', h1, h2⟩ := h.2 i hc
    exact ⟨T', tp', tn', kk', by rw [List.getElem?_append_left (by rw [h.1]; exact hc)]; exact h1, List.mem_cons_of_mem _ h2⟩
  · obtain rfl : i = c := by omega
    exact ⟨T, tp, tn, kk, by rw [List.getElem?_append_right (by rw [h.1]; exact Nat.le_refl _), h.1]; simp, List.mem_cons_self⟩
theorem run_next {j i : Nat} {ns : List Int} {n : Int} {st : Int × Option Str} (hn : ns[i]? = some n) : runFrom j i (ns.drop i) st = runFrom j (i + 1) (ns.drop (i + 1)) (step j i n st) := by
  obtain ⟨hl, he⟩ := List.getElem?_eq_some_iff.mp hn
  rw [List.drop_eq_getElem_cons hl, he]; rfl
theorem allow_len {i : Nat} {n : Int} (hi : i < 63) : (allow i n).length ≤ 100 := by
  unfold allow
  split
  · have := len_mul_k1 (x := "x") (n := ((i : Int) + 1)) (by rfl)
    rw [if_neg (by omega)] at this
    omega
  · decide
theorem allow_ok {w : World} {p : Program} {loose : List Str} {mean : ExcName → Option Value} {mg mb : Str → Option Value} {h₀ : Heap} {Ev : Env} {L : Addr} {m : Str → Option Value} {nw : List (Addr × Obj)} {s : Shared} {Q E : Value → Shared → Prop}
    {LG x d U RL : Addr} {e1 e2 e3 e4 : Int} {t1 t2 t3 t4 t : Tok} {rl : List Value} {ns : List Int} {j k kr : Nat} :
    (Mine.hd.heap_39 w.params).In h₀ → Below callerA h₀ [] h₀ → Top p loose mean mg mb h₀ → Ev.frame = some L → Ev.scope.kind = .function →
    Fr h₀ L s.heap m → News h₀ L s.heap ((LG, listOf #[] k) :: nw) → (∀ p ∈ nw, p.1 ≠ LG) →
    (x, instObj 52 d) ∈ nw → (d, dictOf [⟨e1, .str "useragents" t1, .ref U⟩, ⟨e2, .str "rulelines" t2, .ref RL⟩, ⟨e3, .str "delay" t3, .none⟩, ⟨e4, .str "req_rate" t4, .none⟩] 4) ∈ nw → (RL, ({ cls := .type "list", data := .seq rl.toArray kr } : Obj)) ∈ nw → Rules w nw LG rl ns → ns.length ≤ 63 → j < 4 →
    (∀ h' tk' v vs ts k', Fr h₀ L h' m → News h₀ L h' ((LG, listOf vs.toArray k') :: (ts ++ nw)) → Logged ts vs j ns.length → IsA (runFrom j 0 ns (-1, none)).2 v → Q v { s with heap := h', toks := tk' }) →
    wpAny (model Challenge.rw_kn0089_02.row.prog w) (callerA.deeper Ev) (call (.ref 49) [.ref x, .str (nm j) t]) Q E s := by
  w_top off
  k_fill
  intro X B T hEf hEk F N off hx hd hRL hR hlen hj hQ
  refine wpAny_call ?_
  k_dflt (refine' code_def (binds := [("self", .ref x), ("filename", .str (nm j) t)]) ?k1 ?k2 ?k3 ?k4 ?k5 ?kA ?kF ?kK ?k6 ?k7 ?k8 ?k9 ?kB ?_ ?c2 ?c3 ?c4 ?c5; (case kA => exact rfl); (case kF => assumption); (case kK => assumption); (case k1 => k_asm); (case k2 => k_asm); (case k3 => k_asm); (case k4 => k_asm); (case k5 => k_asm); (case k6 => k_is); (case k7 => k_is); (case k8 => k_room); (case k9 => exact BindsTo.of_eq rfl); (case c5 => decide); (case kB => exact locs rfl); (case c2 => exact rfl); (case c3 => exact rfl); (case c4 => exact rfl); k_whole; intro g' L' h' FG' F' N' B' X' T'; (try dsimp only); (try k_fold))
  walk_at "MINE to for"
  refine wpAny_For ?_
  walk_at "MINE to iter"
  rename Fr _ _ _ _ => F1
  rename News _ _ _ _ => N1
  obtain ⟨m1, hm1, F1g⟩ := frSome F1
  obtain ⟨tb0, htb0⟩ : ∃ tb, m1 "best_match" = some (.int (-1) tb) := ⟨_, by rw [hm1]; rfl⟩
  refine for_listK (its := rl.toArray) ["m"] (fun i ps nx' => ∃ b tb a av vs k ts, ps = ([("best_match", .int b tb), ("allowance", av), ("filename", .str (nm j) t)] : List (Str × Value)) ∧ IsA a av ∧ runFrom j 0 ns (-1, none) = runFrom j i (ns.drop i) (b, a) ∧ nx' = (LG, listOf vs.toArray k) :: (ts ++ nw) ∧ Logged ts vs j i ∧ ∀ p ∈ ts, p.1 ≠ LG)
    [("best_match", .int (-1) tb0), ("allowance", .bool true), ("filename", .str (nm j) t)] (by rfl) F1g N1 ?hS (List.forall_mem_cons.mpr ⟨htb0, List.forall_mem_cons.mpr ⟨by rw [hm1]; rfl, List.forall_mem_cons.mpr ⟨by rw [hm1]; rfl, List.forall_mem_nil _⟩⟩⟩) ⟨-1, tb0, none, .bool true, [], k, [], rfl, .inl ⟨rfl, rfl⟩, rfl, rfl, ⟨rfl, fun i h => absurd h (Nat.not_lt_zero _)⟩, List.forall_mem_nil _⟩ (by rfl) (by rfl) ?turn ?done
  case hS =>
    rintro i ps nx' ⟨b, tb, a, av, vs, k, ts, rfl, hA, hrun, rfl, _⟩
    exact .inr ⟨_, List.mem_cons_of_mem _ (List.mem_append_right _ hRL), rfl, _, rfl⟩
  case turn =>
    rintro I i v ps nx' oI h tk u hi ⟨b, tb, a, av, vs, k, ts, rfl, hA, hrun, rfl, hlog, hts⟩ F2 N2 off2
    obtain ⟨n, hn⟩ : ∃ n, ns[i]? = some n := by
      have : i < ns.length := by
        rw [← hR.1]
        have := (Array.getElem?_eq_some_iff.mp hi).1
        simpa using this
      exact ⟨_, List.getElem?_eq_getElem this⟩
    obtain ⟨x2, hx2, d2, U2, R2, F2a, _, _, _, _, _, _, _, _, _, _, _, _, _, _, _, _, _, r1, r2, r3, r4⟩ := hR.2 i n hn
    have hv : v = .ref x2 := by
      rw [List.getElem?_toArray, hx2] at hi
      exact (Option.some.inj hi).symm
    subst hv
    obtain ⟨nz, hnz⟩ : ∃ nz, nz = ts ++ nw := ⟨_, rfl⟩
    rw [← hnz] at N2 off2
    have q1 : _ ∈ nz := hnz ▸ List.mem_append_right ts r1
    have q2 : _ ∈ nz := hnz ▸ List.mem_append_right ts r2
    have q3 : _ ∈ nz := hnz ▸ List.mem_append_right ts r3
    have hin : ∀ p ∈ nw, p ∈ nz := fun p hp => hnz ▸ List.mem_append_right ts hp
    clear F1 F1g hm1 htb0 N1
    repeat ((fail_if_success (with_reducible show wpAny _ _ (callWith _ _ _ _ _) _ _ _)); walk_at "MINE step")
    dsimp only
    k_dflt (refine' callWith_F ?k1 ?_; (case k1 => exact FnAt.of (by k_asm) (by k_mem)); k_whole)
    repeat ((with_reducible show wpAny _ _ _ _ _ _); (fail_if_success (with_reducible show wpAny _ _ (call _ _) _ _ _)); walk_at "MINE step")
    refine ⟨by k_dflt (exact FnAt.of (by k_asm) (by k_mem)), ?_⟩
    repeat ((fail_if_success (with_reducible show wpAny _ _ (call _ _) _ _ _)); walk_at "MINE step")
    rename Fr _ _ _ _ => F3
    rename News _ _ _ _ => N3
    have hl64 : vs.length ≤ 100 := by rw [hlog.1]; have := (List.getElem?_eq_some_iff.mp hn).1; omega
    refine' r4 ?c1 ?c2 ?c3 ?c4 ?c5 ?c6 ?c7 ?c8 ?c9 ?d1 ?d2 ?d3
    case c4 => rfl
    case c5 => rfl
    case c1 => exact X'
    case c2 => exact B'
    case c3 => exact T'
    case c6 => exact F3
    case d1 => exact hl64
    case d2 => exact hj
    case c7 =>
      refine (fun p hp => N3 p ?_ : News _ _ _ ((LG, listOf vs.toArray _) :: (I, oI) :: nz))
      rcases List.mem_cons.mp hp with rfl | hp
      · exact List.mem_cons_of_mem _ List.mem_cons_self
      · rcases List.mem_cons.mp hp with rfl | hp
        · exact List.mem_cons_self
        · exact List.mem_cons_of_mem _ (List.mem_cons_of_mem _ hp)
    case c8 =>
      refine List.forall_mem_cons.mpr ⟨Ne.symm (off2 (LG, _) List.mem_cons_self), ?_⟩
      rw [hnz]; exact List.forall_mem_append.mpr ⟨hts, off⟩
    case c9 => exact fun p hp => List.mem_cons_of_mem _ (hin p hp)
    intro h4 tk4 T4 k4 tp4 tn4 tr4 F4 N4 l4 l4'
    clear F3 N3
    rw [run_next hn] at hrun
    have hi63 : i < 63 := by have := (List.getElem?_eq_some_iff.mp hn).1; omega
    have hlog2 := hlog.snoc (T := T4) (tp := tp4) (tn := tn4) (kk := 0)
    have hT4 : ∀ p ∈ nz, p.1 < T4 := fun p hp => l4 p (List.mem_cons_of_mem _ hp)
    have hts2 : ∀ p ∈ (T4, ({ cls := .type "tuple", data := .seq #[.int (i : Nat) tp4, .str (nm j) tn4] } : Obj)) :: ts, p.1 ≠ LG := List.forall_mem_cons.mpr ⟨Nat.ne_of_gt l4', hts⟩
    have hre : ∀ {h'' : Heap} {l : Obj}, News g' L' h'' ((T4, ({ cls := .type "tuple", data := .seq #[.int (i : Nat) tp4, .str (nm j) tn4] } : Obj)) :: (LG, l) :: (I, oI) :: nz) → News g' L' h'' ((I, oI) :: (LG, l) :: (((T4, ({ cls := .type "tuple", data := .seq #[.int (i : Nat) tp4, .str (nm j) tn4] } : Obj)) :: ts) ++ nw)) := fun N p hp => N p (by
      rw [hnz]
      simp only [List.cons_append, List.mem_cons, List.mem_append] at hp ⊢
      rcases hp with h | h | h | h | h
      · exact .inr (.inr (.inl h))
      · exact .inr (.inl h)
      · exact .inl h
      · exact .inr (.inr (.inr (.inl h)))
      · exact .inr (.inr (.inr (.inr h))))
    have hoffI : ∀ {l : Obj}, ∀ p ∈ (LG, l) :: (((T4, ({ cls := .type "tuple", data := .seq #[.int (i : Nat) tp4, .str (nm j) tn4] } : Obj)) :: ts) ++ nw), p.1 ≠ I := fun p hp => by
      rcases List.mem_cons.mp hp with rfl | hp
      · exact off2 (LG, listOf vs.toArray k) List.mem_cons_self
      · rcases List.mem_cons.mp hp with rfl | hp
        · exact Nat.ne_of_gt (l4 (I, oI) List.mem_cons_self)
        · exact off2 p (List.mem_cons_of_mem _ (hnz ▸ hp))
    rcases hA with ⟨rfl, rfl⟩ | ⟨sa, sat, rfl, rfl, hsa⟩
    · have hst : step j i n (b, none) = if reach n j ≠ 0 ∧ b < reach n j then (reach n j, some (allow i n)) else (b, none) := by
        unfold step
        by_cases h0 : reach n j = 0
        · simp [h0]
        · simp [h0, falsy]
      repeat' (walk_at "MINE step")
      · rename Fr _ _ _ _ => Fz
        rename News _ _ _ _ => Nz
        have h1 : reach n j ≠ 0 := by assumption
        have h2 : b < reach n j := by assumption
        rw [hst, if_pos ⟨h1, h2⟩] at hrun
        refine LoopEnd.intro Fz (hre Nz) (fun _ h => h) hoffI ⟨_, List.forall_mem_cons.mpr ⟨by rfl, List.forall_mem_cons.mpr ⟨by rfl, List.forall_mem_cons.mpr ⟨by rfl, List.forall_mem_nil _⟩⟩⟩, ?_, _, _, _, _, _, _, _, rfl, .inr ⟨_, _, rfl, rfl, allow_len hi63⟩, hrun, rfl, hlog2, hts2⟩
        intro z g1 g2 g3
        have a1 : z ≠ "m" := notin g3 (by rfl)
        have b1 : z ≠ "best_match" := g2 _ (.head _)
        have b2 : z ≠ "allowance" := g2 _ (.tail _ (.head _))
        have b3 : z ≠ "filename" := g2 _ (.tail _ (.tail _ (.head _)))
        simp only [kstB, if_neg a1, if_neg b1, if_neg b2, if_neg b3, if_neg g1, g3, Bool.false_eq_true, if_false]
      all_goals
        rename Fr _ _ _ _ => Fz
        rename News _ _ _ _ => Nz
        rw [hst, if_neg (by rintro ⟨z1, z2⟩; first | exact absurd z2 (by assumption) | exact z1 (by assumption))] at hrun
        refine LoopEnd.intro Fz (hre Nz) (fun _ h => h) hoffI ⟨_, List.forall_mem_cons.mpr ⟨by rfl, List.forall_mem_cons.mpr ⟨by rfl, List.forall_mem_cons.mpr ⟨by rfl, List.forall_mem_nil _⟩⟩⟩, ?_, _, _, _, _, _, _, _, rfl, .inl ⟨rfl, rfl⟩, hrun, rfl, hlog2, hts2⟩
        intro z g1 g2 g3
        have a1 : z ≠ "m" := notin g3 (by rfl)
        have b1 : z ≠ "best_match" := g2 _ (.head _)
        have b2 : z ≠ "allowance" := g2 _ (.tail _ (.head _))
        have b3 : z ≠ "filename" := g2 _ (.tail _ (.tail _ (.head _)))
        simp only [kstB, if_neg a1, if_neg b1, if_neg b2, if_neg b3, if_neg g1, g3, Bool.false_eq_true, if_false]
    · cases hf : falsy (some sa)
      · have he : ((sa.length : Int) != 0) = true := by
          simp only [falsy, beq_eq_false_iff_ne] at hf
          simpa using hf
        have hst : step j i n (b, some sa) = if reach n j ≠ 0 ∧ b < reach n j then (reach n j, some (allow i n)) else (b, some sa) := by
          unfold step
          by_cases h0 : reach n j = 0
          · simp [h0]
          · simp [h0, hf]
        repeat' (walk_at "MINE step")
        · rename Fr _ _ _ _ => Fz
          rename News _ _ _ _ => Nz
          have h1 : reach n j ≠ 0 := by assumption
          have h2 : b < reach n j := by assumption
          rw [hst, if_pos ⟨h1, h2⟩] at hrun
          refine LoopEnd.intro Fz (hre Nz) (fun _ h => h) hoffI ⟨_, List.forall_mem_cons.mpr ⟨by rfl, List.forall_mem_cons.mpr ⟨by rfl, List.forall_mem_cons.mpr ⟨by rfl, List.forall_mem_nil _⟩⟩⟩, ?_, _, _, _, _, _, _, _, rfl, .inr ⟨_, _, rfl, rfl, allow_len hi63⟩, hrun, rfl, hlog2, hts2⟩
          intro z g1 g2 g3
          have a1 : z ≠ "m" := notin g3 (by rfl)
          have b1 : z ≠ "best_match" := g2 _ (.head _)
          have b2 : z ≠ "allowance" := g2 _ (.tail _ (.head _))
          have b3 : z ≠ "filename" := g2 _ (.tail _ (.tail _ (.head _)))
          simp only [kstB, if_neg a1, if_neg b1, if_neg b2, if_neg b3, if_neg g1, g3, Bool.false_eq_true, if_false]
        all_goals
          rename Fr _ _ _ _ => Fz
          rename News _ _ _ _ => Nz
          rw [hst, if_neg (by rintro ⟨z1, z2⟩; first | exact absurd z2 (by assumption) | exact z1 (by assumption))] at hrun
          refine LoopEnd.intro Fz (hre Nz) (fun _ h => h) hoffI ⟨_, List.forall_mem_cons.mpr ⟨by rfl, List.forall_mem_cons.mpr ⟨by rfl, List.forall_mem_cons.mpr ⟨by rfl, List.forall_mem_nil _⟩⟩⟩, ?_, _, _, _, _, _, _, _, rfl, .inr ⟨_, _, rfl, rfl, hsa⟩, hrun, rfl, hlog2, hts2⟩
          intro z g1 g2 g3
          have a1 : z ≠ "m" := notin g3 (by rfl)
          have b1 : z ≠ "best_match" := g2 _ (.head _)
          have b2 : z ≠ "allowance" := g2 _ (.tail _ (.head _))
          have b3 : z ≠ "filename" := g2 _ (.tail _ (.tail _ (.head _)))
          simp only [kstB, if_neg a1, if_neg b1, if_neg b2, if_neg b3, if_neg g1, g3, Bool.false_eq_true, if_false]
      · have he : ((sa.length : Int) != 0) = false := by
          simp only [falsy, beq_iff_eq] at hf
          simp [hf]
        have hst : step j i n (b, some sa) = if reach n j = 0 then (b, some sa) else if b < reach n j then (reach n j, some (allow i n)) else if reach n j = b then (b, some (allow i n)) else (b, some sa) := by
          unfold step
          simp only [hf, and_true]
        repeat' (walk_at "MINE step")
        all_goals
          rename Fr _ _ _ _ => Fz
          rename News _ _ _ _ => Nz
          rw [hst] at hrun
        · have h1 : reach n j ≠ 0 := by assumption
          have h2 : b < reach n j := by assumption
          rw [if_neg h1, if_pos h2] at hrun
          refine LoopEnd.intro Fz (hre Nz) (fun _ h => h) hoffI ⟨_, List.forall_mem_cons.mpr ⟨by rfl, List.forall_mem_cons.mpr ⟨by rfl, List.forall_mem_cons.mpr ⟨by rfl, List.forall_mem_nil _⟩⟩⟩, ?_, _, _, _, _, _, _, _, rfl, .inr ⟨_, _, rfl, rfl, allow_len hi63⟩, hrun, rfl, hlog2, hts2⟩
          intro z g1 g2 g3
          have a1 : z ≠ "m" := notin g3 (by rfl)
          have b1 : z ≠ "best_match" := g2 _ (.head _)
          have b2 : z ≠ "allowance" := g2 _ (.tail _ (.head _))
          have b3 : z ≠ "filename" := g2 _ (.tail _ (.tail _ (.head _)))
          simp only [kstB, if_neg a1, if_neg b1, if_neg b2, if_neg b3, if_neg g1, g3, Bool.false_eq_true, if_false]
        · have h1 : reach n j ≠ 0 := by assumption
          have h2 : ¬ b < reach n j := by assumption
          have h3 : reach n j = b := by assumption
          rw [if_neg h1, if_neg h2, if_pos h3] at hrun
          refine LoopEnd.intro Fz (hre Nz) (fun _ h => h) hoffI ⟨_, List.forall_mem_cons.mpr ⟨by rfl, List.forall_mem_cons.mpr ⟨by rfl, List.forall_mem_cons.mpr ⟨by rfl, List.forall_mem_nil _⟩⟩⟩, ?_, _, _, _, _, _, _, _, rfl, .inr ⟨_, _, rfl, rfl, allow_len hi63⟩, hrun, rfl, hlog2, hts2⟩
          intro z g1 g2 g3
          have a1 : z ≠ "m" := notin g3 (by rfl)
          have b1 : z ≠ "best_match" := g2 _ (.head _)
          have b2 : z ≠ "allowance" := g2 _ (.tail _ (.head _))
          have b3 : z ≠ "filename" := g2 _ (.tail _ (.tail _ (.head _)))
          simp only [kstB, if_neg a1, if_neg b1, if_neg b2, if_neg b3, if_neg g1, g3, Bool.false_eq_true, if_false]
        all_goals
          first | rw [if_pos (by assumption)] at hrun | rw [if_neg (by assumption), if_neg (by assumption), if_neg (by assumption)] at hrun
          refine LoopEnd.intro Fz (hre Nz) (fun _ h => h) hoffI ⟨_, List.forall_mem_cons.mpr ⟨by rfl, List.forall_mem_cons.mpr ⟨by rfl, List.forall_mem_cons.mpr ⟨by rfl, List.forall_mem_nil _⟩⟩⟩, ?_, _, _, _, _, _, _, _, rfl, .inr ⟨_, _, rfl, rfl, hsa⟩, hrun, rfl, hlog2, hts2⟩
          intro z g1 g2 g3
          have a1 : z ≠ "m" := notin g3 (by rfl)
          have b1 : z ≠ "best_match" := g2 _ (.head _)
          have b2 : z ≠ "allowance" := g2 _ (.tail _ (.head _))
          have b3 : z ≠ "filename" := g2 _ (.tail _ (.tail _ (.head _)))
          simp only [kstB, if_neg a1, if_neg b1, if_neg b2, if_neg b3, if_neg g1, g3, Bool.false_eq_true, if_false]
  case done =>
    rintro ps nx' h tk u ⟨b, tb, a, av, vs, k, ts, rfl, hA, hrun, rfl, hlog, hts⟩ F2 N2
    have hsz : rl.toArray.size = ns.length := by simpa using hR.1
    rw [hsz] at hrun hlog
    rw [List.drop_length] at hrun
    clear F1 F1g hm1 htb0 N1
    obtain ⟨nz, hnz⟩ : ∃ nz, nz = ts ++ nw := ⟨_, rfl⟩
    rw [← hnz] at N2
    repeat' (walk_at "MINE step")
    rename Fr _ _ _ _ => Fz
    rename News _ _ _ _ => Nz
    rw [hnz] at Nz
    refine hQ _ _ _ _ _ _ Fz Nz hlog ?_
    rw [hrun]; exact hA
end Mine
namespace Mine
def odd (n : Int) : Bool := n.fmod 2 == 1
def grpR (j : Nat) (k : Int) : Nat → List Int → List Nat
  | _, [] => []
  | i, n :: ns => if reach n j = k then i :: grpR j k (i + 1) ns else grpR j k (i + 1) ns
def kndR (j : Nat) (k : Int) : Nat → List Int → List Nat
  | _, [] => []
  | i, n :: ns => if reach n j = k ∧ odd n = true then i :: kndR j k (i + 1) ns else kndR j k (i + 1) ns
def vOf : List Nat → Str
  | [] => ""
  | p :: _ => Txt.mul "x" ((p : Int) + 1)
def cond (j : Nat) (k b : Int) (i : Nat) (ns : List Int) : Prop := b = k ∨ grpR j k i ns ≠ []
def val (j : Nat) (k b : Int) (a : Option Str) (i : Nat) (ns : List Int) : Option Str := if b = k ∧ falsy a = false then a else some (vOf (kndR j k i ns))
open Classical in
noncomputable def spec (j : Nat) (b : Int) (a : Option Str) (i : Nat) (ns : List Int) : Option Str :=
  if cond j 4 b i ns then val j 4 b a i ns else if cond j 3 b i ns then val j 3 b a i ns else if cond j 2 b i ns then val j 2 b a i ns else if cond j 1 b i ns then val j 1 b a i ns else a
theorem reach_range (n : Int) (j : Nat) : reach n j = 0 ∨ reach n j = 1 ∨ reach n j = 2 ∨ reach n j = 3 ∨ reach n j = 4 := by
  unfold reach
  have h1 := Int.fmod_nonneg_of_pos ((n.fdiv 2).fdiv ((5 : Int) ^ j)) (b := 5) (by decide)
  have h2 := Int.fmod_lt_of_pos ((n.fdiv 2).fdiv ((5 : Int) ^ j)) (b := 5) (by decide)
  omega
theorem falsy_odd {i : Nat} {n : Int} (h : odd n = true) : falsy (some (allow i n)) = false := by
  have h' : n.fmod 2 = 1 := by simpa [odd] using h
  have := len_mul_k1 (x := "x") (n := ((i : Int) + 1)) (by rfl)
  rw [if_neg (by omega)] at this
  simp only [falsy, allow, if_pos h', beq_eq_false_iff_ne]
  omega
theorem falsy_even {i : Nat} {n : Int} (h : odd n = false) : falsy (some (allow i n)) = true := by
  have h' : ¬ n.fmod 2 = 1 := by simpa [odd] using h
  simp only [falsy, allow, if_neg h']; rfl
theorem allow_odd {i : Nat} {n : Int} (h : odd n = true) : allow i n = Txt.mul "x" ((i : Int) + 1) := by
  have h' : n.fmod 2 = 1 := by simpa [odd] using h
  simp only [allow, if_pos h']
theorem falsy_mul (i : Nat) : falsy (some (Txt.mul "x" ((i : Int) + 1))) = false := by
  have := len_mul_k1 (x := "x") (n := ((i : Int) + 1)) (by rfl)
  rw [if_neg (by omega)] at this
  simp only [falsy, beq_eq_false_iff_ne]
  omega
theorem spec_step {j i : Nat} {n : Int} {ns : List Int} {b : Int} {a : Option Str} (hb : (b = -1 ∧ a = none) ∨ ((b = 1 ∨ b = 2 ∨ b = 3 ∨ b = 4) ∧ ∃ t, a = some t)) :
    spec j b a i (n :: ns) = spec j (step j i n (b, a)).1 (step j i n (b, a)).2 (i + 1) ns := by
  rcases reach_range n j with hr | hr | hr | hr | hr <;> rcases hb with ⟨rfl, rfl⟩ | ⟨rfl | rfl | rfl | rfl, t, rfl⟩ <;> cases ho : odd n <;> (try cases hf : falsy (some t)) <;>
    simp [spec, cond, val, step, grpR, kndR, vOf, hr, ho, falsy_odd, falsy_even, allow_odd, falsy_mul, *]
theorem step_inv {j i : Nat} {n : Int} {b : Int} {a : Option Str} (hb : (b = -1 ∧ a = none) ∨ ((b = 1 ∨ b = 2 ∨ b = 3 ∨ b = 4) ∧ ∃ t, a = some t)) :
    ((step j i n (b, a)).1 = -1 ∧ (step j i n (b, a)).2 = none) ∨ (((step j i n (b, a)).1 = 1 ∨ (step j i n (b, a)).1 = 2 ∨ (step j i n (b, a)).1 = 3 ∨ (step j i n (b, a)).1 = 4) ∧ ∃ t, (step j i n (b, a)).2 = some t) := by
  rcases reach_range n j with hr | hr | hr | hr | hr <;> rcases hb with ⟨rfl, rfl⟩ | ⟨rfl | rfl | rfl | rfl, t, rfl⟩ <;> (try cases hf : falsy (some t)) <;> simp [step, hr, *]
theorem str_nil {t : Str} (h : t.length = 0) : t = "" := by
  obtain ⟨c⟩ := t
  have : c = #[] := Array.size_eq_zero_iff.mp h
  subst this; rfl
theorem run_spec {j : Nat} : ∀ {ns : List Int} {i : Nat} {b : Int} {a : Option Str}, ((b = -1 ∧ a = none) ∨ ((b = 1 ∨ b = 2 ∨ b = 3 ∨ b = 4) ∧ ∃ t, a = some t)) → (runFrom j i ns (b, a)).2 = spec j b a i ns
  | [], i, b, a, hb => by
    rcases hb with ⟨rfl, rfl⟩ | ⟨rfl | rfl | rfl | rfl, t, rfl⟩ <;> simp [runFrom, spec, cond, val, grpR, kndR, vOf, falsy]
    all_goals (intro h; exact str_nil h)
  | n :: ns, i, b, a, hb => by
    rw [spec_step hb]
    show (runFrom j (i + 1) ns (step j i n (b, a))).2 = _
    exact run_spec (step_inv hb)
/-- what the law's own loop makes of it, up to the reach k -/
def dueUp (j : Nat) (ns : List Int) : Nat → Option Str
  | 0 => none
  | k + 1 => if grpR j ((k + 1 : Nat) : Int) 0 ns = [] then dueUp j ns k else some (vOf (kndR j ((k + 1 : Nat) : Int) 0 ns))
theorem run_due {j : Nat} {ns : List Int} : (runFrom j 0 ns (-1, none)).2 = dueUp j ns 4 := by
  rw [run_spec (.inl ⟨rfl, rfl⟩)]
  simp only [spec, cond, val, dueUp, show ((3 + 1 : Nat) : Int) = 4 from rfl, show ((2 + 1 : Nat) : Int) = 3 from rfl, show ((1 + 1 : Nat) : Int) = 2 from rfl, show ((0 + 1 : Nat) : Int) = 1 from rfl]
  by_cases h4 : grpR j 4 0 ns = [] <;> by_cases h3 : grpR j 3 0 ns = [] <;> by_cases h2 : grpR j 2 0 ns = [] <;> by_cases h1 : grpR j 1 0 ns = [] <;> simp [h1, h2, h3, h4]
/-- the law's lists by filters -/
def grpF (j : Nat) (k : Int) (ns : List Int) : List Nat := (List.range ns.length).filter fun p => decide (reach (ns.getD p 0) j = k)
def kndF (j : Nat) (k : Int) (ns : List Int) : List Nat := (grpF j k ns).filter fun p => odd (ns.getD p 0)
theorem grp_filter (j : Nat) (k : Int) : ∀ (ns : List Int) (i : Nat), grpR j k i ns = ((List.range ns.length).filter fun p => decide (reach (ns.getD p 0) j = k)).map (· + i)
  | [], i => rfl
  | n :: ns, i => by
    have ih := grp_filter j k ns (i + 1)
    rw [List.length_cons, List.range_succ_eq_map, List.filter_cons]
    simp only [grpR, List.getD_cons_zero]
    have e : List.map (fun x => x + i) (List.filter (fun p => decide (reach ((n :: ns).getD p 0) j = k)) (List.map Nat.succ (List.range ns.length))) = grpR j k (i + 1) ns := by
      rw [ih, List.filter_map, List.map_map]
      congr 1
      funext x; simp; omega
    by_cases h : reach n j = k
    · rw [if_pos h, ← e]; simp [h]
    · rw [if_neg h, ← e]; simp [h]
theorem knd_filter (j : Nat) (k : Int) : ∀ (ns : List Int) (i : Nat), kndR j k i ns = ((List.range ns.length).filter fun p => decide (reach (ns.getD p 0) j = k) && odd (ns.getD p 0)).map (· + i)
  | [], i => rfl
  | n :: ns, i => by
    have ih := knd_filter j k ns (i + 1)
    rw [List.length_cons, List.range_succ_eq_map, List.filter_cons]
    simp only [kndR, List.getD_cons_zero]
    have e : List.map (fun x => x + i) (List.filter (fun p => decide (reach ((n :: ns).getD p 0) j = k) && odd ((n :: ns).getD p 0)) (List.map Nat.succ (List.range ns.length))) = kndR j k (i + 1) ns := by
      rw [ih, List.filter_map, List.map_map]
      congr 1
      funext x; simp; omega
    by_cases h : reach n j = k <;> cases ho : odd n
    · rw [if_neg (by simp), ← e]; simp [h, ho]
    · rw [if_pos ⟨h, rfl⟩, ← e]; simp [h, ho]
    · rw [if_neg (by simp), ← e]; simp [h]
    · rw [if_neg (fun z => h z.1), ← e]; simp [h]
theorem grp_eq (j : Nat) (k : Int) (ns : List Int) : grpR j k 0 ns = grpF j k ns := by rw [grp_filter]; simp [grpF]
theorem knd_eq (j : Nat) (k : Int) (ns : List Int) : kndR j k 0 ns = kndF j k ns := by
  rw [knd_filter, kndF, grpF, List.filter_filter]
  simp only [Nat.add_zero, List.map_id']
  congr 1
  funext p
  rw [Bool.and_comm]
end Mine
namespace Mine
def Table (nx : List (Addr × Obj)) (tl : List Value) (ns : List Int) : Prop := tl.length = ns.length ∧ ∀ (i : Nat) (n : Int), ns[i]? = some n → ∃ T RE kk kr rs, tl[i]? = some (Value.ref T) ∧ (T, ({ cls := .type "tuple", data := .seq #[.ref RE, .bool (odd n)] kk } : Obj)) ∈ nx ∧ (RE, ({ cls := .type "list", data := .seq rs kr } : Obj)) ∈ nx ∧ IntsAre rs.toList ((List.range 4).map (reach n))
theorem take_snoc {α : Type} {l : List α} {i : Nat} {n : α} (h : l[i]? = some n) : l.take (i + 1) = l.take i ++ [n] := by rw [List.take_add_one, h]; rfl
theorem snoc_at {α : Type} {l : List α} {i k : Nat} {n n' : α} (h : l[i]? = some n) (hk : (l.take (i + 1))[k]? = some n') : (k < i ∧ (l.take i)[k]? = some n') ∨ (k = i ∧ n' = n) := by
  have hi := (List.getElem?_eq_some_iff.mp h).1
  have hl : (l.take i).length = i := by rw [List.length_take]; omega
  rw [take_snoc h] at hk
  by_cases hki : k < i
  · rw [List.getElem?_append_left (by omega)] at hk
    exact .inl ⟨hki, hk⟩
  · rw [List.getElem?_append_right (by omega), hl] at hk
    have : k - i = 0 := by
      have := (List.getElem?_eq_some_iff.mp hk).1
      simpa using this
    rw [this] at hk
    exact .inr ⟨by omega, by simpa using hk.symm⟩
theorem len_take_snoc {α β : Type} {l : List α} {r : List β} {i : Nat} {n : α} {b : β} (hn : l[i]? = some n) (h : r.length = (l.take i).length) : (r ++ [b]).length = (l.take (i + 1)).length := by
  rw [take_snoc hn, List.length_append, List.length_append, h]; rfl
theorem at_snoc {α β : Type} {l : List α} {r : List β} {i : Nat} {n : α} {b : β} (hn : l[i]? = some n) (h : r.length = (l.take i).length) : (r ++ [b])[i]? = some b := by
  have hi := (List.getElem?_eq_some_iff.mp hn).1
  have hl : r.length = i := by rw [h, List.length_take]; omega
  rw [List.getElem?_append_right (by omega), hl]; simp
theorem Rules.snoc {w : World} {st st2 : List (Addr × Obj)} {LG x : Addr} {rl : List Value} {ns : List Int} {i : Nat} {n : Int} (h : Rules w st LG rl (ns.take i)) (hn : ns[i]? = some n) (up : ∀ p ∈ st, p ∈ st2) (r : RuleAt w st2 LG x (i : Nat) n) :
    Rules w st2 LG (rl ++ [.ref x]) (ns.take (i + 1)) := by
  refine ⟨len_take_snoc hn h.1, fun k n' hk => ?_⟩
  rcases snoc_at hn hk with ⟨hki, hk⟩ | ⟨rfl, rfl⟩
  · obtain ⟨x', h1, h2⟩ := h.2 k n' hk
    exact ⟨x', by rw [List.getElem?_append_left (List.getElem?_eq_some_iff.mp h1).1]; exact h1, h2.up up⟩
  · exact ⟨x, at_snoc hn h.1, r⟩
theorem Rules.up {w : World} {st st2 : List (Addr × Obj)} {LG : Addr} {rl : List Value} {ns : List Int} (h : Rules w st LG rl ns) (up : ∀ p ∈ st, p ∈ st2) : Rules w st2 LG rl ns :=
  ⟨h.1, fun k n hk => by obtain ⟨x, h1, h2⟩ := h.2 k n hk; exact ⟨x, h1, h2.up up⟩⟩
theorem Table.up {st st2 : List (Addr × Obj)} {tl : List Value} {ns : List Int} (h : Table st tl ns) (up : ∀ p ∈ st, p ∈ st2) : Table st2 tl ns :=
  ⟨h.1, fun k n hk => by obtain ⟨T, RE, kk, kr, rs, h1, h2, h3, h4⟩ := h.2 k n hk; exact ⟨T, RE, kk, kr, rs, h1, up _ h2, up _ h3, h4⟩⟩
theorem Table.snoc {st st2 : List (Addr × Obj)} {tl : List Value} {ns : List Int} {i kk kr : Nat} {n : Int} {T RE : Addr} {rs : Array Value} (h : Table st tl (ns.take i)) (hn : ns[i]? = some n) (up : ∀ p ∈ st, p ∈ st2)
    (h2 : (T, ({ cls := .type "tuple", data := .seq #[.ref RE, .bool (odd n)] kk } : Obj)) ∈ st2) (h3 : (RE, ({ cls := .type "list", data := .seq rs kr } : Obj)) ∈ st2) (h4 : IntsAre rs.toList ((List.range 4).map (reach n))) :
    Table st2 (tl ++ [.ref T]) (ns.take (i + 1)) := by
  refine ⟨len_take_snoc hn h.1, fun k n' hk => ?_⟩
  rcases snoc_at hn hk with ⟨hki, hk⟩ | ⟨rfl, rfl⟩
  · obtain ⟨T', RE', kk', kr', rs', g1, g2, g3, g4⟩ := h.2 k n' hk
    exact ⟨T', RE', kk', kr', rs', by rw [List.getElem?_append_left (List.getElem?_eq_some_iff.mp g1).1]; exact g1, up _ g2, up _ g3, g4⟩
  · exact ⟨T, RE, kk, kr, rs, at_snoc hn h.1, h2, h3, h4⟩
theorem names_item {prog : Program} {w : World} {A : Around} {E : Value → Shared → Prop} {s : Shared} {value slice : Expr} {l : Addr} {nv : List Value} {c j : Nat} {u : Tok} {Q : Value → Shared → Prop}
    (hl : s.heap.get? l = some ({ cls := .type "list", data := .seq nv.toArray c } : Obj)) (hn : IsNames nv) (hj : j < 4) (h : ∀ t, Q (.str (nm j) t) s)
    (hs : subscripted slice false (.ref l) (.int (j : Nat) u) = operate [.ref l, .int (j : Nat) u] (getItem (.ref l) (.int (j : Nat) u)) := by with_unfolding_all rfl) :
    wpAny (model prog w) A (subscriptTail value slice (.ref l) (.int (j : Nat) u)) Q E s := by
  obtain ⟨t0, t1, t2, t3, rfl⟩ := hn
  have ht : ∃ t, [Value.str "/a" t0, .str "" t1, .str "/a/b" t2, .str "/c" t3][j]? = some (.str (nm j) t) := by
    have : j = 0 ∨ j = 1 ∨ j = 2 ∨ j = 3 := by omega
    rcases this with rfl | rfl | rfl | rfl <;> exact ⟨_, rfl⟩
  obtain ⟨t, ht⟩ := ht
  exact tail_any (Heap.IsList.typeIs ⟨_, hl, rfl, _, rfl⟩) F.slot_list_getitem.lookup (wpAny_getItem_list ⟨_, hl, rfl, _, rfl⟩ (by omega) (by omega) (by simpa using ht) (h t)) hs
theorem pair_eq {A : Around} {s : Shared} {T T2 : Addr} {p : Int} {x : Str} {tp tn tp2 tn2 : Tok} {k k2 : Nat} (h1 : s.heap.get? T = some ({ cls := .type "tuple", data := .seq #[.int p tp, .str x tn] k } : Obj)) (h2 : s.heap.get? T2 = some ({ cls := .type "tuple", data := .seq #[.int p tp2, .str x tn2] k2 } : Obj)) (hu : A.units < cLine) :
    SeqAt.EqAt A s (.ref T) (.ref T2) true := by
  by_cases hne : T = T2
  · subst hne; exact SeqAt.EqAt.same _
  · refine SeqAt.EqAt.of_refs hne ?_
    refine SeqAt.RcAt.tuples (e := fun _ => true) (items := #[.int p tp, .str x tn]) (items2 := #[.int p tp2, .str x tn2]) ⟨_, h1, rfl, _, rfl⟩ ⟨_, h2, rfl, _, rfl⟩ hu fun j g1 g2 => ?_
    have hj : j < 2 := g1
    have : j = 0 ∨ j = 1 := by omega
    rcases this with rfl | rfl
    · have := SeqAt.EqAt.int_int (A := A.in1) (s := s) p tp p tp2
      rw [beq_self_eq_true] at this; exact this
    · have := SeqAt.EqAt.str_str (A := A.in1) (s := s) x tn x tn2
      rw [beq_self_eq_true] at this; exact this
theorem logged_ne {prog : Program} {w : World} {A : Around} {E : Value → Shared → Prop} {s : Shared} {h₀ : Heap} {L l b : Addr} {all ts ts2 : List (Addr × Obj)} {vs ys : List Value} {j c c1 c2 : Nat} {Q : Value → Shared → Prop} (N : News h₀ L s.heap all)
    (hl : (l, ({ cls := .type "list", data := .seq vs.toArray c1 } : Obj)) ∈ all) (hb : (b, ({ cls := .type "list", data := .seq ys.toArray c2 } : Obj)) ∈ all) (h1 : Logged ts vs j c) (h2 : Logged ts2 ys j c) (s1 : ∀ p ∈ ts, p ∈ all) (s2 : ∀ p ∈ ts2, p ∈ all) (hu : A.units < cLine) (hu1 : A.in1.units < cLine)
    (h : Q (.bool false) s) : wpAny (model prog w) A (compareOp .NotEq (.ref l) (.ref b)) Q E s := by
  refine SeqAt.RcNeAt.lists (items := vs.toArray) (items2 := ys.toArray) (e := fun _ => true) ⟨_, (N _ hl).1, rfl, _, rfl⟩ ⟨_, (N _ hb).1, rfl, _, rfl⟩ (by rw [List.size_toArray, List.size_toArray, h1.1, h2.1]) hu (fun i g1 g2 => ?_) prog w E Q ?_
  · have hi : i < c := by rw [← h1.1]; simpa using g1
    obtain ⟨T, tp, tn, kk, e1, m1⟩ := h1.2 i hi
    obtain ⟨T2, tp2, tn2, kk2, e2, m2⟩ := h2.2 i hi
    have v1 : vs.toArray[i] = .ref T := by
      have := List.getElem?_eq_some_iff.mp e1
      simpa using this.2
    have v2 : ys.toArray[i] = .ref T2 := by
      have := List.getElem?_eq_some_iff.mp e2
      simpa using this.2
    rw [v1, v2]
    exact pair_eq (N _ (s1 _ m1)).1 (N _ (s2 _ m2)).1 hu1
  · rw [List.all_eq_true.mpr fun _ _ => rfl]; exact h
theorem grpF_lt {j : Nat} {k : Int} {ns : List Int} {p : Nat} (h : p ∈ grpF j k ns) : p < ns.length := List.mem_range.mp (List.mem_filter.mp h).1
theorem grpF_len {j : Nat} {k : Int} {ns : List Int} : (grpF j k ns).length ≤ ns.length := by
  have := List.length_filter_le (fun p => decide (reach (ns.getD p 0) j = k)) (List.range ns.length)
  rw [List.length_range] at this; exact this
theorem vOf_len {p : Nat} {r : List Nat} (hp : p < 63) : (vOf (p :: r)).length ≤ 100 := by
  have := len_mul_k1 (x := "x") (n := ((p : Int) + 1)) (by rfl)
  rw [if_neg (by omega)] at this
  show (Txt.mul "x" ((p : Int) + 1)).length ≤ 100
  omega
end Mine
local macro_rules | `(tactic| walk_at "MINE step") => `(tactic| first | (k_unfold; (try dsimp only)) | (k_end; kc_close) | walk1 | (dsimp only; walk1) | (leave1; walk_say "STEP leave1"; (try dsimp only)))
local macro_rules | `(tactic| walk_at "MINE s") => `(tactic| first | (k_unfold; (try dsimp only)) | walk1 | (dsimp only; walk1) | (leave1; walk_say "STEP leave1"; (try dsimp only)))
local macro_rules | `(tactic| walk_at "MINE to for") => `(tactic| repeat ((fail_if_success (with_reducible show wpAny _ _ (exec (Stmt.For _ _ _ _ _) _) _ _ _)); walk_at "MINE step"))
local macro_rules | `(tactic| walk_at "MINE to iter") => `(tactic| repeat ((fail_if_success (with_reducible show wpAny _ _ (pyIter _) _ _ _)); walk_at "MINE step"))
local macro_rules | `(tactic| walk_at "MINE to call") => `(tactic| repeat ((fail_if_success (with_reducible show wpAny _ _ (call _ _) _ _ _)); walk_at "MINE step"))
local macro_rules | `(tactic| k_mem) => `(tactic| (refine Mine.mem_of ?_; ktr_member))
local macro_rules | `(tactic| k_all) => `(tactic| assumption)
local macro_rules | `(tactic| walk_at "compareOp NotEq ref ref") => `(tactic| (refine Mine.ne_empty (Mine.News.get (by assumption) (by k_mem)) (Mine.News.get (by assumption) (by k_mem)) (by ke_room) ?_; (try simp only [List.isEmpty_cons, List.isEmpty_nil, Bool.not_true, Bool.not_false])))
local macro_rules | `(tactic| walk_at "LoopPost") => `(tactic| (dsimp only [Mine.LoopPost]))
theorem Mine.mem_tail3 {a b c d : Addr × Obj} {l : List (Addr × Obj)} (h : a ∈ l) : a ∈ b :: c :: d :: l := .tail _ (.tail _ (.tail _ h))
theorem PySem.Challenge.cw_kn0089_02_holds : PySem.Challenge.rw_kn0089_02.Holds :=
  Mine.hd (by
  w_strict (
    k_go0
    all_goals try k_fold
    walk_at "MINE to for"
    refine wpAny_For ?_
    walk_at "MINE to iter"
    rename Fr _ _ _ _ => Fz
    rename News _ _ _ _ => Nz
    obtain ⟨w, ew, hX9⟩ : ∃ z : World, z = _ ∧ (Mine.hd.heap_39 z.params).In _ := ⟨_, rfl, by assumption⟩
    subst ew
    clear hX9
    rename IntsAre _ _ => hI9
    obtain ⟨svs, ns, e1, e2, hI⟩ : ∃ a b, a = _ ∧ b = _ ∧ IntsAre a b := ⟨_, _, rfl, rfl, hI9⟩
    subst e1
    subst e2
    obtain ⟨m, hm, Fm⟩ := Mine.frSome Fz
    have hlen : ns.length ≤ 63 := by omega
    obtain ⟨S, hmS, hS⟩ : ∃ S, m "script" = some (.ref S) ∧ Heap.IsList (ghostOf _ [(60, 58)]) S svs.toArray := ⟨_, by rw [hm]; rfl, by assumption⟩
    obtain ⟨TB, RL, U, x, d, e1, e2, e3, e4, t1, t2, t3, t4, LG, NA, t5, t6, t7, t8, oF, oJ, oT, oN, L, CJ, CF, Nm, a1, a2, a3, a4, a5, a6, b1, b2, b3, b4, dF, dJ, dT, dN, hone, hlog, eL, eJ, eF⟩ : ∃ TB RL U x d e1 e2 e3 e4 t1 t2 t3 t4 LG NA t5 t6 t7 t8 oF oJ oT oN L CJ CF,
      News _ L _ [(TB, PySem.W.listOf #[] 0), (RL, PySem.W.listOf #[] 0), (U, PySem.W.listOf #[] 0), (x, instObj 52 d), (d, dictOf [⟨e1, .str "useragents" t1, .ref U⟩, ⟨e2, .str "rulelines" t2, .ref RL⟩, ⟨e3, .str "delay" t3, .none⟩, ⟨e4, .str "req_rate" t4, .none⟩] 4), (LG, PySem.W.listOf #[] 0), (NA, PySem.W.listOf #[.str "/a" t5, .str "" t6, .str "/a/b" t7, .str "/c" t8] 0), (CF, oF), (CJ, oJ), (L + 1 + 1, oT), (L + 1, oN), (58, tabObj #[])] ∧
      @LT.lt Nat _ RL TB ∧ @LT.lt Nat _ U RL ∧ @LT.lt Nat _ x U ∧ @LT.lt Nat _ d x ∧ @LT.lt Nat _ LG d ∧ @LT.lt Nat _ NA LG ∧ @LT.lt Nat _ 58 L ∧ @LT.lt Nat _ (L + 1 + 1) CJ ∧ @LT.lt Nat _ CJ CF ∧ @LT.lt Nat _ CF NA ∧ oF.data = .cell none ∧ oJ.data = .cell none ∧ oT.data = .cell (some (.ref TB)) ∧ oN.data = .cell (some (.ref NA)) ∧ m "one" = some (.ref x) ∧ m "log" = some (.ref LG) ∧ L = _ ∧ CJ = L + 1 + 1 + 1 ∧ CF = L + 1 + 1 + 1 + 1 := by
      refine ⟨_, _, _, _, _, _, _, _, _, _, _, _, _, _, _, _, _, _, _, _, _, _, _, _, _, _, Nz, ?_, ?_, ?_, ?_, ?_, ?_, ?_, ?_, ?_, ?_, ?_, ?_, by assumption, by assumption, by rw [hm]; rfl, by rw [hm]; rfl, rfl, rfl, rfl⟩
      · omega
      · omega
      · omega
      · omega
      · omega
      · omega
      · omega
      · omega
      · omega
      · omega
      · with_unfolding_all assumption
      · with_unfolding_all assumption
    subst eL
    rename IsRange _ _ _ _ _ _ _ _ => hr
    obtain ⟨st, Nst, hst1, hst2⟩ := Mine.split_news [58, LG, RL, TB, CJ, CF] Nm
    have hNA : (NA, PySem.W.listOf #[.str "/a" t5, .str "" t6, .str "/a/b" t7, .str "/c" t8] 0) ∈ st := hst2 _ (by k_mem) (List.forall_mem_cons.mpr ⟨by k_ne, List.forall_mem_cons.mpr ⟨by k_ne, List.forall_mem_cons.mpr ⟨by k_ne, List.forall_mem_cons.mpr ⟨by k_ne, List.forall_mem_cons.mpr ⟨by k_ne, List.forall_mem_cons.mpr ⟨by k_ne, List.forall_mem_nil _⟩⟩⟩⟩⟩⟩)
    have hx := hst2 (x, instObj 52 d) (by k_mem) (List.forall_mem_cons.mpr ⟨by k_ne, List.forall_mem_cons.mpr ⟨by k_ne, List.forall_mem_cons.mpr ⟨by k_ne, List.forall_mem_cons.mpr ⟨by k_ne, List.forall_mem_cons.mpr ⟨by k_ne, List.forall_mem_cons.mpr ⟨by k_ne, List.forall_mem_nil _⟩⟩⟩⟩⟩⟩)
    have hd := hst2 (d, _) (by k_mem) (List.forall_mem_cons.mpr ⟨by k_ne, List.forall_mem_cons.mpr ⟨by k_ne, List.forall_mem_cons.mpr ⟨by k_ne, List.forall_mem_cons.mpr ⟨by k_ne, List.forall_mem_cons.mpr ⟨by k_ne, List.forall_mem_cons.mpr ⟨by k_ne, List.forall_mem_nil _⟩⟩⟩⟩⟩⟩)
    have hoT := hst2 (_, oT) (by k_mem) (List.forall_mem_cons.mpr ⟨by k_ne, List.forall_mem_cons.mpr ⟨by k_ne, List.forall_mem_cons.mpr ⟨by k_ne, List.forall_mem_cons.mpr ⟨by k_ne, List.forall_mem_cons.mpr ⟨by k_ne, List.forall_mem_cons.mpr ⟨by k_ne, List.forall_mem_nil _⟩⟩⟩⟩⟩⟩)
    have hoN := hst2 (_, oN) (by k_mem) (List.forall_mem_cons.mpr ⟨by k_ne, List.forall_mem_cons.mpr ⟨by k_ne, List.forall_mem_cons.mpr ⟨by k_ne, List.forall_mem_cons.mpr ⟨by k_ne, List.forall_mem_cons.mpr ⟨by k_ne, List.forall_mem_cons.mpr ⟨by k_ne, List.forall_mem_nil _⟩⟩⟩⟩⟩⟩)
    have N0 := Mine.news_cons (58, tabObj #[]) Nm (by k_mem) (Mine.news_cons (LG, PySem.W.listOf #[] 0) Nm (by k_mem) (Mine.news_cons (RL, PySem.W.listOf #[] 0) Nm (by k_mem) (Mine.news_cons (TB, PySem.W.listOf #[] 0) Nm (by k_mem) (Mine.news_cons (CJ, oJ) Nm (by k_mem) (Mine.news_cons (CF, oF) Nm (by k_mem) Nst)))))
    have o0 : @Ne Nat LG 58 ∧ @Ne Nat RL 58 ∧ @Ne Nat TB 58 ∧ @Ne Nat LG RL ∧ @Ne Nat LG TB ∧ @Ne Nat RL TB ∧ @Ne Nat CJ 58 ∧ @Ne Nat CF 58 := by
      refine ⟨?_, ?_, ?_, ?_, ?_, ?_, ?_, ?_⟩ <;> omega
    have o1 : @Ne Nat LG CJ ∧ @Ne Nat LG CF ∧ @Ne Nat RL CJ ∧ @Ne Nat RL CF ∧ @Ne Nat TB CJ ∧ @Ne Nat TB CF ∧ @Ne Nat CJ CF := by
      refine ⟨?_, ?_, ?_, ?_, ?_, ?_, ?_⟩ <;> omega
    clear Nm Nst hst2
    refine Mine.for_rangeK (n := ns.length) ["rule", "reaches"] (fun i ps nx' => ∃ rl tl kr kt ps5 st', ps = ([("one", .ref x), ("log", .ref LG), ("script", .ref S)] : List (Str × Value)) ∧ nx' = (58, tabObj ps5) :: (LG, PySem.W.listOf #[] 0) :: (RL, PySem.W.listOf (List.toArray rl) kr) :: (TB, PySem.W.listOf (List.toArray tl) kt) :: (CJ, oJ) :: (CF, oF) :: st' ∧
      (∀ p ∈ st', ∀ a ∈ ([58, LG, RL, TB, CJ, CF] : List Addr), p.1 ≠ a) ∧ (∀ p ∈ st, p ∈ st') ∧ Mine.TabSt 56 4 "_law_rule.<locals>._law_reach" st' ps5 ∧ Mine.Rules w st' LG rl (ns.take i) ∧ Mine.Table st' tl (ns.take i))
      [("one", .ref x), ("log", .ref LG), ("script", .ref S)] (by rfl) hr ?hsm ?hn Fm N0 (List.forall_mem_cons.mpr ⟨hone, List.forall_mem_cons.mpr ⟨hlog, List.forall_mem_cons.mpr ⟨hmS, List.forall_mem_nil _⟩⟩⟩)
      ⟨[], [], 0, 0, #[], st, rfl, rfl, hst1, fun _ h => h, .inl rfl, ⟨rfl, fun _ _ h => nomatch h⟩, ⟨rfl, fun _ _ h => nomatch h⟩⟩ (by rfl) (by rfl) ?turn ?done
    case hsm => exact small_one (by omega) (by omega) (by omega) (by omega)
    case hn => rw [rangeSize_nat]; omega
    case turn =>
      rintro I i t ps nx' oI h tk u hi ⟨rl, tl, kr, kt, ps5, st', rfl, rfl, hoff, hup, hps, hR, hT⟩ F1 N1 off1
      rw [show (0 : Int) + (i : Int) * 1 = (i : Int) from by omega] at F1
      obtain ⟨n, hn⟩ : ∃ n, ns[i]? = some n := ⟨_, List.getElem?_eq_getElem hi⟩
      have q1 := hup _ hNA
      have q2 := hup _ hx
      have q3 := hup _ hd
      have q4 := hup _ hoN
      have q5 := hup _ hoT
      have oA : ∀ p ∈ st', p.1 ≠ 58 := fun p hp => hoff p hp _ (.head _)
      have oB : ∀ p ∈ st', p.1 ≠ LG := fun p hp => hoff p hp _ (.tail _ (.head _))
      have oC : ∀ p ∈ st', p.1 ≠ RL := fun p hp => hoff p hp _ (.tail _ (.tail _ (.head _)))
      have oD : ∀ p ∈ st', p.1 ≠ TB := fun p hp => hoff p hp _ (.tail _ (.tail _ (.tail _ (.head _))))
      have oCJ : ∀ p ∈ st', p.1 ≠ CJ := fun p hp => hoff p hp _ (.tail _ (.tail _ (.tail _ (.tail _ (.head _)))))
      have oCF : ∀ p ∈ st', p.1 ≠ CF := fun p hp => hoff p hp _ (.tail _ (.tail _ (.tail _ (.tail _ (.tail _ (.head _))))))
      have oE : ∀ p ∈ st', p.1 ≠ I := fun p hp => off1 p (.tail _ (.tail _ (.tail _ (.tail _ (.tail _ (.tail _ hp))))))
      have oI' : @Ne Nat 58 I ∧ @Ne Nat LG I ∧ @Ne Nat RL I ∧ @Ne Nat TB I ∧ @Ne Nat CJ I ∧ @Ne Nat CF I := ⟨off1 (58, _) (.head _), off1 (LG, PySem.W.listOf #[] 0) (.tail _ (.head _)), off1 (RL, PySem.W.listOf (List.toArray rl) kr) (.tail _ (.tail _ (.head _))), off1 (TB, PySem.W.listOf (List.toArray tl) kt) (.tail _ (.tail _ (.tail _ (.head _)))), off1 (CJ, oJ) (.tail _ (.tail _ (.tail _ (.tail _ (.head _))))), off1 (CF, oF) (.tail _ (.tail _ (.tail _ (.tail _ (.tail _ (.head _))))))⟩
      repeat ((fail_if_success (with_reducible show wpAny _ _ (subscriptTail _ _ _ _) _ _ _)); walk_at "MINE step")
      refine Mine.ints_itemL (n := n) (Mine.list_keep F1 hS) hI hn (by omega) ?_
      intro tn
      walk_at "MINE to call"
      have hmu : ∀ p ∈ ([(I, oI), (LG, PySem.W.listOf #[] 0), (RL, PySem.W.listOf (List.toArray rl) kr), (TB, PySem.W.listOf (List.toArray tl) kt), (CJ, oJ), (CF, oF)] : List (Addr × Obj)) ++ st', p.1 ≠ 58 := by
        refine List.forall_mem_append.mpr ⟨?_, oA⟩
        refine List.forall_mem_cons.mpr ⟨Ne.symm oI'.1, List.forall_mem_cons.mpr ⟨o0.1, List.forall_mem_cons.mpr ⟨o0.2.1, List.forall_mem_cons.mpr ⟨o0.2.2.1, List.forall_mem_cons.mpr ⟨o0.2.2.2.2.2.2.1, List.forall_mem_cons.mpr ⟨o0.2.2.2.2.2.2.2, List.forall_mem_nil _⟩⟩⟩⟩⟩⟩
      rename Fr _ _ _ _ => F2
      rename News _ _ _ _ => N2
      k_dflt (refine' Mine.rule (mu := [(I, oI), (LG, PySem.W.listOf #[] 0), (RL, PySem.W.listOf (List.toArray rl) kr), (TB, PySem.W.listOf (List.toArray tl) kt), (CJ, oJ), (CF, oF)]) (st := st') (ps := ps5) ?c1 ?c2 ?c3 ?c4 ?c5 ?c6 ?c7 ?c8 hmu hps q1 ?d3 ?d4 ?d5 ?_)
      case c5 => rfl
      case c6 => rfl
      case c1 => k_asm
      case c2 => k_asm
      case c3 => k_asm
      case c4 => assumption
      case c7 => exact F2
      case c8 =>
        refine (fun p hp => N2 p ?_ : News _ _ _ _)
        simp only [List.cons_append, List.nil_append, List.mem_cons] at hp ⊢
        rcases hp with h | h | h
        · exact .inr (.inl h)
        · exact .inl h
        · exact .inr (.inr h)
      case d3 => exact ⟨_, _, _, _, rfl⟩
      case d4 => omega
      case d5 => omega
      intro h3 tk3 T3 x3 RE rs st2 ps2 kr2 F3 N3 off3 up3 fr3 tab3 hT3 hRule hRE hints
      simp only [List.cons_append, List.nil_append] at N3 fr3
      have oA2 : ∀ p ∈ st2, p.1 ≠ 58 := fun p hp => off3 p (List.mem_append_right _ hp)
      have oB2 : ∀ p ∈ st2, p.1 ≠ LG := fun p hp => (fr3 p hp).elim (oB p) fun h => Ne.symm (h (LG, PySem.W.listOf #[] 0) (.tail _ (.head _)))
      have oC2 : ∀ p ∈ st2, p.1 ≠ RL := fun p hp => (fr3 p hp).elim (oC p) fun h => Ne.symm (h (RL, PySem.W.listOf (List.toArray rl) kr) (.tail _ (.tail _ (.head _))))
      have oD2 : ∀ p ∈ st2, p.1 ≠ TB := fun p hp => (fr3 p hp).elim (oD p) fun h => Ne.symm (h (TB, PySem.W.listOf (List.toArray tl) kt) (.tail _ (.tail _ (.tail _ (.head _)))))
      have oCJ2 : ∀ p ∈ st2, p.1 ≠ CJ := fun p hp => (fr3 p hp).elim (oCJ p) fun h => Ne.symm (h (CJ, oJ) (.tail _ (.tail _ (.tail _ (.tail _ (.head _))))))
      have oCF2 : ∀ p ∈ st2, p.1 ≠ CF := fun p hp => (fr3 p hp).elim (oCF p) fun h => Ne.symm (h (CF, oF) (.tail _ (.tail _ (.tail _ (.tail _ (.tail _ (.head _)))))))
      have oE2 : ∀ p ∈ st2, p.1 ≠ I := fun p hp => (fr3 p hp).elim (oE p) fun h => Ne.symm (h (I, oI) (.head _))
      have q1 := up3 _ q1
      have q2 := up3 _ q2
      have q3 := up3 _ q3
      have q4 := up3 _ q4
      have q5 := up3 _ q5
      have hrl : rl.length ≤ 100 := by rw [hR.1, List.length_take]; omega
      have htl : tl.length ≤ 100 := by rw [hT.1, List.length_take]; omega
      clear off3 hmu
      try clear N2
      try clear F2
      repeat ((fail_if_success (with_reducible show wpAny _ _ (subscriptTail _ _ _ _) _ _ _)); walk_at "MINE step")
      refine Mine.ints_itemL (n := n) (Mine.list_keep (by assumption) hS) hI hn (by omega) ?_
      intro tn2
      repeat' (walk_at "MINE step")
      rename Fr _ _ _ _ => Fz
      rename News _ _ _ _ => Nz
      rename (_ ∧ _ ∧ _ ∧ _ ∧ _ ∧ _ ∧ _ ∧ AllLt _ st2) => lT
      obtain ⟨T4, eT, Nz⟩ : ∃ T4, T4 = _ ∧ News _ _ _ ((T4, ({ cls := .type "tuple", data := .seq #[.ref RE, .bool (n.fmod 2 == 1)] } : Obj)) :: (58, tabObj ps2) :: (I, oI) :: (LG, PySem.W.listOf #[] 0) :: (RL, PySem.W.listOf ((List.toArray rl).push (.ref x3)) (kr + 1)) :: (TB, PySem.W.listOf ((List.toArray tl).push (.ref T4)) (kt + 1)) :: (CJ, oJ) :: (CF, oF) :: st2) := ⟨_, rfl, Nz⟩
      subst eT
      rw [List.push_toArray, List.push_toArray] at Nz
      obtain ⟨g1, g2, g3, g4, g5, g7, g8, g6⟩ := lT
      have hup5 : ∀ p ∈ st', p ∈ (T4, ({ cls := .type "tuple", data := .seq #[.ref RE, .bool (n.fmod 2 == 1)] } : Obj)) :: st2 := fun p hp => List.mem_cons_of_mem _ (up3 p hp)
      refine Mine.LoopEnd.intro Fz Nz (fun p hp => ?_) ?_ ⟨_, List.forall_mem_cons.mpr ⟨by rfl, List.forall_mem_cons.mpr ⟨by rfl, List.forall_mem_cons.mpr ⟨by rfl, List.forall_mem_nil _⟩⟩⟩, ?_, rl ++ [.ref x3], tl ++ [.ref T4], kr + 1, kt + 1, ps2, (T4, ({ cls := .type "tuple", data := .seq #[.ref RE, .bool (n.fmod 2 == 1)] } : Obj)) :: st2, rfl, rfl, ?_,
        fun p hp => hup5 _ (hup p hp), tab3.up (fun p hp => List.mem_cons_of_mem _ hp), hR.snoc hn hup5 (hRule.up fun p hp => List.mem_cons_of_mem _ hp), hT.snoc hn hup5 List.mem_cons_self (List.mem_cons_of_mem _ hRE) hints⟩
      · simp only [List.mem_cons] at hp ⊢
        rcases hp with h | h | h | h | h | h | h | h | h
        · exact .inr (.inr (.inl h))
        · exact .inr (.inl h)
        · exact .inr (.inr (.inr (.inl h)))
        · exact .inr (.inr (.inr (.inr (.inl h))))
        · exact .inr (.inr (.inr (.inr (.inr (.inl h)))))
        · exact .inr (.inr (.inr (.inr (.inr (.inr (.inl h))))))
        · exact .inr (.inr (.inr (.inr (.inr (.inr (.inr (.inl h)))))))
        · exact .inl h
        · exact .inr (.inr (.inr (.inr (.inr (.inr (.inr (.inr h)))))))
      · refine List.forall_mem_cons.mpr ⟨oI'.1, List.forall_mem_cons.mpr ⟨oI'.2.1, List.forall_mem_cons.mpr ⟨oI'.2.2.1, List.forall_mem_cons.mpr ⟨oI'.2.2.2.1, List.forall_mem_cons.mpr ⟨oI'.2.2.2.2.1, List.forall_mem_cons.mpr ⟨oI'.2.2.2.2.2, List.forall_mem_cons.mpr ⟨Nat.ne_of_gt g2, oE2⟩⟩⟩⟩⟩⟩⟩
      · intro z g1 g2 g3
        have b1 : z ≠ "rule" := Mine.notin g3 (by rfl)
        have b2 : z ≠ "reaches" := Mine.notin g3 (by rfl)
        have c1 : z ≠ "one" := g2 _ (.head _)
        have c2 : z ≠ "log" := g2 _ (.tail _ (.head _))
        have c3 : z ≠ "script" := g2 _ (.tail _ (.tail _ (.head _)))
        simp only [kstB, if_neg b1, if_neg b2, if_neg c1, if_neg c2, if_neg c3, if_neg g1, g3, Bool.false_eq_true, if_false]
      · refine List.forall_mem_cons.mpr ⟨?_, fun p hp => List.forall_mem_cons.mpr ⟨oA2 p hp, List.forall_mem_cons.mpr ⟨oB2 p hp, List.forall_mem_cons.mpr ⟨oC2 p hp, List.forall_mem_cons.mpr ⟨oD2 p hp, List.forall_mem_cons.mpr ⟨oCJ2 p hp, List.forall_mem_cons.mpr ⟨oCF2 p hp, List.forall_mem_nil _⟩⟩⟩⟩⟩⟩⟩
        exact List.forall_mem_cons.mpr ⟨Nat.ne_of_gt g1, List.forall_mem_cons.mpr ⟨Nat.ne_of_gt g3, List.forall_mem_cons.mpr ⟨Nat.ne_of_gt g4, List.forall_mem_cons.mpr ⟨Nat.ne_of_gt g5, List.forall_mem_cons.mpr ⟨Nat.ne_of_gt g7, List.forall_mem_cons.mpr ⟨Nat.ne_of_gt g8, List.forall_mem_nil _⟩⟩⟩⟩⟩⟩
    case done =>
      rintro ps nx' h tk u ⟨rl, tl, kr, kt, ps5, st', rfl, rfl, hoff, hup, hps, hR, hT⟩ F1 N1
      rw [List.take_length] at hR hT
      have q1 := hup _ hNA
      have q2 := hup _ hx
      have q3 := hup _ hd
      have q4 := hup _ hoN
      have q5 := hup _ hoT
      have hrl : rl.length ≤ 100 := by rw [hR.1]; omega
      clear hNA hx hd hoN hoT hps
      walk_at "MINE to for"
      refine wpAny_For ?_
      walk_at "MINE to iter"
      rename Fr _ _ _ _ => Fz2
      rename News _ _ _ _ => Nz2
      obtain ⟨RC, kc, eC, Nz2⟩ : ∃ RC kc, RC = _ ∧ News _ _ _ ((RC, PySem.W.listOf (List.toArray rl) kc) :: (58, tabObj ps5) :: (LG, PySem.W.listOf #[] 0) :: (RL, PySem.W.listOf (List.toArray rl) kr) :: (TB, PySem.W.listOf (List.toArray tl) kt) :: (CJ, oJ) :: (CF, oF) :: st') := ⟨_, _, rfl, Nz2⟩
      obtain ⟨m2, hm2, F2g⟩ := Mine.frSome Fz2
      rename IsRange _ _ _ _ _ _ _ _ => hr2
      have hone2 : m2 "one" = some (.ref x) := by rw [hm2]; rfl
      have hlog2 : m2 "log" = some (.ref LG) := by rw [hm2]; rfl
      have hscr2 : m2 "script" = some (.ref S) := by rw [hm2]; rfl
      have hrul2 : m2 "rules" = some (.ref RC) := by rw [hm2, eC]; rfl
      have oRC : @Ne Nat RC LG ∧ @Ne Nat RC CJ ∧ @Ne Nat RC CF := by
        rw [eC]
        refine ⟨?_, ?_, ?_⟩ <;> omega
      clear eC
      obtain ⟨sy, hsy⟩ : ∃ sy, sy = (RC, PySem.W.listOf (List.toArray rl) kc) :: (58, tabObj ps5) :: (RL, PySem.W.listOf (List.toArray rl) kr) :: (TB, PySem.W.listOf (List.toArray tl) kt) :: st' := ⟨_, rfl⟩
      have hsub : ∀ p ∈ st', p ∈ sy := fun p hp => by rw [hsy]; exact .tail _ (.tail _ (.tail _ (.tail _ hp)))
      replace q1 := hsub _ q1
      replace q2 := hsub _ q2
      replace q3 := hsub _ q3
      replace q4 := hsub _ q4
      replace q5 := hsub _ q5
      have q6 : (RC, PySem.W.listOf (List.toArray rl) kc) ∈ sy := by rw [hsy]; exact .head _
      have q7 : (RL, PySem.W.listOf (List.toArray rl) kr) ∈ sy := by rw [hsy]; exact .tail _ (.tail _ (.head _))
      have q8 : (TB, PySem.W.listOf (List.toArray tl) kt) ∈ sy := by rw [hsy]; exact .tail _ (.tail _ (.tail _ (.head _)))
      have q9 : (58, tabObj ps5) ∈ sy := by rw [hsy]; exact .tail _ (.head _)
      replace hR := hR.up hsub
      replace hT := hT.up hsub
      have oLG : ∀ p ∈ sy, p.1 ≠ LG := by
        rw [hsy]
        exact List.forall_mem_cons.mpr ⟨oRC.1, List.forall_mem_cons.mpr ⟨Ne.symm o0.1, List.forall_mem_cons.mpr ⟨Ne.symm o0.2.2.2.1, List.forall_mem_cons.mpr ⟨Ne.symm o0.2.2.2.2.1, fun p hp => hoff p hp _ (.tail _ (.head _))⟩⟩⟩⟩
      have oCJ : ∀ p ∈ sy, p.1 ≠ CJ := by
        rw [hsy]
        exact List.forall_mem_cons.mpr ⟨oRC.2.1, List.forall_mem_cons.mpr ⟨Ne.symm o0.2.2.2.2.2.2.1, List.forall_mem_cons.mpr ⟨o1.2.2.1, List.forall_mem_cons.mpr ⟨o1.2.2.2.2.1, fun p hp => hoff p hp _ (.tail _ (.tail _ (.tail _ (.tail _ (.head _)))))⟩⟩⟩⟩
      have oCF : ∀ p ∈ sy, p.1 ≠ CF := by
        rw [hsy]
        exact List.forall_mem_cons.mpr ⟨oRC.2.2, List.forall_mem_cons.mpr ⟨Ne.symm o0.2.2.2.2.2.2.2, List.forall_mem_cons.mpr ⟨o1.2.2.2.1, List.forall_mem_cons.mpr ⟨o1.2.2.2.2.2.1, fun p hp => hoff p hp _ (.tail _ (.tail _ (.tail _ (.tail _ (.tail _ (.head _))))))⟩⟩⟩⟩
      have N2 : News _ _ _ ((LG, PySem.W.listOf (List.toArray []) 0) :: (CJ, oJ) :: (CF, oF) :: sy) := fun p hp => Nz2 p (by
        rw [hsy] at hp
        simp only [List.mem_cons] at hp ⊢
        rcases hp with h | h | h | h | h | h | h | h
        · exact .inr (.inr (.inl h))
        · exact .inr (.inr (.inr (.inr (.inr (.inl h)))))
        · exact .inr (.inr (.inr (.inr (.inr (.inr (.inl h))))))
        · exact .inl h
        · exact .inr (.inl h)
        · exact .inr (.inr (.inr (.inl h)))
        · exact .inr (.inr (.inr (.inr (.inl h))))
        · exact .inr (.inr (.inr (.inr (.inr (.inr (.inr h)))))))
      clear hm2 Fz2 Nz2 hsy hsub hoff hup
      subst eJ
      subst eF
      refine Mine.for_range (n := 4) (fun i m' nx' => (∃ vs k oj vj of vf, nx' = (LG, PySem.W.listOf (List.toArray vs) k) :: (_, oj) :: (_, of) :: sy ∧ oj.data = .cell vj ∧ of.data = .cell vf ∧ vs.length ≤ 100) ∧ m' "one" = some (.ref x) ∧ m' "log" = some (.ref LG) ∧ m' "script" = some (.ref S) ∧ m' "rules" = some (.ref RC))
        (by rfl) hr2 (by rfl) (by rfl) F2g N2 ⟨⟨[], 0, oJ, _, oF, _, rfl, dJ, dF, by decide⟩, hone2, hlog2, hscr2, hrul2⟩ (fun _ v => Mine.letName _ v) ?turn2 ?done2
      case turn2 =>
        rintro I i t m₁ nx' oI h tk hi ⟨⟨vs, k, oj, vj, of, vf, rfl, hdj, hdf, hvs⟩, g1, g2, g3, g4⟩ F1 N1 off1
        rw [show (0 : Int) + (i : Int) * 1 = (i : Int) from by omega]
        refine wpAny_assign_Name (Mine.store_cell F1 N1 (.tail _ (.tail _ (.head _))) hdj (by rfl) (by rfl) (by rfl) ?_)
        intro h2 oj2 hj2 F2 N2
        have N3 : News _ _ _ ((I, oI) :: (LG, PySem.W.listOf (List.toArray vs) k) :: (_, oj2) :: (_, of) :: sy) := fun p hp => N2 p (by
          rcases List.mem_cons.mp hp with rfl | hp
          · exact Mine.put_mem (.head _) (Ne.symm (off1 (_, oj) (.tail _ (.head _))))
          · rcases List.mem_cons.mp hp with rfl | hp
            · exact Mine.put_mem (.tail _ (.head _)) o1.1
            · rcases List.mem_cons.mp hp with rfl | hp
              · exact Mine.put_self
              · rcases List.mem_cons.mp hp with rfl | hp
                · exact Mine.put_mem (.tail _ (.tail _ (.tail _ (.head _)))) (Ne.symm o1.2.2.2.2.2.2)
                · exact Mine.put_mem (.tail _ (.tail _ (.tail _ (.tail _ hp)))) (oCJ p hp))
        have Fk := Mine.frKst F2 [("one", .ref x), ("log", .ref LG), ("script", .ref S), ("rules", .ref RC)] (List.forall_mem_cons.mpr ⟨g1, List.forall_mem_cons.mpr ⟨g2, List.forall_mem_cons.mpr ⟨g3, List.forall_mem_cons.mpr ⟨g4, List.forall_mem_nil _⟩⟩⟩⟩)
        have oSI : ∀ p ∈ sy, p.1 ≠ I := fun p hp => off1 p (.tail _ (.tail _ (.tail _ hp)))
        have oI' : @Ne Nat LG I ∧ @Ne Nat _ I ∧ @Ne Nat _ I := ⟨off1 (LG, PySem.W.listOf (List.toArray vs) k) (.head _), off1 (_, oj) (.tail _ (.head _)), off1 (_, of) (.tail _ (.tail _ (.head _)))⟩
        clear N2 F2 N1 F1
        repeat ((fail_if_success (with_reducible show wpAny _ _ (delItem _ _) _ _ _)); walk_at "MINE step")
        rename Fr _ _ _ _ => F4
        rename News _ _ _ _ => N4
        refine Mine.del_all (pre := [_]) (its := vs.toArray) (n := k) (by rfl) F4 N4 (List.forall_mem_cons.mpr ⟨Ne.symm oI'.1, List.forall_mem_nil _⟩) (List.forall_mem_cons.mpr ⟨Ne.symm o1.1, List.forall_mem_cons.mpr ⟨Ne.symm o1.2.1, oLG⟩⟩) (by rw [PySem.sizeLine_eq, List.size_toArray]; omega) ?_
        intro h5 k5 F5 N5
        simp only [List.cons_append, List.nil_append] at N5
        try clear N4
        try clear F4
        try clear N3
        try clear Fk
        repeat ((fail_if_success (with_reducible show wpAny _ _ (subscriptTail _ _ _ _) _ _ _)); walk_at "MINE step")
        refine Mine.names_item (nv := [_, _, _, _]) (Mine.News.get (by assumption) (by k_mem)) ⟨_, _, _, _, rfl⟩ hi ?_
        intro tn
        walk_at "MINE to call"
        rename Fr _ _ _ _ => F5
        rename News _ _ _ _ => N5
        obtain ⟨nw, hnw, N6⟩ := Mine.swap_open N5
        have hsw : ∀ p ∈ sy, p ∈ nw := fun p hp => by rw [hnw]; exact .tail _ (.tail _ (.tail _ hp))
        have onw : ∀ p ∈ nw, p.1 ≠ LG := by
          rw [hnw]; exact List.forall_mem_cons.mpr ⟨Ne.symm oI'.1, List.forall_mem_cons.mpr ⟨Ne.symm o1.1, List.forall_mem_cons.mpr ⟨Ne.symm o1.2.1, oLG⟩⟩⟩
        k_dflt (refine' Mine.allow_ok (nw := nw) (ns := ns) (j := i) ?c1 ?c2 ?c3 ?c4 ?c5 ?c6 N6 onw (hsw _ q2) (hsw _ q3) (hsw _ q7) (hR.up hsw) hlen hi ?_)
        case c4 => rfl
        case c5 => rfl
        case c1 => k_asm
        case c2 => k_asm
        case c3 => k_asm
        case c6 => exact F5
        intro h7 tk7 v7 vs7 ts7 k7 F7 N7 hlg7 hA7
        try clear F5
        try clear N5
        try clear N6
        obtain ⟨nz, hnz⟩ : ∃ nz, nz = ts7 ++ nw := ⟨_, rfl⟩
        rw [← hnz] at N7
        have hwz : ∀ p ∈ nw, p ∈ nz := fun p hp => by rw [hnz]; exact List.mem_append_right _ hp
        have r1 := hwz _ (hsw _ q1)
        have r4 := hwz _ (hsw _ q4)
        have rj := hwz (_, oj2) (by rw [hnw]; exact .tail _ (.head _))
        repeat ((fail_if_success (with_reducible show wpAny _ _ (eval (Expr.ListComp _ _ _ _) _) _ _ _)); walk_at "MINE step")
        k_dflt (refine LCg.ListComp_U (F₀ := by k_asm) (by with_unfolding_all rfl) (by decide) (by rfl) (by decide) (by rfl) ?_)
        repeat ((with_reducible show wpAny _ _ _ _ _ _); walk_at "MINE step")
        refine LCg.CompSrc.range (n := ns.length) (by rfl) (by k_asm) (by k_asm) (by assumption) (small_one (by omega) (by omega) (by omega) (by omega)) (by rw [rangeSize_nat]; omega) (by rw [PySem.sizeLine_eq]; omega) ?_
        intro g3
        refine Mine.comp_rest (fun p ys nx => ∃ ts2, nx = ts2 ++ ((LG, PySem.W.listOf (List.toArray vs7) k7) :: nz) ∧ Mine.Logged ts2 ys i p) ⟨[], rfl, rfl, fun _ h => absurd h (Nat.not_lt_zero _)⟩ ?_ ?_
        · rintro p v ys nx I2 oI2 C2 oC2 D2 m₂ hh tk2 E' hp ⟨t2, rfl⟩ ⟨ts2, rfl, hlg2⟩ hC hx2 F8 N8 off8 ne8
          rw [show (0 : Int) + (p : Int) = (p : Int) from by omega] at hx2
          obtain ⟨nx0, hnx0⟩ : ∃ nx0, nx0 = ts2 ++ ((LG, PySem.W.listOf (List.toArray vs7) k7) :: nz) := ⟨_, rfl⟩
          rw [← hnx0] at N8 off8
          have hz0 : ∀ p ∈ nz, p ∈ nx0 := fun p hp => by rw [hnx0]; exact List.mem_append_right _ (.tail _ hp)
          have z1 := hz0 _ r1
          have z4 := hz0 _ r4
          have zj := hz0 _ rj
          repeat ((fail_if_success (with_reducible show wpAny _ _ (subscriptTail _ _ _ _) _ _ _)); walk_at "MINE step")
          refine Mine.names_item (nv := [_, _, _, _]) (Mine.News.get (by assumption) (by k_mem)) ⟨_, _, _, _, rfl⟩ hi ?_
          intro tn2
          repeat' (walk_at "MINE step")
          rename Fr _ _ _ _ => Fz
          rename News _ _ _ _ => Nz
          rename (_ ∧ _ ∧ _ ∧ AllLt _ nx0) => lT
          obtain ⟨T8, eT, Nz⟩ : ∃ T8, T8 = _ ∧ News _ _ _ ((T8, ({ cls := .type "tuple", data := .seq #[.int (p : Nat) t2, .str (Mine.nm i) tn2] } : Obj)) :: (I2, oI2) :: (C2, oC2) :: (D2, LCg.lst ys) :: nx0) := ⟨_, rfl, Nz⟩
          subst eT
          refine LCg.CompEnd.intro Fz Nz ((T8, ({ cls := .type "tuple", data := .seq #[.int (p : Nat) t2, .str (Mine.nm i) tn2] } : Obj)) :: nx0) (fun p hp => ?_) ⟨⟨Nat.ne_of_gt lT.1, Nat.ne_of_gt lT.2.1, Nat.ne_of_gt lT.2.2.1⟩, off8⟩ trivial ⟨(T8, ({ cls := .type "tuple", data := .seq #[.int (p : Nat) t2, .str (Mine.nm i) tn2] } : Obj)) :: ts2, by rw [hnx0]; rfl, hlg2.snoc⟩
          simp only [List.mem_cons] at hp ⊢
          rcases hp with h | h | h | h | h
          · exact .inr (.inl h)
          · exact .inr (.inr (.inl h))
          · exact .inr (.inr (.inr (.inl h)))
          · exact .inl h
          · exact .inr (.inr (.inr (.inr h)))
        intro ys nx ⟨ts2, hnx2, hlg2⟩ D2 h9 tk9 F9 N9 o9
        subst hnx2
        refine Mine.logged_ne N9 (l := LG) (b := D2) (vs := vs7) (ys := ys) (.tail _ (List.mem_append_right _ (.head _))) (.head _) hlg7 hlg2 (fun p hp => .tail _ (List.mem_append_right _ (.tail _ (by rw [hnz]; exact List.mem_append_left _ hp)))) (fun p hp => .tail _ (List.mem_append_left _ hp)) (by ke_room) (by ke_room) ?_
        have N9' : News _ _ _ ((LG, PySem.W.listOf (List.toArray vs7) k7) :: nz) := fun p hp => N9 p (.tail _ (List.mem_append_right _ hp))
        clear N9 o9
        walk_at "MINE to for"
        refine wpAny_For ?_
        walk_at "MINE to iter"
        rename Fr _ _ _ _ => Fx
        rename News _ _ _ _ => Nx
        rename IsRange _ _ _ _ _ _ _ _ => hr3
        obtain ⟨ny, Ny, oNY, hsy2, sj, sLG, sI, _⟩ := Mine.pick_far Nx hnz hnw o1.2.1 (Ne.symm oI'.2.2) o1.2.2.2.2.2.2 oCF
        obtain ⟨m3, hm3, F3g⟩ := Mine.frSome Fx
        have p1 : m3 "told" = some v7 := by rw [hm3]; rfl
        have p2 : m3 "due" = some (.bool true) := by rw [hm3]; rfl
        have p3 : m3 "one" = some (.ref x) := by rw [hm3]; rfl
        have p4 : m3 "log" = some (.ref LG) := by rw [hm3]; rfl
        have p5 : m3 "script" = some (.ref S) := by rw [hm3]; rfl
        have p6 : m3 "rules" = some (.ref RC) := by rw [hm3]; rfl
        have s1 := hsy2 _ q1
        have s4 := hsy2 _ q4
        have s5 := hsy2 _ q5
        have s8 := hsy2 _ q8
        have hTy := hT.up hsy2
        clear hm3 Fx Nx
        refine Mine.for_range (n := 4) (fun k m' nx' => (∃ of vf, nx' = (_, of) :: ny ∧ of.data = .cell vf) ∧ (∃ dv, m' "due" = some dv ∧ Mine.IsA (Mine.dueUp i ns k) dv) ∧ m' "told" = some v7 ∧ m' "one" = some (.ref x) ∧ m' "log" = some (.ref LG) ∧ m' "script" = some (.ref S) ∧ m' "rules" = some (.ref RC))
          (by rfl) hr3 (by rfl) (by rfl) F3g Ny ⟨⟨of, vf, rfl, hdf⟩, ⟨_, p2, .inl ⟨rfl, rfl⟩⟩, p1, p3, p4, p5, p6⟩ (fun _ v => Mine.letName _ v) ?turn3 ?done3
        case turn3 =>
          rintro I3 k3 t3 m₄ nx4 oI3 h11 tk11 hk3 ⟨⟨of3, vf3, rfl, hdf3⟩, ⟨dv, pd, hdv⟩, p1, p3, p4, p5, p6⟩ F11 N11 off11
          rw [show (1 : Int) + (k3 : Int) * 1 = ((k3 + 1 : Nat) : Int) from by omega]
          refine wpAny_assign_Name (Mine.store_cell F11 N11 (.tail _ (.head _)) hdf3 (by rfl) (by rfl) (by rfl) ?_)
          intro h12 of4 hf4 F12 N12
          have N13 := Mine.put_second N12 (Ne.symm (off11 (_, of3) (.head _))) oNY
          have Fk := Mine.frKst F12 [("told", v7), ("due", dv), ("one", .ref x), ("log", .ref LG), ("script", .ref S), ("rules", .ref RC)] (List.forall_mem_cons.mpr ⟨p1, List.forall_mem_cons.mpr ⟨pd, List.forall_mem_cons.mpr ⟨p3, List.forall_mem_cons.mpr ⟨p4, List.forall_mem_cons.mpr ⟨p5, List.forall_mem_cons.mpr ⟨p6, List.forall_mem_nil _⟩⟩⟩⟩⟩⟩)
          clear N12 F12 N11 F11
          repeat ((fail_if_success (with_reducible show wpAny _ _ (exec (Stmt.Assign [Expr.Name "group" _] _ _) _) _ _ _)); walk_at "MINE step")
          k_dflt (refine LCt.Assign_ListComp_T (F₀ := by k_asm) (by rfl) (by with_unfolding_all rfl) (by with_unfolding_all rfl) (by decide) (by rfl) (by decide) (by rfl) (by rfl) (by rfl) ?_)
          repeat ((with_reducible show wpAny _ _ _ _ _ _); walk_at "MINE step")
          refine LCt.CompSrcT.range (n := ns.length) (by rfl) (by k_asm) (by k_asm) (by assumption) (small_one (by omega) (by omega) (by omega) (by omega)) (by rw [rangeSize_nat]; omega) (by rw [PySem.sizeLine_eq]; omega) ?_
          intro g4
          refine Mine.comp_keepT (fun q zs => IntsAre zs (((List.range q).filter fun p => decide (Mine.reach (ns.getD p 0) i = ((k3 + 1 : Nat) : Int))).map fun p : Nat => (p : Int))) .nil trivial ?_ ?_
          · rintro q v zs I5 oI5 C5 oC5 D5 m₅ hh tk5 E' hq ⟨t5, rfl⟩ hzs hC hx5 F8 N8 off8 ne8
            rw [show (0 : Int) + (q : Int) = (q : Int) from by omega] at hx5
            obtain ⟨n, hn⟩ : ∃ n, ns[q]? = some n := ⟨_, List.getElem?_eq_getElem hq⟩
            obtain ⟨T, RE, kk, kr', ⟨rs⟩, g1, g2, g3, g4⟩ := hTy.2 q n hn
            repeat ((fail_if_success (with_reducible show wpAny _ _ (subscriptTail _ _ _ _) _ _ _)); walk_at "MINE step")
            refine Mine.list_item (Mine.News.get (by assumption) (by k_mem)) g1 (by omega) ?_
            repeat ((fail_if_success (with_reducible show wpAny _ _ (subscriptTail _ _ _ (Value.int (Nat.cast _) _)) _ _ _)); walk_at "MINE step")
            refine Mine.ints_item (n := Mine.reach n i) (Mine.News.get (by assumption) (by k_mem)) g4 (by simp [hi]) (by omega) ?_
            intro t6
            repeat' (walk_at "MINE step")
            all_goals (rename Fr _ _ _ _ => Fe; rename News _ _ _ _ => Ne)
            · exact Mine.CompK.intro Fe Ne (fun _ h => h) (Mine.rangeF_yes hzs (by rw [List.getD_eq_getElem?_getD, hn]; exact decide_eq_true (by assumption)))
            · exact Mine.CompK.intro Fe Ne (fun _ h => h) (Mine.rangeF_no hzs (by rw [List.getD_eq_getElem?_getD, hn]; exact decide_eq_false (by assumption)))
          intro zs hzs D6 h13 tk13 F13 N13 o13
          obtain ⟨gl, hgl⟩ : ∃ gl, gl = Mine.grpF i ((k3 + 1 : Nat) : Int) ns := ⟨_, rfl⟩
          have hzs : IntsAre zs (gl.map fun p : Nat => (p : Int)) := by rw [hgl]; exact hzs
          dsimp only [LCg.Off1] at o13
          have hdu : Mine.dueUp i ns (k3 + 1) = if gl = [] then Mine.dueUp i ns k3 else some (Mine.vOf (gl.filter fun p => Mine.odd (ns.getD p 0))) := by
            rw [hgl]
            simp only [Mine.dueUp, Mine.grp_eq, Mine.knd_eq]; rfl
          cases hgc : gl with
          | nil =>
            subst hgc
            rw [if_pos rfl] at hdu
            obtain rfl : zs = [] := by cases hzs; rfl
            repeat' (walk_at "MINE step")
            rename Fr _ _ _ _ => Fz
            rename News _ _ _ _ => Nz
            exact Mine.LoopEnd.intro Fz Nz (fun p hp => by repeat (first | exact hp | refine List.mem_cons_of_mem _ ?_)) (Mine.off_swap of4 off11) ⟨⟨of4, _, rfl, hf4⟩, ⟨dv, by rfl, by rw [hdu]; exact hdv⟩, by rfl, by rfl, by rfl, by rfl, by rfl⟩
          | cons p0 gr =>
            rw [if_neg (by rw [hgc]; nofun)] at hdu
            obtain ⟨z0, zr, hz0⟩ : ∃ z0 zr, zs = z0 :: zr := by
              rw [hgc] at hzs
              cases hzs
              exact ⟨_, _, rfl⟩
            subst hz0
            have hgl63 : gl.length ≤ 63 := by rw [hgl]; exact Nat.le_trans Mine.grpF_len hlen
            have hzl : (z0 :: zr).length ≤ 63 := by rw [Mine.ints_len hzs, List.length_map]; exact hgl63
            clear hgc
            repeat ((fail_if_success (with_reducible show wpAny _ _ (compareOp _ _ _) _ _ _)); walk_at "MINE step")
            refine Mine.ne_empty (zs := z0 :: zr) (Mine.News.get (by assumption) (by k_mem)) (Mine.News.get (by assumption) (by k_mem)) (by ke_room) ?_
            rw [show (!(z0 :: zr).isEmpty) = true from rfl]
            repeat ((fail_if_success (with_reducible show wpAny _ _ (exec (Stmt.Assign [Expr.Name "kind" _] _ _) _) _ _ _)); walk_at "MINE step")
            k_dflt (refine LCt.Assign_ListComp_T (F₀ := by k_asm) (by rfl) (by with_unfolding_all rfl) (by with_unfolding_all rfl) (by decide) (by rfl) (by decide) (by rfl) (by rfl) (by rfl) ?_)
            repeat ((with_reducible show wpAny _ _ _ _ _ _); walk_at "MINE step")
            refine LCt.CompSrcT.ledger (by rfl) (by k_asm) (by k_asm) (by k_mem) (by rw [PySem.sizeLine_eq, List.size_toArray]; omega) ?_
            intro g5
            refine Mine.comp_keepT (fun q ys => IntsAre ys (((gl.take q).filter fun p => Mine.odd (ns.getD p 0)).map fun p : Nat => (p : Int))) .nil (.inr ⟨_, by k_mem, rfl, _, rfl⟩) ?_ ?_
            · rintro q v ys I5 oI5 C5 oC5 D5 m₅ hh tk5 E' hq hv hys hC hx5 F8 N8 off8 ne8
              obtain ⟨pp, t5, hpp, rfl⟩ := Mine.cast_at hzs (by simpa using hv)
              have hp63 : pp < ns.length := Mine.grpF_lt (by rw [← hgl]; exact List.mem_of_getElem? hpp)
              obtain ⟨n, hn⟩ : ∃ n, ns[pp]? = some n := ⟨_, List.getElem?_eq_getElem hp63⟩
              obtain ⟨T, RE, kk, kr', ⟨rs⟩, g1, g2, g3, g4⟩ := hTy.2 pp n hn
              have hnd : ns.getD pp 0 = n := by rw [List.getD_eq_getElem?_getD, hn]; rfl
              cases ho : Mine.odd n
              all_goals
                rw [ho] at g2
                repeat ((fail_if_success (with_reducible show wpAny _ _ (subscriptTail _ _ _ _) _ _ _)); walk_at "MINE step")
                refine Mine.list_item (Mine.News.get (by assumption) (by k_mem)) g1 (by omega) ?_
                repeat' (walk_at "MINE step")
                rename Fr _ _ _ _ => Fe
                rename News _ _ _ _ => Ne
              · exact Mine.CompK.intro Fe Ne (fun _ h => h) (Mine.takeF_no hys hpp (by rw [hnd]; exact ho))
              · exact Mine.CompK.intro Fe Ne (fun _ h => h) (Mine.takeF_yes hys hpp (by rw [hnd]; exact ho))
            intro ys hys D7 h14 tk14 F14 N14 o14
            dsimp only [LCg.Off1] at o14
            rw [List.take_of_length_le (by rw [List.size_toArray, Mine.ints_len hzs, List.length_map]; exact Nat.le_refl _)] at hys
            obtain ⟨kl, hkl⟩ : ∃ kl, kl = gl.filter fun p => Mine.odd (ns.getD p 0) := ⟨_, rfl⟩
            rw [← hkl] at hys hdu
            cases hkc : kl with
            | nil =>
              subst hkc
              obtain rfl : ys = [] := by cases hys; rfl
              repeat' (walk_at "MINE step")
              rename Fr _ _ _ _ => Fz
              rename News _ _ _ _ => Nz
              exact Mine.LoopEnd.intro Fz Nz (fun p hp => by repeat (first | exact hp | refine List.mem_cons_of_mem _ ?_)) (Mine.off_swap of4 off11) ⟨⟨of4, _, rfl, hf4⟩, ⟨_, by rfl, by rw [hdu]; exact .inr ⟨_, _, rfl, rfl, by decide⟩⟩, by rfl, by rfl, by rfl, by rfl, by rfl⟩
            | cons p1 kr1 =>
              obtain ⟨u1, yr, hy0⟩ : ∃ u1 yr, ys = .int (p1 : Nat) u1 :: yr := by
                rw [hkc] at hys
                cases hys
                exact ⟨_, _, rfl⟩
              subst hy0
              have hp1 : p1 < 63 := by
                have h1 : p1 ∈ kl := by rw [hkc]; exact .head _
                rw [hkl] at h1
                have h2 := (List.mem_filter.mp h1).1
                rw [hgl] at h2
                have := Mine.grpF_lt h2
                omega
              rw [hkc] at hdu
              clear hkc
              repeat ((fail_if_success (with_reducible show wpAny _ _ (compareOp _ _ _) _ _ _)); walk_at "MINE step")
              refine Mine.ne_empty (zs := .int (p1 : Nat) u1 :: yr) (Mine.News.get (by assumption) (by k_mem)) (Mine.News.get (by assumption) (by k_mem)) (by ke_room) ?_
              rw [show (!(Value.int (p1 : Nat) u1 :: yr).isEmpty) = true from rfl]
              repeat ((fail_if_success (with_reducible show wpAny _ _ (subscriptTail _ _ _ _) _ _ _)); walk_at "MINE step")
              refine Mine.item0 (v := .int (p1 : Nat) u1) (Mine.News.get (by assumption) (by k_mem)) ?_
              repeat' (walk_at "MINE step")
              rename Fr _ _ _ _ => Fz
              rename News _ _ _ _ => Nz
              exact Mine.LoopEnd.intro Fz Nz (fun p hp => by repeat (first | exact hp | refine List.mem_cons_of_mem _ ?_)) (Mine.off_swap of4 off11) ⟨⟨of4, _, rfl, hf4⟩, ⟨_, by rfl, by rw [hdu]; exact .inr ⟨_, _, rfl, rfl, Mine.vOf_len hp1⟩⟩, by rfl, by rfl, by rfl, by rfl, by rfl⟩
        case done3 =>
          rintro m₅ nx5 h15 tk15 ⟨⟨of5, vf5, rfl, hdf5⟩, ⟨dv, pd, hdv⟩, p1, p3, p4, p5, p6⟩ F15 N15
          rw [← Mine.run_due] at hdv
          have Fk := Mine.frKst F15 [("told", v7), ("due", dv), ("one", .ref x), ("log", .ref LG), ("script", .ref S), ("rules", .ref RC)] (List.forall_mem_cons.mpr ⟨p1, List.forall_mem_cons.mpr ⟨pd, List.forall_mem_cons.mpr ⟨p3, List.forall_mem_cons.mpr ⟨p4, List.forall_mem_cons.mpr ⟨p5, List.forall_mem_cons.mpr ⟨p6, List.forall_mem_nil _⟩⟩⟩⟩⟩⟩)
          clear F15
          generalize (Mine.runFrom i 0 ns (-1, none)).2 = rr at hdv hA7
          rcases hdv with ⟨rfl, rfl⟩ | ⟨sa, ta, rfl, rfl, hsl⟩
          · rcases hA7 with ⟨_, rfl⟩ | ⟨_, _, h, _⟩
            · repeat ((fail_if_success (with_reducible show wpAny _ _ (compareOp _ _ _) _ _ _)); walk_at "MINE step")
              walk_at "MINE step"
              simp only [bne_self_eq_false]
              repeat ((fail_if_success (with_reducible show wpAny _ _ (compareOp _ _ _) _ _ _)); walk_at "MINE step")
              repeat' (walk_at "MINE s")
              rename Fr _ _ _ _ => Fz
              rename News _ _ _ _ => Nz
              refine Mine.LoopEnd.intro Fz Nz (fun p hp => ?_) ?_ ⟨⟨vs7, k7, oj2, _, of5, _, rfl, hj2, hdf5, by rw [hlg7.1]; omega⟩, by rfl, by rfl, by rfl, by rfl⟩
              · simp only [List.mem_cons] at hp ⊢
                rcases hp with h | h | h | h | h
                · exact .inr (h ▸ sI)
                · exact .inr (h ▸ sLG)
                · exact .inr (h ▸ sj)
                · exact .inl h
                · exact .inr (hsy2 _ h)
              · exact List.forall_mem_cons.mpr ⟨oI'.1, List.forall_mem_cons.mpr ⟨oI'.2.1, List.forall_mem_cons.mpr ⟨oI'.2.2, oSI⟩⟩⟩
            · cases h
          · rcases hA7 with ⟨h, _⟩ | ⟨sb, tb, h, rfl, _⟩
            · cases h
            · cases h
              repeat ((fail_if_success (with_reducible show wpAny _ _ (compareOp _ _ _) _ _ _)); walk_at "MINE step")
              walk_at "MINE step"
              simp only [bne_self_eq_false]
              repeat ((fail_if_success (with_reducible show wpAny _ _ (compareOp _ _ _) _ _ _)); walk_at "MINE step")
              repeat' (walk_at "MINE s")
              rename Fr _ _ _ _ => Fz
              rename News _ _ _ _ => Nz
              refine Mine.LoopEnd.intro Fz Nz (fun p hp => ?_) ?_ ⟨⟨vs7, k7, oj2, _, of5, _, rfl, hj2, hdf5, by rw [hlg7.1]; omega⟩, by rfl, by rfl, by rfl, by rfl⟩
              · simp only [List.mem_cons] at hp ⊢
                rcases hp with h | h | h | h | h
                · exact .inr (h ▸ sI)
                · exact .inr (h ▸ sLG)
                · exact .inr (h ▸ sj)
                · exact .inl h
                · exact .inr (hsy2 _ h)
              · exact List.forall_mem_cons.mpr ⟨oI'.1, List.forall_mem_cons.mpr ⟨oI'.2.1, List.forall_mem_cons.mpr ⟨oI'.2.2, oSI⟩⟩⟩
      case done2 =>
        rintro m₅ nx5 h15 tk15 ⟨⟨vs, k, oj, vj, of, vf, rfl, hdj, hdf, hvs⟩, g1, g2, g3, g4⟩ F15 N15
        have Fk := Mine.frKst F15 [("one", .ref x), ("log", .ref LG), ("script", .ref S), ("rules", .ref RC)] (List.forall_mem_cons.mpr ⟨g1, List.forall_mem_cons.mpr ⟨g2, List.forall_mem_cons.mpr ⟨g3, List.forall_mem_cons.mpr ⟨g4, List.forall_mem_nil _⟩⟩⟩⟩)
        clear F15
        repeat ((fail_if_success (with_reducible show wpAny _ _ (getAttr _ _ _) _ _ _)); walk_at "MINE step")
        dsimp only
        k_dflt (refine' get_own ?k1 ?k2 ?k3 ?k4 ?k5 ?k6 ?k7 ?k8 ?k9 ?_; (case k1 => k_asm); (case k2 => k_asm); (case k3 => (refine' InstAt.of_news (by assumption) (Mine.mem_tail3 q2) (Mine.mem_tail3 q3))); (case k4 => k_is); (case k5 => k_is); (case k6 => k_is); (case k7 => k_is); (case k8 => k_get); (case k9 => k_handed); k_whole)
        repeat ((fail_if_success (with_reducible show wpAny _ _ (compareOp _ _ _) _ _ _)); walk_at "MINE step")
        dsimp only
        refine Mine.lists_same (Mine.News.get (by assumption) (by k_mem)) (Mine.News.get (by assumption) (by k_mem)) (by ke_room) ?_
        refine ⟨?_, ?_⟩
        · kc_bool
          refine goodW_bool (by with_reducible assumption) (by with_reducible assumption) (raisesW_false ?_) ?_
          · wrow_none_raised
          · refine postW_of (by wrow_shape) (w_eq_bool (w_res rfl) w_lit) ?_
            rfl
        · exact ⟨GrownAt.of (by k_asm) (by k_mem), trivial⟩))
