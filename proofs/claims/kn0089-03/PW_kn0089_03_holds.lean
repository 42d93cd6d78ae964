import PyProof.Rows.All
import Wide.All
import OpenK.AllK
import Wide.FinOn
import Lean
import PySem.Challenge.RW_kn0089_03
open PySem PySem.W PyProof.Rows PySem.Calls PySem.Spec
set_option Elab.async false
set_option maxRecDepth 100000
set_option maxHeartbeats 8000000
open_top Mine.hd for PySem.Challenge.rw_kn0089_03
namespace Mine
theorem mem_of {a : Addr × Obj} {l : List (Addr × Obj)} (h : a ∈ l) : List.Mem a l := h
/-- the end of a turn: the frame, the ledger (it may have grown), the word -/
def LoopEnd (h₀ : Heap) (L : Addr) (J : (Str → Option Value) → List (Addr × Obj) → Prop) (I : Addr) (oI : Obj) (s s₂ : Shared) : Prop :=
  ∃ h' tk m' nx, s₂ = { s with heap := h', toks := tk } ∧ Fr h₀ L h' m' ∧ News h₀ L h' ((I, oI) :: nx) ∧ (∀ p ∈ nx, p.1 ≠ I) ∧ J m' nx
def LoopPost (h₀ : Heap) (L : Addr) (J : (Str → Option Value) → List (Addr × Obj) → Prop) (I : Addr) (oI : Obj) (s : Shared) (Q : Flow → Shared → Prop) (f : Flow) (s₂ : Shared) : Prop :=
  match f with
  | .ret v => Q (.ret v) s₂
  | .brk => Q .next s₂
  | _ => LoopEnd h₀ L J I oI s s₂
section
variable {prog : Program} {w : World} {A : Around} {E : Value → Shared → Prop} {s : Shared} {h₀ : Heap} {L : Addr} {m : Str → Option Value} {env : Env} {news : List (Addr × Obj)} {Q : Flow → Shared → Prop} {target : Expr} {body : List Stmt}
theorem loopW {I : Addr} {fp : List Addr} {n : Nat} {P : Nat → Value → Prop} {St : Nat → Heap → Prop} {S : List (Addr × Obj) → Prop} (J : Nat → (Str → Option Value) → List (Addr × Obj) → Prop)
    (W : Walks prog w A I fp [I] n P St) (hIo : ∀ i h, St i h → ∃ o, h.get? I = some o)
    (hSt : ∀ i h h' o nw, St i h → h.get? I = some o → h'.get? I = some o → (∀ b o, h₀.get? b = some o → h'.get? b = some o) → News h₀ L h' nw → S nw → St i h')
    (hst : St 0 s.heap) (F : Fr h₀ L s.heap m) (N : News h₀ L s.heap news) (hIL : L ≠ I) (hI₀ : h₀.get? I = none) (off : ∀ p ∈ news, p.1 ≠ I) (hS : ∀ i m nx, J i m nx → S nx) (hj : J 0 m news)
    (hE : PassesOwn (model prog w) A env E) (hlet : ∀ v, letOwnedTupleGo target (.ref I) v = pure ())
    (turn : ∀ i v m₁ nx oI h tk, i < n → P i v → J i m₁ nx → Fr h₀ L h m₁ → News h₀ L h ((I, oI) :: nx) → (∀ p ∈ nx, p.1 ≠ I) →
      wpAny (model prog w) A (assign target env v) (fun _ s₂ => wpAny (model prog w) A (execs body env) (LoopPost h₀ L (J (i + 1)) I oI s Q) E s₂) E { s with heap := h, toks := tk })
    (done : ∀ m₁ nx h tk, J n m₁ nx → Fr h₀ L h m₁ → News h₀ L h nx → Q .next { s with heap := h, toks := tk }) :
    codeAny (model prog w) A (.forLoop target (.ref I) body [] env) (fun r s' => match r with | .ok f => Q f s' | .error e => cameBackBy (model prog w) A env E e s') s := by
  refine codeAny_forLoop
    (fun k s' => ∃ h' tk m' nx i, s' = { s with heap := h', toks := tk } ∧ i ≤ n ∧ k = n + 1 - i ∧ St i h' ∧ Fr h₀ L h' m' ∧ News h₀ L h' nx ∧ (∀ p ∈ nx, p.1 ≠ I) ∧ J i m' nx) ?_ (n + 1)
    ⟨s.heap, s.toks, m, news, 0, rfl, Nat.zero_le _, rfl, hst, F, N, off, hj⟩ hlet
  rintro k s' ⟨h', tk, m', nx, i, rfl, hi, rfl, hst', F', N', off', hJ⟩
  by_cases hlt : i < n
  · refine W.item i _ _ _ hlt hst' fun v h₂ tk₂ hPv hst₂ hk₂ => ?_
    have F₂ : Fr h₀ L h₂ m' := LCg.fr_but F' hk₂ hIL hI₀
    have N₂ : News h₀ L h₂ nx := LCg.news_but N' hk₂ off'
    obtain ⟨oI, heI⟩ := hIo _ _ hst₂
    have N₃ : News h₀ L h₂ ((I, oI) :: nx) := fun p hp => by
      rcases List.mem_cons.mp hp with rfl | hp
      · exact ⟨heI, Ne.symm hIL, hI₀⟩
      · exact N₂ p hp
    refine wpAny_passesOwn hE (wpAny_mono (turn i v m' nx oI h₂ tk₂ hlt hPv hJ F₂ N₃ off') (fun _ s₂ h => ?_) fun _ _ e => e)
    refine wpAny_passesOwn hE (wpAny_mono h (fun f s₃ h₃ => ?_) fun _ _ e => e)
    have fin : LoopEnd h₀ L (J (i + 1)) I oI s s₃ → ∃ m, m < n + 1 - i ∧ ∃ h' tk m' nx j, s₃ = { s with heap := h', toks := tk } ∧ j ≤ n ∧ m = n + 1 - j ∧ St j h' ∧ Fr h₀ L h' m' ∧ News h₀ L h' nx ∧ (∀ p ∈ nx, p.1 ≠ I) ∧ J j m' nx := by
      rintro ⟨h₄, tk₄, m₄, nx₄, rfl, F₄, N₄, off₄, hJ₄⟩
      have N₄' : News h₀ L h₄ nx₄ := fun p hp => N₄ p (List.mem_cons_of_mem _ hp)
      have zI := (N₄ (I, oI) List.mem_cons_self).1
      exact ⟨n + 1 - (i + 1), by omega, h₄, tk₄, m₄, nx₄, i + 1, rfl, hlt, rfl, hSt _ _ _ _ _ hst₂ heI zI F₄.keep N₄' (hS _ _ _ hJ₄), F₄, N₄', off₄, hJ₄⟩
    cases f with
    | ret v => exact h₃
    | brk => exact h₃
    | next => exact fin h₃
    | cont => exact fin h₃
  · obtain rfl : i = n := Nat.le_antisymm hi (Nat.not_lt.mp hlt)
    refine W.done _ _ _ hst' fun h₂ tk₂ hk₂ => wpAny_execs_nil ?_
    exact done m' nx h₂ tk₂ hJ (LCg.fr_but F' hk₂ hIL hI₀) (LCg.news_but N' hk₂ off')

/-- a for over a list: of the base, or of the ledger -/
theorem for_list {ax : Addr} {its : Array Value} (J : Nat → (Str → Option Value) → List (Addr × Obj) → Prop)
    (hh : A.handled = none) (F : Fr h₀ L s.heap m) (N : News h₀ L s.heap news) (hS : ∀ i m nx, J i m nx → LCg.SrcAt h₀ ax its nx) (hj : J 0 m news)
    (hlet : ∀ i v, letOwnedTupleGo target (.ref i) v = pure ())
    (turn : ∀ I i v m₁ nx oI h tk, its[i]? = some v → J i m₁ nx → Fr h₀ L h m₁ → News h₀ L h ((I, oI) :: nx) → (∀ p ∈ nx, p.1 ≠ I) →
      wpAny (model prog w) A (assign target env v) (fun _ s₂ => wpAny (model prog w) A (execs body env) (LoopPost h₀ L (J (i + 1)) I oI s Q) E s₂) E { s with heap := h, toks := tk })
    (done : ∀ m₁ nx h tk, J its.size m₁ nx → Fr h₀ L h m₁ → News h₀ L h nx → Q .next { s with heap := h, toks := tk })
    (hE : PassesOwn (model prog w) A env E := by passes_own) :
    wpAny (model prog w) A (pyIter (.ref ax)) (fun it s₂ => codeAny (model prog w) A (.forLoop target it body [] env) (fun r s' => match r with | .ok f => Q f s' | .error e => cameBackBy (model prog w) A env E e s') s₂) E s := by
  have S := hS _ _ _ hj
  have hl := S.list F.keep N
  have hlt : ax < s.heap.objs.size := by obtain ⟨_, e, _⟩ := hl; exact Heap.lt_size e
  refine wpAny_pyIter_list hl ?_
  have up : ∀ b o, s.heap.get? b = some o → (s.heap.push { cls := .type "list_iterator", data := .fields #[.ref ax, .int 0 0] }).get? b = some o := fun b o e => Heap.get?_push_of_some _ e
  refine loopW (m := m) (news := news) J (Walks.list hh s.heap.objs.size ax (Nat.ne_of_lt hlt) its) (fun i h st => by obtain ⟨o, e, _⟩ := st.1; exact ⟨o, e⟩) LCg.list_st ⟨⟨_, Heap.get?_push_size _ rfl, rfl, rfl⟩, hl.push _⟩
    (F.keeps up) (N.grown up) (Nat.ne_of_lt F.ns.lt) (next_is_new F) (fun p hp => Nat.ne_of_lt (Heap.lt_size (N p hp).1)) hS hj hE (hlet _) ?_ ?_
  · intro i v m₁ nx oI h tk hi hP hJ F₁ N₁ off
    exact turn _ i v m₁ nx oI h tk hP hJ F₁ N₁ off
  · intro m₁ nx h tk hJ F₁ N₁
    exact done m₁ nx h tk hJ F₁ N₁

theorem range_st {I : Addr} {a c : Int} {n : Nat} : ∀ i (h h' : Heap) (o : Obj) (nw : List (Addr × Obj)), IsRangeIter h I (a + (i : Nat) * c) ((n : Int) - (i : Nat)) c → h.get? I = some o → h'.get? I = some o → (∀ b o, h₀.get? b = some o → h'.get? b = some o) → News h₀ L h' nw → True → IsRangeIter h' I (a + (i : Nat) * c) ((n : Int) - (i : Nat)) c :=
  fun i h h' o nw st e e' _ _ _ => by
    have st' : h.get? I = some _ := st
    show h'.get? I = some _
    rw [e', ← e]; exact st'

/-- a for over a range, by any step -/
theorem for_range {r : Addr} {a b c : Int} {t u v : Tok} {n : Nat} (J : Nat → (Str → Option Value) → List (Addr × Obj) → Prop)
    (hh : A.handled = none) (hr : IsRange s.heap r a b c t u v) (hsm : Builtin.Range.small a b c = true) (hn : Builtin.Range.rangeSize a b c = ((n : Nat) : Int)) (F : Fr h₀ L s.heap m) (N : News h₀ L s.heap news) (hj : J 0 m news)
    (hlet : ∀ i v, letOwnedTupleGo target (.ref i) v = pure ())
    (turn : ∀ I i t m₁ nx oI h tk, i < n → J i m₁ nx → Fr h₀ L h m₁ → News h₀ L h ((I, oI) :: nx) → (∀ p ∈ nx, p.1 ≠ I) →
      wpAny (model prog w) A (assign target env (.int (a + (i : Int) * c) t)) (fun _ s₂ => wpAny (model prog w) A (execs body env) (LoopPost h₀ L (J (i + 1)) I oI s Q) E s₂) E { s with heap := h, toks := tk })
    (done : ∀ m₁ nx h tk, J n m₁ nx → Fr h₀ L h m₁ → News h₀ L h nx → Q .next { s with heap := h, toks := tk })
    (hE : PassesOwn (model prog w) A env E := by passes_own) :
    wpAny (model prog w) A (pyIter (.ref r)) (fun it s₂ => codeAny (model prog w) A (.forLoop target it body [] env) (fun r s' => match r with | .ok f => Q f s' | .error e => cameBackBy (model prog w) A env E e s') s₂) E s := by
  refine wpAny_pyIter_range hr hsm ?_
  refine loopW (m := m) (news := news) (S := fun _ => True) J (Walks.range hh s.heap.objs.size a c n) (fun i h st => ⟨_, st⟩) range_st (by show IsRangeIter _ _ _ _ _; rw [hn]; simpa using Heap.get?_push_size _ rfl)
    (F.keeps fun _ _ e => Heap.get?_push_of_some _ e) (N.grown fun _ _ e => Heap.get?_push_of_some _ e) (Nat.ne_of_lt F.ns.lt) (next_is_new F) (fun p hp => Nat.ne_of_lt (Heap.lt_size (N p hp).1)) (fun _ _ _ _ => trivial) hj hE (hlet _) ?_ ?_
  · rintro i v m₁ nx oI h tk hi ⟨t, rfl⟩ hJ F₁ N₁ off
    exact turn _ i t m₁ nx oI h tk hi hJ F₁ N₁ off
  · intro m₁ nx h tk hJ F₁ N₁
    exact done m₁ nx h tk hJ F₁ N₁
end

section
variable {prog : Program} {w : World} {A : Around} {h₀ : Heap} {L : Addr} {m : Str → Option Value} {env : Env} {ct elt : Expr} {x : Str} {scope : Scope} {cl : List (Str × Addr)} {s : Shared} {S : List (Addr × Obj) → Prop} {P : Nat → Value → Prop} {Fin : List Value → List (Addr × Obj) → Prop} {news : List (Addr × Obj)}
/-- a list comprehension by a word over its turns -/
theorem comp_rest {n : Nat} (J : Nat → List Value → List (Addr × Obj) → Prop) (hj : J 0 [] news)
    (turn : ∀ i v ys nx I oI C oC D m₂ h tk (E' : Value → Shared → Prop), i < n → P i v → J i ys nx → LCg.NsObj oC m₂ → m₂ x = some v → Fr h₀ L h m → News h₀ L h ((I, oI) :: (C, oC) :: (D, LCg.lst ys) :: nx) → LCg.Off3 I C D nx → ((@Ne Nat I C) ∧ (@Ne Nat I D) ∧ (@Ne Nat C D)) →
      wpAny (model prog w) A (eval elt (compEnvC scope cl C env)) (LCg.CompEnd h₀ L m { s with heap := h, toks := tk } I oI C oC D (LCg.lst ys) S (fun y nx' => J (i + 1) (ys ++ [y]) nx')) E' { s with heap := h, toks := tk })
    (fin : ∀ ys nx, J n ys nx → Fin ys nx) : LCg.CompRest prog w A h₀ L m env elt x scope cl s S P Fin n 0 [] news := by
  have key : ∀ (j i : Nat) (ys : List Value) (nx : List (Addr × Obj)), i + j = n → J i ys nx → LCg.CompRest prog w A h₀ L m env elt x scope cl s S P Fin j i ys nx := by
    intro j
    induction j with
    | zero =>
      intro i ys nx hi hy
      have e : i = n := by omega
      subst e
      exact LCg.CompRest.zero (fin ys nx hy)
    | succ j ih =>
      intro i ys nx hi hy
      refine LCg.CompRest.succ ?_
      intro v I oI C oC D m₂ h tk E' hv hC hx F N off ne
      refine wpAny_mono (turn i v ys nx I oI C oC D m₂ h tk E' (by omega) hv hy hC hx F N off ne) (fun y s₂ hq => ?_) fun _ _ e => e
      obtain ⟨h', tk', nw, e, F', N', off', hS, hr⟩ := hq
      exact ⟨h', tk', nw, e, F', N', off', hS, ih (i + 1) _ _ (by omega) hr⟩
  exact key n 0 [] news (by omega) hj

theorem comp_restT {n : Nat} (J : Nat → List Value → List (Addr × Obj) → Prop) (hj : J 0 [] news)
    (turn : ∀ i v ys nx I oI C oC D m₂ h tk (E' : Value → Shared → Prop), i < n → P i v → J i ys nx → LCg.NsObj oC m₂ → m₂ x = some v → Fr h₀ L h m → News h₀ L h ((I, oI) :: (C, oC) :: (D, LCg.lst ys) :: nx) → LCg.Off3 I C D nx → ((@Ne Nat I C) ∧ (@Ne Nat I D) ∧ (@Ne Nat C D)) →
      wpAny (model prog w) A (isTrue ct (compEnvC scope cl C env) (eval ct (compEnvC scope cl C env))) (fun ok s' => if ok = true then
        wpAny (model prog w) A (eval elt (compEnvC scope cl C env)) (LCg.CompEnd h₀ L m { s with heap := h, toks := tk } I oI C oC D (LCg.lst ys) S (fun y nx' => J (i + 1) (ys ++ [y]) nx')) E' s'
        else LCg.CompEnd h₀ L m { s with heap := h, toks := tk } I oI C oC D (LCg.lst ys) S (fun _ nx' => J (i + 1) ys nx') Value.none s') E' { s with heap := h, toks := tk })
    (fin : ∀ ys nx, J n ys nx → Fin ys nx) : LCt.CompRestT prog w A h₀ L m env ct elt x scope cl s S P Fin n 0 [] news := by
  have key : ∀ (j i : Nat) (ys : List Value) (nx : List (Addr × Obj)), i + j = n → J i ys nx → LCt.CompRestT prog w A h₀ L m env ct elt x scope cl s S P Fin j i ys nx := by
    intro j
    induction j with
    | zero =>
      intro i ys nx hi hy
      have e : i = n := by omega
      subst e
      exact LCt.CompRestT.zero (fin ys nx hy)
    | succ j ih =>
      intro i ys nx hi hy
      refine LCt.CompRestT.succ ?_
      intro v I oI C oC D m₂ h tk E' hv hC hx F N off ne
      have up : ∀ {y : Value} {ys' : List Value} {nx' : List (Addr × Obj)}, J (i + 1) ys' nx' → LCt.CompRestT prog w A h₀ L m env ct elt x scope cl s S P Fin j (i + 1) ys' nx' := fun hr => ih (i + 1) _ _ (by omega) hr
      refine wpAny_mono (turn i v ys nx I oI C oC D m₂ h tk E' (by omega) hv hy hC hx F N off ne) (fun ok s₂ hq => ?_) fun _ _ e => e
      cases ok with
      | true =>
        simp only [if_true] at hq ⊢
        refine wpAny_mono hq (fun y s₃ hq => ?_) fun _ _ e => e
        obtain ⟨h', tk', nw, e, F', N', off', hS, hr⟩ := hq
        exact ⟨h', tk', nw, e, F', N', off', hS, up (y := y) hr⟩
      | false =>
        simp only [Bool.false_eq_true, if_false] at hq ⊢
        obtain ⟨h', tk', nw, e, F', N', off', hS, hr⟩ := hq
        exact ⟨h', tk', nw, e, F', N', off', hS, up (y := v) hr⟩
  exact key n 0 [] news (by omega) hj
end

/-- what stands between the turns: names that are told, names that may be anything, the rest as it was -/
def Between (x : Str) (stored : List Str) (m₀ : Str → Option Value) (J : List (Str × Value) → List (Addr × Obj) → Prop) (m : Str → Option Value) (nx : List (Addr × Obj)) : Prop :=
  ∃ ps, (∀ p ∈ ps, m p.1 = some p.2) ∧ (∀ z, z ≠ x → (∀ p ∈ ps, z ≠ p.1) → stored.contains z = false → m z = m₀ z) ∧ J ps nx

section
variable {prog : Program} {w : World} {A : Around} {E : Value → Shared → Prop} {s : Shared} {h₀ : Heap} {m : Str → Option Value} {env : Env} {news : List (Addr × Obj)} {Q : Flow → Shared → Prop} {x : Str} {px : Pos} {body : List Stmt}
theorem letName (it v : Value) : letOwnedTupleGo (.Name x px) it v = pure () := rfl
/-- for x in LIST, x a local -/
theorem for_listK {ax : Addr} {its : Array Value} (stored : List Str) (J : Nat → List (Str × Value) → List (Addr × Obj) → Prop) (ps₀ : List (Str × Value))
    (hh : A.handled = none) (F : Fr h₀ env.locals s.heap m) (N : News h₀ env.locals s.heap news) (hS : ∀ i ps nx, J i ps nx → LCg.SrcAt h₀ ax its nx) (hp₀ : ∀ p ∈ ps₀, m p.1 = some p.2) (hj : J 0 ps₀ news)
    (hx : env.kindOf x = some .local) (hp : (env.scope.kind == .class || (env.scope.kind == .module && env.locals != env.globals)) = false)
    (turn : ∀ I i v ps nx oI h tk (u : Str → Option Value), its[i]? = some v → J i ps nx → Fr h₀ env.locals h (fun y => if y = x then some v else kstB (fun z => if stored.contains z then u z else m z) ps y) → News h₀ env.locals h ((I, oI) :: nx) → (∀ p ∈ nx, p.1 ≠ I) →
      wpAny (model prog w) A (execs body env) (LoopPost h₀ env.locals (Between x stored m (J (i + 1))) I oI s Q) E { s with heap := h, toks := tk })
    (done : ∀ ps nx h tk (u : Str → Option Value), J its.size ps nx → Fr h₀ env.locals h (fun y => if y = x then u y else kstB (fun z => if stored.contains z then u z else m z) ps y) → News h₀ env.locals h nx → Q .next { s with heap := h, toks := tk })
    (hE : PassesOwn (model prog w) A env E := by passes_own) :
    wpAny (model prog w) A (pyIter (.ref ax)) (fun it s₂ => codeAny (model prog w) A (.forLoop (.Name x px) it body [] env) (fun r s' => match r with | .ok f => Q f s' | .error e => cameBackBy (model prog w) A env E e s') s₂) E s := by
  refine for_list (fun i m' nx => Between x stored m (J i) m' nx) hh F N (fun i m' nx ⟨ps, _, _, h⟩ => hS i ps nx h) ⟨ps₀, hp₀, fun _ _ _ _ => rfl, hj⟩ (fun _ v => letName _ v) ?_ ?_ hE
  · rintro I i v m₁ nx oI h tk hi ⟨ps, h1, h2, hJ⟩ F₁ N₁ off
    refine wpAny_assign_Name (wpAny_storeName_local hx F₁.ns (fun h₂ hn₂ hs₂ => ?_) hp)
    have F₂ := F₁.set hn₂ hs₂
    have N₂ := N₁.set hs₂
    exact turn I i v ps nx oI h₂ _ m₁ hi hJ (kst_fr h1 h2 F₂) N₂ off
  · rintro m₁ nx h tk ⟨ps, h1, h2, hJ⟩ F₁ N₁
    exact done ps nx h tk m₁ hJ (kst_frOut h1 h2 F₁) N₁

/-- for x in RANGE, x a local -/
theorem for_rangeK {r : Addr} {a b c : Int} {t₀ u₀ v₀ : Tok} {n : Nat} (stored : List Str) (J : Nat → List (Str × Value) → List (Addr × Obj) → Prop) (ps₀ : List (Str × Value))
    (hh : A.handled = none) (hr : IsRange s.heap r a b c t₀ u₀ v₀) (hsm : Builtin.Range.small a b c = true) (hn : Builtin.Range.rangeSize a b c = ((n : Nat) : Int)) (F : Fr h₀ env.locals s.heap m) (N : News h₀ env.locals s.heap news) (hp₀ : ∀ p ∈ ps₀, m p.1 = some p.2) (hj : J 0 ps₀ news)
    (hx : env.kindOf x = some .local) (hp : (env.scope.kind == .class || (env.scope.kind == .module && env.locals != env.globals)) = false)
    (turn : ∀ I i t ps nx oI h tk (u : Str → Option Value), i < n → J i ps nx → Fr h₀ env.locals h (fun y => if y = x then some (.int (a + (i : Int) * c) t) else kstB (fun z => if stored.contains z then u z else m z) ps y) → News h₀ env.locals h ((I, oI) :: nx) → (∀ p ∈ nx, p.1 ≠ I) →
      wpAny (model prog w) A (execs body env) (LoopPost h₀ env.locals (Between x stored m (J (i + 1))) I oI s Q) E { s with heap := h, toks := tk })
    (done : ∀ ps nx h tk (u : Str → Option Value), J n ps nx → Fr h₀ env.locals h (fun y => if y = x then u y else kstB (fun z => if stored.contains z then u z else m z) ps y) → News h₀ env.locals h nx → Q .next { s with heap := h, toks := tk })
    (hE : PassesOwn (model prog w) A env E := by passes_own) :
    wpAny (model prog w) A (pyIter (.ref r)) (fun it s₂ => codeAny (model prog w) A (.forLoop (.Name x px) it body [] env) (fun r s' => match r with | .ok f => Q f s' | .error e => cameBackBy (model prog w) A env E e s') s₂) E s := by
  refine for_range (fun i m' nx => Between x stored m (J i) m' nx) hh hr hsm hn F N ⟨ps₀, hp₀, fun _ _ _ _ => rfl, hj⟩ (fun _ v => letName _ v) ?_ ?_ hE
  · rintro I i t m₁ nx oI h tk hi ⟨ps, h1, h2, hJ⟩ F₁ N₁ off
    refine wpAny_assign_Name (wpAny_storeName_local hx F₁.ns (fun h₂ hn₂ hs₂ => ?_) hp)
    have F₂ := F₁.set hn₂ hs₂
    have N₂ := N₁.set hs₂
    exact turn I i t ps nx oI h₂ _ m₁ hi hJ (kst_fr h1 h2 F₂) N₂ off
  · rintro m₁ nx h tk ⟨ps, h1, h2, hJ⟩ F₁ N₁
    exact done ps nx h tk m₁ hJ (kst_frOut h1 h2 F₁) N₁
/-- a turn's end -/
theorem LoopEnd.intro {L I : Addr} {oI : Obj} {J : (Str → Option Value) → List (Addr × Obj) → Prop} {h' : Heap} {tk : Nat} {m' : Str → Option Value} {all nx : List (Addr × Obj)} (F : Fr h₀ L h' m') (N : News h₀ L h' all) (sub : ∀ p ∈ (I, oI) :: nx, p ∈ all) (off : ∀ p ∈ nx, p.1 ≠ I) (hJ : J m' nx) :
    LoopEnd h₀ L J I oI s { s with heap := h', toks := tk } := ⟨h', tk, m', nx, rfl, F, fun p hp => N p (sub p hp), off, hJ⟩

/-- the same where the turns make nothing that stays -/
theorem for_listP {ax : Addr} {its : Array Value} (stored : List Str) (J : Nat → List (Str × Value) → Prop) (ps₀ : List (Str × Value))
    (hh : A.handled = none) (F : Fr h₀ env.locals s.heap m) (N : News h₀ env.locals s.heap news) (hS : LCg.SrcAt h₀ ax its news) (hp₀ : ∀ p ∈ ps₀, m p.1 = some p.2) (hj : J 0 ps₀)
    (hx : env.kindOf x = some .local) (hp : (env.scope.kind == .class || (env.scope.kind == .module && env.locals != env.globals)) = false)
    (turn : ∀ I i v ps oI h tk (u : Str → Option Value), its[i]? = some v → J i ps → Fr h₀ env.locals h (fun y => if y = x then some v else kstB (fun z => if stored.contains z then u z else m z) ps y) → News h₀ env.locals h ((I, oI) :: news) → (∀ p ∈ news, p.1 ≠ I) →
      wpAny (model prog w) A (execs body env) (LoopPost h₀ env.locals (Between x stored m (fun ps nx => nx = news ∧ J (i + 1) ps)) I oI s Q) E { s with heap := h, toks := tk })
    (done : ∀ ps h tk (u : Str → Option Value), J its.size ps → Fr h₀ env.locals h (fun y => if y = x then u y else kstB (fun z => if stored.contains z then u z else m z) ps y) → News h₀ env.locals h news → Q .next { s with heap := h, toks := tk })
    (hE : PassesOwn (model prog w) A env E := by passes_own) :
    wpAny (model prog w) A (pyIter (.ref ax)) (fun it s₂ => codeAny (model prog w) A (.forLoop (.Name x px) it body [] env) (fun r s' => match r with | .ok f => Q f s' | .error e => cameBackBy (model prog w) A env E e s') s₂) E s := by
  refine for_listK stored (fun i ps nx => nx = news ∧ J i ps) ps₀ hh F N (fun _ _ _ h => h.1 ▸ hS) hp₀ ⟨rfl, hj⟩ hx hp ?_ ?_ hE
  · rintro I i v ps nx oI h tk u hi ⟨rfl, hJ⟩ F₁ N₁ off
    exact turn I i v ps oI h tk u hi hJ F₁ N₁ off
  · rintro ps nx h tk u ⟨rfl, hJ⟩ F₁ N₁
    exact done ps h tk u hJ F₁ N₁
theorem LoopEnd.same {L I : Addr} {oI : Obj} {stored : List Str} {m₀ : Str → Option Value} {J : List (Str × Value) → Prop} {h' : Heap} {tk : Nat} {m' : Str → Option Value} {all : List (Addr × Obj)} (ps : List (Str × Value)) (F : Fr h₀ L h' m') (N : News h₀ L h' all) (sub : ∀ p ∈ (I, oI) :: news, p ∈ all) (off : ∀ p ∈ news, p.1 ≠ I)
    (h1 : ∀ p ∈ ps, m' p.1 = some p.2) (h2 : ∀ z, z ≠ x → (∀ p ∈ ps, z ≠ p.1) → stored.contains z = false → m' z = m₀ z) (hJ : J ps) :
    LoopEnd h₀ L (Between x stored m₀ (fun ps nx => nx = news ∧ J ps)) I oI s { s with heap := h', toks := tk } := .intro F N sub off ⟨ps, h1, h2, rfl, hJ⟩
end
end Mine
namespace Mine
/-- the end of a comprehension's turn that makes nothing that stays -/
def CompK (h₀ : Heap) (L : Addr) (m : Str → Option Value) (s : Shared) (all : List (Addr × Obj)) (J : Value → Prop) (y : Value) (s₂ : Shared) : Prop :=
  ∃ h' tk, s₂ = { s with heap := h', toks := tk } ∧ Fr h₀ L h' m ∧ News h₀ L h' all ∧ J y
theorem CompK.intro {h₀ : Heap} {L : Addr} {m : Str → Option Value} {s : Shared} {all all' : List (Addr × Obj)} {J : Value → Prop} {y : Value} {h' : Heap} {tk : Nat} (F : Fr h₀ L h' m) (N : News h₀ L h' all') (sub : ∀ p ∈ all, p ∈ all') (j : J y) :
    CompK h₀ L m s all J y { s with heap := h', toks := tk } := ⟨h', tk, rfl, F, fun p hp => N p (sub p hp), j⟩
section
variable {prog : Program} {w : World} {A : Around} {h₀ : Heap} {L : Addr} {m : Str → Option Value} {env : Env} {ct elt : Expr} {x : Str} {scope : Scope} {cl : List (Str × Addr)} {s : Shared} {S : List (Addr × Obj) → Prop} {P : Nat → Value → Prop} {Fin : List Value → List (Addr × Obj) → Prop} {news : List (Addr × Obj)}
theorem comp_keep {n : Nat} (J : Nat → List Value → Prop) (hj : J 0 []) (hS : S news)
    (turn : ∀ i v ys I oI C oC D m₂ h tk (E' : Value → Shared → Prop), i < n → P i v → J i ys → LCg.NsObj oC m₂ → m₂ x = some v → Fr h₀ L h m → News h₀ L h ((I, oI) :: (C, oC) :: (D, LCg.lst ys) :: news) → LCg.Off3 I C D news → ((@Ne Nat I C) ∧ (@Ne Nat I D) ∧ (@Ne Nat C D)) →
      wpAny (model prog w) A (eval elt (compEnvC scope cl C env)) (CompK h₀ L m { s with heap := h, toks := tk } ((I, oI) :: (C, oC) :: (D, LCg.lst ys) :: news) (fun y => J (i + 1) (ys ++ [y]))) E' { s with heap := h, toks := tk })
    (fin : ∀ ys, J n ys → Fin ys news) : LCg.CompRest prog w A h₀ L m env elt x scope cl s S P Fin n 0 [] news := by
  refine comp_rest (fun i ys nx => J i ys ∧ nx = news) ⟨hj, rfl⟩ ?_ fun ys nx ⟨h, e⟩ => e ▸ fin ys h
  rintro i v ys nx I oI C oC D m₂ h tk E' hi hv ⟨hJ, rfl⟩ hC hx F N off ne
  refine wpAny_mono (turn i v ys I oI C oC D m₂ h tk E' hi hv hJ hC hx F N off ne) (fun y s₂ hq => ?_) fun _ _ e => e
  obtain ⟨h', tk', e, F', N', j⟩ := hq
  exact ⟨h', tk', nx, e, F', N', off, hS, j, rfl⟩
theorem comp_keepT {n : Nat} (J : Nat → List Value → Prop) (hj : J 0 []) (hS : S news)
    (turn : ∀ i v ys I oI C oC D m₂ h tk (E' : Value → Shared → Prop), i < n → P i v → J i ys → LCg.NsObj oC m₂ → m₂ x = some v → Fr h₀ L h m → News h₀ L h ((I, oI) :: (C, oC) :: (D, LCg.lst ys) :: news) → LCg.Off3 I C D news → ((@Ne Nat I C) ∧ (@Ne Nat I D) ∧ (@Ne Nat C D)) →
      wpAny (model prog w) A (isTrue ct (compEnvC scope cl C env) (eval ct (compEnvC scope cl C env))) (fun ok s' => if ok = true then
        wpAny (model prog w) A (eval elt (compEnvC scope cl C env)) (CompK h₀ L m { s with heap := h, toks := tk } ((I, oI) :: (C, oC) :: (D, LCg.lst ys) :: news) (fun y => J (i + 1) (ys ++ [y]))) E' s'
        else CompK h₀ L m { s with heap := h, toks := tk } ((I, oI) :: (C, oC) :: (D, LCg.lst ys) :: news) (fun _ => J (i + 1) ys) Value.none s') E' { s with heap := h, toks := tk })
    (fin : ∀ ys, J n ys → Fin ys news) : LCt.CompRestT prog w A h₀ L m env ct elt x scope cl s S P Fin n 0 [] news := by
  refine comp_restT (fun i ys nx => J i ys ∧ nx = news) ⟨hj, rfl⟩ ?_ fun ys nx ⟨h, e⟩ => e ▸ fin ys h
  rintro i v ys nx I oI C oC D m₂ h tk E' hi hv ⟨hJ, rfl⟩ hC hx F N off ne
  refine wpAny_mono (turn i v ys I oI C oC D m₂ h tk E' hi hv hJ hC hx F N off ne) (fun ok s₂ hq => ?_) fun _ _ e => e
  cases ok with
  | true =>
    simp only [if_true] at hq ⊢
    refine wpAny_mono hq (fun y s₃ hq => ?_) fun _ _ e => e
    obtain ⟨h', tk', e, F', N', j⟩ := hq
    exact ⟨h', tk', nx, e, F', N', off, hS, j, rfl⟩
  | false =>
    simp only [Bool.false_eq_true, if_false] at hq ⊢
    obtain ⟨h', tk', e, F', N', j⟩ := hq
    exact ⟨h', tk', nx, e, F', N', off, hS, j, rfl⟩
end
theorem ints_turn {ys : List Value} {ns : List Int} (hI : IntsAre ys ns) : ∀ {i : Nat} {v : Value}, ys[i]? = some v → ∃ k t, ns[i]? = some k ∧ v = .int k t := by
  induction hI with
  | nil => intro i v h; simp at h
  | cons n t _ ih =>
    intro i v h
    cases i with
    | zero => simp at h; subst h; exact ⟨n, t, rfl, rfl⟩
    | succ i =>
      obtain ⟨k, t', h1, h2⟩ := ih (i := i) (v := v) (by simpa using h)
      exact ⟨k, t', by simpa using h1, h2⟩
theorem ints_len {ys : List Value} {ns : List Int} (hI : IntsAre ys ns) : ys.length = ns.length := by
  induction hI with
  | nil => rfl
  | cons n t _ ih => simp [ih]
end Mine
namespace Mine
section
variable {prog : Program} {w : World} {A : Around} {E : Value → Shared → Prop} {s : Shared} {h₀ : Heap} {L : Addr} {m : Str → Option Value} {env : Env} {news : List (Addr × Obj)} {Q : Flow → Shared → Prop} {target : Expr} {body : List Stmt}
theorem loopP {I : Addr} {fp : List Addr} {n : Nat} {P : Nat → Value → Prop} {St : Nat → Heap → Prop} {S : List (Addr × Obj) → Prop} (J : Nat → (Str → Option Value) → List (Addr × Obj) → Prop)
    (W : Walks prog w A I fp [I] n P St) (hIo : ∀ i h, St i h → ∃ o, h.get? I = some o)
    (hSt : ∀ i h h' o nw, St i h → h.get? I = some o → h'.get? I = some o → (∀ b o, h₀.get? b = some o → h'.get? b = some o) → News h₀ L h' nw → S nw → St i h')
    (hst : St 0 s.heap) (F : Fr h₀ L s.heap m) (N : News h₀ L s.heap news) (hIL : L ≠ I) (hI₀ : h₀.get? I = none) (off : ∀ p ∈ news, p.1 ≠ I) (hS : ∀ i m nx, J i m nx → S nx) (hj : J 0 m news)
    (hE : PassesOwn (model prog w) A env E) (hgo : ∀ i v (s : Shared) (Q : Unit → Shared → Prop) (E : Value → Shared → Prop), P i v → St (i + 1) s.heap → Q () s → wpAny (model prog w) A (letOwnedTupleGo target (.ref I) v) Q E s)
    (turn : ∀ i v m₁ nx oI h tk, i < n → P i v → J i m₁ nx → Fr h₀ L h m₁ → News h₀ L h ((I, oI) :: nx) → (∀ p ∈ nx, p.1 ≠ I) →
      wpAny (model prog w) A (assign target env v) (fun _ s₂ => wpAny (model prog w) A (execs body env) (LoopPost h₀ L (J (i + 1)) I oI s Q) E s₂) E { s with heap := h, toks := tk })
    (done : ∀ m₁ nx h tk, J n m₁ nx → Fr h₀ L h m₁ → News h₀ L h nx → Q .next { s with heap := h, toks := tk }) :
    codeAny (model prog w) A (.forLoop target (.ref I) body [] env) (fun r s' => match r with | .ok f => Q f s' | .error e => cameBackBy (model prog w) A env E e s') s := by
  refine codeAny_forLoop_any
    (fun k s' => ∃ h' tk m' nx i, s' = { s with heap := h', toks := tk } ∧ i ≤ n ∧ k = n + 1 - i ∧ St i h' ∧ Fr h₀ L h' m' ∧ News h₀ L h' nx ∧ (∀ p ∈ nx, p.1 ≠ I) ∧ J i m' nx) ?_ (n + 1)
    ⟨s.heap, s.toks, m, news, 0, rfl, Nat.zero_le _, rfl, hst, F, N, off, hj⟩
  rintro k s' ⟨h', tk, m', nx, i, rfl, hi, rfl, hst', F', N', off', hJ⟩
  by_cases hlt : i < n
  · refine W.item i _ _ _ hlt hst' fun v h₂ tk₂ hPv hst₂ hk₂ => ?_
    have F₂ : Fr h₀ L h₂ m' := LCg.fr_but F' hk₂ hIL hI₀
    have N₂ : News h₀ L h₂ nx := LCg.news_but N' hk₂ off'
    obtain ⟨oI, heI⟩ := hIo _ _ hst₂
    have N₃ : News h₀ L h₂ ((I, oI) :: nx) := fun p hp => by
      rcases List.mem_cons.mp hp with rfl | hp
      · exact ⟨heI, Ne.symm hIL, hI₀⟩
      · exact N₂ p hp
    refine hgo i v _ _ _ hPv hst₂ ?_
    refine wpAny_passesOwn hE (wpAny_mono (turn i v m' nx oI h₂ tk₂ hlt hPv hJ F₂ N₃ off') (fun _ s₂ h => ?_) fun _ _ e => e)
    refine wpAny_passesOwn hE (wpAny_mono h (fun f s₃ h₃ => ?_) fun _ _ e => e)
    have fin : LoopEnd h₀ L (J (i + 1)) I oI s s₃ → ∃ m, m < n + 1 - i ∧ ∃ h' tk m' nx j, s₃ = { s with heap := h', toks := tk } ∧ j ≤ n ∧ m = n + 1 - j ∧ St j h' ∧ Fr h₀ L h' m' ∧ News h₀ L h' nx ∧ (∀ p ∈ nx, p.1 ≠ I) ∧ J j m' nx := by
      rintro ⟨h₄, tk₄, m₄, nx₄, rfl, F₄, N₄, off₄, hJ₄⟩
      have N₄' : News h₀ L h₄ nx₄ := fun p hp => N₄ p (List.mem_cons_of_mem _ hp)
      have zI := (N₄ (I, oI) List.mem_cons_self).1
      exact ⟨n + 1 - (i + 1), by omega, h₄, tk₄, m₄, nx₄, i + 1, rfl, hlt, rfl, hSt _ _ _ _ _ hst₂ heI zI F₄.keep N₄' (hS _ _ _ hJ₄), F₄, N₄', off₄, hJ₄⟩
    cases f with
    | ret v => exact h₃
    | brk => exact h₃
    | next => exact fin h₃
    | cont => exact fin h₃
  · obtain rfl : i = n := Nat.le_antisymm hi (Nat.not_lt.mp hlt)
    refine W.done _ _ _ hst' fun h₂ tk₂ hk₂ => wpAny_execs_nil ?_
    exact done m' nx h₂ tk₂ hJ (LCg.fr_but F' hk₂ hIL hI₀) (LCg.news_but N' hk₂ off')

/-- a for over a list: of the base, or of the ledger -/
theorem for_listT {ax : Addr} {its : Array Value} (J : Nat → (Str → Option Value) → List (Addr × Obj) → Prop)
    (hh : A.handled = none) (F : Fr h₀ L s.heap m) (N : News h₀ L s.heap news) (hS : ∀ i m nx, J i m nx → LCg.SrcAt h₀ ax its nx) (hj : J 0 m news)
    (hgo : ∀ I i v (s : Shared) (Q : Unit → Shared → Prop) (E : Value → Shared → Prop), its[i]? = some v → s.heap.IsListIter I ax (i + 1) → Q () s → wpAny (model prog w) A (letOwnedTupleGo target (.ref I) v) Q E s)
    (turn : ∀ I i v m₁ nx oI h tk, its[i]? = some v → J i m₁ nx → Fr h₀ L h m₁ → News h₀ L h ((I, oI) :: nx) → (∀ p ∈ nx, p.1 ≠ I) →
      wpAny (model prog w) A (assign target env v) (fun _ s₂ => wpAny (model prog w) A (execs body env) (LoopPost h₀ L (J (i + 1)) I oI s Q) E s₂) E { s with heap := h, toks := tk })
    (done : ∀ m₁ nx h tk, J its.size m₁ nx → Fr h₀ L h m₁ → News h₀ L h nx → Q .next { s with heap := h, toks := tk })
    (hE : PassesOwn (model prog w) A env E := by passes_own) :
    wpAny (model prog w) A (pyIter (.ref ax)) (fun it s₂ => codeAny (model prog w) A (.forLoop target it body [] env) (fun r s' => match r with | .ok f => Q f s' | .error e => cameBackBy (model prog w) A env E e s') s₂) E s := by
  have S := hS _ _ _ hj
  have hl := S.list F.keep N
  have hlt : ax < s.heap.objs.size := by obtain ⟨_, e, _⟩ := hl; exact Heap.lt_size e
  refine wpAny_pyIter_list hl ?_
  have up : ∀ b o, s.heap.get? b = some o → (s.heap.push { cls := .type "list_iterator", data := .fields #[.ref ax, .int 0 0] }).get? b = some o := fun b o e => Heap.get?_push_of_some _ e
  refine loopP (m := m) (news := news) J (Walks.list hh s.heap.objs.size ax (Nat.ne_of_lt hlt) its) (fun i h st => by obtain ⟨o, e, _⟩ := st.1; exact ⟨o, e⟩) LCg.list_st ⟨⟨_, Heap.get?_push_size _ rfl, rfl, rfl⟩, hl.push _⟩
    (F.keeps up) (N.grown up) (Nat.ne_of_lt F.ns.lt) (next_is_new F) (fun p hp => Nat.ne_of_lt (Heap.lt_size (N p hp).1)) hS hj hE (fun i v s Q E hp st hq => hgo _ i v s Q E hp st.1 hq) ?_ ?_
  · intro i v m₁ nx oI h tk hi hP hJ F₁ N₁ off
    exact turn _ i v m₁ nx oI h tk hP hJ F₁ N₁ off
  · intro m₁ nx h tk hJ F₁ N₁
    exact done m₁ nx h tk hJ F₁ N₁

end
/-- a ledger with another object at C -/
def put (C : Addr) (o : Obj) (nx : List (Addr × Obj)) : List (Addr × Obj) := (C, o) :: nx.filter (fun p => decide (p.1 ≠ C))
theorem put_self {C : Addr} {o : Obj} {nx : List (Addr × Obj)} : (C, o) ∈ put C o nx := List.mem_cons_self
theorem put_mem {C : Addr} {o : Obj} {nx : List (Addr × Obj)} {p : Addr × Obj} (hp : p ∈ nx) (hn : p.1 ≠ C) : p ∈ put C o nx := List.mem_cons_of_mem _ (List.mem_filter.mpr ⟨hp, by simpa using hn⟩)
theorem put_of {C : Addr} {o : Obj} {nx : List (Addr × Obj)} {p : Addr × Obj} (hp : p ∈ put C o nx) : p = (C, o) ∨ (p ∈ nx ∧ p.1 ≠ C) := by
  rcases List.mem_cons.mp hp with rfl | hp
  · exact .inl rfl
  · obtain ⟨h1, h2⟩ := List.mem_filter.mp hp
    exact .inr ⟨h1, by simpa using h2⟩
section
variable {h₀ h h' : Heap} {L C : Addr} {m : Str → Option Value} {nx : List (Addr × Obj)} {o oC oF : Obj}
theorem put_news (N : News h₀ L h nx) (hC : (C, oC) ∈ nx) (hs : Heap.SameBut C h h') (ho : h'.get? C = some oF) : News h₀ L h' (put C oF nx) := fun p hp => by
  rcases put_of hp with rfl | ⟨hp, hn⟩
  · exact ⟨ho, (N _ hC).2⟩
  · exact ⟨(hs.2 _ hn).trans (N p hp).1, (N p hp).2⟩
theorem ne_cell {a : Addr} {v : Option Value} (N : News h₀ L h nx) (hm : (a, o) ∈ nx) (hC : (C, oC) ∈ nx) (hd : oC.data = .cell v) (hn : ∀ v, o.data ≠ .cell v) : a ≠ C := by
  rintro rfl
  have e := (N _ hm).1.symm.trans (N _ hC).1
  cases e
  exact hn _ hd
end
section
variable {prog : Program} {w : World} {A : Around} {E : Value → Shared → Prop} {s : Shared} {h₀ : Heap} {m : Str → Option Value} {env : Env} {nx : List (Addr × Obj)} {C : Addr} {oC : Obj} {v₀ : Option Value}
theorem store_cell {y : Str} {b : Value} {Q : Unit → Shared → Prop} (F : Fr h₀ env.locals s.heap m) (N : News h₀ env.locals s.heap nx) (hC : (C, oC) ∈ nx) (hd : oC.data = .cell v₀) (hk : env.scope.kind = .function) (hy : env.kindOf y = some .cell) (hc : env.cells.lookup y = some C)
    (h : ∀ h' oF, oF.data = .cell (some b) → Fr h₀ env.locals h' m → News h₀ env.locals h' (put C oF nx) → Q () { s with heap := h' }) : wpAny (model prog w) A (storeName env y b) Q E s := by
  refine wpAny_storeName_cell hk hy hc ⟨_, (N _ hC).1, hd⟩ fun h' hq hs => ?_
  obtain ⟨oF, ho, hoF⟩ := hq
  exact h h' oF hoF (F.change hs (N _ hC).2.1 (N _ hC).2.2) (put_news N hC hs ho)
theorem assign_pair {x y : Str} {px py pos : Pos} {c1 : Nat} {T : Addr} {a b : Value} {k : Nat} {Q : Unit → Shared → Prop} (hh : A.handled = none) (F : Fr h₀ env.locals s.heap m) (N : News h₀ env.locals s.heap nx)
    (hT : (T, ({ cls := .type "tuple", data := .seq #[a, b] k } : Obj)) ∈ nx) (hC : (C, oC) ∈ nx) (hd : oC.data = .cell v₀) (hk : env.scope.kind = .function)
    (hx : env.kindOf x = some .local) (hp : (env.scope.kind == .class || (env.scope.kind == .module && env.locals != env.globals)) = false) (hy : env.kindOf y = some .cell) (hc : env.cells.lookup y = some C)
    (h : ∀ h' tk oF, oF.data = .cell (some b) → Fr h₀ env.locals h' (fun z => if z = x then some a else m z) → News h₀ env.locals h' (put C oF nx) → Q () { s with heap := h', toks := tk }) :
    wpAny (model prog w) A (assign (.Tuple [.Name x px, .Name y py] c1 pos) env (.ref T)) Q E s := by
  refine assign_Tuple_tuple hh ⟨_, (N _ hT).1, rfl, _, rfl⟩ rfl rfl fun h₁ hs₁ => ?_
  have F₁ : Fr h₀ env.locals h₁ m := F.keeps fun b o e => hs₁ b o (Nat.ne_of_lt (Heap.lt_size e)) e
  have N₁ : News h₀ env.locals h₁ nx := N.grown fun b o e => hs₁ b o (Nat.ne_of_lt (Heap.lt_size e)) e
  show wpAny _ _ (assignInOrder [assign (.Name x px) env, assign (.Name y py) env] [a, b]) _ _ _
  refine assignInOrder_cons (wpAny_assign_Name (wpAny_storeName_local hx F₁.ns (fun h₂ hn₂ hs₂ => ?_) hp))
  have F₂ := F₁.set hn₂ hs₂
  have N₂ := N₁.set hs₂
  refine assignInOrder_cons (wpAny_assign_Name (store_cell F₂ N₂ hC hd hk hy hc fun h₃ oF ho F₃ N₃ => ?_))
  exact assignInOrder_nil (h h₃ _ oF ho F₃ N₃)
/-- for x, y in LIST OF PAIRS, x a local, y a cell -/
theorem for_pairs {ax : Addr} {its : Array Value} {kx : Nat} {x y : Str} {px py pos : Pos} {c1 : Nat} {body : List Stmt} {Q : Flow → Shared → Prop} (stored : List Str) (ps : List (Str × Value)) (Item : Value → Value → Prop)
    (hh : A.handled = none) (F : Fr h₀ env.locals s.heap m) (N : News h₀ env.locals s.heap nx) (hsrc : (ax, ({ cls := .type "list", data := .seq its kx } : Obj)) ∈ nx) (hC : (C, oC) ∈ nx) (hd : oC.data = .cell v₀)
    (hps : ∀ p ∈ ps, m p.1 = some p.2) (hk : env.scope.kind = .function) (hx : env.kindOf x = some .local) (hp : (env.scope.kind == .class || (env.scope.kind == .module && env.locals != env.globals)) = false) (hy : env.kindOf y = some .cell) (hc : env.cells.lookup y = some C)
    (hits : ∀ (i : Nat) (v : Value), its[i]? = some v → ∃ T a b k, v = .ref T ∧ (T, ({ cls := .type "tuple", data := .seq #[a, b] k } : Obj)) ∈ nx ∧ Item a b)
    (turn : ∀ I oI nx' oF h tk (u : Str → Option Value) a b, Item a b → (∀ p ∈ nx, p.1 ≠ C → p ∈ nx') → (C, oF) ∈ nx' → oF.data = .cell (some b) →
      Fr h₀ env.locals h (fun z => if z = x then some a else kstB (fun z => if stored.contains z then u z else m z) ps z) → News h₀ env.locals h ((I, oI) :: nx') → (∀ p ∈ nx', p.1 ≠ I) →
      wpAny (model prog w) A (execs body env) (LoopPost h₀ env.locals (Between x stored m (fun ps' nx'' => nx'' = nx' ∧ ps' = ps)) I oI s Q) E { s with heap := h, toks := tk })
    (done : ∀ nx' oF v h tk (u : Str → Option Value), (∀ p ∈ nx, p.1 ≠ C → p ∈ nx') → (C, oF) ∈ nx' → oF.data = .cell v →
      Fr h₀ env.locals h (fun z => if z = x then u z else kstB (fun z => if stored.contains z then u z else m z) ps z) → News h₀ env.locals h nx' → Q .next { s with heap := h, toks := tk })
    (hE : PassesOwn (model prog w) A env E := by passes_own) :
    wpAny (model prog w) A (pyIter (.ref ax)) (fun it s₂ => codeAny (model prog w) A (.forLoop (.Tuple [.Name x px, .Name y py] c1 pos) it body [] env) (fun r s' => match r with | .ok f => Q f s' | .error e => cameBackBy (model prog w) A env E e s') s₂) E s := by
  have hax : ax ≠ C := ne_cell N hsrc hC hd (fun _ => nofun)
  refine for_listT (fun _ m' nx' => (∃ oF v, (C, oF) ∈ nx' ∧ oF.data = .cell v) ∧ (∀ p ∈ nx, p.1 ≠ C → p ∈ nx') ∧ Between x stored m (fun ps' _ => ps' = ps) m' nx') hh F N
    (fun _ m' nx' h => .inr ⟨_, h.2.1 _ hsrc hax, rfl, _, rfl⟩) ⟨⟨oC, v₀, hC, hd⟩, fun p hp _ => hp, ps, hps, fun _ _ _ _ => rfl, rfl⟩ (fun I i v s Q E hv hit hq => ?_) ?_ ?_ hE
  · obtain ⟨T, _, _, _, rfl, _⟩ := hits i v hv
    exact wpAny_letOwnedTupleGo_listiter hit hq
  · rintro I i v m₁ nx' oI h tk hi ⟨⟨oF, v₁, hF, hdF⟩, hsub, ps', h1, h2, rfl⟩ F₁ N₁ off
    obtain ⟨T, a, b, k, rfl, hT, hab⟩ := hits i v hi
    have hTC : T ≠ C := ne_cell N hT hC hd (fun _ => nofun)
    refine assign_pair hh F₁ N₁ (List.mem_cons_of_mem _ (hsub _ hT hTC)) (List.mem_cons_of_mem _ hF) hdF hk hx hp hy hc fun h' tk' oF' ho F₂ N₂ => ?_
    have hIC : I ≠ C := fun e => off _ hF e.symm
    refine wpAny_mono (turn I oI (put C oF' nx') oF' h' tk' m₁ a b hab (fun p hp hn => put_mem (hsub p hp hn) hn) put_self ho (kst_fr h1 h2 F₂) (fun p hp => N₂ p ?_) (fun p hp => ?_)) (fun f s₂ hl => ?_) fun _ _ e => e
    · rcases List.mem_cons.mp hp with rfl | hp
      · exact put_mem List.mem_cons_self hIC
      · rcases put_of hp with rfl | ⟨hp, hn⟩
        · exact put_self
        · exact put_mem (List.mem_cons_of_mem _ hp) hn
    · rcases put_of hp with rfl | ⟨hp, hn⟩
      · exact Ne.symm hIC
      · exact off p hp
    · have fin : LoopEnd h₀ env.locals (Between x stored m (fun ps'' nx'' => nx'' = put C oF' nx' ∧ ps'' = ps')) I oI s s₂ → LoopEnd h₀ env.locals (fun m' nx' => (∃ oF v, (C, oF) ∈ nx' ∧ oF.data = .cell v) ∧ (∀ p ∈ nx, p.1 ≠ C → p ∈ nx') ∧ Between x stored m (fun ps'' _ => ps'' = ps') m' nx') I oI s s₂ := by
        rintro ⟨h₄, tk₄, m₄, nx₄, e, F₄, N₄, off₄, ps₄, g1, g2, rfl, rfl⟩
        exact ⟨h₄, tk₄, m₄, _, e, F₄, N₄, off₄, ⟨oF', _, put_self, ho⟩, fun p hp hn => put_mem (hsub p hp hn) hn, _, g1, g2, rfl⟩
      cases f with
      | ret v => exact hl
      | brk => exact hl
      | next => exact fin hl
      | cont => exact fin hl
  · rintro m₁ nx' h tk ⟨⟨oF, v₁, hF, hdF⟩, hsub, ps', h1, h2, rfl⟩ F₁ N₁
    exact done nx' oF v₁ h tk m₁ hsub hF hdF (kst_frOut h1 h2 F₁) N₁
end
section
variable {prog : Program} {w : World} {A : Around} {E : Value → Shared → Prop} {s : Shared} {h₀ : Heap} {m : Str → Option Value} {env : Env} {news : List (Addr × Obj)} {Q : Flow → Shared → Prop} {x : Str} {px : Pos} {body : List Stmt}
theorem for_rangeP {r : Addr} {a b c : Int} {t₀ u₀ v₀ : Tok} {n : Nat} (stored : List Str) (J : Nat → List (Str × Value) → Prop) (ps₀ : List (Str × Value))
    (hh : A.handled = none) (hr : IsRange s.heap r a b c t₀ u₀ v₀) (hsm : Builtin.Range.small a b c = true) (hn : Builtin.Range.rangeSize a b c = ((n : Nat) : Int)) (F : Fr h₀ env.locals s.heap m) (N : News h₀ env.locals s.heap news) (hp₀ : ∀ p ∈ ps₀, m p.1 = some p.2) (hj : J 0 ps₀)
    (hx : env.kindOf x = some .local) (hp : (env.scope.kind == .class || (env.scope.kind == .module && env.locals != env.globals)) = false)
    (turn : ∀ I i t ps oI h tk (u : Str → Option Value), i < n → J i ps → Fr h₀ env.locals h (fun y => if y = x then some (.int (a + (i : Int) * c) t) else kstB (fun z => if stored.contains z then u z else m z) ps y) → News h₀ env.locals h ((I, oI) :: news) → (∀ p ∈ news, p.1 ≠ I) →
      wpAny (model prog w) A (execs body env) (LoopPost h₀ env.locals (Between x stored m (fun ps nx => nx = news ∧ J (i + 1) ps)) I oI s Q) E { s with heap := h, toks := tk })
    (done : ∀ ps h tk (u : Str → Option Value), J n ps → Fr h₀ env.locals h (fun y => if y = x then u y else kstB (fun z => if stored.contains z then u z else m z) ps y) → News h₀ env.locals h news → Q .next { s with heap := h, toks := tk })
    (hE : PassesOwn (model prog w) A env E := by passes_own) :
    wpAny (model prog w) A (pyIter (.ref r)) (fun it s₂ => codeAny (model prog w) A (.forLoop (.Name x px) it body [] env) (fun r s' => match r with | .ok f => Q f s' | .error e => cameBackBy (model prog w) A env E e s') s₂) E s := by
  refine for_rangeK stored (fun i ps nx => nx = news ∧ J i ps) ps₀ hh hr hsm hn F N hp₀ ⟨rfl, hj⟩ hx hp ?_ ?_ hE
  · rintro I i t ps nx oI h tk u hi ⟨rfl, hJ⟩ F₁ N₁ off
    exact turn I i t ps oI h tk u hi hJ F₁ N₁ off
  · rintro ps nx h tk u ⟨rfl, hJ⟩ F₁ N₁
    exact done ps h tk u hJ F₁ N₁
end
end Mine
namespace Mine
theorem News.get {h₀ h : Heap} {L : Addr} {news : List (Addr × Obj)} {a : Addr} {o : Obj} (N : News h₀ L h news) (hm : (a, o) ∈ news) : h.get? a = some o := (N _ hm).1
theorem frSome {h₀ h : Heap} {L : Addr} {m : Str → Option Value} (F : Fr h₀ L h m) : ∃ m', m' = m ∧ Fr h₀ L h m' := ⟨_, rfl, F⟩
theorem newsSome {h₀ h : Heap} {L : Addr} {nx : List (Addr × Obj)} (N : News h₀ L h nx) : ∃ nx', nx' = nx ∧ News h₀ L h nx' := ⟨_, rfl, N⟩
theorem frKst {h₀ h : Heap} {L : Addr} {m : Str → Option Value} (F : Fr h₀ L h m) (ps : List (Str × Value)) (hp : ∀ p ∈ ps, m p.1 = some p.2) : Fr h₀ L h (fun y => kstB m ps y) := by
  have e : (fun y => kstB m ps y) = m := funext fun y => kstB_eq hp fun _ => rfl
  rw [e]; exact F
theorem notin {z y : Str} {st : List Str} (h : st.contains z = false) (hy : st.contains y = true) : z ≠ y := by
  rintro rfl; rw [hy] at h; cases h
theorem kst_rest {z : Str} {m : Str → Option Value} : ∀ {ps : List (Str × Value)}, (∀ p ∈ ps, z ≠ p.1) → kstB m ps z = m z
  | [], _ => rfl
  | p :: ps, h => by
    show (if z = p.1 then some p.2 else kstB m ps z) = m z
    rw [if_neg (h p List.mem_cons_self)]
    exact kst_rest fun q hq => h q (List.mem_cons_of_mem _ hq)
theorem ne_of_allLt {d : Addr} : ∀ {l : List (Addr × Obj)}, AllLt d l → ∀ p ∈ l, p.1 ≠ d
  | [], _, _, h => nomatch h
  | q :: l, h, p, hp => by
    rcases List.mem_cons.mp hp with rfl | hp
    · exact Nat.ne_of_lt h.1
    · exact ne_of_allLt h.2 p hp
theorem lt_of_allLt {d : Addr} : ∀ {l : List (Addr × Obj)}, AllLt d l → ∀ p ∈ l, p.1 < d
  | [], _, _, h => nomatch h
  | q :: l, h, p, hp => by
    rcases List.mem_cons.mp hp with rfl | hp
    · exact h.1
    · exact lt_of_allLt h.2 p hp
theorem updF_pre {P : Addr} {o : Obj} {nx : List (Addr × Obj)} (off : ∀ p ∈ nx, p.1 ≠ P) : ∀ {pre : List (Addr × Obj)}, (∀ p ∈ pre, p.1 ≠ P) → UpdF P o (pre ++ (P, o) :: nx) (fun o' => pre ++ (P, o') :: nx)
  | [], _ => .head off
  | p :: pre, h => .tail (h p List.mem_cons_self) (updF_pre off fun q hq => h q (List.mem_cons_of_mem _ hq))
/-- the table of a def's own code: nothing in it yet, or the one def that it makes -/
def TabSt (l c : Nat) (qual : Str) (nx : List (Addr × Obj)) (ps : Array Value) : Prop :=
  ps = #[] ∨ ∃ c' oc vs t, ps = #[rawInt l, rawInt c, .ref c'] ∧ (c', oc) ∈ nx ∧ oc.data = .fields vs ∧ vs[1]? = some (.str qual t)
theorem TabSt.up {l c : Nat} {qual : Str} {nx nx' : List (Addr × Obj)} {ps : Array Value} (h : TabSt l c qual nx ps) (k : ∀ p ∈ nx, p ∈ nx') : TabSt l c qual nx' ps := by
  rcases h with h | ⟨c', oc, vs, t, h1, h2, h3⟩
  · exact .inl h
  · exact .inr ⟨c', oc, vs, t, h1, k _ h2, h3⟩
section
variable {M : Model} {A : Around} {E : Value → Shared → Prop} {s : Shared} {h₀ : Heap} {L a c P : Addr} {m mg mb : Str → Option Value} {cn : Str} {cs : Scope} {ccd : Value} {cl : List (Str × Addr)} {pre nx : List (Addr × Obj)}
  {p : Program} {loose : List Str} {mean : ExcName → Option Value} {name qual : Str} {params : Arguments} {body : List Stmt} {scope : Scope} {ps : Array Value} {pos : Pos} {firstLine : Nat} {clos : List (Str × Addr)}
theorem nest_join {st : List (Addr × Obj)} {Q : Value → Shared → Prop} (F : Fr h₀ L s.heap m) (N : News h₀ L s.heap (pre ++ (P, tabObj ps) :: nx)) (T : Top p loose mean mg mb h₀) (C : CodeHd h₀ c P) (hcd : ccd = .ref c) (hpre : ∀ p ∈ pre, p.1 ≠ P) (hoff : ∀ p ∈ nx, p.1 ≠ P) (hst : ∀ p ∈ st, p ∈ nx) (hps : TabSt pos.line pos.col qual st ps)
    (hcl : closureFor scope (envX cn cs L a ccd cl) = pure clos)
    (h : ∀ f c' oc vs t ctv doc h' tk cx, Fr h₀ L h' m →
      News h₀ L h' ((f, fnMade name qual params body scope clos doc ((mg "__name__").getD .none) c' ctv) :: (pre ++ (P, tabObj #[rawInt pos.line, rawInt pos.col, .ref c']) :: (cx ++ nx))) →
      (∀ p ∈ cx, ∀ q ∈ pre ++ (P, tabObj ps) :: nx, q.1 < p.1) → (c', oc) ∈ cx ++ st → oc.data = .fields vs → vs[1]? = some (.str qual t) → (∀ q ∈ pre ++ (P, tabObj ps) :: nx, q.1 < f) → (∀ q ∈ cx, q.1 < f) → Q (.ref f) { s with heap := h', toks := tk }) :
    wpAny M A (makeFunction name qual params (.stmts body) scope (envX cn cs L a ccd cl) [] [] [] pos firstLine) Q E s := by
  rcases hps with rfl | ⟨c', oc, vs, t, rfl, h1, h2, h3⟩
  · refine nest_K F N T C hcd (updF_pre hoff hpre) trivial rfl hcl fun f c' oc vs t ctv doc h' tk F' N' d1 d2 l1 l2 => ?_
    refine h f c' oc vs t ctv doc h' tk [(c', oc)] F' (fun p hp => N' p ?_) (fun p hp => ?_) List.mem_cons_self d1 d2 (fun q hq => Nat.lt_trans (l1 q hq) l2) (fun q hq => ?_)
    · rcases List.mem_cons.mp hp with rfl | hp
      · exact List.mem_cons_self
      · rcases List.mem_append.mp hp with hp | hp
        · exact List.mem_cons_of_mem _ (List.mem_cons_of_mem _ (List.mem_append_left _ hp))
        · rcases List.mem_cons.mp hp with rfl | hp
          · exact List.mem_cons_of_mem _ (List.mem_cons_of_mem _ (List.mem_append_right _ List.mem_cons_self))
          · rcases List.mem_cons.mp hp with rfl | hp
            · exact List.mem_cons_of_mem _ List.mem_cons_self
            · exact List.mem_cons_of_mem _ (List.mem_cons_of_mem _ (List.mem_append_right _ (List.mem_cons_of_mem _ hp)))
    · rw [List.mem_singleton.mp hp]; exact l1
    · rw [List.mem_singleton.mp hq]; exact l2
  · refine nestHit_K (c' := c') F N T C hcd (List.mem_append_right _ List.mem_cons_self) (by simp [TriplesOk, rawInt]) (by simp [codeAmong, rawInt]) hcl fun f ctv doc h' tk F' N' l => ?_
    exact h f c' oc vs t ctv doc h' tk [] F' N' (fun _ hp => nomatch hp) h1 h2 h3 l (fun _ hq => nomatch hq)
/-- the ledger in the caller's order: the table, what may change, what stays -/
theorem regroup {h : Heap} {P : Addr} {tab : Obj} {cx mu st : List (Addr × Obj)} (N : News h₀ L h (pre ++ (P, tab) :: (cx ++ (mu ++ st)))) (hpre : ∀ p ∈ pre, p.1 ≠ P) (fpre : ∀ p ∈ pre, ∀ q ∈ mu ++ st, q.1 ≠ p.1)
    (hcx : ∀ p ∈ cx, p.1 ≠ P) (fcx : ∀ p ∈ cx, ∀ q ∈ mu ++ st, q.1 ≠ p.1) (off : ∀ p ∈ mu ++ st, p.1 ≠ P) :
    ∃ stx, News h₀ L h ((P, tab) :: (mu ++ stx)) ∧ (∀ p ∈ mu ++ stx, p.1 ≠ P) ∧ (∀ p ∈ st, p ∈ stx) ∧ (∀ p ∈ stx, p ∈ st ∨ ∀ q ∈ mu ++ st, q.1 ≠ p.1) ∧ (∀ p ∈ pre, p ∈ stx) ∧ ∀ p ∈ cx ++ st, p ∈ stx := by
  have a : ∀ p, p ∈ mu ++ ((pre ++ cx) ++ st) → p ∈ pre ∨ p ∈ cx ∨ p ∈ mu ++ st := fun p hp => by
    simp only [List.mem_append] at hp ⊢
    rcases hp with h | (h | h) | h
    · exact .inr (.inr (.inl h))
    · exact .inl h
    · exact .inr (.inl h)
    · exact .inr (.inr (.inr h))
  refine ⟨(pre ++ cx) ++ st, fun p hp => N p ?_, fun p hp => ?_, fun p hp => List.mem_append_right _ hp, fun p hp => ?_, fun p hp => List.mem_append_left _ (List.mem_append_left _ hp), fun p hp => ?_⟩
  · rcases List.mem_cons.mp hp with rfl | hp
    · exact List.mem_append_right _ List.mem_cons_self
    · rcases a p hp with h | h | h
      · exact List.mem_append_left _ h
      · exact List.mem_append_right _ (List.mem_cons_of_mem _ (List.mem_append_left _ h))
      · exact List.mem_append_right _ (List.mem_cons_of_mem _ (List.mem_append_right _ h))
  · rcases a p hp with h | h | h
    · exact hpre p h
    · exact hcx p h
    · exact off p h
  · rcases List.mem_append.mp hp with hp | hp
    · rcases List.mem_append.mp hp with hp | hp
      · exact .inr (fpre p hp)
      · exact .inr (fcx p hp)
    · exact .inl hp
  · rcases List.mem_append.mp hp with hp | hp
    · exact List.mem_append_left _ (List.mem_append_right _ hp)
    · exact List.mem_append_right _ hp
end
theorem offRE {D : Addr} : ∀ {l : List (Addr × Obj)}, LCg.Off1 D l → ∀ p ∈ l, p.1 ≠ D
  | [], _, _, h => nomatch h
  | q :: l, h, p, hp => by
    rcases List.mem_cons.mp hp with rfl | hp
    · exact h.1
    · exact offRE h.2 p hp
theorem ints_get {vs : List Value} {ns : List Int} (hI : IntsAre vs ns) : ∀ {i : Nat} {n : Int}, ns[i]? = some n → ∃ t, vs[i]? = some (.int n t) := by
  induction hI with
  | nil => intro i n h; simp at h
  | cons n t _ ih =>
    intro i k h
    cases i with
    | zero => simp at h; subst h; exact ⟨t, rfl⟩
    | succ i => obtain ⟨t', h'⟩ := ih (i := i) (n := k) (by simpa using h); exact ⟨t', by simpa using h'⟩
theorem ints_item {prog : Program} {w : World} {A : Around} {E : Value → Shared → Prop} {s : Shared} {value slice : Expr} {l : Addr} {vs : List Value} {ns : List Int} {c i : Nat} {n : Int} {u : Tok} {Q : Value → Shared → Prop}
    (hl : s.heap.get? l = some ({ cls := .type "list", data := .seq vs.toArray c } : Obj)) (hI : IntsAre vs ns) (hn : ns[i]? = some n) (hi : i < 2 ^ 60) (h : ∀ t, Q (.int n t) s)
    (hs : subscripted slice false (.ref l) (.int (i : Nat) u) = operate [.ref l, .int (i : Nat) u] (getItem (.ref l) (.int (i : Nat) u)) := by with_unfolding_all rfl) :
    wpAny (model prog w) A (subscriptTail value slice (.ref l) (.int (i : Nat) u)) Q E s := by
  obtain ⟨t, ht⟩ := ints_get hI hn
  exact tail_any (Heap.IsList.typeIs ⟨_, hl, rfl, _, rfl⟩) F.slot_list_getitem.lookup (wpAny_getItem_list ⟨_, hl, rfl, _, rfl⟩ (by omega) (by omega) (by simpa using ht) (h t)) hs
theorem ints_itemL {prog : Program} {w : World} {A : Around} {E : Value → Shared → Prop} {s : Shared} {value slice : Expr} {l : Addr} {vs : List Value} {ns : List Int} {i : Nat} {n : Int} {u : Tok} {Q : Value → Shared → Prop}
    (hl : s.heap.IsList l vs.toArray) (hI : IntsAre vs ns) (hn : ns[i]? = some n) (hi : i < 2 ^ 60) (h : ∀ t, Q (.int n t) s)
    (hs : subscripted slice false (.ref l) (.int (i : Nat) u) = operate [.ref l, .int (i : Nat) u] (getItem (.ref l) (.int (i : Nat) u)) := by with_unfolding_all rfl) :
    wpAny (model prog w) A (subscriptTail value slice (.ref l) (.int (i : Nat) u)) Q E s := by
  obtain ⟨t, ht⟩ := ints_get hI hn
  exact tail_any hl.typeIs F.slot_list_getitem.lookup (wpAny_getItem_list hl (by omega) (by omega) (by simpa using ht) (h t)) hs
theorem list_keep {h₀ h : Heap} {L l : Addr} {m : Str → Option Value} {its : Array Value} (F : Fr h₀ L h m) (x : h₀.IsList l its) : h.IsList l its := by obtain ⟨o, e, r⟩ := x; exact ⟨o, F.keep _ _ e, r⟩
/-- the ledger without some addresses -/
theorem split_news {h₀ h : Heap} {L : Addr} {all : List (Addr × Obj)} (as : List Addr) (N : News h₀ L h all) : ∃ st, News h₀ L h st ∧ (∀ p ∈ st, ∀ a ∈ as, p.1 ≠ a) ∧ ∀ p ∈ all, (∀ a ∈ as, p.1 ≠ a) → p ∈ st := by
  refine ⟨all.filter fun p => decide (∀ a ∈ as, p.1 ≠ a), fun p hp => N p (List.mem_filter.mp hp).1, fun p hp => of_decide_eq_true (List.mem_filter.mp hp).2, fun p hp h => List.mem_filter.mpr ⟨hp, decide_eq_true h⟩⟩
theorem news_cons {h₀ h : Heap} {L : Addr} {all l : List (Addr × Obj)} (a : Addr × Obj) (N : News h₀ L h all) (ha : a ∈ all) (M : News h₀ L h l) : News h₀ L h (a :: l) := fun p hp => by
  rcases List.mem_cons.mp hp with rfl | hp
  · exact N _ ha
  · exact M p hp
end Mine
namespace Mine
section
variable {M : Model} {A : Around} {E : Value → Shared → Prop} {s : Shared} {h₀ : Heap} {L a c P : Addr} {m mg mb : Str → Option Value} {cn : Str} {cs : Scope} {ccd : Value} {cl : List (Str × Addr)} {pre nx : List (Addr × Obj)}
  {p : Program} {loose : List Str} {mean : ExcName → Option Value} {name qual : Str} {params : Arguments} {body : Expr} {scope : Scope} {ps : Array Value} {pos : Pos} {firstLine : Nat} {clos : List (Str × Addr)}
/-- a lambda whose code is new or already in the table -/
theorem lam_join {st : List (Addr × Obj)} {Q : Value → Shared → Prop} (F : Fr h₀ L s.heap m) (N : News h₀ L s.heap (pre ++ (P, tabObj ps) :: nx)) (T : Top p loose mean mg mb h₀) (C : CodeHd h₀ c P) (hcd : ccd = .ref c) (hpre : ∀ p ∈ pre, p.1 ≠ P) (hoff : ∀ p ∈ nx, p.1 ≠ P) (hst : ∀ p ∈ st, p ∈ nx) (hps : TabSt pos.line pos.col qual st ps)
    (hcl : closureFor scope (envX cn cs L a ccd cl) = pure clos)
    (h : ∀ f c' oc vs t ctv h' tk cx, Fr h₀ L h' m →
      News h₀ L h' ((f, kla_obj name qual params body scope clos ((mg "__name__").getD .none) c' ctv) :: (pre ++ (P, tabObj #[rawInt pos.line, rawInt pos.col, .ref c']) :: (cx ++ nx))) →
      (∀ p ∈ cx, ∀ q ∈ pre ++ (P, tabObj ps) :: nx, q.1 < p.1) → (c', oc) ∈ cx ++ st → oc.data = .fields vs → vs[1]? = some (.str qual t) → (∀ q ∈ pre ++ (P, tabObj ps) :: nx, q.1 < f) → (∀ q ∈ cx, q.1 < f) → Q (.ref f) { s with heap := h', toks := tk }) :
    wpAny M A (makeFunction name qual params (.expr body) scope (envX cn cs L a ccd cl) [] [] [] pos firstLine) Q E s := by
  rcases hps with rfl | ⟨c', oc, vs, t, rfl, h1, h2, h3⟩
  · refine kla_nest F N T C hcd (updF_pre hoff hpre) trivial rfl hcl fun f c' oc vs t ctv h' tk F' N' d1 d2 l1 l2 => ?_
    refine h f c' oc vs t ctv h' tk [(c', oc)] F' (fun p hp => N' p ?_) (fun p hp => ?_) List.mem_cons_self d1 d2 (fun q hq => Nat.lt_trans (l1 q hq) l2) (fun q hq => ?_)
    · rcases List.mem_cons.mp hp with rfl | hp
      · exact List.mem_cons_self
      · rcases List.mem_append.mp hp with hp | hp
        · exact List.mem_cons_of_mem _ (List.mem_cons_of_mem _ (List.mem_append_left _ hp))
        · rcases List.mem_cons.mp hp with rfl | hp
          · exact List.mem_cons_of_mem _ (List.mem_cons_of_mem _ (List.mem_append_right _ List.mem_cons_self))
          · rcases List.mem_cons.mp hp with rfl | hp
            · exact List.mem_cons_of_mem _ List.mem_cons_self
            · exact List.mem_cons_of_mem _ (List.mem_cons_of_mem _ (List.mem_append_right _ (List.mem_cons_of_mem _ hp)))
    · rw [List.mem_singleton.mp hp]; exact l1
    · rw [List.mem_singleton.mp hq]; exact l2
  · refine kla_hit (c' := c') F N T C hcd (List.mem_append_right _ List.mem_cons_self) (by simp [TriplesOk, rawInt]) (by simp [codeAmong, rawInt]) hcl fun f ctv h' tk F' N' l => ?_
    exact h f c' oc vs t ctv h' tk [] F' N' (fun _ hp => nomatch hp) h1 h2 h3 l (fun _ hq => nomatch hq)
end
theorem item1 {prog : Program} {w : World} {A : Around} {E : Value → Shared → Prop} {s : Shared} {value slice : Expr} {l : Addr} {v0 v : Value} {vs : List Value} {c : Nat} {u : Tok} {Q : Value → Shared → Prop}
    (hl : s.heap.get? l = some ({ cls := .type "list", data := .seq (v0 :: v :: vs).toArray c } : Obj)) (h : Q v s)
    (hs : subscripted slice false (.ref l) (.int 1 u) = operate [.ref l, .int 1 u] (getItem (.ref l) (.int 1 u)) := by with_unfolding_all rfl) :
    wpAny (model prog w) A (subscriptTail value slice (.ref l) (.int 1 u)) Q E s :=
  tail_any (Heap.IsList.typeIs ⟨_, hl, rfl, _, rfl⟩) F.slot_list_getitem.lookup (wpAny_getItem_list ⟨_, hl, rfl, _, rfl⟩ (by decide) (by decide) (by simp) h) hs
end Mine
namespace Mine
section
variable {prog : Program} {w : World} {A : Around} {E : Value → Shared → Prop} {s : Shared} {K : Frag} {x C L : Addr} {h₀ : Heap} {m : Str → Option Value} {ox o : Obj} {es : List DictEntry} {n : Nat} {name : Str} {v : Value}
/-- x.m(..) where x's own dict holds m, and its class a plain def so called -/
theorem method_own {pl : Sem Bool} {Q : Value × List Value → Shared → Prop} {f : Addr} (F : Fr h₀ L s.heap m) (X₀ : K.In h₀) (I : InstAt s.heap x ox C (some (dictOf es n))) (hg : plainGet K C name = true)
    (hf : findIn K (.ref C) name = some (some (.ref f))) (ht : isFn K (.ref f) = true) (hl : getL name es = some (some v)) (h : wpAny (model prog w) A (getAttr (.ref x) name) (fun v' => Q (v', [])) E s) : wpAny (model prog w) A (getMethod (.ref x) name pl) Q E s := by
  have hcan := PySem.F.canon_object_ga
  have X := X₀.keeps F.keep
  unfold getMethod specialOf
  refine wpAny_bind (wpAny_bind (I.type.here ((looks_findIn X (plainGet_of hg).1).here ?_)))
  dsimp only
  rw [hcan, if_neg (by decide)]
  refine wpAny_bind (wpAny_bind (I.type.here ((looks_findIn X (plainGet_of hg).2).here ?_)))
  refine wpAny_bind (wpAny_bind (I.type.here ((looks_findIn X hf).here (wpAny_bind ((looks_typeIn X (beq_iff_eq.mp ht)).here ?_)))))
  rw [if_neg (by decide +kernel)]
  refine wpAny_bind (wpAny_loadPart I.at_ ?_)
  have hd := I.dict
  cases e : ox.dict with
  | none => rw [e] at hd; exact hd.elim
  | some dx =>
    rw [e] at hd
    refine wpAny_bind (wpAny_bind (wpAny_loadPart hd ?_))
    have a : lookIn name (dictOf es n) = some (some v) := by rw [lookIn_dict]; exact hl
    rw [nsLook_of a]
    refine wpAny_pure ?_
    rw [if_pos (show (some v).isSome = true from rfl)]
    exact wpAny_bind (wpAny_mono h (fun _ _ hq => wpAny_pure hq) fun _ _ z => z)
theorem findObj_own2 {a g : Value} (hh : hasDictIn K C = true) (ha : findIn K (.ref C) name = some (some a)) (hn : specialIn K a "__get__" = some (some g)) (ht : takesIn K a = some false) (hl : lookIn name o = some (some v)) :
    findObj K C (some o) name = some (.value v) := by
  obtain ⟨cd, hc, hd⟩ := any_some hh
  unfold findObj
  rw [hc, Option.bind_some, ha, Option.bind_some]
  have ho : W.ownOf cd (some o) name = some (some v) := by unfold W.ownOf; rw [if_pos hd]; exact hl
  simp [hn, ht, ho]
/-- x.m where x's own dict holds m, and its class a plain def so called -/
theorem get_own2 {expr : Bool} {Q : Value → Shared → Prop} {a g : Value} (F : Fr h₀ L s.heap m) (X₀ : K.In h₀) (I : InstAt s.heap x ox C (some (dictOf es n))) (hg : plainGet K C name = true) (hh : hasDictIn K C = true)
    (ha : findIn K (.ref C) name = some (some a)) (hn : specialIn K a "__get__" = some (some g)) (ht : takesIn K a = some false) (hl : getL name es = some (some v)) (hv : handedIn v = true) (h : Q v { s with toks := s.toks + 1 }) :
    wpAny (model prog w) A (getAttr (.ref x) name expr) Q E s :=
  get_value (X₀.keeps F.keep) I (plainGet_of hg).1 (findObj_own2 hh ha hn ht (by rw [lookIn_dict]; exact hl)) hv h
end
end Mine
namespace Mine
theorem none_left {f : Value × Nat → Option Value} {l : List (Value × Nat)} (h : ∀ p ∈ l, f p = none) : l.filterMap f = [] := by
  induction l with
  | nil => rfl
  | cons a l ih =>
    rw [List.filterMap_cons, h a List.mem_cons_self]
    exact ih fun p hp => h p (List.mem_cons_of_mem _ hp)
section
variable {prog : Program} {w : World} {A : Around} {E : Value → Shared → Prop} {s : Shared}
theorem upd_nil {α : Type} {l : Addr} {items : Array Value} {n : Nat} {f : Array Value → Array Value} {rest : Sem α} {Q : α → Shared → Prop} (hl : s.heap.get? l = some ({ cls := .type "list", data := .seq items n } : Obj)) (hsz : items.size ≤ sizeLine)
    (hf : f items = #[]) (h : ∀ h' k, Heap.SameBut l s.heap h' → h'.get? l = some ({ cls := .type "list", data := .seq #[] k } : Obj) → wpAny (model prog w) A rest Q E { s with heap := h' }) :
    wpAny (model prog w) A (do Builtin.List.listUpdate (.ref l) f; rest) Q E s := by
  have e : ∃ k, Obj.mapSeq f ({ cls := .type "list", data := .seq items n } : Obj) = { cls := .type "list", data := .seq #[] k } := ⟨_, by simp only [Obj.mapSeq, hf]; rfl⟩
  obtain ⟨k, e⟩ := e
  refine wpAny_bind (wpAny_updateSeq hl rfl (hz := hsz) (_hz' := by rw [hf]; exact Nat.zero_le _) ?_)
  exact h _ k (Heap.SameBut.update ..) (by rw [Heap.get?_update_self _ hl (by rw [e]; rfl), e])
/-- del xs[:] -/
theorem delItem_all {l sl : Addr} {items : Array Value} {n : Nat} {Q : Unit → Shared → Prop} (hl : s.heap.get? l = some ({ cls := .type "list", data := .seq items n } : Obj))
    (hs : s.heap.IsSliceOf sl .none .none .none) (hsz : items.size ≤ sizeLine)
    (h : ∀ h' k, Heap.SameBut l s.heap h' → h'.get? l = some ({ cls := .type "list", data := .seq #[] k } : Obj) → Q () { s with heap := h' }) : wpAny (model prog w) A (delItem (.ref l) (.ref sl)) Q E s := by
  have hl' : s.heap.IsList l items := ⟨_, hl, rfl, _, rfl⟩
  obtain ⟨os, hos, hcs, hds⟩ := id hs
  have hTs : s.TypeIs (.ref sl) "slice" := ⟨os, hos, hcs⟩
  refine wpAny_delItem_slot hl'.typeIs (by decide) PySem.F.slot_list_delitem ?_
  refine wpAny_call_entry PySem.F.slot_list_delitem hl'.typeIs PySem.F.entry_list_delitem ?_ (PySem.F.args_list_delitem_2 _ _)
  unfold Builtin.«list.__delitem__»
  show wpAny _ _ (Builtin.List.listSubscript? (.ref sl) >>= _) _ _ s
  refine wpAny_bind ?_
  unfold Builtin.List.listSubscript?
  refine wpAny_bind (wpAny_specialOf hTs slice_no_index ?_)
  simp only [Option.isNone_none, if_true]
  refine wpAny_pure ?_
  show wpAny _ _ (typeOf (.ref sl) >>= _) _ _ s
  refine wpAny_bind (wpAny_typeOf hTs ?_)
  rw [if_neg (by decide)]
  rw [listSliceParts_eq]
  refine wpAny_bind (wpAny_bind (wpAny_field hos hds (x := .none) rfl (wpAny_bind (wpAny_listPart .none ?_))))
  rw [if_neg (show ¬ ((rawPart none == rawInt 0) = true) from Bool.false_ne_true)]
  refine wpAny_bind (wpAny_field hos hds (x := .none) rfl (wpAny_bind (wpAny_listPart .none ?_)))
  refine wpAny_bind (wpAny_field hos hds (x := .none) rfl (wpAny_bind (wpAny_listPart .none (wpAny_pure ?_))))
  refine wpAny_bind (m := Builtin.List.listItems (.ref l)) ?_
  unfold Builtin.List.listItems
  refine wpAny_bind (wpAny_seqItems hl rfl (wpAny_pure ?_))
  refine wpAny_bind (wpAny_of_eq (sliceIndices_raw none none none items.size (by simp)) ?_)
  refine wpAny_bind (wpAny_rule ?_)
  refine upd_nil hl hsz ?_ fun h' k hs' hg => wpAny_bind (wpAny_letGo (wpAny_pure ⟨_, rfl, h h' k hs' hg⟩))
  show (List.filterMap _ items.toList.zipIdx).toArray = #[]
  rw [none_left]
  intro p hp
  have hp2 : p.2 < items.size := by
    have := (List.mem_zipIdx hp).2.1
    simpa using this
  refine if_pos ?_
  change (if ((1 : Int) > 0) then (decide ((0 : Int) ≤ (p.2 : Nat)) && decide (((p.2 : Nat) : Int) < (items.size : Nat)) && ((((p.2 : Nat) : Int) - 0) % 1 == 0)) else _) = true
  rw [if_pos (by decide)]
  simp only [Bool.and_eq_true, decide_eq_true_eq, beq_iff_eq]
  omega
theorem del_all {h₀ hp : Heap} {L D : Addr} {m : Str → Option Value} {pre post : List (Addr × Obj)} {its : Array Value} {n : Nat} {Q : Unit → Shared → Prop} (hs : s.heap = hp.push { cls := .type "slice", data := .fields #[.none, .none, .none] })
    (F : Fr h₀ L hp m) (N : News h₀ L hp (pre ++ (D, listOf its n) :: post)) (h1 : ∀ p ∈ pre, p.1 ≠ D) (h2 : ∀ p ∈ post, p.1 ≠ D) (hsz : its.size ≤ sizeLine)
    (h : ∀ h' k, Fr h₀ L h' m → News h₀ L h' (pre ++ (D, listOf #[] k) :: post) → Q () { s with heap := h' }) : wpAny (model prog w) A (delItem (.ref D) (.ref hp.objs.size)) Q E s := by
  have up : ∀ b o, hp.get? b = some o → s.heap.get? b = some o := fun b o e => by rw [hs]; exact Heap.get?_push_of_some _ e
  have N' := N.grown up
  have F' := F.keeps up
  have hm : (D, listOf its n) ∈ pre ++ (D, listOf its n) :: post := List.mem_append_right _ List.mem_cons_self
  refine delItem_all (N' _ hm).1 (by rw [hs]; exact Heap.IsSliceOf.new ..) hsz fun h' k hb hg => h h' k (F'.change hb (N' _ hm).2.1 (N' _ hm).2.2) fun p hp => ?_
  rcases List.mem_append.mp hp with hp | hp
  · have z := N' p (List.mem_append_left _ hp)
    exact ⟨(hb.2 _ (h1 p hp)).trans z.1, z.2⟩
  · rcases List.mem_cons.mp hp with rfl | hp
    · exact ⟨hg, (N' _ hm).2⟩
    · have z := N' p (List.mem_append_right _ (List.mem_cons_of_mem _ hp))
      exact ⟨(hb.2 _ (h2 p hp)).trans z.1, z.2⟩
end
theorem swap_open {h₀ h : Heap} {L : Addr} {a b : Addr × Obj} {l : List (Addr × Obj)} (N : News h₀ L h (a :: b :: l)) : ∃ nw, nw = a :: l ∧ News h₀ L h (b :: nw) := by
  refine ⟨_, rfl, fun p hp => N p ?_⟩
  simp only [List.mem_cons] at hp ⊢
  rcases hp with h | h | h
  · exact .inr (.inl h)
  · exact .inl h
  · exact .inr (.inr h)
theorem pick_far {h₀ h : Heap} {L LG I CJ CF : Addr} {l oI oj of : Obj} {ts nz nw sy : List (Addr × Obj)} (N : News h₀ L h ((LG, l) :: nz)) (hnz : nz = ts ++ nw) (hnw : nw = (I, oI) :: (CJ, oj) :: (CF, of) :: sy) (n1 : @Ne Nat LG CF) (n2 : @Ne Nat I CF) (n3 : @Ne Nat CJ CF) (n4 : ∀ p ∈ sy, p.1 ≠ CF) :
    ∃ ny, News h₀ L h ((CF, of) :: ny) ∧ (∀ p ∈ ny, p.1 ≠ CF) ∧ (∀ p ∈ sy, p ∈ ny) ∧ (CJ, oj) ∈ ny ∧ (LG, l) ∈ ny ∧ (I, oI) ∈ ny ∧ ∀ p ∈ ny, p ∈ (LG, l) :: (I, oI) :: (CJ, oj) :: sy := by
  refine ⟨(LG, l) :: (I, oI) :: (CJ, oj) :: sy, fun p hp => N p ?_, List.forall_mem_cons.mpr ⟨n1, List.forall_mem_cons.mpr ⟨n2, List.forall_mem_cons.mpr ⟨n3, n4⟩⟩⟩, fun p hp => .tail _ (.tail _ (.tail _ hp)), .tail _ (.tail _ (.head _)), .head _, .tail _ (.head _), fun _ h => h⟩
  rw [hnz, hnw]
  simp only [List.mem_cons, List.mem_append] at hp ⊢
  rcases hp with h | h | h | h | h
  · exact .inr (.inr (.inr (.inr (.inl h))))
  · exact .inl h
  · exact .inr (.inr (.inl h))
  · exact .inr (.inr (.inr (.inl h)))
  · exact .inr (.inr (.inr (.inr (.inr h))))
theorem list_item {prog : Program} {w : World} {A : Around} {E : Value → Shared → Prop} {s : Shared} {value slice : Expr} {l : Addr} {vs : List Value} {c i : Nat} {v : Value} {u : Tok} {Q : Value → Shared → Prop}
    (hl : s.heap.get? l = some ({ cls := .type "list", data := .seq vs.toArray c } : Obj)) (hn : vs[i]? = some v) (hi : i < 2 ^ 60) (h : Q v s)
    (hs : subscripted slice false (.ref l) (.int (i : Nat) u) = operate [.ref l, .int (i : Nat) u] (getItem (.ref l) (.int (i : Nat) u)) := by with_unfolding_all rfl) :
    wpAny (model prog w) A (subscriptTail value slice (.ref l) (.int (i : Nat) u)) Q E s :=
  tail_any (Heap.IsList.typeIs ⟨_, hl, rfl, _, rfl⟩) F.slot_list_getitem.lookup (wpAny_getItem_list ⟨_, hl, rfl, _, rfl⟩ (by omega) (by omega) (by simpa using hn) h) hs
theorem put_second {h₀ h : Heap} {L I C : Addr} {o oI oC : Obj} {l : List (Addr × Obj)} (N : News h₀ L h (put C o ((I, oI) :: (C, oC) :: l))) (hI : I ≠ C) (hl : ∀ p ∈ l, p.1 ≠ C) : News h₀ L h ((I, oI) :: (C, o) :: l) := fun p hp => N p (by
  rcases List.mem_cons.mp hp with rfl | hp
  · exact put_mem (.head _) hI
  · rcases List.mem_cons.mp hp with rfl | hp
    · exact put_self
    · exact put_mem (.tail _ (.tail _ hp)) (hl p hp))
theorem rangeF_yes {f : Nat → Bool} {q : Nat} {zs : List Value} {t : Tok} (h : IntsAre zs (((List.range q).filter f).map fun p : Nat => (p : Int))) (hf : f q = true) : IntsAre (zs ++ [.int (q : Nat) t]) (((List.range (q + 1)).filter f).map fun p : Nat => (p : Int)) := by
  rw [List.range_succ, List.filter_append, List.map_append]
  show IntsAre _ (_ ++ List.map _ (List.filter f [q]))
  rw [List.filter_cons_of_pos hf, List.filter_nil]
  exact IntsAre.append h (.cons _ _ .nil)
theorem rangeF_no {f : Nat → Bool} {q : Nat} {zs : List Value} (h : IntsAre zs (((List.range q).filter f).map fun p : Nat => (p : Int))) (hf : f q = false) : IntsAre zs (((List.range (q + 1)).filter f).map fun p : Nat => (p : Int)) := by
  rw [List.range_succ, List.filter_append, List.map_append]
  show IntsAre _ (_ ++ List.map _ (List.filter f [q]))
  rw [List.filter_cons_of_neg (by rw [hf]; decide), List.filter_nil, List.map_nil, List.append_nil]
  exact h
theorem takeF_yes {f : Nat → Bool} {gl : List Nat} {q p : Nat} {zs : List Value} {t : Tok} (h : IntsAre zs (((gl.take q).filter f).map fun p : Nat => (p : Int))) (hp : gl[q]? = some p) (hf : f p = true) : IntsAre (zs ++ [.int (p : Nat) t]) (((gl.take (q + 1)).filter f).map fun p : Nat => (p : Int)) := by
  rw [List.take_add_one, hp, List.filter_append, List.map_append]
  show IntsAre _ (_ ++ List.map _ (List.filter f [p]))
  rw [List.filter_cons_of_pos hf, List.filter_nil]
  exact IntsAre.append h (.cons _ _ .nil)
theorem takeF_no {f : Nat → Bool} {gl : List Nat} {q p : Nat} {zs : List Value} (h : IntsAre zs (((gl.take q).filter f).map fun p : Nat => (p : Int))) (hp : gl[q]? = some p) (hf : f p = false) : IntsAre zs (((gl.take (q + 1)).filter f).map fun p : Nat => (p : Int)) := by
  rw [List.take_add_one, hp, List.filter_append, List.map_append]
  show IntsAre _ (_ ++ List.map _ (List.filter f [p]))
  rw [List.filter_cons_of_neg (by rw [hf]; decide), List.filter_nil, List.map_nil, List.append_nil]
  exact h
theorem ne_empty {prog : Program} {w : World} {A : Around} {E : Value → Shared → Prop} {s : Shared} {l b : Addr} {zs : List Value} {c c2 : Nat} {Q : Value → Shared → Prop}
    (hl : s.heap.get? l = some ({ cls := .type "list", data := .seq zs.toArray c } : Obj)) (hb : s.heap.get? b = some ({ cls := .type "list", data := .seq #[] c2 } : Obj)) (hu : A.units < cLine)
    (h : Q (.bool (!zs.isEmpty)) s) : wpAny (model prog w) A (compareOp .NotEq (.ref l) (.ref b)) Q E s := by
  cases zs with
  | nil => exact SeqAt.RcNeAt.lists (e := fun _ => true) ⟨_, hl, rfl, _, rfl⟩ ⟨_, hb, rfl, _, rfl⟩ rfl hu (fun j h1 _ => absurd h1 (Nat.not_lt_zero j)) prog w E Q h
  | cons z zs => exact SeqAt.RcNeAt.lists_lengths ⟨_, hl, rfl, _, rfl⟩ ⟨_, hb, rfl, _, rfl⟩ (by simp) hu prog w E Q h
theorem item0 {prog : Program} {w : World} {A : Around} {E : Value → Shared → Prop} {s : Shared} {value slice : Expr} {l : Addr} {v : Value} {vs : List Value} {c : Nat} {u : Tok} {Q : Value → Shared → Prop}
    (hl : s.heap.get? l = some ({ cls := .type "list", data := .seq (v :: vs).toArray c } : Obj)) (h : Q v s)
    (hs : subscripted slice false (.ref l) (.int 0 u) = operate [.ref l, .int 0 u] (getItem (.ref l) (.int 0 u)) := by with_unfolding_all rfl) :
    wpAny (model prog w) A (subscriptTail value slice (.ref l) (.int 0 u)) Q E s :=
  tail_any (Heap.IsList.typeIs ⟨_, hl, rfl, _, rfl⟩) F.slot_list_getitem.lookup (wpAny_getItem_list ⟨_, hl, rfl, _, rfl⟩ (by decide) (by decide) (by simp) h) hs
theorem cast_at {gl : List Nat} {zs : List Value} {q : Nat} {v : Value} (h : IntsAre zs (gl.map fun p : Nat => (p : Int))) (hv : zs[q]? = some v) : ∃ p t, gl[q]? = some p ∧ v = .int (p : Nat) t := by
  obtain ⟨k, t, h1, rfl⟩ := ints_turn h hv
  rw [List.getElem?_map] at h1
  cases hg : gl[q]? with
  | none => rw [hg] at h1; cases h1
  | some p => rw [hg] at h1; exact ⟨p, t, rfl, by rw [← Option.some.inj h1]⟩
theorem off_swap {C I : Addr} {o : Obj} (o2 : Obj) {l : List (Addr × Obj)} (h : ∀ p ∈ (C, o) :: l, p.1 ≠ I) : ∀ p ∈ (C, o2) :: l, p.1 ≠ I :=
  List.forall_mem_cons.mpr ⟨h (C, o) (.head _), fun p hp => h p (.tail _ hp)⟩
theorem lists_same {prog : Program} {w : World} {A : Around} {E : Value → Shared → Prop} {s : Shared} {l b : Addr} {its : Array Value} {c c2 : Nat} {Q : Value → Shared → Prop}
    (hl : s.heap.get? l = some ({ cls := .type "list", data := .seq its c } : Obj)) (hb : s.heap.get? b = some ({ cls := .type "list", data := .seq its c2 } : Obj)) (hu : A.units < cLine)
    (h : Q (.bool true) s) : wpAny (model prog w) A (compareOp .Eq (.ref l) (.ref b)) Q E s := by
  refine SeqAt.eq_listAt (e := fun _ => true) ⟨_, hl, rfl, _, rfl⟩ ⟨_, hb, rfl, _, rfl⟩ rfl hu (fun j g1 g2 => SeqAt.EqAt.same _) ?_
  rw [List.all_eq_true.mpr fun _ _ => rfl]; exact h
end Mine
namespace Mine
local macro_rules | `(tactic| k_all) => `(tactic| first | assumption | exact Mine.ne_of_allLt (‹AllLt _ _›) | exact Mine.ne_of_allLt (‹_ ∧ AllLt _ _›).2 | exact Mine.ne_of_allLt (‹_ ∧ _ ∧ AllLt _ _›).2.2 | exact Mine.ne_of_allLt (‹_ ∧ _ ∧ _ ∧ AllLt _ _›).2.2.2 | exact Mine.ne_of_allLt (‹_ ∧ _ ∧ _ ∧ _ ∧ AllLt _ _›).2.2.2.2 | exact Mine.ne_of_allLt (‹_ ∧ _ ∧ _ ∧ _ ∧ _ ∧ AllLt _ _›).2.2.2.2.2 | exact Mine.ne_of_allLt (‹_ ∧ _ ∧ _ ∧ _ ∧ _ ∧ _ ∧ AllLt _ _›).2.2.2.2.2.2 | exact Mine.ne_of_allLt (‹_ ∧ _ ∧ _ ∧ _ ∧ _ ∧ _ ∧ _ ∧ AllLt _ _›).2.2.2.2.2.2.2 | exact Mine.ne_of_allLt (‹_ ∧ _ ∧ _ ∧ _ ∧ _ ∧ _ ∧ _ ∧ _ ∧ AllLt _ _›).2.2.2.2.2.2.2.2 | exact Mine.ne_of_allLt (‹_ ∧ _ ∧ _ ∧ _ ∧ _ ∧ _ ∧ _ ∧ _ ∧ _ ∧ AllLt _ _›).2.2.2.2.2.2.2.2.2 | exact Mine.ne_of_allLt (‹_ ∧ _ ∧ _ ∧ _ ∧ _ ∧ _ ∧ _ ∧ _ ∧ _ ∧ _ ∧ AllLt _ _›).2.2.2.2.2.2.2.2.2.2 | exact Mine.ne_of_allLt (‹_ ∧ _ ∧ _ ∧ _ ∧ _ ∧ _ ∧ _ ∧ _ ∧ _ ∧ _ ∧ _ ∧ AllLt _ _›).2.2.2.2.2.2.2.2.2.2.2 | exact Mine.ne_of_allLt (‹_ ∧ _ ∧ _ ∧ _ ∧ _ ∧ _ ∧ _ ∧ _ ∧ _ ∧ _ ∧ _ ∧ _ ∧ AllLt _ _›).2.2.2.2.2.2.2.2.2.2.2.2 | exact Mine.ne_of_allLt (‹_ ∧ _ ∧ _ ∧ _ ∧ _ ∧ _ ∧ _ ∧ _ ∧ _ ∧ _ ∧ _ ∧ _ ∧ _ ∧ AllLt _ _›).2.2.2.2.2.2.2.2.2.2.2.2.2)
local macro_rules | `(tactic| walk_at "MINE step") => `(tactic| first | (k_unfold; (try dsimp only)) | walk1 | (dsimp only; walk1) | (leave1; walk_say "STEP leave1"; (try dsimp only)))
local macro_rules | `(tactic| k_mem) => `(tactic| (refine mem_of ?_; ktr_member))
/-- Entry() -/
theorem new_entry {w : World} {p : Program} {loose : List Str} {mean : ExcName → Option Value} {mg mb : Str → Option Value} {A₀ : Around} {base h₀ : Heap} {Ev Ev2 : Env} {L : Addr} {m : Str → Option Value} {nx : List (Addr × Obj)} {s : Shared} {Q E : Value → Shared → Prop} :
    (Mine.hd.heap_39 w.params).In h₀ → Below A₀ base [Ev] h₀ → Top p loose mean mg mb h₀ → Ev2.frame = some L → Ev2.scope.kind = .function →
    Fr h₀ L s.heap m → News h₀ L s.heap nx →
    (∀ h' tk' x d U R e1 e2 e3 e4 t1 t2 t3 t4, Fr h₀ L h' m → News h₀ L h' ((R, listOf #[] 0) :: (U, listOf #[] 0) :: (x, instObj 52 d) :: (d, dictOf [⟨e1, .str "useragents" t1, .ref U⟩, ⟨e2, .str "rulelines" t2, .ref R⟩, ⟨e3, .str "delay" t3, .none⟩, ⟨e4, .str "req_rate" t4, .none⟩] 4) :: nx) →
      AllLt d nx → @LT.lt Nat _ d x → @LT.lt Nat _ x U → @LT.lt Nat _ U R → Q (.ref x) { s with heap := h', toks := tk' }) →
    wpAny (model Challenge.rw_kn0089_03.row.prog w) ((callerA.deeper Ev).deeper Ev2) (call (.ref 52) []) Q E s := by
  w_top off
  k_fill
  intro X B T hEf hEk F N hQ
  k_dflt (refine' call_cls ?k1 ?k2 ?k3 ?k4 ?k5 ?k6 ?_; (case k1 => k_asm); (case k2 => k_asm); (case k3 => k_asm); (case k4 => k_is); (case k5 => k_is); (case k6 => k_is); k_whole; intro x d h1 F1 N1 l1 l2; (try k_lt l1); (try k_lt2 l2))
  k_dflt (refine' code_def (binds := [("self", .ref x)]) ?k1 ?k2 ?k3 ?k4 ?k5 ?kA ?kF ?kK ?k6 ?k7 ?k8 ?k9 ?kB ?_ ?c2 ?c3 ?c4 ?c5; (case kA => exact rfl); (case kF => assumption); (case kK => assumption); (case k1 => k_asm); (case k2 => k_asm); (case k3 => k_asm); (case k4 => k_asm); (case k5 => k_asm); (case k6 => k_is); (case k7 => k_is); (case k8 => k_room); (case k9 => exact BindsTo.of_eq rfl); (case c5 => decide); (case kB => exact locs rfl); (case c2 => exact rfl); (case c3 => exact rfl); (case c4 => exact rfl); k_whole; intro g' L' h' FG' F' N' B' X' T'; (try dsimp only); (try k_fold))
  repeat' (walk_at "MINE step")
  rename Fr _ _ _ _ => Fz
  rename News _ _ _ _ => Nz
  exact hQ _ _ _ _ _ _ _ _ _ _ _ _ _ _ Fz Nz (allLt_of l1) l2 (‹@LT.lt Nat _ x _ ∧ @LT.lt Nat _ d _ ∧ AllLt _ nx›).1 (‹@LT.lt Nat _ _ _ ∧ @LT.lt Nat _ x _ ∧ @LT.lt Nat _ d _ ∧ AllLt _ nx›).1

def JoinP (P : Value → Prop) (s : Shared) (v : Value) (s' : Shared) : Prop := P v ∧ ∃ tk, s' = { s with toks := tk }
theorem join_eval {M : Model} {A : Around} {E : Value → Shared → Prop} {s : Shared} {t : Sem Value} {Q : Value → Shared → Prop} (P : Value → Prop) (h1 : wpAny M A t (JoinP P s) E s) (h2 : ∀ v tk, P v → Q v { s with toks := tk }) : wpAny M A t Q E s :=
  wpAny_mono h1 (fun _ _ ⟨hp, tk, e⟩ => e ▸ h2 _ tk hp) fun _ _ e => e


def nm2 (j : Nat) : Str := if j = 0 then "/X%2F" else ""
def pick (a b : Int) (j : Nat) : Int := if j = 0 then a else b
/-- calling the lambda F with the j-th name tells how far the rule reaches -/
def ReachOk (w : World) (nx : List (Addr × Obj)) (F : Addr) (a b : Int) : Prop :=
  ∀ ⦃p : Program⦄ ⦃loose : List Str⦄ ⦃mean : ExcName → Option Value⦄ ⦃mg mb : Str → Option Value⦄ ⦃A₀ : Around⦄ ⦃base h₀ : Heap⦄ ⦃Ev Ev2 : Env⦄ ⦃L : Addr⦄ ⦃m : Str → Option Value⦄ ⦃nw : List (Addr × Obj)⦄ ⦃s : Shared⦄ ⦃j : Nat⦄ ⦃t : Tok⦄ ⦃Q E : Value → Shared → Prop⦄,
    (Mine.hd.heap_39 w.params).In h₀ → Below A₀ base [Ev] h₀ → Top p loose mean mg mb h₀ → Ev2.frame = some L → Ev2.scope.kind = .function →
    Fr h₀ L s.heap m → News h₀ L s.heap nw → (∀ p ∈ nx, p ∈ nw) → j < 2 →
    (∀ h' tk' tr, Fr h₀ L h' m → News h₀ L h' nw → Q (.int (pick a b j) tr) { s with heap := h', toks := tk' }) →
    wpAny (model Challenge.rw_kn0089_03.row.prog w) ((callerA.deeper Ev).deeper Ev2) (call (.ref F) [.str (nm2 j) t]) Q E s

theorem ReachOk.up {w : World} {nx nx' : List (Addr × Obj)} {F : Addr} {a b : Int} (h : ReachOk w nx F a b) (k : ∀ p ∈ nx, p ∈ nx') : ReachOk w nx' F a b := by
  intro _ _ _ _ _ _ _ _ _ _ _ _ _ _ _ _ _ _ X B T a b F N sub c hQ
  exact h X B T a b F N (fun p hp => sub p (k p hp)) c hQ
def RuleAt (w : World) (nx : List (Addr × Obj)) (x : Addr) (a b : Int) (al : Bool) : Prop :=
  ∃ d U R F e1 e2 e3 e4 e5 e6 t1 t2 t3 t4 t5 t6 oc od fd sl, (x, instObj 52 d) ∈ nx ∧
    (d, dictOf [⟨e1, .str "useragents" t1, .ref U⟩, ⟨e2, .str "rulelines" t2, .ref R⟩, ⟨e3, .str "delay" t3, .none⟩, ⟨e4, .str "req_rate" t4, .none⟩, ⟨e5, .str "allowance" t5, .bool al⟩, ⟨e6, .str "applies_to" t6, .ref F⟩] 6) ∈ nx ∧
    (F, (⟨oc, od, .func fd, sl⟩ : Obj)) ∈ nx ∧ ReachOk w nx F a b
theorem RuleAt.up {w : World} {nx nx' : List (Addr × Obj)} {x : Addr} {a b : Int} {al : Bool} (h : RuleAt w nx x a b al) (k : ∀ p ∈ nx, p ∈ nx') : RuleAt w nx' x a b al := by
  obtain ⟨d, U, R, F, e1, e2, e3, e4, e5, e6, t1, t2, t3, t4, t5, t6, oc, od, fd, sl, h1, h2, h3, h4⟩ := h
  exact ⟨d, U, R, F, e1, e2, e3, e4, e5, e6, t1, t2, t3, t4, t5, t6, oc, od, fd, sl, k _ h1, k _ h2, k _ h3, h4.up k⟩
theorem rule3 {w : World} {p : Program} {loose : List Str} {mean : ExcName → Option Value} {mg mb : Str → Option Value} {h₀ : Heap} {Ev : Env} {L : Addr} {m : Str → Option Value} {mu st : List (Addr × Obj)} {ps : Array Value} {s : Shared} {Q E : Value → Shared → Prop}
    {NA RA : Addr} {nk rk : Nat} {a b : Int} {ta tb t0 t1 : Tok} {al : Bool} :
    (Mine.hd.heap_39 w.params).In h₀ → Below callerA h₀ [] h₀ → Top p loose mean mg mb h₀ → CodeHd h₀ 62 58 → Ev.frame = some L → Ev.scope.kind = .function →
    Fr h₀ L s.heap m → News h₀ L s.heap ((58, tabObj ps) :: (mu ++ st)) → (∀ p ∈ mu ++ st, p.1 ≠ 58) → TabSt 55 22 "_law_rule.<locals>.<lambda>" st ps →
    (NA, ({ cls := .type "list", data := .seq (List.toArray [.str "/X%2F" t0, .str "" t1]) nk } : Obj)) ∈ mu ++ st → (RA, ({ cls := .type "list", data := .seq (List.toArray [.int a ta, .int b tb]) rk } : Obj)) ∈ mu ++ st →
    (∀ h' tk' x st' ps', Fr h₀ L h' m → News h₀ L h' ((58, tabObj ps') :: (mu ++ st')) → (∀ p ∈ mu ++ st', p.1 ≠ 58) → (∀ p ∈ st, p ∈ st') → (∀ p ∈ st', p ∈ st ∨ ∀ q ∈ mu ++ st, q.1 ≠ p.1) →
      TabSt 55 22 "_law_rule.<locals>.<lambda>" st' ps' → RuleAt w st' x a b al → Q (.ref x) { s with heap := h', toks := tk' }) →
    wpAny (model Challenge.rw_kn0089_03.row.prog w) (callerA.deeper Ev) (call (.ref 63) [.ref NA, .ref RA, .bool al]) Q E s := by
  w_top off
  k_fill
  intro X B T C hEf hEk F N h58 hps hNA hRA hQ
  obtain ⟨nx, hnx⟩ : ∃ nx, nx = mu ++ st := ⟨_, rfl⟩
  rw [← hnx] at N h58 hNA hRA
  refine wpAny_call ?_
  k_dflt (refine' code_defC (binds := [("names", .ref NA), ("reaches", .ref RA), ("allowed", .bool al)]) ?k1 ?k2 ?k3 ?k4 ?k5 ?kA ?kF ?kK ?k6 ?k7 ?k8 ?k9 ?kB ?kD ?_ ?c2 ?c3 ?c4; (case kA => exact rfl); (case kF => assumption); (case kK => assumption); (case k1 => k_asm); (case k2 => k_asm); (case k3 => k_asm); (case k4 => k_asm); (case k5 => k_asm); (case k6 => k_is); (case k7 => k_is); (case k8 => k_room); (case k9 => exact BindsTo.of_eq rfl); (case kB => exact rfl); (case kD => decide +kernel); (case c2 => exact rfl); (case c3 => exact rfl); (case c4 => exact rfl); k_whole; intro g' L' h' tk' cells' FG' F' N' Y' B' X' T' l1; (try k_lt l1))
  obtain ⟨oT, hE', d1'⟩ := CellsAre.one Y'
  have d1 : oT.data = .cell none := d1'
  subst hE'
  clear Y' d1'
  (try simp only [List.cons_append, List.nil_append] at N')
  (try dsimp only)
  repeat' ((fail_if_success (with_reducible show wpAny _ _ (call _ _ _) _ _ _)); walk_at "MINE step")
  refine new_entry (by k_asm) B' (by k_asm) (by rfl) (by rfl) (by k_asm) (by k_asm) ?_
  intro h2 tk2 x d U R e1 e2 e3 e4 u1 u2 u3 u4 F2 N2 l2 l3 l4 l5
  dsimp only [AllLt] at l2
  repeat ((fail_if_success (with_reducible show wpAny _ _ (eval (Expr.Dict _ _ _) _) _ _ _)); walk_at "MINE step")
  rename Fr _ _ _ _ => F3
  rename News _ _ _ _ => N3
  refine kdn_eval (knd := PySem.strKind _ w) F3 N3 (Top.nolimit T') (by rfl) (by rfl) (by nofun) (by decide) ?_
  intro dt h3 o3 F4 N4 l6 lm3 hd3
  dsimp only [AllLt] at *
  repeat ((fail_if_success (with_reducible show wpAny _ _ (subscriptTail _ _ _ _) _ _ _)); walk_at "MINE step")
  refine item0 (News.get (by assumption) (by k_mem)) ?_
  repeat ((fail_if_success (with_reducible show wpAny _ _ (subscriptTail _ _ _ _) _ _ _)); walk_at "MINE step")
  refine item0 (News.get (by assumption) (by k_mem)) ?_
  repeat ((fail_if_success (with_reducible show wpAny _ _ (subscriptTail _ _ _ _) _ _ _)); walk_at "MINE step")
  refine item1 (News.get (by assumption) (by k_mem)) ?_
  repeat ((fail_if_success (with_reducible show wpAny _ _ (subscriptTail _ _ _ _) _ _ _)); walk_at "MINE step")
  refine item1 (News.get (by assumption) (by k_mem)) ?_
  repeat ((with_reducible show wpAny _ _ _ _ _ _); walk_at "MINE step")
  refine kdn_made_strF (by assumption) (by assumption) (.head fun p hp => Nat.ne_of_lt (l6 p hp)) hd3 (by rfl) (of_decide_eq_true (by rfl)) (by rfl) ?_
  intro h5 o5 F5 N5 hd5 hf5
  clear F3 N3
  try clear F4
  try clear N4
  have l6' : @LT.lt Nat _ R dt ∧ @LT.lt Nat _ 58 dt ∧ @LT.lt Nat _ (L' + 1) dt := ⟨l6 (R, _) (by k_mem), l6 (58, tabObj ps) (by k_mem), l6 (L' + 1, oT) (by k_mem)⟩
  have l6n : ∀ p ∈ nx, p.1 < dt := fun p hp => l6 p (by repeat (first | exact hp | refine List.mem_cons_of_mem _ ?_))
  have l6o : ∀ p ∈ nx, p.1 ≠ dt := fun p hp => Nat.ne_of_lt (l6n p hp)
  clear l6
  have hnL : ∀ p ∈ nx, p.1 ≠ L' + 1 := fun p hp => by have := lt_of_allLt l1.2 p hp; exact Nat.ne_of_lt (Nat.lt_of_lt_of_le this (Nat.le_add_right _ 1))
  repeat ((fail_if_success (with_reducible show wpAny _ _ (eval (Expr.Lambda _ _ _ _) _) _ _ _)); walk_at "MINE step")
  rename Fr _ _ _ _ => F6
  rename News _ _ _ _ => N6
  have hsub : ∀ p ∈ st, p ∈ nx := fun p hp => by rw [hnx]; exact List.mem_append_right _ hp
  k_dflt (refine' kla_eval ?d0 ?_; (case d0 => exact rfl))
  k_dflt (refine lam_join (c := 62) (P := 58) (pre := [_, _, _, _, _, _]) (nx := nx) F6 N6 T' (C.keeps (Below.stays B')) rfl ?hpre h58 hsub hps rfl ?_)
  case hpre => k_all
  intro f c' oc vs t ctv h7 tk7 cx F7 N7 s2 hc' dc1 dc2 lf1 lf2
  simp only [List.cons_append, List.nil_append] at N7 s2 lf1
  clear F6 N6
  try clear F5
  try clear N5
  have ld : @LT.lt Nat _ d f := lf1 (d, _) (by k_mem)
  obtain ⟨nx', hnx'⟩ : ∃ nx', nx' = cx ++ nx := ⟨_, rfl⟩
  rw [← hnx'] at N7
  have lnd : ∀ p ∈ nx', p.1 ≠ d := fun p hp => by
    rw [hnx'] at hp
    rcases List.mem_append.mp hp with hp | hp
    · exact Nat.ne_of_gt (s2 p hp (d, _) (by k_mem))
    · exact ne_of_allLt l2.2.2 p hp
  obtain ⟨oT2, dT2, N7⟩ : ∃ oT2, oT2.data = .cell (some (.ref dt)) ∧ News g' L' h7 ((f, _) :: (dt, o5) :: (R, listOf #[] 0) :: (U, listOf #[] 0) :: (x, instObj 52 d) :: (d, _) :: (L' + 1, oT2) :: (58, _) :: nx') := ⟨_, by assumption, N7⟩
  repeat' (walk_at "MINE step")
  rename Fr _ _ _ _ => Fz
  rename News _ _ _ _ => Nz
  have lin : ∀ q ∈ nx, q ∈ nx' := fun q hq => by rw [hnx']; exact List.mem_append_right _ hq
  have hdN : ∀ q ∈ nx, @LT.lt Nat _ q.1 d := lt_of_allLt l2.2.2
  have hLN : ∀ q ∈ nx, @LT.lt Nat _ q.1 L' := lt_of_allLt l1.2
  have hcP : ∀ p ∈ cx, p.1 ≠ 58 := fun p hp => Nat.ne_of_gt (s2 p hp (58, _) (by k_mem))
  have hcN : ∀ p ∈ cx, ∀ q ∈ mu ++ st, q.1 ≠ p.1 := fun p hp q hq => Nat.ne_of_lt (s2 p hp q (by rw [hnx]; repeat (first | exact hq | refine List.mem_cons_of_mem _ ?_)))
  rw [hnx', hnx] at Nz
  obtain ⟨stx, Nq, offq, upq, freq, preq, cxq⟩ := regroup (pre := [_, _, _, _, _, _, _]) (cx := cx) (mu := mu) (st := st) Nz (by k_all) (by
      rw [← hnx]
      repeat' (first | exact List.forall_mem_nil _ | refine List.forall_mem_cons.mpr ⟨fun q hq => ?_, ?_⟩)
      all_goals (have h1 := hdN q hq; have h2 := hLN q hq)
      all_goals first | k_ne | exact Nat.ne_of_lt (l6n q hq) | exact Nat.ne_of_lt (lf1 q (by repeat (first | exact hq | refine List.mem_cons_of_mem _ ?_)))) hcP hcN (by rw [← hnx]; exact h58)
  have hoT : (L' + 1, oT2) ∈ stx := preq _ (by k_mem)
  have hdt : (dt, o5) ∈ stx := preq _ (by k_mem)
  have hx' : (x, instObj 52 d) ∈ stx := preq _ (by k_mem)
  have hf := preq (f, _) (by k_mem)
  have hcc := cxq _ hc'
  have hRO : ReachOk w stx f a b := by
    clear hQ Fz Nz Nq lnd lin
    intro p loose mean mg mb A₀ base h₀ Ev Ev2 L m nw s j t Q E X B T hEf hEk F N sub hj hQ
    have hoT' := sub _ hoT
    have hdt' := sub _ hdt
    have hf' := sub _ hf
    have hcc' := sub _ hcc
    clear sub hoT hdt hf hcc
    have hj2 : j = 0 ∨ j = 1 := by omega
    refine wpAny_call ?_
    rcases hj2 with rfl | rfl
    all_goals
      k_dflt (refine' kla_code ?k1 ?k2 ?k3 ?k4 ?k5 ?kA ?kF ?kK ?k6 ?k7 ?k8 ?k9 ?kB ?_ ?c2 ?c3 ?c4 ?c5; (case kA => exact rfl); (case kF => assumption); (case kK => assumption); (case k1 => k_asm); (case k2 => k_asm); (case k3 => k_asm); (case k4 => k_asm); (case k5 => k_asm); (case k6 => exact hf'); (case k7 => exact codeRec_news (by k_asm) hcc' (by assumption) (by assumption)); (case k8 => k_room); (case k9 => exact rfl); (case c5 => decide); (case kB => exact locs rfl); (case c2 => exact rfl); (case c3 => exact rfl); (case c4 => exact rfl); k_whole; intro g' L' h' FG' F' N' B' X' T'; (try dsimp only); (try k_fold))
      repeat' (walk_at "MINE step")
      rename Fr _ _ _ _ => Fz
      rename News _ _ _ _ => Nz
      exact hQ _ _ _ Fz Nz
  refine hQ _ _ x stx _ Fz Nq offq upq freq (.inr ⟨c', oc, vs, t, rfl, hcc, dc1, dc2⟩) ?_
  exact ⟨d, U, R, f, _, _, _, _, _, _, _, _, _, _, _, _, _, _, _, _, hx', preq _ (by k_mem), hf, hRO⟩
end Mine
namespace Mine
local macro_rules | `(tactic| k_all) => `(tactic| first | assumption | exact Mine.ne_of_allLt (‹AllLt _ _›) | exact Mine.ne_of_allLt (‹_ ∧ AllLt _ _›).2 | exact Mine.ne_of_allLt (‹_ ∧ _ ∧ AllLt _ _›).2.2 | exact Mine.ne_of_allLt (‹_ ∧ _ ∧ _ ∧ AllLt _ _›).2.2.2 | exact Mine.ne_of_allLt (‹_ ∧ _ ∧ _ ∧ _ ∧ AllLt _ _›).2.2.2.2 | exact Mine.ne_of_allLt (‹_ ∧ _ ∧ _ ∧ _ ∧ _ ∧ AllLt _ _›).2.2.2.2.2 | exact Mine.ne_of_allLt (‹_ ∧ _ ∧ _ ∧ _ ∧ _ ∧ _ ∧ AllLt _ _›).2.2.2.2.2.2 | exact Mine.ne_of_allLt (‹_ ∧ _ ∧ _ ∧ _ ∧ _ ∧ _ ∧ _ ∧ AllLt _ _›).2.2.2.2.2.2.2 | exact Mine.ne_of_allLt (‹_ ∧ _ ∧ _ ∧ _ ∧ _ ∧ _ ∧ _ ∧ _ ∧ AllLt _ _›).2.2.2.2.2.2.2.2 | exact Mine.ne_of_allLt (‹_ ∧ _ ∧ _ ∧ _ ∧ _ ∧ _ ∧ _ ∧ _ ∧ _ ∧ AllLt _ _›).2.2.2.2.2.2.2.2.2 | exact Mine.ne_of_allLt (‹_ ∧ _ ∧ _ ∧ _ ∧ _ ∧ _ ∧ _ ∧ _ ∧ _ ∧ _ ∧ AllLt _ _›).2.2.2.2.2.2.2.2.2.2 | exact Mine.ne_of_allLt (‹_ ∧ _ ∧ _ ∧ _ ∧ _ ∧ _ ∧ _ ∧ _ ∧ _ ∧ _ ∧ _ ∧ AllLt _ _›).2.2.2.2.2.2.2.2.2.2.2 | exact Mine.ne_of_allLt (‹_ ∧ _ ∧ _ ∧ _ ∧ _ ∧ _ ∧ _ ∧ _ ∧ _ ∧ _ ∧ _ ∧ _ ∧ AllLt _ _›).2.2.2.2.2.2.2.2.2.2.2.2 | exact Mine.ne_of_allLt (‹_ ∧ _ ∧ _ ∧ _ ∧ _ ∧ _ ∧ _ ∧ _ ∧ _ ∧ _ ∧ _ ∧ _ ∧ _ ∧ AllLt _ _›).2.2.2.2.2.2.2.2.2.2.2.2.2)
local macro_rules | `(tactic| walk_at "MINE step") => `(tactic| first | (k_unfold; (try dsimp only)) | walk1 | (dsimp only; walk1) | (leave1; walk_say "STEP leave1"; (try dsimp only)))
local macro_rules | `(tactic| k_mem) => `(tactic| (refine mem_of ?_; ktr_member))
local macro_rules | `(tactic| walk_at "MINE to for") => `(tactic| repeat ((fail_if_success (with_reducible show wpAny _ _ (exec (Stmt.For _ _ _ _ _) _) _ _ _)); walk_at "MINE step"))
local macro_rules | `(tactic| walk_at "MINE to iter") => `(tactic| repeat ((fail_if_success (with_reducible show wpAny _ _ (pyIter _) _ _ _)); walk_at "MINE step"))
local macro_rules | `(tactic| walk_at "LoopPost") => `(tactic| (dsimp only [LoopPost]))
local macro_rules | `(tactic| walk_at "getMethod ref") => `(tactic| (k_here; k_dflt (refine' method_own ?k1 ?k2 ?k3 ?k4 ?k5 ?k6 ?k7 ?_; (case k1 => k_asm); (case k2 => k_asm); (case k3 => k_inst); (case k4 => k_is); (case k5 => k_is); (case k6 => k_is); (case k7 => k_get); k_whole)))
local macro_rules | `(tactic| walk_at "getAttr ref") => `(tactic| (k_here; k_dflt (refine' get_own2 ?k1 ?k2 ?k3 ?k4 ?k5 ?k6 ?k7 ?k7b ?k8 ?k9 ?_; (case k1 => k_asm); (case k2 => k_asm); (case k3 => k_inst); (case k4 => k_is); (case k5 => k_is); (case k6 => k_is); (case k7 => k_is); (case k7b => k_is); (case k8 => k_get); (case k9 => k_handed); k_whole)))
local macro_rules | `(tactic| walk_at "truthy str") => `(tactic| (k_here; (with_reducible show wpAny _ _ (PySem.truthy (Value.str _ _)) _ _ _); (refine KXt.truthy (by assumption) (by omega) ?_); intro _))

/-- what a rule tells: how far at the first name, at the second, and whether it allows -/
abbrev Ru := Int × Int × Bool
def far (j : Nat) (r : Ru) : Int := pick r.1 r.2.1 j
def ruStep (j : Nat) (r : Ru) (st : Int × Bool) : Int × Bool :=
  if far j r = 0 then st else if st.1 < far j r then (far j r, r.2.2) else if far j r = st.1 ∧ st.2 = false then (st.1, r.2.2) else st
def ruRun (j : Nat) : List Ru → Int × Bool → Int × Bool
  | [], st => st
  | r :: rs, st => ruRun j rs (ruStep j r st)
def Rules3 (w : World) (nx : List (Addr × Obj)) (rl : List Value) (rs : List Ru) : Prop := rl.length = rs.length ∧ ∀ (i : Nat) (r : Ru), rs[i]? = some r → ∃ x, rl[i]? = some (.ref x) ∧ RuleAt w nx x r.1 r.2.1 r.2.2
theorem Rules3.up {w : World} {st st2 : List (Addr × Obj)} {rl : List Value} {rs : List Ru} (h : Rules3 w st rl rs) (up : ∀ p ∈ st, p ∈ st2) : Rules3 w st2 rl rs :=
  ⟨h.1, fun k n hk => by obtain ⟨x, h1, h2⟩ := h.2 k n hk; exact ⟨x, h1, h2.up up⟩⟩
theorem allow_ok {w : World} {p : Program} {loose : List Str} {mean : ExcName → Option Value} {mg mb : Str → Option Value} {h₀ : Heap} {Ev : Env} {L : Addr} {m : Str → Option Value} {nw : List (Addr × Obj)} {s : Shared} {Q E : Value → Shared → Prop}
    {x d U RL : Addr} {e1 e2 e3 e4 : Int} {t1 t2 t3 t4 t : Tok} {rl : List Value} {rs : List Ru} {j kr : Nat} :
    (Mine.hd.heap_39 w.params).In h₀ → Below callerA h₀ [] h₀ → Top p loose mean mg mb h₀ → Ev.frame = some L → Ev.scope.kind = .function →
    Fr h₀ L s.heap m → News h₀ L s.heap nw →
    (x, instObj 52 d) ∈ nw → (d, dictOf [⟨e1, .str "useragents" t1, .ref U⟩, ⟨e2, .str "rulelines" t2, .ref RL⟩, ⟨e3, .str "delay" t3, .none⟩, ⟨e4, .str "req_rate" t4, .none⟩] 4) ∈ nw → (RL, ({ cls := .type "list", data := .seq rl.toArray kr } : Obj)) ∈ nw → Rules3 w nw rl rs → rs.length ≤ 10 → j < 2 →
    (∀ h' tk', Fr h₀ L h' m → News h₀ L h' nw → Q (.bool (ruRun j rs (-1, true)).2) { s with heap := h', toks := tk' }) →
    wpAny (model Challenge.rw_kn0089_03.row.prog w) (callerA.deeper Ev) (call (.ref 49) [.ref x, .str (nm2 j) t]) Q E s := by
  w_top off
  k_fill
  intro X B T hEf hEk F N hx hd hRL hR hlen hj hQ
  refine wpAny_call ?_
  k_dflt (refine' code_def (binds := [("self", .ref x), ("filename", .str (nm2 j) t)]) ?k1 ?k2 ?k3 ?k4 ?k5 ?kA ?kF ?kK ?k6 ?k7 ?k8 ?k9 ?kB ?_ ?c2 ?c3 ?c4 ?c5; (case kA => exact rfl); (case kF => assumption); (case kK => assumption); (case k1 => k_asm); (case k2 => k_asm); (case k3 => k_asm); (case k4 => k_asm); (case k5 => k_asm); (case k6 => k_is); (case k7 => k_is); (case k8 => k_room); (case k9 => exact BindsTo.of_eq rfl); (case c5 => decide); (case kB => exact locs rfl); (case c2 => exact rfl); (case c3 => exact rfl); (case c4 => exact rfl); k_whole; intro g' L' h' FG' F' N' B' X' T'; (try dsimp only); (try k_fold))
  walk_at "MINE to for"
  refine wpAny_For ?_
  walk_at "MINE to iter"
  rename Fr _ _ _ _ => F1
  rename News _ _ _ _ => N1
  obtain ⟨m1, hm1, F1g⟩ := frSome F1
  obtain ⟨tb0, htb0⟩ : ∃ tb, m1 "best_match" = some (.int (-1) tb) := ⟨_, by rw [hm1]; rfl⟩
  refine for_listK (its := rl.toArray) ["m"] (fun i ps nx' => nx' = nw ∧ ∃ b tb a, ps = ([("best_match", .int b tb), ("allowance", .bool a), ("filename", .str (nm2 j) t)] : List (Str × Value)) ∧ ruRun j rs (-1, true) = ruRun j (rs.drop i) (b, a))
    [("best_match", .int (-1) tb0), ("allowance", .bool true), ("filename", .str (nm2 j) t)] (by rfl) F1g N1 ?hS (List.forall_mem_cons.mpr ⟨htb0, List.forall_mem_cons.mpr ⟨by rw [hm1]; rfl, List.forall_mem_cons.mpr ⟨by rw [hm1]; rfl, List.forall_mem_nil _⟩⟩⟩) ⟨rfl, -1, tb0, true, rfl, rfl⟩ (by rfl) (by rfl) ?turn ?done
  case hS =>
    rintro i ps nx' ⟨rfl, _⟩
    exact .inr ⟨_, hRL, rfl, _, rfl⟩
  case turn =>
    rintro I i v ps nx' oI h tk u hi ⟨rfl, b, tb, a, rfl, hrun⟩ F2 N2 off2
    obtain ⟨r, hr⟩ : ∃ r, rs[i]? = some r := by
      have : i < rs.length := by
        rw [← hR.1]
        have := (Array.getElem?_eq_some_iff.mp hi).1
        simpa using this
      exact ⟨_, List.getElem?_eq_getElem this⟩
    have hdrop : rs.drop i = r :: rs.drop (i + 1) := by
      obtain ⟨hl, he⟩ := List.getElem?_eq_some_iff.mp hr
      rw [List.drop_eq_getElem_cons hl, he]
    rw [hdrop] at hrun
    obtain ⟨x2, hx2, d2, U2, R2, F2a, _, _, _, _, _, _, _, _, _, _, _, _, _, _, _, _, r1, r2, r3, r4⟩ := hR.2 i r hr
    have hv : v = .ref x2 := by
      rw [List.getElem?_toArray, hx2] at hi
      exact (Option.some.inj hi).symm
    subst hv
    clear F1 F1g hm1 htb0 N1
    repeat ((fail_if_success (with_reducible show wpAny _ _ (callWith _ _ _ _ _) _ _ _)); walk_at "MINE step")
    dsimp only
    k_dflt (refine' callWith_F ?k1 ?_; (case k1 => exact FnAt.of (by k_asm) (by k_mem)); k_whole)
    repeat ((with_reducible show wpAny _ _ _ _ _ _); (fail_if_success (with_reducible show wpAny _ _ (call _ _) _ _ _)); walk_at "MINE step")
    refine ⟨by k_dflt (exact FnAt.of (by k_asm) (by k_mem)), ?_⟩
    repeat ((fail_if_success (with_reducible show wpAny _ _ (call _ _) _ _ _)); walk_at "MINE step")
    rename Fr _ _ _ _ => F3
    rename News _ _ _ _ => N3
    refine' r4 ?c1 ?c2 ?c3 ?c4 ?c5 F3 N3 (fun p hp => List.mem_cons_of_mem _ hp) hj ?_
    case c4 => rfl
    case c5 => rfl
    case c1 => exact X'
    case c2 => exact B'
    case c3 => exact T'
    intro h4 tk4 tr4 F4 N4
    clear F3 N3
    obtain ⟨rc, hrc⟩ : ∃ rc, rc = far j r := ⟨_, rfl⟩
    obtain ⟨al, hal⟩ : ∃ al, al = r.2.2 := ⟨_, rfl⟩
    rw [← hal] at r2
    rw [show pick r.1 r.2.1 j = rc from hrc.symm]
    have hst : ruStep j r (b, a) = if rc = 0 then (b, a) else if b < rc then (rc, al) else if rc = b ∧ a = false then (b, al) else (b, a) := by unfold ruStep; rw [← hrc, ← hal]
    have hrun2 : ruRun j rs (-1, true) = ruRun j (rs.drop (i + 1)) (ruStep j r (b, a)) := hrun
    clear hrun
    cases a
    all_goals
      repeat' (walk_at "MINE step")
      all_goals
        rename Fr _ _ _ _ => Fz
        rename News _ _ _ _ => Nz
        refine LoopEnd.intro Fz Nz (fun _ h => h) off2 ⟨[("best_match", .int _ _), ("allowance", .bool _), ("filename", .str (nm2 j) t)], List.forall_mem_cons.mpr ⟨by rfl, List.forall_mem_cons.mpr ⟨by rfl, List.forall_mem_cons.mpr ⟨by rfl, List.forall_mem_nil _⟩⟩⟩, ?_, rfl, _, _, _, rfl, ?_⟩
        · intro z g1 g2 g3
          have a1 : z ≠ "m" := notin g3 (by rfl)
          have b1 : z ≠ "best_match" := g2 _ (.head _)
          have b2 : z ≠ "allowance" := g2 _ (.tail _ (.head _))
          have b3 : z ≠ "filename" := g2 _ (.tail _ (.tail _ (.head _)))
          simp only [kstB, if_neg a1, if_neg b1, if_neg b2, if_neg b3, if_neg g1, g3, Bool.false_eq_true, if_false]
        · rw [hrun2, hst]
          first
          | rw [if_pos (by assumption)]
          | rw [if_neg (by assumption), if_pos (by assumption)]
          | rw [if_neg (by assumption), if_neg (by assumption), if_pos ⟨by assumption, rfl⟩]
          | rw [if_neg (by assumption), if_neg (by assumption), if_neg (by rintro ⟨z1, z2⟩; first | exact absurd z1 (by assumption) | cases z2)]
  case done =>
    rintro ps nx' h tk u ⟨rfl, b, tb, a, rfl, hrun⟩ F2 N2
    have hsz : rl.toArray.size = rs.length := by simpa using hR.1
    rw [hsz, List.drop_length] at hrun
    clear F1 F1g hm1 htb0 N1
    repeat' (walk_at "MINE step")
    rename Fr _ _ _ _ => Fz
    rename News _ _ _ _ => Nz
    obtain rfl : a = (ruRun j rs (-1, true)).2 := by rw [hrun]; rfl
    exact hQ _ _ Fz Nz
end Mine
namespace Mine
def b2i (a : Bool) : Int := if a = true then 1 else 0
def score (j : Nat) (r : Ru) : Int := 2 * far j r + b2i r.2.2
def scores (j : Nat) (rs : List Ru) : List Int := (rs.filter fun r => decide (0 < far j r)).map (score j)
def top (j : Nat) (rs : List Ru) : Int := (scores j rs).foldl max 1
def FarOk (j : Nat) (rs : List Ru) : Prop := ∀ r ∈ rs, 0 ≤ far j r
theorem max_ge : ∀ (l : List Int) (a : Int), a ≤ l.foldl max a ∧ ∀ x ∈ l, x ≤ l.foldl max a
  | [], a => ⟨Int.le_refl _, fun _ h => nomatch h⟩
  | y :: l, a => by
    obtain ⟨h1, h2⟩ := max_ge l (max a y)
    rw [List.foldl_cons]
    exact ⟨Int.le_trans (Int.le_max_left _ _) h1, fun x hx => by
      rcases List.mem_cons.mp hx with rfl | hx
      · exact Int.le_trans (Int.le_max_right _ _) h1
      · exact h2 x hx⟩
theorem max_mem : ∀ (l : List Int) (a : Int), l.foldl max a = a ∨ l.foldl max a ∈ l
  | [], a => .inl rfl
  | y :: l, a => by
    rw [List.foldl_cons]
    rcases max_mem l (max a y) with h | h
    · rcases Int.le_total a y with hay | hay
      · rw [h, Int.max_eq_right hay]; exact .inr (.head _)
      · rw [h, Int.max_eq_left hay]; exact .inl rfl
    · exact .inr (.tail _ h)
/-- the one number that is among 1 and l and not below any -/
theorem max_is {l : List Int} {M : Int} (hm : M ∈ 1 :: l) (hge : ∀ a, a ∈ 1 :: l → a ≤ M) : M = l.foldl max 1 := by
  obtain ⟨h1, h2⟩ := max_ge l 1
  refine Int.le_antisymm ?_ ?_
  · rcases List.mem_cons.mp hm with rfl | h
    · exact h1
    · exact h2 M h
  · rcases max_mem l 1 with h | h
    · rw [h]; exact hge 1 (.head _)
    · exact hge _ (.tail _ h)
theorem run_top : ∀ (j : Nat) (rs : List Ru) (b : Int) (a : Bool) (M : Int), FarOk j rs → M = (if b = -1 then 1 else 2 * b + b2i a) → (b = -1 → a = true) → (b = -1 ∨ 1 ≤ b) →
    ∃ b' a', ruRun j rs (b, a) = (b', a') ∧ (scores j rs).foldl max M = (if b' = -1 then 1 else 2 * b' + b2i a') ∧ (b' = -1 → a' = true) ∧ (b' = -1 ∨ 1 ≤ b')
  | j, [], b, a, M, _, hM, h1, h2 => ⟨b, a, rfl, hM, h1, h2⟩
  | j, r :: rs, b, a, M, hf, hM, h1, h2 => by
    have hf0 := hf r (.head _)
    have hr : FarOk j rs := fun x hx => hf x (.tail _ hx)
    by_cases h0 : far j r = 0
    · have hs : scores j (r :: rs) = scores j rs := by unfold scores; rw [List.filter_cons_of_neg (by rw [decide_eq_false (by omega)]; decide)]
      rw [hs]
      show ∃ b' a', ruRun j rs (ruStep j r (b, a)) = _ ∧ _
      rw [show ruStep j r (b, a) = (b, a) by unfold ruStep; rw [if_pos h0]]
      exact run_top j rs b a M hr hM h1 h2
    · have hpos : 0 < far j r := by omega
      have hs : scores j (r :: rs) = score j r :: scores j rs := by unfold scores; rw [List.filter_cons_of_pos (by exact decide_eq_true hpos)]; rfl
      rw [hs, List.foldl_cons]
      show ∃ b' a', ruRun j rs (ruStep j r (b, a)) = _ ∧ _
      have hst : ruStep j r (b, a) = if b < far j r then (far j r, r.2.2) else if far j r = b ∧ a = false then (b, r.2.2) else (b, a) := by unfold ruStep; rw [if_neg h0]
      rw [hst]
      have hsc : score j r = 2 * far j r + b2i r.2.2 := rfl
      have hb0 : b2i false = 0 := rfl
      have hb1 : b2i true = 1 := rfl
      by_cases hlt : b < far j r
      · rw [if_pos hlt]
        refine run_top j rs _ _ _ hr ?_ (fun h => by omega) (.inr hpos)
        rw [hM, hsc, if_neg (by omega : ¬ far j r = -1)]
        cases a <;> cases r.2.2 <;> simp only [hb0, hb1] <;> (repeat' split) <;> omega
      · rw [if_neg hlt]
        by_cases he : far j r = b ∧ a = false
        · rw [if_pos he]
          refine run_top j rs _ _ _ hr ?_ (fun h => by omega) h2
          rw [hM, hsc, he.2, if_neg (by omega : ¬ b = -1)]
          cases r.2.2 <;> simp only [hb0, hb1] <;> omega
        · rw [if_neg he]
          refine run_top j rs _ _ _ hr ?_ h1 h2
          rw [hM, hsc, if_neg (by omega : ¬ b = -1)]
          cases a <;> cases r.2.2 <;> simp only [hb0, hb1] at he ⊢ <;> simp at he <;> omega
theorem verdict {j : Nat} {rs : List Ru} (h : FarOk j rs) : (ruRun j rs (-1, true)).2 = decide (top j rs % 2 = 1) := by
  obtain ⟨b', a', e, hm, h1, h2⟩ := run_top j rs (-1) true 1 h rfl (fun _ => rfl) (.inl rfl)
  unfold top
  rw [e, hm]
  by_cases hb : b' = -1
  · rw [if_pos hb, h1 hb]; rfl
  · rw [if_neg hb]
    cases a' <;> simp [b2i] <;> omega
theorem top_ins {j p : Nat} {rs : List Ru} {r : Ru} (hp : p ≤ rs.length) (hr : 0 < far j r) : top j (rs.insertIdx p r) = max (top j rs) (score j r) := by
  symm
  obtain ⟨g1, g2⟩ := max_ge (scores j rs) 1
  have hmem : ∀ x, x ∈ scores j (rs.insertIdx p r) ↔ x = score j r ∨ x ∈ scores j rs := fun x => by
    unfold scores
    simp only [List.mem_map, List.mem_filter, List.mem_insertIdx hp, decide_eq_true_eq]
    constructor
    · rintro ⟨y, ⟨rfl | hy, h2⟩, rfl⟩
      · exact .inl rfl
      · exact .inr ⟨y, ⟨hy, h2⟩, rfl⟩
    · rintro (rfl | ⟨y, ⟨hy, h2⟩, rfl⟩)
      · exact ⟨r, ⟨.inl rfl, hr⟩, rfl⟩
      · exact ⟨y, ⟨.inr hy, h2⟩, rfl⟩
  refine max_is ?_ fun a ha => ?_
  · rcases Int.le_total (top j rs) (score j r) with h | h
    · rw [Int.max_eq_right h]; exact .tail _ ((hmem _).mpr (.inl rfl))
    · rw [Int.max_eq_left h]
      rcases max_mem (scores j rs) 1 with e | e
      · unfold top; rw [e]; exact .head _
      · exact .tail _ ((hmem _).mpr (.inr e))
  · rcases List.mem_cons.mp ha with rfl | ha
    · exact Int.le_trans g1 (Int.le_max_left _ _)
    · rcases (hmem a).mp ha with rfl | ha
      · exact Int.le_max_right _ _
      · exact Int.le_trans (g2 a ha) (Int.le_max_left _ _)
theorem top_pos {j : Nat} {rs : List Ru} : 1 ≤ top j rs := (max_ge (scores j rs) 1).1
theorem farOk_ins {j p : Nat} {rs : List Ru} {r : Ru} (hp : p ≤ rs.length) (h : FarOk j rs) (hr : 0 ≤ far j r) : FarOk j (rs.insertIdx p r) := fun x hx => by
  rcases (List.mem_insertIdx hp).mp hx with rfl | hx
  · exact hr
  · exact h x hx
/-- a rule that forbids is put in -/
theorem ins_no {j p : Nat} {rs : List Ru} {k : Int} (hp : p ≤ rs.length) (h : FarOk j rs) (hk : 1 ≤ k) : (ruRun j (rs.insertIdx p (k, k, false)) (-1, true)).2 = (decide (top j rs % 2 = 1) && decide (k ≤ top j rs / 2)) := by
  have hf : far j (k, k, false) = k := by unfold far pick; split <;> rfl
  have hs : score j (k, k, false) = 2 * k := by unfold score; rw [hf]; simp [b2i]
  rw [verdict (farOk_ins hp h (by rw [hf]; omega)), top_ins hp (by rw [hf]; omega), hs]
  have := top_pos (j := j) (rs := rs)
  by_cases h1 : top j rs % 2 = 1 <;> by_cases h2 : k ≤ top j rs / 2 <;> simp only [h1, h2, decide_true, decide_false, Bool.and_true, Bool.and_false, decide_eq_true_eq, decide_eq_false_iff_not] <;> omega
/-- a rule that allows is put in -/
theorem ins_yes {j p : Nat} {rs : List Ru} {k : Int} (hp : p ≤ rs.length) (h : FarOk j rs) (hk : 1 ≤ k) : (ruRun j (rs.insertIdx p (k, k, true)) (-1, true)).2 = (decide (top j rs % 2 = 1) || decide (top j rs / 2 ≤ k)) := by
  have hf : far j (k, k, true) = k := by unfold far pick; split <;> rfl
  have hs : score j (k, k, true) = 2 * k + 1 := by unfold score; rw [hf]; simp [b2i]
  rw [verdict (farOk_ins hp h (by rw [hf]; omega)), top_ins hp (by rw [hf]; omega), hs]
  have := top_pos (j := j) (rs := rs)
  by_cases h1 : top j rs % 2 = 1 <;> by_cases h2 : top j rs / 2 ≤ k <;> simp only [h1, h2, decide_true, decide_false, Bool.or_true, Bool.or_false, decide_eq_true_eq, decide_eq_false_iff_not] <;> omega
end Mine
namespace Mine
theorem take_ins {α : Type} {y : α} : ∀ (vs : List α) (p : Nat), p ≤ vs.length → vs.take p ++ y :: vs.drop p = vs.insertIdx p y
  | vs, 0, _ => by simp
  | [], p + 1, h => by simp at h
  | a :: vs, p + 1, h => by
    rw [List.take_succ_cons, List.drop_succ_cons, List.insertIdx_succ_cons, List.cons_append, take_ins vs p (by simpa using h)]
theorem set_ins {α : Type} {y z : α} : ∀ (vs : List α) (p : Nat), p ≤ vs.length → (vs.insertIdx p y).set p z = vs.insertIdx p z
  | vs, 0, _ => by simp
  | [], p + 1, h => by simp at h
  | a :: vs, p + 1, h => by
    rw [List.insertIdx_succ_cons, List.insertIdx_succ_cons, List.set_cons_succ, set_ins vs p (by simpa using h)]
theorem erase_ins {α : Type} {y : α} : ∀ (vs : List α) (p : Nat), p ≤ vs.length → (vs.insertIdx p y).eraseIdx p = vs
  | vs, 0, _ => by simp
  | [], p + 1, h => by simp at h
  | a :: vs, p + 1, h => by
    rw [List.insertIdx_succ_cons, List.eraseIdx_cons_succ, erase_ins vs p (by simpa using h)]
section
variable {prog : Program} {w : World} {A : Around} {E : Value → Shared → Prop} {s : Shared} {h₀ : Heap} {L D : Addr} {m : Str → Option Value} {nx : List (Addr × Obj)} {vs : List Value} {n p : Nat} {u : Tok} {v : Value}
theorem put_old (N : News h₀ L s.heap nx) {o : Obj} (hm : (D, o) ∈ nx) : News h₀ L s.heap (put D o nx) := fun q hq => by
  rcases put_of hq with rfl | ⟨hq, _⟩
  · exact N _ hm
  · exact N _ hq
theorem put_off : ∀ q ∈ nx.filter (fun q => decide (q.1 ≠ D)), q.1 ≠ D := fun q hq => of_decide_eq_true (List.mem_filter.mp hq).2
/-- xs.insert(p, v) -/
theorem ins_at {Q : Value → Shared → Prop} (F : Fr h₀ L s.heap m) (N : News h₀ L s.heap nx) (hm : (D, listOf vs.toArray n) ∈ nx) (hp : p ≤ vs.length) (hl : vs.length ≤ 100)
    (h : ∀ h', Fr h₀ L h' m → News h₀ L h' (put D (listOf (vs.insertIdx p v).toArray (n + 1)) nx) → Q .none { s with heap := h' }) :
    wpAny (model prog w) A (call (.builtin "list.insert") [.ref D, .int (p : Nat) u, v]) Q E s := by
  refine kl_insert (news := put D (listOf vs.toArray n) nx) (l := vs.insertIdx p v) F (put_old N hm) ?_ ?_ (.head put_off) (by show vs.length ≤ sizeLine; rw [PySem.sizeLine_eq]; omega) h
  · unfold Builtin.List.listFitsIndex
    simp; omega
  · show kl_ins vs p v = _
    unfold kl_ins
    rw [if_neg (by omega), Int.toNat_natCast, Nat.min_eq_left hp]
    exact take_ins vs p hp
/-- xs[p] = v -/
theorem set_at {Q : Unit → Shared → Prop} (F : Fr h₀ L s.heap m) (N : News h₀ L s.heap nx) (hm : (D, listOf vs.toArray n) ∈ nx) (hp : p < vs.length) (hl : vs.length ≤ 100)
    (h : ∀ h', Fr h₀ L h' m → News h₀ L h' (put D (listOf (vs.set p v).toArray n) nx) → Q () { s with heap := h' }) :
    wpAny (model prog w) A (setItem (.ref D) (.int (p : Nat) u) v) Q E s := by
  have N' := put_old N hm
  have z := N' (D, listOf vs.toArray n) (.head _)
  refine ki_setAt z.1 (by omega) (by omega) (by rw [List.size_toArray]; omega) (h _ (F.change (Heap.SameBut.update ..) z.2.1 z.2.2) (ki_turn (pre := []) _ N' (fun _ hq => nomatch hq) put_off ?_ ?_))
  · show vs.toArray.setIfInBounds ((p : Int)).toNat v = (vs.set p v).toArray
    apply Array.toList_inj.mp
    simp
  · simp
/-- del xs[p] -/
theorem del_at {Q : Unit → Shared → Prop} (F : Fr h₀ L s.heap m) (N : News h₀ L s.heap nx) (hm : (D, listOf vs.toArray n) ∈ nx) (hp : p < vs.length) (hl : vs.length ≤ 100)
    (h : ∀ h', Fr h₀ L h' m → News h₀ L h' (put D (listOf (vs.eraseIdx p).toArray (n + 1)) nx) → Q () { s with heap := h' }) :
    wpAny (model prog w) A (delItem (.ref D) (.int (p : Nat) u)) Q E s := by
  refine delItem_at (N _ hm).1 (k := p) ?_ ?_ (fun h' hb hg => h h' (F.change hb (N _ hm).2.1 (N _ hm).2.2) (put_news N hm hb hg)) (by rw [PySem.sizeLine_eq, List.size_toArray]; omega)
  · unfold Builtin.List.listFitsIndex
    simp; omega
  · unfold seqIndex?
    simp; omega
theorem len_at {Q : Value → Shared → Prop} {l : Addr} {c : Nat}
    (hl : s.heap.get? l = some ({ cls := .type "list", data := .seq vs.toArray c } : Obj)) (hb : vs.length ≤ 100) (h : ∀ t tk, Q (.int (vs.length : Nat) t) { s with toks := tk }) : wpAny (model prog w) A (call (.builtin "len") [.ref l]) Q E s :=
  len_list ⟨_, hl, rfl, _, rfl⟩ (by rw [List.size_toArray]; omega) (by rw [List.size_toArray]; exact h _ _)
end
theorem Rules3.ins {w : World} {st : List (Addr × Obj)} {rl : List Value} {rs : List Ru} {x : Addr} {r : Ru} {p : Nat} (h : Rules3 w st rl rs) (hp : p ≤ rs.length) (hr : RuleAt w st x r.1 r.2.1 r.2.2) : Rules3 w st (rl.insertIdx p (.ref x)) (rs.insertIdx p r) := by
  refine ⟨by rw [List.length_insertIdx, List.length_insertIdx, h.1], fun i y hy => ?_⟩
  rw [List.getElem?_insertIdx] at hy ⊢
  split at hy
  · rename_i hi; rw [if_pos hi]; exact h.2 i y hy
  · rename_i hi
    rw [if_neg hi]
    split at hy
    · rename_i hi2
      rw [if_pos hi2]
      split at hy
      · rename_i hi3
        obtain rfl := Option.some.inj hy
        rw [if_pos (by rw [h.1]; exact hi3)]
        exact ⟨x, rfl, hr⟩
      · cases hy
    · rename_i hi2; rw [if_neg hi2]; exact h.2 _ y hy
theorem Rules3.snoc {w : World} {st st2 : List (Addr × Obj)} {x : Addr} {rl : List Value} {rs : List Ru} {i : Nat} {r : Ru} (h : Rules3 w st rl (rs.take i)) (hn : rs[i]? = some r) (up : ∀ p ∈ st, p ∈ st2) (hr : RuleAt w st2 x r.1 r.2.1 r.2.2) :
    Rules3 w st2 (rl ++ [.ref x]) (rs.take (i + 1)) := by
  have hi := (List.getElem?_eq_some_iff.mp hn).1
  have hl : (rs.take i).length = i := by rw [List.length_take]; omega
  have hrl : rl.length = i := by rw [h.1, hl]
  rw [List.take_add_one, hn]
  refine ⟨by rw [List.length_append, List.length_append, h.1]; rfl, fun k y hk => ?_⟩
  show ∃ x_1, (rl ++ [Value.ref x])[k]? = some (Value.ref x_1) ∧ _
  change (rs.take i ++ [r])[k]? = some y at hk
  by_cases hki : k < i
  · rw [List.getElem?_append_left (by omega)] at hk
    obtain ⟨x', h1, h2⟩ := h.2 k y hk
    exact ⟨x', by rw [List.getElem?_append_left (by omega)]; exact h1, h2.up up⟩
  · rw [List.getElem?_append_right (by omega), hl] at hk
    have h0 : k - i = 0 := by
      have := (List.getElem?_eq_some_iff.mp hk).1
      simpa using this
    rw [h0] at hk
    obtain rfl : r = y := by simpa using hk
    exact ⟨x, by rw [List.getElem?_append_right (by omega), hrl, h0]; rfl, hr⟩
theorem small4 : ∀ k : Fin 64, Builtin.Range.small 0 ((k : Nat) : Int) 4 = true := by decide +kernel
theorem range4 {M : Int} (h1 : 1 ≤ M) (h2 : M ≤ 63) : Builtin.Range.small 0 M 4 = true ∧ ∃ n : Nat, Builtin.Range.rangeSize 0 M 4 = ((n : Nat) : Int) ∧ ∀ i : Nat, i < n → (i : Int) * 4 < M := by
  refine ⟨?_, ((M - 0 - 1) / 4 + 1).toNat, ?_, fun i hi => by omega⟩
  · have := small4 ⟨M.toNat, by omega⟩
    rwa [show (((⟨M.toNat, by omega⟩ : Fin 64) : Nat) : Int) = M by show ((M.toNat : Nat) : Int) = M; omega] at this
  · unfold Builtin.Range.rangeSize
    rw [if_pos (by decide), if_pos (by omega)]
    omega
/-- the rule that a number stands for -/
def ruOf (n : Int) : Ru := ((n.fdiv 2).fmod 5, (n.fdiv 10).fmod 5, n.fmod 2 == 1)
theorem slice4 {ns : List Int} {x : Int} (h : 0 ≤ x) : ((ns.drop (clipAt ns.length x)).take (clipAt ns.length (x + 4) - clipAt ns.length x)).length ≤ 4 := by
  rw [List.length_take]
  have h1 := clipAt_cast ns.length x
  have h2 := clipAt_cast ns.length (x + 4)
  rw [if_neg (by omega)] at h1 h2
  omega
end Mine
namespace Mine
/-- the ledger of the inner loops: the table, the list of rules, the loops' iterators mo, what stays -/
def L3 (RL : Addr) (rl : List Value) (kr : Nat) (ps : Array Value) (mo st : List (Addr × Obj)) : List (Addr × Obj) := (58, tabObj ps) :: (RL, PySem.W.listOf rl.toArray kr) :: (mo ++ st)
structure B3 (RL : Addr) (ps : Array Value) (stC mo st : List (Addr × Obj)) : Prop where
  off : ∀ p ∈ mo ++ st, p.1 ≠ 58 ∧ p.1 ≠ RL
  rl : RL ≠ 58
  apart : ∀ p ∈ st, ∀ q ∈ mo, p.1 ≠ q.1
  sub : ∀ p ∈ stC, p ∈ st
  tab : TabSt 55 22 "_law_rule.<locals>.<lambda>" st ps
theorem L3.st {RL : Addr} {rl : List Value} {kr : Nat} {ps : Array Value} {mo st : List (Addr × Obj)} {p : Addr × Obj} (h : p ∈ st) : p ∈ L3 RL rl kr ps mo st := .tail _ (.tail _ (List.mem_append_right _ h))
theorem L3.rl {RL : Addr} {rl : List Value} {kr : Nat} {ps : Array Value} {mo st : List (Addr × Obj)} : (RL, PySem.W.listOf rl.toArray kr) ∈ L3 RL rl kr ps mo st := .tail _ (.head _)
section
variable {h₀ h : Heap} {L RL K : Addr} {rl : List Value} {kr : Nat} {ps : Array Value} {stC mo st : List (Addr × Obj)} {oK : Obj}
/-- into a loop: its iterator joins the others -/
theorem enter3 (N : News h₀ L h ((K, oK) :: L3 RL rl kr ps mo st)) (B : B3 RL ps stC mo st) (off : ∀ p ∈ L3 RL rl kr ps mo st, p.1 ≠ K) : News h₀ L h (L3 RL rl kr ps ((K, oK) :: mo) st) ∧ B3 RL ps stC ((K, oK) :: mo) st := by
  refine ⟨fun p hp => N p ?_, ⟨fun p hp => ?_, B.rl, fun p hp q hq => ?_, B.sub, B.tab⟩⟩
  · unfold L3 at hp ⊢
    simp only [List.cons_append, List.mem_cons] at hp ⊢
    rcases hp with h | h | h | h
    · exact .inr (.inl h)
    · exact .inr (.inr (.inl h))
    · exact .inl h
    · exact .inr (.inr (.inr h))
  · rcases List.mem_cons.mp hp with rfl | hp
    · exact ⟨Ne.symm (off (58, tabObj ps) (.head _)), Ne.symm (off (RL, _) (.tail _ (.head _)))⟩
    · exact B.off p hp
  · rcases List.mem_cons.mp hq with rfl | hq
    · exact off p (L3.st hp)
    · exact B.apart p hp q hq
/-- out of a loop's turn -/
theorem leave3 (N : News h₀ L h (L3 RL rl kr ps ((K, oK) :: mo) st)) (B : B3 RL ps stC ((K, oK) :: mo) st) (hmo : ∀ q ∈ mo, q.1 ≠ K) : News h₀ L h ((K, oK) :: L3 RL rl kr ps mo st) ∧ B3 RL ps stC mo st ∧ ∀ p ∈ L3 RL rl kr ps mo st, p.1 ≠ K := by
  have hK := B.off (K, oK) (.head _)
  refine ⟨fun p hp => N p ?_, ⟨fun p hp => B.off p (.tail _ hp), B.rl, fun p hp q hq => B.apart p hp q (.tail _ hq), B.sub, B.tab⟩, fun p hp => ?_⟩
  · unfold L3 at hp ⊢
    simp only [List.cons_append, List.mem_cons] at hp ⊢
    rcases hp with h | h | h | h
    · exact .inr (.inr (.inl h))
    · exact .inl h
    · exact .inr (.inl h)
    · exact .inr (.inr (.inr h))
  · unfold L3 at hp
    rcases List.mem_cons.mp hp with rfl | hp
    · exact Ne.symm hK.1
    · rcases List.mem_cons.mp hp with rfl | hp
      · exact Ne.symm hK.2
      · rcases List.mem_append.mp hp with hp | hp
        · exact hmo p hp
        · exact B.apart p hp (K, oK) (.head _)
end
/-- a call of _law_rule amid the loops -/
theorem rule_B3 {w : World} {p : Program} {loose : List Str} {mean : ExcName → Option Value} {mg mb : Str → Option Value} {h₀ : Heap} {Ev : Env} {L : Addr} {m : Str → Option Value} {all mo st stC : List (Addr × Obj)} {ps : Array Value} {rl : List Value} {s : Shared} {Q E : Value → Shared → Prop}
    {NA RA RL : Addr} {nk rk kr : Nat} {a b : Int} {ta tb t0 t1 : Tok} {al : Bool}
    (X : (Mine.hd.heap_39 w.params).In h₀) (B : Below callerA h₀ [] h₀) (T : Top p loose mean mg mb h₀) (C : CodeHd h₀ 62 58) (hf : Ev.frame = some L) (hk : Ev.scope.kind = .function)
    (F : Fr h₀ L s.heap m) (N : News h₀ L s.heap all) (hall : ∀ q ∈ L3 RL rl kr ps mo st, q ∈ all) (hRA : (RA, ({ cls := .type "list", data := .seq (List.toArray [.int a ta, .int b tb]) rk } : Obj)) ∈ all) (hfr : ∀ q ∈ L3 RL rl kr ps mo st, q.1 ≠ RA)
    (B3s : B3 RL ps stC mo st) (hNA : (NA, ({ cls := .type "list", data := .seq (List.toArray [.str "/X%2F" t0, .str "" t1]) nk } : Obj)) ∈ stC)
    (h : ∀ h' tk' x st' ps', Fr h₀ L h' m → News h₀ L h' (L3 RL rl kr ps' mo st') → B3 RL ps' stC mo st' → (∀ q ∈ st, q ∈ st') → RuleAt w st' x a b al → Q (.ref x) { s with heap := h', toks := tk' }) :
    wpAny (model Challenge.rw_kn0089_03.row.prog w) (callerA.deeper Ev) (call (.ref 63) [.ref NA, .ref RA, .bool al]) Q E s := by
  have hR58 : RA ≠ 58 := Ne.symm (hfr (58, tabObj ps) (.head _))
  refine rule3 (mu := (RL, PySem.W.listOf rl.toArray kr) :: mo) (st := (RA, ({ cls := .type "list", data := .seq (List.toArray [.int a ta, .int b tb]) rk } : Obj)) :: st) (ps := ps) X B T C hf hk F (fun q hq => N q ?_) (fun q hq => ?_) (B3s.tab.up fun q hq => .tail _ hq) (List.mem_append_right _ (.tail _ (B3s.sub _ hNA))) (List.mem_append_right _ (.head _)) ?_
  · rcases List.mem_cons.mp hq with rfl | hq
    · exact hall _ (.head _)
    · rcases List.mem_append.mp hq with hq | hq
      · rcases List.mem_cons.mp hq with rfl | hq
        · exact hall _ L3.rl
        · exact hall _ (.tail _ (.tail _ (List.mem_append_left _ hq)))
      · rcases List.mem_cons.mp hq with rfl | hq
        · exact hRA
        · exact hall _ (L3.st hq)
  · rcases List.mem_append.mp hq with hq | hq
    · rcases List.mem_cons.mp hq with rfl | hq
      · exact B3s.rl
      · exact (B3s.off q (List.mem_append_left _ hq)).1
    · rcases List.mem_cons.mp hq with rfl | hq
      · exact hR58
      · exact (B3s.off q (List.mem_append_right _ hq)).1
  · intro h' tk' x st' ps' F' N' off' up' fr' tab' hru
    have new : ∀ q ∈ st', ∀ r ∈ (RL, PySem.W.listOf rl.toArray kr) :: mo, q.1 ≠ r.1 := fun q hq r hr => by
      rcases fr' q hq with h | h
      · rcases List.mem_cons.mp h with rfl | h
        · rcases List.mem_cons.mp hr with rfl | hr
          · exact Ne.symm (hfr _ L3.rl)
          · exact Ne.symm (hfr r (.tail _ (.tail _ (List.mem_append_left _ hr))))
        · rcases List.mem_cons.mp hr with rfl | hr
          · exact (B3s.off q (List.mem_append_right _ h)).2
          · exact B3s.apart q h r hr
      · exact Ne.symm (h r (List.mem_append_left _ hr))
    refine h h' tk' x st' ps' F' N' ⟨fun q hq => ?_, B3s.rl, fun q hq r hr => new q hq r (.tail _ hr), fun q hq => up' q (.tail _ (B3s.sub q hq)), tab'⟩ (fun q hq => up' q (.tail _ hq)) hru
    rcases List.mem_append.mp hq with hq | hq
    · exact B3s.off q (List.mem_append_left _ hq)
    · exact ⟨off' q (List.mem_append_right _ hq), new q hq _ (.head _)⟩
theorem isnot_same {prog : Program} {w : World} {A : Around} {E : Value → Shared → Prop} {s : Shared} {a b : Bool} {Q : Value → Shared → Prop} (hab : a = b) (h : Q (.bool false) s) : wpAny (model prog w) A (compareOp .IsNot (.bool a) (.bool b)) Q E s := by
  subst hab
  have e : compareOp .IsNot (.bool a) (.bool a) = (do let r ← isSame (.bool a) (.bool a); pure (.bool (!r))) := by
    cases a <;> rfl
  cases a <;> exact wpAny_of_eq rfl h
theorem far_of {n : Int} : far 0 (ruOf n) = (n.fdiv 2).fmod 5 ∧ far 1 (ruOf n) = (n.fdiv 10).fmod 5 := ⟨rfl, rfl⟩
theorem farOk_of {j : Nat} (pn : List Int) : FarOk j (pn.map ruOf) := fun r hr => by
  obtain ⟨n, _, rfl⟩ := List.mem_map.mp hr
  unfold far pick ruOf
  split
  · exact Int.fmod_nonneg_of_pos _ (by decide)
  · exact Int.fmod_nonneg_of_pos _ (by decide)
theorem fdiv10 (n : Int) : (n.fdiv 2).fdiv 5 = n.fdiv 10 := by
  rw [Int.fdiv_eq_ediv_of_nonneg _ (by decide : (0 : Int) ≤ 5), Int.fdiv_eq_ediv_of_nonneg _ (by decide : (0 : Int) ≤ 2), Int.fdiv_eq_ediv_of_nonneg _ (by decide : (0 : Int) ≤ 10)]
  omega
theorem b2i_of (n : Int) : b2i (n.fmod 2 == 1) = n.fmod 2 := by
  have h0 : 0 ≤ n.fmod 2 := Int.fmod_nonneg_of_pos _ (by decide)
  have h1 : n.fmod 2 < 2 := Int.fmod_lt_of_pos _ (by decide)
  unfold b2i
  by_cases h : n.fmod 2 = 1
  · rw [h]; rfl
  · rw [if_neg (by simpa using h)]; omega
theorem scores_yes {j : Nat} {rs : List Ru} {i : Nat} {r : Ru} (hi : rs[i]? = some r) (hk : 0 < far j r) : scores j (rs.take (i + 1)) = scores j (rs.take i) ++ [score j r] := by
  rw [List.take_add_one, hi]
  unfold scores
  rw [List.filter_append, List.map_append]
  show _ ++ List.map _ (List.filter _ [r]) = _
  rw [List.filter_cons_of_pos (by exact decide_eq_true hk), List.filter_nil]; rfl
theorem scores_no {j : Nat} {rs : List Ru} {i : Nat} {r : Ru} (hi : rs[i]? = some r) (hk : ¬ 0 < far j r) : scores j (rs.take (i + 1)) = scores j (rs.take i) := by
  rw [List.take_add_one, hi]
  unfold scores
  rw [List.filter_append, List.map_append]
  show _ ++ List.map _ (List.filter _ [r]) = _
  rw [List.filter_cons_of_neg (by rw [decide_eq_false hk]; decide), List.filter_nil]; simp
theorem far0 (n : Int) : ((n.fdiv 2).fdiv (5 ^ Int.toNat 0)).fmod 5 = far 0 (ruOf n) := by
  show ((n.fdiv 2).fdiv 1).fmod 5 = (n.fdiv 2).fmod 5
  rw [Int.fdiv_one]
theorem far1 (n : Int) : ((n.fdiv 2).fdiv (5 ^ Int.toNat 1)).fmod 5 = far 1 (ruOf n) := by
  show ((n.fdiv 2).fdiv 5).fmod 5 = (n.fdiv 10).fmod 5
  rw [fdiv10]
theorem score_of (j : Nat) (n : Int) : score j (ruOf n) = 2 * far j (ruOf n) + n.fmod 2 := by
  show 2 * far j (ruOf n) + b2i (n.fmod 2 == 1) = _
  rw [b2i_of]
theorem top_of {j : Nat} {rs : List Ru} {M : Int} (h1 : M ∈ 1 :: scores j rs) (h2 : ∀ a, a ∈ 1 :: scores j rs → a ≤ M) : M = top j rs := max_is h1 h2
theorem top_le9 {j : Nat} (pn : List Int) : top j (pn.map ruOf) ≤ 9 := by
  rcases max_mem (scores j (pn.map ruOf)) 1 with h | h
  · unfold top; rw [h]; decide
  · obtain ⟨r, hr, e⟩ := List.mem_map.mp h
    obtain ⟨n, _, rfl⟩ := List.mem_map.mp (List.mem_filter.mp hr).1
    have h0 : 0 ≤ n.fmod 2 ∧ n.fmod 2 < 2 := ⟨Int.fmod_nonneg_of_pos _ (by decide), Int.fmod_lt_of_pos _ (by decide)⟩
    have h1 : far j (ruOf n) < 5 := by
      unfold far pick ruOf
      split
      · exact Int.fmod_lt_of_pos _ (by decide)
      · exact Int.fmod_lt_of_pos _ (by decide)
    unfold top
    rw [← e, score_of]
    omega
theorem allowed_is {j : Nat} {pn : List Int} {M : Int} (h : M = top j (pn.map ruOf)) : (ruRun j (pn.map ruOf) (-1, true)).2 = (M.fmod 2 == 1) := by
  rw [verdict (farOk_of pn), ← h, Int.fmod_eq_emod_of_nonneg M (by decide : (0 : Int) ≤ 2)]
  by_cases hM : M % 2 = 1
  · simp [hM]
  · simp [hM]
theorem names_item3 {prog : Program} {w : World} {A : Around} {E : Value → Shared → Prop} {s : Shared} {value slice : Expr} {l : Addr} {t0 t1 : Tok} {c j : Nat} {u : Tok} {Q : Value → Shared → Prop}
    (hl : s.heap.get? l = some ({ cls := .type "list", data := .seq (List.toArray [.str "/X%2F" t0, .str "" t1]) c } : Obj)) (hj : j < 2) (h : ∀ t, Q (.str (nm2 j) t) s)
    (hs : subscripted slice false (.ref l) (.int (j : Nat) u) = operate [.ref l, .int (j : Nat) u] (getItem (.ref l) (.int (j : Nat) u)) := by with_unfolding_all rfl) :
    wpAny (model prog w) A (subscriptTail value slice (.ref l) (.int (j : Nat) u)) Q E s := by
  have ht : ∃ t, [Value.str "/X%2F" t0, .str "" t1][j]? = some (.str (nm2 j) t) := by
    have : j = 0 ∨ j = 1 := by omega
    rcases this with rfl | rfl <;> exact ⟨_, rfl⟩
  obtain ⟨t, ht⟩ := ht
  exact list_item hl ht (by omega) (h t) hs
theorem put_L3 {h₀ h : Heap} {L RL : Addr} {rl rl' : List Value} {kr kr' : Nat} {ps : Array Value} {stC mo st : List (Addr × Obj)} (N : News h₀ L h (put RL (PySem.W.listOf rl'.toArray kr') (L3 RL rl kr ps mo st))) (B : B3 RL ps stC mo st) : News h₀ L h (L3 RL rl' kr' ps mo st) := fun p hp => N p (by
  unfold L3 at hp
  rcases List.mem_cons.mp hp with rfl | hp
  · exact put_mem (.head _) (Ne.symm B.rl)
  · rcases List.mem_cons.mp hp with rfl | hp
    · exact put_self
    · exact put_mem (.tail _ (.tail _ hp)) (B.off p hp).2)
theorem v_no {j q : Nat} {rus : List Ru} {kk FA MY : Int} {AL : Bool} (hf : FarOk j rus) (hM : MY = top j rus) (hFA : FA = MY / 2) (hal : (ruRun j rus (-1, true)).2 = AL) (hq : q ≤ rus.length) (hk : 1 ≤ kk) :
    (ruRun j (rus.insertIdx q (kk, kk, false)) (-1, true)).2 = (AL && decide (kk ≤ FA)) := by
  rw [ins_no hq hf hk, ← hal, verdict hf, hFA, hM]
theorem v_yes {j q : Nat} {rus : List Ru} {kk FA MY : Int} {AL : Bool} (hf : FarOk j rus) (hM : MY = top j rus) (hFA : FA = MY / 2) (hal : (ruRun j rus (-1, true)).2 = AL) (hq : q ≤ rus.length) (hk : 1 ≤ kk) :
    (ruRun j (rus.insertIdx q (kk, kk, true)) (-1, true)).2 = (AL || decide (FA ≤ kk)) := by
  rw [ins_yes hq hf hk, ← hal, verdict hf, hFA, hM]
end Mine
local macro_rules | `(tactic| walk_at "MINE step") => `(tactic| first | (k_unfold; (try dsimp only)) | (k_end; kc_close) | walk1 | (dsimp only; walk1) | (leave1; walk_say "STEP leave1"; (try dsimp only)))
local macro_rules | `(tactic| walk_at "MINE s") => `(tactic| first | (k_unfold; (try dsimp only)) | walk1 | (dsimp only; walk1) | (leave1; walk_say "STEP leave1"; (try dsimp only)))
local macro_rules | `(tactic| walk_at "MINE to for") => `(tactic| repeat ((fail_if_success (with_reducible show wpAny _ _ (exec (Stmt.For _ _ _ _ _) _) _ _ _)); walk_at "MINE step"))
local macro_rules | `(tactic| walk_at "MINE to iter") => `(tactic| repeat ((fail_if_success (with_reducible show wpAny _ _ (pyIter _) _ _ _)); walk_at "MINE step"))
local macro_rules | `(tactic| walk_at "MINE to call") => `(tactic| repeat ((fail_if_success (with_reducible show wpAny _ _ (call _ _) _ _ _)); walk_at "MINE step"))
local macro_rules | `(tactic| k_mem) => `(tactic| (refine Mine.mem_of ?_; ktr_member))
local macro_rules | `(tactic| k_all) => `(tactic| assumption)
local macro_rules | `(tactic| walk_at "compareOp NotEq ref ref") => `(tactic| (refine Mine.ne_empty (Mine.News.get (by assumption) (by k_mem)) (Mine.News.get (by assumption) (by k_mem)) (by ke_room) ?_; (try simp only [List.isEmpty_cons, List.isEmpty_nil, Bool.not_true, Bool.not_false])))
local macro_rules | `(tactic| walk_at "LoopPost") => `(tactic| (dsimp only [Mine.LoopPost]))
local macro_rules | `(tactic| walk_at "call builtin:len") => `(tactic| (refine Mine.len_at (Mine.News.get (by assumption) (by k_mem)) (by omega) ?_; intro tq9 kq9))
theorem PySem.Challenge.cw_kn0089_03_holds : PySem.Challenge.rw_kn0089_03.Holds :=
  Mine.hd (by
  w_strict (
    k_go0
    all_goals try k_fold
    walk_at "MINE to for"
    refine wpAny_For ?_
    repeat ((fail_if_success (with_reducible show wpAny _ _ (call (Value.type "range") _ _) _ _ _)); walk_at "MINE step")
    rename Fr _ _ _ _ => Fz
    rename News _ _ _ _ => Nz
    obtain ⟨w, ew, hX9⟩ : ∃ z : World, z = _ ∧ (Mine.hd.heap_39 z.params).In _ := ⟨_, rfl, by assumption⟩
    subst ew
    clear hX9
    obtain ⟨s1, es1, hX9⟩ : ∃ z : Shared, z = _ ∧ TabsAt [(62, 58)] z.heap := ⟨_, rfl, by assumption⟩
    subst es1
    clear hX9
    rename IntsAre _ _ => hI9
    obtain ⟨svs, ns, e1, e2, hI⟩ : ∃ a b, a = _ ∧ b = _ ∧ IntsAre a b := ⟨_, _, rfl, rfl, hI9⟩
    subst e1
    subst e2
    obtain ⟨m, hm, Fm⟩ := Mine.frSome Fz
    have hlen : ns.length ≤ 63 := by omega
    obtain ⟨S, hmS, hS⟩ : ∃ S, m "script" = some (.ref S) ∧ Heap.IsList (ghostOf _ [(62, 58)]) S svs.toArray := ⟨_, by rw [hm]; rfl, by assumption⟩
    obtain ⟨M, eM, hM1, hM2⟩ : ∃ M : Int, M = (if (if (ns.length : Int) < 32 then (ns.length : Int) else 32) > 1 then (if (ns.length : Int) < 32 then (ns.length : Int) else 32) else 1) ∧ 1 ≤ M ∧ M ≤ 32 := ⟨_, rfl, by (repeat' split) <;> omega, by (repeat' split) <;> omega⟩
    rw [← eM]
    refine range3_rows (by k_asm) (by k_asm) (by decide) ?_
    intro h1 tk1 t1 u1 v1 hr F1 N1 k1
    obtain ⟨hsm, n, hn, hn2⟩ := Mine.range4 hM1 (by omega : M ≤ 63)
    obtain ⟨NA, q1, q2, oN, N1, dN, a1, a2, a3⟩ : ∃ NA q1 q2 oN, News _ _ _ [(NA, PySem.W.listOf (List.toArray [.str "/X%2F" q1, .str "" q2]) 0), (s1.heap.objs.size + 1, oN), (58, tabObj #[])] ∧ oN.data = .cell (some (.ref NA)) ∧ @LT.lt Nat _ 58 s1.heap.objs.size ∧ @LT.lt Nat _ 58 NA ∧ @LT.lt Nat _ (s1.heap.objs.size + 1) NA := ⟨_, _, _, _, N1, by assumption, by assumption, by omega, by omega⟩
    have Fm1 : Fr _ _ h1 m := F1
    clear F1 Fz Nz Fm
    obtain ⟨stA, hstA⟩ : ∃ stA, stA = [(NA, PySem.W.listOf (List.toArray [.str "/X%2F" q1, .str "" q2]) 0), (s1.heap.objs.size + 1, oN)] := ⟨_, rfl⟩
    have hstA1 : ∀ p ∈ stA, p.1 ≠ 58 := by
      rw [hstA]
      exact List.forall_mem_cons.mpr ⟨Nat.ne_of_gt a2, List.forall_mem_cons.mpr ⟨by show @Ne Nat _ _; omega, List.forall_mem_nil _⟩⟩
    have N0 : News _ _ h1 ((58, tabObj #[]) :: stA) := fun p hp => N1 p (by
      rw [hstA] at hp
      simp only [List.mem_cons, List.not_mem_nil, or_false] at hp ⊢
      rcases hp with h | h | h
      · exact .inr (.inr h)
      · exact .inl h
      · exact .inr (.inl h))
    have pNA : (NA, PySem.W.listOf (List.toArray [.str "/X%2F" q1, .str "" q2]) 0) ∈ stA := by rw [hstA]; exact .head _
    have pN : (s1.heap.objs.size + 1, oN) ∈ stA := by rw [hstA]; exact .tail _ (.head _)
    clear N1 hm
    refine Mine.for_range (n := n) (fun i m' nx => m' "script" = some (.ref S) ∧ ∃ ps st, nx = (58, tabObj ps) :: st ∧ (∀ p ∈ st, p.1 ≠ 58) ∧ (∀ p ∈ stA, p ∈ st) ∧ Mine.TabSt 55 22 "_law_rule.<locals>.<lambda>" st ps)
      (by rfl) hr hsm hn Fm1 N0 ⟨hmS, #[], stA, rfl, hstA1, fun _ h => h, .inl rfl⟩ (fun _ v => Mine.letName _ v) ?turn ?done
    case turn =>
      rintro I i t m₁ nx oI h tk hi ⟨g1, ps, st, rfl, hoff, hsub, hps⟩ F1 N1 off1
      rw [Int.zero_add]
      have hlt := hn2 i hi
      obtain ⟨sta, hsta, hs0, hs1⟩ : ∃ sta : Int, sta = (i : Int) * 4 ∧ 0 ≤ sta ∧ sta < 32 := ⟨_, rfl, by omega, by omega⟩
      rw [← hsta]
      refine wpAny_assign_Name (wpAny_storeName_local (by rfl) F1.ns (fun h2 hn3 hs3 => ?_) (by rfl))
      have F2 := F1.set hn3 hs3
      have N2 := N1.set hs3
      have Fk := Mine.frKst F2 [("script", .ref S)] (List.forall_mem_cons.mpr ⟨g1, List.forall_mem_nil _⟩)
      have oE : ∀ p ∈ st, p.1 ≠ I := fun p hp => off1 p (.tail _ hp)
      have oI' : @Ne Nat 58 I := off1 (58, tabObj ps) (.head _)
      have z1 := hsub _ pNA
      have z2 := hsub _ pN
      clear F1 N1 F2 hs3 hn3 Fm1 N0
      repeat ((fail_if_success (with_reducible show wpAny _ _ (subscriptTail _ _ _ _) _ _ _)); walk_at "MINE step")
      rename Fr _ _ _ _ => F3
      rename News _ _ _ _ => N3
      refine kmk_slice_ints F3 N3 (Mine.list_keep F3 hS) (.int _ _) (.int _ _) hI (slice_ints_plain hI _ _) rfl ?_ (by with_unfolding_all rfl) (by intro _; with_unfolding_all rfl) (by rw [PySem.sizeLine_eq, List.size_toArray, Mine.ints_len hI]; omega)
      intro PT pv h4 F4 N4 l4 hpv _ _
      have hp4 := Mine.slice4 (ns := ns) hs0
      generalize (ns.drop (clipAt ns.length sta)).take (clipAt ns.length (sta + 4) - clipAt ns.length sta) = pn at hpv hp4
      clear F3 N3
      repeat ((fail_if_success (with_reducible show wpAny _ _ (eval (Expr.ListComp _ _ _ _) _) _ _ _)); walk_at "MINE step")
      rename Fr _ _ _ _ => F5
      rename News _ _ _ _ => N5
      obtain ⟨m5, hm5, F5g⟩ := Mine.frSome F5
      obtain ⟨R0, U, x, d, e1, e2, e3, e4, t1, t2, t3, t4, N5b, y1, y2, y3, y4, y5, hone, hpart, hscr⟩ : ∃ R0 U x d e1 e2 e3 e4 t1 t2 t3 t4,
        News _ _ _ ((R0, PySem.W.listOf #[] 0) :: (U, PySem.W.listOf #[] 0) :: (x, instObj 52 d) :: (d, dictOf [⟨e1, .str "useragents" t1, .ref U⟩, ⟨e2, .str "rulelines" t2, .ref R0⟩, ⟨e3, .str "delay" t3, .none⟩, ⟨e4, .str "req_rate" t4, .none⟩] 4) :: (PT, PySem.W.listOf (List.toArray pv) 0) :: (I, oI) :: (58, tabObj ps) :: st) ∧
        @LT.lt Nat _ PT d ∧ @LT.lt Nat _ d x ∧ @LT.lt Nat _ I d ∧ @LT.lt Nat _ 58 d ∧ AllLt d st ∧ m5 "one" = some (.ref x) ∧ m5 "part" = some (.ref PT) ∧ m5 "script" = some (.ref S) := by
        refine ⟨_, _, _, _, _, _, _, _, _, _, _, _, N5, ?_, ?_, ?_, ?_, ?_, ?_, ?_, ?_⟩
        · omega
        · omega
        · omega
        · omega
        · exact (‹@LT.lt Nat _ PT _ ∧ @LT.lt Nat _ I _ ∧ @LT.lt Nat _ 58 _ ∧ AllLt _ st›).2.2.2
        · rw [hm5]; rfl
        · rw [hm5]; rfl
        · rw [hm5]; rfl
      have Fk := Mine.frKst F5g [("one", .ref x), ("part", .ref PT), ("script", .ref S)] (List.forall_mem_cons.mpr ⟨hone, List.forall_mem_cons.mpr ⟨hpart, List.forall_mem_cons.mpr ⟨hscr, List.forall_mem_nil _⟩⟩⟩)
      have hPT : ∀ p ∈ st, p.1 < PT := fun p hp => l4 p (by repeat (first | exact hp | refine List.mem_cons_of_mem _ ?_))
      have hPT2 : @LT.lt Nat _ I PT ∧ @LT.lt Nat _ 58 PT := ⟨l4 (I, oI) (by k_mem), l4 (58, tabObj ps) (by k_mem)⟩
      obtain ⟨stB, hstB⟩ : ∃ stB, stB = (x, instObj 52 d) :: (PT, PySem.W.listOf (List.toArray pv) 0) :: st := ⟨_, rfl⟩
      have hstB1 : ∀ p ∈ stB, p.1 ≠ 58 ∧ p.1 ≠ d ∧ p.1 ≠ I := by
        rw [hstB]
        refine List.forall_mem_cons.mpr ⟨⟨?_, ?_, ?_⟩, List.forall_mem_cons.mpr ⟨⟨?_, ?_, ?_⟩, fun p hp => ⟨hoff p hp, Nat.ne_of_lt (Mine.lt_of_allLt y5 p hp), oE p hp⟩⟩⟩
        · show @Ne Nat _ _; omega
        · exact Nat.ne_of_gt y2
        · show @Ne Nat _ _; omega
        · exact Nat.ne_of_gt hPT2.2
        · exact Nat.ne_of_lt y1
        · exact Nat.ne_of_gt hPT2.1
      have od : @Ne Nat d 58 ∧ @Ne Nat d I := ⟨Nat.ne_of_gt y4, Nat.ne_of_gt y3⟩
      have NB : News _ _ _ ((58, tabObj ps) :: (d, dictOf [⟨e1, .str "useragents" t1, .ref U⟩, ⟨e2, .str "rulelines" t2, .ref R0⟩, ⟨e3, .str "delay" t3, .none⟩, ⟨e4, .str "req_rate" t4, .none⟩] 4) :: (I, oI) :: stB) := fun p hp => N5b p (by
        rw [hstB] at hp
        simp only [List.mem_cons] at hp ⊢
        rcases hp with h | h | h | h | h | h
        · exact .inr (.inr (.inr (.inr (.inr (.inr (.inl h))))))
        · exact .inr (.inr (.inr (.inl h)))
        · exact .inr (.inr (.inr (.inr (.inr (.inl h)))))
        · exact .inr (.inr (.inl h))
        · exact .inr (.inr (.inr (.inr (.inl h))))
        · exact .inr (.inr (.inr (.inr (.inr (.inr (.inr h)))))))
      have bx : (x, instObj 52 d) ∈ stB := by rw [hstB]; exact .head _
      have bPT : (PT, PySem.W.listOf (List.toArray pv) 0) ∈ stB := by rw [hstB]; exact .tail _ (.head _)
      have bst : ∀ p ∈ st, p ∈ stB := fun p hp => by rw [hstB]; exact .tail _ (.tail _ hp)
      have bNA := bst _ z1
      have bN := bst _ z2
      have hps0 := hps.up bst
      have hsubB : ∀ p ∈ stA, p ∈ stB := fun p hp => bst p (hsub p hp)
      clear N5 N5b F5 F5g hm5 y1 y2 y3 y4 y5 l4 hPT hPT2 hps hsub hoff oE z1 z2 off1 bst
      try clear N4
      try clear F4
      obtain ⟨rus, hrus⟩ : ∃ rus, rus = pn.map Mine.ruOf := ⟨_, rfl⟩
      k_dflt (refine LCg.ListComp_U (F₀ := by k_asm) (by with_unfolding_all rfl) (by decide) (by rfl) (by decide) (by rfl) ?_)
      repeat ((with_reducible show wpAny _ _ _ _ _ _); walk_at "MINE step")
      refine LCg.CompSrc.ledger (by rfl) (by k_asm) NB (.tail _ (.tail _ (.tail _ bPT))) (by rw [PySem.sizeLine_eq, List.size_toArray, Mine.ints_len hpv]; omega) ?_
      intro g6
      refine Mine.comp_rest (fun i ys nx => ∃ ps st', nx = (58, tabObj ps) :: (d, dictOf [⟨e1, .str "useragents" t1, .ref U⟩, ⟨e2, .str "rulelines" t2, .ref R0⟩, ⟨e3, .str "delay" t3, .none⟩, ⟨e4, .str "req_rate" t4, .none⟩] 4) :: (I, oI) :: st' ∧ (∀ p ∈ st', p.1 ≠ 58 ∧ p.1 ≠ d ∧ p.1 ≠ I) ∧ (∀ p ∈ stB, p ∈ st') ∧ Mine.TabSt 55 22 "_law_rule.<locals>.<lambda>" st' ps ∧ Mine.Rules3 w st' ys (rus.take i)) ⟨ps, stB, rfl, hstB1, fun _ h => h, hps0, rfl, (fun _ _ h => nomatch h)⟩ ?_ ?_
      · rintro i9 v9 ys nx9 I9 oI9 C9 oC9 D9 m9 hh tk9 E' hq hv ⟨ps9, st', rfl, hoff', hsub', hps', hR⟩ hC hx5 F9 N9 off9 ne9
        obtain ⟨n9, t9, hn9, rfl⟩ := Mine.ints_turn hpv (by simpa using hv)
        dsimp only [LCg.Off3] at off9
        have z2 := hsub' _ bN
        repeat ((fail_if_success (with_reducible show wpAny _ _ (call (Value.ref 63) _) _ _ _)); walk_at "MINE step")
        rename Fr _ _ _ _ => F10
        rename News _ _ _ _ => N10
        obtain ⟨RA, ra, rb, lA, eRA, N10b⟩ : ∃ RA ra rb, (@LT.lt Nat _ I9 RA ∧ @LT.lt Nat _ C9 RA ∧ @LT.lt Nat _ D9 RA ∧ @LT.lt Nat _ 58 RA ∧ @LT.lt Nat _ d RA ∧ @LT.lt Nat _ I RA ∧ AllLt RA st') ∧ RA = _ ∧ News _ _ _ ((RA, PySem.W.listOf (List.toArray [.int ((n9.fdiv 2).fmod 5) ra, .int ((n9.fdiv 10).fmod 5) rb]) 0) :: (I9, oI9) :: (C9, oC9) :: (D9, LCg.lst ys) :: (58, tabObj ps9) :: (d, dictOf [⟨e1, .str "useragents" t1, .ref U⟩, ⟨e2, .str "rulelines" t2, .ref R0⟩, ⟨e3, .str "delay" t3, .none⟩, ⟨e4, .str "req_rate" t4, .none⟩] 4) :: (I, oI) :: st') := ⟨_, _, _, by assumption, rfl, N10⟩
        subst eRA
        obtain ⟨c1, c2, c3, c4, c5, c6, c7⟩ := lA
        have c7' := Mine.lt_of_allLt c7
        have hmu : ∀ p ∈ ([(I9, oI9), (C9, oC9), (D9, LCg.lst ys), (d, dictOf [⟨e1, .str "useragents" t1, .ref U⟩, ⟨e2, .str "rulelines" t2, .ref R0⟩, ⟨e3, .str "delay" t3, .none⟩, ⟨e4, .str "req_rate" t4, .none⟩] 4), (I, oI)] : List (Addr × Obj)) ++ ((RA, PySem.W.listOf (List.toArray [.int ((n9.fdiv 2).fmod 5) ra, .int ((n9.fdiv 10).fmod 5) rb]) 0) :: st'), p.1 ≠ 58 := by
          refine List.forall_mem_append.mpr ⟨?_, List.forall_mem_cons.mpr ⟨Nat.ne_of_gt c4, fun p hp => (hoff' p hp).1⟩⟩
          exact List.forall_mem_cons.mpr ⟨Ne.symm off9.1.1, List.forall_mem_cons.mpr ⟨Ne.symm off9.1.2.1, List.forall_mem_cons.mpr ⟨Ne.symm off9.1.2.2, List.forall_mem_cons.mpr ⟨od.1, List.forall_mem_cons.mpr ⟨Ne.symm oI', List.forall_mem_nil _⟩⟩⟩⟩⟩
        k_dflt (refine' Mine.rule3 (mu := [(I9, oI9), (C9, oC9), (D9, LCg.lst ys), (d, dictOf [⟨e1, .str "useragents" t1, .ref U⟩, ⟨e2, .str "rulelines" t2, .ref R0⟩, ⟨e3, .str "delay" t3, .none⟩, ⟨e4, .str "req_rate" t4, .none⟩] 4), (I, oI)]) (st := (RA, PySem.W.listOf (List.toArray [.int ((n9.fdiv 2).fmod 5) ra, .int ((n9.fdiv 10).fmod 5) rb]) 0) :: st') (ps := ps9) (nk := 0) (rk := 0) ?c1 ?c2 ?c3 ?c4 ?c5 ?c6 ?c7 ?c8 hmu (hps'.up fun p hp => .tail _ hp) ?d1 ?d2 ?_)
        case c5 => rfl
        case c6 => rfl
        case c1 => k_asm
        case c2 => k_asm
        case c3 => k_asm
        case c4 => assumption
        case c7 => exact F10
        case c8 =>
          refine (fun p hp => N10b p ?_ : News _ _ _ _)
          simp only [List.cons_append, List.nil_append, List.mem_cons] at hp ⊢
          rcases hp with h | h | h | h | h | h | h | h
          · exact .inr (.inr (.inr (.inr (.inl h))))
          · exact .inr (.inl h)
          · exact .inr (.inr (.inl h))
          · exact .inr (.inr (.inr (.inl h)))
          · exact .inr (.inr (.inr (.inr (.inr (.inl h)))))
          · exact .inr (.inr (.inr (.inr (.inr (.inr (.inl h))))))
          · exact .inl h
          · exact .inr (.inr (.inr (.inr (.inr (.inr (.inr h))))))
        case d1 => exact List.mem_append_right _ (.tail _ (hsub' _ bNA))
        case d2 => exact List.mem_append_right _ (.head _)
        intro h11 tk11 x3 st2 ps2 F11 N11 off11 up11 fr11 tab11 hru
        simp only [List.cons_append, List.nil_append] at N11 fr11
        have new : ∀ p ∈ st2, (p.1 = RA ∨ p ∈ st') ∨ (p.1 ≠ I9 ∧ p.1 ≠ C9 ∧ p.1 ≠ D9 ∧ p.1 ≠ d ∧ p.1 ≠ I) := fun p hp => (fr11 p hp).elim (fun h => by
          rcases List.mem_cons.mp h with rfl | h
          · exact .inl (.inl rfl)
          · exact .inl (.inr h)) fun h => .inr ⟨Ne.symm (h (I9, oI9) (by k_mem)), Ne.symm (h (C9, oC9) (by k_mem)), Ne.symm (h (D9, LCg.lst ys) (by k_mem)), Ne.symm (h (d, dictOf [⟨e1, .str "useragents" t1, .ref U⟩, ⟨e2, .str "rulelines" t2, .ref R0⟩, ⟨e3, .str "delay" t3, .none⟩, ⟨e4, .str "req_rate" t4, .none⟩] 4) (by k_mem)), Ne.symm (h (I, oI) (by k_mem))⟩
        have off9m := off9.2.2.2.mem
        have hup2 : ∀ p ∈ st', p ∈ st2 := fun p hp => up11 p (.tail _ hp)
        have hoff2 : ∀ p ∈ st2, p.1 ≠ 58 ∧ p.1 ≠ d ∧ p.1 ≠ I := fun p hp => ⟨off11 p (List.mem_append_right _ hp), (new p hp).elim (fun h => h.elim (fun h => h ▸ Nat.ne_of_gt c5) fun h => (hoff' p h).2.1) fun h => h.2.2.2.1, (new p hp).elim (fun h => h.elim (fun h => h ▸ Nat.ne_of_gt c6) fun h => (hoff' p h).2.2) fun h => h.2.2.2.2⟩
        have hoff3 : LCg.Off3 I9 C9 D9 st2 := LCg.Off3.of fun p hp => (new p hp).elim (fun h => h.elim (fun h => h ▸ ⟨Nat.ne_of_gt c1, Nat.ne_of_gt c2, Nat.ne_of_gt c3⟩) (off9m p)) fun h => ⟨h.1, h.2.1, h.2.2.1⟩
        have hr9 : rus[i9]? = some (Mine.ruOf n9) := by rw [hrus, List.getElem?_map, hn9]; rfl
        refine LCg.CompEnd.intro F11 N11 ((58, tabObj ps2) :: (d, dictOf [⟨e1, .str "useragents" t1, .ref U⟩, ⟨e2, .str "rulelines" t2, .ref R0⟩, ⟨e3, .str "delay" t3, .none⟩, ⟨e4, .str "req_rate" t4, .none⟩] 4) :: (I, oI) :: st2) (fun p hp => ?_) ⟨off9.1, off9.2.1, off9.2.2.1, hoff3⟩ (.inr ⟨_, .tail _ (.tail _ (.tail _ (hup2 _ (hsub' _ bPT)))), rfl, _, rfl⟩) ⟨ps2, st2, rfl, hoff2, fun p hp => hup2 _ (hsub' p hp), tab11, hR.snoc hr9 hup2 hru⟩
        simp only [List.mem_cons] at hp ⊢
        rcases hp with h | h | h | h | h | h | h
        · exact .inr (.inl h)
        · exact .inr (.inr (.inl h))
        · exact .inr (.inr (.inr (.inl h)))
        · exact .inl h
        · exact .inr (.inr (.inr (.inr (.inl h))))
        · exact .inr (.inr (.inr (.inr (.inr (.inl h)))))
        · exact .inr (.inr (.inr (.inr (.inr (.inr h)))))
      intro ys nx9 hJ RL h9 tk9 F9 N9 o9
      obtain ⟨ps9, st', rfl, hoff', hsub', hps', hR⟩ := hJ
      rw [List.size_toArray, Mine.ints_len hpv, List.take_of_length_le (by rw [hrus, List.length_map]; exact Nat.le_refl _)] at hR
      dsimp only [LCg.Off1] at o9
      have z1 := hsub' _ bx
      have oA' : ∀ p ∈ st', p.1 ≠ 58 := fun p hp => (hoff' p hp).1
      have oD' : ∀ p ∈ st', p.1 ≠ d := fun p hp => (hoff' p hp).2.1
      have oI2 : ∀ p ∈ st', p.1 ≠ I := fun p hp => (hoff' p hp).2.2
      have oRL : ∀ p ∈ st', p.1 ≠ RL := Mine.offRE o9.2.2.2
      dsimp only
      walk_at "MINE to for"
      refine wpAny_For ?_
      walk_at "MINE to iter"
      rename Fr _ _ _ _ => F10
      rename News _ _ _ _ => N10
      rename IsRange _ _ _ _ _ _ _ _ => hrj
      obtain ⟨m10, hm10, F10g⟩ := Mine.frSome F10
      have x1 : m10 "one" = some (.ref x) := by rw [hm10]; rfl
      have x2 : m10 "part" = some (.ref PT) := by rw [hm10]; rfl
      have x3 : m10 "script" = some (.ref S) := by rw [hm10]; rfl
      obtain ⟨stC, hstC⟩ : ∃ stC, stC = (d, dictOf [⟨e1, .str "useragents" t1, .ref U⟩, ⟨e2, .str "rulelines" t2, .ref RL⟩, ⟨e3, .str "delay" t3, .none⟩, ⟨e4, .str "req_rate" t4, .none⟩] 4) :: st' := ⟨_, rfl⟩
      have N11 : News _ _ _ (Mine.L3 RL ys ys.length ps9 [(I, oI)] stC) := fun p hp => N10 p (by
        rw [hstC] at hp
        unfold Mine.L3 at hp
        simp only [List.cons_append, List.nil_append, List.mem_cons] at hp ⊢
        rcases hp with h | h | h | h | h
        · exact .inr (.inl h)
        · exact .inl h
        · exact .inr (.inr (.inr (.inl h)))
        · exact .inr (.inr (.inl h))
        · exact .inr (.inr (.inr (.inr h))))
      have B11 : Mine.B3 RL ps9 stC [(I, oI)] stC := by
        rw [hstC]
        refine ⟨?_, Ne.symm o9.1, ?_, fun _ h => h, hps'.up fun p hp => .tail _ hp⟩
        · exact List.forall_mem_cons.mpr ⟨⟨Ne.symm oI', o9.2.2.1⟩, List.forall_mem_cons.mpr ⟨⟨od.1, o9.2.1⟩, fun p hp => ⟨oA' p hp, oRL p hp⟩⟩⟩
        · exact List.forall_mem_cons.mpr ⟨List.forall_mem_cons.mpr ⟨od.2, List.forall_mem_nil _⟩, fun p hp => List.forall_mem_cons.mpr ⟨oI2 p hp, List.forall_mem_nil _⟩⟩
      have hup : ∀ p ∈ st', p ∈ stC := fun p hp => by rw [hstC]; exact .tail _ hp
      have cx := hup _ z1
      have cd : (d, dictOf [⟨e1, .str "useragents" t1, .ref U⟩, ⟨e2, .str "rulelines" t2, .ref RL⟩, ⟨e3, .str "delay" t3, .none⟩, ⟨e4, .str "req_rate" t4, .none⟩] 4) ∈ stC := by rw [hstC]; exact .head _
      have cPT := hup _ (hsub' _ bPT)
      have cNA := hup _ (hsub' _ bNA)
      have cN := hup _ (hsub' _ bN)
      have hRC := hR.up hup
      have cA : ∀ p ∈ stA, p ∈ stC := fun p hp => hup _ (hsub' _ (hsubB p hp))
      have hys : ys.length ≤ 4 := by rw [hR.1, hrus, List.length_map]; exact hp4
      try clear hm10
      try clear F10
      try clear N10
      try clear N9
      try clear o9
      try clear od
      try clear oA'
      try clear oD'
      try clear oI2
      try clear oRL
      try clear hoff'
      try clear hsub'
      try clear hps'
      try clear hR
      try clear z1
      try clear hup
      try clear hps0
      try clear bPT
      try clear bNA
      try clear bN
      try clear bx
      try clear hsubB
      try clear hstB1
      try clear F9
      try clear Fk
      try clear NB
      refine Mine.for_range (n := 2) (fun j m' nx => (m' "one" = some (.ref x) ∧ m' "part" = some (.ref PT) ∧ m' "script" = some (.ref S)) ∧ ∃ kr ps st2, nx = Mine.L3 RL ys kr ps [(I, oI)] st2 ∧ Mine.B3 RL ps stC [(I, oI)] st2)
        (by rfl) hrj (by rfl) (by rfl) F10g N11 ⟨⟨x1, x2, x3⟩, _, _, _, rfl, B11⟩ (fun _ v => Mine.letName _ v) ?turn2 ?done2
      case turn2 =>
        rintro J j t5 m11 nx11 oJ h11 tk11 hj ⟨⟨x1, x2, x3⟩, kr, ps2, st2, rfl, B12⟩ F12 N12 off12
        rw [show (0 : Int) + (j : Int) * 1 = (j : Int) from by omega]
        refine wpAny_assign_Name (wpAny_storeName_local (by rfl) F12.ns (fun h12 hn12 hs12 => ?_) (by rfl))
        have F13 := F12.set hn12 hs12
        have N13 := N12.set hs12
        have Fk := Mine.frKst F13 [("one", .ref x), ("part", .ref PT), ("script", .ref S)] (List.forall_mem_cons.mpr ⟨x1, List.forall_mem_cons.mpr ⟨x2, List.forall_mem_cons.mpr ⟨x3, List.forall_mem_nil _⟩⟩⟩)
        obtain ⟨N14, B14⟩ := Mine.enter3 N13 B12 off12
        have oIJ : @Ne Nat I J := off12 (I, oI) (.tail _ (.tail _ (.head _)))
        clear F12 N12 F13 N13 off12
        try clear hn12
        try clear hs12
        have e1x := B14.sub _ cx
        have e1d := B14.sub _ cd
        have e1P := B14.sub _ cPT
        have e1A := B14.sub _ cNA
        have e1N := B14.sub _ cN
        obtain ⟨nb, hnb⟩ : ∃ nb, nb = Mine.L3 RL ys kr ps2 [(J, oJ), (I, oI)] st2 := ⟨_, rfl⟩
        rw [← hnb] at N14
        have f1P : (PT, PySem.W.listOf (List.toArray pv) 0) ∈ nb := by rw [hnb]; exact Mine.L3.st e1P
        have f1x : (x, instObj 52 d) ∈ nb := by rw [hnb]; exact Mine.L3.st e1x
        have f1d : (d, dictOf [⟨e1, .str "useragents" t1, .ref U⟩, ⟨e2, .str "rulelines" t2, .ref RL⟩, ⟨e3, .str "delay" t3, .none⟩, ⟨e4, .str "req_rate" t4, .none⟩] 4) ∈ nb := by rw [hnb]; exact Mine.L3.st e1d
        have f1A : (NA, PySem.W.listOf (List.toArray [.str "/X%2F" q1, .str "" q2]) 0) ∈ nb := by rw [hnb]; exact Mine.L3.st e1A
        have f1N : (s1.heap.objs.size + 1, oN) ∈ nb := by rw [hnb]; exact Mine.L3.st e1N
        have f1R : (RL, PySem.W.listOf (List.toArray ys) kr) ∈ nb := by rw [hnb]; exact Mine.L3.rl
        have f1S : ∀ p ∈ stC, p ∈ nb := fun p hp => by rw [hnb]; exact Mine.L3.st (B14.sub p hp)
        walk_at "MINE to for"
        refine wpAny_For ?_
        walk_at "MINE to iter"
        rename Fr _ _ _ _ => F15
        rename News _ _ _ _ => N15
        obtain ⟨m16, hm16, F16⟩ := Mine.frSome F15
        have v1 : m16 "one" = some (.ref x) := by rw [hm16]; rfl
        have v2 : m16 "part" = some (.ref PT) := by rw [hm16]; rfl
        have v3 : m16 "script" = some (.ref S) := by rw [hm16]; rfl
        have v4 : m16 "j" = some (.int (j : Int) t5) := by rw [hm16]; rfl
        obtain ⟨WT, w0, v5, oWT, N16⟩ : ∃ WT w0, m16 "weights" = some (.ref WT) ∧ (∀ p ∈ nb, p.1 < WT) ∧ News _ _ _ ((WT, PySem.W.listOf (List.toArray [.int 1 w0]) 0) :: nb) := ⟨_, _, by rw [hm16]; rfl, by first | assumption | exact Mine.lt_of_allLt (by assumption), N15⟩
        have oWT' : ∀ p ∈ nb, p.1 ≠ WT := fun p hp => Nat.ne_of_lt (oWT p hp)
        clear hm16 F15 N15 oWT
        try clear Fk
        try clear N14
        dsimp only
        refine Mine.for_listK (its := List.toArray pv) [] (fun i qs nx => qs = ([("one", .ref x), ("part", .ref PT), ("script", .ref S), ("j", .int (j : Int) t5), ("weights", .ref WT)] : List (Str × Value)) ∧ ∃ wv kw, nx = (WT, PySem.W.listOf (List.toArray wv) kw) :: nb ∧ IntsAre wv (1 :: Mine.scores j (rus.take i)))
          [("one", .ref x), ("part", .ref PT), ("script", .ref S), ("j", .int (j : Int) t5), ("weights", .ref WT)] (by rfl) F16 N16 (fun i qs nx h => by obtain ⟨_, _, _, rfl, _⟩ := h; exact .inr ⟨_, .tail _ f1P, rfl, _, rfl⟩) (List.forall_mem_cons.mpr ⟨v1, List.forall_mem_cons.mpr ⟨v2, List.forall_mem_cons.mpr ⟨v3, List.forall_mem_cons.mpr ⟨v4, List.forall_mem_cons.mpr ⟨v5, List.forall_mem_nil _⟩⟩⟩⟩⟩) ⟨rfl, _, _, rfl, .cons _ _ .nil⟩ (by rfl) (by rfl) ?turn3 ?done3
        case turn3 =>
          rintro I7 i7 v7 qs nx7 oI7 h17 tk17 u7 hi7 ⟨rfl, wv, kw, rfl, hw⟩ F17 N17 off17
          obtain ⟨n7, t7, hn7, rfl⟩ := Mine.ints_turn hpv (by simpa using hi7)
          have hr7 : rus[i7]? = some (Mine.ruOf n7) := by rw [hrus, List.getElem?_map, hn7]; rfl
          have hwl : wv.length ≤ 10 := by
            rw [Mine.ints_len hw, List.length_cons]
            have : (Mine.scores j (rus.take i7)).length ≤ 4 := by
              unfold Mine.scores
              rw [List.length_map]
              refine Nat.le_trans (List.length_filter_le _ _) ?_
              rw [List.length_take, hrus, List.length_map]; omega
            omega
          have hnI : ∀ p ∈ nb, p.1 ≠ I7 := fun p hp => off17 p (.tail _ hp)
          have hWI : @Ne Nat WT I7 := off17 (WT, PySem.W.listOf (List.toArray wv) kw) (.head _)
          have hj2 : j = 0 ∨ j = 1 := by omega
          rcases hj2 with rfl | rfl
          · rw [show ((0 : Nat) : Int) = 0 from rfl] at F17
            repeat' ((fail_if_success (with_reducible show Mine.LoopPost _ _ _ _ _ _ _ _ _)); walk_at "MINE s")
            all_goals
              dsimp only [Mine.LoopPost]
              rename Fr _ _ _ _ => Fz
              rename News _ _ _ _ => Nz
            · have hpos : 0 < Mine.far 0 (Mine.ruOf n7) := by rw [← Mine.far0]; assumption
              rw [List.push_toArray] at Nz
              refine Mine.LoopEnd.intro Fz Nz (fun _ h => h) ?_ ⟨_, List.forall_mem_cons.mpr ⟨by rfl, List.forall_mem_cons.mpr ⟨by rfl, List.forall_mem_cons.mpr ⟨by rfl, List.forall_mem_cons.mpr ⟨by rfl, List.forall_mem_cons.mpr ⟨by rfl, List.forall_mem_nil _⟩⟩⟩⟩⟩, ?_, rfl, _, _, rfl, ?_⟩
              · exact List.forall_mem_cons.mpr ⟨hWI, hnI⟩
              · intro z g1 g2 g3
                have b1 : z ≠ "one" := g2 _ (.head _)
                have b2 : z ≠ "part" := g2 _ (.tail _ (.head _))
                have b3 : z ≠ "script" := g2 _ (.tail _ (.tail _ (.head _)))
                have b4 : z ≠ "j" := g2 _ (.tail _ (.tail _ (.tail _ (.head _))))
                have b5 : z ≠ "weights" := g2 _ (.tail _ (.tail _ (.tail _ (.tail _ (.head _)))))
                simp only [kstB, if_neg b1, if_neg b2, if_neg b3, if_neg b4, if_neg b5, if_neg g1, g3, Bool.false_eq_true, if_false]
              · rw [Mine.scores_yes hr7 hpos, Mine.score_of, ← Mine.far0]
                exact IntsAre.append hw (.cons _ _ .nil)
            · have hpos : ¬ 0 < Mine.far 0 (Mine.ruOf n7) := by rw [← Mine.far0]; assumption
              refine Mine.LoopEnd.intro Fz Nz (fun _ h => h) ?_ ⟨_, List.forall_mem_cons.mpr ⟨by rfl, List.forall_mem_cons.mpr ⟨by rfl, List.forall_mem_cons.mpr ⟨by rfl, List.forall_mem_cons.mpr ⟨by rfl, List.forall_mem_cons.mpr ⟨by rfl, List.forall_mem_nil _⟩⟩⟩⟩⟩, ?_, rfl, _, _, rfl, ?_⟩
              · exact List.forall_mem_cons.mpr ⟨hWI, hnI⟩
              · intro z g1 g2 g3
                have b1 : z ≠ "one" := g2 _ (.head _)
                have b2 : z ≠ "part" := g2 _ (.tail _ (.head _))
                have b3 : z ≠ "script" := g2 _ (.tail _ (.tail _ (.head _)))
                have b4 : z ≠ "j" := g2 _ (.tail _ (.tail _ (.tail _ (.head _))))
                have b5 : z ≠ "weights" := g2 _ (.tail _ (.tail _ (.tail _ (.tail _ (.head _)))))
                simp only [kstB, if_neg b1, if_neg b2, if_neg b3, if_neg b4, if_neg b5, if_neg g1, g3, Bool.false_eq_true, if_false]
              · rw [Mine.scores_no hr7 hpos]
                exact hw
          · rw [show ((1 : Nat) : Int) = 1 from rfl] at F17
            repeat' ((fail_if_success (with_reducible show Mine.LoopPost _ _ _ _ _ _ _ _ _)); walk_at "MINE s")
            all_goals
              dsimp only [Mine.LoopPost]
              rename Fr _ _ _ _ => Fz
              rename News _ _ _ _ => Nz
            · have hpos : 0 < Mine.far 1 (Mine.ruOf n7) := by rw [← Mine.far1]; assumption
              rw [List.push_toArray] at Nz
              refine Mine.LoopEnd.intro Fz Nz (fun _ h => h) ?_ ⟨_, List.forall_mem_cons.mpr ⟨by rfl, List.forall_mem_cons.mpr ⟨by rfl, List.forall_mem_cons.mpr ⟨by rfl, List.forall_mem_cons.mpr ⟨by rfl, List.forall_mem_cons.mpr ⟨by rfl, List.forall_mem_nil _⟩⟩⟩⟩⟩, ?_, rfl, _, _, rfl, ?_⟩
              · exact List.forall_mem_cons.mpr ⟨hWI, hnI⟩
              · intro z g1 g2 g3
                have b1 : z ≠ "one" := g2 _ (.head _)
                have b2 : z ≠ "part" := g2 _ (.tail _ (.head _))
                have b3 : z ≠ "script" := g2 _ (.tail _ (.tail _ (.head _)))
                have b4 : z ≠ "j" := g2 _ (.tail _ (.tail _ (.tail _ (.head _))))
                have b5 : z ≠ "weights" := g2 _ (.tail _ (.tail _ (.tail _ (.tail _ (.head _)))))
                simp only [kstB, if_neg b1, if_neg b2, if_neg b3, if_neg b4, if_neg b5, if_neg g1, g3, Bool.false_eq_true, if_false]
              · rw [Mine.scores_yes hr7 hpos, Mine.score_of, ← Mine.far1]
                exact IntsAre.append hw (.cons _ _ .nil)
            · have hpos : ¬ 0 < Mine.far 1 (Mine.ruOf n7) := by rw [← Mine.far1]; assumption
              refine Mine.LoopEnd.intro Fz Nz (fun _ h => h) ?_ ⟨_, List.forall_mem_cons.mpr ⟨by rfl, List.forall_mem_cons.mpr ⟨by rfl, List.forall_mem_cons.mpr ⟨by rfl, List.forall_mem_cons.mpr ⟨by rfl, List.forall_mem_cons.mpr ⟨by rfl, List.forall_mem_nil _⟩⟩⟩⟩⟩, ?_, rfl, _, _, rfl, ?_⟩
              · exact List.forall_mem_cons.mpr ⟨hWI, hnI⟩
              · intro z g1 g2 g3
                have b1 : z ≠ "one" := g2 _ (.head _)
                have b2 : z ≠ "part" := g2 _ (.tail _ (.head _))
                have b3 : z ≠ "script" := g2 _ (.tail _ (.tail _ (.head _)))
                have b4 : z ≠ "j" := g2 _ (.tail _ (.tail _ (.tail _ (.head _))))
                have b5 : z ≠ "weights" := g2 _ (.tail _ (.tail _ (.tail _ (.tail _ (.head _)))))
                simp only [kstB, if_neg b1, if_neg b2, if_neg b3, if_neg b4, if_neg b5, if_neg g1, g3, Bool.false_eq_true, if_false]
              · rw [Mine.scores_no hr7 hpos]
                exact hw
        case done3 =>
          rintro qs nx7 h17 tk17 u7 ⟨rfl, wv, kw, rfl, hw⟩ F17 N17
          rw [List.size_toArray, Mine.ints_len hpv, List.take_of_length_le (by rw [hrus, List.length_map]; exact Nat.le_refl _)] at hw
          repeat ((fail_if_success (with_reducible show wpAny _ _ (call (Value.builtin "max") _) _ _ _)); walk_at "MINE s")
          rename Fr _ _ _ _ => F18
          rename News _ _ _ _ => N18
          refine max_list_N (by rfl) F18 N18 ⟨_, Mine.News.get N18 (.head _), rfl, _, rfl⟩ hw (by simp) ?_
          intro h19 MX tM tk19 F19 N19 hm1 hm2
          have hMX := Mine.top_of hm1 hm2
          clear F18 N18 hm1 hm2
          repeat ((fail_if_success (with_reducible show wpAny _ _ (call (Value.builtin "max") _) _ _ _)); walk_at "MINE s")
          rename Fr _ _ _ _ => F20
          rename News _ _ _ _ => N20
          refine max_list_N (by rfl) F20 N20 ⟨_, Mine.News.get N20 (.head _), rfl, _, rfl⟩ hw (by simp) ?_
          intro h21 MY tN tk21 F21 N21 hm1 hm2
          obtain rfl : MY = MX := (Mine.top_of hm1 hm2).trans hMX.symm
          clear F20 N20 hm1 hm2
          repeat ((fail_if_success (with_reducible show wpAny _ _ (subscriptTail _ _ _ _) _ _ _)); walk_at "MINE s")
          rename News _ _ _ _ => N22
          refine Mine.names_item3 (Mine.News.get N22 (.tail _ f1A)) hj ?_
          intro tn
          repeat ((fail_if_success (with_reducible show wpAny _ _ (call (Value.ref 49) _) _ _ _)); walk_at "MINE s")
          rename Fr _ _ _ _ => F23
          rename News _ _ _ _ => N23
          have hrl4 : rus.length ≤ 4 := by rw [hrus, List.length_map]; exact hp4
          k_dflt (refine' Mine.allow_ok (nw := (WT, PySem.W.listOf (List.toArray wv) kw) :: nb) (rs := rus) (j := j) ?c1 ?c2 ?c3 ?c4 ?c5 F23 N23 (.tail _ f1x) (.tail _ f1d) (.tail _ f1R) (hRC.up fun p hp => .tail _ (f1S p hp)) (by omega) hj ?_)
          case c4 => rfl
          case c5 => rfl
          case c1 => k_asm
          case c2 => k_asm
          case c3 => k_asm
          intro h24 tk24 F24 N24
          clear F23 N23
          try clear N22
          have hal : (Mine.ruRun j rus (-1, true)).2 = (MY.fmod 2 == 1) := by rw [hrus]; rw [hrus] at hMX; exact Mine.allowed_is hMX
          repeat ((fail_if_success (with_reducible show wpAny _ _ (compareOp _ _ _) _ _ _)); walk_at "MINE s")
          dsimp only
          refine Mine.isnot_same hal ?_
          have hMb : 1 ≤ MY ∧ MY ≤ 9 := by rw [hMX, hrus]; exact ⟨Mine.top_pos, Mine.top_le9 pn⟩
          have hFe : MY.fdiv 2 = MY / 2 := Int.fdiv_eq_ediv_of_nonneg _ (by decide)
          obtain ⟨FA, hFA⟩ : ∃ FA, FA = MY.fdiv 2 := ⟨_, rfl⟩
          obtain ⟨AL, hAL⟩ : ∃ AL, AL = (MY.fmod 2 == 1) := ⟨_, rfl⟩
          rw [← hFA, ← hAL] at F24
          have hFb : 0 ≤ FA ∧ FA ≤ 4 := by rw [hFA, hFe]; omega
          rw [← hAL] at hal
          rw [hFe] at hFA
          repeat ((fail_if_success (with_reducible show wpAny _ _ (exec (Stmt.For _ _ _ _ _) _) _ _ _)); walk_at "MINE s")
          refine wpAny_For ?_
          repeat ((fail_if_success (with_reducible show wpAny _ _ (call (Value.type "range") _ _) _ _ _)); walk_at "MINE s")
          obtain ⟨lo, elo, lo1, lo2⟩ : ∃ lo : Int, lo = (if FA - 1 > 1 then FA - 1 else 1) ∧ 1 ≤ lo ∧ lo ≤ 4 := ⟨_, rfl, by split <;> omega, by split <;> omega⟩
          rw [← elo]
          walk_at "MINE to iter"
          rename Fr _ _ _ _ => F25
          rename News _ _ _ _ => N25
          rename IsRange _ _ _ _ _ _ _ _ => hr25
          obtain ⟨m25, hm25, F25g⟩ := Mine.frSome F25
          obtain ⟨tF, w0⟩ : ∃ tF, (m25 "one" = some (.ref x) ∧ m25 "part" = some (.ref PT) ∧ m25 "script" = some (.ref S) ∧ m25 "j" = some (.int (j : Int) t5) ∧ m25 "farthest" = some (.int FA tF) ∧ m25 "allowed" = some (.bool AL)) := by
            rw [hm25]
            exact ⟨_, rfl, rfl, rfl, rfl, rfl, rfl⟩
          have N26 : News _ _ _ (Mine.L3 RL ys kr ps2 [(J, oJ), (I, oI)] st2) := fun p hp => N25 p (.tail _ (by rw [hnb]; exact hp))
          clear hm25 F25 N25
          try clear F24
          try clear N24
          refine Mine.for_range (n := (FA + 2 - lo).toNat) (fun r m' nx => (m' "one" = some (.ref x) ∧ m' "part" = some (.ref PT) ∧ m' "script" = some (.ref S) ∧ m' "j" = some (.int (j : Int) t5) ∧ m' "farthest" = some (.int FA tF) ∧ m' "allowed" = some (.bool AL)) ∧ ∃ kr ps st2, nx = Mine.L3 RL ys kr ps [(J, oJ), (I, oI)] st2 ∧ Mine.B3 RL ps stC [(J, oJ), (I, oI)] st2)
            (by rfl) hr25 (small_one (by omega) (by omega) (by omega) (by omega)) (by rw [rangeSize_nat]) F25g N26 ⟨w0, _, _, _, rfl, B14⟩ (fun _ v => Mine.letName _ v) ?turn4 ?done4
          case turn4 =>
            clear w0 F25g N26 f1x f1d f1A f1N f1R f1S f1P
            clear hnb
            rintro R r t25 m26 nx26 oR h26 tk26 hr4 ⟨⟨w1, w2, w3, w4, w5, w6⟩, kr, ps3, st3, rfl, B26⟩ F26 N26 off26
            obtain ⟨kk, ekk, kk1, kk2⟩ : ∃ kk : Int, kk = lo + (r : Int) * 1 ∧ 1 ≤ kk ∧ kk ≤ 10 := ⟨_, rfl, by omega, by omega⟩
            rw [← ekk]
            refine wpAny_assign_Name (wpAny_storeName_local (by rfl) F26.ns (fun h27 hn27 hs27 => ?_) (by rfl))
            have F27 := F26.set hn27 hs27
            have N27 := N26.set hs27
            have Fk := Mine.frKst F27 [("one", .ref x), ("part", .ref PT), ("script", .ref S), ("j", .int (j : Int) t5), ("farthest", .int FA tF), ("allowed", .bool AL)] (List.forall_mem_cons.mpr ⟨w1, List.forall_mem_cons.mpr ⟨w2, List.forall_mem_cons.mpr ⟨w3, List.forall_mem_cons.mpr ⟨w4, List.forall_mem_cons.mpr ⟨w5, List.forall_mem_cons.mpr ⟨w6, List.forall_mem_nil _⟩⟩⟩⟩⟩⟩)
            obtain ⟨N28, B28⟩ := Mine.enter3 N27 B26 off26
            have oR2 : ∀ q ∈ ([(J, oJ), (I, oI)] : List (Addr × Obj)), q.1 ≠ R := fun q hq => off26 q (.tail _ (.tail _ (List.mem_append_left _ hq)))
            clear F26 N26 F27 N27 off26
            try clear hn27
            try clear hs27
            have e2P := B28.sub _ cPT
            obtain ⟨nc, hnc⟩ : ∃ nc, nc = Mine.L3 RL ys kr ps3 [(R, oR), (J, oJ), (I, oI)] st3 := ⟨_, rfl⟩
            rw [← hnc] at N28
            have f2P : (PT, PySem.W.listOf (List.toArray pv) 0) ∈ nc := by rw [hnc]; exact Mine.L3.st e2P
            have hpv4 : pv.length ≤ 4 := by rw [Mine.ints_len hpv]; exact hp4
            repeat ((fail_if_success (with_reducible show wpAny _ _ (exec (Stmt.For _ _ _ _ _) _) _ _ _)); walk_at "MINE s")
            refine wpAny_For ?_
            walk_at "MINE to iter"
            rename Fr _ _ _ _ => F29
            rename News _ _ _ _ => N29
            rename IsRange _ _ _ _ _ _ _ _ => hr29
            obtain ⟨m29, hm29, F29g⟩ := Mine.frSome F29
            have w0 : (m29 "one" = some (.ref x) ∧ m29 "part" = some (.ref PT) ∧ m29 "script" = some (.ref S) ∧ m29 "j" = some (.int (j : Int) t5) ∧ m29 "farthest" = some (.int FA tF) ∧ m29 "allowed" = some (.bool AL) ∧ m29 "reach" = some (.int kk t25)) := by
              rw [hm29]
              exact ⟨rfl, rfl, rfl, rfl, rfl, rfl, rfl⟩
            rw [hnc] at N29
            clear hm29 F29
            try clear Fk
            try clear N28
            refine Mine.for_range (n := pv.length + 1) (fun q m' nx => (m' "one" = some (.ref x) ∧ m' "part" = some (.ref PT) ∧ m' "script" = some (.ref S) ∧ m' "j" = some (.int (j : Int) t5) ∧ m' "farthest" = some (.int FA tF) ∧ m' "allowed" = some (.bool AL) ∧ m' "reach" = some (.int kk t25)) ∧ ∃ kr ps st2, nx = Mine.L3 RL ys kr ps [(R, oR), (J, oJ), (I, oI)] st2 ∧ Mine.B3 RL ps stC [(R, oR), (J, oJ), (I, oI)] st2)
              (by rfl) hr29 (small_one (by omega) (by omega) (by omega) (by omega)) (by rw [rangeSize_nat]; omega) F29g N29 ⟨w0, _, _, _, rfl, B28⟩ (fun _ v => Mine.letName _ v) ?turn5 ?done5
            case turn5 =>
              clear w0 F29g N29 f2P e2P
              clear hnc
              rintro P q t30 m30 nx30 oP h30 tk30 hq5 ⟨⟨w1, w2, w3, w4, w5, w6, w7⟩, kr, ps4, st4, rfl, B30⟩ F30 N30 off30
              rw [show (0 : Int) + (q : Int) * 1 = (q : Int) from by omega]
              refine wpAny_assign_Name (wpAny_storeName_local (by rfl) F30.ns (fun h31 hn31 hs31 => ?_) (by rfl))
              have F31 := F30.set hn31 hs31
              have N31 := N30.set hs31
              have Fk := Mine.frKst F31 [("one", .ref x), ("part", .ref PT), ("script", .ref S), ("j", .int (j : Int) t5), ("farthest", .int FA tF), ("allowed", .bool AL), ("reach", .int kk t25), ("place", .int (q : Int) t30)] (List.forall_mem_cons.mpr ⟨w1, List.forall_mem_cons.mpr ⟨w2, List.forall_mem_cons.mpr ⟨w3, List.forall_mem_cons.mpr ⟨w4, List.forall_mem_cons.mpr ⟨w5, List.forall_mem_cons.mpr ⟨w6, List.forall_mem_cons.mpr ⟨w7, List.forall_mem_cons.mpr ⟨by rfl, List.forall_mem_nil _⟩⟩⟩⟩⟩⟩⟩⟩)
              obtain ⟨N32, B32⟩ := Mine.enter3 N31 B30 off30
              have oP2 : ∀ z ∈ ([(R, oR), (J, oJ), (I, oI)] : List (Addr × Obj)), z.1 ≠ P := fun z hz => off30 z (.tail _ (.tail _ (List.mem_append_left _ hz)))
              clear F30 N30 F31 N31 off30
              try clear hn31
              try clear hs31
              have hql : q ≤ ys.length := by
                have : ys.length = pv.length := by rw [hRC.1, hrus, List.length_map, Mine.ints_len hpv]
                omega
              have e3x := B32.sub _ cx
              have e3d := B32.sub _ cd
              have e3A := B32.sub _ cNA
              have e3N := B32.sub _ cN
              obtain ⟨nd, hnd⟩ : ∃ nd, nd = Mine.L3 RL ys kr ps4 [(P, oP), (R, oR), (J, oJ), (I, oI)] st4 := ⟨_, rfl⟩
              rw [← hnd] at N32
              have f3x : (x, instObj 52 d) ∈ nd := by rw [hnd]; exact Mine.L3.st e3x
              have f3d : (d, dictOf [⟨e1, .str "useragents" t1, .ref U⟩, ⟨e2, .str "rulelines" t2, .ref RL⟩, ⟨e3, .str "delay" t3, .none⟩, ⟨e4, .str "req_rate" t4, .none⟩] 4) ∈ nd := by rw [hnd]; exact Mine.L3.st e3d
              have f3A : (NA, PySem.W.listOf (List.toArray [.str "/X%2F" q1, .str "" q2]) 0) ∈ nd := by rw [hnd]; exact Mine.L3.st e3A
              have f3N : (s1.heap.objs.size + 1, oN) ∈ nd := by rw [hnd]; exact Mine.L3.st e3N
              have f3R : (RL, PySem.W.listOf (List.toArray ys) kr) ∈ nd := by rw [hnd]; exact Mine.L3.rl
              repeat ((fail_if_success (with_reducible show wpAny _ _ (call (Value.ref 63) _) _ _ _)); walk_at "MINE s")
              rename Fr _ _ _ _ => F33
              rename News _ _ _ _ => N33
              obtain ⟨RA34, eRA, frA, Nb34⟩ : ∃ RA, RA = _ ∧ (∀ p ∈ nd, p.1 < RA) ∧ News _ _ _ ((RA, PySem.W.listOf (List.toArray [.int kk t25, .int kk t25]) 0) :: nd) := ⟨_, rfl, by first | assumption | exact Mine.lt_of_allLt (by assumption), N33⟩
              subst eRA
              k_dflt (refine' Mine.rule_B3 (mo := [(P, oP), (R, oR), (J, oJ), (I, oI)]) (st := st4) (stC := stC) (ps := ps4) (rl := ys) (kr := kr) (nk := 0) (rk := 0) ?c1 ?c2 ?c3 ?c4 ?c5 ?c6 F33 Nb34 (fun z hz => .tail _ (by rw [hnd]; exact hz)) (.head _) (fun z hz => Nat.ne_of_lt (frA z (by rw [hnd]; exact hz))) B32 cNA ?_)
              case c5 => rfl
              case c6 => rfl
              case c1 => k_asm
              case c2 => k_asm
              case c3 => k_asm
              case c4 => assumption
              intro h34 tk34 x34 st34 ps34 F34 N34 B34 up34 hru34
              try clear F33
              try clear N33
              clear Nb34 frA
              repeat ((fail_if_success (with_reducible show wpAny _ _ (call (Value.builtin "list.insert") _) _ _ _)); walk_at "MINE s")
              refine Mine.ins_at (vs := ys) (p := q) F34 N34 Mine.L3.rl hql (by omega) ?_
              intro h35 F35 N35
              replace N35 := Mine.put_L3 N35 B34
              clear F34 N34
              have hqr : q ≤ rus.length := by rw [← hRC.1]; exact hql
              have hil : (ys.insertIdx q (.ref x34)).length = ys.length + 1 := by rw [List.length_insertIdx, if_pos hql]
              have hR34 := (hRC.up B34.sub).ins (r := (kk, kk, false)) hqr hru34
              obtain ⟨ne, hne⟩ : ∃ ne, ne = Mine.L3 RL (ys.insertIdx q (.ref x34)) (kr + 1) ps34 [(P, oP), (R, oR), (J, oJ), (I, oI)] st34 := ⟨_, rfl⟩
              rw [← hne] at N35
              have f4x : (x, instObj 52 d) ∈ ne := by rw [hne]; exact Mine.L3.st (B34.sub _ cx)
              have f4d : (d, dictOf [⟨e1, .str "useragents" t1, .ref U⟩, ⟨e2, .str "rulelines" t2, .ref RL⟩, ⟨e3, .str "delay" t3, .none⟩, ⟨e4, .str "req_rate" t4, .none⟩] 4) ∈ ne := by rw [hne]; exact Mine.L3.st (B34.sub _ cd)
              have f4A : (NA, PySem.W.listOf (List.toArray [.str "/X%2F" q1, .str "" q2]) 0) ∈ ne := by rw [hne]; exact Mine.L3.st (B34.sub _ cNA)
              have f4N : (s1.heap.objs.size + 1, oN) ∈ ne := by rw [hne]; exact Mine.L3.st (B34.sub _ cN)
              have f4R : (RL, PySem.W.listOf (List.toArray ((ys.insertIdx q (.ref x34)))) ((kr + 1))) ∈ ne := by rw [hne]; exact Mine.L3.rl
              repeat ((fail_if_success (with_reducible show wpAny _ _ (subscriptTail _ _ _ _) _ _ _)); walk_at "MINE s")
              refine Mine.names_item3 (Mine.News.get (by assumption) f4A) hj ?_
              intro tna
              repeat ((fail_if_success (with_reducible show wpAny _ _ (call (Value.ref 49) _) _ _ _)); walk_at "MINE s")
              rename Fr _ _ _ _ => F4a
              rename News _ _ _ _ => N4a
              k_dflt (refine' Mine.allow_ok (nw := ne) (rl := (ys.insertIdx q (.ref x34))) (rs := (rus.insertIdx q (kk, kk, false))) (j := j) ?c1 ?c2 ?c3 ?c4 ?c5 F4a N4a f4x f4d f4R (hR34.up fun z hz => by rw [hne]; exact Mine.L3.st hz) (by rw [List.length_insertIdx]; split <;> omega) hj ?_)
              case c4 => rfl
              case c5 => rfl
              case c1 => k_asm
              case c2 => k_asm
              case c3 => k_asm
              intro h5a tk5a F5a N5a
              clear F4a N4a
              repeat ((fail_if_success (with_reducible show wpAny _ _ (eval (Expr.BoolOp _ _ _) _) _ _ _)); walk_at "MINE s")
              refine Mine.join_eval (fun v => v = .bool (AL && decide (kk ≤ FA))) ?_ ?_
              · cases AL
                all_goals
                  repeat' ((fail_if_success (with_reducible show Mine.JoinP _ _ _ _)); walk_at "MINE s")
                  exact ⟨rfl, _, rfl⟩
              rintro v6 tk6 rfl
              repeat ((fail_if_success (with_reducible show wpAny _ _ (compareOp _ _ _) _ _ _)); walk_at "MINE s")
              dsimp only
              refine Mine.isnot_same (Mine.v_no (by rw [hrus]; exact Mine.farOk_of pn) hMX hFA hal hqr kk1) ?_
              repeat ((fail_if_success (with_reducible show wpAny _ _ (call (Value.ref 63) _) _ _ _)); walk_at "MINE s")
              rename Fr _ _ _ _ => F43
              rename News _ _ _ _ => N43
              obtain ⟨RA44, eRA, frA, Nb44⟩ : ∃ RA, RA = _ ∧ (∀ p ∈ ne, p.1 < RA) ∧ News _ _ _ ((RA, PySem.W.listOf (List.toArray [.int kk t25, .int kk t25]) 0) :: ne) := ⟨_, rfl, by first | assumption | exact Mine.lt_of_allLt (by assumption), N43⟩
              subst eRA
              k_dflt (refine' Mine.rule_B3 (mo := [(P, oP), (R, oR), (J, oJ), (I, oI)]) (st := st34) (stC := stC) (ps := ps34) (rl := (ys.insertIdx q (.ref x34))) (kr := (kr + 1)) (nk := 0) (rk := 0) ?c1 ?c2 ?c3 ?c4 ?c5 ?c6 F43 Nb44 (fun z hz => .tail _ (by rw [hne]; exact hz)) (.head _) (fun z hz => Nat.ne_of_lt (frA z (by rw [hne]; exact hz))) B34 cNA ?_)
              case c5 => rfl
              case c6 => rfl
              case c1 => k_asm
              case c2 => k_asm
              case c3 => k_asm
              case c4 => assumption
              intro h44 tk44 x44 st44 ps44 F44 N44 B44 up44 hru44
              try clear F43
              try clear N43
              clear Nb44 frA
              obtain ⟨nh, hnh⟩ : ∃ nh, nh = Mine.L3 RL (ys.insertIdx q (.ref x34)) (kr + 1) ps44 [(P, oP), (R, oR), (J, oJ), (I, oI)] st44 := ⟨_, rfl⟩
              rw [← hnh] at N44
              have f6x : (x, instObj 52 d) ∈ nh := by rw [hnh]; exact Mine.L3.st (B44.sub _ cx)
              have f6d : (d, dictOf [⟨e1, .str "useragents" t1, .ref U⟩, ⟨e2, .str "rulelines" t2, .ref RL⟩, ⟨e3, .str "delay" t3, .none⟩, ⟨e4, .str "req_rate" t4, .none⟩] 4) ∈ nh := by rw [hnh]; exact Mine.L3.st (B44.sub _ cd)
              have f6R : (RL, PySem.W.listOf (List.toArray ((ys.insertIdx q (.ref x34)))) ((kr + 1))) ∈ nh := by rw [hnh]; exact Mine.L3.rl
              repeat ((fail_if_success (with_reducible show wpAny _ _ (setItem _ _ _) _ _ _)); walk_at "MINE s")
              rename Fr _ _ _ _ => F46
              rename News _ _ _ _ => N46
              refine Mine.set_at (vs := ys.insertIdx q (.ref x34)) (p := q) F46 N46 f6R (by omega) (by omega) ?_
              intro h45 F45 N45
              rw [hnh] at N45
              rw [Mine.set_ins _ _ hql] at N45
              replace N45 := Mine.put_L3 N45 B44
              clear F46 N46
              try clear F44
              try clear N44
              have hil2 : (ys.insertIdx q (.ref x44)).length = ys.length + 1 := by rw [List.length_insertIdx, if_pos hql]
              have hR44 := (hRC.up B44.sub).ins (r := (kk, kk, true)) hqr hru44
              obtain ⟨ng, hng⟩ : ∃ ng, ng = Mine.L3 RL (ys.insertIdx q (.ref x44)) (kr + 1) ps44 [(P, oP), (R, oR), (J, oJ), (I, oI)] st44 := ⟨_, rfl⟩
              rw [← hng] at N45
              have f5x : (x, instObj 52 d) ∈ ng := by rw [hng]; exact Mine.L3.st (B44.sub _ cx)
              have f5d : (d, dictOf [⟨e1, .str "useragents" t1, .ref U⟩, ⟨e2, .str "rulelines" t2, .ref RL⟩, ⟨e3, .str "delay" t3, .none⟩, ⟨e4, .str "req_rate" t4, .none⟩] 4) ∈ ng := by rw [hng]; exact Mine.L3.st (B44.sub _ cd)
              have f5A : (NA, PySem.W.listOf (List.toArray [.str "/X%2F" q1, .str "" q2]) 0) ∈ ng := by rw [hng]; exact Mine.L3.st (B44.sub _ cNA)
              have f5N : (s1.heap.objs.size + 1, oN) ∈ ng := by rw [hng]; exact Mine.L3.st (B44.sub _ cN)
              have f5R : (RL, PySem.W.listOf (List.toArray ((ys.insertIdx q (.ref x44)))) ((kr + 1))) ∈ ng := by rw [hng]; exact Mine.L3.rl
              repeat ((fail_if_success (with_reducible show wpAny _ _ (subscriptTail _ _ _ _) _ _ _)); walk_at "MINE s")
              refine Mine.names_item3 (Mine.News.get (by assumption) f5A) hj ?_
              intro tnb
              repeat ((fail_if_success (with_reducible show wpAny _ _ (call (Value.ref 49) _) _ _ _)); walk_at "MINE s")
              rename Fr _ _ _ _ => F4b
              rename News _ _ _ _ => N4b
              k_dflt (refine' Mine.allow_ok (nw := ng) (rl := (ys.insertIdx q (.ref x44))) (rs := (rus.insertIdx q (kk, kk, true))) (j := j) ?c1 ?c2 ?c3 ?c4 ?c5 F4b N4b f5x f5d f5R (hR44.up fun z hz => by rw [hng]; exact Mine.L3.st hz) (by rw [List.length_insertIdx]; split <;> omega) hj ?_)
              case c4 => rfl
              case c5 => rfl
              case c1 => k_asm
              case c2 => k_asm
              case c3 => k_asm
              intro h5b tk5b F5b N5b
              clear F4b N4b
              repeat ((fail_if_success (with_reducible show wpAny _ _ (eval (Expr.BoolOp _ _ _) _) _ _ _)); walk_at "MINE s")
              refine Mine.join_eval (fun v => v = .bool (AL || decide (FA ≤ kk))) ?_ ?_
              · cases AL
                all_goals
                  repeat' ((fail_if_success (with_reducible show Mine.JoinP _ _ _ _)); walk_at "MINE s")
                  exact ⟨rfl, _, rfl⟩
              rintro v7 tk7 rfl
              repeat ((fail_if_success (with_reducible show wpAny _ _ (compareOp _ _ _) _ _ _)); walk_at "MINE s")
              dsimp only
              refine Mine.isnot_same (Mine.v_yes (by rw [hrus]; exact Mine.farOk_of pn) hMX hFA hal hqr kk1) ?_
              repeat ((fail_if_success (with_reducible show wpAny _ _ (delItem _ _) _ _ _)); walk_at "MINE s")
              rename Fr _ _ _ _ => F53
              rename News _ _ _ _ => N53
              refine Mine.del_at (vs := ys.insertIdx q (.ref x44)) (p := q) F53 N53 f5R (by omega) (by omega) ?_
              intro h54 F54 N54
              rw [Mine.erase_ins _ _ hql, hng] at N54
              replace N54 := Mine.put_L3 N54 B44
              clear F53 N53
              repeat' ((fail_if_success (with_reducible show Mine.LoopPost _ _ _ _ _ _ _ _ _)); walk_at "MINE s")
              dsimp only [Mine.LoopPost]
              rename Fr _ _ _ _ => Fz
              obtain ⟨Ny, By, oy⟩ := Mine.leave3 N54 B44 oP2
              exact ⟨_, _, _, _, rfl, Fz, Ny, oy, ⟨by rfl, by rfl, by rfl, by rfl, by rfl, by rfl, by rfl⟩, _, _, _, rfl, By⟩
            case done5 =>
              rintro m60 nx60 h60 tk60 ⟨⟨w1, w2, w3, w4, w5, w6, w7⟩, kr, ps6, st6, rfl, B60⟩ F60 N60
              repeat' ((fail_if_success (with_reducible show Mine.LoopPost _ _ _ _ _ _ _ _ _)); walk_at "MINE s")
              dsimp only [Mine.LoopPost]
              obtain ⟨Ny, By, oy⟩ := Mine.leave3 N60 B60 oR2
              exact ⟨_, _, _, _, rfl, F60, Ny, oy, ⟨w1, w2, w3, w4, w5, w6⟩, _, _, _, rfl, By⟩
          case done4 =>
            clear w0 F25g N26 f1x f1d f1A f1N f1R f1S f1P
            clear hnb
            rintro m70 nx70 h70 tk70 ⟨⟨w1, w2, w3, w4, w5, w6⟩, kr, ps7, st7, rfl, B70⟩ F70 N70
            have Fk := Mine.frKst F70 [("one", .ref x), ("part", .ref PT), ("script", .ref S), ("j", .int (j : Int) t5), ("farthest", .int FA tF), ("allowed", .bool AL)] (List.forall_mem_cons.mpr ⟨w1, List.forall_mem_cons.mpr ⟨w2, List.forall_mem_cons.mpr ⟨w3, List.forall_mem_cons.mpr ⟨w4, List.forall_mem_cons.mpr ⟨w5, List.forall_mem_cons.mpr ⟨w6, List.forall_mem_nil _⟩⟩⟩⟩⟩⟩)
            clear F70
            obtain ⟨ni, hni⟩ : ∃ ni, ni = Mine.L3 RL ys kr ps7 [(J, oJ), (I, oI)] st7 := ⟨_, rfl⟩
            have N71 := N70
            rw [← hni] at N71
            have f7x : (x, instObj 52 d) ∈ ni := by rw [hni]; exact Mine.L3.st (B70.sub _ cx)
            have f7d : (d, dictOf [⟨e1, .str "useragents" t1, .ref U⟩, ⟨e2, .str "rulelines" t2, .ref RL⟩, ⟨e3, .str "delay" t3, .none⟩, ⟨e4, .str "req_rate" t4, .none⟩] 4) ∈ ni := by rw [hni]; exact Mine.L3.st (B70.sub _ cd)
            have f7A : (NA, PySem.W.listOf (List.toArray [.str "/X%2F" q1, .str "" q2]) 0) ∈ ni := by rw [hni]; exact Mine.L3.st (B70.sub _ cNA)
            have f7N : (s1.heap.objs.size + 1, oN) ∈ ni := by rw [hni]; exact Mine.L3.st (B70.sub _ cN)
            have f7R : (RL, PySem.W.listOf (List.toArray ys) kr) ∈ ni := by rw [hni]; exact Mine.L3.rl
            clear N70
            repeat ((fail_if_success (with_reducible show wpAny _ _ (subscriptTail _ _ _ _) _ _ _)); walk_at "MINE s")
            refine Mine.names_item3 (Mine.News.get (by assumption) f7A) hj ?_
            intro tnc
            repeat ((fail_if_success (with_reducible show wpAny _ _ (call (Value.ref 49) _) _ _ _)); walk_at "MINE s")
            rename Fr _ _ _ _ => F72
            rename News _ _ _ _ => N72
            k_dflt (refine' Mine.allow_ok (nw := ni) (rl := ys) (rs := rus) (j := j) ?c1 ?c2 ?c3 ?c4 ?c5 F72 N72 f7x f7d f7R (hRC.up fun p hp => by rw [hni]; exact Mine.L3.st (B70.sub p hp)) (by omega) hj ?_)
            case c4 => rfl
            case c5 => rfl
            case c1 => k_asm
            case c2 => k_asm
            case c3 => k_asm
            intro h73 tk73 F73 N73
            clear F72 N72
            repeat ((fail_if_success (with_reducible show wpAny _ _ (compareOp _ _ _) _ _ _)); walk_at "MINE s")
            dsimp only
            refine Mine.isnot_same hal ?_
            repeat' ((fail_if_success (with_reducible show Mine.LoopPost _ _ _ _ _ _ _ _ _)); walk_at "MINE s")
            dsimp only [Mine.LoopPost]
            rename Fr _ _ _ _ => Fz
            rename News _ _ _ _ => Nz
            rw [hni] at Nz
            obtain ⟨Ny, By, oy⟩ := Mine.leave3 Nz B70 (List.forall_mem_cons.mpr ⟨oIJ, List.forall_mem_nil _⟩)
            exact ⟨_, _, _, _, rfl, Fz, Ny, oy, ⟨by rfl, by rfl, by rfl⟩, _, _, _, rfl, By⟩
      case done2 =>
        rintro m80 nx80 h80 tk80 ⟨⟨x1, x2, x3⟩, kr, ps8, st8, rfl, B80⟩ F80 N80
        repeat' ((fail_if_success (with_reducible show Mine.LoopPost _ _ _ _ _ _ _ _ _)); walk_at "MINE s")
        dsimp only [Mine.LoopPost]
        have hI8 := B80.off (I, oI) (.head _)
        refine ⟨_, _, _, (58, tabObj ps8) :: st8, rfl, F80, fun p hp => N80 p ?_, ?_, x3, ps8, st8, rfl, fun p hp => (B80.off p (.tail _ hp)).1, fun p hp => B80.sub _ (cA p hp), B80.tab⟩
        · unfold Mine.L3
          simp only [List.cons_append, List.nil_append, List.mem_cons] at hp ⊢
          rcases hp with h | h | h
          · exact .inr (.inr (.inl h))
          · exact .inl h
          · exact .inr (.inr (.inr h))
        · exact List.forall_mem_cons.mpr ⟨Ne.symm hI8.1, fun p hp => B80.apart p hp (I, oI) (.head _)⟩
    case done =>
      rintro m₁ nx h tk ⟨g1, ps, st, rfl, hoff, hsub, hps⟩ F1 N1
      repeat' ((fail_if_success (with_reducible show _ ∧ _)); walk_at "MINE s")
      refine ⟨?_, ?_⟩
      · kc_bool
        refine goodW_bool (by with_reducible assumption) (by with_reducible assumption) (raisesW_false ?_) ?_
        · wrow_none_raised
        · refine postW_of (by wrow_shape) (w_eq_bool (w_res rfl) w_lit) ?_
          rfl
      · exact ⟨GrownAt.of (by k_asm) (by k_mem), trivial⟩))
