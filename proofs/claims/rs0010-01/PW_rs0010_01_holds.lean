import PyProof.Rows.All
import Wide.All
import OpenK.AllK
import Wide.FinOn
import PySem.Challenge.RW_rs0010_01
open PySem PySem.W PyProof.Rows PySem.Calls
set_option Elab.async false
set_option linter.unusedSimpArgs false
set_option linter.unusedVariables false

-- part LHead
namespace Mine
set_option maxRecDepth 100000
set_option maxHeartbeats 8000000
open_top hd for PySem.Challenge.rw_rs0010_01
end Mine

-- part LBase
namespace Mine
set_option maxRecDepth 100000
set_option maxHeartbeats 1000000

structure Cx (w : World) (A A₀ : Around) (base h₀ : Heap) (outer : List Env) (env : Env) (L : Addr) (p : Program) (loose : List Str) (mean : ExcName → Option Value) (mg mb : Str → Option Value) (d : Nat) : Prop where
  B : Below A₀ base outer h₀
  X : (hd.heap_39 w.params).In h₀
  T : Top p loose mean mg mb h₀
  hA : A.frames = some (env :: outer)
  hf : env.frame = some L
  hke : env.scope.kind = .function
  room : A.depth + d < recursionLimit
  hh : A.handled = none
  hu : A.units + 4 * d + 100 < cLine

variable {prog : Program} {w : World} {A A₀ : Around} {E : Value → Shared → Prop} {s : Shared} {L : Addr} {h₀ base : Heap} {m mg mb : Str → Option Value} {news : List (Addr × Obj)} {p : Program} {loose : List Str} {mean : ExcName → Option Value} {Q : Value → Shared → Prop} {env : Env} {outer : List Env} {d : Nat}

theorem Cx.down {A2 : Nat} {A4 : Option (List Code)} {A5 : Nat} {g : Heap} {env' : Env} {L' : Addr} (B' : Below ⟨none, A2, some (env :: outer), A4, A5⟩ base (env :: outer) g) (X' : (hd.heap_39 w.params).In g) (T' : Top p loose mean mg mb g)
    (hf : env'.frame = some L') (hke : env'.scope.kind = .function) (room : A2 + (d + 1) < recursionLimit) (hu : A5 + 4 * (d + 1) + 100 < cLine) :
    Cx w (Around.deeper ⟨none, A2, some (env :: outer), A4, A5⟩ env') ⟨none, A2, some (env :: outer), A4, A5⟩ base g (env :: outer) env' L' p loose mean mg mb d :=
  ⟨B', X', T', rfl, hf, hke, by show A2 + 1 + d < recursionLimit; omega, rfl, by show A5 + 3 + 4 * d + 100 < cLine; omega⟩

theorem fill : (PySem.Challenge.rw_rs0010_01, hd.heap_39) = (PySem.Challenge.rw_rs0010_01, hd.heap_39) := by w_top off; k_fill; rfl

theorem call_hb {n k : Int} {t : Tok} (C : Cx w A A₀ base h₀ outer env L p loose mean mg mb d) (F : Fr h₀ L s.heap m) (N : News h₀ L s.heap news) (hk : (Builtin.Int.intBits n : Int) - 1 = k)
    (h : ∀ h' tk t', Fr h₀ L h' m → News h₀ L h' news → Q (.int k t') { s with heap := h', toks := tk }) :
    wpAny (model prog w) A (call (.ref 28) [.int n t]) Q E s := by
  obtain ⟨B, X, T, hA, hf, hke, room, hh, hu⟩ := C
  refine wpAny_call ?_
  refine' code_def B F X N T hA hf hke ?k6 ?k7 (by omega) ?k9 ?kB ?_ ?c2 ?c3 ?c4 ?c5
  case k6 => k_is
  case k7 => k_is
  case k9 => exact BindsTo.of_eq rfl
  case c5 => decide
  case kB => exact locs rfl
  case c2 => exact rfl
  case c3 => exact rfl
  case c4 => exact rfl
  intro g' L' h' FG' F' N' B' X' T'
  dsimp only
  repeat' (first | walk1 | (dsimp only; walk1))
  rw [hk]
  exact h _ _ _ (by assumption) (by assumption)

theorem call_sb {n : Int} {t : Tok} (C : Cx w A A₀ base h₀ outer env L p loose mean mg mb d) (F : Fr h₀ L s.heap m) (N : News h₀ L s.heap news)
    (h : ∀ v h' tk, v = (decide (n ≠ 0) && (Builtin.bitAnd n (n - 1) == 0)) → Fr h₀ L h' m → News h₀ L h' news → Q (.bool v) { s with heap := h', toks := tk }) :
    wpAny (model prog w) A (call (.ref 21) [.int n t]) Q E s := by
  obtain ⟨B, X, T, hA, hf, hke, room, hh, hu⟩ := C
  refine wpAny_call ?_
  refine' code_def B F X N T hA hf hke ?k6 ?k7 (by omega) ?k9 ?kB ?_ ?c2 ?c3 ?c4 ?c5
  case k6 => k_is
  case k7 => k_is
  case k9 => exact BindsTo.of_eq rfl
  case c5 => decide
  case kB => exact locs rfl
  case c2 => exact rfl
  case c3 => exact rfl
  case c4 => exact rfl
  intro g' L' h' FG' F' N' B' X' T'
  dsimp only
  repeat' (first | walk1 | (dsimp only; walk1))
  all_goals exact h _ _ _ (by simp [*]) (by assumption) (by assumption)

theorem call_term {n : Int} {t : Tok} (C : Cx w A A₀ base h₀ outer env L p loose mean mg mb d) (F : Fr h₀ L s.heap m) (N : News h₀ L s.heap news)
    (h : ∀ h' tk, Fr h₀ L h' m → News h₀ L h' news → Q (.bool (decide (n < 256))) { s with heap := h', toks := tk }) :
    wpAny (model prog w) A (call (.ref 35) [.int n t]) Q E s := by
  obtain ⟨B, X, T, hA, hf, hke, room, hh, hu⟩ := C
  refine wpAny_call ?_
  refine' code_def B F X N T hA hf hke ?k6 ?k7 (by omega) ?k9 ?kB ?_ ?c2 ?c3 ?c4 ?c5
  case k6 => k_is
  case k7 => k_is
  case k9 => exact BindsTo.of_eq rfl
  case c5 => decide
  case kB => exact locs rfl
  case c2 => exact rfl
  case c3 => exact rfl
  case c4 => exact rfl
  intro g' L' h' FG' F' N' B' X' T'
  dsimp only
  repeat' (first | walk1 | (dsimp only; walk1))
  exact h _ _ (by assumption) (by assumption)
theorem call_nonterm {n : Int} {t : Tok} (C : Cx w A A₀ base h₀ outer env L p loose mean mg mb d) (F : Fr h₀ L s.heap m) (N : News h₀ L s.heap news)
    (h : ∀ h' tk, Fr h₀ L h' m → News h₀ L h' news → Q (.bool (decide (n ≥ 256))) { s with heap := h', toks := tk }) :
    wpAny (model prog w) A (call (.ref 42) [.int n t]) Q E s := by
  obtain ⟨B, X, T, hA, hf, hke, room, hh, hu⟩ := C
  refine wpAny_call ?_
  refine' code_def B F X N T hA hf hke ?k6 ?k7 (by omega) ?k9 ?kB ?_ ?c2 ?c3 ?c4 ?c5
  case k6 => k_is
  case k7 => k_is
  case k9 => exact BindsTo.of_eq rfl
  case c5 => decide
  case kB => exact locs rfl
  case c2 => exact rfl
  case c3 => exact rfl
  case c4 => exact rfl
  intro g' L' h' FG' F' N' B' X' T'
  dsimp only
  repeat' (first | walk1 | (dsimp only; walk1))
  exact h _ _ (by assumption) (by assumption)
theorem call_eof {n : Int} {t : Tok} (C : Cx w A A₀ base h₀ outer env L p loose mean mg mb d) (F : Fr h₀ L s.heap m) (N : News h₀ L s.heap news)
    (h : ∀ h' tk, Fr h₀ L h' m → News h₀ L h' news → Q (.bool (decide (n = 0))) { s with heap := h', toks := tk }) :
    wpAny (model prog w) A (call (.ref 49) [.int n t]) Q E s := by
  obtain ⟨B, X, T, hA, hf, hke, room, hh, hu⟩ := C
  refine wpAny_call ?_
  refine' code_def B F X N T hA hf hke ?k6 ?k7 (by omega) ?k9 ?kB ?_ ?c2 ?c3 ?c4 ?c5
  case k6 => k_is
  case k7 => k_is
  case k9 => exact BindsTo.of_eq rfl
  case c5 => decide
  case kB => exact locs rfl
  case c2 => exact rfl
  case c3 => exact rfl
  case c4 => exact rfl
  intro g' L' h' FG' F' N' B' X' T'
  dsimp only
  repeat' (first | walk1 | (dsimp only; walk1))
  exact h _ _ (by assumption) (by assumption)
end Mine

-- part LFor
namespace Mine
set_option maxRecDepth 100000
set_option maxHeartbeats 1000000
variable {prog : Program} {w : World} {A A₀ : Around} {s : Shared} {L : Addr} {h₀ base : Heap} {m mg mb : Str → Option Value} {news : List (Addr × Obj)} {env : Env}

theorem News.sub {h : Heap} {l l' : List (Addr × Obj)} (N : News h₀ L h l) (hs : ∀ p ∈ l', p ∈ l) : News h₀ L h l' := fun p hp => N p (hs p hp)

/-- what a turn of a for must leave -/
def ForEnd (h₀ : Heap) (L : Addr) (s : Shared) (I : Addr) (io : Obj) (J : (Str → Option Value) → List (Addr × Obj) → Prop) (Q : Flow → Shared → Prop) (f : Flow) (s₃ : Shared) : Prop :=
  match f with
  | .next | .cont => ∃ h' tk' m' nx', s₃ = { s with heap := h', toks := tk' } ∧ Fr h₀ L h' m' ∧ News h₀ L h' ((I, io) :: nx') ∧ (∀ p ∈ nx', p.1 ≠ I) ∧ J m' nx'
  | .brk => Q .next s₃
  | .ret v => Q (.ret v) s₃

theorem forL {target : Expr} {body : List Stmt} {l : Addr} {its : Array Value} {nn : Nat} {Q : Flow → Shared → Prop}
    (J : Nat → (Str → Option Value) → List (Addr × Obj) → Prop)
    (hh : A.handled = none) (F : Fr h₀ L s.heap m) (N : News h₀ L s.heap news) (h0 : J 0 m news)
    (hJl : ∀ i m nx, J i m nx → (l, listOf its nn) ∈ nx)
    (turn : ∀ i v m₁ nx h tk I io, its[i]? = some v → J i m₁ nx → (∀ p ∈ nx, p.1 ≠ I) → Fr h₀ L h m₁ → News h₀ L h ((I, io) :: nx) →
      wpAny (model prog w) A (assign target env v) (fun _ s₂ => wpAny (model prog w) A (execs body env) (ForEnd h₀ L s I io (J (i + 1)) Q) (fun _ _ => False) s₂) (fun _ _ => False) { s with heap := h, toks := tk })
    (done : ∀ m₁ nx h tk, J its.size m₁ nx → Fr h₀ L h m₁ → News h₀ L h nx → Q .next { s with heap := h, toks := tk })
    (ht : ∀ I v, letOwnedTupleGo target (.ref I) v = pure () := by intro _ _; rfl) :
    wpAny (model prog w) A (pyIter (.ref l)) (fun it s₂ =>
      codeAny (model prog w) A (.forLoop target it body [] env) (fun r s' => match r with | .ok f => Q f s' | .error e => cameBackBy (model prog w) A env (fun _ _ => False) e s') s₂) (fun _ _ => False) s := by
  have hol : s.heap.get? l = some (listOf its nn) := (N _ (hJl _ _ _ h0)).1
  have hls : s.heap.IsList l its := ⟨_, hol, rfl, nn, rfl⟩
  refine wpAny_pyIter_list hls ?_
  obtain ⟨oL, es, ep, hL, hr⟩ := F.ns
  refine codeAny_forLoop (fun k s' => ∃ i h tk m₁ nx io, k = its.size - i ∧ i ≤ its.size ∧ s' = { s with heap := h, toks := tk } ∧ Fr h₀ L h m₁ ∧ News h₀ L h ((s.heap.objs.size, io) :: nx) ∧ h.IsListIter s.heap.objs.size l i ∧ (∀ p ∈ nx, p.1 ≠ s.heap.objs.size) ∧ J i m₁ nx) ?_ its.size ?_ (ht _)
  · rintro k s' ⟨i, h, tk, m₁, nx, io, rfl, hi, rfl, F₁, N₁, hit, hne, hJ⟩
    have hl₁ := (N₁ _ (.tail _ (hJl _ _ _ hJ))).1
    have hil : h.IsList l its := ⟨_, hl₁, rfl, nn, rfl⟩
    obtain ⟨o, ho, hoc, hod⟩ := id hit
    have hI := (N₁ _ (.head _)).2
    cases hv : its[i]? with
    | none =>
      have hsz : i = its.size := Nat.le_antisymm hi (by simpa using hv)
      refine wpAny_pyNext_list_end hh hit hil hv fun h₂ he => wpAny_execs_nil ?_
      obtain ⟨oL', es', ep', hL', hr'⟩ := F₁.ns
      refine done m₁ nx h₂ tk (hsz ▸ hJ) ⟨⟨oL', es', ep', he _ _ (Ne.symm hI.1) hL', hr'⟩, fun b o e => he _ _ (fun q => ?_) (F₁.keep b o e), F₁.above⟩ fun q hq => ⟨he _ _ (hne q hq) (N₁ q (.tail _ hq)).1, (N₁ q (.tail _ hq)).2⟩
      have := hI.2; rw [← q, e] at this; cases this
    | some v =>
      have hlt : i < its.size := (Array.getElem?_eq_some_iff.mp hv).1
      refine wpAny_pyNext_list_item hit hil hv fun h₂ hit₂ hs => ?_
      obtain ⟨o₂, ho₂, hoc₂, hod₂⟩ := id hit₂
      obtain ⟨oL', es', ep', hL', hr'⟩ := F₁.ns
      have F₂ : Fr h₀ L h₂ m₁ := ⟨⟨oL', es', ep', (hs.2 _ (Ne.symm hI.1)).trans hL', hr'⟩, fun b o e => (hs.2 _ (fun q => by have := hI.2; rw [← q, e] at this; cases this)).trans (F₁.keep b o e), F₁.above⟩
      have N₂ : News h₀ L h₂ ((s.heap.objs.size, o₂) :: nx) := fun q hq => by
        rcases List.mem_cons.mp hq with rfl | hq
        · exact ⟨ho₂, hI⟩
        · exact ⟨(hs.2 _ (hne q hq)).trans (N₁ q (.tail _ hq)).1, (N₁ q (.tail _ hq)).2⟩
      refine wpAny_mono (turn i v m₁ nx h₂ tk _ o₂ hv hJ hne F₂ N₂) (fun _ s₂ p => wpAny_mono p (fun f s₃ q => ?_) (fun _ _ x => x.elim)) (fun _ _ x => x.elim)
      have fin : (∃ h' tk' m' nx', s₃ = { s with heap := h', toks := tk' } ∧ Fr h₀ L h' m' ∧ News h₀ L h' ((s.heap.objs.size, o₂) :: nx') ∧ (∀ p ∈ nx', p.1 ≠ s.heap.objs.size) ∧ J (i + 1) m' nx') → ∃ k', k' < its.size - i ∧ ∃ i h tk m₁ nx io, k' = its.size - i ∧ i ≤ its.size ∧ s₃ = { s with heap := h, toks := tk } ∧ Fr h₀ L h m₁ ∧ News h₀ L h ((s.heap.objs.size, io) :: nx) ∧ h.IsListIter s.heap.objs.size l i ∧ (∀ p ∈ nx, p.1 ≠ s.heap.objs.size) ∧ J i m₁ nx := by
        rintro ⟨h', tk', m', nx', rfl, F', N', hne', hJ'⟩
        exact ⟨its.size - (i + 1), by omega, i + 1, h', tk', m', nx', o₂, rfl, hlt, rfl, F', N', ⟨o₂, (N' _ (.head _)).1, hoc₂, hod₂⟩, hne', hJ'⟩
      cases f with
      | ret v => exact q
      | brk => exact q
      | next => exact fin q
      | cont => exact fin q
  · refine ⟨0, _, s.toks, m, news, _, rfl, Nat.zero_le _, rfl, F.push _, N.push F _, ⟨_, Heap.get?_push_size _ rfl, rfl, rfl⟩, fun p hp q => ?_, h0⟩
    exact absurd (Heap.lt_size (N p hp).1) (by rw [q]; exact Nat.lt_irrefl _)

def AllNe (d : Nat) : List (Addr × Obj) → Prop
  | [] => True
  | p :: r => @Ne Nat p.1 d ∧ AllNe d r
theorem allNe_of {d : Addr} : ∀ {l : List (Addr × Obj)}, (∀ p ∈ l, p.1 ≠ d) → AllNe d l
  | [], _ => trivial
  | p :: _, h => ⟨h p (.head _), allNe_of fun q hq => h q (.tail _ hq)⟩
theorem allNe_to {d : Addr} : ∀ {l : List (Addr × Obj)}, AllNe d l → (∀ p ∈ l, p.1 ≠ d)
  | [], _ => fun _ h => nomatch h
  | p :: _, h => fun q hq => by
    rcases List.mem_cons.mp hq with rfl | hq
    · exact h.1
    · exact allNe_to h.2 q hq

abbrev tupOf (vs : Array Value) : Obj := { cls := .type "tuple", data := .seq vs }
theorem slice1_tup {E : Value → Shared → Prop} {value slice : Expr} {t : Addr} {items : List Value} {u : Tok} {Q : Value → Shared → Prop}
    (F : Fr h₀ L s.heap m) (N : News h₀ L s.heap news) (hm : (t, tupOf items.toArray) ∈ news) (h1 : 1 ≤ items.length) (hz : items.length ≤ 100)
    (h : ∀ D h', Fr h₀ L h' m → News h₀ L h' ((D, tupOf (items.drop 1).toArray) :: news) → (∀ p ∈ news, p.1 < D) → Q (.ref D) { s with heap := h' })
    (hs : subscripted slice false (.ref t) (.ref s.heap.objs.size) = operate [.ref s.heap.objs.size, .ref t] (getItem (.ref t) (.ref s.heap.objs.size)))
    (hg : ∀ r, letTemporaryGo value (.ref t) r = pure ()) :
    wpAny (model prog w) A (subscriptTail value slice (.ref t) (.ref s.heap.objs.size)) Q E { s with heap := s.heap.push { cls := .type "slice", data := .fields #[.int 1 u, .none, .none] } } := by
  refine slice_tuple_from (a := 1) F N (items := items.toArray) (News.isTup N hm) (Nat.le_refl _) (by simpa using h1) (fun h' F' N' => h _ h' F' N' (fun p hp => Nat.lt_succ_of_lt (Heap.lt_size (N p hp).1))) hs hg ?_
  rw [List.size_toArray, sizeLine_eq]; omega

theorem compEnd_new {I C D Dt : Addr} {s₁ : Shared} {o oI oC oD : Obj} {S : List (Addr × Obj) → Prop} {rest : Value → List (Addr × Obj) → Prop} {y : Value} {h' : Heap} {tk : Nat}
    (F : Fr h₀ L h' m) (N : News h₀ L h' ((Dt, o) :: (I, oI) :: (C, oC) :: (D, oD) :: news)) (lt : ∀ p ∈ (I, oI) :: (C, oC) :: (D, oD) :: news, p.1 < Dt) (off : LCg.Off3 I C D news)
    (hS : S ((Dt, o) :: news)) (r : rest y ((Dt, o) :: news)) : LCg.CompEnd h₀ L m s₁ I oI C oC D oD S rest y { s₁ with heap := h', toks := tk } := by
  refine LCg.CompEnd.intro F N ((Dt, o) :: news) (fun p hp => ?_) ⟨⟨?_, ?_, ?_⟩, off⟩ hS r
  · simp only [List.mem_cons] at hp ⊢
    rcases hp with h | h | h | h | h
    · exact .inr (.inl h)
    · exact .inr (.inr (.inl h))
    · exact .inr (.inr (.inr (.inl h)))
    · exact .inl h
    · exact .inr (.inr (.inr (.inr h)))
  · exact Nat.ne_of_gt (lt (I, oI) (.head _))
  · exact Nat.ne_of_gt (lt (C, oC) (.tail _ (.head _)))
  · exact Nat.ne_of_gt (lt (D, oD) (.tail _ (.tail _ (.head _))))
theorem compEnd_same {I C D : Addr} {s₁ : Shared} {oI oC oD : Obj} {S : List (Addr × Obj) → Prop} {rest : Value → List (Addr × Obj) → Prop} {y : Value} {h' : Heap} {tk : Nat}
    (F : Fr h₀ L h' m) (N : News h₀ L h' ((I, oI) :: (C, oC) :: (D, oD) :: news)) (off : LCg.Off3 I C D news)
    (hS : S news) (r : rest y news) : LCg.CompEnd h₀ L m s₁ I oI C oC D oD S rest y { s₁ with heap := h', toks := tk } :=
  LCg.CompEnd.intro F N news (fun _ hp => hp) off hS r

theorem item_last {E : Value → Shared → Prop} {value slice : Expr} {D : Addr} {us : List Value} {v : Value} {n : Nat} {u : Tok} {Q : Value → Shared → Prop}
    (N : News h₀ L s.heap news) (hm : (D, listOf (us ++ [v]).toArray n) ∈ news) (h : Q v s)
    (hs : subscripted slice false (.ref D) (.int (-1) u) = operate [.ref D, .int (-1) u] (getItem (.ref D) (.int (-1) u)) := by with_unfolding_all rfl) :
    wpAny (model prog w) A (subscriptTail value slice (.ref D) (.int (-1) u)) Q E s := by
  have hl : s.heap.IsList D (us ++ [v]).toArray := ⟨_, (N _ hm).1, rfl, n, rfl⟩
  refine tail_any hl.typeIs slot_list_getitem.lookup (wpAny_getItem_list_neg hl (by decide) (by simp; omega) (by decide) ?_ h) hs
  have e : ((-1 : Int) + ((us ++ [v]).toArray.size : Int)).toNat = us.length := by simp; omega
  rw [e]; simp

theorem intsAre_snoc {vs : List Value} {r : List Int} {y : Int} (h : IntsAre vs (r ++ [y])) : ∃ us t, vs = us ++ [.int y t] ∧ IntsAre us r := by
  have h1 := PyProof.Rows.IntsAre.reverse h
  rw [List.reverse_append, List.reverse_singleton, List.singleton_append] at h1
  obtain ⟨t, us, e, h2⟩ := IntsAre.cons_inv h1
  have h3 := PyProof.Rows.IntsAre.reverse h2
  rw [List.reverse_reverse] at h3
  refine ⟨us.reverse, t, ?_, h3⟩
  have := congrArg List.reverse e
  simpa using this

/-- a value, and what is known of the heap behind it -/
def GoOn {α : Type} (s : Shared) (P : Heap → Prop) (v : α) (x : α) (s₂ : Shared) : Prop := x = v ∧ ∃ h' tk', s₂ = { s with heap := h', toks := tk' } ∧ P h'

theorem pop_last {E : Value → Shared → Prop} {D : Addr} {us : List Value} {v : Value} {n : Nat} {news' : List (Addr × Obj)} {Q : Value → Shared → Prop} (F : Fr h₀ L s.heap m) (N : News h₀ L s.heap news)
    (U : Upd D (listOf (us ++ [v]).toArray n) (listOf us.toArray (n + 1)) news news') (hz : (us ++ [v]).length ≤ 1000)
    (h : ∀ h', Fr h₀ L h' m → News h₀ L h' news' → Q v { s with heap := h' }) : wpAny (model prog w) A (call (.builtin "list.pop") [.ref D]) Q E s := by
  refine kl_pop F N (p := us) (y := v) ?_ U (by show (us ++ [v]).length ≤ sizeLine; rw [sizeLine_eq]; omega) h
  simpa using kpa_last v us
end Mine

-- part LSpec
namespace Mine
set_option maxRecDepth 100000
set_option maxHeartbeats 1000000
/-- the ledger's parts -/
abbrev partsL (pa p1 p2 p3 p4 : Addr) (n : Nat) (a b c : Int) (t1 t2 t3 t4 t5 t6 t7 t8 t9 t10 t11 t12 : Tok) (r : List (Addr × Obj)) : List (Addr × Obj) :=
  (pa, listOf #[.ref p1, .ref p2, .ref p3, .ref p4] n) :: (p1, tupOf #[.int (-1) t1, .int 0 t2, .int a t3]) :: (p2, tupOf #[.int 1 t4, .int a t5, .int b t6]) :: (p3, tupOf #[.int 256 t7, .int (a + b) t8, .int c t9]) :: (p4, tupOf #[.int 0 t10, .int (a + b + c) t11, .int (256 - a - b - c) t12]) :: r

def shOf (a b c y : Int) : Int := if y = -1 then a else if y = 1 then b else if y = 256 then c else 256 - a - b - c
def fiOf (a b c y : Int) : Int := if y = -1 then 0 else if y = 1 then a else if y = 256 then a + b else a + b + c
def wstep (a b c x y : Int) : Int := x + (256 + fiOf a b c y - shOf a b c y) * 2 ^ (Builtin.Int.intBits (x / shOf a b c y) - 1)
def WOk (a b c : Int) : List Int → Int → Prop
  | [], _ => True
  | y :: r, x => (y = -1 ∨ y = 1 ∨ y = 256 ∨ y = 0) ∧ 0 < shOf a b c y ∧ shOf a b c y ≤ x ∧ x < 2 ^ 200 ∧ WOk a b c r (wstep a b c x y)

theorem hb_ex {x a : Int} (h0 : 0 < a) (h1 : a ≤ x) (h2 : x < 2 ^ 200) : ∃ k : Int, (Builtin.Int.intBits (x.fdiv a) : Int) - 1 = k ∧ 0 ≤ k ∧ k ≤ 1000 ∧ k.toNat = Builtin.Int.intBits (x / a) - 1 := by
  have e : x.fdiv a = x / a := Int.fdiv_eq_ediv_of_nonneg _ (Int.le_of_lt h0)
  have q1 : 1 ≤ x / a := (Int.le_ediv_iff_mul_le h0).mpr (by omega)
  have q2 : x / a ≤ x := Int.ediv_le_self _ (by omega)
  have b1 : Builtin.Int.intBits (x / a) ≤ 200 := intBits_le_iff.mpr (by
    have : ((x / a).natAbs : Int) < ((2 ^ 200 : Nat) : Int) := by
      have h3 : ((x / a).natAbs : Int) = x / a := Int.natAbs_of_nonneg (by omega)
      have h4 : ((2 ^ 200 : Nat) : Int) = 2 ^ 200 := by norm_cast
      rw [h3, h4]; omega
    exact_mod_cast this)
  have b2 : 1 ≤ Builtin.Int.intBits (x / a) := by
    unfold Builtin.Int.intBits
    split
    · rename_i h; have := eq_of_beq h; omega
    · omega
  rw [e]
  exact ⟨_, rfl, by omega, by omega, by omega⟩

def cat (l : Int) : List Int → Int
  | [] => l
  | b :: r => b + 2 * cat l r
theorem cat_snoc (l b : Int) : ∀ bs : List Int, cat l (bs ++ [b]) = cat (2 * l + b) bs
  | [] => by simp [cat]; omega
  | x :: r => by simp only [List.cons_append, cat, cat_snoc l b r]

/-- the reader's state between the turns -/
structure RInv (a b c x : Int) (row : List Int) (l : Int) (bs : List Int) : Prop where
  bits : ∀ b ∈ bs, b = 0 ∨ b = 1
  nonneg : 0 ≤ l
  enc : row.reverse.foldl (wstep a b c) (cat l bs) = x
  ok : WOk a b c row.reverse (cat l bs)
  le : cat l bs ≤ x
  len : row.length + bs.length ≤ 200
  ends : (0 ∉ row ∧ l < 256) ∨ (∃ r, row = r ++ [0] ∧ 0 ∉ r)
theorem RInv.init {a b c x : Int} {bs : List Int} (h01 : ∀ b ∈ bs, b = 0 ∨ b = 1) (hc : cat 0 bs = x) (hl : bs.length ≤ 200) : RInv a b c x [] 0 bs :=
  ⟨h01, Int.le_refl _, hc, trivial, Int.le_of_eq hc, by simpa using hl, .inl ⟨by simp, by decide⟩⟩
/-- the inner loop: V is what is left and the figures, k₀ their number ahead of the loop -/
structure InInv (V : Int) (k₀ : Nat) (l : Int) (bs : List Int) : Prop where
  val : cat l bs = V
  nonneg : 0 ≤ l
  le : l ≤ 511
  bits : ∀ b ∈ bs, b = 0 ∨ b = 1
  len : bs.length ≤ k₀
  less : l < 256 ∨ bs.length < k₀
theorem InInv.step {V : Int} {k₀ : Nat} {l q : Int} {bs : List Int} (h : InInv V k₀ l (bs ++ [q])) (hl : l < 256) : InInv V k₀ (2 * l + q) bs := by
  have hq := h.bits q (by simp)
  have hn := h.nonneg
  have hle := h.len
  simp only [List.length_append, List.length_singleton] at hle
  exact ⟨by rw [← cat_snoc]; exact h.val, by omega, by omega, fun b hb => h.bits b (by simp [hb]), by omega, .inr (by omega)⟩
theorem RInv.inner {a b c x : Int} {row : List Int} {l : Int} {bs : List Int} (h : RInv a b c x row l bs) (hl : l < 256) : InInv (cat l bs) bs.length l bs :=
  ⟨rfl, h.nonneg, by omega, h.bits, Nat.le_refl _, .inl hl⟩
/-- what the reader gives back -/
structure RSpec (a b c x : Int) (row : List Int) (l : Int) : Prop where
  enc : row.reverse.foldl (wstep a b c) l = x
  ok : WOk a b c row.reverse l
  le : l ≤ x
  nonneg : 0 ≤ l
  len : row.length ≤ 200
  ends : (0 ∉ row ∧ l < 256) ∨ (∃ r, row = r ++ [0] ∧ 0 ∉ r)
theorem RInv.spec {a b c x : Int} {row : List Int} {l : Int} {bs : List Int} (h : RInv a b c x row l bs) {l' : Int} {k : Nat} (hV : InInv (cat l bs) k l' []) (he : (0 ∉ row ∧ l' < 256) ∨ (∃ r, row = r ++ [0] ∧ 0 ∉ r)) : RSpec a b c x row l' := by
  have e : l' = cat l bs := hV.val
  have hl := h.len
  exact ⟨by rw [e]; exact h.enc, by rw [e]; exact h.ok, by rw [e]; exact h.le, hV.nonneg, by omega, he⟩
theorem pow2_pos (k : Nat) : (0 : Int) < 2 ^ k := kbt_pos k

theorem cat_eq (l : Int) : ∀ bs : List Int, cat l bs = l * 2 ^ bs.length + cat 0 bs
  | [] => by simp [cat]
  | b :: r => by
    have ih := cat_eq l r
    simp only [cat, List.length_cons, Int.pow_succ]
    rw [ih, ← Int.mul_assoc]
    omega
theorem cat_low : ∀ bs : List Int, (∀ b ∈ bs, b = 0 ∨ b = 1) → 0 ≤ cat 0 bs ∧ cat 0 bs < 2 ^ bs.length
  | [], _ => by simp [cat]
  | b :: r, h => by
    have ih := cat_low r (fun x hx => h x (.tail _ hx))
    have hb := h b (.head _)
    simp only [cat, List.length_cons, Int.pow_succ]
    omega

theorem intBits_of_range {q : Int} {k : Nat} (h1 : 2 ^ k ≤ q) (h2 : q < 2 ^ (k + 1)) : Builtin.Int.intBits q = k + 1 := by
  have hp := pow2_pos k
  have e : q = (q.toNat : Int) := (Int.toNat_of_nonneg (by omega)).symm
  have b1 : Builtin.Int.intBits q ≤ k + 1 := intBits_le_iff.mpr (by
    have : (q.natAbs : Int) < ((2 ^ (k + 1) : Nat) : Int) := by
      rw [kbt_cast]; omega
    exact_mod_cast this)
  have b2 : ¬ Builtin.Int.intBits q ≤ k := fun h => by
    have h3 := intBits_le_iff.mp h
    have : (q.natAbs : Int) < ((2 ^ k : Nat) : Int) := by exact_mod_cast h3
    rw [kbt_cast] at this
    omega
  omega

/-- a number t·2^k + r, sh ≤ t < 2·sh: its share goes k + 1 figures into it -/
theorem bits_div {sh t r : Int} {k : Nat} (h0 : 0 < sh) (h1 : sh ≤ t) (h2 : t < 2 * sh) (hr : 0 ≤ r) (hr2 : r < 2 ^ k) : Builtin.Int.intBits ((t * 2 ^ k + r) / sh) - 1 = k := by
  have hp := pow2_pos k
  have lo : 2 ^ k ≤ (t * 2 ^ k + r) / sh := (Int.le_ediv_iff_mul_le h0).mpr (by
    have := Int.mul_le_mul_of_nonneg_right h1 (Int.le_of_lt hp)
    rw [Int.mul_comm]; omega)
  have hi : (t * 2 ^ k + r) / sh < 2 ^ (k + 1) := (Int.ediv_lt_iff_lt_mul h0).mpr (by
    have h3 : (t + 1) * 2 ^ k ≤ (2 * sh) * 2 ^ k := Int.mul_le_mul_of_nonneg_right (by omega) (Int.le_of_lt hp)
    rw [Int.add_mul, Int.one_mul] at h3
    have h4 : (2 : Int) ^ (k + 1) * sh = (2 * sh) * 2 ^ k := by rw [Int.pow_succ, Int.mul_comm (2 ^ k) 2, Int.mul_assoc, Int.mul_comm (2 ^ k) sh, ← Int.mul_assoc]
    omega)
  have := intBits_of_range lo hi
  omega

theorem wstep_of {a b c y t r : Int} {k : Nat} (h0 : 0 < shOf a b c y) (h1 : shOf a b c y ≤ t) (h2 : t < 2 * shOf a b c y) (hr : 0 ≤ r) (hr2 : r < 2 ^ k) :
    wstep a b c (t * 2 ^ k + r) y = (t + 256 + fiOf a b c y - shOf a b c y) * 2 ^ k + r := by
  unfold wstep
  rw [bits_div h0 h1 h2 hr hr2]
  have : (t + 256 + fiOf a b c y - shOf a b c y) = t + (256 + fiOf a b c y - shOf a b c y) := by omega
  rw [this, Int.add_mul]
  omega
theorem sh_bounds {a b c y : Int} (ha : 1 ≤ a ∧ a ≤ 80) (hb : 1 ≤ b ∧ b ≤ 80) (hc : 1 ≤ c ∧ c ≤ 80) : 1 ≤ shOf a b c y ∧ shOf a b c y ≤ 253 ∧ 0 ≤ fiOf a b c y ∧ fiOf a b c y + shOf a b c y ≤ 256 := by
  unfold shOf fiOf
  repeat' split
  all_goals omega
theorem sh_small {a b c y : Int} (ha : 1 ≤ a ∧ a ≤ 80) (hb : 1 ≤ b ∧ b ≤ 80) (hc : 1 ≤ c ∧ c ≤ 80) (hy : y = -1 ∨ y = 1 ∨ y = 256) : shOf a b c y ≤ 80 := by
  unfold shOf
  repeat' split
  all_goals omega

theorem RInv.turn {a b c x : Int} {row : List Int} {l : Int} {bs : List Int} (ha : 1 ≤ a ∧ a ≤ 80) (hb : 1 ≤ b ∧ b ≤ 80) (hc : 1 ≤ c ∧ c ≤ 80) (hx : x < 2 ^ 200) (h : RInv a b c x row l bs) (h0 : 0 ∉ row) {l' : Int} {bs' : List Int}
    (hV : InInv (cat l bs) bs.length l' bs') (h256 : 256 ≤ l') {y fi sh l'' : Int} (hy : y = -1 ∨ y = 1 ∨ y = 256 ∨ y = 0) (hfi : fi = fiOf a b c y) (hsh : sh = shOf a b c y) (h1 : fi ≤ l' - 256) (h2 : l' - 256 < fi + sh) (hl : l'' = l' - 256 - fi + sh) :
    RInv a b c x (row ++ [y]) l'' bs' ∧ bs'.length < bs.length := by
  obtain ⟨b1, b2, b3, b4⟩ := sh_bounds (y := y) ha hb hc
  rw [← hfi, ← hsh] at b4
  rw [← hsh] at b1 b2
  rw [← hfi] at b3
  have hless : bs'.length < bs.length := hV.less.resolve_left (by omega)
  obtain ⟨lo, hi⟩ := cat_low bs' hV.bits
  have hp := pow2_pos bs'.length
  have hV' : cat l bs = l' * 2 ^ bs'.length + cat 0 bs' := by rw [← cat_eq]; exact hV.val.symm
  have hc' : cat l'' bs' = l'' * 2 ^ bs'.length + cat 0 bs' := cat_eq _ _
  have hstep : wstep a b c (cat l'' bs') y = cat l bs := by
    rw [hc', wstep_of (by omega) (by omega) (by omega) lo hi, ← hfi, ← hsh, hV', hl]
    congr 2; omega
  have hle : cat l'' bs' ≤ cat l bs := by
    rw [hc', hV']
    have : l'' * 2 ^ bs'.length ≤ l' * 2 ^ bs'.length := Int.mul_le_mul_of_nonneg_right (by omega) (Int.le_of_lt hp)
    omega
  have hge : shOf a b c y ≤ cat l'' bs' := by
    rw [hc', ← hsh]
    have : l'' * 1 ≤ l'' * 2 ^ bs'.length := Int.mul_le_mul_of_nonneg_left (by omega) (by omega)
    omega
  have hx3 := h.le
  have hlen := h.len
  refine ⟨⟨hV.bits, by omega, ?_, ?_, by omega, by simp; omega, ?_⟩, hless⟩
  · rw [List.reverse_append, List.reverse_singleton, List.singleton_append, List.foldl_cons, hstep]
    exact h.enc
  · rw [List.reverse_append, List.reverse_singleton, List.singleton_append]
    refine ⟨hy, by omega, hge, by omega, ?_⟩
    rw [hstep]; exact h.ok
  · by_cases hy0 : y = 0
    · subst hy0; exact .inr ⟨row, rfl, h0⟩
    · have hs := sh_small (y := y) ha hb hc (by omega)
      refine .inl ⟨?_, by omega⟩
      intro hm
      rcases List.mem_append.mp hm with hm | hm
      · exact h0 hm
      · exact hy0 (List.mem_singleton.mp hm).symm
/-- the last loop -/
structure OutInv (V : Int) (l : Int) (bs : List Int) : Prop where
  val : cat l bs = V
  nonneg : 0 ≤ l
  bits : ∀ b ∈ bs, b = 0 ∨ b = 1
  len : bs.length ≤ 200
theorem OutInv.step {V l q : Int} {bs : List Int} (h : OutInv V l (bs ++ [q])) : OutInv V (2 * l + q) bs := by
  have hq := h.bits q (by simp)
  have hn := h.nonneg
  have hle := h.len
  simp only [List.length_append, List.length_singleton] at hle
  exact ⟨by rw [← cat_snoc]; exact h.val, by omega, fun b hb => h.bits b (by simp [hb]), by omega⟩
theorem RInv.outer {a b c x : Int} {row : List Int} {l : Int} {bs : List Int} (h : RInv a b c x row l bs) : OutInv (cat l bs) l bs :=
  ⟨rfl, h.nonneg, h.bits, by have := h.len; omega⟩
theorem RInv.specOut {a b c x : Int} {row : List Int} {l : Int} {bs : List Int} (h : RInv a b c x row l bs) {l' : Int} (hV : OutInv (cat l bs) l' []) (he : ∃ r, row = r ++ [0] ∧ 0 ∉ r) : RSpec a b c x row l' := by
  have e : l' = cat l bs := hV.val
  have hl := h.len
  exact ⟨by rw [e]; exact h.enc, by rw [e]; exact h.ok, by rw [e]; exact h.le, hV.nonneg, by omega, .inr he⟩
end Mine

-- part LPure2
namespace Mine
set_option maxRecDepth 100000
set_option maxHeartbeats 1000000

theorem range_intBits {q : Int} (h : 1 ≤ q) : ∃ k : Nat, Builtin.Int.intBits q = k + 1 ∧ 2 ^ k ≤ q ∧ q < 2 ^ (k + 1) := by
  have hz : Builtin.Int.intBits q ≠ 0 := by
    unfold Builtin.Int.intBits
    split
    · rename_i e; have := eq_of_beq e; omega
    · omega
  obtain ⟨k, hk⟩ := Nat.exists_eq_succ_of_ne_zero hz
  refine ⟨k, hk, ?_, ?_⟩
  · have b2 : ¬ Builtin.Int.intBits q ≤ k := by omega
    rw [intBits_le_iff] at b2
    have : ((2 ^ k : Nat) : Int) ≤ (q.natAbs : Int) := by exact_mod_cast Nat.not_lt.mp b2
    rw [kbt_cast] at this
    omega
  · have b1 : q.natAbs < 2 ^ (k + 1) := intBits_le_iff.mp (by omega)
    have : (q.natAbs : Int) < ((2 ^ (k + 1) : Nat) : Int) := by exact_mod_cast b1
    rw [kbt_cast] at this
    omega

theorem pow_le_pow {j k : Nat} (h : j ≤ k) : (2 : Int) ^ j ≤ 2 ^ k := by
  have := Nat.pow_le_pow_right (show 0 < 2 by decide) h
  have h2 : ((2 ^ j : Nat) : Int) ≤ ((2 ^ k : Nat) : Int) := by exact_mod_cast this
  rwa [kbt_cast, kbt_cast] at h2
/-- every number not below the share is t·2^k + r -/
theorem split_at {sh V : Int} (h0 : 0 < sh) (h1 : sh ≤ V) : ∃ t r : Int, ∃ k : Nat, V = t * 2 ^ k + r ∧ sh ≤ t ∧ t < 2 * sh ∧ 0 ≤ r ∧ r < 2 ^ k := by
  have q1 : 1 ≤ V / sh := (Int.le_ediv_iff_mul_le h0).mpr (by omega)
  obtain ⟨k, -, lo, hi⟩ := range_intBits q1
  have hp := pow2_pos k
  have lo' := (Int.le_ediv_iff_mul_le h0).mp lo
  have hi' := (Int.ediv_lt_iff_lt_mul h0).mp hi
  have hm0 := Int.emod_nonneg V (show (2 : Int) ^ k ≠ 0 by omega)
  have hm1 := Int.emod_lt_of_pos V hp
  have hd := Int.mul_ediv_add_emod V (2 ^ k)
  refine ⟨V / 2 ^ k, V % 2 ^ k, k, by rw [Int.mul_comm]; omega, ?_, ?_, hm0, hm1⟩
  · exact (Int.le_ediv_iff_mul_le hp).mpr (by rw [Int.mul_comm]; exact lo')
  · refine (Int.ediv_lt_iff_lt_mul hp).mpr ?_
    have : (2 : Int) ^ (k + 1) * sh = 2 * sh * 2 ^ k := by rw [Int.pow_succ, Int.mul_comm (2 ^ k) 2, Int.mul_assoc, Int.mul_comm (2 ^ k) sh, ← Int.mul_assoc]
    omega

/-- nine figures and the rest: the figures' place is fixed -/
theorem nine_unique {T T' r r' : Int} {k k' : Nat} (h1 : 256 ≤ T) (h2 : T < 512) (h1' : 256 ≤ T') (h2' : T' < 512) (hr : 0 ≤ r) (hr2 : r < 2 ^ k) (hr' : 0 ≤ r') (hr2' : r' < 2 ^ k') (e : T * 2 ^ k + r = T' * 2 ^ k' + r') : k = k' ∧ T = T' ∧ r = r' := by
  have key : ∀ {T T' r r' : Int} {k k' : Nat}, 256 ≤ T → T' < 512 → 0 ≤ r → r' < 2 ^ k' → T * 2 ^ k + r = T' * 2 ^ k' + r' → ¬ k' < k := by
    intro T T' r r' k k' h1 h2 hr hr' e hlt
    obtain ⟨j, rfl⟩ : ∃ j, k = k' + 1 + j := ⟨k - k' - 1, by omega⟩
    have hp := pow2_pos k'
    have hj := pow2_pos j
    have e1 : (2 : Int) ^ (k' + 1 + j) = (2 * 2 ^ j) * 2 ^ k' := by rw [Int.pow_add, Int.pow_succ]; simp [Int.mul_comm, Int.mul_assoc, Int.mul_left_comm]
    have a1 : 256 * 2 ^ (k' + 1 + j) ≤ T * 2 ^ (k' + 1 + j) := Int.mul_le_mul_of_nonneg_right h1 (Int.le_of_lt (pow2_pos _))
    have a2 : (T' + 1) * 2 ^ k' ≤ 512 * 2 ^ k' := Int.mul_le_mul_of_nonneg_right (by omega) (Int.le_of_lt hp)
    have a30 : (2 : Int) * 1 ≤ 2 * 2 ^ j := by omega
    have a3 : ((2 : Int) * 1) * 2 ^ k' ≤ (2 * 2 ^ j) * 2 ^ k' := Int.mul_le_mul_of_nonneg_right a30 (Int.le_of_lt hp)
    rw [Int.add_mul] at a2
    omega
  have hk : k = k' := by
    have := key h1 h2' hr hr2' e
    have := key h1' h2 hr' hr2 e.symm
    omega
  subst hk
  have hp := pow2_pos k
  have hT : T = T' := by
    rcases Int.lt_trichotomy T T' with h | h | h
    · have : (T + 1) * 2 ^ k ≤ T' * 2 ^ k := Int.mul_le_mul_of_nonneg_right (by omega) (Int.le_of_lt hp)
      rw [Int.add_mul] at this; omega
    · exact h
    · have : (T' + 1) * 2 ^ k ≤ T * 2 ^ k := Int.mul_le_mul_of_nonneg_right (by omega) (Int.le_of_lt hp)
      rw [Int.add_mul] at this; omega
  subst hT
  exact ⟨rfl, rfl, by omega⟩

section
variable {a b c : Int} (ha : 1 ≤ a ∧ a ≤ 80) (hb : 1 ≤ b ∧ b ≤ 80) (hc : 1 ≤ c ∧ c ≤ 80)
include ha hb hc
theorem letter_unique {y y' z : Int} (hy : y = -1 ∨ y = 1 ∨ y = 256 ∨ y = 0) (hy' : y' = -1 ∨ y' = 1 ∨ y' = 256 ∨ y' = 0)
    (h1 : fiOf a b c y ≤ z) (h2 : z < fiOf a b c y + shOf a b c y) (h1' : fiOf a b c y' ≤ z) (h2' : z < fiOf a b c y' + shOf a b c y') : y = y' := by
  rcases hy with rfl | rfl | rfl | rfl <;> rcases hy' with rfl | rfl | rfl | rfl <;> simp [fiOf, shOf] at h1 h2 h1' h2' ⊢ <;> omega
theorem wstep_inj {V V' y y' : Int} (hy : y = -1 ∨ y = 1 ∨ y = 256 ∨ y = 0) (hy' : y' = -1 ∨ y' = 1 ∨ y' = 256 ∨ y' = 0) (h : shOf a b c y ≤ V) (h' : shOf a b c y' ≤ V') (e : wstep a b c V y = wstep a b c V' y') : y = y' ∧ V = V' := by
  obtain ⟨b1, b2, b3, b4⟩ := sh_bounds (y := y) ha hb hc
  obtain ⟨b1', b2', b3', b4'⟩ := sh_bounds (y := y') ha hb hc
  obtain ⟨t, r, k, rfl, q1, q2, q3, q4⟩ := split_at (by omega) h
  obtain ⟨t', r', k', rfl, q1', q2', q3', q4'⟩ := split_at (by omega) h'
  rw [wstep_of (by omega) q1 q2 q3 q4, wstep_of (by omega) q1' q2' q3' q4'] at e
  obtain ⟨rfl, eT, rfl⟩ := nine_unique (by omega) (by omega) (by omega) (by omega) q3 q4 q3' q4' e
  have : y = y' := letter_unique ha hb hc (z := t + fiOf a b c y - shOf a b c y) hy hy' (by omega) (by omega) (by omega) (by omega)
  subst this
  exact ⟨rfl, by rw [show t = t' by omega]⟩
theorem wstep_ge {V y : Int} (h : shOf a b c y ≤ V) : 256 ≤ wstep a b c V y ∧ V ≤ wstep a b c V y ∧ wstep a b c V y ≤ 512 * V := by
  obtain ⟨b1, b2, b3, b4⟩ := sh_bounds (y := y) ha hb hc
  obtain ⟨t, r, k, rfl, q1, q2, q3, q4⟩ := split_at (by omega) h
  rw [wstep_of (by omega) q1 q2 q3 q4]
  have hp := pow2_pos k
  have a1 : 256 * 2 ^ k ≤ (t + 256 + fiOf a b c y - shOf a b c y) * 2 ^ k := Int.mul_le_mul_of_nonneg_right (by omega) (Int.le_of_lt hp)
  have a2 : t * 2 ^ k ≤ (t + 256 + fiOf a b c y - shOf a b c y) * 2 ^ k := Int.mul_le_mul_of_nonneg_right (by omega) (Int.le_of_lt hp)
  have a3 : (t + 256 + fiOf a b c y - shOf a b c y) * 2 ^ k ≤ (512 * t) * 2 ^ k := Int.mul_le_mul_of_nonneg_right (by omega) (Int.le_of_lt hp)
  have a4 : (512 * t) * 2 ^ k = 512 * (t * 2 ^ k) := Int.mul_assoc _ _ _
  omega
omit ha hb hc in
theorem WOk.append : ∀ {xs ys : List Int} {V : Int}, WOk a b c (xs ++ ys) V ↔ WOk a b c xs V ∧ WOk a b c ys (xs.foldl (wstep a b c) V)
  | [], ys, V => by simp [WOk]
  | x :: r, ys, V => by
    have ih := WOk.append (xs := r) (ys := ys) (V := wstep a b c V x)
    simp only [List.cons_append, WOk, List.foldl_cons, ih, and_assoc]
/-- what was written is read -/
theorem read_back : ∀ {ms row : List Int} {V l : Int}, 0 ∉ ms.dropLast → (∃ r, ms = r ++ [0]) → WOk a b c ms.reverse V → RSpec a b c (ms.reverse.foldl (wstep a b c) V) row l → row = ms ∧ l = V := by
  intro ms
  induction ms with
  | nil => rintro row V l _ ⟨r, e⟩; simp at e
  | cons y ms ih =>
    intro row V l h0 hz hw hs
    rw [List.reverse_cons] at hw hs
    rw [WOk.append] at hw
    obtain ⟨hw1, hy, hp, hsh, hlt, -⟩ := hw
    have henc := hs.enc
    rw [List.foldl_append, List.foldl_cons, List.foldl_nil] at henc
    cases row with
    | nil =>
      exfalso
      simp only [List.reverse_nil, List.foldl_nil] at henc
      have := wstep_ge ha hb hc hsh
      rcases hs.ends with ⟨-, h⟩ | ⟨r, e, -⟩
      · omega
      · simp at e
    | cons y' rs =>
      have hok := hs.ok
      rw [List.reverse_cons, WOk.append] at hok
      obtain ⟨hok1, hy', hp', hsh', hlt', -⟩ := hok
      rw [List.reverse_cons, List.foldl_append, List.foldl_cons, List.foldl_nil] at henc
      obtain ⟨rfl, eV⟩ := wstep_inj ha hb hc hy' hy hsh' hsh henc
      cases ms with
      | nil =>
        obtain ⟨r, e⟩ := hz
        have hy0 : y' = 0 := by
          cases r with
          | nil => simpa using e
          | cons q r => simp at e
        subst hy0
        have hrs : rs = [] := by
          rcases hs.ends with ⟨h, -⟩ | ⟨r, e, h⟩
          · exact absurd (List.mem_cons_self ..) h
          · cases r with
            | nil => simpa using e
            | cons q r =>
              simp only [List.cons_append, List.cons.injEq] at e
              exact absurd (e.1 ▸ List.mem_cons_self ..) h
        subst hrs
        exact ⟨rfl, by simpa using eV⟩
      | cons z ms =>
        have hy0 : y' ≠ 0 := fun e => h0 (by simp [e])
        have hs' : RSpec a b c ((z :: ms).reverse.foldl (wstep a b c) V) rs l := by
          refine ⟨eV, hok1, ?_, hs.nonneg, by have := hs.len; simp at this; omega, ?_⟩
          · have hmono : ∀ (xs : List Int) (q : Int), WOk a b c xs q → q ≤ xs.foldl (wstep a b c) q := by
              intro xs
              induction xs with
              | nil => intro q _; exact Int.le_refl _
              | cons x xs ih2 =>
                intro q hq
                obtain ⟨_, _, hq1, _, hq2⟩ := hq
                have := ih2 _ hq2
                have := wstep_ge ha hb hc hq1
                simp only [List.foldl_cons]
                omega
            rw [← eV]
            exact hmono _ _ hok1
          · rcases hs.ends with ⟨h, h'⟩ | ⟨r, e, h⟩
            · exact .inl ⟨fun q => h (.tail _ q), h'⟩
            · cases r with
              | nil => simp only [List.nil_append, List.cons.injEq] at e; exact absurd e.1 hy0
              | cons q r =>
                simp only [List.cons_append, List.cons.injEq] at e
                exact .inr ⟨r, e.2, fun q' => h (.tail _ q')⟩
        have hz' : ∃ r, z :: ms = r ++ [0] := by
          obtain ⟨r, e⟩ := hz
          cases r with
          | nil => simp at e
          | cons q r => simp only [List.cons_append, List.cons.injEq] at e; exact ⟨r, e.2⟩
        have h0' : 0 ∉ (z :: ms).dropLast := fun q => h0 (by rw [List.dropLast_cons_cons]; exact .tail _ q)
        obtain ⟨e1, e2⟩ := ih h0' hz' hw1 hs'
        exact ⟨by rw [e1], e2⟩
theorem WOk_of : ∀ {xs : List Int} {V : Int} {j : Nat}, (∀ y ∈ xs, y = -1 ∨ y = 1 ∨ y = 256 ∨ y = 0) → 256 ≤ V → V < 2 ^ j → j + 9 * xs.length ≤ 200 → WOk a b c xs V ∧ 256 ≤ xs.foldl (wstep a b c) V ∧ xs.foldl (wstep a b c) V < 2 ^ 200 := by
  intro xs
  induction xs with
  | nil =>
    intro V j _ h1 h2 h3
    refine ⟨trivial, h1, Int.lt_of_lt_of_le h2 ?_⟩
    exact pow_le_pow (by simpa using h3)
  | cons y xs ih =>
    intro V j hy h1 h2 h3
    simp only [List.length_cons] at h3
    obtain ⟨b1, b2, b3, b4⟩ := sh_bounds (y := y) ha hb hc
    have hg := wstep_ge ha hb hc (V := V) (y := y) (by omega)
    have e : (2 : Int) ^ (j + 9) = 512 * 2 ^ j := by rw [Int.pow_add, Int.mul_comm]; rfl
    have := ih (V := wstep a b c V y) (j := j + 9) (fun z hz => hy z (.tail _ hz)) (by omega) (by omega) (by omega)
    refine ⟨⟨hy y (.head _), by omega, by omega, Int.lt_of_lt_of_le h2 (pow_le_pow (by omega)), this.1⟩, this.2⟩
end
end Mine

-- part LWr
namespace Mine
set_option maxRecDepth 100000
set_option maxHeartbeats 1000000
variable {prog : Program} {w : World} {A A₀ : Around} {E : Value → Shared → Prop} {s : Shared} {L : Addr} {h₀ base : Heap} {m mg mb : Str → Option Value} {news : List (Addr × Obj)} {p : Program} {loose : List Str} {mean : ExcName → Option Value} {Q : Value → Shared → Prop} {env : Env} {outer : List Env} {d : Nat}

theorem fill2 : (PySem.Challenge.rw_rs0010_01, hd.heap_39) = (PySem.Challenge.rw_rs0010_01, hd.heap_39) := by w_top off; k_fill; rfl

local macro_rules | `(tactic| walk_at "subscriptTail Name Slice ref ref") => `(tactic| (k_here; (with_reducible show wpAny _ _ (subscriptTail _ (PySem.Expr.Slice (some _) none none _) (Value.ref _) (Value.ref _)) _ _ _); (with_unfolding_all refine slice1_tup (by assumption) (by assumption) (by k_mem) (Nat.le_of_ble_eq_true rfl) (Nat.le_of_ble_eq_true rfl) ?_ (by with_unfolding_all rfl) (by intro _; with_unfolding_all rfl)); intro D' h' F' N' l1; (try simp only [List.drop] at N'); (try dsimp only)))
local macro_rules | `(tactic| k_mem) => `(tactic| assumption)
local macro_rules | `(tactic| walk_at "CompRestT") => `(tactic| first
  | (refine LCt.CompRestT.succ ?_; intro v' I' oI' C' oC' D' m' h' tk' E' hv' hC' hx' F' N' off' ne'; lcg_open hv'; (try dsimp only))
  | refine LCt.CompRestT.zero ?_)
local macro_rules | `(tactic| walk_at "CompEnd") => `(tactic| first
  | (refine compEnd_same (by assumption) (by assumption) (by assumption) (Or.inr ⟨_, by k_mem, rfl, _, rfl⟩) ?_)
  | (refine compEnd_new (by assumption) (by assumption) (by assumption) (by assumption) (Or.inr ⟨_, by k_mem, rfl, _, rfl⟩) ?_))
theorem call_wr {pa p1 p2 p3 p4 ra ma : Addr} {mo : Obj} {a b c : Int} {t1 t2 t3 t4 t5 t6 t7 t8 t9 t10 t11 t12 : Tok} {rv : List Value} {row : List Int} {n rn : Nat} {x : Int} {t : Tok}
    (C : Cx w A A₀ base h₀ outer env L p loose mean mg mb (d + 1)) (F : Fr h₀ L s.heap m)
    (N : News h₀ L s.heap (partsL pa p1 p2 p3 p4 n a b c t1 t2 t3 t4 t5 t6 t7 t8 t9 t10 t11 t12 [(ra, listOf rv.toArray rn), (ma, mo)]))
    (hrv : IntsAre rv row) (hle : rv.length ≤ 1000) (ha : 1 ≤ a ∧ a ≤ 80) (hb : 1 ≤ b ∧ b ≤ 80) (hc : 1 ≤ c ∧ c ≤ 80) (hok : WOk a b c row.reverse x)
    (h : ∀ h' tk t', Fr h₀ L h' m → News h₀ L h' (partsL pa p1 p2 p3 p4 n a b c t1 t2 t3 t4 t5 t6 t7 t8 t9 t10 t11 t12 [(ra, listOf rv.toArray rn), (ma, mo)]) → Q (.int (row.reverse.foldl (wstep a b c) x) t') { s with heap := h', toks := tk }) :
    wpAny (model prog w) A (call (.ref 54) [.ref pa, .ref ra, .int x t]) Q E s := by
  obtain ⟨A1, A2, A3, A4, A5⟩ := A
  obtain ⟨B, X, T, hA, hf, hke, room, hh, hu⟩ := C
  dsimp only at hA hh room hu
  subst hA hh
  refine wpAny_call ?_
  refine' code_defC B F X N T rfl hf hke ?k6 ?k7 (by dsimp only; omega) ?k9 ?kB ?kD ?_ ?c2 ?c3 ?c4
  case k6 => k_is
  case k7 => k_is
  case k9 => exact BindsTo.of_eq rfl
  case kB => exact rfl
  case kD => decide +kernel
  case c2 => exact rfl
  case c3 => exact rfl
  case c4 => exact rfl
  intro g' L' h' tk' cells' FG' F' N' Y' B' X' T' l1
  (try k_lt l1)
  k_cells Y'
  rename_i oc hoc
  (try simp only [List.cons_append, List.nil_append] at N')
  dsimp only
  refine wpAny_noRaise ?_
  walk1
  refine wpAny_For ?_
  repeat' (first | walk1 | (dsimp only; walk1))
  rename_i D ws h2 F2 N2 hI hlen l2
  refine forL (its := ws.toArray) (nn := 0) (fun i m₁ nx => ∃ x' t' ob v₀, m₁ (Str.ofString "parts") = some (.ref pa) ∧ m₁ (Str.ofString "number") = some (.int x' t') ∧ ob.data = .cell v₀ ∧
      nx = (D, listOf ws.toArray 0) :: (L' + 1, ob) :: partsL pa p1 p2 p3 p4 n a b c t1 t2 t3 t4 t5 t6 t7 t8 t9 t10 t11 t12 [(ra, listOf rv.toArray rn), (ma, mo)] ∧
      x' = (row.reverse.take i).foldl (wstep a b c) x ∧ WOk a b c (row.reverse.drop i) x') rfl F2 N2 ⟨x, _, _, _, rfl, rfl, hoc, rfl, rfl, hok⟩ ?_ ?_ ?_
  · rintro i m₁ nx ⟨x', t', ob, v₀, -, -, -, rfl, -⟩
    exact .head _
  · rintro i v m₁ nx h3 tk3 I io hv ⟨x', t', ob, v₀, hm1, hm2, hob, rfl, hx', hw⟩ hne F3 N3
    have hv' : ws[i]? = some v := by simpa using hv
    have hil : i < row.reverse.length := by rw [← hI.length]; exact (List.getElem?_eq_some_iff.mp hv').1
    obtain ⟨ty, hy⟩ := hI.get i row.reverse[i] (List.getElem?_eq_getElem hil)
    replace hne := allNe_of hne
    simp only [partsL, AllNe, and_true] at hne
    rw [hy] at hv'
    obtain rfl := (Option.some.inj hv').symm
    rw [List.drop_eq_getElem_cons hil] at hw
    generalize hyy : row.reverse[i] = y at *
    obtain ⟨hy4, hs0, hsx, hx2, hw'⟩ := hw
    have em : m₁ = fun z => if z = Str.ofString "parts" then some (.ref pa) else if z = Str.ofString "number" then some (.int x' t') else m₁ z := by
      funext z
      by_cases h1 : z = Str.ofString "parts"
      · rw [if_pos h1, h1, hm1]
      · by_cases h2 : z = Str.ofString "number"
        · rw [if_neg h1, if_pos h2, h2, hm2]
        · rw [if_neg h1, if_neg h2]
    rw [em] at F3
    dsimp only
    have hstep : (row.reverse.take (i + 1)).foldl (wstep a b c) x = wstep a b c x' y := by
      rw [List.take_add_one, List.getElem?_eq_getElem hil, hyy, List.foldl_append, ← hx']
      rfl
    have hdrop : WOk a b c (row.reverse.drop (i + 1)) (wstep a b c x' y) := hw'
    clear hw' hx' hy hv hv' hyy hil
    rcases hy4 with rfl | rfl | rfl | rfl
    all_goals
      iterate 6 (first | walk1 | (dsimp only; walk1))
      rename_i h4 o4 F4 N4 hd4
      obtain ⟨nx, hnx⟩ : ∃ nx, nx = ((I, io) :: (D, listOf ws.toArray 0) :: (L' + 1, o4) :: partsL pa p1 p2 p3 p4 n a b c t1 t2 t3 t4 t5 t6 t7 t8 t9 t10 t11 t12 [(ra, listOf rv.toArray rn), (ma, mo)]) := ⟨_, rfl⟩
      rw [← hnx] at N4
      have hmc : (L' + 1, o4) ∈ nx := by rw [hnx]; k_mem
      have hmpa : (pa, listOf #[.ref p1, .ref p2, .ref p3, .ref p4] n) ∈ nx := by rw [hnx]; k_mem
      have hm1 : (p1, tupOf #[.int (-1) t1, .int 0 t2, .int a t3]) ∈ nx := by rw [hnx]; k_mem
      have hm2 : (p2, tupOf #[.int 1 t4, .int a t5, .int b t6]) ∈ nx := by rw [hnx]; k_mem
      have hm3 : (p3, tupOf #[.int 256 t7, .int (a + b) t8, .int c t9]) ∈ nx := by rw [hnx]; k_mem
      have hm4 : (p4, tupOf #[.int 0 t10, .int (a + b + c) t11, .int (256 - a - b - c) t12]) ∈ nx := by rw [hnx]; k_mem
      have hneF : ∀ p ∈ ((D, listOf ws.toArray 0) :: (L' + 1, o4) :: partsL pa p1 p2 p3 p4 n a b c t1 t2 t3 t4 t5 t6 t7 t8 t9 t10 t11 t12 [(ra, listOf rv.toArray rn), (ma, mo)]), p.1 ≠ I := allNe_to (by simpa only [AllNe, and_true] using hne)
      clear N hne l1 l2 F
      simp only [shOf, Int.reduceNeg, Int.reduceEq, reduceIte] at hs0 hsx
      obtain ⟨k, hk, hk0, hk2, hkt⟩ := hb_ex hs0 hsx hx2
      refine LCt.ListComp_T (by assumption) (by with_unfolding_all rfl) (by decide) (by rfl) (by decide) (by rfl) ?_
      walk1
      refine LCt.CompSrcT.ledger rfl (by k_asm) (by k_asm) (by k_mem) (Nat.le_of_ble_eq_true rfl) ?_
      intro g9
      show LCt.CompRestT _ _ _ _ _ _ _ _ _ _ _ _ _ _ _ _ 4 _ _ _
      repeat' (first | walk1 | (dsimp only; walk1))
      refine call_hb (Cx.down B' X' T' rfl rfl room hu) (by assumption) (by assumption) hk ?_
      intro h5 tk5 tq F5 N5
      repeat' (first | walk1 | (dsimp only; walk1))
      rename_i h6 F6 N6
      rw [hnx] at N6
      refine ⟨_, _, _, (D, listOf ws.toArray 0) :: (L' + 1, o4) :: partsL pa p1 p2 p3 p4 n a b c t1 t2 t3 t4 t5 t6 t7 t8 t9 t10 t11 t12 [(ra, listOf rv.toArray rn), (ma, mo)], rfl, F6, News.sub N6 (fun p hp => .tail _ (.tail _ hp)), hneF, ⟨_, _, o4, _, rfl, rfl, hd4, rfl, ?_, ?_⟩⟩
      · rw [hstep]
        simp only [wstep, fiOf, shOf, Int.reduceNeg, Int.reduceEq, reduceIte]
        rw [hkt]
      · simp only [wstep, fiOf, shOf, Int.reduceNeg, Int.reduceEq, reduceIte] at hdrop
        rw [hkt]
        exact hdrop
  · rintro m₁ nx h3 tk3 ⟨x', t', ob, v₀, hm1, hm2, hob, rfl, hx', hw⟩ F3 N3
    have hsz : ws.toArray.size = row.reverse.length := by rw [List.size_toArray, hI.length]
    rw [hsz, List.take_length] at hx'
    have em : m₁ = fun z => if z = Str.ofString "number" then some (.int x' t') else m₁ z := by
      funext z
      by_cases h2 : z = Str.ofString "number"
      · rw [if_pos h2, h2, hm2]
      · rw [if_neg h2]
    rw [em] at F3
    dsimp only
    repeat' (first | walk1 | (dsimp only; walk1))
    rw [hx']
    refine h _ _ _ (by assumption) (News.sub (by assumption) ?_)
    intro p hp
    exact .tail _ (.tail _ hp)
end Mine

-- part LRd
namespace Mine
set_option maxRecDepth 100000
set_option maxHeartbeats 8000000
variable {prog : Program} {w : World} {A A₀ : Around} {E : Value → Shared → Prop} {s : Shared} {L : Addr} {h₀ base : Heap} {m mg mb : Str → Option Value} {news : List (Addr × Obj)} {p : Program} {loose : List Str} {mean : ExcName → Option Value} {Q : Value → Shared → Prop} {env : Env} {outer : List Env} {d : Nat}

theorem fill3 : (PySem.Challenge.rw_rs0010_01, hd.heap_39) = (PySem.Challenge.rw_rs0010_01, hd.heap_39) := by w_top off; k_fill; rfl
local macro_rules | `(tactic| k_mem) => `(tactic| assumption)
local macro_rules | `(tactic| ke_room) => `(tactic| (show (_ : Nat) + 3 + 64 < cLine; omega))
local macro_rules | `(tactic| walk_at "subscriptTail Name UnaryOp ref int") => `(tactic| (refine item_last (by assumption) (by k_mem) ?_))
local macro_rules | `(tactic| walk_at "call builtin:list.pop") => `(tactic| ((with_reducible show wpAny _ _ (call (Value.builtin _) [Value.ref _]) _ _ _); (refine pop_last (by assumption) (by assumption) (by k_upd) (by omega) ?_); intro h' F' N'))
local macro_rules | `(tactic| walk_at "CompRestT") => `(tactic| first
  | (refine LCt.CompRestT.succ ?_; intro v' I' oI' C' oC' D' m' h' tk' E' hv' hC' hx' F' N' off' ne'; lcg_open hv'; (try dsimp only))
  | refine LCt.CompRestT.zero ?_)
local macro_rules | `(tactic| walk_at "CompEnd") => `(tactic| (refine compEnd_same (by assumption) (by assumption) (by assumption) (Or.inr ⟨_, by k_mem, rfl, _, rfl⟩) ?_))
theorem call_rd {pa p1 p2 p3 p4 ma : Addr} {mo : Obj} {a b c : Int} {t1 t2 t3 t4 t5 t6 t7 t8 t9 t10 t11 t12 : Tok} {n : Nat} {x : Int} {t : Tok}
    (C : Cx w A A₀ base h₀ outer env L p loose mean mg mb (d + 1)) (F : Fr h₀ L s.heap m)
    (N : News h₀ L s.heap (partsL pa p1 p2 p3 p4 n a b c t1 t2 t3 t4 t5 t6 t7 t8 t9 t10 t11 t12 [(ma, mo)]))
    (ha : 1 ≤ a ∧ a ≤ 80) (hb : 1 ≤ b ∧ b ≤ 80) (hc : 1 ≤ c ∧ c ≤ 80) (hx : 256 ≤ x) (hx2 : x < 2 ^ 200)
    (h : ∀ row rvs rn left tl rA tA h' tk, IntsAre rvs row → RSpec a b c x row left → Fr h₀ L h' m → News h₀ L h' ((tA, tupOf #[.ref rA, .int left tl]) :: (rA, listOf rvs.toArray rn) :: partsL pa p1 p2 p3 p4 n a b c t1 t2 t3 t4 t5 t6 t7 t8 t9 t10 t11 t12 [(ma, mo)]) → Q (.ref tA) { s with heap := h', toks := tk }) :
    wpAny (model prog w) A (call (.ref 59) [.ref pa, .int x t]) Q E s := by
  obtain ⟨A1, A2, A3, A4, A5⟩ := A
  obtain ⟨B, X, T, hA, hf, hke, room, hh, hu⟩ := C
  dsimp only at hA hh room hu
  subst hA hh
  refine wpAny_call ?_
  refine' code_defC B F X N T rfl hf hke ?k6 ?k7 (by dsimp only; omega) ?k9 ?kB ?kD ?_ ?c2 ?c3 ?c4
  case k6 => k_is
  case k7 => k_is
  case k9 => exact BindsTo.of_eq rfl
  case kB => exact rfl
  case kD => decide +kernel
  case c2 => exact rfl
  case c3 => exact rfl
  case c4 => exact rfl
  intro g' L' h' tk' cells' FG' F' N' Y' B' X' T' l1
  (try k_lt l1)
  k_cells Y'
  rename_i oc hoc
  (try simp only [List.cons_append, List.nil_append] at N')
  dsimp only
  refine wpAny_noRaise ?_
  iterate 8 (first | walk1 | (dsimp only; walk1))
  rename_i Bb hq l2 h2 F2 N2
  refine While_inv2 (n₀ := x.toNat) (fun k m₁ nx => ∃ y ty bs vs nb j, m₁ (Str.ofString "parts") = some (.ref pa) ∧ m₁ (Str.ofString "bits") = some (.ref Bb) ∧ m₁ (Str.ofString "number") = some (.int y ty) ∧
      nx = (Bb, listOf vs.toArray nb) :: (L' + 1, oc) :: partsL pa p1 p2 p3 p4 n a b c t1 t2 t3 t4 t5 t6 t7 t8 t9 t10 t11 t12 [(ma, mo)] ∧
      IntsAre vs bs ∧ (∀ b ∈ bs, b = 0 ∨ b = 1) ∧ 0 ≤ y ∧ y < 2 ^ j ∧ bs.length + j = 200 ∧ cat y bs = x ∧ k = y.toNat) F2 N2 ⟨x, _, [], [], 0, 200, rfl, rfl, rfl, rfl, .nil, by simp, by omega, hx2, rfl, rfl, rfl⟩ ?_ PassesOwn.never
  rintro k m₁ nx h3 tk3 F3 N3 ⟨y, ty, bs, vs, nb, j, hm1, hm2, hm3, rfl, hI, h01, hy0, hy2, hlen, hcat, rfl⟩
  have em : m₁ = fun z => if z = Str.ofString "parts" then some (.ref pa) else if z = Str.ofString "bits" then some (.ref Bb) else if z = Str.ofString "number" then some (.int y ty) else m₁ z := by
    funext z
    by_cases h1 : z = Str.ofString "parts"
    · rw [if_pos h1, h1, hm1]
    · by_cases h2 : z = Str.ofString "bits"
      · rw [if_neg h1, if_pos h2, h2, hm2]
      · by_cases h3 : z = Str.ofString "number"
        · rw [if_neg h1, if_neg h2, if_pos h3, h3, hm3]
        · rw [if_neg h1, if_neg h2, if_neg h3]
  rw [em] at F3
  have hvl : vs.length ≤ 200 := by rw [hI.length]; omega
  iterate 5 (first | walk1 | (dsimp only; walk1))
  walk1
  · rename_i hpos
    repeat' (first | walk1 | (dsimp only; walk1))
    rename_i h4 F4 N4
    rw [List.push_toArray] at N4
    have hp2 : 0 < y := by omega
    obtain ⟨j', rfl⟩ : ∃ j', j = j' + 1 := by
      cases j with
      | zero => simp at hy2; omega
      | succ j' => exact ⟨j', rfl⟩
    have e1 : y.fdiv 2 = y / 2 := Int.fdiv_eq_ediv_of_nonneg _ (by decide)
    have e2 : y.fmod 2 = y % 2 := Int.fmod_eq_emod_of_nonneg _ (by decide)
    rw [Int.pow_succ] at hy2
    refine ⟨_, _, _, _, (y.fdiv 2).toNat, rfl, F4, N4, by omega, y.fdiv 2, _, bs ++ [y.fmod 2], _, _, j', rfl, rfl, rfl, rfl, hI.append (.cons _ _ .nil), ?_, by omega, by omega, by simp; omega, ?_, rfl⟩
    · intro b hb
      rcases List.mem_append.mp hb with h | h
      · exact h01 b h
      · have := List.mem_singleton.mp h; omega
    · rw [cat_snoc, ← hcat]; congr 1; omega
  · rename_i hpos
    have hy00 : y = 0 := by omega
    subst hy00
    iterate 12 (first | walk1 | (dsimp only; walk1))
    rename_i R hr1 l3 hr2 h4 o4 F4 N4 hd4
    have em4 : ∀ (m : Str → Option Value), m (Str.ofString "parts") = some (.ref pa) → m (Str.ofString "bits") = some (.ref Bb) → m (Str.ofString "row") = some (.ref R) →
        m = fun z => if z = Str.ofString "parts" then some (.ref pa) else if z = Str.ofString "bits" then some (.ref Bb) else if z = Str.ofString "row" then some (.ref R) else m z := by
      intro m q1 q2 q3
      funext z
      by_cases h1 : z = Str.ofString "parts"
      · rw [if_pos h1, h1, q1]
      · by_cases h2 : z = Str.ofString "bits"
        · rw [if_neg h1, if_pos h2, h2, q2]
        · by_cases h3 : z = Str.ofString "row"
          · rw [if_neg h1, if_neg h2, if_pos h3, h3, q3]
          · rw [if_neg h1, if_neg h2, if_neg h3]
    have hR0 : RInv a b c x [] 0 bs := RInv.init h01 hcat (by omega)
    refine While_inv2 (n₀ := bs.length) (fun k m₁ nx => ∃ row rvs rn bs vs nb l tl ob, m₁ (Str.ofString "parts") = some (.ref pa) ∧ m₁ (Str.ofString "bits") = some (.ref Bb) ∧ m₁ (Str.ofString "row") = some (.ref R) ∧
      nx = (R, listOf rvs.toArray rn) :: (Bb, listOf vs.toArray nb) :: (L' + 1, ob) :: partsL pa p1 p2 p3 p4 n a b c t1 t2 t3 t4 t5 t6 t7 t8 t9 t10 t11 t12 [(ma, mo)] ∧
      ob.data = .cell (some (.int l tl)) ∧ IntsAre rvs row ∧ IntsAre vs bs ∧ RInv a b c x row l bs ∧ k = bs.length) F4 N4 ⟨[], [], 0, bs, vs, nb, 0, _, o4, rfl, rfl, rfl, rfl, hd4, .nil, hI, hR0, rfl⟩ ?_ PassesOwn.never
    clear hm1 hm2 hm3 hI h01 hlen hvl hy0 hy2 hcat em hpos hR0 F4 N4 hd4
    rintro k m₁ nx h5 tk5 F5 N5 ⟨row, rvs, rn, bs, vs, nb, l, tl, ob, hm1, hm2, hm3, rfl, hob, hIr, hIb, hR, rfl⟩
    rw [em4 _ hm1 hm2 hm3] at F5
    have hrl : rvs.length ≤ 200 := by rw [hIr.length]; have := hR.len; omega
    have hbl : vs.length ≤ 200 := by rw [hIb.length]; have := hR.len; omega
    rcases hR.ends with ⟨h0, hl256⟩ | ⟨r, rfl, h0⟩
    · refine wpAny_mono (Q := GoOn s (fun h' => Fr g' L' h' (fun z => if z = Str.ofString "parts" then some (.ref pa) else if z = Str.ofString "bits" then some (.ref Bb) else if z = Str.ofString "row" then some (.ref R) else m₁ z) ∧
          News g' L' h' ((R, listOf rvs.toArray rn) :: (Bb, listOf vs.toArray nb) :: (L' + 1, ob) :: partsL pa p1 p2 p3 p4 n a b c t1 t2 t3 t4 t5 t6 t7 t8 t9 t10 t11 t12 [(ma, mo)])) true) ?_ ?_ (fun _ _ x => x)
      · rcases List.eq_nil_or_concat row with rfl | ⟨r, y, rfl⟩
        · cases hIr
          repeat' (first | walk1 | (dsimp only; walk1))
          exact ⟨rfl, _, _, rfl, by assumption, News.sub (by assumption) (fun p hp => .tail _ hp)⟩
        · rw [List.concat_eq_append] at *
          obtain ⟨us, ty', rfl, hus⟩ := intsAre_snoc hIr
          have hy0 : y ≠ 0 := fun e => h0 (by simp [e])
          repeat' (first | walk1 | (dsimp only; walk1))
          · rename_i hnil
            simp at hnil
          · refine call_eof (Cx.down B' X' T' rfl rfl room hu) (by assumption) (by assumption) ?_
            intro h6 tk6 F6 N6
            repeat' (first | walk1 | (dsimp only; walk1))
            exact ⟨rfl, _, _, rfl, by assumption, News.sub (by assumption) (fun p hp => .tail _ hp)⟩
      · rintro _ _ ⟨rfl, h6, tk6, rfl, F6, N6⟩
        clear F5 N5
        rw [if_pos rfl]
        walk1
        refine wpAny_mono (Q := GoOn s (fun h' => ∃ bs' vs' nb' l' tl' ob', Fr g' L' h' (fun z => if z = Str.ofString "parts" then some (.ref pa) else if z = Str.ofString "bits" then some (.ref Bb) else if z = Str.ofString "row" then some (.ref R) else m₁ z) ∧
          News g' L' h' ((R, listOf rvs.toArray rn) :: (Bb, listOf vs'.toArray nb') :: (L' + 1, ob') :: partsL pa p1 p2 p3 p4 n a b c t1 t2 t3 t4 t5 t6 t7 t8 t9 t10 t11 t12 [(ma, mo)]) ∧
          ob'.data = .cell (some (.int l' tl')) ∧ IntsAre vs' bs' ∧ InInv (cat l bs) bs.length l' bs' ∧ (256 ≤ l' ∨ bs' = [])) Flow.next) ?_ ?_ (fun _ _ x => x)
        · refine While_inv2 (n₀ := bs.length) (fun k m₂ nx => m₂ = (fun z => if z = Str.ofString "parts" then some (.ref pa) else if z = Str.ofString "bits" then some (.ref Bb) else if z = Str.ofString "row" then some (.ref R) else m₁ z) ∧ ∃ bs' vs' nb' l' tl' ob',
            nx = (R, listOf rvs.toArray rn) :: (Bb, listOf vs'.toArray nb') :: (L' + 1, ob') :: partsL pa p1 p2 p3 p4 n a b c t1 t2 t3 t4 t5 t6 t7 t8 t9 t10 t11 t12 [(ma, mo)] ∧
            ob'.data = .cell (some (.int l' tl')) ∧ IntsAre vs' bs' ∧ InInv (cat l bs) bs.length l' bs' ∧ k = bs'.length) F6 N6 ⟨rfl, bs, vs, nb, l, tl, ob, rfl, hob, hIb, hR.inner hl256, rfl⟩ ?_ PassesOwn.never
          clear F6 N6 hob
          rintro k m₂ nx h7 tk7 F7 N7 ⟨rfl, bs', vs', nb', l', tl', ob', rfl, hob', hIb', hV, rfl⟩
          have hbl' : vs'.length ≤ 200 := by rw [hIb'.length]; have := hV.len; have := hR.len; omega
          repeat' (first | walk1 | (dsimp only; walk1))
          refine call_term (Cx.down B' X' T' rfl rfl room hu) (by assumption) (by assumption) ?_
          intro h8 tk8 F8 N8
          by_cases hlt : l' < 256
          · rcases List.eq_nil_or_concat bs' with rfl | ⟨bq, q, rfl⟩
            · cases hIb'
              repeat' (first | walk1 | (dsimp only; walk1))
              exact ⟨rfl, _, _, rfl, [], [], nb', l', tl', ob', by assumption, News.sub (by assumption) (fun p hp => .tail _ hp), hob', .nil, hV, .inr rfl⟩
            · rw [List.concat_eq_append] at *
              obtain ⟨us, tq, rfl, hus⟩ := intsAre_snoc hIb'
              repeat' (first | walk1 | (dsimp only; walk1))
              · rename_i hnil
                simp at hnil
              · rename_i h9 o9 F9 N9 hd9
                refine ⟨_, _, _, _, bq.length, rfl, F9, News.sub N9 (fun p hp => .tail _ hp), by simp, rfl, bq, us, _, 2 * l' + q, _, o9, rfl, hd9, hus, hV.step hlt, rfl⟩
          · repeat' (first | walk1 | (dsimp only; walk1))
            exact ⟨rfl, _, _, rfl, bs', vs', nb', l', tl', ob', by assumption, by assumption, hob', hIb', hV, .inl (by omega)⟩
        · rintro _ _ ⟨rfl, h7, tk7, rfl, bs', vs', nb', l', tl', ob', F7, N7, hob', hIb', hV, hend⟩
          clear F6 N6
          dsimp only
          have hbl' : vs'.length ≤ 200 := by rw [hIb'.length]; have := hV.len; have := hR.len; omega
          repeat' (first | walk1 | (dsimp only; walk1))
          refine call_nonterm (Cx.down B' X' T' rfl rfl room hu) (by assumption) (by assumption) ?_
          intro h8 tk8 F8 N8
          by_cases h256 : 256 ≤ l'
          · iterate 7 (first | walk1 | (dsimp only; walk1))
            have hcase : (l' - 256 < a) ∨ (a ≤ l' - 256 ∧ l' - 256 < a + b) ∨ (a + b ≤ l' - 256 ∧ l' - 256 < a + b + c) ∨ (a + b + c ≤ l' - 256) := by omega
            have hl511 := hV.le
            obtain ⟨nx, hnx⟩ : ∃ nx, nx = ((R, listOf rvs.toArray rn) :: (Bb, listOf vs'.toArray nb') :: (L' + 1, ob') :: partsL pa p1 p2 p3 p4 n a b c t1 t2 t3 t4 t5 t6 t7 t8 t9 t10 t11 t12 [(ma, mo)]) := ⟨_, rfl⟩
            rw [← hnx] at N8
            have hmc : (L' + 1, ob') ∈ nx := by rw [hnx]; k_mem
            have hmpa : (pa, listOf #[.ref p1, .ref p2, .ref p3, .ref p4] n) ∈ nx := by rw [hnx]; k_mem
            have hmp1 : (p1, tupOf #[.int (-1) t1, .int 0 t2, .int a t3]) ∈ nx := by rw [hnx]; k_mem
            have hmp2 : (p2, tupOf #[.int 1 t4, .int a t5, .int b t6]) ∈ nx := by rw [hnx]; k_mem
            have hmp3 : (p3, tupOf #[.int 256 t7, .int (a + b) t8, .int c t9]) ∈ nx := by rw [hnx]; k_mem
            have hmp4 : (p4, tupOf #[.int 0 t10, .int (a + b + c) t11, .int (256 - a - b - c) t12]) ∈ nx := by rw [hnx]; k_mem
            clear N7
            rcases hcase with hcs | hcs | hcs | hcs
            all_goals
              refine LCt.ListComp_T (by assumption) (by with_unfolding_all rfl) (by decide) (by rfl) (by decide) (by rfl) ?_
              walk1
              refine LCt.CompSrcT.ledger rfl (by k_asm) (by k_asm) (by k_mem) (Nat.le_of_ble_eq_true rfl) ?_
              intro g9
              show LCt.CompRestT _ _ _ _ _ _ _ _ _ _ _ _ _ _ _ _ 4 _ _ _
              repeat' (first | walk1 | (dsimp only; walk1))
              rename_i h9 F9 N9
              rw [hnx] at N9
              replace N9 := News.sub N9 (fun p hp => .tail _ hp)
              repeat' (first | walk1 | (dsimp only; walk1))
              rename_i h10 o10 F10 N10 hd10
              rw [List.push_toArray] at N10
            · obtain ⟨hR', hlt⟩ := hR.turn ha hb hc hx2 h0 hV h256 (y := -1) (by simp) rfl rfl (by simp [fiOf]; omega) (by simp [fiOf, shOf]; omega) rfl
              exact ⟨_, _, _, _, bs'.length, rfl, F10, N10, hlt, row ++ [-1], _, _, bs', vs', nb', _, _, o10, rfl, rfl, rfl, rfl, hd10, hIr.append (.cons _ _ .nil), hIb', hR', rfl⟩
            · obtain ⟨hR', hlt⟩ := hR.turn ha hb hc hx2 h0 hV h256 (y := 1) (by simp) rfl rfl (by simp [fiOf]; omega) (by simp [fiOf, shOf]; omega) rfl
              exact ⟨_, _, _, _, bs'.length, rfl, F10, N10, hlt, row ++ [1], _, _, bs', vs', nb', _, _, o10, rfl, rfl, rfl, rfl, hd10, hIr.append (.cons _ _ .nil), hIb', hR', rfl⟩
            · obtain ⟨hR', hlt⟩ := hR.turn ha hb hc hx2 h0 hV h256 (y := 256) (by simp) rfl rfl (by simp [fiOf]; omega) (by simp [fiOf, shOf]; omega) rfl
              exact ⟨_, _, _, _, bs'.length, rfl, F10, N10, hlt, row ++ [256], _, _, bs', vs', nb', _, _, o10, rfl, rfl, rfl, rfl, hd10, hIr.append (.cons _ _ .nil), hIb', hR', rfl⟩
            · obtain ⟨hR', hlt⟩ := hR.turn ha hb hc hx2 h0 hV h256 (y := 0) (by simp) rfl rfl (by simp [fiOf]; omega) (by simp [fiOf, shOf]; omega) rfl
              exact ⟨_, _, _, _, bs'.length, rfl, F10, N10, hlt, row ++ [0], _, _, bs', vs', nb', _, _, o10, rfl, rfl, rfl, rfl, hd10, hIr.append (.cons _ _ .nil), hIb', hR', rfl⟩
          · have hbs : bs' = [] := hend.resolve_left h256
            subst hbs
            repeat' (first | walk1 | (dsimp only; walk1))
            rename_i tA hA F9 N9 lA
            unfold PyProof.Rows.WhileStep2
            dsimp only
            repeat' (first | walk1 | (dsimp only; walk1))
            refine h row rvs rn l' tl' R tA _ _ hIr (hR.spec hV (.inl ⟨h0, by omega⟩)) (by assumption) (News.sub (by assumption) ?_)
            intro p hp
            rcases List.mem_cons.mp hp with rfl | hp
            · exact .head _
            rcases List.mem_cons.mp hp with rfl | hp
            · exact .tail _ (.head _)
            exact .tail _ (.tail _ (.tail _ (.tail _ hp)))
    · obtain ⟨us, ty', rfl, hus⟩ := intsAre_snoc hIr
      refine wpAny_mono (Q := GoOn s (fun h' => Fr g' L' h' (fun z => if z = Str.ofString "parts" then some (.ref pa) else if z = Str.ofString "bits" then some (.ref Bb) else if z = Str.ofString "row" then some (.ref R) else m₁ z) ∧
          News g' L' h' ((R, listOf (us ++ [Value.int 0 ty']).toArray rn) :: (Bb, listOf vs.toArray nb) :: (L' + 1, ob) :: partsL pa p1 p2 p3 p4 n a b c t1 t2 t3 t4 t5 t6 t7 t8 t9 t10 t11 t12 [(ma, mo)])) false) ?_ ?_ (fun _ _ x => x)
      · repeat' (first | walk1 | (dsimp only; walk1))
        · rename_i hnil
          simp at hnil
        · refine call_eof (Cx.down B' X' T' rfl rfl room hu) (by assumption) (by assumption) ?_
          intro h6 tk6 F6 N6
          repeat' (first | walk1 | (dsimp only; walk1))
          exact ⟨rfl, _, _, rfl, by assumption, News.sub (by assumption) (fun p hp => .tail _ hp)⟩
      · rintro _ _ ⟨rfl, h6, tk6, rfl, F6, N6⟩
        clear F5 N5
        rw [if_neg Bool.false_ne_true]
        dsimp only
        walk1
        refine wpAny_mono (Q := GoOn s (fun h' => ∃ (vs' : List Value) (nb' : Nat) (l' : Int) (tl' : Tok) (ob' : Obj), Fr g' L' h' (fun z => if z = Str.ofString "parts" then some (.ref pa) else if z = Str.ofString "bits" then some (.ref Bb) else if z = Str.ofString "row" then some (.ref R) else m₁ z) ∧
          News g' L' h' ((R, listOf (us ++ [Value.int 0 ty']).toArray rn) :: (Bb, listOf vs'.toArray nb') :: (L' + 1, ob') :: partsL pa p1 p2 p3 p4 n a b c t1 t2 t3 t4 t5 t6 t7 t8 t9 t10 t11 t12 [(ma, mo)]) ∧
          ob'.data = .cell (some (.int l' tl')) ∧ OutInv (cat l bs) l' []) Flow.next) ?_ ?_ (fun _ _ x => x)
        · refine While_inv2 (n₀ := bs.length) (fun k m₂ nx => m₂ = (fun z => if z = Str.ofString "parts" then some (.ref pa) else if z = Str.ofString "bits" then some (.ref Bb) else if z = Str.ofString "row" then some (.ref R) else m₁ z) ∧ ∃ bs' vs' nb' l' tl' ob',
            nx = (R, listOf (us ++ [Value.int 0 ty']).toArray rn) :: (Bb, listOf vs'.toArray nb') :: (L' + 1, ob') :: partsL pa p1 p2 p3 p4 n a b c t1 t2 t3 t4 t5 t6 t7 t8 t9 t10 t11 t12 [(ma, mo)] ∧
            ob'.data = .cell (some (.int l' tl')) ∧ IntsAre vs' bs' ∧ OutInv (cat l bs) l' bs' ∧ k = bs'.length) F6 N6 ⟨rfl, bs, vs, nb, l, tl, ob, rfl, hob, hIb, hR.outer, rfl⟩ ?_ PassesOwn.never
          clear F6 N6 hob
          rintro k m₂ nx h7 tk7 F7 N7 ⟨rfl, bs', vs', nb', l', tl', ob', rfl, hob', hIb', hV, rfl⟩
          have hbl' : vs'.length ≤ 200 := by rw [hIb'.length]; exact hV.len
          rcases List.eq_nil_or_concat bs' with rfl | ⟨bq, q, rfl⟩
          · cases hIb'
            repeat' (first | walk1 | (dsimp only; walk1))
            exact ⟨rfl, _, _, rfl, [], nb', l', tl', ob', by assumption, News.sub (by assumption) (fun p hp => .tail _ hp), hob', hV⟩
          · rw [List.concat_eq_append] at *
            obtain ⟨us', tq, rfl, hus'⟩ := intsAre_snoc hIb'
            repeat' (first | walk1 | (dsimp only; walk1))
            · rename_i hnil
              simp at hnil
            · rename_i h9 o9 F9 N9 hd9
              refine ⟨_, _, _, _, bq.length, rfl, F9, News.sub N9 (fun p hp => .tail _ hp), by simp, rfl, bq, us', _, 2 * l' + q, _, o9, rfl, hd9, hus', hV.step, rfl⟩
        · rintro _ _ ⟨rfl, h7, tk7, rfl, vs', nb', l', tl', ob', F7, N7, hob', hV⟩
          clear F6 N6
          dsimp only
          repeat' (first | walk1 | (dsimp only; walk1))
          rename_i tA _ _
          refine h (r ++ [0]) (us ++ [Value.int 0 ty']) rn l' tl' R _ _ _ hIr (hR.specOut hV ⟨r, rfl, h0⟩) (by assumption) (News.sub (by assumption) ?_)
          intro p hp
          rcases List.mem_cons.mp hp with rfl | hp
          · exact .head _
          rcases List.mem_cons.mp hp with rfl | hp
          · exact .tail _ (.head _)
          exact .tail _ (.tail _ (.tail _ (.tail _ hp)))
end Mine

-- part LEnum
namespace Mine
set_option maxRecDepth 100000
set_option maxHeartbeats 2000000
open LCg
variable {prog : Program} {w : World} {A A₀ : Around} {s : Shared} {L : Addr} {h₀ base : Heap} {m mg mb : Str → Option Value} {news : List (Addr × Obj)} {env : Env}

/-- an enumerate over a ledger list, as a comprehension's source -/
def EnumSrc (h₀ : Heap) (L l : Addr) (m : Str → Option Value) (news : List (Addr × Obj)) (s : Shared) (xv : Value) (s₁ : Shared) : Prop :=
  ∃ e it, xv = .ref e ∧ (∃ h tk, s₁ = { s with heap := h, toks := tk }) ∧ Fr h₀ L s₁.heap m ∧ News h₀ L s₁.heap news ∧ IsEnum s₁.heap e it 0 .none ∧ s₁.heap.IsListIter it l 0 ∧ e ≠ it ∧ e ≠ L ∧ it ≠ L ∧ h₀.get? e = none ∧ h₀.get? it = none ∧ ∀ p ∈ news, p.1 ≠ e ∧ p.1 ≠ it

/-- the ledger of a turn -/
def EnumEnd (h₀ : Heap) (L : Addr) (m : Str → Option Value) (s : Shared) (nx : List (Addr × Obj)) (J : Value → Prop) (y : Value) (s' : Shared) : Prop :=
  ∃ h' tk', s' = { s with heap := h', toks := tk' } ∧ Fr h₀ L h' m ∧ News h₀ L h' nx ∧ J y

theorem comp_enum {elt iter : Expr} {x x₂ : Str} {px px₂ tp : Pos} {tk : Nat} {scope : Scope} {cl : List (Str × Addr)} {pos : Pos} {Q : Value → Shared → Prop} {nws : List (Addr × Obj)} {sz : Nat}
    (I : Array Value → Prop) (J : Nat → List Value → Prop) (hh : A.handled = none)
    (hclos : closureFor scope env = pure cl) (hcell : ∀ y ∈ scope.names, y.2 ≠ .cell) (hkind : scope.kind = .function)
    (hnames : ∀ y ∈ scope.names, y.2 = .local → scope.names.lookup y.1 = some .local) (hx : scope.names.lookup x = some .local) (hx₂ : scope.names.lookup x₂ = some .local) (hxx : x ≠ x₂)
    (hiter : wpAny (model prog w) A (eval iter env) (fun xv s₁ => ∃ l its nn, I its ∧ its.size = sz ∧ EnumSrc h₀ L l m ((l, listOf its nn) :: nws) s xv s₁) (fun _ _ => False) s)
    (hsz : sz ≤ sizeLine) (h0 : J 0 [])
    (turn : ∀ l its nn i v ys t C oC e eo it io D h tk m₂, I its → its[i]? = some v → J i ys → NsObj oC m₂ → m₂ x = some (.int i t) → m₂ x₂ = some v → Fr h₀ L h m → News h₀ L h ((e, eo) :: (it, io) :: (C, oC) :: (D, lst ys) :: (l, listOf its nn) :: nws) →
      wpAny (model prog w) A (eval elt (compEnvC scope cl C env)) (EnumEnd h₀ L m s ((e, eo) :: (it, io) :: (C, oC) :: (D, lst ys) :: (l, listOf its nn) :: nws) (fun y => J (i + 1) (ys ++ [y]))) (fun _ _ => False) { s with heap := h, toks := tk })
    (done : ∀ l its nn D h tk ys, J sz ys → ys.length = sz → Fr h₀ L h m → News h₀ L h ((D, lst ys) :: (l, listOf its nn) :: nws) → (∀ p ∈ (l, listOf its nn) :: nws, p.1 ≠ D) → Q (.ref D) { s with heap := h, toks := tk })
    (hs : ∀ x, foldedSetIterable iter env x = pure x := by intro _; rfl) :
    wpAny (model prog w) A (eval (.ListComp elt [⟨.Tuple [.Name x px, .Name x₂ px₂] tk tp, iter, [], 0⟩] scope pos) env) Q (fun _ _ => False) s := by
  rw [eval_ListComp]
  refine wpAny_comprehension_free (use := none) rfl hs hclos hkind hnames (wpAny_mono hiter (fun xv s₂ h₂ => ?_) fun _ _ e => e)
  obtain ⟨l, its, nn, hIi, rfl, e, it, rfl, ⟨hq, tkq, rfl⟩, F, N, he, hit, hei, heL, hiL, he₀, hi₀, hoff⟩ := h₂
  replace turn := fun i v ys t C oC e eo it io D h tk m₂ => turn l its nn i v ys t C oC e eo it io D h tk m₂ hIi
  replace done := done l its nn
  have hl : (l, listOf its nn) ∈ (l, listOf its nn) :: nws := .head _
  generalize (l, listOf its nn) :: nws = news at *
  refine wpAny_pyIter_enum he ?_
  refine wpAny_newObj_type (wpAny_newFunctionEnv hcell (by intro y hy; simp at hy) (fun h₁ hns₁ hsb₁ => ?_) hkind)
  dsimp only at hns₁ hsb₁ F N he hit ⊢
  generalize hH2 : hq.push { cls := .type "list", dict := none, data := .seq ([] : List Value).toArray } = H2 at hns₁ hsb₁ ⊢
  have hC : H2.objs.size = hq.objs.size + 1 := by rw [← hH2, Heap.size_push]
  have hDC : hq.objs.size ≠ H2.objs.size := by rw [hC]; exact Nat.ne_of_lt (Nat.lt_succ_self _)
  have below : ∀ b o, hq.get? b = some o → b ≠ H2.objs.size ∧ b ≠ hq.objs.size := fun b o e => by
    have := Heap.lt_size e
    exact ⟨by rw [hC]; exact Nat.ne_of_lt (Nat.lt_succ_of_lt this), Nat.ne_of_lt this⟩
  have old : ∀ b o, hq.get? b = some o → h₁.get? b = some o := fun b o e => hsb₁.extBut b o (below b o e).1 (Heap.get?_push_of_some _ (hH2 ▸ Heap.get?_push_of_some _ e))
  have hacc : h₁.get? hq.objs.size = some (lst []) := hsb₁.extBut _ _ hDC (Heap.get?_push_of_some _ (hH2 ▸ Heap.get?_push_size _ rfl))
  have fresh₀ : ∀ a, hq.objs.size ≤ a → h₀.get? a = none := fun a ha => by
    cases q : h₀.get? a with
    | none => rfl
    | some o' => exact absurd (Heap.lt_size (F.keep a o' q)) (Nat.not_lt.mpr ha)
  have hD₀ : h₀.get? hq.objs.size = none := fresh₀ _ (Nat.le_refl _)
  have hC₀ : h₀.get? H2.objs.size = none := fresh₀ _ (by rw [hC]; exact Nat.le_succ _)
  obtain ⟨oL, _, _, hoL, _⟩ := id F.ns
  have hDL : hq.objs.size ≠ L := Ne.symm (below L _ hoL).2
  have hCL : H2.objs.size ≠ L := Ne.symm (below L _ hoL).1
  obtain ⟨oi, hoi, hoic, hoid⟩ := id hit
  have beN := fun p hp => below _ _ (N p hp).1
  generalize hDD : hq.objs.size = D at *
  generalize hCC : H2.objs.size = C at *
  have loop : ∀ s₃ : Shared, s₃ = { s with heap := h₁, toks := tkq + ([] : List (Str × Value)).length } →
      codeAny (model prog w) A (.compLoop (.ListComp elt [⟨.Tuple [.Name x px, .Name x₂ px₂] tk tp, iter, [], 0⟩] scope pos) 0 (.ref e) (.ref D) (compEnvC scope cl C env))
        (compPost (model prog w) A (fun _ _ => False) none Q (.ref D) C) s₃ := by
    rintro s₃ rfl
    refine LCp.codeAny_compLoop_pair
      (fun k s' => ∃ h' tk i ys m' old, s' = { s with heap := h', toks := tk } ∧ i ≤ its.size ∧ k = its.size + 1 - i ∧ ys.length = i ∧ IsEnum h' e it ((i : Nat) : Int) old ∧ h'.IsListIter it l i ∧ Fr h₀ L h' m ∧ h'.Ns C m' ∧ News h₀ L h' ((D, lst ys) :: news) ∧ J i ys) ?_ (its.size + 1)
      ⟨h₁, _, 0, [], _, .none, rfl, Nat.zero_le _, rfl, rfl, old _ _ he, ⟨oi, old _ _ hoi, hoic, hoid⟩, F.keeps old, hns₁, fun p hp => ?_, h0⟩
    · rintro k s' ⟨H, tk', i, ys, m', olde, rfl, hi, rfl, hyl, he', hit', F', hn', N', hJ⟩
      have hlH := (N' _ (.tail _ hl)).1
      have hil : H.IsList l its := ⟨_, hlH, rfl, nn, rfl⟩
      obtain ⟨oi', hoi', _, _⟩ := id hit'
      obtain ⟨oC', _, _, hoC', _⟩ := id hn'
      obtain ⟨oL', _, _, hoL', _⟩ := id F'.ns
      have hlist := hoff _ hl
      have hDe : D ≠ e := Ne.symm (below _ _ he).2
      have hDi : D ≠ it := Ne.symm (below _ _ hoi).2
      have hCe : C ≠ e := Ne.symm (below _ _ he).1
      have hCi : C ≠ it := Ne.symm (below _ _ hoi).1
      by_cases hlt : i < its.size
      · have hv : its[i]? = some its[i] := Array.getElem?_eq_getElem hlt
        refine wpAny_pyNext_enum_item he' hit' hil hv hei fun g₁ heo hit₁ ht₁ hz₁ hk₁ => ?_
        refine wpAny_letOwnedTupleGo_enum heo fun g₂ he₂ hs₂ => ?_
        have hTe : H.objs.size ≠ e := Nat.ne_of_gt (Heap.lt_size he')
        have hTi : H.objs.size ≠ it := Nat.ne_of_gt (Heap.lt_size hoi')
        have ht₂ : IsTup g₂ H.objs.size #[.int i tk', its[i]] := ⟨_, (hs₂.2 _ hTe).trans ht₁, rfl, _, rfl⟩
        obtain ⟨oi₁, hoi₁, hc₁, hd₁⟩ := id hit₁
        have hoi₂ : g₂.get? it = some oi₁ := (hs₂.2 it (Ne.symm hei)).trans hoi₁
        have k₂ : ∀ b o, b ≠ e → b ≠ it → H.get? b = some o → g₂.get? b = some o := fun b o q1 q2 q => (hs₂.2 b q1).trans (hk₁ b o q1 q2 q)
        refine assign_Tuple_tuple hh ht₂ rfl rfl fun g₅ hx5 => ?_
        have he5 : ∀ b o, g₂.get? b = some o → g₅.get? b = some o := fun b o q => hx5 b o (Nat.ne_of_lt (Heap.lt_size q)) q
        have hn₅ : g₅.Ns C m' := (hn'.at' fun o q => k₂ _ o hCe hCi q).at' fun o q => he5 _ o q
        refine assignInOrder_cons (wpAny_assign_Name (wpAny_storeName_local (lookup_relabel_local hx) hn₅ (fun g₆ hn₆ hs₆ => ?_) (by simp [compEnvC, relabel, hkind])))
        refine assignInOrder_cons (wpAny_assign_Name (wpAny_storeName_local (lookup_relabel_local hx₂) hn₆ (fun g₃ hn₃ hs₃ => ?_) (by simp [compEnvC, relabel, hkind])))
        refine assignInOrder_nil ?_
        have k₃ : ∀ b o, b ≠ C → g₂.get? b = some o → g₃.get? b = some o := fun b o hb q => hs₃.extBut b o hb (hs₆.extBut b o hb (he5 b o q))
        have k₄ : ∀ b o, b ≠ e → b ≠ it → b ≠ C → H.get? b = some o → g₃.get? b = some o := fun b o q1 q2 q3 q => k₃ b o q3 (k₂ b o q1 q2 q)
        have he₃ : IsEnum g₃ e it ((i : Int) + 1) its[i] := k₃ _ _ (Ne.symm hCe) he₂
        have hoi₃ : g₃.get? it = some oi₁ := k₃ _ _ (Ne.symm hCi) hoi₂
        obtain ⟨oC, heC, hoC⟩ := ns_obj hn₃
        have F₃ : Fr h₀ L g₃ m := by
          obtain ⟨oL'', es'', ep'', hL'', hr''⟩ := id F'.ns
          exact ⟨⟨oL'', es'', ep'', k₄ _ _ (Ne.symm heL) (Ne.symm hiL) (Ne.symm hCL) hL'', hr''⟩, fun b o q => k₄ _ _ (fun z => by rw [z, he₀] at q; cases q) (fun z => by rw [z, hi₀] at q; cases q) (fun z => by rw [z, hC₀] at q; cases q) (F'.keep b o q), F'.above⟩
        have N₃ : News h₀ L g₃ ((e, _) :: (it, oi₁) :: (C, oC) :: (D, lst ys) :: news) := fun p hp => by
          rcases List.mem_cons.mp hp with rfl | hp
          · exact ⟨he₃, heL, he₀⟩
          rcases List.mem_cons.mp hp with rfl | hp
          · exact ⟨hoi₃, hiL, hi₀⟩
          rcases List.mem_cons.mp hp with rfl | hp
          · exact ⟨heC, hCL, hC₀⟩
          have z := N' p hp
          rcases List.mem_cons.mp hp with rfl | hp
          · exact ⟨k₄ _ _ hDe hDi hDC z.1, z.2⟩
          · exact ⟨k₄ _ _ (hoff p hp).1 (hoff p hp).2 (beN p hp).1 z.1, z.2⟩
        refine wpAny_mono (turn i its[i] ys tk' C oC e _ it oi₁ D g₃ _ _ hv hJ hoC (by simp [hxx]) (by simp) F₃ N₃) (fun y s₄ h₄ => ?_) fun _ _ q => q.elim
        obtain ⟨h₄, tk₄, rfl, F₄, N₄, hJ₄⟩ := h₄
        have zE := (N₄ _ (.head _)).1
        have zI := (N₄ _ (.tail _ (.head _))).1
        have zC := (N₄ _ (.tail _ (.tail _ (.head _)))).1
        have zD := (N₄ _ (.tail _ (.tail _ (.tail _ (.head _))))).1
        refine append_at (hsz := by show ys.toArray.size ≤ sizeLine; rw [List.size_toArray, hyl]; exact Nat.le_trans hi hsz) zD fun h₅ hs₅ hD₅ => ?_
        refine ⟨its.size + 1 - (i + 1), by omega, h₅, tk₄, i + 1, ys ++ [y], _, _, rfl, hlt, rfl, by rw [List.length_append, List.length_singleton, hyl], hs₅.extBut _ _ (Ne.symm hDe) zE, ⟨oi₁, hs₅.extBut _ _ (Ne.symm hDi) zI, hc₁, hd₁⟩, F₄.change hs₅ hDL hD₀,
          (hoC.ns zC).sameBut hs₅ (Ne.symm hDC), fun p hp => ?_, hJ₄⟩
        rcases List.mem_cons.mp hp with rfl | hp
        · exact ⟨hD₅.trans (congrArg some (lst_snoc ys y)), hDL, hD₀⟩
        · have z := N₄ p (.tail _ (.tail _ (.tail _ (.tail _ hp))))
          exact ⟨hs₅.extBut _ _ (beN p hp).2 z.1, z.2⟩
      · obtain rfl : i = its.size := Nat.le_antisymm hi (Nat.not_lt.mp hlt)
        refine wpAny_pyNext_enum_end hh he' hit' hil (by simp) fun g hk => ?_
        have kk : ∀ b o, b ≠ it → H.get? b = some o → g.get? b = some o := fun b o q1 q => hk b o q1 q
        obtain ⟨oL'', es'', ep'', hL'', hr''⟩ := id F'.ns
        refine ⟨m', hn'.at' fun o q => kk _ o hCi q, fun h'' hs'' => ?_⟩
        have k5 : ∀ b o, b ≠ it → b ≠ C → H.get? b = some o → h''.get? b = some o := fun b o q1 q2 q => hs''.extBut b o q2 (kk b o q1 q)
        refine done D h'' tk' ys hJ hyl ⟨⟨oL'', es'', ep'', k5 _ _ (Ne.symm hiL) (Ne.symm hCL) hL'', hr''⟩, fun b o q => k5 _ _ (fun z => by rw [z, hi₀] at q; cases q) (fun z => by rw [z, hC₀] at q; cases q) (F'.keep b o q), F'.above⟩ (fun p hp => ?_) (fun p hp => (beN p hp).2)
        have z := N' p hp
        rcases List.mem_cons.mp hp with rfl | hp
        · exact ⟨k5 _ _ hDi hDC z.1, z.2⟩
        · exact ⟨k5 _ _ (hoff p hp).2 (beN p hp).1 z.1, z.2⟩
    · rcases List.mem_cons.mp hp with rfl | hp
      · exact ⟨hacc, hDL, hD₀⟩
      · exact ⟨old _ _ (N p hp).1, (N p hp).2⟩
  exact codeAny_compStart_list (loop _ rfl) (wpAny_pyIter_enum (old _ _ he) (loop _ rfl))

theorem enum_src {E : Value → Shared → Prop} {s₀ : Shared} {l : Addr} {its : Array Value} {nn sz : Nat} {I : Array Value → Prop} (hs₀ : ∃ h tk, s = { s₀ with heap := h, toks := tk })
    (F : Fr h₀ L s.heap m) (N : News h₀ L s.heap ((l, listOf its nn) :: news)) (hI : I its) (hsz : its.size = sz) :
    wpAny (model prog w) A (call (.type "enumerate") [.ref l]) (fun xv s₁ => ∃ l its nn, I its ∧ its.size = sz ∧ EnumSrc h₀ L l m ((l, listOf its nn) :: news) s₀ xv s₁) E s := by
  obtain ⟨h, tk, rfl⟩ := hs₀
  have hl : Heap.IsList h l its := ⟨_, (N _ (.head _)).1, rfl, nn, rfl⟩
  refine call_enumerate_list hl fun h' he hit hsz' hk => ?_
  have lt : ∀ b o, h.get? b = some o → b < h.objs.size := fun b o e => Heap.lt_size e
  have fresh : ∀ a, h.objs.size ≤ a → h₀.get? a = none := fun a ha => by
    cases q : h₀.get? a with
    | none => rfl
    | some o' => exact absurd (lt _ _ (F.keep a o' q)) (Nat.not_lt.mpr ha)
  obtain ⟨oL, _, _, hoL, _⟩ := id F.ns
  have hLlt := lt _ _ hoL
  refine ⟨l, its, nn, hI, hsz, h.objs.size + 1, h.objs.size, rfl, ⟨h', tk, rfl⟩, F.keeps hk, N.grown hk, he, hit, Nat.succ_ne_self _, ?_, ?_, fresh _ (Nat.le_succ _), fresh _ (Nat.le_refl _), fun p hp => ?_⟩
  · exact Ne.symm (Nat.ne_of_lt (Nat.lt_succ_of_lt hLlt))
  · exact Ne.symm (Nat.ne_of_lt hLlt)
  · have := lt _ _ (N p hp).1
    exact ⟨Nat.ne_of_lt (Nat.lt_succ_of_lt this), Nat.ne_of_lt this⟩
end Mine

-- part LFor2
namespace Mine
set_option maxRecDepth 100000
set_option maxHeartbeats 1000000
variable {prog : Program} {w : World} {A A₀ : Around} {s : Shared} {L : Addr} {h₀ base : Heap} {m mg mb : Str → Option Value} {news : List (Addr × Obj)} {env : Env}
theorem forL2 {elts : List Expr} {x1 : Nat} {tpos : Pos} {body : List Stmt} {l : Addr} {its : Array Value} {nn : Nat} {Q : Flow → Shared → Prop}
    (J : Nat → (Str → Option Value) → List (Addr × Obj) → Prop)
    (hh : A.handled = none) (F : Fr h₀ L s.heap m) (N : News h₀ L s.heap news) (h0 : J 0 m news)
    (hJl : ∀ i m nx, J i m nx → (l, listOf its nn) ∈ nx)
    (turn : ∀ i v m₁ nx h tk I io, its[i]? = some v → J i m₁ nx → (∀ p ∈ nx, p.1 ≠ I) → Fr h₀ L h m₁ → News h₀ L h ((I, io) :: nx) →
      wpAny (model prog w) A (assign (.Tuple elts x1 tpos) env v) (fun _ s₂ => wpAny (model prog w) A (execs body env) (ForEnd h₀ L s I io (J (i + 1)) Q) (fun _ _ => False) s₂) (fun _ _ => False) { s with heap := h, toks := tk })
    (done : ∀ m₁ nx h tk, J its.size m₁ nx → Fr h₀ L h m₁ → News h₀ L h nx → Q .next { s with heap := h, toks := tk })
    (hrefs : ∀ (i : Nat) (v : Value), its[i]? = some v → ∃ T : Addr, v = Value.ref T) :
    wpAny (model prog w) A (pyIter (.ref l)) (fun it s₂ =>
      codeAny (model prog w) A (.forLoop (.Tuple elts x1 tpos) it body [] env) (fun r s' => match r with | .ok f => Q f s' | .error e => cameBackBy (model prog w) A env (fun _ _ => False) e s') s₂) (fun _ _ => False) s := by
  have hol : s.heap.get? l = some (listOf its nn) := (N _ (hJl _ _ _ h0)).1
  have hls : s.heap.IsList l its := ⟨_, hol, rfl, nn, rfl⟩
  refine wpAny_pyIter_list hls ?_
  obtain ⟨oL, es, ep, hL, hr⟩ := F.ns
  refine codeAny_forLoop_any (fun k s' => ∃ i h tk m₁ nx io, k = its.size - i ∧ i ≤ its.size ∧ s' = { s with heap := h, toks := tk } ∧ Fr h₀ L h m₁ ∧ News h₀ L h ((s.heap.objs.size, io) :: nx) ∧ h.IsListIter s.heap.objs.size l i ∧ (∀ p ∈ nx, p.1 ≠ s.heap.objs.size) ∧ J i m₁ nx) ?_ its.size ?_
  · rintro k s' ⟨i, h, tk, m₁, nx, io, rfl, hi, rfl, F₁, N₁, hit, hne, hJ⟩
    have hl₁ := (N₁ _ (.tail _ (hJl _ _ _ hJ))).1
    have hil : h.IsList l its := ⟨_, hl₁, rfl, nn, rfl⟩
    obtain ⟨o, ho, hoc, hod⟩ := id hit
    have hI := (N₁ _ (.head _)).2
    cases hv : its[i]? with
    | none =>
      have hsz : i = its.size := Nat.le_antisymm hi (by simpa using hv)
      refine wpAny_pyNext_list_end hh hit hil hv fun h₂ he => wpAny_execs_nil ?_
      obtain ⟨oL', es', ep', hL', hr'⟩ := F₁.ns
      refine done m₁ nx h₂ tk (hsz ▸ hJ) ⟨⟨oL', es', ep', he _ _ (Ne.symm hI.1) hL', hr'⟩, fun b o e => he _ _ (fun q => ?_) (F₁.keep b o e), F₁.above⟩ fun q hq => ⟨he _ _ (hne q hq) (N₁ q (.tail _ hq)).1, (N₁ q (.tail _ hq)).2⟩
      have := hI.2; rw [← q, e] at this; cases this
    | some v =>
      have hlt : i < its.size := (Array.getElem?_eq_some_iff.mp hv).1
      refine wpAny_pyNext_list_item hit hil hv fun h₂ hit₂ hs => ?_
      obtain ⟨o₂, ho₂, hoc₂, hod₂⟩ := id hit₂
      obtain ⟨oL', es', ep', hL', hr'⟩ := F₁.ns
      have F₂ : Fr h₀ L h₂ m₁ := ⟨⟨oL', es', ep', (hs.2 _ (Ne.symm hI.1)).trans hL', hr'⟩, fun b o e => (hs.2 _ (fun q => by have := hI.2; rw [← q, e] at this; cases this)).trans (F₁.keep b o e), F₁.above⟩
      have N₂ : News h₀ L h₂ ((s.heap.objs.size, o₂) :: nx) := fun q hq => by
        rcases List.mem_cons.mp hq with rfl | hq
        · exact ⟨ho₂, hI⟩
        · exact ⟨(hs.2 _ (hne q hq)).trans (N₁ q (.tail _ hq)).1, (N₁ q (.tail _ hq)).2⟩
      obtain ⟨T, rfl⟩ := hrefs i v hv
      refine wpAny_letOwnedTupleGo_listiter (s := { s with heap := h₂, toks := tk }) hit₂ ?_
      refine wpAny_mono (turn i (.ref T) m₁ nx h₂ tk _ o₂ hv hJ hne F₂ N₂) (fun _ s₂ p => wpAny_mono p (fun f s₃ q => ?_) (fun _ _ x => x.elim)) (fun _ _ x => x.elim)
      have fin : (∃ h' tk' m' nx', s₃ = { s with heap := h', toks := tk' } ∧ Fr h₀ L h' m' ∧ News h₀ L h' ((s.heap.objs.size, o₂) :: nx') ∧ (∀ p ∈ nx', p.1 ≠ s.heap.objs.size) ∧ J (i + 1) m' nx') → ∃ k', k' < its.size - i ∧ ∃ i h tk m₁ nx io, k' = its.size - i ∧ i ≤ its.size ∧ s₃ = { s with heap := h, toks := tk } ∧ Fr h₀ L h m₁ ∧ News h₀ L h ((s.heap.objs.size, io) :: nx) ∧ h.IsListIter s.heap.objs.size l i ∧ (∀ p ∈ nx, p.1 ≠ s.heap.objs.size) ∧ J i m₁ nx := by
        rintro ⟨h', tk', m', nx', rfl, F', N', hne', hJ'⟩
        exact ⟨its.size - (i + 1), by omega, i + 1, h', tk', m', nx', o₂, rfl, hlt, rfl, F', N', ⟨o₂, (N' _ (.head _)).1, hoc₂, hod₂⟩, hne', hJ'⟩
      cases f with
      | ret v => exact q
      | brk => exact q
      | next => exact fin q
      | cont => exact fin q
  · refine ⟨0, _, s.toks, m, news, _, rfl, Nat.zero_le _, rfl, F.push _, N.push F _, ⟨_, Heap.get?_push_size _ rfl, rfl, rfl⟩, fun p hp q => ?_, h0⟩
    exact absurd (Heap.lt_size (N p hp).1) (by rw [q]; exact Nat.lt_irrefl _)

abbrev tupT (vs : Array Value) (n : Nat) : Obj := { cls := .type "tuple", data := .seq vs n }
theorem forT {target : Expr} {body : List Stmt} {l : Addr} {its : Array Value} {nn : Nat} {Q : Flow → Shared → Prop}
    (J : Nat → (Str → Option Value) → List (Addr × Obj) → Prop)
    (hh : A.handled = none) (F : Fr h₀ L s.heap m) (N : News h₀ L s.heap news) (h0 : J 0 m news)
    (hJl : ∀ i m nx, J i m nx → (l, tupT its nn) ∈ nx)
    (turn : ∀ i v m₁ nx h tk I io, its[i]? = some v → J i m₁ nx → (∀ p ∈ nx, p.1 ≠ I) → Fr h₀ L h m₁ → News h₀ L h ((I, io) :: nx) →
      wpAny (model prog w) A (assign target env v) (fun _ s₂ => wpAny (model prog w) A (execs body env) (ForEnd h₀ L s I io (J (i + 1)) Q) (fun _ _ => False) s₂) (fun _ _ => False) { s with heap := h, toks := tk })
    (done : ∀ m₁ nx h tk, J its.size m₁ nx → Fr h₀ L h m₁ → News h₀ L h nx → Q .next { s with heap := h, toks := tk })
    (ht : ∀ I v, letOwnedTupleGo target (.ref I) v = pure () := by intro _ _; rfl) :
    wpAny (model prog w) A (pyIter (.ref l)) (fun it s₂ =>
      codeAny (model prog w) A (.forLoop target it body [] env) (fun r s' => match r with | .ok f => Q f s' | .error e => cameBackBy (model prog w) A env (fun _ _ => False) e s') s₂) (fun _ _ => False) s := by
  have hol : s.heap.get? l = some (tupT its nn) := (N _ (hJl _ _ _ h0)).1
  have hls : s.heap.IsTuple l its := ⟨_, hol, rfl, nn, rfl⟩
  refine wpAny_pyIter_tuple hls ?_
  obtain ⟨oL, es, ep, hL, hr⟩ := F.ns
  refine codeAny_forLoop (fun k s' => ∃ i h tk m₁ nx io, k = its.size - i ∧ i ≤ its.size ∧ s' = { s with heap := h, toks := tk } ∧ Fr h₀ L h m₁ ∧ News h₀ L h ((s.heap.objs.size, io) :: nx) ∧ h.IsTupleIter s.heap.objs.size l i ∧ (∀ p ∈ nx, p.1 ≠ s.heap.objs.size) ∧ J i m₁ nx) ?_ its.size ?_ (ht _)
  · rintro k s' ⟨i, h, tk, m₁, nx, io, rfl, hi, rfl, F₁, N₁, hit, hne, hJ⟩
    have hl₁ := (N₁ _ (.tail _ (hJl _ _ _ hJ))).1
    have hil : h.IsTuple l its := ⟨_, hl₁, rfl, nn, rfl⟩
    obtain ⟨o, ho, hoc, hod⟩ := id hit
    have hI := (N₁ _ (.head _)).2
    cases hv : its[i]? with
    | none =>
      have hsz : i = its.size := Nat.le_antisymm hi (by simpa using hv)
      refine wpAny_pyNext_tuple_end hh hit hil hv fun h₂ he => wpAny_execs_nil ?_
      obtain ⟨oL', es', ep', hL', hr'⟩ := F₁.ns
      refine done m₁ nx h₂ tk (hsz ▸ hJ) ⟨⟨oL', es', ep', he _ _ (Ne.symm hI.1) hL', hr'⟩, fun b o e => he _ _ (fun q => ?_) (F₁.keep b o e), F₁.above⟩ fun q hq => ⟨he _ _ (hne q hq) (N₁ q (.tail _ hq)).1, (N₁ q (.tail _ hq)).2⟩
      have := hI.2; rw [← q, e] at this; cases this
    | some v =>
      have hlt : i < its.size := (Array.getElem?_eq_some_iff.mp hv).1
      refine wpAny_pyNext_tuple_item hit hil hv fun h₂ hit₂ hs => ?_
      obtain ⟨o₂, ho₂, hoc₂, hod₂⟩ := id hit₂
      obtain ⟨oL', es', ep', hL', hr'⟩ := F₁.ns
      have F₂ : Fr h₀ L h₂ m₁ := ⟨⟨oL', es', ep', (hs.2 _ (Ne.symm hI.1)).trans hL', hr'⟩, fun b o e => (hs.2 _ (fun q => by have := hI.2; rw [← q, e] at this; cases this)).trans (F₁.keep b o e), F₁.above⟩
      have N₂ : News h₀ L h₂ ((s.heap.objs.size, o₂) :: nx) := fun q hq => by
        rcases List.mem_cons.mp hq with rfl | hq
        · exact ⟨ho₂, hI⟩
        · exact ⟨(hs.2 _ (hne q hq)).trans (N₁ q (.tail _ hq)).1, (N₁ q (.tail _ hq)).2⟩
      refine wpAny_mono (turn i v m₁ nx h₂ tk _ o₂ hv hJ hne F₂ N₂) (fun _ s₂ p => wpAny_mono p (fun f s₃ q => ?_) (fun _ _ x => x.elim)) (fun _ _ x => x.elim)
      have fin : (∃ h' tk' m' nx', s₃ = { s with heap := h', toks := tk' } ∧ Fr h₀ L h' m' ∧ News h₀ L h' ((s.heap.objs.size, o₂) :: nx') ∧ (∀ p ∈ nx', p.1 ≠ s.heap.objs.size) ∧ J (i + 1) m' nx') → ∃ k', k' < its.size - i ∧ ∃ i h tk m₁ nx io, k' = its.size - i ∧ i ≤ its.size ∧ s₃ = { s with heap := h, toks := tk } ∧ Fr h₀ L h m₁ ∧ News h₀ L h ((s.heap.objs.size, io) :: nx) ∧ h.IsTupleIter s.heap.objs.size l i ∧ (∀ p ∈ nx, p.1 ≠ s.heap.objs.size) ∧ J i m₁ nx := by
        rintro ⟨h', tk', m', nx', rfl, F', N', hne', hJ'⟩
        exact ⟨its.size - (i + 1), by omega, i + 1, h', tk', m', nx', o₂, rfl, hlt, rfl, F', N', ⟨o₂, (N' _ (.head _)).1, hoc₂, hod₂⟩, hne', hJ'⟩
      cases f with
      | ret v => exact q
      | brk => exact q
      | next => exact fin q
      | cont => exact fin q
  · refine ⟨0, _, s.toks, m, news, _, rfl, Nat.zero_le _, rfl, F.push _, N.push F _, ⟨_, Heap.get?_push_size _ rfl, rfl, rfl⟩, fun p hp q => ?_, h0⟩
    exact absurd (Heap.lt_size (N p hp).1) (by rw [q]; exact Nat.lt_irrefl _)

end Mine

-- part LTop
namespace Mine
set_option maxRecDepth 100000
set_option maxHeartbeats 1000000

/-- what the power of two above a number's figures tells -/
structure TopOf (x T : Int) : Prop where
  pos : 1 ≤ T
  le : T ≤ 2 ^ 200
  lo : -T < x
  hi : x < T
  half : T.fdiv 2 ≤ x ∨ T.fdiv 2 ≤ -x
  bit : (decide (x ≠ 0) && (Builtin.bitAnd x (x - 1) == 0)) = decide (T = 2 * x)
  term : x < 256 ↔ x < 0 ∨ T ≤ 256
  nont : 256 ≤ x ↔ 0 < x ∧ 256 < T
  eof : x = 0 ↔ T = 1

theorem natAnd_pred {k : Nat} : (2 ^ k) &&& (2 ^ k - 1) = 0 := by
  rw [Nat.and_two_pow_sub_one_eq_mod]; exact Nat.mod_self _
theorem natAnd_pred_ne {n k : Nat} (h1 : 2 ^ k < n) (h2 : n < 2 ^ (k + 1)) : n &&& (n - 1) ≠ 0 := by
  intro e
  have b1 : n.testBit k = true := by
    rw [Nat.testBit_eq_decide_div_mod_eq, decide_eq_true_eq]
    have : n / 2 ^ k = 1 := by
      apply Nat.div_eq_of_lt_le
      · omega
      · rw [Nat.pow_succ] at h2; omega
    rw [this]
  have b2 : (n - 1).testBit k = true := by
    rw [Nat.testBit_eq_decide_div_mod_eq, decide_eq_true_eq]
    have : (n - 1) / 2 ^ k = 1 := by
      apply Nat.div_eq_of_lt_le
      · omega
      · rw [Nat.pow_succ] at h2; omega
    rw [this]
  have := Nat.testBit_and n (n - 1) k
  rw [e, b1, b2] at this
  simp at this

theorem bit_pow {x : Int} {k : Nat} (h0 : 0 < x) (h1 : 2 ^ k ≤ x) (h2 : x < 2 ^ (k + 1)) : (Builtin.bitAnd x (x - 1) == 0) = decide ((2 : Int) ^ (k + 1) = 2 * x) := by
  obtain ⟨n, rfl⟩ : ∃ n : Nat, x = (n : Int) := ⟨x.toNat, by omega⟩
  have g1 : 2 ^ k ≤ n := by
    have : ((2 ^ k : Nat) : Int) ≤ (n : Int) := by rw [kbt_cast]; exact h1
    exact_mod_cast this
  have g2 : n < 2 ^ (k + 1) := by
    have : (n : Int) < ((2 ^ (k + 1) : Nat) : Int) := by rw [kbt_cast]; exact h2
    exact_mod_cast this
  have e : Builtin.bitAnd (n : Int) ((n : Int) - 1) = ((n &&& (n - 1) : Nat) : Int) := by
    rw [bitAnd_pp (by omega) (by omega)]
    congr 2
    omega
  rw [e]
  by_cases hn : n = 2 ^ k
  · have z : n &&& (n - 1) = 0 := by rw [hn]; exact natAnd_pred
    rw [z]
    have : (2 : Int) ^ (k + 1) = 2 * (n : Int) := by
      rw [hn, kbt_cast, Int.pow_succ, Int.mul_comm]
    rw [decide_eq_true this]
    rfl
  · have z : n &&& (n - 1) ≠ 0 := natAnd_pred_ne (by omega) g2
    have : ¬ (2 : Int) ^ (k + 1) = 2 * (n : Int) := by
      intro e2
      have : (2 : Nat) ^ (k + 1) = 2 * n := by
        have e3 : ((2 ^ (k + 1) : Nat) : Int) = ((2 * n : Nat) : Int) := by rw [kbt_cast, e2]; rfl
        exact_mod_cast e3
      rw [Nat.pow_succ] at this
      omega
    rw [decide_eq_false this]
    rw [beq_eq_false_iff_ne]
    intro h
    exact z (by exact_mod_cast h)

theorem bit_neg {x : Int} (h : x < 0) : (Builtin.bitAnd x (x - 1) == 0) = false := by
  rw [beq_eq_false_iff_ne]
  have h1 : decide (0 ≤ x) = false := decide_eq_false (by omega)
  have h2 : decide (0 ≤ x - 1) = false := decide_eq_false (by omega)
  unfold Builtin.bitAnd
  rw [h1, h2]
  simp only [Builtin.bitNot]
  omega

theorem top_of {x : Int} (h1 : -(2 ^ 200) < x) (h2 : x < 2 ^ 200) : TopOf x (2 ^ Builtin.Int.intBits x) := by
  by_cases h0 : x = 0
  · subst h0
    have e : (2 : Int) ^ Builtin.Int.intBits 0 = 1 := by decide
    rw [e]
    exact ⟨by decide, by decide, by decide, by decide, .inl (by decide), by decide, by decide, by decide, by decide⟩
  · have hb : Builtin.Int.intBits x = Builtin.Int.intBits (x.natAbs : Int) := by
      have a1 : Builtin.Int.intBits x ≤ Builtin.Int.intBits (x.natAbs : Int) := intBits_le_iff.mpr (by
        have := intBits_le_iff.mp (Nat.le_refl (Builtin.Int.intBits (x.natAbs : Int)))
        simpa using this)
      have a2 : Builtin.Int.intBits (x.natAbs : Int) ≤ Builtin.Int.intBits x := intBits_le_iff.mpr (by
        have := intBits_le_iff.mp (Nat.le_refl (Builtin.Int.intBits x))
        simpa using this)
      omega
    obtain ⟨k, hk, lo, hi⟩ := range_intBits (q := (x.natAbs : Int)) (by omega)
    rw [hb, hk]
    have hp := pow2_pos k
    have e2 : (2 : Int) ^ (k + 1) = 2 * 2 ^ k := by rw [Int.pow_succ, Int.mul_comm]
    have hk200 : k + 1 ≤ 200 := by
      refine Nat.lt_of_not_le fun h => ?_
      have := pow_le_pow (show 200 ≤ k by omega)
      omega
    have h200 := pow_le_pow hk200
    have h8 : (2 : Int) ^ k ≤ 2 ^ 7 ∨ (2 : Int) ^ 8 ≤ 2 ^ k := by
      rcases Nat.lt_or_ge k 8 with h | h
      · exact .inl (pow_le_pow (by omega))
      · exact .inr (pow_le_pow h)
    have ebit : (decide (x ≠ 0) && (Builtin.bitAnd x (x - 1) == 0)) = decide ((2 : Int) ^ (k + 1) = 2 * x) := by
      rw [decide_eq_true h0, Bool.true_and]
      rcases Int.lt_trichotomy x 0 with h | h | h
      · rw [bit_neg h, decide_eq_false (by omega)]
      · exact absurd h h0
      · exact bit_pow h (by omega) (by omega)
    have efd : ((2 : Int) ^ (k + 1)).fdiv 2 = 2 ^ k := by
      rw [Int.fdiv_eq_ediv_of_nonneg _ (by decide)]
      omega
    refine ⟨by omega, h200, by omega, by omega, ?_, ebit, ?_, ?_, ?_⟩
    · rw [efd]; omega
    · omega
    · omega
    · omega
end Mine

-- part LLoop1
namespace Mine
set_option maxRecDepth 100000
set_option maxHeartbeats 4000000
variable {prog : Program} {w : World} {A A₀ : Around} {E : Value → Shared → Prop} {s : Shared} {L : Addr} {h₀ base : Heap} {m mg mb : Str → Option Value} {news : List (Addr × Obj)} {p : Program} {loose : List Str} {mean : ExcName → Option Value} {Q : Value → Shared → Prop} {env : Env} {outer : List Env} {d : Nat}
theorem fill5 : (PySem.Challenge.rw_rs0010_01, hd.heap_39) = (PySem.Challenge.rw_rs0010_01, hd.heap_39) := by w_top off; k_fill; rfl
local macro_rules | `(tactic| k_mem) => `(tactic| assumption)
local macro_rules | `(tactic| ke_room) => `(tactic| (show (_ : Nat) + 64 < cLine; omega))

def LawEnd (h₀ : Heap) (L : Addr) (s : Shared) (f : Flow) (s' : Shared) : Prop := f = .ret (.bool true) ∧ ∃ h' tk m, s' = { s with heap := h', toks := tk } ∧ Fr h₀ L h' m

/-- the share's test -/
theorem share_bit {x : Int} (h1 : 1 ≤ x) (h2 : x ≤ 253) : ((decide (x ≠ 0) && (Builtin.bitAnd x (x - 1) == 0)) = true) ↔ Builtin.Int.intBits ((256 : Int).fdiv x) = Builtin.Int.intBits ((511 : Int).fdiv x) := by
  have key : ∀ k : Fin 254, 1 ≤ (k : Nat) → (((decide (((k : Nat) : Int) ≠ 0) && (Builtin.bitAnd ((k : Nat) : Int) (((k : Nat) : Int) - 1) == 0)) = true) ↔ Builtin.Int.intBits ((256 : Int).fdiv ((k : Nat) : Int)) = Builtin.Int.intBits ((511 : Int).fdiv ((k : Nat) : Int))) := by decide +kernel
  have := key ⟨x.toNat, by omega⟩ (by show 1 ≤ x.toNat; omega)
  simpa only [Int.toNat_of_nonneg (show 0 ≤ x by omega)] using this

theorem law_loop1 {fd : FuncData} {oc : Value} {od : Option Addr} {sl : Array (Option Value)} {body : List Stmt} {q : Str} {fa : Addr} {cdv : Value}
    (hK : (hd.heap_39 w.params).lookup 64 = some ⟨oc, od, .func fd, sl⟩) (hbody : fd.body = .stmts body)
    (C : Cx w A A₀ base h₀ outer (envOfC q fd.scope L fa cdv) L p loose mean mg mb (d + 2))
    {pa p1 p2 p3 p4 : Addr} {a b c : Int} {t1 t2 t3 t4 t5 t6 t7 t8 t9 t10 t11 t12 : Tok} {n : Nat} {num lg : Int} {tn tlg : Tok}
    (F : Fr h₀ L s.heap m) (hmp : m (Str.ofString "parts") = some (.ref pa)) (hmn : m (Str.ofString "number") = some (.int num tn)) (hml : m (Str.ofString "longer") = some (.int lg tlg))
    (N : News h₀ L s.heap (partsL pa p1 p2 p3 p4 n a b c t1 t2 t3 t4 t5 t6 t7 t8 t9 t10 t11 t12 []))
    (ha : 1 ≤ a ∧ a ≤ 80) (hb : 1 ≤ b ∧ b ≤ 80) (hc : 1 ≤ c ∧ c ≤ 80)
    (rest : ∀ h tk m', Fr h₀ L h m' → m' (Str.ofString "number") = some (.int num tn) → m' (Str.ofString "longer") = some (.int lg tlg) →
      wpAny (model prog w) A (execs (body.drop 11) (envOfC q fd.scope L fa cdv)) (LawEnd h₀ L s) (fun _ _ => False) { s with heap := h, toks := tk }) :
    wpAny (model prog w) A (execs (body.drop 10) (envOfC q fd.scope L fa cdv)) (LawEnd h₀ L s) (fun _ _ => False) s := by
  with_unfolding_all cases hK
  cases hbody
  obtain ⟨A1, A2, A3, A4, A5⟩ := A
  have C' := C
  obtain ⟨B, X, T, hA, hf, hke, room, hh, hu⟩ := C'
  dsimp only at hA hh room hu
  subst hA hh
  dsimp only [List.drop] at rest ⊢
  have em : ∀ (m : Str → Option Value), m (Str.ofString "parts") = some (.ref pa) → m (Str.ofString "number") = some (.int num tn) → m (Str.ofString "longer") = some (.int lg tlg) →
      m = fun z => if z = Str.ofString "parts" then some (.ref pa) else if z = Str.ofString "number" then some (.int num tn) else if z = Str.ofString "longer" then some (.int lg tlg) else m z := by
    intro m q1 q2 q3
    funext z
    by_cases h1 : z = Str.ofString "parts"
    · rw [if_pos h1, h1, q1]
    · by_cases h2 : z = Str.ofString "number"
      · rw [if_neg h1, if_pos h2, h2, q2]
      · by_cases h3 : z = Str.ofString "longer"
        · rw [if_neg h1, if_neg h2, if_pos h3, h3, q3]
        · rw [if_neg h1, if_neg h2, if_neg h3]
  have F' := F
  rw [em m hmp hmn hml] at F'
  walk1
  refine wpAny_For ?_
  walk1
  clear F
  refine forL2 (its := #[.ref p1, .ref p2, .ref p3, .ref p4]) (nn := n) (fun i m₁ nx => m₁ (Str.ofString "parts") = some (.ref pa) ∧ m₁ (Str.ofString "number") = some (.int num tn) ∧ m₁ (Str.ofString "longer") = some (.int lg tlg) ∧
      nx = partsL pa p1 p2 p3 p4 n a b c t1 t2 t3 t4 t5 t6 t7 t8 t9 t10 t11 t12 []) rfl F' N ⟨rfl, rfl, rfl, rfl⟩ ?_ ?_ ?_ ?_
  · rintro i m₁ nx ⟨-, -, -, rfl⟩
    exact .head _
  · rintro i v m₁ nx h3 tk3 I io hv ⟨hm1, hm2, hm3, rfl⟩ hne F3 N3
    rw [em m₁ hm1 hm2 hm3] at F3
    have hpick : ∃ (pp : Addr) (y f sh : Int) (ty tf tsh : Tok), v = .ref pp ∧ (pp, tupOf #[.int y ty, .int f tf, .int sh tsh]) ∈ partsL pa p1 p2 p3 p4 n a b c t1 t2 t3 t4 t5 t6 t7 t8 t9 t10 t11 t12 [] ∧ 1 ≤ sh ∧ sh ≤ 253 := by
      match i, hv with
      | 0, hv => exact ⟨p1, _, _, a, _, _, _, (Option.some.inj hv).symm, .tail _ (.head _), by omega, by omega⟩
      | 1, hv => exact ⟨p2, _, _, b, _, _, _, (Option.some.inj hv).symm, .tail _ (.tail _ (.head _)), by omega, by omega⟩
      | 2, hv => exact ⟨p3, _, _, c, _, _, _, (Option.some.inj hv).symm, .tail _ (.tail _ (.tail _ (.head _))), by omega, by omega⟩
      | 3, hv => exact ⟨p4, _, _, 256 - a - b - c, _, _, _, (Option.some.inj hv).symm, .tail _ (.tail _ (.tail _ (.tail _ (.head _)))), by omega, by omega⟩
      | (i + 4), hv => exact absurd hv (by simp)
    obtain ⟨pp, y, f, sh, ty, tf, tsh, rfl, hpp, hs1, hs2⟩ := hpick
    obtain ⟨nx, hnx⟩ : ∃ nx, nx = ((I, io) :: partsL pa p1 p2 p3 p4 n a b c t1 t2 t3 t4 t5 t6 t7 t8 t9 t10 t11 t12 []) := ⟨_, rfl⟩
    rw [← hnx] at N3
    have hpp' : (pp, tupOf #[.int y ty, .int f tf, .int sh tsh]) ∈ nx := by rw [hnx]; exact .tail _ hpp
    clear N
    repeat' (first | walk1 | (dsimp only; walk1))
    refine call_sb C (by assumption) (by assumption) ?_
    intro v h4 tk4 hv4 F4 N4
    clear hv
    repeat' (first | walk1 | (dsimp only; walk1))
    obtain ⟨k1, hk1⟩ : ∃ k1, (Builtin.Int.intBits ((256 : Int).fdiv sh) : Int) - 1 = k1 := ⟨_, rfl⟩
    obtain ⟨k2, hk2⟩ : ∃ k2, (Builtin.Int.intBits ((511 : Int).fdiv sh) : Int) - 1 = k2 := ⟨_, rfl⟩
    have hkey : v = decide (k1 = k2) := by
      have := share_bit hs1 hs2
      rw [← hv4] at this
      by_cases hc : k1 = k2
      · rw [decide_eq_true hc]; exact this.mpr (by omega)
      · rw [decide_eq_false hc]
        cases v with
        | false => rfl
        | true => exact absurd (this.mp rfl) (by omega)
    clear hv4
    refine call_hb C (by assumption) (by assumption) hk1 ?_
    intro h5 tk5 t5' F5 N5
    repeat' (first | walk1 | (dsimp only; walk1))
    refine call_hb C (by assumption) (by assumption) hk2 ?_
    intro h6 tk6 t6' F6 N6
    repeat' (first | walk1 | (dsimp only; walk1))
    · rename_i hbad
      exact absurd hbad (by rw [hkey]; by_cases hc : k1 = k2 <;> simp [hc])
    · refine ⟨_, _, _, partsL pa p1 p2 p3 p4 n a b c t1 t2 t3 t4 t5 t6 t7 t8 t9 t10 t11 t12 [], rfl, F6, ?_, hne, rfl, rfl, rfl, rfl⟩
      rw [← hnx]; exact N6
  · rintro m₁ nx h3 tk3 ⟨hm1, hm2, hm3, rfl⟩ F3 N3
    exact rest _ _ _ F3 hm2 hm3
  · intro i v hv
    match i, hv with
    | 0, hv => exact ⟨_, (Option.some.inj hv).symm⟩
    | 1, hv => exact ⟨_, (Option.some.inj hv).symm⟩
    | 2, hv => exact ⟨_, (Option.some.inj hv).symm⟩
    | 3, hv => exact ⟨_, (Option.some.inj hv).symm⟩
    | (i + 4), hv => exact absurd hv (by simp)
end Mine

-- part LLoop2
namespace Mine
set_option maxRecDepth 100000
set_option maxHeartbeats 4000000
variable {prog : Program} {w : World} {A A₀ : Around} {E : Value → Shared → Prop} {s : Shared} {L : Addr} {h₀ base : Heap} {m mg mb : Str → Option Value} {news : List (Addr × Obj)} {p : Program} {loose : List Str} {mean : ExcName → Option Value} {Q : Value → Shared → Prop} {env : Env} {outer : List Env} {d : Nat}
theorem fill6 : (PySem.Challenge.rw_rs0010_01, hd.heap_39) = (PySem.Challenge.rw_rs0010_01, hd.heap_39) := by w_top off; k_fill; rfl
local macro_rules | `(tactic| k_mem) => `(tactic| assumption)
local macro_rules | `(tactic| ke_room) => `(tactic| (show (_ : Nat) + 64 < cLine; omega))

theorem pack_tup {h : Heap} {D : Addr} {its : Array Value} (P : Value → Prop) (N : News h₀ L h [(D, tupT its 0)]) (hP : ∀ (i : Nat) (v : Value), its[i]? = some v → P v) :
    ∃ its', News h₀ L h [(D, tupT its' 0)] ∧ ∀ (i : Nat) (v : Value), its'[i]? = some v → P v := ⟨its, N, hP⟩

theorem bne_no {p q : Prop} [Decidable p] [Decidable q] (h : p ↔ q) (hb : (decide p != decide q) = true) : False := by
  have e : decide p = decide q := decide_eq_decide.mpr h
  rw [e] at hb
  simp at hb

theorem law_loop2 {fd : FuncData} {oc : Value} {od : Option Addr} {sl : Array (Option Value)} {body : List Stmt} {q : Str} {fa : Addr} {cdv : Value}
    (hK : (hd.heap_39 w.params).lookup 64 = some ⟨oc, od, .func fd, sl⟩) (hbody : fd.body = .stmts body)
    (C : Cx w A A₀ base h₀ outer (envOfC q fd.scope L fa cdv) L p loose mean mg mb (d + 2))
    {num lg : Int} {tn tlg : Tok}
    (F : Fr h₀ L s.heap m) (hmn : m (Str.ofString "number") = some (.int num tn)) (hml : m (Str.ofString "longer") = some (.int lg tlg))
    (hl0 : 256 ≤ lg) (hl1 : lg < 2 ^ 200) :
    wpAny (model prog w) A (execs (body.drop 11) (envOfC q fd.scope L fa cdv)) (LawEnd h₀ L s) (fun _ _ => False) s := by
  with_unfolding_all cases hK
  cases hbody
  obtain ⟨A1, A2, A3, A4, A5⟩ := A
  have C' := C
  obtain ⟨B, X, T, hA, hf, hke, room, hh, hu⟩ := C'
  dsimp only at hA hh room hu
  subst hA hh
  dsimp only [List.drop]
  have em : ∀ (m : Str → Option Value), m (Str.ofString "number") = some (.int num tn) → m (Str.ofString "longer") = some (.int lg tlg) →
      m = fun z => if z = Str.ofString "number" then some (.int num tn) else if z = Str.ofString "longer" then some (.int lg tlg) else m z := by
    intro m q2 q3
    funext z
    by_cases h2 : z = Str.ofString "number"
    · rw [if_pos h2, h2, q2]
    · by_cases h3 : z = Str.ofString "longer"
      · rw [if_neg h2, if_pos h3, h3, q3]
      · rw [if_neg h2, if_neg h3]
  have F' := F
  rw [em m hmn hml] at F'
  have N : News h₀ L s.heap [] := fun _ h => nomatch h
  walk1
  refine wpAny_For ?_
  iterate 13 (first | (dsimp only; walk1) | walk1)
  have e1 : num.fmod 1024 = num % 1024 := Int.fmod_eq_emod_of_nonneg _ (by decide)
  rw [e1]
  have e10 : 0 ≤ num % 1024 ∧ num % 1024 < 1024 := by omega
  generalize num % 1024 = r1 at *
  iterate 9 (first | (dsimp only; walk1) | walk1)
  have e2 : num.fmod 100 = num % 100 := Int.fmod_eq_emod_of_nonneg _ (by decide)
  rw [e2]
  have e20 : 0 ≤ num % 100 ∧ num % 100 < 100 := by omega
  generalize num % 100 = r2 at *
  dsimp only
  walk1
  iterate 7 (first | (dsimp only; walk1) | walk1)
  dsimp only
  walk1
  rw [e2]
  clear e1 e2 em
  iterate 5 (first | (dsimp only; walk1) | walk1)
  dsimp only
  rename_i D h2 F2 N2 _
  have hp1 := pow2_pos r2.toNat
  have hp2 : (2 : Int) ^ r2.toNat ≤ 2 ^ 100 := pow_le_pow (by omega)
  generalize (2 : Int) ^ r2.toNat = pw at *
  obtain ⟨its, N3, hits⟩ := pack_tup (fun v => ∃ (x : Int) (tx : Tok), v = .int x tx ∧ -(2 ^ 200) < x ∧ x < 2 ^ 200) N2 (by
    intro i v hv
    match i, hv with
    | 0, hv => exact ⟨_, _, (Option.some.inj hv).symm, by omega, by omega⟩
    | 1, hv => exact ⟨_, _, (Option.some.inj hv).symm, by omega, by omega⟩
    | 2, hv => exact ⟨_, _, (Option.some.inj hv).symm, by omega, by omega⟩
    | 3, hv => exact ⟨_, _, (Option.some.inj hv).symm, by omega, by omega⟩
    | 4, hv => exact ⟨_, _, (Option.some.inj hv).symm, by omega, by omega⟩
    | (i + 5), hv => exact absurd hv (by simp))
  clear N2 e10 e20 hp1 hp2 pw r1 r2
  refine forT (its := its) (nn := 0) (fun i m₁ nx => nx = [(D, tupT its 0)]) rfl F2 N3 rfl ?_ ?_ ?_
  · rintro i m₁ nx rfl
    exact .head _
  · rintro i v m₁ nx h3 tk3 I io hv rfl hne F3 N3
    obtain ⟨x, tx, rfl, hx1, hx2⟩ := hits i v hv
    clear hv hits
    obtain ⟨nx, hnx⟩ : ∃ nx, nx = ((I, io) :: [(D, tupT its 0)]) := ⟨_, rfl⟩
    rw [← hnx] at N3
    repeat' (first | (dsimp only; walk1) | walk1)
    obtain ⟨k, hk⟩ : ∃ k, (Builtin.Int.intBits x : Int) - 1 = k := ⟨_, rfl⟩
    have hT := top_of hx1 hx2
    have hk0 : 0 ≤ k + 1 := by omega
    have hk1 : k + 1 ≤ 200 := by
      have : Builtin.Int.intBits x ≤ 200 := intBits_le_iff.mpr (by
        have : (x.natAbs : Int) < ((2 ^ 200 : Nat) : Int) := by
          rw [kbt_cast]; omega
        exact_mod_cast this)
      omega
    have hke2 : (k + 1).toNat = Builtin.Int.intBits x := by omega
    rw [← hke2] at hT
    refine call_hb C (by assumption) (by assumption) hk ?_
    intro h4 tk4 t4' F4 N4
    clear hx1 hx2
    iterate 3 (first | (dsimp only; walk1) | walk1)
    dsimp only
    generalize (2 : Int) ^ (k + 1).toNat = T at *
    have hT1 := hT.pos
    repeat' (first | (dsimp only; walk1) | walk1)
    refine call_hb C (by assumption) (by assumption) hk ?_
    intro h5 tk5 t5' F5 N5
    have hTl := hT.lo
    have hTh := hT.hi
    have hThf := hT.half
    repeat' (first | (dsimp only; walk1) | walk1)
    refine call_sb C (by assumption) (by assumption) ?_
    intro v h6 tk6 hv6 F6 N6
    rw [hT.bit] at hv6
    repeat' (first | (dsimp only; walk1) | walk1)
    · rename_i hbad
      exact absurd hbad (by rw [hv6]; by_cases hc : T = 2 * x <;> simp [hc])
    rename_i hgood _
    clear hgood hv6
    have hterm := hT.term
    have hnont := hT.nont
    have heof := hT.eof
    refine call_term C (by assumption) (by assumption) ?_
    intro h7 tk7 F7 N7
    repeat' (first | (dsimp only; walk1) | walk1)
    · rename_i hbad
      exact (bne_no (by omega) hbad).elim
    rotate_left
    · rename_i hbad
      exact (bne_no (by omega) hbad).elim
    all_goals
      rename_i hgood _
      clear hgood
      refine call_nonterm C (by assumption) (by assumption) ?_
      intro h8 tk8 F8 N8
      repeat' (first | (dsimp only; walk1) | walk1)
    all_goals first
      | (exfalso; omega)
      | (refine (bne_no ?_ (by assumption)).elim; omega)
      | (refine call_eof C (by assumption) (by assumption) ?_
         intro h9 tk9 F9 N9
         repeat' (first | (dsimp only; walk1) | walk1))
    all_goals first
      | (refine (bne_no ?_ (by assumption)).elim; omega)
      | (rename_i F9 N9 _ _
         rw [hnx] at N9
         exact ⟨_, _, _, _, rfl, F9, N9, hne, rfl⟩)
  · rintro m₁ nx h3 tk3 rfl F3 N3
    iterate 3 (first | (dsimp only; walk1) | walk1)
    exact ⟨rfl, _, _, _, rfl, F3⟩
end Mine

-- part LTail
namespace Mine
set_option maxRecDepth 100000
set_option maxHeartbeats 4000000
variable {prog : Program} {w : World} {A A₀ : Around} {E : Value → Shared → Prop} {s : Shared} {L : Addr} {h₀ base : Heap} {m mg mb : Str → Option Value} {news : List (Addr × Obj)} {p : Program} {loose : List Str} {mean : ExcName → Option Value} {Q : Value → Shared → Prop} {env : Env} {outer : List Env} {d : Nat}
theorem fill4 : (PySem.Challenge.rw_rs0010_01, hd.heap_39) = (PySem.Challenge.rw_rs0010_01, hd.heap_39) := by w_top off; k_fill; rfl
local macro_rules | `(tactic| k_mem) => `(tactic| assumption)
local macro_rules | `(tactic| ke_room) => `(tactic| (show (_ : Nat) + 64 < cLine; omega))

theorem ne_rows {tA tB r1 r2 : Addr} {x : Int} {t1 t2 : Tok} {v1 v2 : List Value} {ms : List Int} {n1 n2 : Nat} (N : News h₀ L s.heap news) (hA : (tA, tupOf #[.ref r1, .int x t1]) ∈ news) (hB : (tB, tupOf #[.ref r2, .int x t2]) ∈ news)
    (h1 : (r1, listOf v1.toArray n1) ∈ news) (h2 : (r2, listOf v2.toArray n2) ∈ news) (i1 : IntsAre v1 ms) (i2 : IntsAre v2 ms) (hu : A.units + 64 < cLine) (h : Q (.bool false) s) :
    wpAny (model prog w) A (compareOp .NotEq (.ref tA) (.ref tB)) Q E s := by
  have ra : Reads s.heap (.ref tA) (.tuple [.list (ms.map PyData.int), .int x]) _ := .tuple (N.get hA) rfl rfl (.cons (reads_newData ⟨_, N.get h1, rfl, n1, rfl⟩ (ke_carried i1)) (.cons (.int _ _) .nil))
  have rb : Reads s.heap (.ref tB) (.tuple [.list (ms.map PyData.int), .int x]) _ := .tuple (N.get hB) rfl rfl (.cons (reads_newData ⟨_, N.get h2, rfl, n2, rfl⟩ (ke_carried i2)) (.cons (.int _ _) .nil))
  have hsh : SeqAt.shaped (.tuple [.list (ms.map PyData.int), .int x]) = true := by
    simp [SeqAt.shaped, PyData.canLay0, PyData.canLayAll0, PyData.depth, PyData.depthAll, ke_canLayAll0, ke_depthAll]
  refine ne_dataH ra rb hsh hsh hu ?_
  have hcl : PyData.canLay0 (.tuple [.list (ms.map PyData.int), .int x]) = true := (Bool.and_eq_true_iff.mp hsh).1
  rw [SeqAt.eqv_refl _ hcl]
  exact h

theorem parts_sub {pa p1 p2 p3 p4 : Addr} {n : Nat} {a b c : Int} {t1 t2 t3 t4 t5 t6 t7 t8 t9 t10 t11 t12 : Tok} {pre r r' : List (Addr × Obj)} (h : ∀ q ∈ r', q ∈ pre ∨ q ∈ r) :
    ∀ q ∈ partsL pa p1 p2 p3 p4 n a b c t1 t2 t3 t4 t5 t6 t7 t8 t9 t10 t11 t12 r', q ∈ pre ++ partsL pa p1 p2 p3 p4 n a b c t1 t2 t3 t4 t5 t6 t7 t8 t9 t10 t11 t12 r := by
  intro q hq
  have hq' : q ∈ partsL pa p1 p2 p3 p4 n a b c t1 t2 t3 t4 t5 t6 t7 t8 t9 t10 t11 t12 [] ++ r' := hq
  show q ∈ pre ++ (partsL pa p1 p2 p3 p4 n a b c t1 t2 t3 t4 t5 t6 t7 t8 t9 t10 t11 t12 [] ++ r)
  rcases List.mem_append.mp hq' with hq | hq
  · exact List.mem_append_right _ (List.mem_append_left _ hq)
  · rcases h q hq with h | h
    · exact List.mem_append_left _ h
    · exact List.mem_append_right _ (List.mem_append_right _ h)

theorem law_tail {fd : FuncData} {oc : Value} {od : Option Addr} {sl : Array (Option Value)} {body : List Stmt} {q : Str} {fa : Addr} {cdv : Value}
    (hK : (hd.heap_39 w.params).lookup 64 = some ⟨oc, od, .func fd, sl⟩) (hbody : fd.body = .stmts body)
    (C : Cx w A A₀ base h₀ outer (envOfC q fd.scope L fa cdv) L p loose mean mg mb (d + 2))
    {pa p1 p2 p3 p4 ma : Addr} {a b c : Int} {t1 t2 t3 t4 t5 t6 t7 t8 t9 t10 t11 t12 : Tok} {n mn : Nat} {num : Int} {tn : Tok} {mv : List Value} {ms : List Int} {u : Str → Option Value}
    (F : Fr h₀ L s.heap (fun z => if z = Str.ofString "parts" then some (.ref pa) else if z = Str.ofString "message" then some (.ref ma) else if z = Str.ofString "number" then some (.int num tn) else u z))
    (N : News h₀ L s.heap (partsL pa p1 p2 p3 p4 n a b c t1 t2 t3 t4 t5 t6 t7 t8 t9 t10 t11 t12 [(ma, listOf mv.toArray mn)]))
    (hI : IntsAre mv ms) (hm0 : 0 ∉ ms.dropLast) (hmz : ∃ r, ms = r ++ [0]) (hml : ms.length ≤ 7) (hmv : ∀ y ∈ ms, y = -1 ∨ y = 1 ∨ y = 256 ∨ y = 0)
    (ha : 1 ≤ a ∧ a ≤ 80) (hb : 1 ≤ b ∧ b ≤ 80) (hc : 1 ≤ c ∧ c ≤ 80) (hn0 : 256 ≤ num) (hn1 : num < 2 ^ 33) :
    wpAny (model prog w) A (execs (body.drop 6) (envOfC q fd.scope L fa cdv)) (LawEnd h₀ L s) (fun _ _ => False) s := by
  with_unfolding_all cases hK
  cases hbody
  obtain ⟨A1, A2, A3, A4, A5⟩ := A
  have C' := C
  obtain ⟨B, X, T, hA, hf, hke, room, hh, hu⟩ := C'
  dsimp only at hA hh room hu
  subst hA hh
  dsimp only [List.drop]
  have hWm := WOk_of (a := a) (b := b) (c := c) ha hb hc (xs := ms.reverse) (V := num) (j := 33) (by simpa using hmv) hn0 hn1 (by simp; omega)
  have h33 : (2 : Int) ^ 33 ≤ 2 ^ 200 := pow_le_pow (by decide)
  repeat' (first | walk1 | (dsimp only; walk1))
  refine call_rd C F N ha hb hc hn0 (by omega) ?_
  intro row rvs rn left tl rA tA h1 tk1 hIr hS F1 N1
  repeat' (first | walk1 | (dsimp only; walk1))
  rename_i h2 F2 N2
  have Nw : News h₀ L h2 (partsL pa p1 p2 p3 p4 n a b c t1 t2 t3 t4 t5 t6 t7 t8 t9 t10 t11 t12 [(rA, listOf rvs.toArray rn), (ma, listOf mv.toArray mn)]) := News.sub N2 (parts_sub (pre := [(tA, tupOf #[.ref rA, .int left tl]), (rA, listOf rvs.toArray rn)]) (by simp))
  refine call_wr C F2 Nw hIr (by rw [hIr.length]; have := hS.len; omega) ha hb hc hS.ok ?_
  intro h3 tk3 t3' F3 N3
  rw [hS.enc]
  repeat' (first | walk1 | (dsimp only; walk1))
  · rename_i hne
    exact absurd rfl hne
  have Nw2 : News h₀ L h3 (partsL pa p1 p2 p3 p4 n a b c t1 t2 t3 t4 t5 t6 t7 t8 t9 t10 t11 t12 [(ma, listOf mv.toArray mn), (ma, listOf mv.toArray mn)]) := News.sub N3 (parts_sub (pre := []) (by simp))
  refine call_wr C F3 Nw2 hI (by rw [hI.length]; omega) ha hb hc hWm.1 ?_
  intro h4 tk4 t4' F4 N4
  obtain ⟨hWok, hlg0, hlg1⟩ := hWm
  obtain ⟨lg, hlg⟩ : ∃ lg, lg = ms.reverse.foldl (wstep a b c) num := ⟨_, rfl⟩
  rw [← hlg] at hlg0 hlg1 ⊢
  repeat' (first | walk1 | (dsimp only; walk1))
  rename_i h5 F5 N5
  have Nr : News h₀ L h5 (partsL pa p1 p2 p3 p4 n a b c t1 t2 t3 t4 t5 t6 t7 t8 t9 t10 t11 t12 [(ma, listOf mv.toArray mn)]) := News.sub N5 (parts_sub (pre := []) (by simp))
  refine call_rd C F5 Nr ha hb hc hlg0 hlg1 ?_
  intro row2 rvs2 rn2 left2 tl2 rA2 tA2 h6 tk6 hIr2 hS2 F6 N6
  rw [hlg] at hS2
  obtain ⟨rfl, rfl⟩ := read_back ha hb hc hm0 hmz hWok hS2
  iterate 7 (first | walk1 | (dsimp only; walk1))
  rename_i tB h7 F7 N7 l7
  refine ne_rows N7 (tA := tA2) (tB := tB) (r1 := rA2) (r2 := ma) (by k_mem) (by k_mem) (by k_mem) (by k_mem) hIr2 hI (by dsimp only; omega) ?_
  iterate 4 (first | walk1 | (dsimp only; walk1))
  dsimp only
  have Np : News h₀ L h7 (partsL pa p1 p2 p3 p4 n a b c t1 t2 t3 t4 t5 t6 t7 t8 t9 t10 t11 t12 []) := News.sub N7 (parts_sub (pre := [_, _, _]) (by simp))
  refine wpAny_mono (law_loop1 rfl rfl C (s := { s with heap := h7, toks := _ }) F7 rfl rfl rfl Np ha hb hc ?_) (fun f s' q => ?_) (fun _ _ x => x)
  · intro h8 tk8 m' F8 q1 q2
    exact law_loop2 rfl rfl C (s := { s with heap := h8, toks := tk8 }) F8 q1 q2 hlg0 hlg1
  · obtain ⟨rfl, h8, tk8, m', rfl, F8⟩ := q
    exact ⟨rfl, _, _, _, rfl, F8⟩
end Mine

-- part LRest
namespace Mine
set_option maxRecDepth 100000
set_option maxHeartbeats 1000000
open LCg LCt
section
variable {prog : Program} {w : World} {A : Around} {s : Shared} {h₀ : Heap} {L : Addr} {m : Str → Option Value} {env : Env} {ct elt : Expr} {x : Str} {scope : Scope} {cl : List (Str × Addr)} {S : List (Addr × Obj) → Prop} {P : Nat → Value → Prop} {Fin : List Value → List (Addr × Obj) → Prop} {news : List (Addr × Obj)} {n : Nat}

theorem compEnd_mono {I : Addr} {oI : Obj} {C : Addr} {oC : Obj} {D : Addr} {oD : Obj} {s₁ s' : Shared} {y : Value} {r r' : Value → List (Addr × Obj) → Prop} (h : ∀ nw, r y nw → r' y nw) (e : CompEnd h₀ L m s₁ I oI C oC D oD S r y s') : CompEnd h₀ L m s₁ I oI C oC D oD S r' y s' := by
  obtain ⟨h', tk', nw, e, F, N, off, hS, hr⟩ := e
  exact ⟨h', tk', nw, e, F, N, off, hS, h _ hr⟩

theorem rest_inv (J : Nat → List Value → Prop) (h0 : J 0 [])
    (turn : ∀ i v ys I oI C oC D m₂ h tk (E' : Value → Shared → Prop), i < n → P i v → J i ys → NsObj oC m₂ → m₂ x = some v → Fr h₀ L h m → News h₀ L h ((I, oI) :: (C, oC) :: (D, lst ys) :: news) → Off3 I C D news →
      wpAny (model prog w) A (eval elt (compEnvC scope cl C env)) (CompEnd h₀ L m { s with heap := h, toks := tk } I oI C oC D (lst ys) S (fun y news' => news' = news ∧ J (i + 1) (ys ++ [y]))) E' { s with heap := h, toks := tk })
    (fin : ∀ ys, J n ys → Fin ys news) : CompRest prog w A h₀ L m env elt x scope cl s S P Fin n 0 [] news := by
  have key : ∀ (j i : Nat) (ys : List Value), i + j = n → J i ys → CompRest prog w A h₀ L m env elt x scope cl s S P Fin j i ys news := by
    intro j
    induction j with
    | zero =>
      intro i ys hi hy
      have e : i = n := by omega
      subst e
      exact CompRest.zero (fin ys hy)
    | succ j ih =>
      intro i ys hi hy
      refine CompRest.succ ?_
      intro v I oI C oC D m₂ h tk E' hv hC hx F N off ne
      refine wpAny_mono (turn i v ys I oI C oC D m₂ h tk E' (by omega) hv hy hC hx F N off) (fun y s₂ hq => compEnd_mono ?_ hq) fun _ _ e => e
      rintro nw ⟨rfl, hJ⟩
      exact ih (i + 1) _ (by omega) hJ
  exact key n 0 [] (by omega) h0

theorem restT_inv (J : Nat → List Value → Prop) (h0 : J 0 [])
    (turn : ∀ i v ys I oI C oC D m₂ h tk (E' : Value → Shared → Prop), i < n → P i v → J i ys → NsObj oC m₂ → m₂ x = some v → Fr h₀ L h m → News h₀ L h ((I, oI) :: (C, oC) :: (D, lst ys) :: news) → Off3 I C D news →
      wpAny (model prog w) A (isTrue ct (compEnvC scope cl C env) (eval ct (compEnvC scope cl C env))) (fun ok s' => if ok = true then
        wpAny (model prog w) A (eval elt (compEnvC scope cl C env)) (CompEnd h₀ L m { s with heap := h, toks := tk } I oI C oC D (lst ys) S (fun y news' => news' = news ∧ J (i + 1) (ys ++ [y]))) E' s'
        else CompEnd h₀ L m { s with heap := h, toks := tk } I oI C oC D (lst ys) S (fun _ news' => news' = news ∧ J (i + 1) ys) Value.none s') E' { s with heap := h, toks := tk })
    (fin : ∀ ys, J n ys → Fin ys news) : CompRestT prog w A h₀ L m env ct elt x scope cl s S P Fin n 0 [] news := by
  have key : ∀ (j i : Nat) (ys : List Value), i + j = n → J i ys → CompRestT prog w A h₀ L m env ct elt x scope cl s S P Fin j i ys news := by
    intro j
    induction j with
    | zero =>
      intro i ys hi hy
      have e : i = n := by omega
      subst e
      exact CompRestT.zero (fin ys hy)
    | succ j ih =>
      intro i ys hi hy
      refine CompRestT.succ ?_
      intro v I oI C oC D m₂ h tk E' hv hC hx F N off ne
      refine wpAny_mono (turn i v ys I oI C oC D m₂ h tk E' (by omega) hv hy hC hx F N off) (fun ok s₂ hq => ?_) fun _ _ e => e
      cases ok with
      | true =>
        simp only [if_true] at hq ⊢
        refine wpAny_mono hq (fun y s₃ hq => compEnd_mono ?_ hq) fun _ _ e => e
        rintro nw ⟨rfl, hJ⟩
        exact ih (i + 1) _ (by omega) hJ
      | false =>
        simp only [Bool.false_eq_true, if_false] at hq ⊢
        refine compEnd_mono ?_ hq
        rintro nw ⟨rfl, hJ⟩
        exact ih (i + 1) _ (by omega) hJ
  exact key n 0 [] (by omega) h0
end
end Mine

-- part LHd
namespace Mine
set_option maxRecDepth 100000
set_option maxHeartbeats 4000000
variable {prog : Program} {w : World} {A A₀ : Around} {E : Value → Shared → Prop} {s : Shared} {L : Addr} {h₀ base : Heap} {m mg mb : Str → Option Value} {news : List (Addr × Obj)} {p : Program} {loose : List Str} {mean : ExcName → Option Value} {Q : Value → Shared → Prop} {env : Env} {outer : List Env} {d : Nat}
theorem fill7 : (PySem.Challenge.rw_rs0010_01, hd.heap_39) = (PySem.Challenge.rw_rs0010_01, hd.heap_39) := by w_top off; k_fill; rfl
local macro_rules | `(tactic| k_mem) => `(tactic| assumption)
local macro_rules | `(tactic| ke_room) => `(tactic| (show (_ : Nat) + 64 < cLine; omega))

theorem ints1 {ys : List Value} {d : Int} {ds : List Int} (h : IntsAre ys (d :: ds)) : ∃ t ys', ys = .int d t :: ys' ∧ IntsAre ys' ds := IntsAre.cons_inv h
theorem ints5 {ys : List Value} {ds : List Int} (h : IntsAre ys ds) (hl : ds.length = 5) : ∃ d0 d1 d2 d3 d4 t0 t1 t2 t3 t4, ys = [.int d0 t0, .int d1 t1, .int d2 t2, .int d3 t3, .int d4 t4] := by
  match ds, hl with
  | [d0, d1, d2, d3, d4], _ =>
    obtain ⟨t0, y0, e0, h0⟩ := ints1 h
    obtain ⟨t1, y1, e1, h1⟩ := ints1 h0
    obtain ⟨t2, y2, e2, h2⟩ := ints1 h1
    obtain ⟨t3, y3, e3, h3⟩ := ints1 h2
    obtain ⟨t4, y4, e4, h4⟩ := ints1 h3
    cases h4
    subst e4 e3 e2 e1 e0
    exact ⟨d0, d1, d2, d3, d4, t0, t1, t2, t3, t4, rfl⟩

theorem law_s1 {fd : FuncData} {oc : Value} {od : Option Addr} {sl : Array (Option Value)} {body : List Stmt} {q : Str} {fa : Addr} {cdv : Value}
    (hK : (hd.heap_39 w.params).lookup 64 = some ⟨oc, od, .func fd, sl⟩) (hbody : fd.body = .stmts body)
    (C : Cx w A A₀ base h₀ outer (envOfC q fd.scope L fa cdv) L p loose mean mg mb (d + 2))
    {l : Addr} {vs : List Value} {ns : List Int} {oD oS : Obj}
    (F : Fr h₀ L s.heap m) (hls : h₀.IsList l vs.toArray) (hI : IntsAre vs ns) (hlen : ns.length ≤ 63)
    (N : News h₀ L s.heap [(L + 1 + 1, oD), (L + 1, oS)]) (hoD : oD.data = .cell none) (hoS : oS.data = .cell (some (.ref l)))
    (rest : ∀ h tk D oD' d0 d1 d2 d3 d4 t0 t1 t2 t3 t4, Fr h₀ L h m → News h₀ L h [(D, listOf #[.int d0 t0, .int d1 t1, .int d2 t2, .int d3 t3, .int d4 t4] 5), (L + 1 + 1, oD')] → oD'.data = .cell (some (.ref D)) →
      wpAny (model prog w) A (execs (body.drop 1) (envOfC q fd.scope L fa cdv)) (LawEnd h₀ L s) (fun _ _ => False) { s with heap := h, toks := tk }) :
    wpAny (model prog w) A (execs body (envOfC q fd.scope L fa cdv)) (LawEnd h₀ L s) (fun _ _ => False) s := by
  with_unfolding_all cases hK
  cases hbody
  obtain ⟨A1, A2, A3, A4, A5⟩ := A
  have C' := C
  obtain ⟨B, X, T, hA, hf, hke, room, hh, hu⟩ := C'
  dsimp only at hA hh room hu
  subst hA hh
  dsimp only [List.drop] at rest ⊢
  walk1
  refine wpAny_Assign_Name ?_ (by with_unfolding_all rfl)
  refine comp_enum (m := m) (h₀ := h₀) (L := L) (sz := 5) (nws := [(L + 1 + 1, oD), (L + 1, oS)]) (fun its => ∃ js, IntsAre its.toList js) (fun i ys => ∃ ds, IntsAre ys ds ∧ ds.length = i) rfl (by with_unfolding_all rfl) (by decide) rfl (by decide) rfl rfl (by decide) ?_ (Nat.le_of_ble_eq_true rfl) ⟨[], .nil, rfl⟩ ?_ ?_
  · iterate 18 (first | (dsimp only; walk1) | walk1)
    rename_i D1 h1 F1 N1 _
    exact enum_src ⟨_, _, rfl⟩ F1 N1 ⟨_, .cons _ _ (.cons _ _ (.cons _ _ (.cons _ _ (.cons _ _ .nil))))⟩ rfl
  · rintro l1 its nn i v ys t C1 oC e eo it io D1 h1 tk1 m₂ ⟨js, hjs⟩ hv ⟨ds, hds, hdl⟩ hC hk hah F1 N1
    obtain ⟨j, tj, rfl⟩ : ∃ j tj, v = .int j tj := by
      obtain ⟨j, tj, hj, _⟩ := IntsAre.at hjs i v (by simpa using hv)
      exact ⟨j, tj, hj⟩
    iterate 14 (first | (dsimp only; walk1) | walk1)
    refine slice_list3 (by assumption) (by assumption) (by exact F1.lst hls) (.int _ _) .none (.int _ _) (by decide) ?_ (by with_unfolding_all rfl) (by intro _; with_unfolding_all rfl) (by rw [List.size_toArray, hI.length, sizeLine_eq]; omega)
    intro h2 F2 N2
    dsimp only at N2 ⊢
    walk1
    refine sumK rfl F2 N2 ⟨_, (N2 _ (.head _)).1, rfl, 0, rfl⟩ (IntsAre.pick hI _ _ _) ?_
    intro h3 tk3 t3 F3 N3
    iterate 1 (first | (dsimp only; walk1) | walk1)
    exact ⟨_, _, rfl, F3, News.sub N3 (fun p hp => .tail _ hp), ds ++ [_], hds.append (.cons _ _ .nil), by simp [hdl]⟩
  · rintro l1 its nn D1 h1 tk1 ys ⟨ds, hds, hdl⟩ - F1 N1 hD
    obtain ⟨d0, d1, d2, d3, d4, t0, t1, t2, t3, t4, rfl⟩ := ints5 hds hdl
    walk1
    rename_i h4 o4 F4 N4 hd4
    refine rest h4 tk1 D1 o4 d0 d1 d2 d3 d4 t0 t1 t2 t3 t4 F4 (News.sub N4 ?_) hd4
    intro p hp
    rcases List.mem_cons.mp hp with rfl | hp
    · exact List.Mem.head (a := (D1, LCg.lst [Value.int d0 t0, Value.int d1 t1, Value.int d2 t2, Value.int d3 t3, Value.int d4 t4])) _
    · rw [List.mem_singleton.mp hp]
      exact .tail _ (.tail _ (.head _))
end Mine

-- part LHd2
namespace Mine
set_option maxRecDepth 100000
set_option maxHeartbeats 4000000
variable {prog : Program} {w : World} {A A₀ : Around} {E : Value → Shared → Prop} {s : Shared} {L : Addr} {h₀ base : Heap} {m mg mb : Str → Option Value} {news : List (Addr × Obj)} {p : Program} {loose : List Str} {mean : ExcName → Option Value} {Q : Value → Shared → Prop} {env : Env} {outer : List Env} {d : Nat}
theorem fill8 : (PySem.Challenge.rw_rs0010_01, hd.heap_39) = (PySem.Challenge.rw_rs0010_01, hd.heap_39) := by w_top off; k_fill; rfl
local macro_rules | `(tactic| k_mem) => `(tactic| assumption)
local macro_rules | `(tactic| ke_room) => `(tactic| (show (_ : Nat) + 64 < cLine; omega))

theorem law_s2 {fd : FuncData} {oc : Value} {od : Option Addr} {sl : Array (Option Value)} {body : List Stmt} {q : Str} {fa : Addr} {cdv : Value}
    (hK : (hd.heap_39 w.params).lookup 64 = some ⟨oc, od, .func fd, sl⟩) (hbody : fd.body = .stmts body)
    (C : Cx w A A₀ base h₀ outer (envOfC q fd.scope L fa cdv) L p loose mean mg mb (d + 2))
    {D : Addr} {oD : Obj} {d0 d1 d2 d3 d4 : Int} {t0 t1 t2 t3 t4 : Tok}
    (F : Fr h₀ L s.heap m)
    (N : News h₀ L s.heap [(D, listOf #[.int d0 t0, .int d1 t1, .int d2 t2, .int d3 t3, .int d4 t4] 5), (L + 1 + 1, oD)]) (hoD : oD.data = .cell (some (.ref D)))
    (rest : ∀ h tk num tn, 256 ≤ num → num < 2 ^ 33 → Fr h₀ L h (fun y => if y = Str.ofString "number" then some (.int num tn) else m y) → News h₀ L h [(D, listOf #[.int d0 t0, .int d1 t1, .int d2 t2, .int d3 t3, .int d4 t4] 5), (L + 1 + 1, oD)] →
      wpAny (model prog w) A (execs (body.drop 2) (envOfC q fd.scope L fa cdv)) (LawEnd h₀ L s) (fun _ _ => False) { s with heap := h, toks := tk }) :
    wpAny (model prog w) A (execs (body.drop 1) (envOfC q fd.scope L fa cdv)) (LawEnd h₀ L s) (fun _ _ => False) s := by
  with_unfolding_all cases hK
  cases hbody
  obtain ⟨A1, A2, A3, A4, A5⟩ := A
  have C' := C
  obtain ⟨B, X, T, hA, hf, hke, room, hh, hu⟩ := C'
  dsimp only at hA hh room hu
  subst hA hh
  dsimp only [List.drop] at rest ⊢
  iterate 17 (first | (dsimp only; walk1) | walk1)
  rename_i h1 F1 N1
  refine rest _ _ _ _ ?_ ?_ F1 N1
  · have := Int.fmod_nonneg_of_pos d0 (show (0 : Int) < 2 ^ (32 : Int).toNat by decide)
    show 256 ≤ 256 + d0.fmod (2 ^ (32 : Int).toNat)
    omega
  · have := Int.fmod_lt_of_pos d0 (show (0 : Int) < 2 ^ (32 : Int).toNat by decide)
    have e : (2 : Int) ^ (32 : Int).toNat = 4294967296 := by decide
    show 256 + d0.fmod (2 ^ (32 : Int).toNat) < _
    rw [e] at this ⊢
    omega

theorem law_s3 {fd : FuncData} {oc : Value} {od : Option Addr} {sl : Array (Option Value)} {body : List Stmt} {q : Str} {fa : Addr} {cdv : Value}
    (hK : (hd.heap_39 w.params).lookup 64 = some ⟨oc, od, .func fd, sl⟩) (hbody : fd.body = .stmts body)
    (C : Cx w A A₀ base h₀ outer (envOfC q fd.scope L fa cdv) L p loose mean mg mb (d + 2))
    {D : Addr} {oD : Obj} {d0 d1 d2 d3 d4 : Int} {t0 t1 t2 t3 t4 : Tok}
    (F : Fr h₀ L s.heap m)
    (N : News h₀ L s.heap [(D, listOf #[.int d0 t0, .int d1 t1, .int d2 t2, .int d3 t3, .int d4 t4] 5), (L + 1 + 1, oD)]) (hoD : oD.data = .cell (some (.ref D)))
    (rest : ∀ h tk D2 ys fs, IntsAre ys fs → fs.length = 6 → (∀ f ∈ fs, 0 ≤ f ∧ f ≤ 3) → Fr h₀ L h (fun y => if y = Str.ofString "figures" then some (.ref D2) else m y) → News h₀ L h [(D2, LCg.lst ys), (D, listOf #[.int d0 t0, .int d1 t1, .int d2 t2, .int d3 t3, .int d4 t4] 5), (L + 1 + 1, oD)] →
      wpAny (model prog w) A (execs (body.drop 3) (envOfC q fd.scope L fa cdv)) (LawEnd h₀ L s) (fun _ _ => False) { s with heap := h, toks := tk }) :
    wpAny (model prog w) A (execs (body.drop 2) (envOfC q fd.scope L fa cdv)) (LawEnd h₀ L s) (fun _ _ => False) s := by
  with_unfolding_all cases hK
  cases hbody
  obtain ⟨A1, A2, A3, A4, A5⟩ := A
  have C' := C
  obtain ⟨B, X, T, hA, hf, hke, room, hh, hu⟩ := C'
  dsimp only at hA hh room hu
  subst hA hh
  dsimp only [List.drop] at rest ⊢
  walk1
  walk1
  iterate 7 (first | (dsimp only; walk1) | walk1)
  rename_i h1 t1' u1 v1 hR F1 N1 _
  refine LCg.CompSrc.range (n := 6) rfl F1 N1 hR (by decide) rfl (Nat.le_of_ble_eq_true rfl) ?_
  intro g
  refine rest_inv (fun i ys => ∃ fs, IntsAre ys fs ∧ fs.length = i ∧ ∀ f ∈ fs, 0 ≤ f ∧ f ≤ 3) ⟨[], .nil, rfl, by simp⟩ ?_ ?_
  · rintro i v ys I oI C' oC D' m₂ h2 tk2 E' hi ⟨t, rfl⟩ ⟨fs, hfs, hfl, hf⟩ hC hx F2 N2 off
    iterate 10 (first | (dsimp only; walk1) | walk1)
    dsimp only
    have hp : 1 ≤ (4 : Int) ^ (0 + (i : Int)).toNat ∧ (4 : Int) ^ (0 + (i : Int)).toNat ≤ 1024 := by
      have key : ∀ j : Fin 6, 1 ≤ (4 : Int) ^ (0 + ((j : Nat) : Int)).toNat ∧ (4 : Int) ^ (0 + ((j : Nat) : Int)).toNat ≤ 1024 := by decide
      exact key ⟨i, hi⟩
    generalize (4 : Int) ^ (0 + (i : Int)).toNat = pw at *
    iterate 3 (first | (dsimp only; walk1) | walk1)
    dsimp only
    refine LCg.CompEnd.intro F2 N2 _ (fun _ hp => hp) off trivial ⟨rfl, fs ++ [_], hfs.append (.cons _ _ .nil), by simp [hfl], ?_⟩
    intro f hf'
    rcases List.mem_append.mp hf' with h | h
    · exact hf f h
    · rw [List.mem_singleton.mp h]
      have g1 := Int.fmod_nonneg_of_pos (([d0, d1, d2, d3, d4].getD (Int.toNat 1) 0).fdiv pw) (show (0 : Int) < 4 by decide)
      have g2 := Int.fmod_lt_of_pos (([d0, d1, d2, d3, d4].getD (Int.toNat 1) 0).fdiv pw) (show (0 : Int) < 4 by decide)
      omega
  · rintro ys ⟨fs, hfs, hfl, hf⟩
    intro D2 h2 tk2 F2 N2 _
    exact rest h2 tk2 D2 ys fs hfs hfl hf F2 N2
end Mine

-- part LHd3
namespace Mine
set_option maxRecDepth 100000
set_option maxHeartbeats 4000000
variable {prog : Program} {w : World} {A A₀ : Around} {E : Value → Shared → Prop} {s : Shared} {L : Addr} {h₀ base : Heap} {m mg mb : Str → Option Value} {news : List (Addr × Obj)} {p : Program} {loose : List Str} {mean : ExcName → Option Value} {Q : Value → Shared → Prop} {env : Env} {outer : List Env} {d : Nat}
theorem fill9 : (PySem.Challenge.rw_rs0010_01, hd.heap_39) = (PySem.Challenge.rw_rs0010_01, hd.heap_39) := by w_top off; k_fill; rfl
local macro_rules | `(tactic| k_mem) => `(tactic| assumption)
local macro_rules | `(tactic| ke_room) => `(tactic| (show (_ : Nat) + 64 < cLine; omega))

theorem law_s4 {fd : FuncData} {oc : Value} {od : Option Addr} {sl : Array (Option Value)} {body : List Stmt} {q : Str} {fa : Addr} {cdv : Value}
    (hK : (hd.heap_39 w.params).lookup 64 = some ⟨oc, od, .func fd, sl⟩) (hbody : fd.body = .stmts body)
    (C : Cx w A A₀ base h₀ outer (envOfC q fd.scope L fa cdv) L p loose mean mg mb (d + 2))
    {D D2 : Addr} {oD : Obj} {d0 d1 d2 d3 d4 : Int} {t0 t1 t2 t3 t4 : Tok} {ys : List Value} {fs : List Int} {u : Str → Option Value}
    (F : Fr h₀ L s.heap (fun y => if y = Str.ofString "figures" then some (.ref D2) else u y)) (hfs : IntsAre ys fs) (hfl : fs.length = 6) (hf : ∀ f ∈ fs, 0 ≤ f ∧ f ≤ 3)
    (N : News h₀ L s.heap [(D2, LCg.lst ys), (D, listOf #[.int d0 t0, .int d1 t1, .int d2 t2, .int d3 t3, .int d4 t4] 5), (L + 1 + 1, oD)])
    (rest : ∀ h tk ma ms mv, IntsAre mv ms → 0 ∉ ms.dropLast → (∃ r, ms = r ++ [0]) → ms.length ≤ 7 → (∀ y ∈ ms, y = -1 ∨ y = 1 ∨ y = 256 ∨ y = 0) →
      Fr h₀ L h (fun y => if y = Str.ofString "message" then some (.ref ma) else if y = Str.ofString "figures" then some (.ref D2) else u y) → News h₀ L h [(ma, listOf mv.toArray 0), (D, listOf #[.int d0 t0, .int d1 t1, .int d2 t2, .int d3 t3, .int d4 t4] 5), (L + 1 + 1, oD)] →
      wpAny (model prog w) A (execs (body.drop 4) (envOfC q fd.scope L fa cdv)) (LawEnd h₀ L s) (fun _ _ => False) { s with heap := h, toks := tk }) :
    wpAny (model prog w) A (execs (body.drop 3) (envOfC q fd.scope L fa cdv)) (LawEnd h₀ L s) (fun _ _ => False) s := by
  with_unfolding_all cases hK
  cases hbody
  obtain ⟨A1, A2, A3, A4, A5⟩ := A
  have C' := C
  obtain ⟨B, X, T, hA, hf', hke, room, hh, hu⟩ := C'
  dsimp only at hA hh room hu
  subst hA hh
  dsimp only [List.drop] at rest ⊢
  walk1
  refine wpAny_Assign_Name ?_ (by with_unfolding_all rfl)
  walk1
  refine LCt.ListComp_T F (by with_unfolding_all rfl) (by decide) (by rfl) (by decide) (by rfl) ?_
  walk1
  refine LCt.CompSrcT.ledger rfl F N (.head _) (by rw [List.size_toArray, hfs.length, hfl]; exact Nat.le_of_ble_eq_true rfl) ?_
  intro g
  refine restT_inv (fun i ys => ∃ rs, IntsAre ys rs ∧ rs.length ≤ i ∧ ∀ y ∈ rs, y = -1 ∨ y = 1 ∨ y = 256) ⟨[], .nil, by simp, by simp⟩ ?_ ?_
  · rintro i v zs I oI C' oC D' m₂ h2 tk2 E' hi hv ⟨rs, hrs, hrl, hr⟩ hC hx F2 N2 off
    obtain ⟨f, tf, rfl, hfi⟩ := IntsAre.at hfs i v (by simpa using hv)
    have hf3 := hf f (List.mem_of_getElem? hfi)
    have hcase : f = 0 ∨ f = 1 ∨ f = 2 ∨ f = 3 := by omega
    clear N F hv hfi hfs hf hf3
    rcases hcase with rfl | rfl | rfl | rfl
    · repeat' (first | (dsimp only; walk1) | walk1)
      exact LCg.CompEnd.intro F2 N2 _ (fun _ hp => hp) off (.inr ⟨_, .head _, rfl, _, rfl⟩) ⟨rfl, rs, hrs, Nat.le_succ_of_le hrl, hr⟩
    all_goals
      repeat' (first | (dsimp only; walk1) | walk1)
      rename_i F3 N3 _
      refine LCg.CompEnd.intro F3 N3 _ (fun _ hp => .tail _ hp) off (.inr ⟨_, .head _, rfl, _, rfl⟩) ⟨rfl, rs ++ [_], hrs.append (.cons _ _ .nil), by simp; omega, ?_⟩
      intro y hy
      rcases List.mem_append.mp hy with h | h
      · exact hr y h
      · rw [List.mem_singleton.mp h]; simp
  · rintro zs ⟨rs, hrs, hrl, hr⟩
    intro D3 h3 tk3 F3 N3 _
    clear N F
    iterate 5 (first | (dsimp only; walk1) | walk1)
    rename_i l4 h4 F4 N4 _
    have hzl : zs.length ≤ 6 := by
      have e1 := hrs.length
      have e2 := hfs.length
      rw [List.size_toArray] at hrl
      omega
    replace N4 : ∃ t9, News h₀ L h4 ((l4, listOf #[.int 0 t9] 0) :: (D3, LCg.lst zs) :: (D2, LCg.lst ys) :: (D, listOf #[.int d0 t0, .int d1 t1, .int d2 t2, .int d3 t3, .int d4 t4] 5) :: [(L + 1 + 1, oD)]) := ⟨_, N4⟩
    obtain ⟨t9, N4⟩ := N4
    refine add_lists (vs := zs) (ws := [.int 0 t9]) F4 N4 ⟨_, (N4 _ (.tail _ (.head _))).1, rfl, _, rfl⟩ ⟨_, (N4 _ (.head _)).1, rfl, _, rfl⟩ ?_ (by rw [sizeLine_eq, List.length_singleton]; omega)
    intro h5 F5 N5
    iterate 1 (first | (dsimp only; walk1) | walk1)
    rename_i F6 N6
    refine rest _ _ _ (rs ++ [0]) (zs ++ [.int 0 t9]) (hrs.append (.cons _ _ .nil)) ?_ ⟨rs, rfl⟩ ?_ ?_ F6 (News.sub N6 ?_)
    · rw [List.dropLast_concat]
      intro h
      have := hr 0 h
      omega
    · have e1 := hrs.length
      rw [List.length_append, List.length_singleton]
      omega
    · intro y hy
      rcases List.mem_append.mp hy with h | h
      · have := hr y h
        omega
      · exact .inr (.inr (.inr (List.mem_singleton.mp h)))
    · intro p hp
      rcases List.mem_cons.mp hp with rfl | hp
      · exact .head _
      · exact .tail _ (.tail _ (.tail _ (.tail _ hp)))
end Mine

-- part LHd4
namespace Mine
set_option maxRecDepth 100000
set_option maxHeartbeats 4000000
variable {prog : Program} {w : World} {A A₀ : Around} {E : Value → Shared → Prop} {s : Shared} {L : Addr} {h₀ base : Heap} {m mg mb : Str → Option Value} {news : List (Addr × Obj)} {p : Program} {loose : List Str} {mean : ExcName → Option Value} {Q : Value → Shared → Prop} {env : Env} {outer : List Env} {d : Nat}
theorem fill10 : (PySem.Challenge.rw_rs0010_01, hd.heap_39) = (PySem.Challenge.rw_rs0010_01, hd.heap_39) := by w_top off; k_fill; rfl
local macro_rules | `(tactic| k_mem) => `(tactic| assumption)
local macro_rules | `(tactic| ke_room) => `(tactic| (show (_ : Nat) + 64 < cLine; omega))

theorem ints3 {ys : List Value} {ds : List Int} (h : IntsAre ys ds) (hl : ds.length = 3) : ∃ a b c t0 t1 t2, ds = [a, b, c] ∧ ys = [.int a t0, .int b t1, .int c t2] := by
  match ds, hl with
  | [a, b, c], _ =>
    obtain ⟨t0, y0, e0, h0⟩ := ints1 h
    obtain ⟨t1, y1, e1, h1⟩ := ints1 h0
    obtain ⟨t2, y2, e2, h2⟩ := ints1 h1
    cases h2
    subst e2 e1 e0
    exact ⟨a, b, c, t0, t1, t2, rfl, rfl⟩

theorem law_s5 {fd : FuncData} {oc : Value} {od : Option Addr} {sl : Array (Option Value)} {body : List Stmt} {q : Str} {fa : Addr} {cdv : Value}
    (hK : (hd.heap_39 w.params).lookup 64 = some ⟨oc, od, .func fd, sl⟩) (hbody : fd.body = .stmts body)
    (C : Cx w A A₀ base h₀ outer (envOfC q fd.scope L fa cdv) L p loose mean mg mb (d + 2))
    {D ma : Addr} {oD : Obj} {d0 d1 d2 d3 d4 : Int} {t0 t1 t2 t3 t4 : Tok} {mv : List Value}
    (F : Fr h₀ L s.heap m) (hoD : oD.data = .cell (some (.ref D)))
    (N : News h₀ L s.heap [(ma, listOf mv.toArray 0), (D, listOf #[.int d0 t0, .int d1 t1, .int d2 t2, .int d3 t3, .int d4 t4] 5), (L + 1 + 1, oD)])
    (rest : ∀ h tk a b c u0 u1 u2, 1 ≤ a ∧ a ≤ 80 → 1 ≤ b ∧ b ≤ 80 → 1 ≤ c ∧ c ≤ 80 →
      Fr h₀ L h (fun y => if y = Str.ofString "c" then some (.int c u2) else if y = Str.ofString "b" then some (.int b u1) else if y = Str.ofString "a" then some (.int a u0) else m y) → News h₀ L h [(ma, listOf mv.toArray 0)] →
      wpAny (model prog w) A (execs (body.drop 5) (envOfC q fd.scope L fa cdv)) (LawEnd h₀ L s) (fun _ _ => False) { s with heap := h, toks := tk }) :
    wpAny (model prog w) A (execs (body.drop 4) (envOfC q fd.scope L fa cdv)) (LawEnd h₀ L s) (fun _ _ => False) s := by
  with_unfolding_all cases hK
  cases hbody
  obtain ⟨A1, A2, A3, A4, A5⟩ := A
  have C' := C
  obtain ⟨B, X, T, hA, hf', hke, room, hh, hu⟩ := C'
  dsimp only at hA hh room hu
  subst hA hh
  dsimp only [List.drop] at rest ⊢
  walk1
  walk1
  refine LCg.ListComp_U (F₀ := F) (by with_unfolding_all rfl) (by decide) (by rfl) (by decide) (by rfl) ?_
  iterate 8 (first | (dsimp only; walk1) | walk1)
  rename_i D4 h1 F1 N1 _
  refine LCg.CompSrc.ledger rfl F1 N1 (.head _) (Nat.le_of_ble_eq_true rfl) ?_
  intro g
  refine rest_inv (fun i ys => ∃ rs, IntsAre ys rs ∧ rs.length = i ∧ ∀ y ∈ rs, 1 ≤ y ∧ y ≤ 80) ⟨[], .nil, rfl, by simp⟩ ?_ ?_
  · rintro i v ys I oI C' oC D' m₂ h2 tk2 E' hi hv ⟨rs, hrs, hrl, hr⟩ hC hx F2 N2 off
    obtain ⟨x, tx, rfl⟩ : ∃ x tx, v = .int x tx := by
      match i, hv with
      | 0, hv => exact ⟨_, _, (Option.some.inj hv).symm⟩
      | 1, hv => exact ⟨_, _, (Option.some.inj hv).symm⟩
      | 2, hv => exact ⟨_, _, (Option.some.inj hv).symm⟩
      | (i + 3), hv => exact absurd hv (by simp)
    clear hv
    iterate 7 (first | (dsimp only; walk1) | walk1)
    dsimp only
    refine LCg.CompEnd.intro F2 N2 _ (fun _ hp => hp) off (.inr ⟨_, .head _, rfl, _, rfl⟩) ⟨rfl, rs ++ [_], hrs.append (.cons _ _ .nil), by simp [hrl], ?_⟩
    intro y hy
    rcases List.mem_append.mp hy with h | h
    · exact hr y h
    · rw [List.mem_singleton.mp h]
      have g1 := Int.fmod_nonneg_of_pos x (show (0 : Int) < 80 by decide)
      have g2 := Int.fmod_lt_of_pos x (show (0 : Int) < 80 by decide)
      omega
  · rintro ys ⟨rs, hrs, hrl, hr⟩
    intro D5 h5 tk5 F5 N5 _
    obtain ⟨a, b, c, u0, u1, u2, rfl, rfl⟩ := ints3 hrs hrl
    have ha := hr a (by simp)
    have hb := hr b (by simp)
    have hc := hr c (by simp)
    clear hr hrs hrl F1 N1
    iterate 10 (first | (dsimp only; walk1) | walk1)
    iterate 1 (first | (dsimp only; walk1) | walk1)
    rename_i F6 N6
    refine rest _ _ a b c u0 u1 u2 ha hb hc F6 (News.sub N6 ?_)
    intro p hp
    rw [List.mem_singleton.mp hp]
    exact .tail _ (.tail _ (.head _))
end Mine

-- part LHd5
namespace Mine
set_option maxRecDepth 100000
set_option maxHeartbeats 4000000
variable {prog : Program} {w : World} {A A₀ : Around} {E : Value → Shared → Prop} {s : Shared} {L : Addr} {h₀ base : Heap} {m mg mb : Str → Option Value} {news : List (Addr × Obj)} {p : Program} {loose : List Str} {mean : ExcName → Option Value} {Q : Value → Shared → Prop} {env : Env} {outer : List Env} {d : Nat}
theorem fill11 : (PySem.Challenge.rw_rs0010_01, hd.heap_39) = (PySem.Challenge.rw_rs0010_01, hd.heap_39) := by w_top off; k_fill; rfl
local macro_rules | `(tactic| k_mem) => `(tactic| assumption)
local macro_rules | `(tactic| ke_room) => `(tactic| (show (_ : Nat) + 64 < cLine; omega))

theorem parts_perm {h : Heap} {pa p1 p2 p3 p4 : Addr} {oa o1 o2 o3 o4 : Obj} {r : List (Addr × Obj)} (N : News h₀ L h ((pa, oa) :: (p4, o4) :: (p3, o3) :: (p2, o2) :: (p1, o1) :: r)) :
    News h₀ L h ((pa, oa) :: (p1, o1) :: (p2, o2) :: (p3, o3) :: (p4, o4) :: r) := by
  refine News.sub N fun p hp => ?_
  simp only [List.mem_cons] at hp ⊢
  rcases hp with h | h | h | h | h | h <;> simp [h]

theorem fr_em {h : Heap} {m₁ : Str → Option Value} {pa ma : Addr} {num : Int} {tn : Tok} (F : Fr h₀ L h m₁) (q1 : m₁ (Str.ofString "parts") = some (.ref pa)) (q2 : m₁ (Str.ofString "message") = some (.ref ma)) (q3 : m₁ (Str.ofString "number") = some (.int num tn)) :
    Fr h₀ L h (fun z => if z = Str.ofString "parts" then some (.ref pa) else if z = Str.ofString "message" then some (.ref ma) else if z = Str.ofString "number" then some (.int num tn) else m₁ z) := by
  have em : m₁ = fun z => if z = Str.ofString "parts" then some (.ref pa) else if z = Str.ofString "message" then some (.ref ma) else if z = Str.ofString "number" then some (.int num tn) else m₁ z := by
    funext z
    by_cases h1 : z = Str.ofString "parts"
    · rw [if_pos h1, h1, q1]
    · by_cases h2 : z = Str.ofString "message"
      · rw [if_neg h1, if_pos h2, h2, q2]
      · by_cases h3 : z = Str.ofString "number"
        · rw [if_neg h1, if_neg h2, if_pos h3, h3, q3]
        · rw [if_neg h1, if_neg h2, if_neg h3]
  exact em ▸ F

theorem law_s6 {fd : FuncData} {oc : Value} {od : Option Addr} {sl : Array (Option Value)} {body : List Stmt} {q : Str} {fa : Addr} {cdv : Value}
    (hK : (hd.heap_39 w.params).lookup 64 = some ⟨oc, od, .func fd, sl⟩) (hbody : fd.body = .stmts body)
    (C : Cx w A A₀ base h₀ outer (envOfC q fd.scope L fa cdv) L p loose mean mg mb (d + 2))
    {ma : Addr} {num a b c : Int} {tn u0 u1 u2 : Tok} {mv : List Value} {ms : List Int} {mn : Nat}
    (F : Fr h₀ L s.heap (fun y => if y = Str.ofString "c" then some (.int c u2) else if y = Str.ofString "b" then some (.int b u1) else if y = Str.ofString "a" then some (.int a u0) else m y))
    (hmm : m (Str.ofString "message") = some (.ref ma)) (hmn : m (Str.ofString "number") = some (.int num tn))
    (N : News h₀ L s.heap [(ma, listOf mv.toArray mn)])
    (hI : IntsAre mv ms) (hm0 : 0 ∉ ms.dropLast) (hmz : ∃ r, ms = r ++ [0]) (hml : ms.length ≤ 7) (hmv : ∀ y ∈ ms, y = -1 ∨ y = 1 ∨ y = 256 ∨ y = 0)
    (ha : 1 ≤ a ∧ a ≤ 80) (hb : 1 ≤ b ∧ b ≤ 80) (hc : 1 ≤ c ∧ c ≤ 80) (hn0 : 256 ≤ num) (hn1 : num < 2 ^ 33) :
    wpAny (model prog w) A (execs (body.drop 5) (envOfC q fd.scope L fa cdv)) (LawEnd h₀ L s) (fun _ _ => False) s := by
  with_unfolding_all cases hK
  cases hbody
  obtain ⟨A1, A2, A3, A4, A5⟩ := A
  have C' := C
  obtain ⟨B, X, T, hA, hf', hke, room, hh, hu⟩ := C'
  dsimp only at hA hh room hu
  subst hA hh
  dsimp only [List.drop]
  iterate 65 (first | (dsimp only; walk1) | walk1)
  walk1
  rename_i F7 N7
  have N8 := parts_perm N7
  have F8 := fr_em F7 rfl hmm hmn
  dsimp only
  refine wpAny_mono (law_tail rfl rfl C (s := { s with heap := _, toks := _ }) F8 N8 hI hm0 hmz hml hmv ha hb hc hn0 hn1) (fun f s' q => ?_) (fun _ _ x => x)
  obtain ⟨rfl, h8, tk8, m', rfl, F8⟩ := q
  exact ⟨rfl, _, _, _, rfl, F8⟩
end Mine

-- part LAll
namespace Mine
set_option maxRecDepth 100000
set_option maxHeartbeats 4000000
variable {prog : Program} {w : World} {A A₀ : Around} {E : Value → Shared → Prop} {s : Shared} {L : Addr} {h₀ base : Heap} {m mg mb : Str → Option Value} {news : List (Addr × Obj)} {p : Program} {loose : List Str} {mean : ExcName → Option Value} {Q : Value → Shared → Prop} {env : Env} {outer : List Env} {d : Nat}

theorem law_all {fd : FuncData} {oc : Value} {od : Option Addr} {sl : Array (Option Value)} {body : List Stmt} {q : Str} {fa : Addr} {cdv : Value}
    (hK : (hd.heap_39 w.params).lookup 64 = some ⟨oc, od, .func fd, sl⟩) (hbody : fd.body = .stmts body)
    (C : Cx w A A₀ base h₀ outer (envOfC q fd.scope L fa cdv) L p loose mean mg mb (d + 2))
    {l : Addr} {vs : List Value} {ns : List Int} {oD oS : Obj}
    (F : Fr h₀ L s.heap m) (hls : h₀.IsList l vs.toArray) (hI : IntsAre vs ns) (hlen : ns.length ≤ 63)
    (N : News h₀ L s.heap [(L + 1 + 1, oD), (L + 1, oS)]) (hoD : oD.data = .cell none) (hoS : oS.data = .cell (some (.ref l))) :
    wpAny (model prog w) A (execs body (envOfC q fd.scope L fa cdv)) (LawEnd h₀ L s) (fun _ _ => False) s := by
  refine law_s1 hK hbody C F hls hI hlen N hoD hoS ?_
  intro h1 tk1 D oD1 d0 d1 d2 d3 d4 t0 t1 t2 t3 t4 F1 N1 hoD1
  refine law_s2 hK hbody C (s := { s with heap := h1, toks := tk1 }) F1 N1 hoD1 ?_
  intro h2 tk2 num tn hn0 hn1 F2 N2
  refine law_s3 hK hbody C (s := { s with heap := h2, toks := tk2 }) F2 N2 hoD1 ?_
  intro h3 tk3 D2 ys fs hfs hfl hf F3 N3
  refine law_s4 hK hbody C (s := { s with heap := h3, toks := tk3 }) F3 hfs hfl hf N3 ?_
  intro h4 tk4 ma ms mv hms hm0 hmz hml hmv F4 N4
  refine law_s5 hK hbody C (s := { s with heap := h4, toks := tk4 }) F4 hoD1 N4 ?_
  intro h5 tk5 a b c u0 u1 u2 ha hb hc F5 N5
  exact law_s6 hK hbody C (s := { s with heap := h5, toks := tk5 }) F5 rfl rfl N5 hms hm0 hmz hml hmv ha hb hc hn0 hn1
end Mine

-- part LGo
namespace Mine
set_option maxRecDepth 100000
set_option maxHeartbeats 4000000
theorem top : PySem.Challenge.rw_rs0010_01.Holds := hd (by
  k_go0
  rename_i w s₀ s₁ mg mb G Y fa o pm doc ho hg KX X V GL T B TE TW w11 w10 M w9 w8 hcd ns hs hlay0 hL1 hr1 hl2 w6 w5 lA vs w2 hL ra w1 r0 hI hr hcond hcond2 K0 hD h1 tk1 F o1 o2 hl hrr N0 X0
  refine wpAny_mono (law_all (d := 0) rfl rfl ⟨K0, KX, T, rfl, rfl, rfl, by show 1 + claimMargin + 1 + (0 + 2) < recursionLimit; decide, rfl, by show 4 + 3 + 4 * (0 + 2) + 100 < cLine; decide⟩ (s := { s₁ with heap := h1, toks := tk1 }) F hL hI (by omega) N0 hl hrr) (fun f s' q => ?_) (fun _ _ x => x.elim)
  obtain ⟨rfl, h8, tk8, m', rfl, F8⟩ := q
  exact goodW_bool F8 hg (by intro _; rfl) (by with_unfolding_all exact rfl))
end Mine

set_option maxRecDepth 100000 in
set_option maxHeartbeats 8000000 in
theorem PySem.Challenge.cw_rs0010_01_holds : PySem.Challenge.rw_rs0010_01.Holds :=
  Mine.top
