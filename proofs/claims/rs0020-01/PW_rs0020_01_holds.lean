import PyProof.Rows.All
import Wide.All
import OpenK.AllK
import Wide.FinOn
import PySem.Challenge.RW_rs0020_01
set_option Elab.async false

/-! the head of the law, told once -/
section
open PySem PySem.W PyProof.Rows
set_option maxRecDepth 100000
set_option maxHeartbeats 8000000
namespace Mine
open_top hd for PySem.Challenge.rw_rs0020_01
end Mine
end

section
open PySem PySem.W PyProof.Rows PySem.Calls PySem.Spec
set_option maxRecDepth 100000
set_option autoImplicit false
namespace Mine

/-- the end of one turn: the iterator stands, the rest is told by J -/
def TurnEnd (h₀ : Heap) (L I : Addr) (oI : Obj) (J : (Str → Option Value) → List (Addr × Obj) → Prop) (s s₃ : Shared) : Prop :=
  ∃ h' tk' m' news', s₃ = { s with heap := h', toks := tk' } ∧ Fr h₀ L h' m' ∧ News h₀ L h' ((I, oI) :: news') ∧ (∀ p ∈ news', p.1 ≠ I) ∧ J m' news'

theorem TurnEnd.intro {h₀ : Heap} {L I : Addr} {oI : Obj} {J : (Str → Option Value) → List (Addr × Obj) → Prop} {s : Shared} {h' : Heap} {tk' : Nat} {m' : Str → Option Value} {news' : List (Addr × Obj)}
    (F : Fr h₀ L h' m') (N : News h₀ L h' ((I, oI) :: news')) (hne : ∀ p ∈ news', p.1 ≠ I) (hj : J m' news') : TurnEnd h₀ L I oI J s { s with heap := h', toks := tk' } :=
  ⟨h', tk', m', news', rfl, F, N, hne, hj⟩

theorem TurnEnd.intro2 {h₀ : Heap} {L I : Addr} {oI : Obj} {J : (Str → Option Value) → List (Addr × Obj) → Prop} {s : Shared} {h' : Heap} {tk' : Nat} {m' : Str → Option Value} {news' all : List (Addr × Obj)}
    (F : Fr h₀ L h' m') (N : News h₀ L h' all) (hI : (I, oI) ∈ all) (hs : ∀ p ∈ news', p ∈ all) (hne : ∀ p ∈ news', p.1 ≠ I) (hj : J m' news') : TurnEnd h₀ L I oI J s { s with heap := h', toks := tk' } :=
  ⟨h', tk', m', news', rfl, F, fun p hp => by
    rcases List.mem_cons.mp hp with rfl | hp
    · exact N _ hI
    · exact N _ (hs p hp), hne, hj⟩

section
variable {prog : Program} {w : World} {A : Around} {s : Shared} {env : Env} {h₀ : Heap} {target : Expr} {body orelse : List Stmt} {R : Result → Shared → Prop}

theorem for_walk {I : Addr} {fp : List Addr} {n : Nat} {P : Nat → Value → Prop} {St : Nat → Heap → Prop} {m₀ : Str → Option Value} {news₀ : List (Addr × Obj)} {oI₀ : Obj}
    (J : Nat → (Str → Option Value) → List (Addr × Obj) → Prop)
    (W : Walks prog w A I fp [I] n P St)
    (F : Fr h₀ env.locals s.heap m₀) (N : News h₀ env.locals s.heap news₀) (hj : J 0 m₀ news₀) (hst : St 0 s.heap)
    (hIo : s.heap.get? I = some oI₀) (hstI : ∀ i h, St i h → ∃ o, h.get? I = some o) (hIL : I ≠ env.locals) (hI0 : h₀.get? I = none) (hIn : ∀ p ∈ news₀, p.1 ≠ I)
    (hfp : ∀ b ∈ fp, b ≠ I → ∃ o, ∀ i m news h, J i m news → Fr h₀ env.locals h m → News h₀ env.locals h news → h.get? b = some o)
    (turn : ∀ i v m₁ news₁ oI h tk, i < n → P i v → J i m₁ news₁ → (∀ p ∈ news₁, p.1 ≠ I) → Fr h₀ env.locals h m₁ → News h₀ env.locals h ((I, oI) :: news₁) →
      wpAny (model prog w) A (assign target env v) (fun _ s₂ => wpAny (model prog w) A (execs body env) (fun f s₃ => match f with
        | .next | .cont => TurnEnd h₀ env.locals I oI (J (i + 1)) { s with heap := h, toks := tk } s₃
        | .brk => R (.ok .next) s₃
        | .ret v => R (.ok (.ret v)) s₃) (fun _ _ => False) s₂) (fun _ _ => False) { s with heap := h, toks := tk })
    (done : ∀ m₁ news₁ h tk, J n m₁ news₁ → Fr h₀ env.locals h m₁ → News h₀ env.locals h news₁ →
      wpAny (model prog w) A (execs orelse env) (fun f s₃ => R (.ok f) s₃) (fun _ _ => False) { s with heap := h, toks := tk })
    (ht : ∀ v, letOwnedTupleGo target (.ref I) v = pure () := by intro _; rfl) :
    codeAny (model prog w) A (.forLoop target (.ref I) body orelse env) R s := by
  refine codeAny_forLoop (fun k s' => ∃ h' tk m' news' i, s' = { s with heap := h', toks := tk } ∧ St i h' ∧ Fr h₀ env.locals h' m' ∧ News h₀ env.locals h' news' ∧ (∀ p ∈ news', p.1 ≠ I) ∧ J i m' news' ∧ i ≤ n ∧ k = n + 1 - i) ?_ (n + 1)
    ⟨s.heap, s.toks, m₀, news₀, 0, rfl, hst, F, N, hIn, hj, Nat.zero_le _, rfl⟩ ht
  rintro k s' ⟨h', tk, m', news', i, rfl, hst', F', N', hne', hJ', hi, rfl⟩
  have key : ∀ h₁ : Heap, (∀ b o, b ∉ [I] → h'.get? b = some o → h₁.get? b = some o) → Fr h₀ env.locals h₁ m' ∧ ∀ p ∈ news', h₁.get? p.1 = some p.2 ∧ p.1 ≠ env.locals ∧ h₀.get? p.1 = none := by
    intro h₁ hk₁
    refine ⟨⟨F'.ns.at' fun o e => hk₁ _ o (fun hb => hIL (List.mem_singleton.mp hb).symm) e, fun b o e => hk₁ b o (fun hb => ?_) (F'.keep b o e), F'.above⟩, fun p hp => ⟨hk₁ _ _ (fun hb => hne' p hp (List.mem_singleton.mp hb)) (N' p hp).1, (N' p hp).2⟩⟩
    rw [List.mem_singleton.mp hb, hI0] at e; cases e
  by_cases hlt : i < n
  · refine W.item i _ _ _ hlt hst' fun v h₁ tk₁ hP hst₁ hk₁ => ?_
    obtain ⟨F₁, N₁⟩ := key h₁ hk₁
    obtain ⟨oI, hoI⟩ := hstI _ _ hst₁
    have N₂ : News h₀ env.locals h₁ ((I, oI) :: news') := by
      intro p hp
      rcases List.mem_cons.mp hp with rfl | hp
      · exact ⟨hoI, hIL, hI0⟩
      · exact N₁ p hp
    refine wpAny_mono (turn i v m' news' oI h₁ tk₁ hlt hP hJ' hne' F₁ N₂) (fun _ s₂ h₂ => wpAny_mono h₂ (fun f s₃ h₃ => ?_) fun _ _ e => e.elim) fun _ _ e => e.elim
    have fin : TurnEnd h₀ env.locals I oI (J (i + 1)) { s with heap := h₁, toks := tk₁ } s₃ → ∃ m, m < n + 1 - i ∧ ∃ h' tk m' news' i, s₃ = { s with heap := h', toks := tk } ∧ St i h' ∧ Fr h₀ env.locals h' m' ∧ News h₀ env.locals h' news' ∧ (∀ p ∈ news', p.1 ≠ I) ∧ J i m' news' ∧ i ≤ n ∧ m = n + 1 - i := by
      rintro ⟨h₃', tk₃, m₃, news₃, rfl, F₃, N₃, hne₃, hJ₃⟩
      refine ⟨n + 1 - (i + 1), by omega, h₃', tk₃, m₃, news₃, i + 1, rfl, ?_, F₃, fun p hp => N₃ p (.tail _ hp), hne₃, hJ₃, hlt, rfl⟩
      refine W.frame _ _ _ hst₁ fun b hb o e => ?_
      by_cases hbI : b = I
      · subst hbI
        have e' := hoI.symm.trans e
        obtain rfl := Option.some.inj e'
        exact (N₃ _ (.head _)).1
      · obtain ⟨o', ho'⟩ := hfp b hb hbI
        have e1 := ho' i m' news' h₁ hJ' F₁ N₁
        have e2 := ho' (i + 1) m₃ news₃ h₃' hJ₃ F₃ (fun p hp => N₃ p (.tail _ hp))
        have e' := e1.symm.trans e
        obtain rfl := Option.some.inj e'
        exact e2
    cases f with
    | next => exact fin h₃
    | cont => exact fin h₃
    | brk => exact h₃
    | ret v => exact h₃
  · have hin : i = n := by omega
    subst hin
    refine W.done _ _ _ hst' fun h₁ tk₁ hk₁ => ?_
    obtain ⟨F₁, N₁⟩ := key h₁ hk₁
    exact wpAny_mono (done m' news' h₁ tk₁ hJ' F₁ N₁) (fun _ _ e => e) fun _ _ e => e.elim

variable {E : Value → Shared → Prop}

/-- what holds of the frame and the ledger when an iterator is pushed -/
theorem fresh_size {h : Heap} {L : Addr} {m : Str → Option Value} (F : Fr h₀ L h m) : h₀.get? h.objs.size = none := by
  cases hq : h₀.get? h.objs.size with
  | none => rfl
  | some o' => exact absurd (Heap.lt_size (F.keep _ _ hq)) (Nat.lt_irrefl _)

theorem News.pushed {h : Heap} {L : Addr} {news : List (Addr × Obj)} (N : News h₀ L h news) (o : Obj) : News h₀ L (h.push o) news :=
  fun p hp => ⟨Heap.get?_push_of_some _ (N p hp).1, (N p hp).2⟩

theorem rangeSize_up {a b : Int} : Builtin.Range.rangeSize a b 1 = ((b - a).toNat : Int) := by
  rw [rangeSize_one]; split <;> omega

theorem for_range {r : Addr} {a b : Int} {t u v : Tok} {m₀ : Str → Option Value} {news₀ : List (Addr × Obj)}
    (J : Nat → (Str → Option Value) → List (Addr × Obj) → Prop) (hh : A.handled = none)
    (hr : IsRange s.heap r a b 1 t u v) (hsmall : Builtin.Range.small a b 1 = true)
    (F : Fr h₀ env.locals s.heap m₀) (N : News h₀ env.locals s.heap news₀) (hj : J 0 m₀ news₀)
    (turn : ∀ I, (∀ p ∈ news₀, p.1 < I) → env.locals < I → ∀ (i : Nat) (c : Int) t m₁ news₁ oI h tk, i < (b - a).toNat → c = a + i → J i m₁ news₁ → (∀ p ∈ news₁, p.1 ≠ I) → Fr h₀ env.locals h m₁ → News h₀ env.locals h ((I, oI) :: news₁) →
      wpAny (model prog w) A (assign target env (.int c t)) (fun _ s₂ => wpAny (model prog w) A (execs body env) (fun f s₃ => match f with
        | .next | .cont => TurnEnd h₀ env.locals I oI (J (i + 1)) { s with heap := h, toks := tk } s₃
        | .brk => R (.ok .next) s₃
        | .ret v => R (.ok (.ret v)) s₃) (fun _ _ => False) s₂) (fun _ _ => False) { s with heap := h, toks := tk })
    (done : ∀ m₁ news₁ h tk, J (b - a).toNat m₁ news₁ → Fr h₀ env.locals h m₁ → News h₀ env.locals h news₁ →
      wpAny (model prog w) A (execs orelse env) (fun f s₃ => R (.ok f) s₃) (fun _ _ => False) { s with heap := h, toks := tk })
    (ht : ∀ I v, letOwnedTupleGo target (.ref I) v = pure () := by intro _ _; rfl) :
    wpAny (model prog w) A (pyIter (.ref r)) (fun it s₂ => codeAny (model prog w) A (.forLoop target it body orelse env) R s₂) E s := by
  refine wpAny_pyIter_range hr hsmall ?_
  have hlt : ∀ p ∈ news₀, p.1 < s.heap.objs.size := fun p hp => Heap.lt_size (N p hp).1
  have hL : env.locals < s.heap.objs.size := F.ns.lt
  refine for_walk (I := s.heap.objs.size) (n := (b - a).toNat) J (Walks.range hh _ a 1 (b - a).toNat) (F.push _) (News.pushed N _) hj ?_ (Heap.get?_push_size _ rfl) (fun _ _ st => ⟨_, st⟩) (Nat.ne_of_gt hL) (fresh_size F) (fun p hp => Nat.ne_of_lt (hlt p hp)) ?_ ?_ done (ht _)
  · show IsRangeIter _ _ _ _ _
    rw [rangeSize_up]
    simpa using Heap.get?_push_size _ rfl
  · intro b' hb hne
    exact absurd (List.mem_singleton.mp hb) hne
  · rintro i v m₁ news₁ oI h tk hi ⟨t, rfl⟩ hJ hne F₁ N₁
    have e : a + (i : Int) * 1 = a + i := by omega
    rw [e]
    exact turn _ hlt hL i _ t m₁ news₁ oI h tk hi rfl hJ hne F₁ N₁

theorem for_list {l : Addr} {ol : Obj} {items : Array Value} {m₀ : Str → Option Value} {news₀ : List (Addr × Obj)}
    (J : Nat → (Str → Option Value) → List (Addr × Obj) → Prop) (hh : A.handled = none)
    (hol : ∀ h : Heap, h.get? l = some ol → h.IsList l items) (hl : s.heap.get? l = some ol)
    (hstay : ∀ i m news h, J i m news → Fr h₀ env.locals h m → News h₀ env.locals h news → h.get? l = some ol)
    (F : Fr h₀ env.locals s.heap m₀) (N : News h₀ env.locals s.heap news₀) (hj : J 0 m₀ news₀)
    (turn : ∀ I, (∀ p ∈ news₀, p.1 < I) → env.locals < I → ∀ (i : Nat) v m₁ news₁ oI h tk, items[i]? = some v → J i m₁ news₁ → (∀ p ∈ news₁, p.1 ≠ I) → Fr h₀ env.locals h m₁ → News h₀ env.locals h ((I, oI) :: news₁) →
      wpAny (model prog w) A (assign target env v) (fun _ s₂ => wpAny (model prog w) A (execs body env) (fun f s₃ => match f with
        | .next | .cont => TurnEnd h₀ env.locals I oI (J (i + 1)) { s with heap := h, toks := tk } s₃
        | .brk => R (.ok .next) s₃
        | .ret v => R (.ok (.ret v)) s₃) (fun _ _ => False) s₂) (fun _ _ => False) { s with heap := h, toks := tk })
    (done : ∀ m₁ news₁ h tk, J items.size m₁ news₁ → Fr h₀ env.locals h m₁ → News h₀ env.locals h news₁ →
      wpAny (model prog w) A (execs orelse env) (fun f s₃ => R (.ok f) s₃) (fun _ _ => False) { s with heap := h, toks := tk })
    (ht : ∀ I v, letOwnedTupleGo target (.ref I) v = pure () := by intro _ _; rfl) :
    wpAny (model prog w) A (pyIter (.ref l)) (fun it s₂ => codeAny (model prog w) A (.forLoop target it body orelse env) R s₂) E s := by
  have hls := hol _ hl
  refine wpAny_pyIter_list hls ?_
  have hlt : ∀ p ∈ news₀, p.1 < s.heap.objs.size := fun p hp => Heap.lt_size (N p hp).1
  have hL : env.locals < s.heap.objs.size := F.ns.lt
  have hne : l ≠ s.heap.objs.size := Nat.ne_of_lt (Heap.lt_size hl)
  refine for_walk (I := s.heap.objs.size) (n := items.size) J (Walks.list hh _ l hne items) (F.push _) (News.pushed N _) hj ⟨⟨_, Heap.get?_push_size _ rfl, rfl, rfl⟩, hls.at fun o e => Heap.get?_push_of_some _ e⟩ (Heap.get?_push_size _ rfl) (fun _ _ st => let ⟨o, ho, _⟩ := st.1; ⟨o, ho⟩) (Nat.ne_of_gt hL) (fresh_size F) (fun p hp => Nat.ne_of_lt (hlt p hp)) ?_ ?_ done (ht _)
  · intro b' hb hneI
    rcases List.mem_cons.mp hb with h | h
    · exact absurd h hneI
    · rw [List.mem_singleton.mp h]; exact ⟨ol, hstay⟩
  · intro i v m₁ news₁ oI h tk hi hP hJ hne F₁ N₁
    exact turn _ hlt hL i v m₁ news₁ oI h tk hP hJ hne F₁ N₁
end

def WEnd (h₀ : Heap) (L : Addr) (J : (Str → Option Value) → List (Addr × Obj) → Prop) (s s₃ : Shared) : Prop :=
  ∃ h' tk' m' news', s₃ = { s with heap := h', toks := tk' } ∧ Fr h₀ L h' m' ∧ News h₀ L h' news' ∧ J m' news'
theorem WEnd.intro {h₀ : Heap} {L : Addr} {J : (Str → Option Value) → List (Addr × Obj) → Prop} {s : Shared} {h' : Heap} {tk' : Nat} {m' : Str → Option Value} {news' : List (Addr × Obj)}
    (F : Fr h₀ L h' m') (N : News h₀ L h' news') (hj : J m' news') : WEnd h₀ L J s { s with heap := h', toks := tk' } := ⟨h', tk', m', news', rfl, F, N, hj⟩

def WNext (n : Nat) (P : Nat → Prop) : Prop := ∃ n', n' < n ∧ P n'
theorem while_inv {prog : Program} {w : World} {A : Around} {s : Shared} {env : Env} {h₀ : Heap} {test : PySem.Expr} {body orelse : List Stmt} {pos : Pos} {Q : Flow → Shared → Prop} {E : Value → Shared → Prop} {m₀ : Str → Option Value} {news₀ : List (Addr × Obj)}
    (J : Nat → (Str → Option Value) → List (Addr × Obj) → Prop) (n₀ : Nat)
    (F : Fr h₀ env.locals s.heap m₀) (N : News h₀ env.locals s.heap news₀) (hj : J n₀ m₀ news₀)
    (turn : ∀ n m₁ news₁ h tk, J n m₁ news₁ → Fr h₀ env.locals h m₁ → News h₀ env.locals h news₁ →
      wpAny (model prog w) A (isTrue test env (eval test env)) (fun b s₂ =>
        if b then wpAny (model prog w) A (execs body env) (fun f s₃ => match f with
            | .next | .cont => WNext n fun n' => WEnd h₀ env.locals (J n') { s with heap := h, toks := tk } s₃
            | .brk => Q .next s₃
            | .ret v => Q (.ret v) s₃) (fun _ _ => False) s₂
        else wpAny (model prog w) A (execs orelse env) Q (fun _ _ => False) s₂) (fun _ _ => False) { s with heap := h, toks := tk }) :
    wpAny (model prog w) A (exec (.While test body orelse pos) env) Q E s := by
  refine wpAny_While ?_
  refine codeAny_whileLoop (fun n s' => ∃ h tk m₁ news₁, s' = { s with heap := h, toks := tk } ∧ Fr h₀ env.locals h m₁ ∧ News h₀ env.locals h news₁ ∧ J n m₁ news₁) ?_ n₀ ⟨s.heap, s.toks, m₀, news₀, rfl, F, N, hj⟩
  rintro n s' ⟨h, tk, m₁, news₁, rfl, F₁, N₁, hJ⟩
  refine wpAny_mono (turn n m₁ news₁ h tk hJ F₁ N₁) (fun b s₂ hb => ?_) fun _ _ e => e.elim
  cases b with
  | false =>
    simp only [Bool.false_eq_true, if_false] at hb ⊢
    exact wpAny_mono hb (fun _ _ x => x) fun _ _ e => e.elim
  | true =>
    simp only [if_true] at hb ⊢
    refine wpAny_mono hb (fun f s₃ hf => ?_) fun _ _ e => e.elim
    have fin : (WNext n fun n' => WEnd h₀ env.locals (J n') { s with heap := h, toks := tk } s₃) → ∃ n', n' < n ∧ ∃ h tk m₁ news₁, s₃ = { s with heap := h, toks := tk } ∧ Fr h₀ env.locals h m₁ ∧ News h₀ env.locals h news₁ ∧ J n' m₁ news₁ := by
      rintro ⟨n', hn', h', tk', m', news', rfl, F', N', hj'⟩
      exact ⟨n', hn', h', tk', m', news', rfl, F', N', hj'⟩
    cases f with
    | next => exact fin hf
    | cont => exact fin hf
    | brk => exact hf
    | ret v => exact hf

theorem map_at {m : Str → Option Value} {x : Str} {v : Value} (h : m x = some v) : m = fun y => if y = x then some v else m y := by
  funext y; by_cases e : y = x
  · rw [if_pos e, e, h]
  · rw [if_neg e]

/-- all that stood still stands -/
def Ext (h h' : Heap) : Prop := ∀ b o, h.get? b = some o → h'.get? b = some o
theorem Ext.fr {h₀ h h' : Heap} {L : Addr} {m : Str → Option Value} (e : Ext h h') (F : Fr h₀ L h m) : Fr h₀ L h' m := ⟨F.ns.keeps e, fun b o x => e b o (F.keep b o x), F.above⟩
theorem Ext.news {h₀ h h' : Heap} {L : Addr} {news : List (Addr × Obj)} (e : Ext h h') (N : News h₀ L h news) : News h₀ L h' news := fun p hp => ⟨e _ _ (N p hp).1, (N p hp).2⟩
theorem Ext.newsCons {h₀ h h' : Heap} {L a : Addr} {o : Obj} {m : Str → Option Value} {news : List (Addr × Obj)} (e : Ext h h') (F : Fr h₀ L h m) (N : News h₀ L h news) (ha : h'.get? a = some o) (hn : h.get? a = none) : News h₀ L h' ((a, o) :: news) := by
  intro p hp
  rcases List.mem_cons.mp hp with rfl | hp
  · refine ⟨ha, fun hL => ?_, ?_⟩
    · obtain ⟨oL, _, _, hoL, _⟩ := F.ns
      rw [← hL, hn] at hoL; cases hoL
    · cases hq : h₀.get? a with
      | none => rfl
      | some o' => have := F.keep _ _ hq; rw [hn] at this; cases this
  · exact e.news N p hp
end Mine
end

section
open PySem PySem.W PyProof.Rows PySem.Calls PySem.Spec
set_option maxRecDepth 100000
set_option autoImplicit false
namespace Mine

/-! the words of pretty_flags and of the law, as plain functions -/
def nameTab : List Str := [Str.ofString "OPTIMIZED", Str.ofString "NEWLOCALS", Str.ofString "VARARGS", Str.ofString "VARKEYWORDS", Str.ofString "NESTED", Str.ofString "GENERATOR", Str.ofString "NOFREE", Str.ofString "COROUTINE", Str.ofString "ITERABLE_COROUTINE", Str.ofString "ASYNC_GENERATOR"]
def hexT (i : Int) : Str := baseText "0x" 16 i
def flagWord (k : Nat) : Str := nameTab.getD k (hexT (2 ^ k))
def bitAt (n : Int) (k : Nat) : Bool := n / 2 ^ k % 2 == 1
def bitsTo (n : Int) (i : Nat) : List Nat := (List.range i).filter (bitAt n)
/-- the words for some places and the rest above -/
def tellW (ks : List Nat) (rest : Int) : List Str := ks.map flagWord ++ (if rest ≠ 0 ∨ ks = [] then [hexT rest] else [])
def pfWords (n : Int) : List Str := tellW (bitsTo n 32) (n / 2 ^ 32 * 2 ^ 32)
def joinT (ws : List Str) : Str := Str.join (Str.ofString ", ") ws
def pfText (n : Int) : Str := joinT (pfWords n)

theorem two_pow_pos (k : Nat) : (0 : Int) < 2 ^ k := kbt_pos k

theorem bitsTo_succ (n : Int) (i : Nat) : bitsTo n (i + 1) = bitsTo n i ++ (if bitAt n i then [i] else []) := by
  unfold bitsTo
  rw [List.range_succ, List.filter_append]
  congr 1
  by_cases h : bitAt n i = true <;> simp [h]

theorem ediv_pow_succ (n : Int) (i : Nat) : n / 2 ^ (i + 1) = n / 2 ^ i / 2 := by
  rw [Int.pow_succ, Int.ediv_ediv_of_nonneg (Int.le_of_lt (two_pow_pos i))]

/-- one bit taken off -/
theorem cut_bit (n : Int) (i : Nat) : n / 2 ^ i * 2 ^ i = n / 2 ^ (i + 1) * 2 ^ (i + 1) + (if bitAt n i then 2 ^ i else 0) := by
  rw [ediv_pow_succ, Int.pow_succ]
  unfold bitAt
  generalize n / 2 ^ i = q
  generalize (2 : Int) ^ i = p
  have h1 : q = q / 2 * 2 + q % 2 := by omega
  have h2 : q % 2 = 0 ∨ q % 2 = 1 := by omega
  rcases h2 with h | h
  · have e : q = q / 2 * 2 := by omega
    simp only [h]
    have : ((0 : Int) == 1) = false := by decide
    simp only [this, Bool.false_eq_true, if_false, Int.add_zero]
    conv => lhs; rw [e]
    rw [Int.mul_assoc, Int.mul_comm 2 p]
  · have e : q = q / 2 * 2 + 1 := by omega
    simp only [h]
    have : ((1 : Int) == 1) = true := by decide
    simp only [this, if_true]
    conv => lhs; rw [e]
    rw [Int.add_mul, Int.one_mul, Int.mul_assoc, Int.mul_comm 2 p]

theorem shifted_ediv (n : Int) (i : Nat) : n / 2 ^ i * 2 ^ i / 2 ^ i = n / 2 ^ i := Int.mul_ediv_cancel _ (Int.ne_of_gt (two_pow_pos i))

theorem and_flag (n : Int) (i : Nat) : Builtin.bitAnd (n / 2 ^ i * 2 ^ i) (2 ^ i) = if bitAt n i then 2 ^ i else 0 := by
  rw [kbt_bit, shifted_ediv]
  unfold bitAt
  have h2 : n / 2 ^ i % 2 = 0 ∨ n / 2 ^ i % 2 = 1 := by omega
  rcases h2 with h | h <;> simp [h]

theorem xor_flag (n : Int) (i : Nat) (h : bitAt n i = true) : Builtin.bitXor (n / 2 ^ i * 2 ^ i) (2 ^ i) = n / 2 ^ (i + 1) * 2 ^ (i + 1) := by
  rw [bitXor_and, and_flag, if_pos h]
  have := cut_bit n i
  rw [if_pos h] at this
  omega

theorem and_flag_ne (n : Int) (i : Nat) : Builtin.bitAnd (n / 2 ^ i * 2 ^ i) (2 ^ i) ≠ 0 ↔ bitAt n i = true := by
  rw [and_flag]
  have := two_pow_pos i
  by_cases h : bitAt n i = true
  · rw [if_pos h]; constructor
    · intro _; exact h
    · intro _; omega
  · rw [if_neg h]; constructor
    · intro h'; exact absurd rfl h'
    · intro h'; exact absurd h' h

/-- nothing is left above: no further bits -/
theorem bits_rest (n : Int) (i j : Nat) (h : n / 2 ^ i = 0) (hij : i ≤ j) : n / 2 ^ j = 0 ∧ bitsTo n j = bitsTo n i := by
  induction j with
  | zero =>
    have : i = 0 := by omega
    subst this; exact ⟨h, rfl⟩
  | succ j ih =>
    by_cases e : i = j + 1
    · subst e; exact ⟨h, rfl⟩
    · obtain ⟨h1, h2⟩ := ih (by omega)
      refine ⟨by rw [ediv_pow_succ, h1]; decide, ?_⟩
      rw [bitsTo_succ, h2]
      have : bitAt n j = false := by unfold bitAt; rw [h1]; decide
      simp [this]

/-- the loop left by its break -/
theorem pf_break (n : Int) (i : Nat) (hi : i < 32) (hb : bitAt n i = true) (h0 : n / 2 ^ (i + 1) * 2 ^ (i + 1) = 0) :
    (bitsTo n i).map flagWord ++ [flagWord i] = pfWords n := by
  have h1 : n / 2 ^ (i + 1) = 0 := by
    rcases Int.mul_eq_zero.mp h0 with h | h
    · exact h
    · have := two_pow_pos (i + 1); omega
  obtain ⟨h2, h3⟩ := bits_rest n (i + 1) 32 h1 (by omega)
  unfold pfWords tellW
  rw [h3, bitsTo_succ, if_pos hb, h2]
  have : ¬ ((0 : Int) * 2 ^ 32 ≠ 0 ∨ bitsTo n i ++ [i] = []) := by simp
  rw [if_neg this]
  simp

/-- the loop run to its end -/
theorem pf_else (n : Int) (h : n / 2 ^ 32 * 2 ^ 32 = 0 → bitsTo n 32 = []) : (bitsTo n 32).map flagWord ++ [hexT (n / 2 ^ 32 * 2 ^ 32)] = pfWords n := by
  unfold pfWords tellW
  have : n / 2 ^ 32 * 2 ^ 32 ≠ 0 ∨ bitsTo n 32 = [] := by
    by_cases h' : n / 2 ^ 32 * 2 ^ 32 = 0
    · exact .inr (h h')
    · exact .inl h'
  rw [if_pos this]

theorem bitsTo_length (n : Int) (i : Nat) : (bitsTo n i).length ≤ i := by
  have := List.length_filter_le (bitAt n) (List.range i)
  rw [List.length_range] at this
  exact this

/-! sizes -/
theorem toDigits16_length (n : Nat) (h : n < 2 ^ 64) : (Nat.toDigits 16 n).length ≤ 16 :=
  (Nat.length_toDigits_le_iff (by decide) (by decide)).mpr h

theorem ofList_length (l : List Char) : (Str.ofString (String.ofList l)).length = l.length := by
  rw [ofString_len]; simp

theorem hexT_length (i : Int) (h : i.natAbs < 2 ^ 64) : (hexT i).length ≤ 19 := by
  unfold hexT baseText
  rw [Str.length_append, Str.length_append]
  have h4 := ofList_length (Nat.toDigits 16 i.natAbs)
  have h1 := toDigits16_length i.natAbs h
  have h2 : (Str.ofString "0x").length = 2 := by rw [ofString_len]; rfl
  have h3 : (Str.ofString (if i < 0 then "-" else "")).length ≤ 1 := by
    split
    · rw [ofString_len]; decide
    · rw [ofString_len]; decide
  omega

theorem flagWord_length : ∀ k, k < 32 → (flagWord k).length ≤ 19 := by
  have : ((List.range 32).all fun k => decide ((flagWord k).length ≤ 19)) = true := by decide +kernel
  intro k hk
  have := List.all_eq_true.mp this k (List.mem_range.mpr hk)
  exact of_decide_eq_true this
end Mine
end

section
open PySem PySem.W PyProof.Rows PySem.Calls PySem.Spec
set_option maxRecDepth 100000
set_option maxHeartbeats 8000000
namespace Mine
abbrev TT (mean : ExcName → Option Value) (mg mb : Str → Option Value) (h : Heap) : Prop := Top hd.view_39 (looseW hd.view_39 [Str.ofString "COMPILER_FLAG_NAMES"]) mean mg mb h

def flagTab : List (Int × PyData) := [(1, .str (Str.ofString "OPTIMIZED")), (2, .str (Str.ofString "NEWLOCALS")), (4, .str (Str.ofString "VARARGS")), (8, .str (Str.ofString "VARKEYWORDS")), (16, .str (Str.ofString "NESTED")), (32, .str (Str.ofString "GENERATOR")), (64, .str (Str.ofString "NOFREE")), (128, .str (Str.ofString "COROUTINE")), (256, .str (Str.ofString "ITERABLE_COROUTINE")), (512, .str (Str.ofString "ASYNC_GENERATOR"))]

section
variable {prog : Program} {w : World} {A : Around} {E : Value → Shared → Prop} {s : Shared}
theorem shl_one {i : Nat} {t u : Tok} {Q : Value → Shared → Prop} (hi : i < 64) (h : Q (.int (2 ^ i) s.toks) { s with toks := s.toks + 1 }) :
    wpAny (model prog w) A (binaryOp .LShift (.int 1 t) (.int (i : Int) u)) Q E s := by
  refine lshift_int_small (by omega) (by omega) (by decide) ?_
  rw [Int.one_mul, Int.toNat_natCast]; exact h
theorem hex_flag {i : Nat} {t : Tok} {Q : Value → Shared → Prop} (hi : i < 64) (h : Q (.str (hexT (2 ^ i)) s.toks) { s with toks := s.toks + 1 }) :
    wpAny (model prog w) A (call (.builtin "hex") [.int (2 ^ i) t]) Q E s := by
  refine P.hex_of_int h ?_
  have h1 : ((2 : Int) ^ i).natAbs < 2 ^ 64 := by
    rw [Int.natAbs_pow]; exact Nat.pow_lt_pow_right (by decide) hi
  have := hexT_length _ h1
  rw [sizeLine_eq]; show (hexT _).length ≤ _; omega
theorem hex_any {n : Int} {t : Tok} {Q : Value → Shared → Prop} (hn : n.natAbs < 2 ^ 64) (h : Q (.str (hexT n) s.toks) { s with toks := s.toks + 1 }) :
    wpAny (model prog w) A (call (.builtin "hex") [.int n t]) Q E s := by
  refine P.hex_of_int h ?_
  have := hexT_length _ hn
  rw [sizeLine_eq]; show (hexT _).length ≤ _; omega
theorem each_hit {h₀ : Heap} {P : Value → Prop} {els : Prop} {k : Int} : ∀ {D : List (Int × PyData)}, (match KTD.datumAt k D with | some d => KTD.Opened h₀ P (.flat d) | none => els) → KTD.Each h₀ k P els (KTD.asDat D)
  | [], h => h
  | (x, d) :: D, h => by
    show if decide (k = x) = true then KTD.Opened h₀ P (.flat d) else KTD.Each h₀ k P els (KTD.asDat D)
    by_cases e : k = x
    · rw [if_pos (decide_eq_true e)]
      have e' : KTD.datumAt k ((x, d) :: D) = some d := by show (if decide (k = x) = true then some d else KTD.datumAt k D) = some d; rw [if_pos (decide_eq_true e)]
      rw [e'] at h; exact h
    · rw [if_neg (by simpa using e)]
      have e' : KTD.datumAt k ((x, d) :: D) = KTD.datumAt k D := by show (if decide (k = x) = true then some d else KTD.datumAt k D) = _; rw [if_neg (by simpa using e)]
      rw [e'] at h; exact each_hit h
theorem datum_low : ∀ (i : Nat), i < 10 → KTD.datumAt ((2 : Int) ^ i) flagTab = some (.str (flagWord i))
  | 0, _ => rfl
  | 1, _ => rfl
  | 2, _ => rfl
  | 3, _ => rfl
  | 4, _ => rfl
  | 5, _ => rfl
  | 6, _ => rfl
  | 7, _ => rfl
  | 8, _ => rfl
  | 9, _ => rfl
  | n + 10, hn => absurd hn (Nat.not_lt.mpr (Nat.le_add_left 10 n))
theorem datum_high (i : Nat) (hi : 10 ≤ i) : KTD.datumAt ((2 : Int) ^ i) flagTab = none := by
  have h : (1024 : Int) ≤ 2 ^ i := by
    have := Nat.pow_le_pow_right (n := 2) (by decide) hi
    have e : ((2 ^ i : Nat) : Int) = (2 : Int) ^ i := kbt_cast i
    omega
  generalize (2 : Int) ^ i = k at h
  have hne : ∀ c : Int, c < 1024 → decide (k = c) = false := fun c hc => decide_eq_false (by omega)
  simp only [KTD.datumAt, flagTab, hne 1 (by decide), hne 2 (by decide), hne 4 (by decide), hne 8 (by decide), hne 16 (by decide), hne 32 (by decide), hne 64 (by decide), hne 128 (by decide), hne 256 (by decide), hne 512 (by decide), Bool.false_eq_true, if_false]
theorem flagWord_high (i : Nat) (hi : 10 ≤ i) : flagWord i = hexT (2 ^ i) := by
  unfold flagWord
  rw [List.getD_eq_getElem?_getD, List.getElem?_eq_none (by exact hi)]
  rfl
theorem each_flag {h₀ : Heap} {P : Value → Prop} {i : Nat} (hi : i < 32) (h : ∀ t, P (.str (flagWord i) t)) :
    KTD.Each h₀ ((2 : Int) ^ i) P (KTD.Opened h₀ P (.flat (.str (hexT (2 ^ i))))) (KTD.asDat flagTab) := by
  refine each_hit ?_
  by_cases h10 : i < 10
  · rw [datum_low i h10]; exact h
  · rw [datum_high i (by omega)]
    rw [flagWord_high i (by omega)] at h; exact h
theorem get_flag {h₀ : Heap} {D : List (Int × PyData)} {i : Nat} {t u : Tok} {Q : Value → Shared → Prop} (K : KTD.Keyed h₀ 15 D) (hD : D = flagTab) (hk : ∀ b o, h₀.get? b = some o → s.heap.get? b = some o) (hi : i < 32) (h : ∀ t, Q (.str (flagWord i) t) { s with toks := s.toks + 1 }) :
    wpAny (model prog w) A (call (.builtin "dict.get") [.ref 15, .int (2 ^ i) t, .str (hexT (2 ^ i)) u]) Q E s :=
  by subst hD; exact KTD.get2_keyed K hk (PyProof.V.Flat.str _ _) (each_flag hi h)
theorem sum_len_le {ws : List Str} {b : Nat} (h : ∀ x ∈ ws, x.length ≤ b) : (ws.map (·.length)).sum ≤ b * ws.length := by
  induction ws with
  | nil => simp
  | cons x r ih =>
    have h1 := h x (.head _)
    have h2 := ih fun y hy => h y (.tail _ hy)
    simp only [List.map_cons, List.sum_cons, List.length_cons, Nat.mul_add, Nat.mul_one]
    omega
theorem join_words {D : Addr} {vs : List Value} {ws : List Str} {t : Tok} {Q : Value → Shared → Prop} (hl : s.heap.IsList D vs.toArray) (hi : StrsAre vs ws) (hn : ws.length ≤ 1000) (hw : ∀ x ∈ ws, x.length ≤ 30)
    (h : ∀ t' k, Q (.str (joinT ws) t') { s with toks := k }) : wpAny (model prog w) A (call (.builtin "str.join") [.str (Str.ofString ", ") t, .ref D]) Q E s := by
  refine join_listW hl (by simpa using hi) (by decide) ?_ fun t' k => ?_
  · have := sum_len_le hw
    have h2 := Nat.mul_le_mul_left 30 hn
    omega
  · have e : Txt.join (Str.ofString ", ") ws = joinT ws := StrLaws.glued_eq_join _ _
    rw [e]; exact h t' k
theorem size_le {n : Nat} (h : n ≤ 100000) : n ≤ sizeLine := by rw [sizeLine_eq]; omega
end
local macro_rules | `(tactic| size_fits) => `(tactic| (refine size_le ?_; (simp only [List.size_toArray, List.length_append, List.length_cons, List.length_nil, Array.size_push]); omega))
local macro_rules | `(tactic| walk_at "binaryOp LShift int int") => `(tactic| (refine shl_one (by omega) ?_))
local macro_rules | `(tactic| walk_at "call builtin:hex") => `(tactic| first | (refine hex_flag (by omega) ?_) | (refine hex_any (by assumption) ?_))
local macro_rules | `(tactic| walk_at "call builtin:dict.get") => `(tactic| (refine get_flag (by assumption) (by kernel_rfl) (by first | assumption | exact Fr.keep (by assumption)) (by omega) ?_; intro _))

theorem pf_spec {w : World} {mean : ExcName → Option Value} {mg mb : Str → Option Value} {A : Around} {s : Shared} {n : Int} {t : Tok} {Q E : Value → Shared → Prop}
  (X : (hd.heap_39 w.params).In s.heap) (T : TT mean mg mb s.heap) (hroom : A.depth + 2 < recursionLimit) (hu : A.units + 16 < cLine) (hh : A.handled = none) (hn : n.natAbs < 2 ^ 60)
  (hQ : ∀ t h' tk', Ext s.heap h' → Q (.str (pfText n) t) { s with heap := h', toks := tk' }) :
  wpAny (model Challenge.rw_rs0020_01.row.prog w) A (call (.ref 22) [.int n t]) Q E s := by
  revert X
  k_fill
  intro X
  refine wpAny_call (call_plain_ret (a := 22) (by omega) (X 22 _ rfl) rfl T.nolimit (codeRec_of X (by rfl)) rfl (locs rfl) ?_)
  intro h₁ F'
  have N' : News s.heap s.heap.objs.size h₁ [] := News.nil
  dsimp only
  try k_fold
  k_steps
  rename_i l _ _ _ F1 N1
  refine wpAny_For ?_
  k_steps
  (rename IsRange _ _ _ _ _ _ _ _ => R2); (rename Fr _ _ _ _ => F2); (rename News _ _ _ _ => N2)
  refine for_range (h₀ := s.heap) (fun i m news => ∃ tf vs k, m (Str.ofString "flags") = some (.int (n / 2 ^ i * 2 ^ i) tf) ∧ m (Str.ofString "names") = some (.ref l) ∧ news = [(l, listOf (List.toArray vs) k)] ∧ StrsAre vs ((bitsTo n i).map flagWord) ∧ (n / 2 ^ i * 2 ^ i = 0 → bitsTo n i = [])) hh R2 (by decide) F2 N2 ?_ ?_ ?_
  · exact ⟨_, _, _, by rw [Int.pow_zero, Int.ediv_one, Int.mul_one]; rfl, rfl, rfl, StrsAre.nil, fun _ => rfl⟩
  · rintro I hI hL i c t m₁ news₁ oI h tk hi hc ⟨tf, vs, k, hm1, hm2, rfl, hvs, hz⟩ hne F3 N3
    have hci : c = (i : Int) := by omega
    subst hci
    have hi' : i < 32 := by omega
    have hlI : @LT.lt Nat _ l I := hI (l, _) (.head _)
    have hlen : vs.length ≤ 32 := by
      rw [StrsAre.length hvs, List.length_map]
      have := bitsTo_length n i
      omega
    rw [map_at hm2, map_at (m := fun y => if y = Str.ofString "names" then some (.ref l) else m₁ y) (x := Str.ofString "flags") hm1] at F3
    clear F2 N2
    have hw19 : ∀ x ∈ (bitsTo n i).map flagWord ++ [flagWord i], x.length ≤ 30 := by
      intro x hx
      rcases List.mem_append.mp hx with h | h
      · obtain ⟨k, hk, rfl⟩ := List.mem_map.mp h
        have : k < i := List.mem_range.mp (List.mem_filter.mp hk).1
        have := flagWord_length k (by omega)
        omega
      · rw [List.mem_singleton.mp h]
        have := flagWord_length i hi'
        omega
    k_steps
    · (rename Fr _ _ _ _ => Fz); (rename News _ _ _ _ => Nz); (rename (Builtin.bitAnd _ _ ≠ 0) => hA)
      simp only [List.push_toArray] at Nz
      (rename (Builtin.bitXor _ _ ≠ 0) => hX)
      have hb : bitAt n i = true := (and_flag_ne n i).mp hA
      rw [xor_flag n i hb] at hX
      refine TurnEnd.intro Fz Nz (by intro p hp; rw [List.mem_singleton.mp hp]; exact Nat.ne_of_lt hlI) ⟨_, _, _, by rw [← xor_flag n i hb]; rfl, rfl, rfl, ?_, ?_⟩
      · rw [bitsTo_succ, if_pos hb, List.map_append]
        exact StrsAre.append' hvs (.cons _ _ .nil)
      · intro h0; exact absurd h0 hX
    · (rename Fr _ _ _ _ => Fz); (rename News _ _ _ _ => Nz); (rename (Builtin.bitAnd _ _ ≠ 0) => hA)
      simp only [List.push_toArray] at Nz
      (rename (Builtin.bitXor _ _ = 0) => hX)
      have hb : bitAt n i = true := (and_flag_ne n i).mp hA
      rw [xor_flag n i hb] at hX
      refine join_words (ws := (bitsTo n i).map flagWord ++ [flagWord i]) (News.isList Nz (.tail _ (.head _))) (StrsAre.append' hvs (.cons _ _ .nil)) ?_ hw19 fun t' k' => ?_
      · have := bitsTo_length n i
        simp only [List.length_append, List.length_map, List.length_singleton]; omega
      · rw [pf_break n i hi' hb hX]
        exact hQ _ _ _ fun b o e => Fz.keep b o e
    · (rename Fr _ _ _ _ => Fz); (rename News _ _ _ _ => Nz); (rename (Builtin.bitAnd _ _ = 0) => hA)
      have hb : bitAt n i = false := by
        cases hb : bitAt n i with
        | false => rfl
        | true => exact absurd hA ((and_flag_ne n i).mpr hb)
      have hc := cut_bit n i
      rw [hb] at hc
      simp only [Bool.false_eq_true, if_false, Int.add_zero] at hc
      have hbs : bitsTo n (i + 1) = bitsTo n i := by rw [bitsTo_succ, hb]; simp
      refine TurnEnd.intro Fz Nz (by intro p hp; rw [List.mem_singleton.mp hp]; exact Nat.ne_of_lt hlI) ⟨_, vs, k, by rw [← hc]; rfl, rfl, rfl, by rw [hbs]; exact hvs, by rw [← hc, hbs]; exact hz⟩
  · rintro m₁ news₁ h tk ⟨tf, vs, k, hm1, hm2, rfl, hvs, hz⟩ F3 N3
    have e32 : ((32 : Int) - 0).toNat = 32 := rfl
    rw [e32] at hm1 hvs hz
    have hlen : vs.length ≤ 32 := by
      rw [StrsAre.length hvs, List.length_map]
      exact bitsTo_length n 32
    have hfl : (n / 2 ^ 32 * 2 ^ 32).natAbs < 2 ^ 64 := by omega
    rw [map_at hm2, map_at (m := fun y => if y = Str.ofString "names" then some (.ref l) else m₁ y) (x := Str.ofString "flags") hm1] at F3
    clear F2 N2
    k_steps
    (rename Fr _ _ _ _ => Fz); (rename News _ _ _ _ => Nz)
    simp only [List.push_toArray] at Nz
    refine join_words (ws := (bitsTo n 32).map flagWord ++ [hexT (n / 2 ^ 32 * 2 ^ 32)]) (News.isList Nz (.head _)) (StrsAre.append' hvs (.cons _ _ .nil)) ?_ ?_ fun t' k' => ?_
    · have := bitsTo_length n 32
      simp only [List.length_append, List.length_map, List.length_singleton]; omega
    · intro x hx
      rcases List.mem_append.mp hx with h | h
      · obtain ⟨k, hk, rfl⟩ := List.mem_map.mp h
        have : k < 32 := List.mem_range.mp (List.mem_filter.mp hk).1
        have := flagWord_length k (by omega)
        omega
      · rw [List.mem_singleton.mp h]
        have := hexT_length _ hfl
        omega
    · rw [pf_else n hz]
      exact hQ _ _ _ fun b o e => Fz.keep b o e
end Mine
end

section
open PySem PySem.W PyProof.Rows PySem.Calls PySem.Spec PyProof.V
set_option maxRecDepth 100000
set_option autoImplicit false
namespace Mine
abbrev Ok (x : Str) : Prop := PyData.strOk x = true
theorem ok_ofString (x : String) : Ok (Str.ofString x) := by
  unfold Ok PyData.strOk
  rw [Str.ofString_eq_toList]
  show ((x.toList.map Char.toNat).toArray).all _ = true
  rw [List.all_toArray, List.all_map, List.all_eq_true]
  intro c _
  have h := c.valid
  have h2 : c.val.toNat < 0x110000 := by
    rcases h with h | h
    · have : c.val.toNat < 0xd800 := h
      omega
    · exact h.2
  exact decide_eq_true h2
theorem ok_append {x y : Str} (hx : Ok x) (hy : Ok y) : Ok (x ++ y) := by
  unfold Ok PyData.strOk at *
  rw [Str.cps_append, Array.all_append, hx, hy]; rfl
theorem ok_join {sep : Str} (hs : Ok sep) : ∀ ws : List Str, (∀ x ∈ ws, Ok x) → Ok (Str.join sep ws)
  | [], _ => by show PyData.strOk Str.empty = true; decide +kernel
  | [x], h => h x (.head _)
  | x :: y :: r, h => ok_append (ok_append (h x (.head _)) hs) (ok_join hs (y :: r) fun z hz => h z (.tail _ hz))
theorem ok_hexT (i : Int) : Ok (hexT i) := ok_append (ok_append (ok_ofString _) (ok_ofString _)) (ok_ofString _)
theorem ok_flagWord (k : Nat) : Ok (flagWord k) := by
  by_cases h : k < 10
  · have : ((List.range 10).all fun k => PyData.strOk (flagWord k)) = true := by decide +kernel
    exact List.all_eq_true.mp this k (List.mem_range.mpr h)
  · unfold flagWord
    rw [List.getD_eq_getElem?_getD, List.getElem?_eq_none (by exact Nat.le_of_not_lt h)]
    exact ok_hexT _
theorem ok_tellW (ks : List Nat) (r : Int) : ∀ x ∈ tellW ks r, Ok x := by
  intro x hx
  unfold tellW at hx
  rcases List.mem_append.mp hx with h | h
  · obtain ⟨k, _, rfl⟩ := List.mem_map.mp h; exact ok_flagWord k
  · split at h
    · rw [List.mem_singleton.mp h]; exact ok_hexT _
    · cases h
theorem ms_canLayAll0 : ∀ ns : List Str, (∀ x ∈ ns, Ok x) → PyData.canLayAll0 (ns.map PyData.str) = true
  | [], _ => rfl
  | x :: r, h => by simp [PyData.canLayAll0, PyData.canLay0, ms_canLayAll0 r fun y hy => h y (.tail _ hy), h x (.head _)]
theorem ms_depthAll : ∀ ns : List Str, PyData.depthAll (ns.map PyData.str) = 0
  | [] => rfl
  | _ :: r => by simp [PyData.depthAll, PyData.depth, ms_depthAll r]
theorem ms_shaped (ns : List Str) (h : ∀ x ∈ ns, Ok x) : SeqAt.shaped (.list (ns.map PyData.str)) = true := by
  simp [SeqAt.shaped, PyData.canLay0, PyData.depth, ms_canLayAll0 _ h, ms_depthAll]
theorem ms_sameAll : ∀ ns ms : List Str, PySem.Spec.sameAll (ns.map PyData.str) (ms.map PyData.str) = decide (ns = ms)
  | [], [] => by simp [PySem.Spec.sameAll]
  | [], _ :: _ => by simp [PySem.Spec.sameAll]
  | _ :: _, [] => by simp [PySem.Spec.sameAll]
  | a :: r, b :: t => by
    simp only [List.map_cons, PySem.Spec.sameAll, PySem.Spec.same, ms_sameAll r t]
    by_cases h : a = b <;> by_cases h' : r = t <;> simp [h, h']
theorem ms_same (ns ms : List Str) : PySem.Spec.same (.list (ns.map PyData.str)) (.list (ms.map PyData.str)) = decide (ns = ms) := by
  simp only [PySem.Spec.same]; exact ms_sameAll ns ms
section
variable {prog : Program} {w : World} {A : Around} {E : Value → Shared → Prop} {s : Shared} {a b : Addr} {xs ys : List Value} {ns ms : List Str} {Q : Value → Shared → Prop}
theorem ms_eq_strs (ha : s.heap.IsList a xs.toArray) (hb : s.heap.IsList b ys.toArray) (hi : StrsAre xs ns) (hj : StrsAre ys ms) (oi : ∀ x ∈ ns, Ok x) (oj : ∀ x ∈ ms, Ok x) (hu : A.units + 64 < cLine) (h : Q (.bool (decide (ns = ms))) s) :
    wpAny (model prog w) A (compareOp .Eq (.ref a) (.ref b)) Q E s :=
  eq_dataH_same (reads_newData ha hi.carried) (reads_newData hb hj.carried) (ms_shaped _ oi) (ms_shaped _ oj) hu (SeqAt.noMix_of_shape (.list .str) rfl _ _ (list_map_has fun _ => rfl) (list_map_has fun _ => rfl)) (by rw [ms_same]; exact h)
theorem ms_ne_strs (ha : s.heap.IsList a xs.toArray) (hb : s.heap.IsList b ys.toArray) (hi : StrsAre xs ns) (hj : StrsAre ys ms) (oi : ∀ x ∈ ns, Ok x) (oj : ∀ x ∈ ms, Ok x) (hu : A.units + 64 < cLine) (h : Q (.bool (!decide (ns = ms))) s) :
    wpAny (model prog w) A (compareOp .NotEq (.ref a) (.ref b)) Q E s :=
  ne_dataH_same (reads_newData ha hi.carried) (reads_newData hb hj.carried) (ms_shaped _ oi) (ms_shaped _ oj) hu (SeqAt.noMix_of_shape (.list .str) rfl _ _ (list_map_has fun _ => rfl) (list_map_has fun _ => rfl)) (by rw [ms_same]; exact h)
end
end Mine
end

section
open PySem PySem.W PyProof.Rows PySem.Calls PySem.Spec
set_option maxRecDepth 100000
set_option maxHeartbeats 4000000
set_option linter.unusedVariables false
namespace Mine
/-- the ints of a list of places -/
def restOf (ps : List Nat) : Int := ((ps.filter (32 ≤ ·)).map fun p => (2 : Int) ^ p).sum
def lwWords (ps : List Nat) (above : Int) : List Str := tellW (ps.filter (· < 32)) (above + restOf ps)
def lwText (ps : List Nat) (above : Int) : Str := joinT (lwWords ps above)

local macro_rules | `(tactic| size_fits) => `(tactic| (refine size_le ?_; (simp only [List.size_toArray, List.length_append, List.length_cons, List.length_nil, Array.size_push]); omega))

local macro_rules | `(tactic| walk_at "exec For Name Name cons nil") => `(tactic| (k_dflt (refine wpAny_For ?_)))
local macro_rules | `(tactic| walk_at "exec For Name Call cons nil") => `(tactic| (k_dflt (refine wpAny_For ?_)))

section
variable {prog : Program} {w : World} {A : Around} {E : Value → Shared → Prop} {s : Shared}
theorem item_of {value slice : PySem.Expr} {l : Addr} {vs : List Value} {k : Int} {u : Tok} {v : Value} {Q : Value → Shared → Prop}
    (hl : s.heap.IsList l vs.toArray) (h0 : 0 ≤ k) (hhi : k < 2 ^ 62) (hx : vs[k.toNat]? = some v) (h : Q v s)
    (hs : subscripted slice false (.ref l) (.int k u) = operate [.ref l, .int k u] (getItem (.ref l) (.int k u)) := by with_unfolding_all rfl) :
    wpAny (model prog w) A (subscriptTail value slice (.ref l) (.int k u)) Q E s :=
  tail_any hl.typeIs slot_list_getitem.lookup (wpAny_getItem_list hl h0 (by omega) (by simpa using hx) h) hs
theorem name_of {value slice : PySem.Expr} {l : Addr} {vs : List Value} {p : Nat} {u : Tok} {Q : Value → Shared → Prop}
    (hl : s.heap.IsList l vs.toArray) (hv : StrsAre vs nameTab) (hp : p < 10) (h : ∀ t, Q (.str (flagWord p) t) s)
    (hs : subscripted slice false (.ref l) (.int (p : Int) u) = operate [.ref l, .int (p : Int) u] (getItem (.ref l) (.int (p : Int) u)) := by with_unfolding_all rfl) :
    wpAny (model prog w) A (subscriptTail value slice (.ref l) (.int (p : Int) u)) Q E s := by
  have hx : nameTab[p]? = some (flagWord p) := by
    unfold flagWord
    rw [List.getD_eq_getElem?_getD]
    have : p < nameTab.length := hp
    rw [List.getElem?_eq_getElem this]; rfl
  obtain ⟨t, ht⟩ := hv.get p _ hx
  exact item_of hl (by omega) (by omega) (by rw [Int.toNat_natCast]; exact ht) (h t) hs
theorem place_word : ∀ p : Nat, p < 32 → 10 ≤ p → Str.ofString "0x" ++ Txt.item (Str.ofString "1248") ((p : Int).fmod 4) ++ Txt.mul (Str.ofString "0") ((p : Int).fdiv 4) = flagWord p := by
  have : ((List.range 32).all fun (p : Nat) => decide (10 ≤ p → Str.ofString "0x" ++ Txt.item (Str.ofString "1248") ((p : Int).fmod 4) ++ Txt.mul (Str.ofString "0") ((p : Int).fdiv 4) = flagWord p)) = true := by decide +kernel
  intro p hp
  have := List.all_eq_true.mp this p (List.mem_range.mpr hp)
  exact of_decide_eq_true this
theorem add_place {p : Nat} {t u : Tok} {Q : Value → Shared → Prop} (hp : p < 32) (h10 : 10 ≤ p) (h : ∀ t tk, Q (.str (flagWord p) t) { s with toks := tk }) :
    wpAny (model prog w) A (binaryOp .Add (.str (Str.ofString "0x" ++ Txt.item (Str.ofString "1248") ((p : Int).fmod 4)) t) (.str (Txt.mul (Str.ofString "0") ((p : Int).fdiv 4)) u)) Q E s := by
  refine PyProof.Rows.add_str ?_ ?_
  · rw [place_word p hp h10]; exact h
  · rw [← Str.length_append, place_word p hp h10]
    have := flagWord_length p hp
    exact size_le (by omega)
end
local macro_rules | `(tactic| walk_at "binaryOp Add str str") => `(tactic| ((with_reducible show wpAny _ _ (binaryOp _ (Value.str (HAppend.hAppend _ _) _) (Value.str (Txt.mul _ _) _)) _ _ _); (refine add_place (by omega) (by omega) ?_; intro _ _)))
local macro_rules | `(tactic| walk_at "subscriptTail Name Name ref int") => `(tactic| (k_dflt (refine name_of (News.isList (by assumption) (by k_mem)) (by assumption) (by omega) ?_; intro _)))

theorem restOf_le : ∀ ps : List Nat, (∀ p ∈ ps, p < 40) → 0 ≤ restOf ps ∧ restOf ps ≤ (2 ^ 40 : Int) * ps.length
  | [], _ => by decide
  | p :: r, h => by
    obtain ⟨h1, h2⟩ := restOf_le r fun q hq => h q (.tail _ hq)
    have hp := h p (.head _)
    have e : restOf (p :: r) = (if 32 ≤ p then 2 ^ p else 0) + restOf r := by
      unfold restOf
      by_cases h32 : 32 ≤ p <;> simp [h32]
    have hb : (2 : Int) ^ p ≤ 2 ^ 40 := by
      have := Nat.pow_le_pow_right (n := 2) (by decide) (Nat.le_of_lt hp)
      rw [← kbt_cast p]; exact_mod_cast this
    have hpos := two_pow_pos p
    rw [e, List.length_cons]
    split <;> omega
local macro_rules | `(tactic| walk_at "call builtin:hex") => `(tactic| (k_dflt (refine hex_any (by assumption) ?_)))
local macro_rules | `(tactic| walk_at "compareOp Eq ref ref") => `(tactic| (k_dflt (refine ms_eq_strs (xs := _) (ys := []) (ms := []) (News.isList (by assumption) (by k_mem)) (News.isList (by assumption) (by k_mem)) (by assumption) StrsAre.nil (by assumption) (by intro _ h; cases h) (by (simp only [Around.deeper_units]; omega)) ?_)))
theorem lw_end {ps : List Nat} {above : Int} {Q : Str → Prop} (h : Q (lwText ps above)) (hc : above + restOf ps ≠ 0 ∨ ps.filter (· < 32) = []) : Q (joinT ((ps.filter (· < 32)).map flagWord ++ [hexT (above + restOf ps)])) := by
  unfold lwText lwWords tellW at h
  rwa [if_pos hc] at h
theorem lw_end2 {ps : List Nat} {above : Int} {Q : Str → Prop} (h : Q (lwText ps above)) (hc : above + restOf ps = 0) (hc2 : ps.filter (· < 32) ≠ []) : Q (joinT ((ps.filter (· < 32)).map flagWord)) := by
  unfold lwText lwWords tellW at h
  rw [if_neg (by intro h'; rcases h' with h' | h'; exact h' hc; exact hc2 h'), List.append_nil] at h
  exact h

theorem lw_spec {w : World} {mean : ExcName → Option Value} {mg mb : Str → Option Value} {A : Around} {s : Shared} {pl : Addr} {pvs : List Value} {kp : Nat} {ps : List Nat} {above : Int} {t : Tok} {Q E : Value → Shared → Prop}
  (X : (hd.heap_39 w.params).In s.heap) (T : TT mean mg mb s.heap) (hroom : A.depth + 2 < recursionLimit) (hu : A.units + 100 < cLine) (hh : A.handled = none)
  (hpl : s.heap.get? pl = some (listOf pvs.toArray kp)) (hps : IntsAre pvs (ps.map Nat.cast)) (hlen : ps.length ≤ 100) (hp64 : ∀ p ∈ ps, p < 40) (hab : above.natAbs < 2 ^ 50)
  (hQ : ∀ t h' tk', Ext s.heap h' → Q (.str (lwText ps above) t) { s with heap := h', toks := tk' }) :
  wpAny (model Challenge.rw_rs0020_01.row.prog w) A (call (.ref 57) [.ref pl, .int above t]) Q E s := by
  revert X
  k_fill
  intro X
  refine wpAny_call (call_plain_ret (a := 57) (by omega) (X 57 _ rfl) rfl T.nolimit (codeRec_of X (by rfl)) rfl (locs rfl) ?_)
  intro h₁ F'
  have N' : News s.heap s.heap.objs.size h₁ [] := News.nil
  dsimp only
  try k_fold
  k_steps
  (rename Fr _ _ _ _ => F2); (rename News _ _ _ _ => N2)
  rename_i nl _ l0 _ _ nl2 _ l1 _ _ wl _ l2 _ _
  have hz := N2 _ (.tail _ (.tail _ (.head _)))
  obtain ⟨nvs, kn, hz1, hnvs⟩ : ∃ nvs kn, Heap.get? _ nl = some (listOf (List.toArray nvs) kn) ∧ StrsAre nvs nameTab := ⟨_, _, hz.1, by unfold nameTab; repeat constructor⟩
  have N3 : News s.heap s.heap.objs.size _ [(wl, listOf (List.toArray []) 0), (nl, listOf (List.toArray nvs) kn)] := fun p hp => by
    rcases List.mem_cons.mp hp with rfl | hp
    · exact N2 _ (.head _)
    · rw [List.mem_singleton.mp hp]; exact ⟨hz1, hz.2⟩
  clear N2
  refine for_list (h₀ := s.heap) (fun i m news => ∃ tr vs k, m (Str.ofString "rest") = some (.int (above + restOf (ps.take i)) tr) ∧ m (Str.ofString "words") = some (.ref wl) ∧ m (Str.ofString "names") = some (.ref nl) ∧ news = [(wl, listOf (List.toArray vs) k), (nl, listOf (List.toArray nvs) kn)] ∧ StrsAre vs (((ps.take i).filter (· < 32)).map flagWord)) hh (fun h e => ⟨_, e, rfl, _, rfl⟩) (F2.keep _ _ hpl) (fun i m news h _ F N => F.keep _ _ hpl) F2 N3 ?_ ?_ ?_
  · exact ⟨_, [], 0, by rw [List.take_zero]; show _ = some (Value.int (above + 0) _); rw [Int.add_zero]; rfl, rfl, rfl, rfl, .nil⟩
  · rintro I hI hL i v m₁ news₁ oI h tk hv ⟨tr, vs, k, hm1, hm2, hm3, rfl, hvs⟩ hne F3 N4
    obtain ⟨n, tn, rfl, hn⟩ := hps.at i v (by simpa using hv)
    obtain ⟨p, hp, rfl⟩ : ∃ p, ps[i]? = some p ∧ (p : Int) = n := by
      rw [List.getElem?_map] at hn
      cases h : ps[i]? with
      | none => rw [h] at hn; cases hn
      | some p => rw [h] at hn; exact ⟨p, rfl, Option.some.inj hn⟩
    have hp40 : p < 40 := hp64 p (List.mem_of_getElem? hp)
    have hi : i < ps.length := (List.getElem?_eq_some_iff.mp hp).1
    have htake : ps.take (i + 1) = ps.take i ++ [p] := by rw [List.take_add_one, hp]; rfl
    have hwI : @LT.lt Nat _ wl I := hI (wl, _) (.head _)
    have hnI : @LT.lt Nat _ nl I := hI (nl, _) (.tail _ (.head _))
    have hlenv : vs.length ≤ 100 := by
      rw [StrsAre.length hvs, List.length_map]
      have h1 := List.length_filter_le (fun x => decide (x < 32)) (ps.take i)
      have h2 := List.length_take_le i ps
      omega
    rw [map_at hm3, map_at (m := fun y => if y = Str.ofString "names" then some (.ref nl) else m₁ y) (x := Str.ofString "words") hm2, map_at (m := fun y => if y = Str.ofString "words" then some (.ref wl) else if y = Str.ofString "names" then some (.ref nl) else m₁ y) (x := Str.ofString "rest") hm1] at F3
    clear F2 N3
    have hrest : ∀ q, restOf (ps.take i ++ [q]) = restOf (ps.take i) + (if 32 ≤ q then 2 ^ q else 0) := by
      intro q
      unfold restOf
      rw [List.filter_append, List.map_append, List.sum_append]
      by_cases h32 : 32 ≤ q <;> simp [h32]
    have hne' : ∀ (vs' : List Value) (k' : Nat), ∀ q ∈ [(wl, listOf vs'.toArray k'), (nl, listOf nvs.toArray kn)], q.1 ≠ I := by
      intro vs' k' q hq
      rcases List.mem_cons.mp hq with rfl | hq
      · exact Nat.ne_of_lt hwI
      · rw [List.mem_singleton.mp hq]; exact Nat.ne_of_lt hnI
    have hlow : p < 32 → restOf (ps.take (i + 1)) = restOf (ps.take i) := fun h => by
      rw [htake, hrest, if_neg (by omega)]; omega
    have hflt : p < 32 → ∀ t, StrsAre (vs ++ [.str (flagWord p) t]) (((ps.take (i + 1)).filter (· < 32)).map flagWord) := fun h t => by
      rw [htake, List.filter_append, List.map_append]
      simp only [List.filter_cons, h, decide_true, if_true, List.filter_nil, List.map_cons, List.map_nil]
      exact StrsAre.append' hvs (.cons _ _ .nil)
    k_steps
    all_goals (rename Fr _ _ _ _ => Fz)
    all_goals (rename News _ _ _ _ => Nz)
    all_goals try simp only [List.push_toArray] at Nz
    · have hp32 : p < 32 := by omega
      refine TurnEnd.intro Fz Nz (hne' _ _) ⟨_, _, _, by rw [hlow hp32]; rfl, rfl, rfl, rfl, hflt hp32 _⟩
    · have hp32 : p < 32 := by omega
      refine TurnEnd.intro Fz Nz (hne' _ _) ⟨_, _, _, by rw [hlow hp32]; rfl, rfl, rfl, rfl, hflt hp32 _⟩
    · have hp32 : 32 ≤ p := by omega
      refine TurnEnd.intro Fz Nz (hne' _ _) ⟨_, vs, _, by rw [htake, hrest, if_pos hp32, ← Int.add_assoc]; rfl, rfl, rfl, rfl, ?_⟩
      rw [htake, List.filter_append, List.map_append]
      simp only [List.filter_cons, show ¬ p < 32 from by omega, decide_false, Bool.false_eq_true, if_false, List.filter_nil, List.map_nil, List.append_nil]
      exact hvs
  · rintro m₁ news₁ h tk ⟨tr, vs, k, hm1, hm2, hm3, rfl, hvs⟩ F3 N4
    have esz : pvs.toArray.size = ps.length := by rw [List.size_toArray, hps.length, List.length_map]
    rw [esz, List.take_length] at hm1 hvs
    rw [map_at hm3, map_at (m := fun y => if y = Str.ofString "names" then some (.ref nl) else m₁ y) (x := Str.ofString "words") hm2, map_at (m := fun y => if y = Str.ofString "words" then some (.ref wl) else if y = Str.ofString "names" then some (.ref nl) else m₁ y) (x := Str.ofString "rest") hm1] at F3
    clear F2 N3
    have hlenv : vs.length ≤ 100 := by
      rw [StrsAre.length hvs, List.length_map]
      have h1 := List.length_filter_le (fun x => decide (x < 32)) ps
      omega
    have hokv : ∀ x ∈ (ps.filter (· < 32)).map flagWord, Ok x := by
      intro x hx; obtain ⟨k, _, rfl⟩ := List.mem_map.mp hx; exact ok_flagWord k
    have hfl : (above + restOf ps).natAbs < 2 ^ 64 := by
      obtain ⟨h1, h2⟩ := restOf_le ps hp64
      omega
    have hlf : (ps.filter (· < 32)).length ≤ 100 := by
      have h1 := List.length_filter_le (fun x => decide (x < 32)) ps
      omega
    have hw1 : ∀ x ∈ (ps.filter (· < 32)).map flagWord, x.length ≤ 30 := by
      intro x hx
      obtain ⟨k, hk, rfl⟩ := List.mem_map.mp hx
      have : k < 32 := of_decide_eq_true (List.mem_filter.mp hk).2
      have := flagWord_length k this
      omega
    have hw2 : ∀ x ∈ (ps.filter (· < 32)).map flagWord ++ [hexT (above + restOf ps)], x.length ≤ 30 := by
      intro x hx
      rcases List.mem_append.mp hx with h | h
      · exact hw1 x h
      · rw [List.mem_singleton.mp h]
        have := hexT_length _ hfl
        omega
    k_steps
    all_goals (rename Fr _ _ _ _ => Fz)
    all_goals (rename News _ _ _ _ => Nz)
    all_goals try simp only [List.push_toArray] at Nz
    · (rename (above + restOf ps ≠ 0) => hc)
      refine join_words (ws := (ps.filter (· < 32)).map flagWord ++ [hexT (above + restOf ps)]) (News.isList Nz (by k_mem)) (StrsAre.append' hvs (.cons _ _ .nil)) (by simp only [List.length_append, List.length_map, List.length_singleton]; omega) hw2 fun t' k' => ?_
      exact lw_end (Q := fun x => Q (.str x t') _) (hQ _ _ _ fun b o e => Fz.keep b o e) (.inl hc)
    · (rename (decide (_ = _) = true) => hc)
      refine join_words (ws := (ps.filter (· < 32)).map flagWord ++ [hexT (above + restOf ps)]) (News.isList Nz (by k_mem)) (StrsAre.append' hvs (.cons _ _ .nil)) (by simp only [List.length_append, List.length_map, List.length_singleton]; omega) hw2 fun t' k' => ?_
      exact lw_end (Q := fun x => Q (.str x t') _) (hQ _ _ _ fun b o e => Fz.keep b o e) (.inr (List.map_eq_nil_iff.mp (of_decide_eq_true hc)))
    · (rename (decide (_ = _) = false) => hc)
      refine join_words (ws := (ps.filter (· < 32)).map flagWord) (News.isList Nz (by k_mem)) hvs (by simp only [List.length_map]; omega) hw1 fun t' k' => ?_
      exact lw_end2 (Q := fun x => Q (.str x t') _) (hQ _ _ _ fun b o e => Fz.keep b o e) (by assumption) (fun h => of_decide_eq_false hc (List.map_eq_nil_iff.mpr h))
end Mine
end

section
open PySem PySem.W PyProof.Rows PySem.Calls PySem.Spec
set_option maxRecDepth 100000
set_option maxHeartbeats 4000000
set_option linter.unusedVariables false
namespace Mine
/-- the row agrees with itself moved by st and its length is a multiple of st -/
def reps (ns : List Int) (st : Nat) : Bool := decide (ns.length % st = 0) && decide (ns.drop st = ns.take (ns.length - st))
def primB (ns : List Int) : Bool := (List.range ns.length).all fun i => i == 0 || !reps ns i

local macro_rules | `(tactic| walk_at "exec For Name Name cons nil") => `(tactic| (k_dflt (refine wpAny_For ?_)))
local macro_rules | `(tactic| walk_at "exec For Name Call cons nil") => `(tactic| (k_dflt (refine wpAny_For ?_)))

local macro_rules | `(tactic| kmk_nums) => `(tactic| first
  | ((with_reducible show IntsAre (Array.toList (slicePick _ (some _) none none)) _); exact kmk_from (by l_ints) (by omega))
  | ((with_reducible show IntsAre (Array.toList (slicePick _ none (some _) none)) _); first | exact kmk_upto (by l_ints) (by omega) | exact kmk_upto_neg (by l_ints) (by omega))
  | ((with_reducible show IntsAre (Array.toList (slicePick _ (some _) (some _) none)) _); exact kmk_run (by l_ints) (by omega) (by omega)))
theorem fmod_nat (a b : Nat) : (a : Int).fmod (b : Int) = ((a % b : Nat) : Int) := by
  rw [Int.fmod_eq_emod_of_nonneg _ (by omega)]; rfl
theorem pr_no {ns : List Int} {Q : Bool → Prop} {i : Nat} (hr : reps ns i = true) (h : Q (primB ns)) (i' : Nat) (h1 : 1 ≤ i) (h2 : i < ns.length) : Q false := by
  have : primB ns = false := by
    unfold primB
    rw [List.all_eq_false]
    refine ⟨i, List.mem_range.mpr h2, ?_⟩
    rw [hr]
    have : (i == 0) = false := by simp; omega
    rw [this]; decide
  rwa [this] at h
theorem pr_yes {ns : List Int} {i : Nat} (ha : (ns.length : Int).fmod ((i : Nat) : Int) = 0) (hb : ns.drop ((i : Nat) : Int).toNat = ns.take (ns.length - ((i : Nat) : Int).toNat)) : reps ns i = true := by
  rw [Int.toNat_natCast] at hb
  unfold reps
  rw [decide_eq_true hb, Bool.and_true]
  refine decide_eq_true ?_
  rw [fmod_nat] at ha
  exact_mod_cast ha

theorem pr_spec {w : World} {mean : ExcName → Option Value} {mg mb : Str → Option Value} {A : Around} {s : Shared} {rl : Addr} {rvs : List Value} {kr : Nat} {ns : List Int} {Q E : Value → Shared → Prop}
  (X : (hd.heap_39 w.params).In s.heap) (T : TT mean mg mb s.heap) (hroom : A.depth + 2 < recursionLimit) (hu : A.units + 100 < cLine) (hh : A.handled = none)
  (hrl : s.heap.get? rl = some (listOf rvs.toArray kr)) (hns : IntsAre rvs ns) (hlen : ns.length ≤ 1000) (h1 : 1 ≤ ns.length)
  (hQ : ∀ h' tk', Ext s.heap h' → Q (.bool (primB ns)) { s with heap := h', toks := tk' }) :
  wpAny (model Challenge.rw_rs0020_01.row.prog w) A (call (.ref 43) [.ref rl]) Q E s := by
  revert X
  k_fill
  intro X
  have hL : s.heap.IsList rl rvs.toArray := ⟨_, hrl, rfl, _, rfl⟩
  have hvl : rvs.length = ns.length := hns.length
  refine wpAny_call (call_plain_ret (a := 43) (by omega) (X 43 _ rfl) rfl T.nolimit (codeRec_of X (by rfl)) rfl (locs rfl) ?_)
  intro h₁ F'
  have N' : News s.heap s.heap.objs.size h₁ [] := News.nil
  dsimp only
  try k_fold
  k_steps
  (rename IsRange _ _ _ _ _ _ _ _ => R2); (rename Fr _ _ _ _ => F2); (rename News _ _ _ _ => N2)
  refine for_range (h₀ := s.heap) (fun i m news => m (Str.ofString "row") = some (.ref rl) ∧ news = [] ∧ ∀ st, 1 ≤ st → st ≤ i → reps ns st = false) hh R2 (small_one (by omega) (by omega) (by omega) (by omega)) F2 N2 ⟨rfl, rfl, fun st h h' => by omega⟩ ?_ ?_
  · rintro I hI hLI i c t m₁ news₁ oI h tk hi hc ⟨hm1, rfl, hz⟩ hne F3 N3
    have hc' : c = ((i + 1 : Nat) : Int) := by omega
    subst hc'
    have hi' : i + 1 < ns.length := by omega
    rw [map_at hm1] at F3
    clear F2 N2
    have hstep : ∀ st, 1 ≤ st → st ≤ i + 1 → reps ns (i + 1) = false → reps ns st = false := fun st ha hb hr => by
      by_cases e : st = i + 1
      · rw [e]; exact hr
      · exact hz st ha (by omega)
    k_steps
    all_goals (rename Fr _ _ _ _ => Fz)
    all_goals (rename News _ _ _ _ => Nz)
    · (rename (List.drop _ _ = List.take _ _) => hb); (rename (Int.fmod _ _ = 0) => ha)
      exact pr_no (Q := fun b => Q (.bool b) _) (pr_yes ha hb) (hQ _ _ fun b o e => Fz.keep b o e) 0 (by omega) hi'
    · (rename (¬ List.drop _ _ = List.take _ _) => hb)
      refine TurnEnd.intro2 (news' := []) Fz Nz (by k_mem) (by intro p hp; cases hp) (by intro p hp; cases hp) ⟨rfl, rfl, fun st h1 h2 => hstep st h1 h2 ?_⟩
      rw [Int.toNat_natCast] at hb
      unfold reps; rw [decide_eq_false hb, Bool.and_false]
    · (rename (Int.fmod _ _ ≠ 0) => ha)
      refine TurnEnd.intro2 (news' := []) Fz Nz (by k_mem) (by intro p hp; cases hp) (by intro p hp; cases hp) ⟨rfl, rfl, fun st h1 h2 => hstep st h1 h2 ?_⟩
      have ha' : ¬ ns.length % (i + 1) = 0 := fun e => ha (by rw [fmod_nat, e]; rfl)
      unfold reps; rw [decide_eq_false ha', Bool.false_and]
  · rintro m₁ news₁ h tk ⟨hm1, rfl, hz⟩ F3 N3
    clear F2 N2
    rw [map_at hm1] at F3
    k_steps
    (rename Fr _ _ _ _ => Fz)
    have hp : primB ns = true := by
      unfold primB
      rw [List.all_eq_true]
      intro i hi
      have hi' := List.mem_range.mp hi
      by_cases e : i = 0
      · subst e; rfl
      · rw [hz i (by omega) (by omega)]; simp
    rw [hp] at hQ
    exact hQ _ _ fun b o e => Fz.keep b o e
end Mine
end

section
set_option autoImplicit false
set_option linter.unusedSectionVars false
namespace Mine
section
variable {α : Type} [DecidableEq α]
/-- the first c items of w are the last c of its first n -/
abbrev Bord (w : List α) (n c : Nat) : Prop := c < n ∧ ∀ i, i < c → w[i]? = w[n - c + i]?
def lbFrom (w : List α) (n : Nat) : Nat → Nat
  | 0 => 0
  | c + 1 => if Bord w n (c + 1) then c + 1 else lbFrom w n c
/-- the longest border of the first n items -/
def lb (w : List α) (n : Nat) : Nat := lbFrom w n n

theorem bord_zero {w : List α} {n : Nat} (h : 0 < n) : Bord w n 0 := ⟨h, fun _ hi => absurd hi (Nat.not_lt_zero _)⟩
theorem lbFrom_spec (w : List α) {n : Nat} (hn : 0 < n) : ∀ c, Bord w n (lbFrom w n c) ∧ lbFrom w n c ≤ c ∧ ∀ d, d ≤ c → Bord w n d → d ≤ lbFrom w n c
  | 0 => ⟨bord_zero hn, Nat.le_refl _, fun d hd _ => hd⟩
  | c + 1 => by
    obtain ⟨h1, h2, h3⟩ := lbFrom_spec w hn c
    unfold lbFrom
    by_cases h : Bord w n (c + 1)
    · rw [if_pos h]; exact ⟨h, Nat.le_refl _, fun d hd _ => hd⟩
    · rw [if_neg h]
      refine ⟨h1, by omega, fun d hd hb => ?_⟩
      by_cases e : d = c + 1
      · subst e; exact absurd hb h
      · exact h3 d (by omega) hb
theorem lb_bord (w : List α) {n : Nat} (hn : 0 < n) : Bord w n (lb w n) := (lbFrom_spec w hn n).1
theorem lb_lt (w : List α) {n : Nat} (hn : 0 < n) : lb w n < n := (lb_bord w hn).1
theorem lb_max (w : List α) {n c : Nat} (hb : Bord w n c) : c ≤ lb w n := by
  have hn : 0 < n := Nat.lt_of_le_of_lt (Nat.zero_le _) hb.1
  exact (lbFrom_spec w hn n).2.2 c (Nat.le_of_lt hb.1) hb
theorem lb_unique {w : List α} {n c : Nat} (hb : Bord w n c) (hm : ∀ d, Bord w n d → d ≤ c) : lb w n = c := by
  have hn : 0 < n := Nat.lt_of_le_of_lt (Nat.zero_le _) hb.1
  exact Nat.le_antisymm (hm _ (lb_bord w hn)) (lb_max w hb)
theorem lb_one (w : List α) : lb w 1 = 0 := by have := lb_lt w (n := 1) (by decide); omega

/-- a border of a border -/
theorem bord_trans {w : List α} {n b c : Nat} (h1 : Bord w n b) (h2 : Bord w b c) : Bord w n c := by
  refine ⟨Nat.lt_trans h2.1 h1.1, fun i hi => ?_⟩
  have e1 := h2.2 i hi
  have hb := h1.1; have hc := h2.1
  have e2 := h1.2 (b - c + i) (by omega)
  rw [e1, e2]; congr 1; omega
/-- two borders: the shorter is one of the longer -/
theorem bord_of {w : List α} {n b c : Nat} (h1 : Bord w n b) (h2 : Bord w n c) (h : c < b) : Bord w b c := by
  refine ⟨h, fun i hi => ?_⟩
  have hb := h1.1
  have e2 := h1.2 (b - c + i) (by omega)
  rw [h2.2 i hi, e2]; congr 1; omega
theorem bord_shrink {w : List α} {n c : Nat} (h : Bord w (n + 1) (c + 1)) : (0 < n → Bord w n c) ∧ w[c]? = w[n]? := by
  have hc := h.1
  refine ⟨fun _ => ⟨by omega, fun i hi => ?_⟩, ?_⟩
  · rw [h.2 i (by omega)]; congr 1; omega
  · rw [h.2 c (by omega)]; congr 1; omega
theorem bord_grow {w : List α} {n c : Nat} (h : Bord w n c) (e : w[n]? = w[c]?) : Bord w (n + 1) (c + 1) := by
  have hc := h.1
  refine ⟨by omega, fun i hi => ?_⟩
  by_cases h' : i < c
  · rw [h.2 i h']; congr 1; omega
  · have : i = c := by omega
    subst this
    rw [← e]; congr 1; omega

/-! the steps of the loop -/
/-- what is known in the while: idx is a border, no border of one more is longer -/
def Try (w : List α) (q idx : Nat) : Prop := Bord w q idx ∧ ∀ c, Bord w (q + 1) c → c ≤ idx + 1
theorem try_start (w : List α) {q : Nat} (hq : 0 < q) : Try w q (lb w q) := by
  refine ⟨lb_bord w hq, fun c hc => ?_⟩
  cases c with
  | zero => omega
  | succ c => have := lb_max w ((bord_shrink hc).1 hq); omega
theorem try_next {w : List α} {q idx : Nat} (h : Try w q idx) (hi : idx ≠ 0) (hne : w[q]? ≠ w[idx]?) : Try w q (lb w idx) := by
  have h0 : 0 < idx := by omega
  refine ⟨bord_trans h.1 (lb_bord w h0), fun c hc => ?_⟩
  have h1 := h.2 c hc
  have hq := h.1.1
  cases c with
  | zero => omega
  | succ c =>
    obtain ⟨ha, hb⟩ := bord_shrink hc
    have hcb := ha (by omega)
    have hlt : c < idx := by
      rcases Nat.lt_or_ge c idx with h | h
      · exact h
      · have e : c = idx := by omega
        subst e; exact absurd hb.symm hne
    have := lb_max w (bord_of h.1 hcb hlt)
    omega
theorem try_none {w : List α} {q : Nat} (h : Try w q 0) (hne : w[q]? ≠ w[0]?) : lb w (q + 1) = 0 := by
  refine lb_unique (bord_zero (by omega)) fun d hd => ?_
  have h1 := h.2 d hd
  cases d with
  | zero => omega
  | succ d =>
    have e : d = 0 := by omega
    subst e; exact absurd (bord_shrink hd).2.symm hne
theorem try_hit {w : List α} {q idx : Nat} (h : Try w q idx) (e : w[q]? = w[idx]?) : lb w (q + 1) = idx + 1 :=
  lb_unique (bord_grow h.1 e) h.2
/-- the table, filled up to j -/
def tabTo (w : List α) (j : Nat) : List Int := (List.range w.length).map fun q => if q < j then ((lb w (q + 1) : Nat) : Int) else 0
def tab (w : List α) : List Int := (List.range w.length).map fun q => ((lb w (q + 1) : Nat) : Int)
theorem tabTo_length (w : List α) (j : Nat) : (tabTo w j).length = w.length := by simp [tabTo]
theorem tabTo_get (w : List α) {j q : Nat} (hq : q < w.length) (hj : q < j) : (tabTo w j)[q]? = some ((lb w (q + 1) : Nat) : Int) := by
  simp [tabTo, hq, hj]
theorem tabTo_set (w : List α) {j : Nat} (_hj : j < w.length) : (tabTo w j).set j ((lb w (j + 1) : Nat) : Int) = tabTo w (j + 1) := by
  apply List.ext_getElem?
  intro q
  simp only [tabTo, List.getElem?_set, List.length_map, List.length_range, List.getElem?_map]
  by_cases h : j = q
  · subst h
    simp [_hj]
  · simp only [if_neg h]
    by_cases hq : q < w.length
    · simp only [List.getElem?_range hq, Option.map_some]
      by_cases h2 : q < j
      · simp [h2, Nat.lt_succ_of_lt h2]
      · have : ¬ q < j + 1 := by omega
        simp [h2, this]
    · rw [List.getElem?_eq_none (by simpa using hq)]; rfl
theorem tabTo_full (w : List α) {j : Nat} (hj : w.length ≤ j) : tabTo w j = tab w := by
  unfold tabTo tab
  apply List.map_congr_left
  intro q hq
  have := List.mem_range.mp hq
  rw [if_pos (by omega)]
theorem tabTo_one (w : List α) : tabTo w 1 = List.replicate w.length 0 := by
  apply List.ext_getElem?
  intro q
  simp only [tabTo, List.getElem?_map, List.getElem?_replicate]
  by_cases hq : q < w.length
  · simp only [List.getElem?_range hq, Option.map_some, if_pos hq]
    by_cases h2 : q < 1
    · have : q = 0 := by omega
      subst this
      rw [if_pos h2, lb_one]; rfl
    · rw [if_neg h2]
  · rw [List.getElem?_eq_none (by simpa using hq), if_neg hq]; rfl
end
end Mine
end

section
open PySem PySem.W PyProof.Rows PySem.Calls PySem.Spec
set_option maxRecDepth 100000
set_option maxHeartbeats 4000000
set_option linter.unusedVariables false
namespace Mine
/-- the values stand for the items of w, as far as != tells -/
structure Cmp {α : Type} [DecidableEq α] (prog : Program) (wd : World) (vs : List Value) (w : List α) : Prop where
  len : vs.length = w.length
  ne : ∀ (i j : Nat), i < w.length → j < w.length → ∀ (A : Around) (s : Shared) (Q E : Value → Shared → Prop), Q (.bool (!decide (w[i]? = w[j]?))) s → wpAny (model prog wd) A (compareOp .NotEq (vs.getD i .none) (vs.getD j .none)) Q E s

section
variable {prog : Program} {w : World} {A : Around} {E : Value → Shared → Prop} {s : Shared}
theorem item_any {value slice : PySem.Expr} {l : Addr} {vs : List Value} {k : Int} {i : Nat} {u : Tok} {Q : Value → Shared → Prop}
    (hl : s.heap.IsList l vs.toArray) (hk : k = (i : Int)) (hi : i < vs.length) (hhi : i < 2 ^ 60) (h : Q (vs.getD i .none) s)
    (hs : subscripted slice false (.ref l) (.int k u) = operate [.ref l, .int k u] (getItem (.ref l) (.int k u)) := by with_unfolding_all rfl) :
    wpAny (model prog w) A (subscriptTail value slice (.ref l) (.int k u)) Q E s := by
  subst hk
  refine tail_any hl.typeIs slot_list_getitem.lookup (wpAny_getItem_list hl (x := vs.getD i .none) (by omega) (by omega) ?_ h) hs
  simp [hi, List.getD_eq_getElem?_getD]
theorem item_int {value slice : PySem.Expr} {l : Addr} {vs : List Value} {ns : List Int} {k n : Int} {i : Nat} {u : Tok} {Q : Value → Shared → Prop}
    (hl : s.heap.IsList l vs.toArray) (hv : IntsAre vs ns) (hk : k = (i : Int)) (hi : ns[i]? = some n) (hhi : i < 2 ^ 60) (h : ∀ t, Q (.int n t) s)
    (hs : subscripted slice false (.ref l) (.int k u) = operate [.ref l, .int k u] (getItem (.ref l) (.int k u)) := by with_unfolding_all rfl) :
    wpAny (model prog w) A (subscriptTail value slice (.ref l) (.int k u)) Q E s := by
  subst hk
  obtain ⟨t, ht⟩ := hv.get i n hi
  refine tail_any hl.typeIs slot_list_getitem.lookup (wpAny_getItem_list hl (x := .int n t) (by omega) (by omega) (by simpa using ht) (h t)) hs
theorem item_prev {α : Type} [DecidableEq α] {ws : List α} {value slice : PySem.Expr} {l : Addr} {vs : List Value} {j j' : Nat} {u : Tok} {Q : Value → Shared → Prop}
    (hl : s.heap.IsList l vs.toArray) (hv : IntsAre vs (tabTo ws j')) (h1 : 1 ≤ j) (h2 : j ≤ j') (h3 : j' ≤ ws.length) (h4 : ws.length ≤ 1000) (h : ∀ t, Q (.int ((lb ws j : Nat) : Int) t) s)
    (hs : subscripted slice false (.ref l) (.int ((j : Int) - 1) u) = operate [.ref l, .int ((j : Int) - 1) u] (getItem (.ref l) (.int ((j : Int) - 1) u)) := by with_unfolding_all rfl) :
    wpAny (model prog w) A (subscriptTail value slice (.ref l) (.int ((j : Int) - 1) u)) Q E s := by
  have e := tabTo_get ws (j := j') (q := j - 1) (by omega) (by omega)
  rw [show j - 1 + 1 = j from by omega] at e
  exact item_int hl hv (by omega) e (by omega) h hs
theorem item_cmp {α : Type} [DecidableEq α] {ws : List α} {value slice : PySem.Expr} {l : Addr} {vs : List Value} {i : Nat} {u : Tok} {Q : Value → Shared → Prop}
    (hl : s.heap.IsList l vs.toArray) (C : Cmp prog w vs ws) (hi : i < ws.length) (h4 : ws.length ≤ 1000) (h : Q (vs.getD i .none) s)
    (hs : subscripted slice false (.ref l) (.int (i : Int) u) = operate [.ref l, .int (i : Int) u] (getItem (.ref l) (.int (i : Int) u)) := by with_unfolding_all rfl) :
    wpAny (model prog w) A (subscriptTail value slice (.ref l) (.int (i : Int) u)) Q E s :=
  item_any hl rfl (by rw [C.len]; exact hi) (by omega) h hs
theorem ne_cmp {α : Type} [DecidableEq α] {ws : List α} {vs : List Value} {i j : Nat} {Q : Value → Shared → Prop} (C : Cmp prog w vs ws) (hi : i < ws.length) (hj : j < ws.length)
    (h : Q (.bool (!decide (ws[i]? = ws[j]?))) s) : wpAny (model prog w) A (compareOp .NotEq (vs.getD i .none) (vs.getD j .none)) Q E s := C.ne i j hi hj A s Q E h
theorem set_tab {α : Type} [DecidableEq α] {ws : List α} {h₀ : Heap} {L l I : Addr} {oI : Obj} {m : Str → Option Value} {vs : List Value} {k j : Nat} {x : Int} {t u : Tok} {Q : Unit → Shared → Prop}
    (F : Fr h₀ L s.heap m) (N : News h₀ L s.heap [(I, oI), (l, listOf vs.toArray k)]) (hlI : @LT.lt Nat _ l I) (hv : IntsAre vs (tabTo ws j)) (hj : j < ws.length) (h4 : ws.length ≤ 1000) (hx : x = ((lb ws (j + 1) : Nat) : Int))
    (h : ∀ vs' h', Fr h₀ L h' m → News h₀ L h' [(I, oI), (l, listOf (List.toArray vs') k)] → IntsAre vs' (tabTo ws (j + 1)) → Q () { s with heap := h' }) :
    wpAny (model prog w) A (setItem (.ref l) (.int (j : Int) t) (.int x u)) Q E s := by
  refine ksa_set (k := (j : Int)) F N (Upd.tail (Nat.ne_of_gt hlI) (Upd.head (fun p hp => nomatch hp))) hv (by omega) (by rw [tabTo_length]; omega) (by omega) ?_
  intro h' F' N' hI _ _
  refine h _ h' F' N' ?_
  rw [Int.toNat_natCast, hx, tabTo_set ws hj] at hI
  rw [Int.toNat_natCast, hx]
  exact hI
theorem len_cmp {l : Addr} {vs : List Value} {n : Nat} {Q : Value → Shared → Prop} (hl : s.heap.IsList l vs.toArray) (hn : vs.length = n) (hs : n ≤ 100000) (h : ∀ t tk, Q (.int (n : Int) t) { s with toks := tk }) :
    wpAny (model prog w) A (call (.builtin "len") [.ref l]) Q E s := by
  refine len_list hl (by rw [List.size_toArray]; omega) ?_
  rw [List.size_toArray, hn]; exact h _ _
theorem zeros {h₀ : Heap} {L l : Addr} {m : Str → Option Value} {news : List (Addr × Obj)} {v t u : Tok} {n : Nat} {Q : Value → Shared → Prop} (Fm : Fr h₀ L s.heap m) (N : News h₀ L s.heap news) (hm : (l, listOf (List.toArray [.int 0 t]) v) ∈ news) (hn : n ≤ 1000)
    (h : ∀ D vs h', Fr h₀ L h' m → News h₀ L h' ((D, listOf (List.toArray vs) 0) :: news) → IntsAre vs (List.replicate n 0) → Q (.ref D) { s with heap := h' }) : wpAny (model prog w) A (binaryOp .Mult (.ref l) (.int (n : Int) u)) Q E s := by
  refine KM.mul Fm N (News.isList N hm) (.cons 0 t .nil) (by omega) (by omega) (by simp; omega) ?_
  intro D h' F' N' _ hI _ _ _ _ _
  refine h D _ h' F' N' ?_
  have e : (List.replicate ((n : Int).toNat) [(0 : Int)]).flatten = List.replicate n 0 := by rw [Int.toNat_natCast, List.flatten_replicate_singleton]
  rw [e] at hI; exact hI
end
local macro_rules | `(tactic| walk_at "call builtin:len") => `(tactic| (k_dflt (refine len_cmp (Fr.lst (by assumption) (by assumption)) (by assumption) (by omega) ?_; intro _ _)))
local macro_rules | `(tactic| walk_at "binaryOp Mult ref int") => `(tactic| (k_dflt (refine zeros (by assumption) (by assumption) (by k_mem) (by omega) ?_; intro D' vs' h' F' N' hI')))

local macro_rules | `(tactic| walk_at "subscriptTail Name BinOp ref int") => `(tactic| (k_dflt (refine item_prev (News.isList (by assumption) (by k_mem)) (by assumption) (by omega) (by omega) (by omega) (by omega) ?_; intro _)))
local macro_rules | `(tactic| walk_at "subscriptTail Name Name ref int") => `(tactic| (k_dflt (refine item_cmp (Fr.lst (by assumption) (by assumption)) (by assumption) (by omega) (by omega) ?_)))
local macro_rules | `(tactic| walk_at "compareOp NotEq") => `(tactic| (k_dflt (refine ne_cmp (by assumption) (by omega) (by omega) ?_)))
def Halt (P : Prop) : Prop := P
theorem Halt.out {P : Prop} (h : Halt P) : P := h
local macro_rules | `(tactic| walk_at "exec While") => `(tactic| (refine Halt.out ?_))
local macro_rules | `(tactic| walk_at "exec While Compare") => `(tactic| (refine Halt.out ?_))
local macro_rules | `(tactic| walk_at "last exec While") => `(tactic| (refine Halt.out ?_))
local macro_rules | `(tactic| walk_at "exec For Name Name cons nil") => `(tactic| (k_dflt (refine wpAny_For ?_)))
local macro_rules | `(tactic| walk_at "exec For Name Call cons nil") => `(tactic| (k_dflt (refine wpAny_For ?_)))

theorem ov_spec {α : Type} [DecidableEq α] {wd : World} {mean : ExcName → Option Value} {mg mb : Str → Option Value} {A : Around} {s : Shared} {pl : Addr} {pvs : List Value} {kp : Nat} {w : List α} {Q E : Value → Shared → Prop}
  (X : (hd.heap_39 wd.params).In s.heap) (T : TT mean mg mb s.heap) (hroom : A.depth + 2 < recursionLimit) (hu : A.units + 100 < cLine) (hh : A.handled = none)
  (hpl : s.heap.get? pl = some (listOf pvs.toArray kp)) (C : Cmp Challenge.rw_rs0020_01.row.prog wd pvs w) (hlen : w.length ≤ 1000)
  (hQ : ∀ a vs k h' tk', Ext s.heap h' → s.heap.get? a = none → h'.get? a = some (listOf vs.toArray k) → IntsAre vs (tab w) → Q (.ref a) { s with heap := h', toks := tk' }) :
  wpAny (model Challenge.rw_rs0020_01.row.prog wd) A (call (.ref 29) [.ref pl]) Q E s := by
  revert X
  k_fill
  intro X
  have hL : s.heap.IsList pl pvs.toArray := ⟨_, hpl, rfl, _, rfl⟩
  have hvl := C.len
  refine wpAny_call (call_plain_ret (a := 29) (by omega) (X 29 _ rfl) rfl T.nolimit (codeRec_of X (by rfl)) rfl (locs rfl) ?_)
  intro h₁ F'
  have N' : News s.heap s.heap.objs.size h₁ [] := News.nil
  dsimp only
  try k_fold
  k_steps
  (rename IsRange _ _ _ _ _ _ _ _ => R2); (rename Fr _ _ _ _ => F2); (rename News _ _ _ _ => N2); (rename IntsAre _ _ => I2)
  rename_i tl tvs₀ _ _ _ _ _ _ _ _ _ _ _ _
  rw [← tabTo_one w] at I2
  have N3 : News s.heap s.heap.objs.size _ [(tl, listOf (List.toArray tvs₀) 0)] := fun p hp => N2 p (by rw [List.mem_singleton.mp hp]; exact .head _)
  refine for_range (h₀ := s.heap) (fun i m news => m (Str.ofString "prefix") = some (.ref pl) ∧ m (Str.ofString "table") = some (.ref tl) ∧ ∃ tvs k, news = [(tl, listOf (List.toArray tvs) k)] ∧ IntsAre tvs (tabTo w (i + 1))) hh R2 (small_one (by omega) (by omega) (by omega) (by omega)) F2 N3 ⟨rfl, rfl, _, _, rfl, I2⟩ ?_ ?_
  · rintro I hI hLI i c t m₁ news₁ oI h tk hi hc ⟨hm1, hm2, tvs, k, rfl, hI2⟩ hne F3 N4
    have hc' : c = ((i + 1 : Nat) : Int) := by omega
    subst hc'
    have hi' : i + 1 < w.length := by omega
    have hlI : @LT.lt Nat _ tl I := hI (tl, _) (.head _)
    rw [map_at hm1, map_at (m := fun y => if y = Str.ofString "prefix" then some (.ref pl) else m₁ y) (x := Str.ofString "table") hm2] at F3
    clear F2 N2 N3 I2
    have hget : ∀ q, q < i + 1 → (tabTo w (i + 1))[q]? = some ((lb w (q + 1) : Nat) : Int) := fun q hq => tabTo_get w (by omega) hq
    have hg0 := hget i (by omega)
    k_steps
    (rename Fr _ _ _ _ => F6); (rename News _ _ _ _ => N6)
    unfold Halt
    refine while_inv (h₀ := s.heap) (fun n m news => ∃ idx ti, idx = n ∧ m (Str.ofString "prefix") = some (.ref pl) ∧ m (Str.ofString "table") = some (.ref tl) ∧ m (Str.ofString "i") = some (.int ((i + 1 : Nat) : Int) t) ∧ m (Str.ofString "idx") = some (.int ((idx : Nat) : Int) ti) ∧ news = [(I, oI), (tl, listOf (List.toArray tvs) k)] ∧ Try w (i + 1) idx) (lb w (i + 1)) F6 N6 ?_ ?_
    · exact ⟨_, _, rfl, rfl, rfl, rfl, rfl, rfl, try_start w (by omega)⟩
    rintro n m₂ news₂ h₂ tk₂ ⟨idx, ti, rfl, ha1, ha2, ha3, ha4, rfl, hT⟩ F7 N7
    have hidx : idx < i + 1 := hT.1.1
    rw [map_at ha1, map_at (m := fun y => if y = Str.ofString "prefix" then some (.ref pl) else m₂ y) (x := Str.ofString "table") ha2, map_at (m := fun y => if y = Str.ofString "table" then some (.ref tl) else if y = Str.ofString "prefix" then some (.ref pl) else m₂ y) (x := Str.ofString "i") ha3, map_at (m := fun y => if y = Str.ofString "i" then some (.int ((i + 1 : Nat) : Int) t) else if y = Str.ofString "table" then some (.ref tl) else if y = Str.ofString "prefix" then some (.ref pl) else m₂ y) (x := Str.ofString "idx") ha4] at F7
    clear F6 N6
    have hneI : ∀ (vs' : List Value), ∀ p ∈ [(tl, listOf vs'.toArray k)], p.1 ≠ I := by
      intro vs' p hp; rw [List.mem_singleton.mp hp]; exact Nat.ne_of_lt hlI
    k_steps
    · (rename (_ = (_ : Option α)) => he); (rename Fr _ _ _ _ => F8); (rename News _ _ _ _ => N8)
      refine set_tab F8 N8 hlI hI2 hi' hlen (by rw [try_hit hT he]; omega) ?_
      intro vs' h' F9 N9 hI9
      clear F8 N8
      k_steps
      (rename Fr _ _ _ _ => Fz); (rename News _ _ _ _ => Nz)
      exact TurnEnd.intro Fz Nz (hneI _) ⟨rfl, rfl, _, _, rfl, hI9⟩
    · (rename (¬ _ = (_ : Option α)) => he); (rename ((_ : Int) = 0) => h0); (rename Fr _ _ _ _ => F8); (rename News _ _ _ _ => N8)
      have h0' : idx = 0 := by omega
      subst h0'
      refine set_tab F8 N8 hlI hI2 hi' hlen (by rw [try_none hT he]; rfl) ?_
      intro vs' h' F9 N9 hI9
      clear F8 N8
      k_steps
      (rename Fr _ _ _ _ => Fz); (rename News _ _ _ _ => Nz)
      exact TurnEnd.intro Fz Nz (hneI _) ⟨rfl, rfl, _, _, rfl, hI9⟩
    · (rename (¬ _ = (_ : Option α)) => he); (rename ((_ : Int) ≠ 0) => h0); (rename Fr _ _ _ _ => Fz); (rename News _ _ _ _ => Nz)
      have h0' : idx ≠ 0 := by omega
      refine ⟨lb w idx, lb_lt w (by omega), WEnd.intro Fz Nz ⟨_, _, rfl, rfl, rfl, rfl, rfl, rfl, try_next hT h0' he⟩⟩
  · rintro m₁ news₁ h tk ⟨hm1, hm2, tvs, k, rfl, hI2⟩ F3 N4
    clear F2 N2 N3 I2
    rw [map_at hm1, map_at (m := fun y => if y = Str.ofString "prefix" then some (.ref pl) else m₁ y) (x := Str.ofString "table") hm2] at F3
    k_steps
    (rename Fr _ _ _ _ => Fz); (rename News _ _ _ _ => Nz)
    have hfull : tabTo w (((w.length : Int) - 1).toNat + 1) = tab w := tabTo_full w (by omega)
    rw [hfull] at hI2
    exact hQ _ _ _ _ _ (fun b o e => Fz.keep b o e) (Nz _ (.head _)).2.2 (Nz _ (.head _)).1 hI2
end Mine
end

section
open PySem PySem.W PyProof.Rows PySem.Calls PySem.Spec
set_option maxRecDepth 100000
set_option maxHeartbeats 4000000
set_option linter.unusedVariables false
namespace Mine
/-- the row of two signs for the first n, by the borders b -/
def twin (b : Nat → Nat) : Nat → Nat → List Int
  | 0, _ => []
  | f + 1, n =>
    if b n = 0 then 0 :: List.replicate (n - 1) 1
    else if b n < n - b n then
      let start := twin b f (b n) ++ List.replicate (n - b n - b n - 1) 1
      start ++ [if primB (start ++ [0]) then 0 else 1] ++ twin b f (b n)
    else
      let base := twin b f ((n - b n) + n % (n - b n))
      (List.replicate (n / (n - b n)) (base.take (n - b n))).flatten ++ base.take (n % (n - b n))

theorem flat_len (l : List Int) (k : Nat) : (List.replicate k l).flatten.length = k * l.length := by simp

theorem twin_len (b : Nat → Nat) (hb : ∀ n, 1 ≤ n → b n < n) : ∀ f n, 1 ≤ n → (twin b f n).length ≤ n
  | 0, n, h => by simp [twin]
  | f + 1, n, h => by
    have h0 := hb n h
    unfold twin
    by_cases h1 : b n = 0
    · rw [if_pos h1]; simp; omega
    · rw [if_neg h1]
      by_cases h2 : b n < n - b n
      · rw [if_pos h2]
        have := twin_len b hb f (b n) (by omega)
        simp only [List.length_append, List.length_replicate, List.length_singleton]
        omega
      · rw [if_neg h2]
        have hp : 0 < n - b n := by omega
        have hm := Nat.div_add_mod n (n - b n)
        simp only [List.length_append, flat_len, List.length_take]
        have e1 : n / (n - b n) * min (n - b n) (twin b f (n - b n + n % (n - b n))).length ≤ n / (n - b n) * (n - b n) := Nat.mul_le_mul_left _ (Nat.min_le_left _ _)
        have e2 : min (n % (n - b n)) (twin b f (n - b n + n % (n - b n))).length ≤ n % (n - b n) := Nat.min_le_left _ _
        rw [Nat.mul_comm] at hm
        omega

local macro_rules | `(tactic| kmk_nums) => `(tactic| first
  | ((with_reducible show IntsAre (Array.toList (slicePick _ (some _) none none)) _); exact kmk_from (by l_ints) (by omega))
  | ((with_reducible show IntsAre (Array.toList (slicePick _ none (some _) none)) _); first | exact kmk_upto (by l_ints) (by omega) | exact kmk_upto_neg (by l_ints) (by omega))
  | ((with_reducible show IntsAre (Array.toList (slicePick _ (some _) (some _) none)) _); exact kmk_run (by l_ints) (by omega) (by omega)))

theorem item_tab {prog : Program} {w : World} {A : Around} {E : Value → Shared → Prop} {s : Shared} {α : Type} [DecidableEq α] {ws : List α} {value slice : PySem.Expr} {l : Addr} {vs : List Value} {j : Nat} {u : Tok} {Q : Value → Shared → Prop}
    (hl : s.heap.IsList l vs.toArray) (hv : IntsAre vs (tab ws)) (h1 : 1 ≤ j) (h2 : j ≤ ws.length) (h4 : ws.length ≤ 1000) (h : ∀ t, Q (.int ((lb ws j : Nat) : Int) t) s)
    (hs : subscripted slice false (.ref l) (.int ((j : Int) - 1) u) = operate [.ref l, .int ((j : Int) - 1) u] (getItem (.ref l) (.int ((j : Int) - 1) u)) := by with_unfolding_all rfl) :
    wpAny (model prog w) A (subscriptTail value slice (.ref l) (.int ((j : Int) - 1) u)) Q E s := by
  rw [← tabTo_full ws (Nat.le_refl _)] at hv
  exact item_prev hl hv h1 h2 (Nat.le_refl _) h4 h hs
local macro_rules | `(tactic| walk_at "subscriptTail Name BinOp ref int") => `(tactic| (k_dflt (refine item_tab (Fr.lst (by assumption) (by assumption)) (by assumption) (by omega) (by omega) (by omega) ?_; intro _)))

theorem fdiv_nat (a b : Nat) : (a : Int).fdiv (b : Int) = ((a / b : Nat) : Int) := by
  rw [Int.fdiv_eq_ediv_of_nonneg _ (by omega)]; rfl
theorem ints_snoc {vs : List Value} {ns : List Int} {x : Int} {t : Tok} (h : IntsAre vs ns) : IntsAre (vs ++ [.int x t]) (ns ++ [x]) := by
  induction h with
  | nil => exact .cons x t .nil
  | cons n t' _ ih => exact .cons n t' ih

theorem tw_spec {α : Type} [DecidableEq α] {wd : World} {mean : ExcName → Option Value} {mg mb : Str → Option Value} {w : List α} (hlen : w.length ≤ 100) {tl : Addr} {tvs : List Value} {kt : Nat} (hT : IntsAre tvs (tab w)) :
    ∀ (f n : Nat) {A : Around} {s : Shared} {tn : Tok} {Q E : Value → Shared → Prop}, n ≤ f → 1 ≤ n → n ≤ w.length →
  (hd.heap_39 wd.params).In s.heap → TT mean mg mb s.heap → A.depth + n + 3 < recursionLimit → A.units + 4 * n + 100 < cLine → A.handled = none → s.heap.get? tl = some (listOf tvs.toArray kt) →
  (∀ a vs k h' tk', Ext s.heap h' → s.heap.get? a = none → h'.get? a = some (listOf vs.toArray k) → IntsAre vs (twin (lb w) f n) → Q (.ref a) { s with heap := h', toks := tk' }) →
  wpAny (model Challenge.rw_rs0020_01.row.prog wd) A (call (.ref 50) [.ref tl, .int (n : Int) tn]) Q E s := by
  intro f
  induction f with
  | zero => intro n A s tn Q E hf h1; omega
  | succ f IH =>
    intro n A s tn Q E hf h1 hn X T hroom hu hh htl hQ
    revert X
    k_fill
    intro X
    have hL : s.heap.IsList tl tvs.toArray := ⟨_, htl, rfl, _, rfl⟩
    have hvl : tvs.length = w.length := by rw [hT.length]; simp [tab]
    have hlb := lb_lt w (n := n) (by omega)
    have hg0 : (tab w)[n - 1]? = some ((lb w n : Nat) : Int) := by
      have : n - 1 < w.length := by omega
      simp [tab, this, show n - 1 + 1 = n from by omega]
    refine wpAny_call (call_plain_ret (a := 50) (by omega) (X 50 _ rfl) rfl T.nolimit (codeRec_of X (by rfl)) rfl (locs rfl) ?_)
    intro h₁ F'
    have N' : News s.heap s.heap.objs.size h₁ [] := News.nil
    dsimp only
    try k_fold
    have htw : twin (lb w) (f + 1) n = if lb w n = 0 then 0 :: List.replicate (n - 1) 1
      else if lb w n < n - lb w n then
        twin (lb w) f (lb w n) ++ List.replicate (n - lb w n - lb w n - 1) 1 ++ [if primB (twin (lb w) f (lb w n) ++ List.replicate (n - lb w n - lb w n - 1) 1 ++ [0]) then 0 else 1] ++ twin (lb w) f (lb w n)
      else (List.replicate (n / (n - lb w n)) ((twin (lb w) f ((n - lb w n) + n % (n - lb w n))).take (n - lb w n))).flatten ++ (twin (lb w) f ((n - lb w n) + n % (n - lb w n))).take (n % (n - lb w n)) := rfl
    have hrep : ∀ (k : Nat) (x : Int), (List.replicate k [x]).flatten = List.replicate k x := fun k x => List.flatten_replicate_singleton
    k_steps
    all_goals (rename Fr _ _ _ _ => Fz)
    all_goals (rename News _ _ _ _ => Nz)
    · (rename ((_ : Int) = 0) => h0)
      have h0' : lb w n = 0 := by omega
      rw [if_pos h0'] at htw
      (rename IntsAre _ _ => hI)
      refine hQ _ _ _ _ _ (fun b o e => Fz.keep b o e) (Nz _ (.head _)).2.2 (Nz _ (.head _)).1 ?_
      rw [htw]
      rw [hrep, show ((n : Int) - 1).toNat = n - 1 from by omega] at hI
      exact hI
    · (rename ((_ : Int) ≠ 0) => h0); (rename ((_ : Int) < _) => hlt)
      have h0' : lb w n ≠ 0 := by omega
      rw [if_neg h0', if_pos (by omega)] at htw
      refine IH (lb w n) (by omega) (by omega) (by omega) (X.keeps Fz.keep) (T.keeps Fz.keep) (by show A.depth + 1 + _ + 3 < _; omega) (by show A.units + 3 + _ + 100 < _; omega) hh (Fz.keep _ _ htl) ?_
      intro el evs ke h2 tk2 hext hnone hget hI
      have hlE := twin_len (lb w) (fun n hn => lb_lt w hn) f (lb w n) (by omega)
      have F2 := hext.fr Fz
      have N2 := hext.newsCons Fz Nz hget hnone
      clear Fz Nz
      generalize twin (lb w) f (lb w n) = ends at *
      k_steps
      (rename Fr _ _ _ _ => F3); (rename News _ _ _ _ => N3); (rename IntsAre _ _ => hI3)
      simp only [hrep] at hI3
      rw [show ((n : Int) - (lb w n : Int) - (lb w n : Int) - 1).toNat = n - lb w n - lb w n - 1 from by omega] at hI3
      refine pr_spec (X.keeps F3.keep) (T.keeps F3.keep) (by show A.depth + 1 + 2 < _; omega) (by show A.units + 3 + 100 < _; omega) hh (N3 _ (.head _)).1 hI3 (by simp only [List.length_append, List.length_replicate, List.length_singleton]; omega) (by simp only [List.length_append, List.length_singleton]; omega) ?_
      intro h4 tk4 hext4
      have F4 := hext4.fr F3
      have N4 := hext4.news N3
      clear F3 N3
      (rename IntsAre _ (ends ++ _) => hI4)
      simp only [hrep] at hI4
      rw [show ((n : Int) - (lb w n : Int) - (lb w n : Int) - 1).toNat = n - lb w n - lb w n - 1 from by omega] at hI4
      k_steps
      all_goals (rename Fr _ _ _ _ => F5)
      all_goals (rename News _ _ _ _ => N5)
      all_goals (simp only [List.push_toArray] at N5)
      · (rename (primB _ = true) => hp)
        rw [hp] at htw
        refine kmk_add_ints F5 N5 (News.isList N5 (by k_mem)) (News.isList N5 (by k_mem)) (ints_snoc hI4) hI ?_ ?_
        · intro D ws h6 F6 N6 l6 hI6
          refine hQ _ _ _ _ _ (fun b o e => F6.keep b o e) (N6 _ (.head _)).2.2 (N6 _ (.head _)).1 ?_
          rw [htw]; exact hI6
        · simp only [List.length_append, List.length_singleton, List.length_replicate]
          rw [sizeLine_eq]; omega
      · (rename (primB _ = false) => hp)
        rw [hp] at htw
        refine kmk_add_ints F5 N5 (News.isList N5 (by k_mem)) (News.isList N5 (by k_mem)) (ints_snoc hI4) hI ?_ ?_
        · intro D ws h6 F6 N6 l6 hI6
          refine hQ _ _ _ _ _ (fun b o e => F6.keep b o e) (N6 _ (.head _)).2.2 (N6 _ (.head _)).1 ?_
          rw [htw]; exact hI6
        · simp only [List.length_append, List.length_singleton, List.length_replicate]
          rw [sizeLine_eq]; omega
    · (rename ((_ : Int) ≠ 0) => h0); (rename (¬ (_ : Int) < _) => hlt)
      have h0' : lb w n ≠ 0 := by omega
      rw [if_neg h0', if_neg (by omega)] at htw
      have hp : 0 < n - lb w n := by omega
      have hmod := Nat.mod_lt n hp
      have ep : (n : Int) - (lb w n : Int) = ((n - lb w n : Nat) : Int) := by omega
      simp only [ep, fmod_nat, ← Int.natCast_add]
      refine IH (n - lb w n + n % (n - lb w n)) (by omega) (by omega) (by omega) (X.keeps Fz.keep) (T.keeps Fz.keep) (by show A.depth + 1 + _ + 3 < _; omega) (by show A.units + 3 + _ + 100 < _; omega) hh (Fz.keep _ _ htl) ?_
      intro el evs ke h2 tk2 hext hnone hget hI
      have hlE := twin_len (lb w) (fun n hn => lb_lt w hn) f (n - lb w n + n % (n - lb w n)) (by omega)
      have F2 := hext.fr Fz
      have N2 := hext.newsCons Fz Nz hget hnone
      clear Fz Nz
      generalize twin (lb w) f (n - lb w n + n % (n - lb w n)) = base at *
      k_steps
      (rename Fr _ _ _ _ => F3); (rename News _ _ _ _ => N3); (rename IntsAre _ (List.take _ _) => hI3)
      have ep' : ((n : Int) - (lb w n : Int)).toNat = n - lb w n := by omega
      rw [ep'] at hI3
      rw [ep, fdiv_nat]
      have hdm := Nat.div_add_mod n (n - lb w n)
      have hz1 : (List.take (n - lb w n) base).length ≤ n - lb w n := List.length_take_le _ _
      have hq0 := Nat.div_le_self n (n - lb w n)
      have hfm : (n : Int).fmod ((n : Int) - (lb w n : Int)) = ((n % (n - lb w n) : Nat) : Int) := by rw [ep, fmod_nat]
      generalize n / (n - lb w n) = q at *
      have hz2 := Nat.mul_le_mul_right q hz1
      refine KM.mul F3 N3 (News.isList N3 (.head _)) hI3 (by omega) (by omega) (by rw [Int.toNat_natCast, hI3.length]; omega) ?_
      intro D4 h4 F4 N4 l4 hI4 nn e1 e2 e3 e4
      rw [Int.toNat_natCast] at hI4 N4
      have hz3 : ((List.replicate q (List.take (n - lb w n) base)).flatten).length ≤ 100 := by
        rw [flat_len, Nat.mul_comm]; omega
      clear F3 N3 e1 e2 e3 e4
      generalize n % (n - lb w n) = r at *
      generalize (List.replicate q (List.take (n - lb w n) base)).flatten = big at *
      k_steps
      (rename Fr _ _ _ _ => F6); (rename News _ _ _ _ => N6); (rename IntsAre _ (big ++ _) => hI6)
      rw [hfm, Int.toNat_natCast] at hI6
      refine hQ _ _ _ _ _ (fun b o e => F6.keep b o e) (N6 _ (.head _)).2.2 (N6 _ (.head _)).1 ?_
      rw [htw]; exact hI6
end Mine
end

section
open PySem PySem.W PyProof.Rows PySem.Calls PySem.Spec
set_option maxRecDepth 100000
set_option maxHeartbeats 4000000
set_option linter.unusedVariables false
namespace Mine

local macro_rules | `(tactic| kmk_nums) => `(tactic| first
  | ((with_reducible show IntsAre (Array.toList (slicePick _ (some _) none none)) _); exact kmk_from (by l_ints) (by omega))
  | ((with_reducible show IntsAre (Array.toList (slicePick _ none (some _) none)) _); first | exact kmk_upto (by l_ints) (by omega) | exact kmk_upto_neg (by l_ints) (by omega))
  | ((with_reducible show IntsAre (Array.toList (slicePick _ (some _) (some _) none)) _); exact kmk_run (by l_ints) (by omega) (by omega)))
local macro_rules | `(tactic| walk_at "exec For Name BinOp cons nil") => `(tactic| (k_dflt (refine wpAny_For ?_)))
local macro_rules | `(tactic| walk_at "exec For") => `(tactic| (k_dflt (refine wpAny_For ?_)))

theorem ext_ints {prog : Program} {w : World} {A : Around} {E : Value → Shared → Prop} {s : Shared} {h₀ : Heap} {L D b : Addr} {m : Str → Option Value} {news : List (Addr × Obj)} {news' : Obj → List (Addr × Obj)} {xs ys : List Value} {n n2 : Nat} {Q : Value → Shared → Prop} (F : Fr h₀ L s.heap m) (N : News h₀ L s.heap news) (hb : (b, listOf (List.toArray ys) n2) ∈ news)
    (U : ∀ o', Upd D (listOf (List.toArray xs) n) o' news (news' o')) (hx : xs.length ≤ 1000) (hy : ys.length ≤ 1000)
    (h : ∀ n' h', Fr h₀ L h' m → News h₀ L h' (news' (listOf (List.toArray (xs ++ ys)) n')) → Q .none { s with heap := h' }) : wpAny (model prog w) A (call (.builtin "list.extend") [.ref D, .ref b]) Q E s := by
  have hl : Builtin.List.listTooLong (xs.toArray.size + ys.toArray.size) = false := by
    unfold Builtin.List.listTooLong
    simp only [List.size_toArray]
    apply decide_eq_false
    rw [sizeLine_eq]
    omega
  by_cases h0 : ys = []
  · subst h0
    refine kxn_extend F N hb rfl (U _) (by rw [hl]; simp) (by rw [sizeLine_eq]; simp; omega) (by rw [sizeLine_eq]; simp only [List.size_toArray]; omega) ?_
    intro h' F' N'
    refine h n h' F' ?_
    rw [List.append_nil]; exact N'
  · refine kl_extend F N hb rfl (by simpa using h0) (U _) (by rw [hl]; simp) (by rw [sizeLine_eq]; simp; omega) (by rw [sizeLine_eq]; simp only [List.size_toArray]; omega) ?_
    intro h' F' N'
    exact h _ h' F' N'

theorem ints_append {vs ws : List Value} {ns ms : List Int} (h : IntsAre vs ns) (h' : IntsAre ws ms) : IntsAre (vs ++ ws) (ns ++ ms) := by
  induction h with
  | nil => exact h'
  | cons n t' _ ih => exact .cons n t' ih

theorem row_spec {wd : World} {mean : ExcName → Option Value} {mg mb : Str → Option Value} {A : Around} {s : Shared} {sl : Addr} {svs : List Value} {ks : Nat} {ns : List Int} {Q E : Value → Shared → Prop}
  (X : (hd.heap_39 wd.params).In s.heap) (T : TT mean mg mb s.heap) (hroom : A.depth + 2 < recursionLimit) (hu : A.units + 100 < cLine) (hh : A.handled = none)
  (hsl : s.heap.IsList sl svs.toArray) (hns : IntsAre svs ns) (hlen : ns.length ≤ 63) (hbits : ∀ x ∈ ns, Builtin.Int.intBits x ≤ 1048576)
  (hQ : ∀ a vs k row h' tk', Ext s.heap h' → s.heap.get? a = none → h'.get? a = some (listOf vs.toArray k) → IntsAre vs row → row.length ≤ 11 → (∀ x ∈ row, x.natAbs ≤ 2 ^ 40) → Q (.ref a) { s with heap := h', toks := tk' }) :
  wpAny (model Challenge.rw_rs0020_01.row.prog wd) A (call (.ref 36) [.ref sl]) Q E s := by
  revert X
  k_fill
  intro X
  have hvl : svs.length = ns.length := hns.length
  refine wpAny_call (call_plain_ret (a := 36) (by omega) (X 36 _ rfl) rfl T.nolimit (codeRec_of X (by rfl)) rfl (locs rfl) ?_)
  intro h₁ F'
  have N' : News s.heap s.heap.objs.size h₁ [] := News.nil
  dsimp only
  try k_fold
  k_steps
  (rename Fr _ _ _ _ => F2); (rename News _ _ _ _ => N2); (rename IntsAre _ (_ ++ _) => I2)
  rename_i rl _ _ _ _ _ _ _ _ _ _ _ _ _ cl cvs _ hcl
  have hrc : @LT.lt Nat _ rl cl := hcl.2.2
  have hbx : ∀ x ∈ List.take 5 ns ++ [15, 3087, 1, -3 * 2 ^ 33, 1, 13, 1], Builtin.Int.intBits x ≤ 1048576 := by
    intro x hx
    rcases List.mem_append.mp hx with h | h
    · exact hbits x (List.mem_of_mem_take h)
    · have : ([15, 3087, 1, -3 * 2 ^ 33, 1, 13, 1] : List Int).all (fun x => decide (Builtin.Int.intBits x ≤ 1048576)) = true := by decide +kernel
      exact of_decide_eq_true (List.all_eq_true.mp this x h)
  have hxl : (List.take 5 ns ++ [15, 3087, 1, -3 * 2 ^ 33, 1, 13, 1]).length ≤ 12 := by
    rw [List.length_append]
    have := List.length_take_le 5 ns
    simp only [List.length_cons, List.length_nil]; omega
  have N3 : News s.heap s.heap.objs.size _ [(rl, listOf (List.toArray []) 0), (cl, listOf cvs.toArray 0)] := fun p hp => N2 p (by
    rcases List.mem_cons.mp hp with rfl | hp
    · exact .tail _ (.tail _ (.tail _ (.head _)))
    · rw [List.mem_singleton.mp hp]; exact .head _)
  have I3 : IntsAre cvs (List.take 5 ns ++ [15, 3087, 1, -3 * 2 ^ 33, 1, 13, 1]) := I2
  generalize List.take 5 ns ++ [15, 3087, 1, -3 * 2 ^ 33, 1, 13, 1] = xs at *
  clear I2
  have hcs : cvs.toArray.size = xs.length := by rw [List.size_toArray, I3.length]
  refine for_list (h₀ := s.heap) (ol := listOf cvs.toArray 0) (fun i m news => ∃ rvs k row, m (Str.ofString "row") = some (.ref rl) ∧ news = [(rl, listOf (List.toArray rvs) k), (cl, listOf cvs.toArray 0)] ∧ IntsAre rvs row ∧ row.length ≤ 5 * i ∧ ∀ x ∈ row, x.natAbs ≤ 2 ^ 40) hh (fun h e => ⟨_, e, rfl, _, rfl⟩) (N3 _ (.tail _ (.head _))).1 (fun i m news h hj F N => by obtain ⟨_, _, _, _, rfl, _⟩ := hj; exact (N _ (.tail _ (.head _))).1) F2 N3 ?_ ?_ ?_
  · exact ⟨[], 0, [], rfl, rfl, .nil, by simp, by intro x hx; cases hx⟩
  · rintro I hI hLI i v m₁ news₁ oI h tk hv ⟨rvs, k, row, hm1, rfl, hrow, hrl, hrb⟩ hne F3 N4
    obtain ⟨x, tx, rfl, hx⟩ := I3.at i v (by simpa using hv)
    have hxb := hbx x (List.mem_of_getElem? hx)
    have hi : i < xs.length := (List.getElem?_eq_some_iff.mp hx).1
    have hrI : @LT.lt Nat _ rl I := hI (rl, _) (.head _)
    have hcI : @LT.lt Nat _ cl I := hI (cl, _) (.tail _ (.head _))
    rw [map_at hm1] at F3
    clear F2 N2 N3 hbx I3 hbits hns hsl
    have hrvl : rvs.length = row.length := hrow.length
    have hne' : ∀ (vs' : List Value) (k' : Nat), ∀ q ∈ [(rl, listOf vs'.toArray k'), (cl, listOf cvs.toArray 0)], q.1 ≠ I := by
      intro vs' k' q hq
      rcases List.mem_cons.mp hq with rfl | hq
      · exact Nat.ne_of_lt hrI
      · rw [List.mem_singleton.mp hq]; exact Nat.ne_of_lt hcI
    have hsnoc : ∀ y : Int, y.natAbs ≤ 2 ^ 40 → ∀ z ∈ row ++ [y], z.natAbs ≤ 2 ^ 40 := by
      intro y hy z hz
      rcases List.mem_append.mp hz with h | h
      · exact hrb z h
      · rw [List.mem_singleton.mp h]; exact hy
    k_steps
    all_goals (rename Fr _ _ _ _ => Fz)
    all_goals (rename News _ _ _ _ => Nz)
    all_goals try simp only [List.push_toArray] at Nz
    · (rename (_ < (2 : Int) ^ _) => hc)
      refine TurnEnd.intro Fz Nz (hne' _ _) ⟨_, _, row ++ [x.fdiv 3], rfl, rfl, ints_snoc hrow, by rw [List.length_append, List.length_singleton]; omega, hsnoc _ ?_⟩
      have e : (2 : Int) ^ Int.toNat 40 = 2 ^ 40 := rfl
      rw [e] at hc
      split at hc <;> omega
    · refine TurnEnd.intro Fz Nz (hne' _ _) ⟨_, _, row ++ [(x.fdiv 3).fmod (2 ^ Int.toNat 40)], rfl, rfl, ints_snoc hrow, by rw [List.length_append, List.length_singleton]; omega, hsnoc _ ?_⟩
      obtain ⟨h1, h2⟩ := kbt_rest (x.fdiv 3) 40
      have e : (2 : Int) ^ Int.toNat 40 = 2 ^ 40 := rfl
      rw [e]
      omega
    · (rename IntsAre _ (List.take _ row) => hI4); (rename (_ ∧ _ ∧ _) => hl4)
      obtain ⟨hl5, hl6, hl7⟩ := hl4
      have hl5' : @LT.lt Nat _ I _ := hl5
      have hl6' : @LT.lt Nat _ rl _ := hl6
      have htl := List.length_take_le ((x.fdiv 3).fmod 5 + 1).toNat row
      refine ext_ints (news' := fun o' => [_, (I, oI), (rl, o'), (cl, listOf cvs.toArray 0)]) Fz Nz (by k_mem) (fun o' => Upd.tail (Nat.ne_of_gt hl6') (Upd.tail (Nat.ne_of_gt hrI) (Upd.head fun p hp => by rw [List.mem_singleton.mp hp]; exact Nat.ne_of_gt hrc))) (by omega) (by rw [hI4.length]; omega) ?_
      intro n' h5 F5 N5
      clear Fz Nz
      k_steps
      (rename Fr _ _ _ _ => F6); (rename News _ _ _ _ => N6)
      have h5m : 0 ≤ (x.fdiv 3).fmod 5 ∧ (x.fdiv 3).fmod 5 < 5 := by
        rw [Int.fmod_eq_emod_of_nonneg _ (by decide)]; omega
      refine TurnEnd.intro2 (news' := [(rl, listOf (List.toArray (rvs ++ _)) n'), (cl, listOf cvs.toArray 0)]) F6 N6 (by k_mem) (by
        intro p hp
        rcases List.mem_cons.mp hp with rfl | hp
        · exact .tail _ (.tail _ (.head _))
        · rw [List.mem_singleton.mp hp]; exact .tail _ (.tail _ (.tail _ (.head _)))) (hne' _ _) ⟨_, _, row ++ List.take ((x.fdiv 3).fmod 5 + 1).toNat row, rfl, rfl, ints_append hrow hI4, ?_, ?_⟩
      · rw [List.length_append]
        have := List.length_take_le ((x.fdiv 3).fmod 5 + 1).toNat row
        have h3 : (List.take ((x.fdiv 3).fmod 5 + 1).toNat row).length ≤ ((x.fdiv 3).fmod 5 + 1).toNat := by rw [List.length_take]; omega
        omega
      · intro z hz
        rcases List.mem_append.mp hz with h | h
        · exact hrb z h
        · exact hrb z (List.mem_of_mem_take h)
    · refine TurnEnd.intro2 (news' := [(rl, listOf (List.toArray rvs) k), (cl, listOf cvs.toArray 0)]) Fz Nz (by k_mem) (by
        intro p hp
        rcases List.mem_cons.mp hp with rfl | hp
        · exact .tail _ (.tail _ (.head _))
        · rw [List.mem_singleton.mp hp]; exact .tail _ (.tail _ (.tail _ (.head _)))) (hne' _ _) ⟨_, _, row, rfl, rfl, hrow, by omega, hrb⟩
    · (rename (decide (row = []) = false) => hnil)
      have hpos : 0 < row.length := List.length_pos_iff.mpr (of_decide_eq_false hnil)
      have hj : ∃ j : Nat, (x.fdiv 3).fmod (row.length : Int) = (j : Int) ∧ j < row.length := by
        rw [Int.fmod_eq_emod_of_nonneg _ (by omega)]
        have h1 := Int.emod_nonneg (x.fdiv 3) (b := (row.length : Int)) (by omega)
        have h2 := Int.emod_lt_of_pos (x.fdiv 3) (b := (row.length : Int)) (by omega)
        exact ⟨((x.fdiv 3) % (row.length : Int)).toNat, by omega, by omega⟩
      obtain ⟨j, hj1, hj2⟩ := hj
      refine item_int (i := j) (News.isList Nz (by k_mem)) hrow hj1 (List.getElem?_eq_getElem hj2) (by omega) ?_
      intro tj
      k_steps
      (rename Fr _ _ _ _ => F6); (rename News _ _ _ _ => N6)
      simp only [List.push_toArray] at N6
      refine TurnEnd.intro2 (news' := [(rl, listOf (List.toArray (rvs ++ [.int row[j] tj])) (k + 1)), (cl, listOf cvs.toArray 0)]) F6 N6 (by k_mem) (by
        intro p hp
        rcases List.mem_cons.mp hp with rfl | hp
        · exact .tail _ (.tail _ (.head _))
        · rw [List.mem_singleton.mp hp]; exact .tail _ (.tail _ (.tail _ (.head _)))) (hne' _ _) ⟨_, _, row ++ [row[j]], rfl, rfl, ints_snoc hrow, by rw [List.length_append, List.length_singleton]; omega, hsnoc _ (hrb _ (List.getElem_mem hj2))⟩
  · rintro m₁ news₁ h tk ⟨rvs, k, row, hm1, rfl, hrow, hrl, hrb⟩ F3 N4
    clear F2 N2 N3 I3
    rw [hcs] at hrl
    have hrvl : rvs.length = row.length := hrow.length
    rw [map_at hm1] at F3
    k_steps
    (rename Fr _ _ _ _ => F6); (rename News _ _ _ _ => N6); (rename IntsAre _ (List.take _ _) => hI6)
    refine hQ _ _ _ _ _ _ (fun b o e => F6.keep b o e) (N6 _ (.head _)).2.2 (N6 _ (.head _)).1 hI6 ?_ fun z hz => hrb z (List.mem_of_mem_take hz)
    rw [List.length_take]; omega
end Mine
end

section
open PySem PySem.W PyProof.Rows PySem.Calls PySem.Spec
set_option maxRecDepth 100000
set_option autoImplicit false
set_option linter.unusedVariables false
namespace Mine
section
variable {prog : Program} {w : World} {A : Around} {env : Env} {h₀ : Heap} {scope : Scope} {cl : List (Str × Addr)} {x y : Str} {ifs : List PySem.Expr} {elt : PySem.Expr} {p : Value → Bool} {F : Value → Value → Prop}

/-- one clause's tests, on the item v -/
def LcTest (prog : Program) (w : World) (A : Around) (env : Env) (h₀ : Heap) (scope : Scope) (cl : List (Str × Addr)) (x : Str) (ifs : List PySem.Expr) (p : Value → Bool) (news : List (Addr × Obj)) (v : Value) : Prop :=
  ∀ m₃ C s₃, m₃ x = some v → Fr h₀ C s₃.heap m₃ → News h₀ C s₃.heap news →
    wpAny (model prog w) A (forIn ifs true fun c r => if r = true then do let ok ← isTrue c (compEnvC scope cl C env) (eval c (compEnvC scope cl C env)); pure (ForInStep.yield ok) else pure (ForInStep.yield r))
      (fun ok s₄ => ok = p v ∧ Keeps s₃ s₄) (fun _ _ => False) s₃
def LcElt (prog : Program) (w : World) (A : Around) (env : Env) (h₀ : Heap) (scope : Scope) (cl : List (Str × Addr)) (x : Str) (elt : PySem.Expr) (F : Value → Value → Prop) (news : List (Addr × Obj)) (v : Value) : Prop :=
  ∀ m₃ C s₃, m₃ x = some v → Fr h₀ C s₃.heap m₃ → News h₀ C s₃.heap news →
    wpAny (model prog w) A (eval elt (compEnvC scope cl C env)) (fun y s₄ => F v y ∧ Keeps s₃ s₄) (fun _ _ => False) s₃

/-- the end of an evaluated comprehension -/
def LcE (prog : Program) (w : World) (A : Around) (env : Env) (scope : Scope) (cl : List (Str × Addr)) (x : Str) (ifs : List PySem.Expr) (elt : PySem.Expr) (p : Value → Bool) (F : Value → Value → Prop) (Q : Value → Shared → Prop) (it : Value) (s₂ : Shared) : Prop :=
  ∃ I fp wr n P St, it = .ref I ∧ Walks prog w A I fp wr n P St ∧ n ≤ sizeLine ∧ St 0 s₂.heap ∧ (∀ b ∈ fp, b < s₂.heap.objs.size) ∧
      QuietOnC prog w A env scope cl x ifs elt wr P p F s₂ ∧
      (∀ D h' tk ys (vs : List Value), s₂.heap.get? D = none → h'.IsList D ys → h'.PlainList D ys → vs.length = n → (∀ j v, vs[j]? = some v → P j v) → Paired F (vs.filter p) ys.toList →
        (∀ b o, b ∉ wr → s₂.heap.get? b = some o → h'.get? b = some o) → Q (.ref D) { s₂ with heap := h', toks := tk })
/-- the end of a comprehension that is stored at once -/
def LcA (prog : Program) (w : World) (A : Around) (env : Env) (scope : Scope) (cl : List (Str × Addr)) (x y : Str) (ifs : List PySem.Expr) (elt : PySem.Expr) (p : Value → Bool) (F : Value → Value → Prop) (Q : Flow → Shared → Prop) (it : Value) (s₂ : Shared) : Prop :=
  ∃ I fp wr n P St m, it = .ref I ∧ Walks prog w A I fp wr n P St ∧ n ≤ sizeLine ∧ St 0 s₂.heap ∧ (∀ b ∈ fp, b < s₂.heap.objs.size) ∧
      env.locals ∉ wr ∧ s₂.heap.Ns env.locals m ∧ QuietOnC prog w A env scope cl x ifs elt wr P p F s₂ ∧
      (∀ D h' tk ys (vs : List Value), s₂.heap.get? D = none → h'.IsList D ys → h'.PlainList D ys → vs.length = n → (∀ j v, vs[j]? = some v → P j v) → Paired F (vs.filter p) ys.toList →
        h'.Ns env.locals (fun z => if z = y then some (.ref D) else m z) → (∀ b o, b ≠ env.locals → b ∉ wr → s₂.heap.get? b = some o → h'.get? b = some o) → Q .next { s₂ with heap := h', toks := tk })

theorem quiet_of {s₂ : Shared} {I : Addr} {P : Nat → Value → Prop} {m : Str → Option Value} {news : List (Addr × Obj)} (Fm : Fr h₀ env.locals s₂.heap m) (N : News h₀ env.locals s₂.heap news) (hI0 : h₀.get? I = none) (hIn : ∀ q ∈ news, q.1 ≠ I)
    (ht : ∀ i v, P i v → LcTest prog w A env h₀ scope cl x ifs p news v) (he : ∀ i v, P i v → p v = true → LcElt prog w A env h₀ scope cl x elt F news v) : QuietOnC prog w A env scope cl x ifs elt [I] P p F s₂ := by
  have key : ∀ (C : Addr) (s₃ : Shared) (m₃ : Str → Option Value), s₂.heap.objs.size ≤ C → s₃.heap.Ns C m₃ → (∀ b o, b ∉ [I] → s₂.heap.get? b = some o → s₃.heap.get? b = some o) → Fr h₀ C s₃.heap m₃ ∧ News h₀ C s₃.heap news := by
    intro C s₃ m₃ hC hn hk
    refine ⟨⟨hn, fun b o e => hk b o (fun hb => ?_) (Fm.keep b o e), ?_⟩, fun q hq => ⟨hk _ _ (fun hb => hIn q hq (List.mem_singleton.mp hb)) (N q hq).1, ?_, (N q hq).2.2⟩⟩
    · rw [List.mem_singleton.mp hb, hI0] at e; cases e
    · exact Nat.le_trans Fm.above (Nat.le_trans (Nat.le_of_lt Fm.ns.lt) hC)
    · exact Nat.ne_of_lt (Nat.lt_of_lt_of_le (Heap.lt_size (N q hq).1) hC)
  refine ⟨fun C i v s₃ m₃ E' hC hP hn hm hk _ => ?_, fun C i v s₃ m₃ E' hC hP hp hn hm hk _ => ?_⟩
  · obtain ⟨a, b⟩ := key C s₃ m₃ hC hn hk
    exact wpAny_mono (ht i v hP m₃ C s₃ hm a b) (fun _ _ e => e) fun _ _ e => e.elim
  · obtain ⟨a, b⟩ := key C s₃ m₃ hC hn hk
    exact wpAny_mono (he i v hP hp m₃ C s₃ hm a b) (fun _ _ e => e) fun _ _ e => e.elim

/-- the list that was made goes onto the ledger -/
theorem made_news {s₂ : Shared} {I D L : Addr} {h' : Heap} {k : Nat} {ys : Array Value} {m m' : Str → Option Value} {news : List (Addr × Obj)} (Fm : Fr h₀ L s₂.heap m) (N : News h₀ L s₂.heap news) (hI0 : h₀.get? I = none) (hIn : ∀ q ∈ news, q.1 ≠ I)
    (hD : s₂.heap.get? D = none) (hget : h'.get? D = some (listOf ys k)) (hn : h'.Ns L m') (hk : ∀ b o, b ≠ L → b ∉ [I] → s₂.heap.get? b = some o → h'.get? b = some o) :
    Fr h₀ L h' m' ∧ News h₀ L h' ((D, listOf ys k) :: news) ∧ ∀ q ∈ news, @Ne Nat q.1 D := by
  have hb0 : ∀ b o, h₀.get? b = some o → b ≠ L := fun b o e hb => absurd (Nat.lt_of_lt_of_le (Heap.lt_size e) Fm.above) (hb ▸ Nat.lt_irrefl _)
  have hbI : ∀ b o, h₀.get? b = some o → b ∉ [I] := fun b o e hb => by rw [List.mem_singleton.mp hb, hI0] at e; cases e
  refine ⟨⟨hn, fun b o e => hk b o (hb0 b o e) (hbI b o e) (Fm.keep b o e), Fm.above⟩, ?_, fun q hq e => ?_⟩
  · intro q hq
    rcases List.mem_cons.mp hq with rfl | hq
    · refine ⟨hget, fun hL => ?_, ?_⟩
      · obtain ⟨oL, _, _, hoL, _⟩ := Fm.ns
        rw [← hL, hD] at hoL; cases hoL
      · cases e : h₀.get? D with
        | none => rfl
        | some o => have := Fm.keep _ _ e; rw [hD] at this; cases this
    · exact ⟨hk _ _ (N q hq).2.1 (fun hb => hIn q hq (List.mem_singleton.mp hb)) (N q hq).1, (N q hq).2⟩
  · have := (N q hq).1
    have e' : q.1 = D := e
    rw [e', hD] at this; cases this

theorem lcA_of {s₂ : Shared} {I : Addr} {fp : List Addr} {n : Nat} {P : Nat → Value → Prop} {St : Nat → Heap → Prop} {m : Str → Option Value} {news : List (Addr × Obj)} {Q : Flow → Shared → Prop}
    (W : Walks prog w A I fp [I] n P St) (hn : n ≤ 1000) (hst : St 0 s₂.heap) (hfp : ∀ b ∈ fp, b < s₂.heap.objs.size)
    (Fm : Fr h₀ env.locals s₂.heap m) (N : News h₀ env.locals s₂.heap news) (hI0 : h₀.get? I = none) (hIL : I ≠ env.locals) (hIn : ∀ q ∈ news, q.1 ≠ I)
    (ht : ∀ i v, P i v → LcTest prog w A env h₀ scope cl x ifs p news v) (he : ∀ i v, P i v → p v = true → LcElt prog w A env h₀ scope cl x elt F news v)
    (done : ∀ D k h' tk ys (vs : List Value), vs.length = n → (∀ j v, vs[j]? = some v → P j v) → Paired F (vs.filter p) ys → Fr h₀ env.locals h' (fun z => if z = y then some (.ref D) else m z) → News h₀ env.locals h' ((D, listOf (List.toArray ys) k) :: news) → (∀ q ∈ news, @Ne Nat q.1 D) → Q .next { s₂ with heap := h', toks := tk }) :
    LcA prog w A env scope cl x y ifs elt p F Q (.ref I) s₂ := by
  refine ⟨I, fp, [I], n, P, St, m, rfl, W, by rw [sizeLine_eq]; omega, hst, hfp, fun hb => hIL (List.mem_singleton.mp hb).symm, Fm.ns, quiet_of Fm N hI0 hIn ht he, ?_⟩
  intro D h' tk ys vs hD _ ⟨k, hget⟩ hvl hP hF hns hk
  have := made_news (ys := ys) (k := k) Fm N hI0 hIn hD hget hns hk
  refine done D k h' tk ys.toList vs hvl hP hF this.1 ?_ this.2.2
  rw [Array.toArray_toList]; exact this.2.1
theorem lcE_of {s₂ : Shared} {I : Addr} {fp : List Addr} {n : Nat} {P : Nat → Value → Prop} {St : Nat → Heap → Prop} {m : Str → Option Value} {news : List (Addr × Obj)} {Q : Value → Shared → Prop}
    (W : Walks prog w A I fp [I] n P St) (hn : n ≤ 1000) (hst : St 0 s₂.heap) (hfp : ∀ b ∈ fp, b < s₂.heap.objs.size)
    (Fm : Fr h₀ env.locals s₂.heap m) (N : News h₀ env.locals s₂.heap news) (hI0 : h₀.get? I = none) (hIL : I ≠ env.locals) (hIn : ∀ q ∈ news, q.1 ≠ I)
    (ht : ∀ i v, P i v → LcTest prog w A env h₀ scope cl x ifs p news v) (he : ∀ i v, P i v → p v = true → LcElt prog w A env h₀ scope cl x elt F news v)
    (done : ∀ D k h' tk ys (vs : List Value), vs.length = n → (∀ j v, vs[j]? = some v → P j v) → Paired F (vs.filter p) ys → Fr h₀ env.locals h' m → News h₀ env.locals h' ((D, listOf (List.toArray ys) k) :: news) → (∀ q ∈ news, @Ne Nat q.1 D) → Q (.ref D) { s₂ with heap := h', toks := tk }) :
    LcE prog w A env scope cl x ifs elt p F Q (.ref I) s₂ := by
  refine ⟨I, fp, [I], n, P, St, rfl, W, by rw [sizeLine_eq]; omega, hst, hfp, quiet_of Fm N hI0 hIn ht he, ?_⟩
  intro D h' tk ys vs hD _ ⟨k, hget⟩ hvl hP hF hk
  have := made_news (ys := ys) (k := k) Fm N hI0 hIn hD hget (Fm.ns.at' fun o e => hk _ o (fun hb => hIL (List.mem_singleton.mp hb).symm) e) (fun b o _ hb e => hk b o hb e)
  refine done D k h' tk ys.toList vs hvl hP hF this.1 ?_ this.2.2
  rw [Array.toArray_toList]; exact this.2.1

theorem test_one {M : Model} {c : PySem.Expr} {cenv : Env} {Q : Bool → Shared → Prop} {E : Value → Shared → Prop} {s : Shared} (h : wpAny M A (isTrue c cenv (eval c cenv)) Q E s) :
    wpAny M A (forIn [c] true fun c r => if r = true then do let ok ← isTrue c cenv (eval c cenv); pure (ForInStep.yield ok) else pure (ForInStep.yield r)) Q E s := by
  rw [List.forIn_cons]
  simp only [if_true]
  refine wpAny_bind (wpAny_bind (wpAny_mono h (fun b s' hb => wpAny_pure ?_) fun _ _ e => e))
  exact wpAny_pure hb
theorem test_none {M : Model} {cenv : Env} {Q : Bool → Shared → Prop} {E : Value → Shared → Prop} {s : Shared} (h : Q true s) :
    wpAny M A (forIn ([] : List PySem.Expr) true fun c r => if r = true then do let ok ← isTrue c cenv (eval c cenv); pure (ForInStep.yield ok) else pure (ForInStep.yield r)) Q E s := wpAny_pure h
theorem lc_assign {s : Shared} {iter : PySem.Expr} {px py pos spos : Pos} {Q : Flow → Shared → Prop} {E : Value → Shared → Prop} (p : Value → Bool) (F : Value → Value → Prop)
    (hsw : swapsWith (.ListComp elt [⟨.Name x px, iter, ifs, 0⟩] scope pos) (some (.Name y py)) spos.line env = pure true)
    (hclos : closureFor scope env = pure cl) (hcell : ∀ z ∈ scope.names, z.2 ≠ .cell) (hkind : scope.kind = .function)
    (hnames : ∀ z ∈ scope.names, z.2 = .local → scope.names.lookup z.1 = some .local) (hx : scope.names.lookup x = some .local)
    (hy : env.kindOf y = some .local) (hp : (env.scope.kind == .class || (env.scope.kind == .module && env.locals != env.globals)) = false)
    (h : wpAny (model prog w) A (eval iter env) (fun xv s₁ => wpAny (model prog w) A (pyIter xv) (fun it s₂ => LcA prog w A env scope cl x y ifs elt p F Q it s₂) E s₁) E s)
    (hs : ∀ x, foldedSetIterable iter env x = pure x := by intro _; rfl) :
    wpAny (model prog w) A (exec (.Assign [.Name y py] (.ListComp elt [⟨.Name x px, iter, ifs, 0⟩] scope pos) spos) env) Q E s :=
  wpAny_Assign_ListComp_free p F hsw hclos hcell hkind hnames hx hy hp h hs
theorem lc_eval {s : Shared} {iter : PySem.Expr} {px pos : Pos} {Q : Value → Shared → Prop} {E : Value → Shared → Prop} (p : Value → Bool) (F : Value → Value → Prop)
    (hclos : closureFor scope env = pure cl) (hcell : ∀ z ∈ scope.names, z.2 ≠ .cell) (hkind : scope.kind = .function)
    (hnames : ∀ z ∈ scope.names, z.2 = .local → scope.names.lookup z.1 = some .local) (hx : scope.names.lookup x = some .local)
    (h : wpAny (model prog w) A (eval iter env) (fun xv s₁ => wpAny (model prog w) A (pyIter xv) (fun it s₂ => LcE prog w A env scope cl x ifs elt p F Q it s₂) E s₁) E s)
    (hs : ∀ x, foldedSetIterable iter env x = pure x := by intro _; rfl) :
    wpAny (model prog w) A (eval (.ListComp elt [⟨.Name x px, iter, ifs, 0⟩] scope pos) env) Q E s :=
  wpAny_ListComp_free p F hclos hcell hkind hnames hx h hs
/-- a name of the clause's own block -/
theorem lc_own {M : Model} {C : Addr} {m : Str → Option Value} {n : Str} {pos : Pos} {v : Value} {Q : Value → Shared → Prop} {E : Value → Shared → Prop} {s : Shared} (Fm : Fr h₀ C s.heap m) (hv : m n = some v) (h : Q v s)
    (hk : (compEnvC scope cl C env).scope.kind = .function) (hl : (compEnvC scope cl C env).kindOf n = some .local) (hd : (n == ("__debug__" : Str)) = false := by decide) :
    wpAny M A (eval (.Name n pos) (compEnvC scope cl C env)) Q E s := wpAny_Name (wpAny_loadName_local hk hl Fm.ns hv h) hd
theorem lcA_range {s : Shared} {r : Addr} {a b : Int} {t u v : Tok} {m : Str → Option Value} {news : List (Addr × Obj)} {Q : Flow → Shared → Prop} {E : Value → Shared → Prop} (hh : A.handled = none)
    (hr : IsRange s.heap r a b 1 t u v) (hsmall : Builtin.Range.small a b 1 = true) (hn : (b - a).toNat ≤ 1000) (Fm : Fr h₀ env.locals s.heap m) (N : News h₀ env.locals s.heap news)
    (ht : ∀ (i : Nat) c tv, i < (b - a).toNat → c = a + i → LcTest prog w A env h₀ scope cl x ifs p news (.int c tv)) (he : ∀ (i : Nat) c tv, i < (b - a).toNat → c = a + i → p (.int c tv) = true → LcElt prog w A env h₀ scope cl x elt F news (.int c tv))
    (done : ∀ D k h' tk ys (vs : List Value), vs.length = (b - a).toNat → (∀ (j : Nat) v, vs[j]? = some v → ∃ t, v = .int (a + j) t) → Paired F (vs.filter p) ys → Fr h₀ env.locals h' (fun z => if z = y then some (.ref D) else m z) → News h₀ env.locals h' ((D, listOf (List.toArray ys) k) :: news) → (∀ q ∈ news, @Ne Nat q.1 D) → Q .next { s with heap := h', toks := tk }) :
    wpAny (model prog w) A (pyIter (.ref r)) (fun it s₂ => LcA prog w A env scope cl x y ifs elt p F Q it s₂) E s := by
  refine wpAny_pyIter_range hr hsmall ?_
  have hlt : ∀ q ∈ news, q.1 < s.heap.objs.size := fun q hq => Heap.lt_size (N q hq).1
  refine lcA_of (n := (b - a).toNat) (Walks.range hh _ a 1 (b - a).toNat).bound hn ?_ ?_ (Fm.push _) (News.pushed N _) (fresh_size Fm) (Nat.ne_of_gt Fm.ns.lt) (fun q hq => Nat.ne_of_lt (hlt q hq)) ?_ ?_ ?_
  · show IsRangeIter _ _ _ _ _
    rw [rangeSize_up]
    simpa using Heap.get?_push_size _ rfl
  · intro b' hb
    rw [List.mem_singleton.mp hb]
    show _ < (Heap.push _ _).objs.size
    rw [Heap.size_push]; exact Nat.lt_succ_self _
  · rintro i v ⟨hi, tv, rfl⟩
    exact ht i _ tv hi (by omega)
  · rintro i v ⟨hi, tv, rfl⟩ hp
    exact he i _ tv hi (by omega) hp
  · intro D k h' tk ys vs hvl hP hF F' N' hd
    refine done D k h' tk ys vs hvl (fun j v hj => ?_) hF F' N' hd
    obtain ⟨_, tv, rfl⟩ := hP j v hj
    exact ⟨tv, by rw [Int.mul_one]⟩

theorem lcA_list {s : Shared} {l : Addr} {items : Array Value} {m : Str → Option Value} {news : List (Addr × Obj)} {Q : Flow → Shared → Prop} {E : Value → Shared → Prop} (hh : A.handled = none)
    (hl : s.heap.IsList l items) (hn : items.size ≤ 1000) (Fm : Fr h₀ env.locals s.heap m) (N : News h₀ env.locals s.heap news)
    (ht : ∀ (i : Nat) v, items[i]? = some v → LcTest prog w A env h₀ scope cl x ifs p news v) (he : ∀ (i : Nat) v, items[i]? = some v → p v = true → LcElt prog w A env h₀ scope cl x elt F news v)
    (done : ∀ D k h' tk ys, Paired F (items.toList.filter p) ys → Fr h₀ env.locals h' (fun z => if z = y then some (.ref D) else m z) → News h₀ env.locals h' ((D, listOf (List.toArray ys) k) :: news) → (∀ q ∈ news, @Ne Nat q.1 D) → Q .next { s with heap := h', toks := tk }) :
    wpAny (model prog w) A (pyIter (.ref l)) (fun it s₂ => LcA prog w A env scope cl x y ifs elt p F Q it s₂) E s := by
  refine wpAny_pyIter_list hl ?_
  have hlt : ∀ q ∈ news, q.1 < s.heap.objs.size := fun q hq => Heap.lt_size (N q hq).1
  obtain ⟨ol, hol, _⟩ := id hl
  have hne : l ≠ s.heap.objs.size := Nat.ne_of_lt (Heap.lt_size hol)
  refine lcA_of (n := items.size) (Walks.list hh _ l hne items) hn ⟨⟨_, Heap.get?_push_size _ rfl, rfl, rfl⟩, hl.at fun o e => Heap.get?_push_of_some _ e⟩ ?_ (Fm.push _) (News.pushed N _) (fresh_size Fm) (Nat.ne_of_gt Fm.ns.lt) (fun q hq => Nat.ne_of_lt (hlt q hq)) ht he ?_
  · intro b' hb
    show _ < (Heap.push _ _).objs.size
    rw [Heap.size_push]
    rcases List.mem_cons.mp hb with h | h
    · rw [h]; exact Nat.lt_succ_self _
    · rw [List.mem_singleton.mp h]; exact Nat.lt_succ_of_lt (Heap.lt_size hol)
  · intro D k h' tk ys vs hvl hP hF F' N' hd
    have e : vs = items.toList := by
      apply List.ext_getElem?
      intro j
      by_cases hj : j < vs.length
      · rw [List.getElem?_eq_getElem hj]
        have := hP j _ (List.getElem?_eq_getElem hj)
        rw [← this]; simp
      · rw [List.getElem?_eq_none (by omega), List.getElem?_eq_none (by rw [Array.length_toList]; omega)]
    rw [e] at hF
    exact done D k h' tk ys hF F' N' hd
theorem lcE_list {s : Shared} {l : Addr} {items : Array Value} {m : Str → Option Value} {news : List (Addr × Obj)} {Q : Value → Shared → Prop} {E : Value → Shared → Prop} (hh : A.handled = none)
    (hl : s.heap.IsList l items) (hn : items.size ≤ 1000) (Fm : Fr h₀ env.locals s.heap m) (N : News h₀ env.locals s.heap news)
    (ht : ∀ (i : Nat) v, items[i]? = some v → LcTest prog w A env h₀ scope cl x ifs p news v) (he : ∀ (i : Nat) v, items[i]? = some v → p v = true → LcElt prog w A env h₀ scope cl x elt F news v)
    (done : ∀ D k h' tk ys, Paired F (items.toList.filter p) ys → Fr h₀ env.locals h' m → News h₀ env.locals h' ((D, listOf (List.toArray ys) k) :: news) → (∀ q ∈ news, @Ne Nat q.1 D) → Q (.ref D) { s with heap := h', toks := tk }) :
    wpAny (model prog w) A (pyIter (.ref l)) (fun it s₂ => LcE prog w A env scope cl x ifs elt p F Q it s₂) E s := by
  refine wpAny_pyIter_list hl ?_
  have hlt : ∀ q ∈ news, q.1 < s.heap.objs.size := fun q hq => Heap.lt_size (N q hq).1
  obtain ⟨ol, hol, _⟩ := id hl
  have hne : l ≠ s.heap.objs.size := Nat.ne_of_lt (Heap.lt_size hol)
  refine lcE_of (n := items.size) (Walks.list hh _ l hne items) hn ⟨⟨_, Heap.get?_push_size _ rfl, rfl, rfl⟩, hl.at fun o e => Heap.get?_push_of_some _ e⟩ ?_ (Fm.push _) (News.pushed N _) (fresh_size Fm) (Nat.ne_of_gt Fm.ns.lt) (fun q hq => Nat.ne_of_lt (hlt q hq)) ht he ?_
  · intro b' hb
    show _ < (Heap.push _ _).objs.size
    rw [Heap.size_push]
    rcases List.mem_cons.mp hb with h | h
    · rw [h]; exact Nat.lt_succ_self _
    · rw [List.mem_singleton.mp h]; exact Nat.lt_succ_of_lt (Heap.lt_size hol)
  · intro D k h' tk ys vs hvl hP hF F' N' hd
    have e : vs = items.toList := by
      apply List.ext_getElem?
      intro j
      by_cases hj : j < vs.length
      · rw [List.getElem?_eq_getElem hj]
        have := hP j _ (List.getElem?_eq_getElem hj)
        rw [← this]; simp
      · rw [List.getElem?_eq_none (by omega), List.getElem?_eq_none (by rw [Array.length_toList]; omega)]
    rw [e] at hF
    exact done D k h' tk ys hF F' N' hd
end
end Mine
end

section
open PySem PySem.W PyProof.Rows PySem.Calls PySem.Spec
set_option maxRecDepth 100000
set_option maxHeartbeats 4000000
set_option linter.unusedVariables false
namespace Mine
def bodyOf : Option Stmt → List Stmt
  | some (.FunctionDef _ _ b _ _ _ _ _ _ _) => b
  | _ => []
def scopeOf : Option Stmt → Scope
  | some (.FunctionDef _ _ _ _ _ _ sc _ _ _) => sc
  | _ => { kind := .function, names := [], isGenerator := false, isCoroutine := false }
def lawBody : List Stmt := bodyOf (PySem.Challenge.pw_rs0020_01.main.body[10]?)
def lawScope : Scope := scopeOf (PySem.Challenge.pw_rs0020_01.main.body[10]?)
abbrev lawEnv (L fa : Addr) (cd : Value) : Env := envOfC (Str.ofString "law") lawScope L fa cd
theorem ne_new {h₀ h : Heap} {L a : Addr} {news : List (Addr × Obj)} {p : Addr × Obj} (N : News h₀ L h news) (hn : h.get? a = none) (hp : p ∈ news) : @Ne Nat p.1 a := fun e => by
  have := (N p hp).1
  have e' : p.1 = a := e
  rw [e', hn] at this; cases this
end Mine
end

section
open PySem PySem.W PyProof.Rows PySem.Calls PySem.Spec
set_option maxRecDepth 100000
set_option maxHeartbeats 4000000
set_option linter.unusedVariables false
namespace Mine
local macro_rules | `(tactic| walk_at "exec For Name Name cons nil") => `(tactic| (k_dflt (refine wpAny_For ?_)))
local macro_rules | `(tactic| walk_at "exec For Name Call cons nil") => `(tactic| (k_dflt (refine wpAny_For ?_)))

local macro_rules | `(tactic| walk_at "eval Name") => `(tactic| ((with_reducible show wpAny _ _ (eval (Expr.Name _ _) (compEnvC _ _ _ _)) _ _ _); k_dflt (refine lc_own (by assumption) (by rfl) ?_ (by rfl) (by rfl))))
theorem ints_filter {vs : List Value} {ns : List Int} (q : Int → Bool) (h : IntsAre vs ns) : IntsAre (vs.filter fun v => match v with | .int c _ => q c | _ => false) (ns.filter q) := by
  induction h with
  | nil => exact .nil
  | cons n t _ ih =>
    by_cases hq : q n = true
    · simp only [List.filter_cons, hq, if_true]; exact .cons n t ih
    · simp only [List.filter_cons, hq, if_false, Bool.false_eq_true]; exact ih
theorem paired_eq {vs ys : List Value} (h : Paired (fun v y => y = v) vs ys) : ys = vs := by
  induction h with
  | nil => rfl
  | cons e _ ih => rw [e, ih]
theorem ints_of_get : ∀ (vs : List Value) (a : Nat), (∀ (j : Nat) v, vs[j]? = some v → ∃ t, v = .int (((a + j : Nat)) : Int) t) → IntsAre vs ((List.range' a vs.length).map Nat.cast)
  | [], _, _ => .nil
  | v :: r, a, h => by
    obtain ⟨t, rfl⟩ := h 0 v rfl
    rw [List.length_cons, List.range'_succ, List.map_cons]
    refine .cons _ t (ints_of_get r (a + 1) fun j v hj => ?_)
    obtain ⟨t, e⟩ := h (j + 1) v (by simpa using hj)
    exact ⟨t, by rw [e]; congr 2; omega⟩
theorem low_ints {x : Int} {vs ys : List Value} (hvl : vs.length = ((32 : Int) - 0).toNat) (hP : ∀ (j : Nat) v, vs[j]? = some v → ∃ t, v = .int ((0 : Int) + j) t)
    (hF : Paired (fun v y => y = v) (vs.filter fun v => match v with | .int c _ => bitAt x c.toNat | _ => false) ys) : IntsAre ys ((bitsTo x 32).map Nat.cast) := by
  rw [paired_eq hF]
  have h1 := ints_of_get vs 0 fun j v hj => by
    obtain ⟨t, e⟩ := hP j v hj
    exact ⟨t, by rw [e]; congr 1⟩
  have h2 := ints_filter (fun c => bitAt x c.toNat) h1
  have e32 : vs.length = 32 := hvl
  rw [e32, ← List.range_eq_range', List.filter_map] at h2
  exact h2
theorem item_last {prog : Program} {w : World} {A : Around} {E : Value → Shared → Prop} {s : Shared} {value slice : PySem.Expr} {l : Addr} {vs : List Value} {u : Tok} {v : Value} {Q : Value → Shared → Prop}
    (hl : s.heap.IsList l (vs ++ [v]).toArray) (hn : vs.length ≤ 1000) (h : Q v s)
    (hs : subscripted slice false (.ref l) (.int (-1) u) = operate [.ref l, .int (-1) u] (getItem (.ref l) (.int (-1) u)) := by with_unfolding_all rfl) :
    wpAny (model prog w) A (subscriptTail value slice (.ref l) (.int (-1) u)) Q E s := by
  refine tail_any hl.typeIs slot_list_getitem.lookup (wpAny_getItem_list_neg hl (x := v) (by decide) ?_ (by decide) ?_ h) hs
  · rw [List.size_toArray, List.length_append, List.length_singleton]; omega
  · have e : ((-1 : Int) + ((vs ++ [v]).toArray.size : Int)).toNat = vs.length := by
      rw [List.size_toArray, List.length_append, List.length_singleton]; omega
    rw [e]; simp
theorem lw_low (x : Int) : lwText (bitsTo x 32) (x / 2 ^ 32 * 2 ^ 32) = pfText x := by
  have h : ∀ q ∈ bitsTo x 32, q < 32 := fun q hq => List.mem_range.mp (List.mem_filter.mp hq).1
  have e1 : (bitsTo x 32).filter (· < 32) = bitsTo x 32 := List.filter_eq_self.mpr fun q hq => decide_eq_true (h q hq)
  have e2 : restOf (bitsTo x 32) = 0 := by
    unfold restOf
    rw [List.filter_eq_nil_iff.mpr]
    · rfl
    · intro q hq
      have := h q hq
      simp; omega
  unfold lwText lwWords pfText pfWords
  rw [e1, e2, Int.add_zero]
theorem S5 {wd : World} {mean : ExcName → Option Value} {mg mb : Str → Option Value} {h₀ : Heap} {L fa : Addr} {cd : Value} {A : Around} {s : Shared} {m : Str → Option Value} {rl sl tl : Addr} {rvs : List Value} {kr : Nat} {row : List Int} {on ot os : Obj} {sh ab : Int} {t1 t2 : Tok} {vn : Option Value} {Q : Flow → Shared → Prop}
    (KX : (hd.heap_39 wd.params).In h₀) (T : TT mean mg mb h₀) (hh : A.handled = none) (hroom : A.depth + 20 < recursionLimit) (hu : A.units + 1000 < cLine)
    (F : Fr h₀ L s.heap m) (hm1 : m (Str.ofString "row") = some (.ref rl)) (hm2 : m (Str.ofString "shift") = some (.int sh t1)) (hm3 : m (Str.ofString "above") = some (.int ab t2))
    (N : News h₀ L s.heap [(tl, listOf (List.toArray []) 0), (sl, listOf (List.toArray []) 0), (rl, listOf rvs.toArray kr), (L + 1 + 1 + 1, on), (L + 1 + 1, ot), (L + 1, os)])
    (hos : os.data = .cell (some (.ref sl))) (hot : ot.data = .cell (some (.ref tl))) (hon : on.data = .cell vn)
    (hlt1 : @LT.lt Nat _ rl sl) (hlt2 : @LT.lt Nat _ sl tl) (hlt3 : @LT.lt Nat _ (L + 1 + 1 + 1) sl) (hq1 : @Ne Nat (L + 1 + 1 + 1) rl) (hq2 : @Ne Nat (L + 1 + 1) rl) (hq3 : @Ne Nat (L + 1) rl)
    (hrow : IntsAre rvs row) (hr11 : row.length ≤ 11) (hrb : ∀ x ∈ row, x.natAbs ≤ 2 ^ 40)
    (cont : ∀ m' h' tk' svs ks tvs kt on' vn' seen, Fr h₀ L h' m' → m' (Str.ofString "row") = some (.ref rl) → m' (Str.ofString "shift") = some (.int sh t1) → m' (Str.ofString "above") = some (.int ab t2) →
      News h₀ L h' [(tl, listOf (List.toArray tvs) kt), (sl, listOf (List.toArray svs) ks), (rl, listOf rvs.toArray kr), (L + 1 + 1 + 1, on'), (L + 1 + 1, ot), (L + 1, os)] → on'.data = .cell vn' →
      IntsAre svs seen → StrsAre tvs (seen.map pfText) → seen.length ≤ 11 → (∀ x ∈ row, x ∈ seen) → (∀ x ∈ seen, x ∈ row) →
      wpAny (model Challenge.rw_rs0020_01.row.prog wd) A (execs (lawBody.drop 6) (lawEnv L fa cd)) Q (fun _ _ => False) { s with heap := h', toks := tk' }) :
    wpAny (model Challenge.rw_rs0020_01.row.prog wd) A (execs (lawBody.drop 5) (lawEnv L fa cd)) Q (fun _ _ => False) s := by
  revert KX
  k_fill
  intro KX
  have cont' := cont
  clear cont
  dsimp only [lawBody, lawScope, PySem.Challenge.pw_rs0020_01, List.getElem?_cons_succ, List.getElem?_cons_zero, bodyOf, scopeOf, List.drop, lawEnv] at cont' ⊢
  rw [map_at hm1, map_at (m := fun y => if y = Str.ofString "row" then some (.ref rl) else m y) (x := Str.ofString "shift") hm2] at F
  k_steps
  (rename Fr _ _ _ _ => F2); (rename News _ _ _ _ => N2)
  refine for_list (h₀ := h₀) (ol := listOf rvs.toArray kr) (fun i m' news => m' (Str.ofString "row") = some (.ref rl) ∧ m' (Str.ofString "shift") = some (.int sh t1) ∧ m' (Str.ofString "above") = some (.int ab t2) ∧ ∃ svs ks tvs kt on' vn' seen, news = [(tl, listOf (List.toArray tvs) kt), (sl, listOf (List.toArray svs) ks), (rl, listOf rvs.toArray kr), (L + 1 + 1 + 1, on'), (L + 1 + 1, ot), (L + 1, os)] ∧ on'.data = .cell vn' ∧ IntsAre svs seen ∧ StrsAre tvs (seen.map pfText) ∧ seen.length ≤ i ∧ (∀ x ∈ row.take i, x ∈ seen) ∧ ∀ z ∈ seen, z ∈ row) hh (fun h e => ⟨_, e, rfl, _, rfl⟩) (N2 _ (.tail _ (.tail _ (.head _)))).1 (fun i m news h hj F N => by obtain ⟨_, _, _, _, _, _, _, _, _, _, rfl, _⟩ := hj; exact (N _ (.tail _ (.tail _ (.head _)))).1) F2 N2 ?_ ?_ ?_
  · exact ⟨rfl, rfl, hm3, [], 0, [], 0, on, vn, [], rfl, hon, .nil, .nil, Nat.le_refl _, (by intro x hx; cases hx), (by intro x hx; cases hx)⟩
  · rintro I hI hLI i v m₁ news₁ oI h tk hv ⟨ha1, ha2, ha3, svs, ks, tvs, kt, on', vn', seen, rfl, hon', hsv, htv, hsl, hsub, hback⟩ hne F3 N3
    obtain ⟨x, tx, rfl, hx⟩ := hrow.at i v (by simpa using hv)
    have hxb := hrb x (List.mem_of_getElem? hx)
    have hi : i < row.length := (List.getElem?_eq_some_iff.mp hx).1
    have hI1 : @LT.lt Nat _ tl I := hI (tl, _) (.head _)
    have hI2 : @LT.lt Nat _ sl I := hI (sl, _) (.tail _ (.head _))
    have hI3 : @LT.lt Nat _ rl I := hI (rl, _) (.tail _ (.tail _ (.head _)))
    have hI4 : @LT.lt Nat _ (L + 1 + 1 + 1) I := hI (_, on) (.tail _ (.tail _ (.tail _ (.head _))))
    rw [map_at ha1, map_at (m := fun y => if y = Str.ofString "row" then some (.ref rl) else m₁ y) (x := Str.ofString "shift") ha2] at F3
    clear F2 N2 hon hv
    have htake : row.take (i + 1) = row.take i ++ [x] := by rw [List.take_add_one, hx]; rfl
    have hne' : ∀ (a b c : Obj), ∀ q ∈ [(tl, a), (sl, b), (rl, listOf rvs.toArray kr), (L + 1 + 1 + 1, c), (L + 1 + 1, ot), (L + 1, os)], q.1 ≠ I := by
      intro a b c q hq
      simp only [List.mem_cons, List.not_mem_nil, or_false] at hq
      rcases hq with rfl | rfl | rfl | rfl | rfl | rfl
      · exact Nat.ne_of_lt hI1
      · exact Nat.ne_of_lt hI2
      · exact Nat.ne_of_lt hI3
      · exact Nat.ne_of_lt hI4
      · exact Nat.ne_of_lt (Nat.lt_trans (Nat.lt_succ_self _) hI4)
      · exact Nat.ne_of_lt (Nat.lt_trans (Nat.lt_trans (Nat.lt_succ_self _) (Nat.lt_succ_self _)) hI4)
    k_steps
    · (rename Fr _ _ _ _ => Fz); (rename News _ _ _ _ => Nz); (rename IntsAre svs seen => hsv'); (rename (List.any _ _ = true) => hany); (rename (_ = Data.cell (some (Value.int x tx))) => hdn)
      refine TurnEnd.intro Fz Nz (hne' _ _ _) ⟨rfl, rfl, ha3, svs, ks, tvs, kt, _, _, seen, rfl, hdn, hsv', htv, by omega, ?_, hback⟩
      intro y hy
      rw [htake] at hy
      rcases List.mem_append.mp hy with h | h
      · exact hsub y h
      · rw [List.mem_singleton.mp h]
        obtain ⟨z, hz1, hz2⟩ := List.any_eq_true.mp hany
        rw [beq_iff_eq.mp hz2] at hz1; exact hz1
    · (rename Fr _ _ _ _ => Fz); (rename News _ _ _ _ => Nz); (rename IntsAre svs seen => hsv'); (rename (_ = Data.cell (some (Value.int x tx))) => hdn)
      refine pf_spec (KX.keeps Fz.keep) (T.keeps Fz.keep) (by omega) (by omega) hh (by omega) ?_
      intro t3 h3 tk3 hext
      have F4 := hext.fr Fz
      have N4 := hext.news Nz
      clear Fz Nz
      have htl : tvs.length ≤ 11 := by rw [htv.length, List.length_map]; omega
      k_steps
      (rename Fr _ _ _ _ => F5); (rename News _ _ _ _ => N5)
      simp only [List.push_toArray] at N5
      refine lc_assign (cl := [(Str.ofString "number", L + 1 + 1 + 1)]) (fun v => match v with | .int c _ => bitAt x c.toNat | _ => false) (fun v y => y = v) (by with_unfolding_all rfl) (by with_unfolding_all rfl) (by decide) rfl (by decide) rfl rfl rfl ?_
      k_steps
      (rename IsRange _ _ _ _ _ _ _ _ => R6); (rename Fr _ _ _ _ => F6); (rename News _ _ _ _ => N6)
      refine lcA_range (h₀ := h₀) hh R6 (by decide) (by decide) F6 N6 ?_ ?_ ?_
      · intro j c tv hj hc m₃ C s₃ hm₃ F₃ N₃
        refine test_one ?_
        have hcj : c = (j : Int) := by omega
        subst hcj
        rw [map_at hm₃] at F₃
        clear F6 N6 R6
        k_steps
        · show _ = bitAt x ((j : Int).toNat)
          unfold bitAt
          rw [Int.toNat_natCast, Int.fdiv_eq_ediv_of_nonneg _ (Int.le_of_lt (two_pow_pos j)), Int.fmod_eq_emod_of_nonneg _ (by decide)]
        · exact ⟨_, _, rfl, fun _ _ e => e⟩
      · intro j c tv hj hc hp m₃ C s₃ hm₃ F₃ N₃
        exact lc_own F₃ hm₃ ⟨rfl, _, _, rfl, fun _ _ e => e⟩ rfl rfl
      · intro D k' h' tk' ys vs hvl hP hF F7 N7 hd'
        have hlow : IntsAre ys ((bitsTo x 32).map Nat.cast) := low_ints hvl hP hF
        have hd1 := hd' _ (.head _)
        have hd2 := hd' _ (.tail _ (.head _))
        have hd3 := hd' _ (.tail _ (.tail _ (.head _)))
        have hd4 := hd' _ (.tail _ (.tail _ (.tail _ (.head _))))
        have hd5 := hd' _ (.tail _ (.tail _ (.tail _ (.tail _ (.head _)))))
        have hd6 := hd' _ (.tail _ (.tail _ (.tail _ (.tail _ (.tail _ (.head _))))))
        have hd7 := hd' _ (.tail _ (.tail _ (.tail _ (.tail _ (.tail _ (.tail _ (.head _)))))))
        dsimp only at hd1 hd2 hd3 hd4 hd5 hd6 hd7
        clear F6 N6 R6 hd'
        have hlw : (bitsTo x 32).length ≤ 100 := by have := bitsTo_length x 32; omega
        have hl40 : ∀ q ∈ bitsTo x 32, q < 40 := fun q hq => by
          have := List.mem_range.mp (List.mem_filter.mp hq).1; omega
        k_steps
        (rename Fr _ _ _ _ => F8); (rename News _ _ _ _ => N8)
        refine item_last (News.isList N8 (by k_mem)) (by omega) ?_
        k_steps
        have eab : x.fdiv (2 ^ Int.toNat 32) * 2 ^ Int.toNat 32 = x / 2 ^ 32 * 2 ^ 32 := by
          show x.fdiv (2 ^ 32) * 2 ^ 32 = _
          rw [Int.fdiv_eq_ediv_of_nonneg _ (by decide)]
        rw [eab]
        (rename Fr _ _ _ _ => F9); (rename News _ _ _ _ => N9)
        refine lw_spec (KX.keeps F9.keep) (T.keeps F9.keep) (by omega) (by omega) hh (N9 _ (.head _)).1 hlow hlw hl40 (by omega) ?_
        rw [lw_low]
        intro t5 h5 tk5 hext5
        have F10 := hext5.fr F9
        have N10 := hext5.news N9
        clear F9 N9
        have hself : (pfText x != pfText x) = false := by simp
        k_steps
        (rename Fr _ _ _ _ => Fz); (rename News _ _ _ _ => Nz)
        have Nz' : News h₀ L _ [(I, oI), (tl, listOf (List.toArray (tvs ++ [.str (pfText x) t3])) (kt + 1)), (sl, listOf (List.toArray (svs ++ [.int x tx])) (ks + 1)), (rl, listOf rvs.toArray kr), (L + 1 + 1 + 1, _), (L + 1 + 1, ot), (L + 1, os)] := fun q hq => Nz q (.tail _ hq)
        refine TurnEnd.intro Fz Nz' (hne' _ _ _) ⟨rfl, rfl, ha3, svs ++ [.int x tx], ks + 1, tvs ++ [.str (pfText x) t3], kt + 1, _, _, seen ++ [x], rfl, hdn, ints_snoc hsv', ?_, ?_, ?_, ?_⟩
        · rw [List.map_append]; exact StrsAre.append' htv (.cons _ _ .nil)
        · rw [List.length_append, List.length_singleton]; omega
        · intro y hy
          rw [htake] at hy
          rcases List.mem_append.mp hy with h | h
          · exact List.mem_append.mpr (.inl (hsub y h))
          · exact List.mem_append.mpr (.inr h)
        · intro y hy
          rcases List.mem_append.mp hy with h | h
          · exact hback y h
          · rw [List.mem_singleton.mp h]; exact List.mem_of_getElem? hx
  · rintro m₁ news₁ h tk ⟨ha1, ha2, ha3, svs, ks, tvs, kt, on', vn', seen, rfl, hon', hsv, htv, hsl, hsub, hback⟩ F3 N3
    have hsz : rvs.toArray.size = row.length := by rw [List.size_toArray, hrow.length]
    rw [hsz] at hsl hsub
    refine wpAny_execs_nil ?_
    exact cont' _ _ _ _ _ _ _ _ _ _ F3 ha1 ha2 ha3 N3 hon' hsv htv (by omega) (by rw [List.take_length] at hsub; exact hsub) hback
end Mine
end

section
open PySem PySem.W PyProof.Rows PySem.Calls PySem.Spec
set_option maxRecDepth 100000
set_option maxHeartbeats 4000000
set_option linter.unusedVariables false
namespace Mine
local macro_rules | `(tactic| walk_at "eval Name") => `(tactic| ((with_reducible show wpAny _ _ (eval (Expr.Name _ _) (compEnvC _ _ _ _)) _ _ _); k_dflt (refine lc_own (by assumption) (by rfl) ?_ (by rfl) (by rfl))))
/-- the words of the row, each with a dot -/
def wordsOf' (row : List Int) : List Str := row.map fun n => pfText n ++ Str.ofString "."

theorem weight_small : ∀ ns : List Int, (∀ x ∈ ns, x.natAbs ≤ 2 ^ 40) → PyData.weightAll (ns.map PyData.int) ≤ 43 * ns.length
  | [], _ => Nat.le_refl _
  | x :: r, h => by
    have h1 := weight_small r fun y hy => h y (.tail _ hy)
    have h2 := h x (.head _)
    have h3 : x.natAbs.log2 ≤ 40 := by
      rcases Nat.eq_zero_or_pos x.natAbs with e | e
      · rw [e]; decide
      · have := (Nat.log2_lt (n := x.natAbs) (k := 41) (by omega)).mpr (by omega)
        omega
    simp only [List.map_cons, PyData.weightAll, PyData.weight, List.length_cons]
    split <;> omega
theorem layable_small (ns : List Int) (h : ∀ x ∈ ns, x.natAbs ≤ 2 ^ 40) (hl : ns.length ≤ 100) : PyData.layable0 (.list (ns.map PyData.int)) = true := by
  have h1 := weight_small ns h
  have h2 : PyData.depth (.list (ns.map PyData.int)) ≤ 64 := by simp [PyData.depth, ke_depthAll]
  have h3 : PyData.canLay0 (.list (ns.map PyData.int)) = true := by simp [PyData.canLay0, ke_canLayAll0]
  unfold PyData.layable0
  rw [h3, decide_eq_true h2, Bool.true_and, Bool.true_and]
  refine decide_eq_true ?_
  simp only [PyData.weight]; omega

theorem spelled_of {rvs ys : List Value} {row : List Int} (h : IntsAre rvs row) (hF : Paired (fun v y => match v with | .int n _ => ∃ t, y = .str (pfText n) t | _ => False) (rvs.toArray.toList.filter fun v => true) ys) : StrsAre ys (row.map pfText) := by
  have e : (rvs.toArray.toList.filter fun v => true) = rvs := by simp
  rw [e] at hF
  clear e
  induction h generalizing ys with
  | nil => cases hF; exact .nil
  | cons n t _ ih =>
    cases hF with
    | cons h1 h2 =>
      obtain ⟨t', rfl⟩ := h1
      exact .cons _ t' (ih h2)

theorem dotted_of {ys zs : List Value} {row : List Int} (h : StrsAre ys (row.map pfText)) (hF : Paired (fun v y => match v with | .str z _ => ∃ t, y = .str (z ++ Str.ofString ".") t | _ => False) (ys.toArray.toList.filter fun v => true) zs) : StrsAre zs (wordsOf' row) := by
  have e : (ys.toArray.toList.filter fun v => true) = ys := by simp
  rw [e] at hF
  clear e
  unfold wordsOf'
  rw [show (row.map fun n => pfText n ++ Str.ofString ".") = (row.map pfText).map (· ++ Str.ofString ".") from by simp]
  generalize row.map pfText = ts at h ⊢
  induction h generalizing zs with
  | nil => cases hF; exact .nil
  | cons n t _ ih =>
    cases hF with
    | cons h1 h2 =>
      obtain ⟨t', rfl⟩ := h1
      exact .cons _ t' (ih h2)
theorem pfText_length (n : Int) (h : n.natAbs < 2 ^ 50) : (pfText n).length ≤ 2000 := by
  have hw : ∀ x ∈ pfWords n, x.length ≤ 19 := by
    intro x hx
    unfold pfWords tellW at hx
    rcases List.mem_append.mp hx with h' | h'
    · obtain ⟨k, hk, rfl⟩ := List.mem_map.mp h'
      exact flagWord_length k (List.mem_range.mp (List.mem_filter.mp hk).1)
    · split at h'
      · rw [List.mem_singleton.mp h']; exact hexT_length _ (by omega)
      · cases h'
  have hl : (pfWords n).length ≤ 33 := by
    unfold pfWords tellW
    have := bitsTo_length n 32
    rw [List.length_append, List.length_map]
    split <;> simp <;> omega
  have h1 := StrLaws.join_length_le (Str.ofString ", ") (pfWords n)
  have h2 := sum_len_le hw
  have h3 : (Str.ofString ", ").length = 2 := by rw [ofString_len]; rfl
  rw [h3] at h1
  show (Str.join _ _).length ≤ _
  omega

local macro_rules | `(tactic| walk_at "execs cons For cons") => `(tactic| (refine Halt.out ?_))
local macro_rules | `(tactic| walk_at "execs cons") => `(tactic| ((with_reducible show wpAny _ _ (execs (Stmt.For _ _ _ _ _ :: _) _) _ _ _); refine Halt.out ?_))
local macro_rules | `(tactic| walk_at "eval ListComp") => `(tactic| (refine Halt.out ?_))
theorem getD_strs {vs : List Value} {ss : List Str} (h : StrsAre vs ss) {i : Nat} (hi : i < ss.length) : ∃ t, vs.getD i .none = .str ss[i] t := by
  obtain ⟨t, ht⟩ := h.get i ss[i] (List.getElem?_eq_getElem hi)
  exact ⟨t, by rw [List.getD_eq_getElem?_getD, ht]; rfl⟩
theorem cmp_strs {prog : Program} {wd : World} {vs : List Value} {ss : List Str} (h : StrsAre vs ss) : Cmp prog wd vs ss where
  len := h.length
  ne := fun i j hi hj A s Q E hQ => by
    obtain ⟨t, e⟩ := getD_strs h hi
    obtain ⟨u, e'⟩ := getD_strs h hj
    rw [e, e']
    refine PyProof.Rows.ne_str ?_
    rw [List.getElem?_eq_getElem hi, List.getElem?_eq_getElem hj] at hQ
    have e2 : (ss[i] != ss[j]) = !decide (some ss[i] = some ss[j]) := by
      by_cases h : ss[i] = ss[j]
      · rw [h]; simp
      · simp [h]
    rw [e2]; exact hQ
theorem getD_ints {vs : List Value} {ss : List Int} (h : IntsAre vs ss) {i : Nat} (hi : i < ss.length) : ∃ t, vs.getD i .none = .int ss[i] t := by
  obtain ⟨t, ht⟩ := h.get i ss[i] (List.getElem?_eq_getElem hi)
  exact ⟨t, by rw [List.getD_eq_getElem?_getD, ht]; rfl⟩
theorem cmp_ints {prog : Program} {wd : World} {vs : List Value} {ss : List Int} (h : IntsAre vs ss) : Cmp prog wd vs ss where
  len := h.length
  ne := fun i j hi hj A s Q E hQ => by
    obtain ⟨t, e⟩ := getD_ints h hi
    obtain ⟨u, e'⟩ := getD_ints h hj
    rw [e, e']
    refine PyProof.Rows.ne_int ?_
    rw [List.getElem?_eq_getElem hi, List.getElem?_eq_getElem hj] at hQ
    have e2 : (ss[i] != ss[j]) = !decide (some ss[i] = some ss[j]) := by
      by_cases h : ss[i] = ss[j]
      · rw [h]; simp
      · simp [h]
    rw [e2]; exact hQ

theorem S6 {wd : World} {mean : ExcName → Option Value} {mg mb : Str → Option Value} {h₀ : Heap} {L fa : Addr} {cd : Value} {A : Around} {s : Shared} {m : Str → Option Value} {rl sl tl : Addr} {rvs svs tvs : List Value} {kr ks kt : Nat} {row seen : List Int} {on ot os : Obj} {sh ab : Int} {t1 t2 : Tok} {vn : Option Value} {Q : Flow → Shared → Prop}
    (KX : (hd.heap_39 wd.params).In h₀) (T : TT mean mg mb h₀) (hh : A.handled = none) (hroom : A.depth + 20 < recursionLimit) (hu : A.units + 1000 < cLine)
    (F : Fr h₀ L s.heap m) (hm1 : m (Str.ofString "row") = some (.ref rl)) (hm2 : m (Str.ofString "shift") = some (.int sh t1)) (hm3 : m (Str.ofString "above") = some (.int ab t2))
    (N : News h₀ L s.heap [(tl, listOf (List.toArray tvs) kt), (sl, listOf (List.toArray svs) ks), (rl, listOf rvs.toArray kr), (L + 1 + 1 + 1, on), (L + 1 + 1, ot), (L + 1, os)])
    (hos : os.data = .cell (some (.ref sl))) (hot : ot.data = .cell (some (.ref tl))) (hon : on.data = .cell vn)
    (hlt1 : @LT.lt Nat _ rl sl) (hlt2 : @LT.lt Nat _ sl tl) (hlt3 : @LT.lt Nat _ (L + 1 + 1 + 1) sl) (hq1 : @Ne Nat (L + 1 + 1 + 1) rl) (hq2 : @Ne Nat (L + 1 + 1) rl) (hq3 : @Ne Nat (L + 1) rl)
    (hrow : IntsAre rvs row) (hr11 : row.length ≤ 11) (hrb : ∀ x ∈ row, x.natAbs ≤ 2 ^ 40)
    (hsv : IntsAre svs seen) (htv : StrsAre tvs (seen.map pfText)) (hsl : seen.length ≤ 11) (hsub : ∀ x ∈ row, x ∈ seen) (hback : ∀ x ∈ seen, x ∈ row)
    (cont : ∀ m' h' tk' bl bvs kb, Fr h₀ L h' m' → m' (Str.ofString "row") = some (.ref rl) → m' (Str.ofString "shift") = some (.int sh t1) → m' (Str.ofString "above") = some (.int ab t2) → m' (Str.ofString "table") = some (.ref bl) →
      News h₀ L h' [(bl, listOf (List.toArray bvs) kb), (rl, listOf rvs.toArray kr)] → @Ne Nat rl bl → IntsAre bvs (tab (wordsOf' row)) →
      wpAny (model Challenge.rw_rs0020_01.row.prog wd) A (execs (lawBody.drop 10) (lawEnv L fa cd)) Q (fun _ _ => False) { s with heap := h', toks := tk' }) :
    wpAny (model Challenge.rw_rs0020_01.row.prog wd) A (execs (lawBody.drop 6) (lawEnv L fa cd)) Q (fun _ _ => False) s := by
  revert KX
  k_fill
  intro KX
  have cont' := cont
  clear cont
  dsimp only [lawBody, lawScope, PySem.Challenge.pw_rs0020_01, List.getElem?_cons_succ, List.getElem?_cons_zero, bodyOf, scopeOf, List.drop, lawEnv] at cont' ⊢
  rw [map_at hm1] at F
  refine wpAny_execs_cons ?_
  refine lc_assign (cl := [(Str.ofString "told", L + 1 + 1), (Str.ofString "seen", L + 1)]) (fun v => true) (fun v y => match v with | .int n _ => ∃ t, y = .str (pfText n) t | _ => False) (by with_unfolding_all rfl) (by with_unfolding_all rfl) (by decide) rfl (by decide) rfl rfl rfl ?_
  k_steps
  (rename Fr _ _ _ _ => F6); (rename News _ _ _ _ => N6)
  refine lcA_list (h₀ := h₀) (items := rvs.toArray) hh (News.isList N6 (by k_mem)) (by rw [List.size_toArray, hrow.length]; omega) F6 N6 ?_ ?_ ?_
  · intro i v hv m₃ C s₃ hm₃ F₃ N₃
    exact test_none ⟨rfl, _, _, rfl, fun _ _ e => e⟩
  · intro i v hv _ m₃ C s₃ hm₃ F₃ N₃
    obtain ⟨x, tx, rfl, hx⟩ := hrow.at i v (by simpa using hv)
    have hxs : x ∈ seen := hsub x (List.mem_of_getElem? hx)
    rw [map_at hm₃] at F₃
    clear F6 N6
    have hlay := layable_small seen (fun y hy => hrb y (hback y hy)) (by omega)
    k_steps
    have hj : seen.idxOf x < seen.length := List.idxOf_lt_length_iff.mpr hxs
    obtain ⟨tj, htj⟩ := htv.get (seen.idxOf x) (pfText x) (by
      rw [List.getElem?_map, List.getElem?_eq_getElem hj, Option.map_some, List.getElem_idxOf hj])
    refine item_of (News.isList N₃ (by k_mem)) (by omega) (by omega) (by rw [Int.toNat_natCast]; exact htj) ?_
    exact ⟨⟨tj, rfl⟩, _, _, rfl, fun _ _ e => e⟩
  · intro D k' h' tk' ys hF F7 N7 hd'
    have hsp : StrsAre ys (row.map pfText) := spelled_of hrow hF
    have hd1 := hd' _ (.head _)
    have hd2 := hd' _ (.tail _ (.head _))
    have hd3 := hd' _ (.tail _ (.tail _ (.head _)))
    dsimp only at hd1 hd2 hd3
    have hyl : ys.length = row.length := by rw [hsp.length, List.length_map]
    have N8 : News h₀ L h' [(D, listOf (List.toArray ys) k'), (rl, listOf rvs.toArray kr)] := fun q hq => N7 q (by
      rcases List.mem_cons.mp hq with rfl | hq
      · exact .head _
      · rw [List.mem_singleton.mp hq]; exact .tail _ (.tail _ (.tail _ (.head _))))
    clear F6 N6 N7 hd'
    refine wpAny_execs_cons ?_
    refine lc_assign (cl := []) (fun v => true) (fun v y => match v with | .str z _ => ∃ t, y = .str (z ++ Str.ofString ".") t | _ => False) (by with_unfolding_all rfl) (by with_unfolding_all rfl) (by decide) rfl (by decide) rfl rfl rfl ?_
    k_steps
    (rename Fr _ _ _ _ => F9); (rename News _ _ _ _ => N9)
    refine lcA_list (h₀ := h₀) (items := ys.toArray) hh (News.isList N9 (by k_mem)) (by rw [List.size_toArray]; omega) F9 N9 ?_ ?_ ?_
    · intro i v hv m₃ C s₃ hm₃ F₃ N₃
      exact test_none ⟨rfl, _, _, rfl, fun _ _ e => e⟩
    · intro i v hv _ m₃ C s₃ hm₃ F₃ N₃
      obtain ⟨z, tz, rfl, hz⟩ := hsp.item i v (by simpa using hv)
      have hzl : z.length ≤ 2000 := by
        rw [List.getElem?_map] at hz
        cases hr : row[i]? with
        | none => rw [hr] at hz; cases hz
        | some n =>
          rw [hr] at hz
          obtain rfl := Option.some.inj hz
          exact pfText_length n (by have := hrb n (List.mem_of_getElem? hr); omega)
      rw [map_at hm₃] at F₃
      clear F9 N9
      k_steps
      exact ⟨_, _, rfl, fun _ _ e => e⟩
    · intro D2 k2 h2 tk2 zs hF2 F10 N10 hd2'
      have hw : StrsAre zs (wordsOf' row) := dotted_of hsp hF2
      have hdd := hd2' _ (.head _)
      have hde := hd2' _ (.tail _ (.head _))
      dsimp only at hdd hde
      have hzl : zs.length = row.length := by rw [hw.length]; simp [wordsOf']
      clear F9 N9 hd2'
      k_steps
      (rename Fr _ _ _ _ => F11); (rename News _ _ _ _ => N11)
      have hwl : (wordsOf' row).length = row.length := by simp [wordsOf']
      refine ov_spec (KX.keeps F11.keep) (T.keeps F11.keep) (by omega) (by omega) hh (N11 _ (.head _)).1 (cmp_strs hw) (by omega) ?_
      intro bl bvs kb h12 tk12 hext hnone hget hbI
      have q1 := ne_new N11 hnone (.head _)
      have q2 := ne_new N11 hnone (.tail _ (.head _))
      have q3 := ne_new N11 hnone (.tail _ (.tail _ (.head _)))
      dsimp only at q1 q2 q3
      have F12 := hext.fr F11
      have N12 := hext.newsCons F11 N11 hget hnone
      clear F11 N11
      k_steps
      unfold Halt
      refine lc_eval (cl := []) (fun v => true) (fun v y => match v with | .str z _ => ∃ t, y = .str (z ++ Str.ofString ".") t | _ => False) (by with_unfolding_all rfl) (by decide) rfl (by decide) rfl ?_
      k_steps
      (rename Fr _ _ _ _ => F13); (rename News _ _ _ _ => N13)
      refine lcE_list (h₀ := h₀) (items := ys.toArray) hh (News.isList N13 (by k_mem)) (by rw [List.size_toArray]; omega) F13 N13 ?_ ?_ ?_
      · intro i v hv m₃ C s₃ hm₃ F₃ N₃
        exact test_none ⟨rfl, _, _, rfl, fun _ _ e => e⟩
      · intro i v hv _ m₃ C s₃ hm₃ F₃ N₃
        obtain ⟨z, tz, rfl, hz⟩ := hsp.item i v (by simpa using hv)
        have hzl : z.length ≤ 2000 := by
          rw [List.getElem?_map] at hz
          cases hr : row[i]? with
          | none => rw [hr] at hz; cases hz
          | some n =>
            rw [hr] at hz
            obtain rfl := Option.some.inj hz
            exact pfText_length n (by have := hrb n (List.mem_of_getElem? hr); omega)
        rw [map_at hm₃] at F₃
        clear F13 N13
        k_steps
        exact ⟨_, _, rfl, fun _ _ e => e⟩
      · intro D3 k3 h3 tk3 ws3 hF3 F14 N14 hd3'
        have hw3 : StrsAre ws3 (wordsOf' row) := dotted_of hsp hF3
        have hok : ∀ x ∈ wordsOf' row, Ok x := by
          intro x hx
          obtain ⟨n, _, rfl⟩ := List.mem_map.mp hx
          exact ok_append (ok_join (ok_ofString _) _ (ok_tellW _ _)) (ok_ofString _)
        refine ms_ne_strs (News.isList N14 (by k_mem)) (News.isList N14 (by k_mem)) hw hw3 hok hok (by omega) ?_
        clear F13 N13
        have hself : decide (wordsOf' row = wordsOf' row) = true := decide_eq_true rfl
        rw [hself]
        k_steps
        unfold Halt
        (rename Fr _ _ _ _ => Fz); (rename News _ _ _ _ => Nz)
        have Nz' : News h₀ L _ [(bl, listOf (List.toArray bvs) kb), (rl, listOf rvs.toArray kr)] := fun q hq => Nz q (by
          rcases List.mem_cons.mp hq with rfl | hq
          · exact .tail _ (.head _)
          · rw [List.mem_singleton.mp hq]; exact .tail _ (.tail _ (.tail _ (.tail _ (.head _)))))
        exact cont' _ _ _ bl bvs kb Fz rfl hm2 hm3 rfl Nz' q3 hbI
end Mine
end

section
open PySem PySem.W PyProof.Rows PySem.Calls PySem.Spec
set_option maxRecDepth 100000
set_option autoImplicit false
namespace Mine
def bitsN (N : Nat) : List Nat := (List.range 40).filter fun k => N.testBit k
theorem filter_range_add (N e : Nat) (hN : N < 2 ^ e) : ∀ m, e < m → (List.range m).filter (fun k => (2 ^ e + N).testBit k) = (List.range m).filter (fun k => N.testBit k) ++ [e]
  | 0, h => absurd h (Nat.not_lt_zero _)
  | m + 1, h => by
    rw [List.range_succ, List.filter_append, List.filter_append]
    by_cases he : e = m
    · subst he
      have h1 : (List.range e).filter (fun k => (2 ^ e + N).testBit k) = (List.range e).filter (fun k => N.testBit k) := by
        apply List.filter_congr
        intro k hk
        exact Nat.testBit_two_pow_add_gt (List.mem_range.mp hk) N
      have h2 : (2 ^ e + N).testBit e = true := by rw [Nat.testBit_two_pow_add_eq, Nat.testBit_lt_two_pow hN]; rfl
      have h3 : N.testBit e = false := Nat.testBit_lt_two_pow hN
      rw [h1]
      simp [h2, h3]
    · have hlt : e < m := by omega
      rw [filter_range_add N e hN m hlt]
      have h2 : (2 ^ e + N).testBit m = false := by
        apply Nat.testBit_lt_two_pow
        have : 2 ^ (e + 1) ≤ 2 ^ m := Nat.pow_le_pow_right (by decide) hlt
        rw [Nat.pow_succ] at this; omega
      have h3 : N.testBit m = false := by
        apply Nat.testBit_lt_two_pow
        have : 2 ^ e ≤ 2 ^ m := Nat.pow_le_pow_right (by decide) (by omega)
        omega
      simp [h2, h3]
theorem bitsN_add {N e : Nat} (hN : N < 2 ^ e) (he : e < 40) : bitsN (2 ^ e + N) = bitsN N ++ [e] := filter_range_add N e hN 40 he
theorem bitsN_lt {N p : Nat} (h : p ∈ bitsN N) : p < 40 := List.mem_range.mp (List.mem_filter.mp h).1
theorem restOf_snoc (ps : List Nat) (q : Nat) : restOf (ps ++ [q]) = restOf ps + (if 32 ≤ q then 2 ^ q else 0) := by
  unfold restOf
  rw [List.filter_append, List.map_append, List.sum_append]
  by_cases h32 : 32 ≤ q <;> simp [h32]
theorem restOf_bits : ∀ e N : Nat, e ≤ 40 → N < 2 ^ e → restOf (bitsN N) = ((N / 2 ^ 32 * 2 ^ 32 : Nat) : Int)
  | 0, N, _, h => by
    have : N = 0 := by simpa using h
    subst this; decide +kernel
  | e + 1, N, he, h => by
    by_cases h' : N < 2 ^ e
    · exact restOf_bits e N (by omega) h'
    · have hN : N - 2 ^ e < 2 ^ e := by rw [Nat.pow_succ] at h; omega
      have e1 : N = 2 ^ e + (N - 2 ^ e) := by omega
      have ih := restOf_bits e (N - 2 ^ e) (by omega) hN
      rw [e1, bitsN_add hN (by omega), restOf_snoc, ih]
      generalize N - 2 ^ e = M at hN
      by_cases h32 : 32 ≤ e
      · rw [if_pos h32]
        have e2 : 2 ^ e = 2 ^ (e - 32) * 2 ^ 32 := by rw [← Nat.pow_add]; congr 1; omega
        have e3 : (2 ^ e + M) / 2 ^ 32 = 2 ^ (e - 32) + M / 2 ^ 32 := by
          rw [e2, Nat.add_comm, Nat.add_mul_div_right _ _ (by decide), Nat.add_comm]
        rw [e3, Nat.add_mul, ← e2, ← kbt_cast e, Int.natCast_add, Int.add_comm]
      · rw [if_neg h32]
        have hp : 2 ^ (e + 1) ≤ 2 ^ 32 := Nat.pow_le_pow_right (by decide) (by omega)
        rw [Nat.pow_succ] at hp
        have a1 : M / 2 ^ 32 = 0 := Nat.div_eq_of_lt (by omega)
        have a2 : (2 ^ e + M) / 2 ^ 32 = 0 := Nat.div_eq_of_lt (by omega)
        rw [a1, a2]; rfl
theorem bit_low (c : Int) (N k : Nat) (hk : k < 44) : bitAt (c * 2 ^ 44 + (N : Int)) k = N.testBit k := by
  have e1 : (2 : Int) ^ 44 = 2 ^ (43 - k) * 2 * 2 ^ k := by
    rw [← Int.pow_succ, ← Int.pow_add]; congr 1; omega
  have e2 : (c * 2 ^ 44 + (N : Int)) / 2 ^ k = (N : Int) / 2 ^ k + c * 2 ^ (43 - k) * 2 := by
    rw [e1, Int.add_comm, ← Int.mul_assoc, Int.add_mul_ediv_right _ _ (Int.ne_of_gt (two_pow_pos k)), Int.mul_assoc]
  have e3 : (N : Int) / 2 ^ k = ((N / 2 ^ k : Nat) : Int) := by rw [← kbt_cast k]; rfl
  unfold bitAt
  rw [e2, e3, Int.add_mul_emod_self_right, Nat.testBit_eq_decide_div_mod_eq]
  have e4 : ((N / 2 ^ k : Nat) : Int) % 2 = ((N / 2 ^ k % 2 : Nat) : Int) := rfl
  rw [e4]
  rcases Nat.mod_two_eq_zero_or_one (N / 2 ^ k) with h | h <;> rw [h] <;> rfl
theorem low_bits (c : Int) (N : Nat) : bitsTo (c * 2 ^ 44 + (N : Int)) 32 = (bitsN N).filter (· < 32) := by
  unfold bitsTo bitsN
  rw [List.filter_filter]
  have e : List.range 40 = List.range 32 ++ [32, 33, 34, 35, 36, 37, 38, 39] := by decide
  rw [e, List.filter_append]
  have h2 : ([32, 33, 34, 35, 36, 37, 38, 39] : List Nat).filter (fun a => decide (a < 32) && N.testBit a) = [] := by
    simp
  rw [h2, List.append_nil]
  apply List.filter_congr
  intro k hk
  have hk' := List.mem_range.mp hk
  rw [bit_low c N k (by omega)]
  simp [hk']
theorem tell_flags (c : Int) (N : Nat) (hN : N < 2 ^ 40) : pfText (c * 2 ^ 44 + (N : Int)) = lwText (bitsN N) (c * 2 ^ 44) := by
  unfold pfText lwText pfWords lwWords
  rw [low_bits, restOf_bits 40 N (Nat.le_refl _) hN]
  congr 2
  have e1 : (2 : Int) ^ 44 = 2 ^ 12 * 2 ^ 32 := by decide
  have e2 : (c * 2 ^ 44 + (N : Int)) / 2 ^ 32 = (N : Int) / 2 ^ 32 + c * 2 ^ 12 := by
    rw [e1, Int.add_comm, ← Int.mul_assoc, Int.add_mul_ediv_right _ _ (by decide)]
  rw [e2, Int.add_mul, Int.add_comm, Int.mul_assoc, ← e1]
  rfl
end Mine
end

section
set_option maxRecDepth 100000
set_option autoImplicit false
namespace Mine
section
variable {α : Type} [DecidableEq α]
/-- the borders of the first n, longest first, without 0 -/
def bset (w : List α) (n : Nat) : List Nat := (List.range n).reverse.filter fun c => decide (0 < c ∧ Bord w n c)
theorem mem_bset {w : List α} {n c : Nat} : c ∈ bset w n ↔ 0 < c ∧ Bord w n c := by
  unfold bset
  rw [List.mem_filter, List.mem_reverse, List.mem_range, decide_eq_true_iff]
  exact ⟨fun h => h.2, fun h => ⟨h.2.1, h⟩⟩
theorem rev_lt (P : Nat → Bool) (b : Nat) : ∀ n, b ≤ n → ((List.range n).reverse.filter P).filter (fun c => decide (c < b)) = (List.range b).reverse.filter P
  | 0, h => by
    have : b = 0 := by omega
    subst this; rfl
  | n + 1, h => by
    by_cases e : b = n + 1
    · subst e
      rw [List.filter_filter]
      apply List.filter_congr
      intro c hc
      have := List.mem_range.mp (List.mem_reverse.mp hc)
      simp [this]
    · rw [← rev_lt P b n (by omega), List.range_succ, List.reverse_append]
      have hn : ¬ n < b := by omega
      by_cases hp : P n = true
      · simp [List.filter_cons, hp, hn]
      · simp [List.filter_cons, hp]
theorem bset_of {w : List α} {n b : Nat} (h : Bord w n b) : bset w b = (bset w n).filter (fun c => decide (c < b)) := by
  unfold bset
  rw [rev_lt _ b n (Nat.le_of_lt h.1)]
  apply List.filter_congr
  intro c hc
  have hcb := List.mem_range.mp (List.mem_reverse.mp hc)
  have : Bord w b c ↔ Bord w n c := ⟨fun h' => bord_trans h h', fun h' => bord_of h h' hcb⟩
  simp only [this]
theorem rev_head (P : Nat → Bool) (b : Nat) (hb : P b = true) : ∀ n, b < n → (∀ c, b < c → c < n → P c = false) → (List.range n).reverse.filter P = b :: (List.range b).reverse.filter P
  | 0, h, _ => by omega
  | n + 1, h, hm => by
    rw [List.range_succ, List.reverse_append]
    by_cases e : b = n
    · subst e; simp [List.filter_cons, hb]
    · have := hm n (by omega) (by omega)
      have ih := rev_head P b hb n (by omega) fun c h1 h2 => hm c h1 (by omega)
      simp only [List.reverse_cons, List.reverse_nil, List.nil_append, List.singleton_append, List.filter_cons, this]
      simpa using ih
theorem bset_cons {w : List α} {n : Nat} (hn : 0 < n) (h : lb w n ≠ 0) : bset w n = lb w n :: bset w (lb w n) := by
  have hB := lb_bord w hn
  rw [bset_of hB]
  unfold bset
  rw [rev_lt _ _ n (Nat.le_of_lt hB.1)]
  refine rev_head _ _ ?_ n hB.1 fun c h1 h2 => ?_
  · exact decide_eq_true ⟨by omega, hB⟩
  · refine decide_eq_false fun h' => ?_
    have := lb_max w h'.2
    omega
theorem bset_nil {w : List α} {n : Nat} (h : lb w n = 0) : bset w n = [] := by
  refine List.eq_nil_iff_forall_not_mem.mpr fun c hc => ?_
  obtain ⟨h1, h2⟩ := mem_bset.mp hc
  have := lb_max w h2
  omega
theorem bset_head {w : List α} {n : Nat} (hn : 0 < n) : (bset w n).headD 0 = lb w n := by
  by_cases h : lb w n = 0
  · rw [bset_nil h, h]; rfl
  · rw [bset_cons hn h]; rfl

/-- a row with a period has its multiples -/
theorem bord_mul {w : List α} {n p : Nat} (h : Bord w n (n - p)) (hp : 0 < p) (hpn : p < n) : ∀ k, 1 ≤ k → k * p < n → Bord w n (n - k * p)
  | 0, h1, _ => by omega
  | k + 1, _, h2 => by
    by_cases hk : k = 0
    · subst hk; simpa using h
    · have e : (k + 1) * p = k * p + p := Nat.succ_mul k p
      have ih := bord_mul h hp hpn k (by omega) (by omega)
      refine ⟨by omega, fun i hi => ?_⟩
      have e1 := ih.2 i (by omega)
      have e2 := h.2 (k * p + i) (by omega)
      rw [e1, show n - (n - k * p) + i = k * p + i from by omega, e2]
      congr 1; omega
theorem per_mod {w : List α} {n p : Nat} (h : Bord w n (n - p)) (hp : 0 < p) (hpn : p ≤ n) : ∀ i, i < n → w[i]? = w[i % p]?
  | i, hi => by
    by_cases hlt : i < p
    · rw [Nat.mod_eq_of_lt hlt]
    · have ih := per_mod h hp hpn (i - p) (by omega)
      have e := h.2 (i - p) (by omega)
      rw [show n - (n - p) + (i - p) = i from by omega] at e
      rw [← e, ih, Nat.mod_eq_sub_mod (a := i) (by omega)]
termination_by i => i
theorem per_down {w : List α} {n b : Nat} (h : Bord w n b) (hlt : n - b < b) : Bord w b (b - (n - b)) := by
  have := h.1
  refine ⟨by omega, fun i hi => ?_⟩
  rw [h.2 i (by omega)]; congr 1; omega
theorem per_add {w : List α} {n b c : Nat} (h : Bord w n b) (hc : Bord w b c) (hs : n - b + (b - c) ≤ b) : Bord w n (n - (b - c)) := by
  have h1 := h.1; have h2 := hc.1
  refine ⟨by omega, fun i hi => ?_⟩
  rw [show n - (n - (b - c)) + i = b - c + i from by omega]
  induction i using Nat.strongRecOn with
  | _ i ih =>
    by_cases hic : i < c
    · exact hc.2 i hic
    · have e1 := h.2 (i - (n - b)) (by omega)
      have e2 := h.2 (b - c + i - (n - b)) (by omega)
      rw [show n - b + (i - (n - b)) = i from by omega] at e1
      rw [show n - b + (b - c + i - (n - b)) = b - c + i from by omega] at e2
      rw [← e1, ← e2, ih (i - (n - b)) (by omega) (by omega)]
      congr 1; omega
theorem per_dvd {w : List α} {n b c : Nat} (h : Bord w n b) (hc : Bord w b c) (hp : n - b ≤ b) (hd : (n - b) % (b - c) = 0) : Bord w n (n - (b - c)) := by
  have h1 := h.1; have h2 := hc.1
  have hdv : (b - c) ∣ (n - b) := Nat.dvd_of_mod_eq_zero hd
  have hle := Nat.le_of_dvd (by omega) hdv
  have key : ∀ i, i < n → w[i]? = w[i % (b - c)]? := by
    intro i hi
    have e1 := per_mod (p := n - b) (by rw [show n - (n - b) = b from by omega]; exact h) (by omega) (by omega) i hi
    have hm : i % (n - b) < n - b := Nat.mod_lt _ (by omega)
    have e2 := per_mod (p := b - c) (by rw [show b - (b - c) = c from by omega]; exact hc) (by omega) (by omega) (i % (n - b)) (by omega)
    rw [e1, e2, Nat.mod_mod_of_dvd _ hdv]
  refine ⟨by omega, fun i hi => ?_⟩
  rw [show n - (n - (b - c)) + i = i + (b - c) from by omega, key i (by omega), key (i + (b - c)) (by omega), Nat.add_mod_right]

/-! the row of two signs by the set of borders alone -/
def twinS : Nat → List Nat → Nat → List Int
  | 0, _, _ => []
  | f + 1, S, n =>
    if S.headD 0 = 0 then 0 :: List.replicate (n - 1) 1
    else if S.headD 0 < n - S.headD 0 then
      twinS f (S.filter fun c => decide (c < S.headD 0)) (S.headD 0) ++ List.replicate (n - S.headD 0 - S.headD 0 - 1) 1 ++
        [if primB (twinS f (S.filter fun c => decide (c < S.headD 0)) (S.headD 0) ++ List.replicate (n - S.headD 0 - S.headD 0 - 1) 1 ++ [0]) then 0 else 1] ++ twinS f (S.filter fun c => decide (c < S.headD 0)) (S.headD 0)
    else
      (List.replicate (n / (n - S.headD 0)) ((twinS f (S.filter fun c => decide (c < (n - S.headD 0) + n % (n - S.headD 0))) ((n - S.headD 0) + n % (n - S.headD 0))).take (n - S.headD 0))).flatten ++
        (twinS f (S.filter fun c => decide (c < (n - S.headD 0) + n % (n - S.headD 0))) ((n - S.headD 0) + n % (n - S.headD 0))).take (n % (n - S.headD 0))

theorem twin_eq (w : List α) : ∀ f n, 1 ≤ n → twin (lb w) f n = twinS f (bset w n) n
  | 0, n, _ => rfl
  | f + 1, n, hn => by
    have hB := lb_bord w hn
    have hlt := hB.1
    unfold twin twinS
    rw [bset_head hn]
    by_cases h0 : lb w n = 0
    · rw [if_pos h0, if_pos h0]
    · rw [if_neg h0, if_neg h0]
      by_cases h1 : lb w n < n - lb w n
      · rw [if_pos h1, if_pos h1, twin_eq w f (lb w n) (by omega), bset_of hB]
      · rw [if_neg h1, if_neg h1]
        have hp : 0 < n - lb w n := by omega
        have hdm := Nat.div_add_mod n (n - lb w n)
        have hq : 2 ≤ n / (n - lb w n) := (Nat.le_div_iff_mul_le hp).mpr (by omega)
        have hbc : Bord w n (n - lb w n + n % (n - lb w n)) := by
          have hb : Bord w n (n - (n - lb w n)) := by rw [show n - (n - lb w n) = lb w n from by omega]; exact hB
          have hk : (n / (n - lb w n) - 1) * (n - lb w n) + (n - lb w n) = (n - lb w n) * (n / (n - lb w n)) := by
            rw [← Nat.succ_mul, Nat.mul_comm]; congr 1; omega
          have := bord_mul hb hp (by omega) (n / (n - lb w n) - 1) (by omega) (by omega)
          rw [show n - (n / (n - lb w n) - 1) * (n - lb w n) = n - lb w n + n % (n - lb w n) from by omega] at this
          exact this
        rw [twin_eq w f _ (by omega), bset_of hbc]

/-! the sets that can come -/
def okB (n b : Nat) (S : List Nat) : Bool :=
  decide (b < n - b) || ((decide (n - b = b) || S.contains (b - (n - b))) && S.all fun c => decide (n - b ≤ b - c) || (decide ((n - b) % (b - c) ≠ 0) && decide (b < n - b + (b - c))))
def fam : Nat → Nat → List (List Nat)
  | 0, _ => []
  | f + 1, n => [] :: (List.range n).flatMap fun b => if b = 0 then [] else ((fam f b).filter (okB n b)).map (b :: ·)

theorem bset_fam (w : List α) : ∀ f n, n ≤ f → 1 ≤ n → bset w n ∈ fam f n
  | 0, n, h, h1 => by omega
  | f + 1, n, h, h1 => by
    have hB := lb_bord w h1
    have hlt := hB.1
    unfold fam
    by_cases h0 : lb w n = 0
    · rw [bset_nil h0]; exact .head _
    · rw [bset_cons h1 h0]
      refine .tail _ (List.mem_flatMap.mpr ⟨lb w n, List.mem_range.mpr hlt, ?_⟩)
      rw [if_neg h0]
      refine List.mem_map.mpr ⟨_, List.mem_filter.mpr ⟨bset_fam w f (lb w n) (by omega) (by omega), ?_⟩, rfl⟩
      unfold okB
      by_cases hp : lb w n < n - lb w n
      · rw [decide_eq_true hp]; rfl
      · rw [decide_eq_false hp, Bool.false_or, Bool.and_eq_true, Bool.or_eq_true, List.all_eq_true]
        refine ⟨?_, fun c hc => ?_⟩
        · by_cases he : n - lb w n = lb w n
          · exact .inl (decide_eq_true he)
          · refine .inr (List.contains_iff_mem.mpr (mem_bset.mpr ⟨by omega, per_down hB (by omega)⟩))
        · obtain ⟨hc0, hcb⟩ := mem_bset.mp hc
          have hcl := hcb.1
          rw [Bool.or_eq_true, Bool.and_eq_true, decide_eq_true_iff, decide_eq_true_iff, decide_eq_true_iff]
          by_cases hq : n - lb w n ≤ lb w n - c
          · exact .inl hq
          · refine .inr ⟨fun hd => ?_, ?_⟩
            · have := lb_max w (per_dvd hB hcb (by omega) hd)
              omega
            · rcases Nat.lt_or_ge (lb w n) (n - lb w n + (lb w n - c)) with h' | h'
              · exact h'
              · have := lb_max w (per_add hB hcb h')
                omega
end

def chk (n : Nat) (S : List Nat) : Bool :=
  decide ((twinS 11 S n).length = n) && ((List.range n).all fun st => decide (st = 0) || (decide ((twinS 11 S n).drop st = (twinS 11 S n).take (n - st)) == S.contains (n - st))) &&
    primB ((twinS 11 S n).take (n - S.headD 0)) && decide (lb (twinS 11 S n) n = S.headD 0)
theorem chk_all : ((List.range 12).all fun n => decide (n = 0) || (fam 11 n).all (chk n)) = true := by decide +kernel
theorem chk_of {α : Type} [DecidableEq α] (w : List α) {n : Nat} (h1 : 1 ≤ n) (h2 : n ≤ 11) : chk n (bset w n) = true := by
  have h := List.all_eq_true.mp chk_all n (List.mem_range.mpr (by omega))
  rw [decide_eq_false (by omega), Bool.false_or] at h
  exact List.all_eq_true.mp h _ (bset_fam w 11 n h2 h1)

/-- a row agrees with itself moved by st just where it has that border -/
theorem moved_bord {α : Type} [DecidableEq α] {w : List α} {n st : Nat} (h1 : 1 ≤ st) (h2 : st < n) : (w.take n).drop st = w.take (n - st) ↔ Bord w n (n - st) := by
  constructor
  · intro e
    refine ⟨by omega, fun i hi => ?_⟩
    have := congrArg (fun l => l[i]?) e
    simp only [List.getElem?_drop, List.getElem?_take] at this
    rw [if_pos (by omega), if_pos hi] at this
    rw [← this]; congr 1; omega
  · intro h
    apply List.ext_getElem?
    intro i
    simp only [List.getElem?_drop, List.getElem?_take]
    by_cases hi : i < n - st
    · rw [if_pos (by omega), if_pos hi, h.2 i hi]; congr 1; omega
    · rw [if_neg (by omega), if_neg hi]
theorem bord_map {α β : Type} [DecidableEq α] [DecidableEq β] {g : α → β} {w : List α} (hg : ∀ x ∈ w, ∀ y ∈ w, g x = g y → x = y) {n c : Nat} (hn : n ≤ w.length) : Bord (w.map g) n c ↔ Bord w n c := by
  unfold Bord
  refine and_congr_right fun hc => forall_congr' fun i => ?_
  by_cases hi : i < c
  · have a1 : i < w.length := by omega
    have a2 : n - c + i < w.length := by omega
    simp only [hi, true_implies, List.getElem?_map, List.getElem?_eq_getElem a1, List.getElem?_eq_getElem a2, Option.map_some, Option.some.injEq]
    exact ⟨fun e => hg _ (List.getElem_mem _) _ (List.getElem_mem _) e, fun e => by rw [e]⟩
  · simp [hi]
end Mine
end

section
set_option maxRecDepth 100000
set_option autoImplicit false
namespace Mine
/-- what the two-sign rows must meet -/
structure Twins {α : Type} [DecidableEq α] (row : List Int) (ws : List α) : Prop where
  len : ∀ n, 1 ≤ n → n ≤ row.length → (twin (lb ws) 11 n).length = n
  same : ∀ n st, 1 ≤ st → st < n → n ≤ row.length → ((twin (lb ws) 11 n).drop st = (twin (lb ws) 11 n).take (n - st) ↔ (row.take n).drop st = row.take (n - st))
  prim : ∀ n, 1 ≤ n → n ≤ row.length → primB ((twin (lb ws) 11 n).take (n - lb ws n)) = true
  last : ∀ n, 1 ≤ n → n ≤ row.length → lb (twin (lb ws) 11 n) n = lb ws n
theorem twins_of {α : Type} [DecidableEq α] {row : List Int} {g : Int → α} (hg : ∀ x ∈ row, ∀ y ∈ row, g x = g y → x = y) (hl : row.length ≤ 11) : Twins row (row.map g) := by
  have key : ∀ n, 1 ≤ n → n ≤ row.length → (twin (lb (row.map g)) 11 n).length = n ∧ (∀ st, 1 ≤ st → st < n → ((twin (lb (row.map g)) 11 n).drop st = (twin (lb (row.map g)) 11 n).take (n - st) ↔ (row.take n).drop st = row.take (n - st))) ∧
      primB ((twin (lb (row.map g)) 11 n).take (n - lb (row.map g) n)) = true ∧ lb (twin (lb (row.map g)) 11 n) n = lb (row.map g) n := by
    intro n h1 h2
    have h := chk_of (row.map g) h1 (show n ≤ 11 by omega)
    unfold chk at h
    rw [bset_head h1, ← twin_eq _ 11 n h1, Bool.and_eq_true, Bool.and_eq_true, Bool.and_eq_true, decide_eq_true_iff, decide_eq_true_iff, List.all_eq_true] at h
    obtain ⟨⟨⟨a, b⟩, c⟩, d⟩ := h
    refine ⟨a, fun st s1 s2 => ?_, c, d⟩
    have hb := b st (List.mem_range.mpr s2)
    rw [decide_eq_false (by omega), Bool.false_or, beq_iff_eq] at hb
    rw [moved_bord s1 s2, ← bord_map hg h2]
    have hm : n - st ∈ bset (row.map g) n ↔ Bord (row.map g) n (n - st) := by
      rw [mem_bset]; exact ⟨fun h => h.2, fun h => ⟨by omega, h⟩⟩
    rw [← hm, ← List.contains_iff_mem, ← hb, decide_eq_true_iff]
  exact ⟨fun n a b => (key n a b).1, fun n st a b c => (key n (by omega) c).2.1 st a b, fun n a b => (key n a b).2.2.1, fun n a b => (key n a b).2.2.2⟩
end Mine
end

section
open PySem PySem.W PyProof.Rows PySem.Calls PySem.Spec
set_option maxRecDepth 100000
set_option maxHeartbeats 4000000
set_option linter.unusedVariables false
namespace Mine
local macro_rules | `(tactic| walk_at "exec For Name Name cons nil") => `(tactic| (k_dflt (refine wpAny_For ?_)))
local macro_rules | `(tactic| walk_at "exec For Name Call cons nil") => `(tactic| (k_dflt (refine wpAny_For ?_)))
local macro_rules | `(tactic| walk_at "eval ListComp") => `(tactic| (refine Halt.out ?_))
local macro_rules | `(tactic| walk_at "subscriptTail Name BinOp ref int") => `(tactic| (k_dflt (refine item_tab (News.isList (by assumption) (by k_mem)) (by assumption) (by omega) (by omega) (by omega) ?_; intro _)))
local macro_rules | `(tactic| kmk_nums) => `(tactic| first
  | ((with_reducible show IntsAre (Array.toList (slicePick _ (some _) none none)) _); exact kmk_from (by l_ints) (by omega))
  | ((with_reducible show IntsAre (Array.toList (slicePick _ none (some _) none)) _); first | exact kmk_upto (by l_ints) (by omega) | exact kmk_upto_neg (by l_ints) (by omega))
  | ((with_reducible show IntsAre (Array.toList (slicePick _ (some _) (some _) none)) _); exact kmk_run (by l_ints) (by omega) (by omega)))

local macro_rules | `(tactic| walk_at "eval Name") => `(tactic| ((with_reducible show wpAny _ _ (eval (Expr.Name _ _) (compEnvC _ _ _ _)) _ _ _); k_dflt (refine lc_own (by assumption) (by rfl) ?_ (by rfl) (by rfl))))
theorem put {h₀ h : Heap} {L : Addr} {m : Str → Option Value} (x : Str) (v : Value) (F : Fr h₀ L h m) (e : m x = some v) : Fr h₀ L h (fun y => if y = x then some v else m y) := by
  rw [← map_at e]; exact F
theorem S10 {α : Type} [DecidableEq α] {wd : World} {mean : ExcName → Option Value} {mg mb : Str → Option Value} {h₀ : Heap} {L fa : Addr} {cd : Value} {A : Around} {s : Shared} {m : Str → Option Value} {rl bl : Addr} {rvs bvs : List Value} {kr kb : Nat} {row : List Int} {ws : List α} {sh ab : Int} {t1 t2 : Tok} {Q : Flow → Shared → Prop}
    (KX : (hd.heap_39 wd.params).In h₀) (T : TT mean mg mb h₀) (hh : A.handled = none) (hroom : A.depth + 30 < recursionLimit) (hu : A.units + 1000 < cLine)
    (F : Fr h₀ L s.heap m) (hm1 : m (Str.ofString "row") = some (.ref rl)) (hm2 : m (Str.ofString "shift") = some (.int sh t1)) (hm3 : m (Str.ofString "above") = some (.int ab t2)) (hm4 : m (Str.ofString "table") = some (.ref bl))
    (N : News h₀ L s.heap [(bl, listOf (List.toArray bvs) kb), (rl, listOf rvs.toArray kr)]) (hne : @Ne Nat rl bl)
    (hrow : IntsAre rvs row) (hr11 : row.length ≤ 11) (hb : IntsAre bvs (tab ws)) (hwl : ws.length = row.length) (hP : Twins row ws)
    (hsh : -1 ≤ sh ∧ sh ≤ 26) (hab : ∃ c : Int, ab = c * 2 ^ 44 ∧ -1 ≤ c ∧ c ≤ 1)
    (fin : ∀ h' tk' m', Fr h₀ L h' m' → Q (.ret (.bool true)) { s with heap := h', toks := tk' }) :
    wpAny (model Challenge.rw_rs0020_01.row.prog wd) A (execs (lawBody.drop 10) (lawEnv L fa cd)) Q (fun _ _ => False) s := by
  revert KX
  k_fill
  intro KX
  dsimp only [lawBody, lawScope, PySem.Challenge.pw_rs0020_01, List.getElem?_cons_succ, List.getElem?_cons_zero, bodyOf, scopeOf, List.drop, lawEnv]
  rw [map_at hm1, map_at (m := fun y => if y = Str.ofString "row" then some (.ref rl) else m y) (x := Str.ofString "shift") hm2, map_at (m := fun y => if y = Str.ofString "shift" then some (.int sh t1) else if y = Str.ofString "row" then some (.ref rl) else m y) (x := Str.ofString "above") hm3, map_at (m := fun y => if y = Str.ofString "above" then some (.int ab t2) else if y = Str.ofString "shift" then some (.int sh t1) else if y = Str.ofString "row" then some (.ref rl) else m y) (x := Str.ofString "table") hm4] at F
  have hbl : bvs.length = row.length := by rw [hb.length, ← hwl]; simp [tab]
  k_steps
  (rename IsRange _ _ _ _ _ _ _ _ => R2); (rename Fr _ _ _ _ => F2); (rename News _ _ _ _ => N2)
  refine for_range (h₀ := h₀) (fun i m' news => m' (Str.ofString "row") = some (.ref rl) ∧ m' (Str.ofString "shift") = some (.int sh t1) ∧ m' (Str.ofString "above") = some (.int ab t2) ∧ m' (Str.ofString "table") = some (.ref bl) ∧ news = [(bl, listOf (List.toArray bvs) kb), (rl, listOf rvs.toArray kr)]) hh R2 (small_one (by omega) (by omega) (by omega) (by omega)) F2 N2 ⟨rfl, rfl, rfl, rfl, rfl⟩ ?_ ?_
  · rintro I hI hLI i c t m₁ news₁ oI h tk hi hc ⟨ha1, ha2, ha3, ha4, rfl⟩ hneI F3 N3
    have hc' : c = ((i + 1 : Nat) : Int) := by omega
    subst hc'
    have hi' : i + 1 ≤ row.length := by omega
    have hI1 : @LT.lt Nat _ bl I := hI (bl, _) (.head _)
    have hI2 : @LT.lt Nat _ rl I := hI (rl, _) (.tail _ (.head _))
    rw [map_at ha1, map_at (m := fun y => if y = Str.ofString "row" then some (.ref rl) else m₁ y) (x := Str.ofString "shift") ha2, map_at (m := fun y => if y = Str.ofString "shift" then some (.int sh t1) else if y = Str.ofString "row" then some (.ref rl) else m₁ y) (x := Str.ofString "above") ha3, map_at (m := fun y => if y = Str.ofString "above" then some (.int ab t2) else if y = Str.ofString "shift" then some (.int sh t1) else if y = Str.ofString "row" then some (.ref rl) else m₁ y) (x := Str.ofString "table") ha4] at F3
    clear F2 N2 R2
    k_steps
    (rename Fr _ _ _ _ => F4); (rename News _ _ _ _ => N4)
    refine tw_spec (by omega) hb 11 (i + 1) (by omega) (by omega) (by omega) (KX.keeps F4.keep) (T.keeps F4.keep) (by omega) (by omega) hh (N4 _ (.tail _ (.head _))).1 ?_
    intro twl twv ktw h5 tk5 hext hnone hget htw
    have q1 := ne_new N4 hnone (.head _)
    have q2 := ne_new N4 hnone (.tail _ (.head _))
    have q3 := ne_new N4 hnone (.tail _ (.tail _ (.head _)))
    dsimp only at q1 q2 q3
    have F5 := hext.fr F4
    have N5 := hext.newsCons F4 N4 hget hnone
    clear F4 N4
    have htl := hP.len (i + 1) (by omega) hi'
    have hsame := fun st h1 h2 => hP.same (i + 1) st h1 h2 hi'
    have hprim := hP.prim (i + 1) (by omega) hi'
    have hlast := hP.last (i + 1) (by omega) hi'
    have hlb : lb ws (i + 1) < i + 1 := lb_lt ws (by omega)
    generalize twin (lb ws) 11 (i + 1) = tw at *
    have htvl : twv.length = i + 1 := by rw [htw.length, htl]
    k_steps
    (rename IsRange _ _ _ _ _ _ _ _ => R6); (rename Fr _ _ _ _ => F6); (rename News _ _ _ _ => N6)
    obtain ⟨pl, hpl, N7⟩ : ∃ pl : Addr, pl = _ ∧ News h₀ L _ ((pl, listOf (List.toArray []) 0) :: _) := ⟨_, rfl, N6⟩
    subst hpl
    obtain ⟨ca, rfl, hc1, hc2⟩ := hab
    (rename (_ ∧ _ ∧ _ ∧ _) => hlt)
    have hp1 : @LT.lt Nat _ twl pl := hlt.1
    have hp2 : @LT.lt Nat _ I pl := hlt.2.1
    have hp3 : @LT.lt Nat _ bl pl := hlt.2.2.1
    have hp4 : @LT.lt Nat _ rl pl := hlt.2.2.2
    refine for_range (h₀ := h₀) (fun j m' news => m' (Str.ofString "row") = some (.ref rl) ∧ m' (Str.ofString "shift") = some (.int sh t1) ∧ m' (Str.ofString "above") = some (.int (ca * 2 ^ 44) t2) ∧ m' (Str.ofString "table") = some (.ref bl) ∧ m' (Str.ofString "front") = some (.int ((i + 1 : Nat) : Int) t) ∧ m' (Str.ofString "twin") = some (.ref twl) ∧ m' (Str.ofString "places") = some (.ref pl) ∧ ∃ Nn : Nat, ∃ tf pvs kp, m' (Str.ofString "flags") = some (.int (ca * 2 ^ 44 + (Nn : Int)) tf) ∧ news = [(pl, listOf (List.toArray pvs) kp), (twl, listOf twv.toArray ktw), (I, oI), (bl, listOf bvs.toArray kb), (rl, listOf rvs.toArray kr)] ∧ IntsAre pvs ((bitsN Nn).map Nat.cast) ∧ Nn < 2 ^ (sh + 1 + j).toNat) hh R6 (small_one (by omega) (by omega) (by omega) (by omega)) F6 N7 ?_ ?_ ?_
    · exact ⟨rfl, rfl, rfl, rfl, rfl, rfl, rfl, 0, _, [], 0, by rw [Int.natCast_zero, Int.add_zero]; rfl, rfl, IntsAre.nil, Nat.two_pow_pos _⟩
    · rintro I2 hI2' hLI2 j c2 tj m₂ news₂ oI2 h7 tk7 hj hcj ⟨b1, b2, b3, b4, b5, b6, b7, Nn, tf, pvs, kp, b8, rfl, hpv, hNn⟩ hneI2 F8 N8
      have hcj' : c2 = ((j + 1 : Nat) : Int) := by omega
      subst hcj'
      have hj' : j + 1 < i + 1 := by omega
      have hJ1 : @LT.lt Nat _ pl I2 := hI2' (pl, _) (.head _)
      have hpvl : pvs.length ≤ 40 := by
        rw [hpv.length, List.length_map]
        have := List.length_filter_le (fun k => Nn.testBit k) (List.range 40)
        rw [List.length_range] at this; exact this
      have F9 := put (Str.ofString "flags") _ (put (Str.ofString "places") _ (put (Str.ofString "twin") _ (put (Str.ofString "front") _ (put (Str.ofString "table") _ (put (Str.ofString "above") _ (put (Str.ofString "shift") _ (put (Str.ofString "row") _ F8 b1) b2) b3) b4) b5) b6) b7) b8
      clear F6 N6 R6 N7 F8
      have hs1 := hsame (j + 1) (by omega) hj'
      have et1 : ((((j + 1 : Nat)) : Int)).toNat = j + 1 := by omega
      have et2 : ((((i + 1 : Nat)) : Int) - (((j + 1 : Nat)) : Int)).toNat = i + 1 - (j + 1) := by omega
      have et3 : min ((((i + 1 : Nat)) : Int)).toNat row.length - (j + 1) = i + 1 - (j + 1) := by omega
      have hs2 : ((row.take (i + 1)).drop (j + 1) = row.take (i + 1 - (j + 1))) ↔ List.take (min ((((i + 1 : Nat)) : Int)).toNat row.length - ((((j + 1 : Nat)) : Int)).toNat) (List.drop ((((j + 1 : Nat)) : Int)).toNat row) = List.take ((((i + 1 : Nat)) : Int) - (((j + 1 : Nat)) : Int)).toNat row := by
        rw [et1, et2, et3, List.drop_take]
      have hs3 : List.drop ((((j + 1 : Nat)) : Int)).toNat tw = List.take ((((i + 1 : Nat)) : Int) - (((j + 1 : Nat)) : Int)).toNat tw ↔ List.take (min ((((i + 1 : Nat)) : Int)).toNat row.length - ((((j + 1 : Nat)) : Int)).toNat) (List.drop ((((j + 1 : Nat)) : Int)).toNat row) = List.take ((((i + 1 : Nat)) : Int) - (((j + 1 : Nat)) : Int)).toNat row := by
        rw [← hs2, ← hs1, et1, et2]
      k_steps
      all_goals try (exfalso; first | exact absurd (hs3.mp (by assumption)) (by assumption) | exact absurd (hs3.mpr (by assumption)) (by assumption))
      all_goals (rename Fr _ _ _ _ => Fz)
      all_goals (rename News _ _ _ _ => Nz)
      all_goals try simp only [List.push_toArray] at Nz
      · -- both agree
        have he : (sh + 1 + (j : Int)).toNat = (sh + (((j + 1 : Nat)) : Int)).toNat := by congr 1; omega
        have he2 : (sh + 1 + (((j + 1 : Nat)) : Int)).toNat = (sh + (((j + 1 : Nat)) : Int)).toNat + 1 := by omega
        have hec : (((sh + (((j + 1 : Nat)) : Int)).toNat : Nat) : Int) = sh + (((j + 1 : Nat)) : Int) := by omega
        rw [he] at hNn
        have hE : ∀ e : Nat, ca * 2 ^ 44 + (Nn : Int) + 2 ^ e = ca * 2 ^ 44 + (((2 ^ e + Nn : Nat)) : Int) := by
          intro e; rw [Int.natCast_add, kbt_cast]; omega
        rw [hE] at Fz
        refine TurnEnd.intro2 (news' := [(pl, listOf (List.toArray (pvs ++ [.int (sh + (((j + 1 : Nat)) : Int)) _])) (kp + 1)), (twl, listOf twv.toArray ktw), (I, oI), (bl, listOf bvs.toArray kb), (rl, listOf rvs.toArray kr)]) Fz Nz (by k_mem) (by
          intro p hp
          simp only [List.mem_cons, List.not_mem_nil, or_false] at hp
          rcases hp with rfl | rfl | rfl | rfl | rfl <;> k_mem) (by
          intro p hp
          rcases List.mem_cons.mp hp with rfl | hp
          · exact (hneI2 (pl, listOf (List.toArray pvs) kp) (.head _) : pl ≠ I2)
          · exact hneI2 p (.tail _ hp)) ⟨rfl, rfl, rfl, rfl, rfl, rfl, rfl, 2 ^ (sh + (((j + 1 : Nat)) : Int)).toNat + Nn, _, _, _, rfl, rfl, ?_, ?_⟩
        · rw [bitsN_add hNn (by omega), List.map_append, List.map_cons, List.map_nil, hec]
          exact ints_snoc hpv
        · rw [he2, Nat.pow_succ]; omega
      · -- neither agrees
        exact TurnEnd.intro2 (news' := [(pl, listOf (List.toArray pvs) kp), (twl, listOf twv.toArray ktw), (I, oI), (bl, listOf bvs.toArray kb), (rl, listOf rvs.toArray kr)]) Fz Nz (by k_mem) (by
          intro p hp
          simp only [List.mem_cons, List.not_mem_nil, or_false] at hp
          rcases hp with rfl | rfl | rfl | rfl | rfl <;> k_mem) hneI2 ⟨rfl, rfl, rfl, rfl, rfl, rfl, rfl, Nn, _, pvs, kp, rfl, rfl, hpv, Nat.lt_of_lt_of_le hNn (Nat.pow_le_pow_right (by decide) (by omega))⟩
    · rintro m₂ news₂ h7 tk7 ⟨b1, b2, b3, b4, b5, b6, b7, Nn, tf, pvs, kp, b8, rfl, hpv, hNn⟩ F8 N8
      have F9 := put (Str.ofString "flags") _ (put (Str.ofString "places") _ (put (Str.ofString "twin") _ (put (Str.ofString "front") _ (put (Str.ofString "table") _ (put (Str.ofString "above") _ (put (Str.ofString "shift") _ (put (Str.ofString "row") _ F8 b1) b2) b3) b4) b5) b6) b7) b8
      clear F6 N6 R6 N7 F8 F3 N3
      have hN40 : Nn < 2 ^ 40 := Nat.lt_of_lt_of_le hNn (Nat.pow_le_pow_right (by decide) (by omega))
      have hfl : (ca * 2 ^ 44 + (Nn : Int)).natAbs < 2 ^ 60 := by omega
      have hpvl : pvs.length ≤ 40 := by
        rw [hpv.length, List.length_map]
        have := List.length_filter_le (fun k => Nn.testBit k) (List.range 40)
        rw [List.length_range] at this; exact this
      have hbnl : (bitsN Nn).length ≤ 100 := by rw [hpv.length, List.length_map] at hpvl; omega
      k_steps
      refine pf_spec (KX.keeps F9.keep) (T.keeps F9.keep) (by omega) (by omega) hh hfl ?_
      intro t3 h8 tk8 hext8
      have F10 := hext8.fr F9
      have N10 := hext8.news N8
      clear F9 N8
      rw [tell_flags ca Nn hN40]
      k_steps
      (rename Fr _ _ _ _ => F11); (rename News _ _ _ _ => N11)
      refine lw_spec (KX.keeps F11.keep) (T.keeps F11.keep) (by omega) (by omega) hh (N11 _ (.head _)).1 hpv hbnl (fun p hp => bitsN_lt hp) (by omega) ?_
      intro t4 h9 tk9 hext9
      have F12 := hext9.fr F11
      have N12 := hext9.news N11
      clear F11 N11
      have hself : (lwText (bitsN Nn) (ca * 2 ^ 44) != lwText (bitsN Nn) (ca * 2 ^ 44)) = false := by simp
      k_steps
      (rename Fr _ _ _ _ => F13); (rename News _ _ _ _ => N13); (rename IntsAre _ (List.take _ tw) => hI13)
      have etk : ((((i + 1 : Nat)) : Int) - ((lb ws (i + 1) : Nat) : Int)).toNat = i + 1 - lb ws (i + 1) := by omega
      rw [etk] at hI13
      refine pr_spec (KX.keeps F13.keep) (T.keeps F13.keep) (by omega) (by omega) hh (N13 _ (.head _)).1 hI13 (by rw [List.length_take]; omega) (by rw [List.length_take]; omega) ?_
      rw [hprim]
      intro h10 tk10 hext10
      have F14 := hext10.fr F13
      have N14 := hext10.news N13
      clear F13 N13
      k_steps
      (rename Fr _ _ _ _ => F15); (rename News _ _ _ _ => N15)
      refine ov_spec (KX.keeps F15.keep) (T.keeps F15.keep) (by omega) (by omega) hh (N15 (twl, _) (by k_mem)).1 (cmp_ints htw) (by omega) ?_
      intro ol ovs ko h11 tk11 hext11 hnone11 hget11 hoI
      have F16 := hext11.fr F15
      have N16 := hext11.newsCons F15 N15 hget11 hnone11
      clear F15 N15
      k_steps
      · (rename (((lb tw (i + 1) : Nat) : Int) ≠ _) => hx)
        rw [hlast] at hx
        exact absurd rfl hx
      · exact TurnEnd.intro2 (news' := [(bl, listOf bvs.toArray kb), (rl, listOf rvs.toArray kr)]) F16 N16 (by k_mem) (by
          intro p hp
          simp only [List.mem_cons, List.not_mem_nil, or_false] at hp
          rcases hp with rfl | rfl <;> k_mem) hneI ⟨rfl, rfl, rfl, rfl, rfl⟩
  · rintro m₁ news₁ h tk ⟨ha1, ha2, ha3, ha4, rfl⟩ F3 N3
    have F9 := put (Str.ofString "table") _ (put (Str.ofString "row") _ F3 ha1) ha4
    clear F2 N2 R2 F3
    have htbl : (tab ws).length = row.length := by rw [← hb.length]; exact hbl
    k_steps
    · unfold Halt
      refine lc_eval (cl := []) (fun v => false) (fun v y => True) (by with_unfolding_all rfl) (by decide) rfl (by decide) rfl ?_
      k_steps
      (rename Fr _ _ _ _ => F13); (rename News _ _ _ _ => N13)
      refine lcE_list (h₀ := h₀) (items := bvs.toArray) hh (News.isList N13 (by k_mem)) (by rw [List.size_toArray]; omega) F13 N13 ?_ ?_ ?_
      · intro i v hv m₃ C s₃ hm₃ F₃ N₃
        refine test_one ?_
        obtain ⟨x, tx, rfl, hx⟩ := hb.at i v (by simpa using hv)
        rw [map_at hm₃] at F₃
        clear F13 N13
        k_steps
        exact ⟨_, _, rfl, fun _ _ e => e⟩
      · intro i v hv hf
        exact absurd hf (by decide)
      · intro D3 k3 h3 tk3 ys hF3 F14 N14 hd3
        have hys : ys = [] := by
          have e : (bvs.toArray.toList.filter fun v => false) = [] := by simp
          rw [e] at hF3
          cases hF3; rfl
        subst hys
        clear F13 N13
        k_steps
        (rename Fr _ _ _ _ => Fz)
        exact fin _ _ _ Fz
    · rw [htbl, beq_self_eq_true]
      exact fin _ _ _ F9
end Mine
end

section
open PySem PySem.W PyProof.Rows PySem.Calls PySem.Spec
set_option maxRecDepth 100000
set_option autoImplicit false
namespace Mine
/-! pretty_flags' words tell the number -/
abbrev cl (x : Str) : List Nat := x.cps.toList
theorem cl_append (x y : Str) : cl (x ++ y) = cl x ++ cl y := by
  show (x ++ y).cps.toList = _
  rw [Str.cps_append, Array.toList_append]
theorem cl_inj {x y : Str} (h : cl x = cl y) : x = y := by
  cases x; cases y; congr 1; exact Array.toList_inj.mp h
theorem cl_ofString (x : String) : cl (Str.ofString x) = x.toList.map Char.toNat := by
  show (Str.ofString x).cps.toList = _
  rw [Str.ofString_eq_toList]

/-! a number's digits by 16 -/
def hv (c : Nat) : Nat := if c < 60 then c - 48 else c - 87
def hval (l : List Nat) : Nat := l.foldl (fun a c => 16 * a + hv c) 0
theorem hv_digit : ∀ d, d < 16 → hv (Nat.digitChar d).toNat = d ∧ (Nat.digitChar d).toNat ≠ 44 := by decide
theorem hval_digits (n : Nat) : hval ((Nat.toDigits 16 n).map Char.toNat) = n ∧ ∀ c ∈ (Nat.toDigits 16 n).map Char.toNat, c ≠ 44 := by
  induction n using Nat.strongRecOn with
  | _ n ih =>
    by_cases h : n < 16
    · rw [Nat.toDigits_of_lt_base h]
      obtain ⟨h1, h2⟩ := hv_digit n h
      refine ⟨?_, fun c hc => ?_⟩
      · simp [hval, h1]
      · rw [List.map_cons, List.map_nil, List.mem_singleton] at hc; rw [hc]; exact h2
    · rw [Nat.toDigits_of_base_le (by decide) (by omega)]
      obtain ⟨h1, h2⟩ := hv_digit (n % 16) (Nat.mod_lt _ (by decide))
      obtain ⟨i1, i2⟩ := ih (n / 16) (by omega)
      refine ⟨?_, fun c hc => ?_⟩
      · unfold hval at i1 ⊢
        rw [List.map_append, List.foldl_append, i1]
        simp [h1]; omega
      · rw [List.map_append] at hc
        rcases List.mem_append.mp hc with h' | h'
        · exact i2 c h'
        · rw [List.map_cons, List.map_nil, List.mem_singleton] at h'; rw [h']; exact h2

theorem cl_hexT (i : Int) : cl (hexT i) = (if i < 0 then [45] else []) ++ [48, 120] ++ (Nat.toDigits 16 i.natAbs).map Char.toNat := by
  unfold hexT baseText
  rw [cl_append, cl_append, cl_ofString, cl_ofString, cl_ofString]
  have e1 : List.map Char.toNat (String.toList "0x") = [48, 120] := by decide
  have e2 : List.map Char.toNat (String.toList "-") = [45] := by decide
  have e3 : List.map Char.toNat (String.toList "") = [] := by decide
  rw [e1, show (String.ofList (Nat.toDigits 16 i.natAbs)).toList = Nat.toDigits 16 i.natAbs from by simp]
  by_cases h : i < 0
  · rw [if_pos h, if_pos h, e2]
  · rw [if_neg h, if_neg h, e3]
/-- what a word says -/
def decL : List Nat → Int
  | 45 :: _ :: _ :: l => -(hval l : Int)
  | _ :: _ :: l => (hval l : Int)
  | _ => 0
def dec (x : Str) : Int := if x ∈ nameTab then 2 ^ nameTab.idxOf x else decL (cl x)
theorem hexT_no_name (i : Int) : hexT i ∉ nameTab := by
  intro h
  have hn : (nameTab.all fun x => decide (60 < (cl x).headD 0)) = true := by decide +kernel
  have := of_decide_eq_true (List.all_eq_true.mp hn _ h)
  rw [cl_hexT] at this
  by_cases hi : i < 0
  · rw [if_pos hi] at this
    have this : 60 < 45 := this
    omega
  · rw [if_neg hi] at this
    have this : 60 < 48 := this
    omega
theorem dec_hexT (i : Int) : dec (hexT i) = i := by
  unfold dec
  rw [if_neg (hexT_no_name i), cl_hexT]
  by_cases hi : i < 0
  · rw [if_pos hi]
    show -(hval ((Nat.toDigits 16 i.natAbs).map Char.toNat) : Int) = i
    rw [(hval_digits _).1]; omega
  · rw [if_neg hi]
    show (hval ((Nat.toDigits 16 i.natAbs).map Char.toNat) : Int) = i
    rw [(hval_digits _).1]; omega
theorem dec_flagWord (k : Nat) : dec (flagWord k) = 2 ^ k := by
  by_cases h : k < 10
  · have : ((List.range 10).all fun k => decide (dec (flagWord k) = 2 ^ k)) = true := by decide +kernel
    exact of_decide_eq_true (List.all_eq_true.mp this k (List.mem_range.mpr h))
  · unfold flagWord
    rw [List.getD_eq_getElem?_getD, List.getElem?_eq_none (by exact Nat.le_of_not_lt h)]
    exact dec_hexT _
theorem hexT_free (i : Int) : ∀ c ∈ cl (hexT i), c ≠ 44 := by
  intro c hc
  rw [cl_hexT] at hc
  rcases List.mem_append.mp hc with h | h
  · by_cases hi : i < 0
    · rw [if_pos hi] at h
      intro e; rw [e] at h; exact absurd h (by decide)
    · rw [if_neg hi] at h
      intro e; rw [e] at h; exact absurd h (by decide)
  · exact (hval_digits _).2 c h
theorem flagWord_free (k : Nat) : ∀ c ∈ cl (flagWord k), c ≠ 44 := by
  by_cases h : k < 10
  · have : ((List.range 10).all fun k => (cl (flagWord k)).all fun c => decide (c ≠ 44)) = true := by decide +kernel
    intro c hc
    exact of_decide_eq_true (List.all_eq_true.mp (List.all_eq_true.mp this k (List.mem_range.mpr h)) c hc)
  · unfold flagWord
    rw [List.getD_eq_getElem?_getD, List.getElem?_eq_none (by exact Nat.le_of_not_lt h)]
    exact hexT_free _
theorem pfWords_free (n : Int) : ∀ x ∈ pfWords n, ∀ c ∈ cl x, c ≠ 44 := by
  intro x hx
  unfold pfWords tellW at hx
  rcases List.mem_append.mp hx with h | h
  · obtain ⟨k, _, rfl⟩ := List.mem_map.mp h; exact flagWord_free k
  · split at h
    · rw [List.mem_singleton.mp h]; exact hexT_free _
    · cases h
theorem sum_snoc (l : List Int) (x : Int) : (l ++ [x]).sum = l.sum + x := by rw [List.sum_append]; simp
theorem bits_sum (n : Int) : ∀ i, ((bitsTo n i).map fun k => (2 : Int) ^ k).sum + n / 2 ^ i * 2 ^ i = n
  | 0 => by simp [bitsTo]
  | i + 1 => by
    have ih := bits_sum n i
    rw [cut_bit] at ih
    rw [bitsTo_succ]
    by_cases h : bitAt n i = true
    · rw [if_pos h] at ih ⊢
      rw [List.map_append, List.map_cons, List.map_nil, sum_snoc]; omega
    · rw [if_neg h] at ih ⊢
      rw [List.append_nil]; omega
theorem dec_sum (n : Int) : ((pfWords n).map dec).sum = n := by
  unfold pfWords tellW
  rw [List.map_append, List.map_map]
  have e : (bitsTo n 32).map (dec ∘ flagWord) = (bitsTo n 32).map fun k => (2 : Int) ^ k := by
    apply List.map_congr_left; intro k _; exact dec_flagWord k
  rw [e]
  have hs := bits_sum n 32
  by_cases h : n / 2 ^ 32 * 2 ^ 32 ≠ 0 ∨ bitsTo n 32 = []
  · rw [if_pos h, List.map_cons, List.map_nil, sum_snoc, dec_hexT]; exact hs
  · rw [if_neg h, List.map_nil, List.append_nil]
    have : n / 2 ^ 32 * 2 ^ 32 = 0 := Decidable.not_not.mp fun h1 => h (.inl h1)
    omega
theorem pfWords_ne (n : Int) : pfWords n ≠ [] := by
  intro h
  unfold pfWords tellW at h
  have h1 := List.append_eq_nil_iff.mp h
  have h2 := List.map_eq_nil_iff.mp h1.1
  have h3 := h1.2
  rw [if_pos (.inr h2)] at h3
  cases h3

/-! texts glued with a comma -/
theorem cut_at : ∀ (x y s t : List Nat), (∀ c ∈ x, c ≠ 44) → (∀ c ∈ y, c ≠ 44) → x ++ 44 :: s = y ++ 44 :: t → x = y ∧ s = t
  | [], [], _, _, _, _, h => ⟨rfl, (List.cons.inj h).2⟩
  | [], b :: y, _, _, _, hy, h => absurd (List.cons.inj h).1.symm (hy b (.head _))
  | a :: x, [], _, _, hx, _, h => absurd (List.cons.inj h).1 (hx a (.head _))
  | a :: x, b :: y, s, t, hx, hy, h => by
    obtain ⟨h1, h2⟩ := List.cons.inj h
    obtain ⟨h3, h4⟩ := cut_at x y s t (fun c hc => hx c (.tail _ hc)) (fun c hc => hy c (.tail _ hc)) h2
    exact ⟨by rw [h1, h3], h4⟩
theorem cl_join (x y : Str) (r : List Str) : cl (joinT (x :: y :: r)) = cl x ++ 44 :: 32 :: cl (joinT (y :: r)) := by
  show cl (x ++ Str.ofString ", " ++ joinT (y :: r)) = _
  rw [cl_append, cl_append, cl_ofString, List.append_assoc]
  rfl
theorem join_inj : ∀ (xs ys : List Str), (∀ x ∈ xs, ∀ c ∈ cl x, c ≠ 44) → (∀ x ∈ ys, ∀ c ∈ cl x, c ≠ 44) → xs ≠ [] → ys ≠ [] → cl (joinT xs) = cl (joinT ys) → xs = ys
  | [], _, _, _, h, _, _ => absurd rfl h
  | _ :: _, [], _, _, _, h, _ => absurd rfl h
  | [x], [y], _, _, _, _, h => by rw [cl_inj (x := x) (y := y) h]
  | [x], y :: z :: r, hx, _, _, _, h => by
    rw [cl_join] at h
    have : (44 : Nat) ∈ cl x := by
      have h' : cl x = _ := h
      rw [h']; exact List.mem_append.mpr (.inr (.head _))
    exact absurd rfl (hx x (.head _) 44 this)
  | x :: z :: r, [y], _, hy, _, _, h => by
    rw [cl_join] at h
    have : (44 : Nat) ∈ cl y := by
      have h' : _ = cl y := h
      rw [← h']; exact List.mem_append.mpr (.inr (.head _))
    exact absurd rfl (hy y (.head _) 44 this)
  | x :: z :: r, y :: u :: t, hx, hy, _, _, h => by
    rw [cl_join, cl_join] at h
    obtain ⟨h1, h2⟩ := cut_at _ _ _ _ (hx x (.head _)) (hy y (.head _)) h
    have h3 := join_inj (z :: r) (u :: t) (fun q hq => hx q (.tail _ hq)) (fun q hq => hy q (.tail _ hq)) (by simp) (by simp) (List.cons.inj h2).2
    rw [cl_inj h1, h3]
theorem pfText_inj {n m : Int} (h : pfText n = pfText m) : n = m := by
  have := join_inj _ _ (pfWords_free n) (pfWords_free m) (pfWords_ne n) (pfWords_ne m) (congrArg cl h)
  rw [← dec_sum n, ← dec_sum m, this]
theorem dotted_inj {n m : Int} (h : pfText n ++ Str.ofString "." = pfText m ++ Str.ofString ".") : n = m := by
  have h1 := congrArg cl h
  rw [cl_append, cl_append] at h1
  exact pfText_inj (cl_inj (List.append_cancel_right h1))
end Mine
end

section
open PySem PySem.W PyProof.Rows PySem.Calls PySem.Spec
set_option maxRecDepth 100000
set_option maxHeartbeats 4000000
set_option linter.unusedVariables false
namespace Mine
local macro_rules | `(tactic| walk_at "execs cons For cons") => `(tactic| (refine Halt.out ?_))
local macro_rules | `(tactic| walk_at "execs cons") => `(tactic| ((with_reducible show wpAny _ _ (execs (Stmt.For _ _ _ _ _ :: _) _) _ _ _); refine Halt.out ?_))
theorem lawT : PySem.Challenge.rw_rs0020_01.Holds := by
  refine hd ?_
  k_go0
  (all_goals try k_fold)
  (rename World => wd); (rename IntsAre _ _ => hI); (rename Top _ _ _ _ _ _ => T); (rename Frag.In _ _ => KX); (rename Heap.IsList _ _ _ => hL); (rename Below _ _ _ _ => K0); (rename PyData.layable0 _ = true => hlay); (rename (¬ _ < (List.length _ : Int)) => hmost)
  clear K0
  refine wpAny_mono (E := fun _ _ => False) ?_ (fun _ _ h => h) (fun _ _ h => h.elim)
  k_steps
  (rename Fr _ _ _ _ => F1); (rename News _ _ _ _ => N1)
  rename List Int => ns
  have hl63 : ns.length ≤ 63 := by omega
  have hbits : ∀ x ∈ ns, Builtin.Int.intBits x ≤ 1048576 := fun x hx => PyData.bits_item_of_ints hlay hx
  refine row_spec (ks := 0) (KX.keeps F1.keep) (T.keeps F1.keep) (by show callerA.depth + 1 + 2 < recursionLimit; decide) (by show callerA.units + 3 + 100 < cLine; decide) rfl (hL.at fun o e => F1.keep _ o e) hI hl63 hbits ?_
  intro rl rvs kr row h2 tk2 hext hnone hget hrow hr11 hrb
  have e1 := ne_new N1 hnone (.head _)
  have e2 := ne_new N1 hnone (.tail _ (.head _))
  have e3 := ne_new N1 hnone (.tail _ (.tail _ (.head _)))
  dsimp only at e1 e2 e3
  have F2 := hext.fr F1
  have N2 := hext.newsCons F1 N1 hget hnone
  clear F1 N1
  k_steps
  unfold Halt
  (rename Fr _ _ _ _ => F5); (rename News _ _ _ _ => N5)
  have hs28 : 0 ≤ ns.sum.fmod 28 ∧ ns.sum.fmod 28 < 28 := by
    rw [Int.fmod_eq_emod_of_nonneg _ (by decide)]
    exact ⟨Int.emod_nonneg _ (by decide), Int.emod_lt_of_pos _ (by decide)⟩
  have hs3 : 0 ≤ ns.sum.fmod 3 ∧ ns.sum.fmod 3 < 3 := by
    rw [Int.fmod_eq_emod_of_nonneg _ (by decide)]
    exact ⟨Int.emod_nonneg _ (by decide), Int.emod_lt_of_pos _ (by decide)⟩
  (rename (_ ∧ _ ∧ _ ∧ _ ∧ _) => hlt); obtain ⟨p1, -⟩ := hlt
  (rename (_ ∧ _ ∧ _ ∧ _) => hlt); obtain ⟨p2, p3, -⟩ := hlt
  show wpAny _ _ (execs (lawBody.drop 5) (lawEnv _ _ _)) _ _ _
  refine S5 KX T rfl (by show callerA.depth + 1 + 20 < recursionLimit; decide) (by show callerA.units + 3 + 1000 < cLine; decide) F5 rfl rfl rfl N5 (by assumption) (by assumption) (by assumption) p2 p1 p3 e1 e2 e3 hrow hr11 hrb ?_
  intro m5 h5 tk5 svs ks tvs kt on5 vn5 seen F6 g1 g2 g3 N6 hon5 hsv htv hsl hsub hback
  refine S6 KX T rfl (by show callerA.depth + 1 + 20 < recursionLimit; decide) (by show callerA.units + 3 + 1000 < cLine; decide) F6 g1 g2 g3 N6 (by assumption) (by assumption) hon5 p2 p1 p3 e1 e2 e3 hrow hr11 hrb hsv htv hsl hsub hback ?_
  intro m7 h7 tk7 bl bvs kb F7 i1 i2 i3 i4 N7 hne hbv
  refine S10 KX T rfl (by show callerA.depth + 1 + 30 < recursionLimit; decide) (by show callerA.units + 3 + 1000 < cLine; decide) F7 i1 i2 i3 i4 N7 hne hrow hr11 hbv (by simp [wordsOf']) (twins_of (g := fun n => pfText n ++ Str.ofString ".") (fun x _ y _ e => dotted_inj e) hr11) (by omega) ⟨ns.sum.fmod 3 - 1, rfl, by omega, by omega⟩ ?_
  intro h8 tk8 m8 F8
  clear F5 F6 F7 N5 N6 N7
  k_steps

end Mine
end

theorem PySem.Challenge.cw_rs0020_01_holds : PySem.Challenge.rw_rs0020_01.Holds :=
  Mine.lawT
